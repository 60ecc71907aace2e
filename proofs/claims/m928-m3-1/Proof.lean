import JvmDerived
import JvmDerived.Pilot.@@N@@Statement
import JvmDerived.Pilot.@@N@@Code
set_option linter.unusedVariables false
set_option linter.unusedSimpArgs false
namespace Jvm.Pilot.@@N@@
open Jvm Jvm.ClassFile Sem Op Lib Jvm.Free Jvm.Stand Jvm.LawKit Jvm.RoadKit Bundle Jvm.Pilot.@@N@@.Jvm.D
section Own
variable {p : Program} {l : Launch} {e : Env} {R : Room} {s : State} {m : MethodId} {args : Array Value} {below : List Frame} {meth : Method} {c : Code} {T : State} {locs : List Loc} {cells slots : Nat} {Z : State} {h h' : Heap} {a b : Addr} {k k' : ClassId} {ty : FieldType} {n : Int32}
/-- from the state S the run ends, and G holds of the end -/
def own_Go (tb : Tables) (e : Env) (below : List Frame) (G : State → Outcome → Prop) (S : State) : Prop := ∃ s₂ o, Steps tb e below S s₂ ∧ s₂.status = .running ∧ Ended s₂ below o ∧ G s₂ o
theorem own_of {tb : Tables} {G : State → Outcome → Prop} {S S' : State} (f : ∀ t, Steps tb e below S' t → Steps tb e below S t) (g : own_Go tb e below G S') : own_Go tb e below G S := by
  obtain ⟨x, y, h1, h2⟩ := g
  exact ⟨x, y, f x h1, h2⟩
theorem own_out {tb : Tables} {Q : State → Outcome → Prop} {S : State} (f : ∀ G : State → Outcome → Prop, (∀ s₂ o, Q s₂ o → G s₂ o) → own_Go tb e below G S) : ∃ s₂ o, Steps tb e below S s₂ ∧ s₂.status = .running ∧ Ended s₂ below o ∧ Q s₂ o := f Q fun _ _ q => q
theorem own_retI (X : Stand p l e R s m args below meth c T locs cells slots) (hx : p.tables.exec = Jvm.exec) {pc : Nat} {Ls : Array Slot} {z : Int32} {rest : List Value} (hret : meth.sig.returnType = some .int) (hd : decode c.code pc = .ok (.ireturn, 1)) {fs : List Frame}
    (hl : ∀ (f : JFrame) (acts : List Action), f.method = m → f.locked = none → f.entered = [] → (doReturn e (T.setTop f) acts (some (.int z))).1 = T.setFrames fs) : Steps p.tables e below (T.setTop (mkF m pc Ls (.int z :: rest))) (T.setFrames fs) :=
  retOut X hx hret rfl (Or.inl ⟨rfl, Or.inl rfl, z, rfl⟩) hd hl
theorem own_retL (X : Stand p l e R s m args below meth c T locs cells slots) (hx : p.tables.exec = Jvm.exec) {pc : Nat} {Ls : Array Slot} {z : Int64} {rest : List Value} (hret : meth.sig.returnType = some .long) (hd : decode c.code pc = .ok (.lreturn, 1)) {fs : List Frame}
    (hl : ∀ (f : JFrame) (acts : List Action), f.method = m → f.locked = none → f.entered = [] → (doReturn e (T.setTop f) acts (some (.long z))).1 = T.setFrames fs) : Steps p.tables e below (T.setTop (mkF m pc Ls (.long z :: rest))) (T.setFrames fs) :=
  retOut X hx hret rfl (Or.inr (Or.inl ⟨rfl, rfl, z, rfl⟩)) hd hl
theorem own_retA (X : Stand p l e R s m args below meth c T locs cells slots) (hx : p.tables.exec = Jvm.exec) {pc : Nat} {Ls : Array Slot} {z : Addr} {C : String} {rest : List Value} (hret : meth.sig.returnType = some (.object C)) (hd : decode c.code pc = .ok (.areturn, 1)) {fs : List Frame}
    (hl : ∀ (f : JFrame) (acts : List Action), f.method = m → f.locked = none → f.entered = [] → (doReturn e (T.setTop f) acts (some (.ref z))).1 = T.setFrames fs) : Steps p.tables e below (T.setTop (mkF m pc Ls (.ref z :: rest))) (T.setFrames fs) :=
  retOut X hx hret rfl (Or.inr (Or.inr (Or.inr (Or.inr ⟨rfl, rfl, rfl⟩)))) hd hl
/-- an array of ints (or bytes) at a, whole: its class, element type, length and values -/
def own_AI (Z : State) (h : Heap) (a : Addr) (k : ClassId) (ty : FieldType) (n : Int32) (xs : List Int32) : Prop := Arv Z h a k ty n (xs.map Value.int) (.int 0) ∧ xs.length = n.toNatClampNeg
theorem own_AI.ext {xs : List Int32} (F : own_AI Z h a k ty n xs) (E : Ext h h') : own_AI Z h' a k ty n xs := ⟨F.1.ext E, F.2⟩
theorem own_AI.other {xs : List Int32} {sl : Nat} {v : Value} (F : own_AI Z h b k ty n xs) (W : Wr h h' a sl v) (q : b ≠ a) : own_AI Z h' b k ty n xs := ⟨F.1.other W q, F.2⟩
theorem own_AI.keep {xs : List Int32} {ws : List Addr} (F : own_AI Z h a k ty n xs) (K : Keep h h' ws) (q : a ∉ ws) : own_AI Z h' a k ty n xs := ⟨F.1.keep K q, F.2⟩
theorem own_AI.lt {xs : List Int32} (F : own_AI Z h a k ty n xs) : a < h.size := F.1.lt
def own_AJ (Z : State) (h : Heap) (a : Addr) (k : ClassId) (n : Int32) (xs : List Int64) : Prop := Arv Z h a k .long n (xs.map Value.long) (.long 0) ∧ xs.length = n.toNatClampNeg
theorem own_AJ.ext {xs : List Int64} (F : own_AJ Z h a k n xs) (E : Ext h h') : own_AJ Z h' a k n xs := ⟨F.1.ext E, F.2⟩
theorem own_AJ.other {xs : List Int64} {sl : Nat} {v : Value} (F : own_AJ Z h b k n xs) (W : Wr h h' a sl v) (q : b ≠ a) : own_AJ Z h' b k n xs := ⟨F.1.other W q, F.2⟩
theorem own_AJ.keep {xs : List Int64} {ws : List Addr} (F : own_AJ Z h a k n xs) (K : Keep h h' ws) (q : a ∉ ws) : own_AJ Z h' a k n xs := ⟨F.1.keep K q, F.2⟩
theorem own_AJ.lt {xs : List Int64} (F : own_AJ Z h a k n xs) : a < h.size := F.1.lt
theorem own_ltn {j n : Int32} (q : ¬ j < 0 ∧ j < n) : j.toNatClampNeg < n.toNatClampNeg := by
  obtain ⟨q1, q2⟩ := q
  rw [Int32.lt_iff_toInt_lt] at q1 q2
  have e0 : (0 : Int32).toInt = 0 := rfl
  simp only [Int32.toNatClampNeg]; omega
theorem own_newI (A : Arr Z h a (newA k ty n) ty) (q : ¬ n < 0) (cnt : Nat) (hc : n.toNatClampNeg = cnt) (hd : defaultValue ty = .int 0) : own_AI Z h a k ty n (List.replicate cnt 0) := by
  have F := Arv.new A q
  rw [hd] at F
  exact ⟨by rw [List.map_replicate]; exact F.pad (pad_rep [] (.int 0) cnt), by rw [List.length_replicate, hc]⟩
theorem own_newJ (A : Arr Z h a (newA k .long n) .long) (q : ¬ n < 0) (cnt : Nat) (hc : n.toNatClampNeg = cnt) : own_AJ Z h a k n (List.replicate cnt 0) := by
  have F := Arv.new A q
  exact ⟨by rw [List.map_replicate]; exact F.pad (pad_rep [] (.long 0) cnt), by rw [List.length_replicate, hc]⟩
theorem own_stI (X : Stand p l e R s m args below meth c T locs cells slots) (hx : p.tables.exec = Jvm.exec) (hZ : Z.Warmed39 s.vm) (eT : T.heap = h) {xs : List Int32} (F : own_AI Z h a k .int n xs) {j x : Int32} (q : ¬ j < 0 ∧ j < n) {g : JFrame} (hg : g.method = m) {rest : List Value} (hs : g.stack = .int x :: .int j :: .ref a :: rest) (hd : decode c.code g.pc = .ok (.iastore, 1)) :
    ∃ T' h', Stand p l e R s m args below meth c T' (locs ++ [⟨a, j.toNatClampNeg⟩]) cells slots ∧ T'.heap = h' ∧ Wr h h' a j.toNatClampNeg (.int x) ∧ own_AI Z h' a k .int n (xs.set j.toNatClampNeg x) ∧ ∀ target, Steps p.tables e below (T'.setTop { g with pc := g.pc + 1, stack := rest }) target → Steps p.tables e below (T.setTop g) target := by
  obtain ⟨⟨cl, A, q1, S, q3, H, G⟩, hl⟩ := F
  obtain ⟨T', h', X', e', W, st⟩ := stI X hx hZ eT A (inb_of S q) hg hs hd
  refine ⟨T', h', X', e', W, ⟨?_, by rw [List.length_set]; exact hl⟩, st⟩
  rw [List.map_set]
  exact Arv.set A q1 S q3 H G rfl W _ rfl (by rw [List.length_map, hl]; exact own_ltn q)
theorem own_stB (X : Stand p l e R s m args below meth c T locs cells slots) (hx : p.tables.exec = Jvm.exec) (hZ : Z.Warmed39 s.vm) (eT : T.heap = h) {xs : List Int32} (F : own_AI Z h a k .byte n xs) {j x : Int32} (q : ¬ j < 0 ∧ j < n) {g : JFrame} (hg : g.method = m) {rest : List Value} (hs : g.stack = .int x :: .int j :: .ref a :: rest) (hd : decode c.code g.pc = .ok (.bastore, 1)) :
    ∃ T' h', Stand p l e R s m args below meth c T' (locs ++ [⟨a, j.toNatClampNeg⟩]) cells slots ∧ T'.heap = h' ∧ Wr h h' a j.toNatClampNeg (.int x.toInt8.toInt32) ∧ own_AI Z h' a k .byte n (xs.set j.toNatClampNeg x.toInt8.toInt32) ∧ ∀ target, Steps p.tables e below (T'.setTop { g with pc := g.pc + 1, stack := rest }) target → Steps p.tables e below (T.setTop g) target := by
  obtain ⟨⟨cl, A, q1, S, q3, H, G⟩, hl⟩ := F
  obtain ⟨T', h', X', e', W, st⟩ := stB X hx hZ eT A (inb_of S q) hg hs hd
  refine ⟨T', h', X', e', W, ⟨?_, by rw [List.length_set]; exact hl⟩, st⟩
  rw [List.map_set]
  exact Arv.set A q1 S q3 H G (fits_nar_byte _) W _ rfl (by rw [List.length_map, hl]; exact own_ltn q)
theorem own_stJ (X : Stand p l e R s m args below meth c T locs cells slots) (hx : p.tables.exec = Jvm.exec) (hZ : Z.Warmed39 s.vm) (eT : T.heap = h) {xs : List Int64} (F : own_AJ Z h a k n xs) {j : Int32} {x : Int64} (q : ¬ j < 0 ∧ j < n) {g : JFrame} (hg : g.method = m) {rest : List Value} (hs : g.stack = .long x :: .int j :: .ref a :: rest) (hd : decode c.code g.pc = .ok (.lastore, 1)) :
    ∃ T' h', Stand p l e R s m args below meth c T' (locs ++ [⟨a, j.toNatClampNeg⟩]) cells slots ∧ T'.heap = h' ∧ Wr h h' a j.toNatClampNeg (.long x) ∧ own_AJ Z h' a k n (xs.set j.toNatClampNeg x) ∧ ∀ target, Steps p.tables e below (T'.setTop { g with pc := g.pc + 1, stack := rest }) target → Steps p.tables e below (T.setTop g) target := by
  obtain ⟨⟨cl, A, q1, S, q3, H, G⟩, hl⟩ := F
  obtain ⟨T', h', X', e', W, st⟩ := stJ X hx hZ eT A (inb_of S q) hg hs hd
  refine ⟨T', h', X', e', W, ⟨?_, by rw [List.length_set]; exact hl⟩, st⟩
  rw [List.map_set]
  exact Arv.set A q1 S q3 H G rfl W _ rfl (by rw [List.length_map, hl]; exact own_ltn q)
theorem own_getI (xs : List Int32) (i : Nat) : (xs.map Value.int).getD i (.int 0) = .int (xs.getD i 0) := by
  simp only [List.getD_eq_getElem?_getD, List.getElem?_map]
  cases xs[i]? <;> rfl
theorem own_getJ (xs : List Int64) (i : Nat) : (xs.map Value.long).getD i (.long 0) = .long (xs.getD i 0) := by
  simp only [List.getD_eq_getElem?_getD, List.getElem?_map]
  cases xs[i]? <;> rfl
theorem own_ldI (X : Stand p l e R s m args below meth c T locs cells slots) (hx : p.tables.exec = Jvm.exec) (hZ : Z.Warmed39 s.vm) (eT : T.heap = h) {xs : List Int32} (F : own_AI Z h a k .int n xs) {j : Int32} (q : ¬ j < 0 ∧ j < n) {g : JFrame} (hg : g.method = m) {rest : List Value} (hs : g.stack = .int j :: .ref a :: rest) (hd : decode c.code g.pc = .ok (.iaload, 1)) :
    ∀ target, Steps p.tables e below (T.setTop { g with pc := g.pc + 1, stack := .int (xs.getD j.toNatClampNeg 0) :: rest }) target → Steps p.tables e below (T.setTop g) target := by
  obtain ⟨⟨cl, A, q1, S, q3, H, G⟩, hl⟩ := F
  intro target hr
  exact X.iaload hx (by rw [eT]; exact A.1) (State.isArrayOf_alike hZ.alike A.2.1) A.2.2 (inb_of S q) (H.at (inb_of S q) (own_getI xs _)) hg hs hd target hr
theorem own_ldB (X : Stand p l e R s m args below meth c T locs cells slots) (hx : p.tables.exec = Jvm.exec) (hZ : Z.Warmed39 s.vm) (eT : T.heap = h) {xs : List Int32} (F : own_AI Z h a k .byte n xs) {j : Int32} (q : ¬ j < 0 ∧ j < n) {g : JFrame} (hg : g.method = m) {rest : List Value} (hs : g.stack = .int j :: .ref a :: rest) (hd : decode c.code g.pc = .ok (.baload, 1)) :
    ∀ target, Steps p.tables e below (T.setTop { g with pc := g.pc + 1, stack := .int (xs.getD j.toNatClampNeg 0) :: rest }) target → Steps p.tables e below (T.setTop g) target := by
  obtain ⟨⟨cl, A, q1, S, q3, H, G⟩, hl⟩ := F
  intro target hr
  exact X.baloadBytes hx (by rw [eT]; exact A.1) (State.isArrayOf_alike hZ.alike A.2.1) A.2.2 (inb_of S q) (H.at (inb_of S q) (own_getI xs _)) hg hs hd target hr
theorem own_ldJ (X : Stand p l e R s m args below meth c T locs cells slots) (hx : p.tables.exec = Jvm.exec) (hZ : Z.Warmed39 s.vm) (eT : T.heap = h) {xs : List Int64} (F : own_AJ Z h a k n xs) {j : Int32} (q : ¬ j < 0 ∧ j < n) {g : JFrame} (hg : g.method = m) {rest : List Value} (hs : g.stack = .int j :: .ref a :: rest) (hd : decode c.code g.pc = .ok (.laload, 1)) :
    ∀ target, Steps p.tables e below (T.setTop { g with pc := g.pc + 1, stack := .long (xs.getD j.toNatClampNeg 0) :: rest }) target → Steps p.tables e below (T.setTop g) target := by
  obtain ⟨⟨cl, A, q1, S, q3, H, G⟩, hl⟩ := F
  intro target hr
  exact X.laload hx (by rw [eT]; exact A.1) (State.isArrayOf_alike hZ.alike A.2.1) A.2.2 (inb_of S q) (H.at (inb_of S q) (own_getJ xs _)) hg hs hd target hr
theorem own_lenJ (X : Stand p l e R s m args below meth c T locs cells slots) (hx : p.tables.exec = Jvm.exec) (hZ : Z.Warmed39 s.vm) (eT : T.heap = h) {xs : List Int64} (F : own_AJ Z h a k n xs) {g : JFrame} (hg : g.method = m) {rest : List Value} (hs : g.stack = .ref a :: rest) (hd : decode c.code g.pc = .ok (.arraylength, 1)) :
    ∀ target, Steps p.tables e below (T.setTop { g with pc := g.pc + 1, stack := .int n :: rest }) target → Steps p.tables e below (T.setTop g) target := by
  obtain ⟨⟨cl, A, q1, S, q3, H, G⟩, hl⟩ := F
  intro target hr
  refine X.arraylength hx (by rw [eT]; exact A.1) (State.isArrayOf_alike hZ.alike A.2.1) hg hs hd target ?_
  rw [len_of S q3]; exact hr
theorem own_rng {α : Type} (d : α) (xs : List α) (n : Nat) (hn : xs.length = n) : (List.range n).map (fun i => xs.getD (0 + i) d) = xs := by
  subst hn
  apply List.ext_getElem?
  intro i
  simp only [List.getElem?_map, List.getD_eq_getElem?_getD, Nat.zero_add]
  by_cases q : i < xs.length
  · simp [List.getElem?_range q, List.getElem?_eq_getElem q]
  · have q' : xs.length ≤ i := Nat.le_of_not_lt q
    rw [List.getElem?_eq_none (by simpa using q'), List.getElem?_eq_none q']; rfl
theorem own_cpJ (X : Stand p l e R s m args below meth c T locs cells slots) (hx : p.tables.exec = Jvm.exec) (hZ : Z.Warmed39 s.vm) {a0 : Array Value} {own : String} {index : Nat} (hown : s.vm.findClass own = some m.cls)
    (w1 : (Cond.methodLink own index Jvm.Stand.acN).before a0 Z = true) (w2 : (Cond.native Jvm.Stand.acN).before a0 Z = true) (w3 : (Cond.static Jvm.Stand.acN).before a0 Z = true) (w4 : (Cond.initialized "java/lang/System").before a0 Z = true) (eT : T.heap = h)
    {xs ys : List Int64} (A : own_AJ Z h a k n xs) (B : own_AJ Z h b k' n ys) (h3 : ¬ n < 0) (h4 : (0 : Int32).toNatClampNeg = 0) {n0 : Nat} (N : Fr n0 locs) (ge : n0 ≤ b)
    {g : JFrame} (hg : g.method = m) (hsize : g.locals.size = c.maxLocals) {rest : List Value} (hs : g.stack = .int n :: .int 0 :: .ref b :: .int 0 :: .ref a :: rest) (hd : decode c.code g.pc = .ok (.invokestatic index, 3))
    (hf : 1 ≤ R.frames) {W : Nat} (hW : 2 * g.monitorRoom + (rest.map fun v => v.category).sum ≤ W) (hlo : W + (nativeFrameWords "java/lang/System" "arraycopy" 5 + 11) ≤ R.locals) :
    ∃ T' h' L, Stand p l e R s m args below meth c T' L cells slots ∧ T'.heap = h' ∧ Fr n0 L ∧ Keep h h' [b] ∧ own_AJ Z h' b k' n xs ∧
      ∀ target, Steps p.tables e below (T'.setTop { g with pc := g.pc + 3, stack := rest }) target → Steps p.tables e below (T.setTop g) target := by
  obtain ⟨A, la⟩ := A
  obtain ⟨B, lb⟩ := B
  obtain ⟨T', h', L, X', e', N', K', V', st⟩ := cpA X hx hZ hown w1 w2 w3 w4 eT A B (Or.inl ⟨rfl, rfl⟩) (sp := 0) (dp := 0) (nn := n) (by decide) (by decide) h3 (by rw [h4]; omega) (by rw [h4]; omega) rfl (by rw [h4, List.length_map, lb]; omega) N ge hg hsize hs hd hf hW hlo
  refine ⟨T', h', L, X', e', N', K', ⟨?_, la⟩, st⟩
  rw [h4] at V'
  rw [own_rng (.long 0) (xs.map Value.long) _ (by rw [List.length_map, la])] at V'
  have q : List.drop (0 + n.toNatClampNeg) (ys.map Value.long) = [] := by rw [List.drop_eq_nil_iff, List.length_map, lb]; omega
  rw [q] at V'
  simpa using V'
end Own
theorem own_pd0 : parseMethodDescriptor "([J)V" = some ⟨[(.array .long)], none⟩ := by decide +kernel
theorem own_pd1 : parseMethodDescriptor "(Lio/bucketry/Ed25519$Element;)Lio/bucketry/Ed25519$Element;" = some ⟨[(.object "io/bucketry/Ed25519$Element")], some (.object "io/bucketry/Ed25519$Element")⟩ := by decide +kernel
theorem own_pd2 : parseMethodDescriptor "([JJJJJJJ)Z" = some ⟨[(.array .long), .long, .long, .long, .long, .long, .long], some .boolean⟩ := by decide +kernel
theorem own_d1_0 : decode prog_25_method_2_code 0 = .ok (.aload_n 0, 1) := by decide +kernel
theorem own_d1_1 : decode prog_25_method_2_code 1 = .ok (.invokespecial 9, 3) := by decide +kernel
theorem own_d1_4 : decode prog_25_method_2_code 4 = .ok (.aload_n 0, 1) := by decide +kernel
theorem own_d1_5 : decode prog_25_method_2_code 5 = .ok (.aload_n 1, 1) := by decide +kernel
theorem own_d1_6 : decode prog_25_method_2_code 6 = .ok (.putfield 14, 3) := by decide +kernel
theorem own_d1_9 : decode prog_25_method_2_code 9 = .ok (.return_, 1) := by decide +kernel
abbrev own_room1 : Room := { frames := 1, cells := 0, slots := 0, locals := 12 }
theorem own_pn1 : plainName "io/bucketry/Ed25519$Element" = true := by first | (simp [plainName, overriddenIn]; done) | decide +kernel
theorem own_ef1 (m : MethodId) (a0 : Addr) (ar : Addr) : entryFrame m #[(.ref a0), (.ref ar)] 2 = mkF m 0 #[.val (.ref a0), .val (.ref ar)] [] := by first | (simp [entryFrame, mkF, argsToLocals, Value.category]; done) | rfl
def own_Q1 (Z : State) (a0 : Addr) (ar : Addr) (h0 : Heap) (n0 : Nat) (v : Option Value) (h : Heap) (L : List Loc) : Prop := v = none ∧ Fr n0 L ∧ Keep h0 h [a0] ∧ Exa Z h a0 "io/bucketry/Ed25519$Element" ∧ Fld Z h a0 "io/bucketry/Ed25519$Element" "limbs" "[J" (.ref ar)
set_option maxRecDepth 65536 in
set_option maxHeartbeats 40000000 in
theorem own_rm1 (l : Launch) (Z : State) (a0 : Array Value) (hw : ∀ d ∈ tables_1, d.before a0 Z = true) (ws : List Jvm.Cond) (a0 : Addr) (ar : Addr) (h0 : Heap) (n0 : Nat) (F0 : Exa Z h0 a0 "io/bucketry/Ed25519$Element") (F1 : Fld Z h0 a0 "io/bucketry/Ed25519$Element" "limbs" "[J" .null) (g_a0 : n0 ≤ a0) :
    MetFree l (⟨"io/bucketry/Ed25519$Element", "<init>", "([J)V"⟩ : MethodName) (head1 (Jvm.Cond.code (⟨"io/bucketry/Ed25519$Element", "<init>", "([J)V"⟩ : MethodName) prog_25_method_2_code 2 none :: ws) (own_room1 : Room)) (fun a U => a = #[(.ref a0), (.ref ar)] ∧ Z.Warmed39 U.vm ∧ U.heap = h0) (fun _ _ _ _ _ => True) (fun _ U o U' => ∃ v L, o = .returned v ∧ own_Q1 Z a0 ar h0 n0 v U'.heap L ∧ FrameEnd U o U' L (own_room1 : Room).cells (own_room1 : Room).slots) := by
  refine MetFree.of_bodySF (plainFor_of_name own_pn1) hisR ?_
  intro p e s m args below meth c s₁ Bd hml0 hP hK
  obtain ⟨rfl, hZ, hh⟩ := hP
  have hx := Bd.exec
  have hby := Bd.bytes
  have hml : c.maxLocals = 2 := hml0
  have hown : s.vm.findClass "io/bucketry/Ed25519$Element" = some m.cls := findClass_of_methodNamed Bd.named
  have hnm := (name_of_methodNamed Bd.named Bd.method).1
  have X0 : Stand p l e (own_room1 : Room) s m #[(.ref a0), (.ref ar)] below meth c s₁ [] 0 0 := Stand.of_body Bd
  have e0 : s₁.heap = h0 := by rw [← hh, Bd.state]; rfl
  have N0 := Fr.nil n0
  have K0 := Keep.refl h0 [a0]
  refine own_out fun G hG => ?_
  rw [own_ef1 m a0 ar]
  show own_Go p.tables e below G (s₁.setTop (mkF m 0 #[.val (.ref a0), .val (.ref ar)] []))
  refine own_of (S' := s₁.setTop (mkF m 1 #[.val (.ref a0), .val (.ref ar)] [(.ref a0)])) (fun t k => XS.aloadN X0.here hx rfl (hb hby own_d1_0) rfl rfl k) ?_
  obtain ⟨T1, X1, e1, st1⟩ := initO X0 hx hZ hown (hw _ (List.mem_of_getElem? (i := 8) rfl)) (hw _ (List.mem_of_getElem? (i := 9) rfl)) (hw _ (List.mem_of_getElem? (i := 10) rfl)) e0 (g := (mkF m 1 #[.val (.ref a0), .val (.ref ar)] [(.ref a0)])) rfl (by rw [hml]; rfl) rfl (hb hby own_d1_1) (by decide) (W := 0) (by show 2 * 0 + _ ≤ _; exact Nat.le_of_eq rfl) (by decide)
  refine own_of (S' := T1.setTop (mkF m 4 #[.val (.ref a0), .val (.ref ar)] [])) st1 ?_
  refine own_of (S' := T1.setTop (mkF m 5 #[.val (.ref a0), .val (.ref ar)] [(.ref a0)])) (fun t k => XS.aloadN X1.here hx rfl (hb hby own_d1_4) rfl rfl k) ?_
  refine own_of (S' := T1.setTop (mkF m 6 #[.val (.ref a0), .val (.ref ar)] [(.ref ar), (.ref a0)])) (fun t k => XS.aloadN X1.here hx rfl (hb hby own_d1_5) rfl rfl k) ?_
  obtain ⟨T2, h2, X2, e2, W2, st2⟩ := putF X1 hx hZ hown (host := "") (Or.inl (hw _ (List.mem_of_getElem? (i := 11) rfl))) Via.refl e1 F1 F0 (Or.inr ⟨(hw _ (List.mem_of_getElem? (i := 12) rfl)), rfl, hnm⟩) (hw _ (List.mem_of_getElem? (i := 3) rfl)) (ty := (.array .long)) (by decide) rfl rfl (g := (mkF m 6 #[.val (.ref a0), .val (.ref ar)] [(.ref ar), (.ref a0)])) rfl rfl (hb hby own_d1_6)
  have f3 : Fld Z h2 a0 "io/bucketry/Ed25519$Element" "limbs" "[J" (.ref ar) := F1.same W2
  have f4 : Exa Z h2 a0 "io/bucketry/Ed25519$Element" := (F0.wr W2)
  have N2 := Fr.snoc X2 N0 g_a0
  have kk5 : Keep h0 h2 [a0] := K0.wr W2 (Or.inl (List.mem_of_getElem? (i := 0) rfl))
  refine own_of (S' := T2.setTop (mkF m 9 #[.val (.ref a0), .val (.ref ar)] [])) st2 ?_
  obtain ⟨fs, hr, hrun, hended, hW, hsame⟩ := X2.leave (v := none) (fun _ => rfl)
  refine ⟨_, _, X2.returnOut hx Bd.returns (hb hby own_d1_9) hr, hrun, hended, hG _ _ ⟨_, _, rfl, ?_, ⟨_, rfl⟩, hW, hsame.mono (by decide) (by decide)⟩⟩
  show own_Q1 Z a0 ar h0 n0 _ T2.heap _
  rw [e2]
  exact ⟨rfl, N2, kk5, f4, f3⟩
theorem own_d2_0 : decode prog_25_method_5_code 0 = .ok (.aload_n 1, 1) := by decide +kernel
theorem own_d2_1 : decode prog_25_method_5_code 1 = .ok (.getfield 14, 3) := by decide +kernel
theorem own_d2_4 : decode prog_25_method_5_code 4 = .ok (.iconst 0, 1) := by decide +kernel
theorem own_d2_5 : decode prog_25_method_5_code 5 = .ok (.aload_n 0, 1) := by decide +kernel
theorem own_d2_6 : decode prog_25_method_5_code 6 = .ok (.getfield 14, 3) := by decide +kernel
theorem own_d2_9 : decode prog_25_method_5_code 9 = .ok (.iconst 0, 1) := by decide +kernel
theorem own_d2_10 : decode prog_25_method_5_code 10 = .ok (.bipush 10, 2) := by decide +kernel
theorem own_d2_12 : decode prog_25_method_5_code 12 = .ok (.invokestatic 45, 3) := by decide +kernel
theorem own_d2_15 : decode prog_25_method_5_code 15 = .ok (.aload_n 0, 1) := by decide +kernel
theorem own_d2_16 : decode prog_25_method_5_code 16 = .ok (.areturn, 1) := by decide +kernel
abbrev own_room2 : Room := { frames := 1, cells := 0, slots := 0, locals := 40 }
theorem own_pn2 : plainName "io/bucketry/Ed25519$Element" = true := by first | (simp [plainName, overriddenIn]; done) | decide +kernel
theorem own_ef2 (m : MethodId) (a0 : Addr) (a1 : Addr) : entryFrame m #[(.ref a0), (.ref a1)] 2 = mkF m 0 #[.val (.ref a0), .val (.ref a1)] [] := by first | (simp [entryFrame, mkF, argsToLocals, Value.category]; done) | rfl
def own_Q2 (Z : State) (a0 : Addr) (a1 : Addr) (da : Addr) (sa : Addr) (kd : ClassId) (ks : ClassId) (ys : List Int64) (xs : List Int64) (h0 : Heap) (n0 : Nat) (v : Option Value) (h : Heap) (L : List Loc) : Prop := v = some (.ref a0) ∧ Fr n0 L ∧ Keep h0 h [da] ∧ own_AJ Z h da kd (10 : Int32) xs
set_option maxRecDepth 65536 in
set_option maxHeartbeats 40000000 in
theorem own_rm2 (l : Launch) (Z : State) (a0 : Array Value) (hw : ∀ d ∈ tables_1, d.before a0 Z = true) (ws : List Jvm.Cond) (a0 : Addr) (a1 : Addr) (da : Addr) (sa : Addr) (kd : ClassId) (ks : ClassId) (ys : List Int64) (xs : List Int64) (h0 : Heap) (n0 : Nat) (F0 : Fld Z h0 a0 "io/bucketry/Ed25519$Element" "limbs" "[J" (.ref da)) (F1 : Fld Z h0 a1 "io/bucketry/Ed25519$Element" "limbs" "[J" (.ref sa)) (F2 : own_AJ Z h0 da kd (10 : Int32) ys) (F3 : own_AJ Z h0 sa ks (10 : Int32) xs) (g_da : n0 ≤ da) :
    MetFree l (⟨"io/bucketry/Ed25519$Element", "set", "(Lio/bucketry/Ed25519$Element;)Lio/bucketry/Ed25519$Element;"⟩ : MethodName) (head1 (Jvm.Cond.code (⟨"io/bucketry/Ed25519$Element", "set", "(Lio/bucketry/Ed25519$Element;)Lio/bucketry/Ed25519$Element;"⟩ : MethodName) prog_25_method_5_code 2 (some (.object "io/bucketry/Ed25519$Element")) :: ws) (own_room2 : Room)) (fun a U => a = #[(.ref a0), (.ref a1)] ∧ Z.Warmed39 U.vm ∧ U.heap = h0) (fun _ _ _ _ _ => True) (fun _ U o U' => ∃ v L, o = .returned v ∧ own_Q2 Z a0 a1 da sa kd ks ys xs h0 n0 v U'.heap L ∧ FrameEnd U o U' L (own_room2 : Room).cells (own_room2 : Room).slots) := by
  refine MetFree.of_bodySF (plainFor_of_name own_pn2) hisR ?_
  intro p e s m args below meth c s₁ Bd hml0 hP hK
  obtain ⟨rfl, hZ, hh⟩ := hP
  have hx := Bd.exec
  have hby := Bd.bytes
  have hml : c.maxLocals = 2 := hml0
  have hown : s.vm.findClass "io/bucketry/Ed25519$Element" = some m.cls := findClass_of_methodNamed Bd.named
  have hnm := (name_of_methodNamed Bd.named Bd.method).1
  have X0 : Stand p l e (own_room2 : Room) s m #[(.ref a0), (.ref a1)] below meth c s₁ [] 0 0 := Stand.of_body Bd
  have e0 : s₁.heap = h0 := by rw [← hh, Bd.state]; rfl
  have N0 := Fr.nil n0
  have K0 := Keep.refl h0 [da]
  refine own_out fun G hG => ?_
  rw [own_ef2 m a0 a1]
  show own_Go p.tables e below G (s₁.setTop (mkF m 0 #[.val (.ref a0), .val (.ref a1)] []))
  refine own_of (S' := s₁.setTop (mkF m 1 #[.val (.ref a0), .val (.ref a1)] [(.ref a1)])) (fun t k => XS.aloadN X0.here hx rfl (hb hby own_d2_0) rfl rfl k) ?_
  obtain ⟨T6, X6, e6, st6⟩ := getF X0 hx hZ hown (host := "") (Or.inl (hw _ (List.mem_of_getElem? (i := 11) rfl))) Via.refl e0 F1 (g := (mkF m 1 #[.val (.ref a0), .val (.ref a1)] [(.ref a1)])) rfl rfl (hb hby own_d2_1)
  refine own_of (S' := T6.setTop (mkF m 4 #[.val (.ref a0), .val (.ref a1)] [(.ref sa)])) st6 ?_
  refine own_of (S' := T6.setTop (mkF m 5 #[.val (.ref a0), .val (.ref a1)] [(.int (0 : Int32)), (.ref sa)])) (fun t k => XS.iconst X6.here hx rfl (hb hby own_d2_4) k) ?_
  refine own_of (S' := T6.setTop (mkF m 6 #[.val (.ref a0), .val (.ref a1)] [(.ref a0), (.int (0 : Int32)), (.ref sa)])) (fun t k => XS.aloadN X6.here hx rfl (hb hby own_d2_5) rfl rfl k) ?_
  obtain ⟨T7, X7, e7, st7⟩ := getF X6 hx hZ hown (host := "") (Or.inl (hw _ (List.mem_of_getElem? (i := 11) rfl))) Via.refl e6 F0 (g := (mkF m 6 #[.val (.ref a0), .val (.ref a1)] [(.ref a0), (.int (0 : Int32)), (.ref sa)])) rfl rfl (hb hby own_d2_6)
  refine own_of (S' := T7.setTop (mkF m 9 #[.val (.ref a0), .val (.ref a1)] [(.ref da), (.int (0 : Int32)), (.ref sa)])) st7 ?_
  refine own_of (S' := T7.setTop (mkF m 10 #[.val (.ref a0), .val (.ref a1)] [(.int (0 : Int32)), (.ref da), (.int (0 : Int32)), (.ref sa)])) (fun t k => XS.iconst X7.here hx rfl (hb hby own_d2_9) k) ?_
  refine own_of (S' := T7.setTop (mkF m 12 #[.val (.ref a0), .val (.ref a1)] [(.int (10 : Int32)), (.int (0 : Int32)), (.ref da), (.int (0 : Int32)), (.ref sa)])) (fun t k => XS.bipush X7.here hx rfl (hb hby own_d2_10) k) ?_
  obtain ⟨T8, h8, L8, X8, e8, N8, K8, V8, st8⟩ := own_cpJ X7 hx hZ hown (hw _ (List.mem_of_getElem? (i := 18) rfl)) (hw _ (List.mem_of_getElem? (i := 21) rfl)) (hw _ (List.mem_of_getElem? (i := 19) rfl)) (hw _ (List.mem_of_getElem? (i := 20) rfl)) e7 F3 F2 (by decide) (by decide) N0 g_da (g := (mkF m 12 #[.val (.ref a0), .val (.ref a1)] [(.int (10 : Int32)), (.int (0 : Int32)), (.ref da), (.int (0 : Int32)), (.ref sa)])) rfl (by rw [hml]; rfl) rfl (hb hby own_d2_12) (by decide) (W := 0) (by show 2 * 0 + _ ≤ _; exact Nat.le_of_eq rfl) (by decide)
  have kk9 : Keep h0 h8 [da] := K0.trans K8 (allS (Or.inl (List.mem_of_getElem? (i := 0) rfl)) all0)
  refine own_of (S' := T8.setTop (mkF m 15 #[.val (.ref a0), .val (.ref a1)] [])) st8 ?_
  refine own_of (S' := T8.setTop (mkF m 16 #[.val (.ref a0), .val (.ref a1)] [(.ref a0)])) (fun t k => XS.aloadN X8.here hx rfl (hb hby own_d2_15) rfl rfl k) ?_
  obtain ⟨fs, hr, hrun, hended, hW, hsame⟩ := X8.leave (v := some (.ref a0)) (fun h => by rw [Bd.returns] at h; cases h)
  refine ⟨_, _, own_retA X8 hx Bd.returns (hb hby own_d2_16) hr, hrun, hended, hG _ _ ⟨_, _, rfl, ?_, ⟨_, rfl⟩, hW, hsame.mono (by decide) (by decide)⟩⟩
  show own_Q2 Z a0 a1 da sa kd ks ys xs h0 n0 _ T8.heap _
  rw [e8]
  exact ⟨rfl, N8, kk9, V8⟩
theorem own_d3_0 : decode method_2_code 0 = .ok (.aload_n 0, 1) := by decide +kernel
theorem own_d3_1 : decode method_2_code 1 = .ok (.arraylength, 1) := by decide +kernel
theorem own_d3_2 : decode method_2_code 2 = .ok (.bipush 10, 2) := by decide +kernel
theorem own_d3_4 : decode method_2_code 4 = .ok (.if_icmp .ne 113, 3) := by decide +kernel
theorem own_d3_7 : decode method_2_code 7 = .ok (.aload_n 0, 1) := by decide +kernel
theorem own_d3_8 : decode method_2_code 8 = .ok (.iconst 0, 1) := by decide +kernel
theorem own_d3_9 : decode method_2_code 9 = .ok (.laload, 1) := by decide +kernel
theorem own_d3_10 : decode method_2_code 10 = .ok (.lload_n 1, 1) := by decide +kernel
theorem own_d3_11 : decode method_2_code 11 = .ok (.lcmp, 1) := by decide +kernel
theorem own_d3_12 : decode method_2_code 12 = .ok (.ifCond .ne 105, 3) := by decide +kernel
theorem own_d3_15 : decode method_2_code 15 = .ok (.aload_n 0, 1) := by decide +kernel
theorem own_d3_16 : decode method_2_code 16 = .ok (.iconst 1, 1) := by decide +kernel
theorem own_d3_17 : decode method_2_code 17 = .ok (.laload, 1) := by decide +kernel
theorem own_d3_18 : decode method_2_code 18 = .ok (.lload_n 3, 1) := by decide +kernel
theorem own_d3_19 : decode method_2_code 19 = .ok (.lcmp, 1) := by decide +kernel
theorem own_d3_20 : decode method_2_code 20 = .ok (.ifCond .ne 97, 3) := by decide +kernel
theorem own_d3_23 : decode method_2_code 23 = .ok (.aload_n 0, 1) := by decide +kernel
theorem own_d3_24 : decode method_2_code 24 = .ok (.iconst 2, 1) := by decide +kernel
theorem own_d3_25 : decode method_2_code 25 = .ok (.laload, 1) := by decide +kernel
theorem own_d3_26 : decode method_2_code 26 = .ok (.lload 5, 2) := by decide +kernel
theorem own_d3_28 : decode method_2_code 28 = .ok (.lcmp, 1) := by decide +kernel
theorem own_d3_29 : decode method_2_code 29 = .ok (.ifCond .ne 88, 3) := by decide +kernel
theorem own_d3_32 : decode method_2_code 32 = .ok (.aload_n 0, 1) := by decide +kernel
theorem own_d3_33 : decode method_2_code 33 = .ok (.iconst 3, 1) := by decide +kernel
theorem own_d3_34 : decode method_2_code 34 = .ok (.laload, 1) := by decide +kernel
theorem own_d3_35 : decode method_2_code 35 = .ok (.lload 7, 2) := by decide +kernel
theorem own_d3_37 : decode method_2_code 37 = .ok (.lcmp, 1) := by decide +kernel
theorem own_d3_38 : decode method_2_code 38 = .ok (.ifCond .ne 79, 3) := by decide +kernel
theorem own_d3_41 : decode method_2_code 41 = .ok (.aload_n 0, 1) := by decide +kernel
theorem own_d3_42 : decode method_2_code 42 = .ok (.iconst 4, 1) := by decide +kernel
theorem own_d3_43 : decode method_2_code 43 = .ok (.laload, 1) := by decide +kernel
theorem own_d3_44 : decode method_2_code 44 = .ok (.lload 9, 2) := by decide +kernel
theorem own_d3_46 : decode method_2_code 46 = .ok (.lcmp, 1) := by decide +kernel
theorem own_d3_47 : decode method_2_code 47 = .ok (.ifCond .ne 70, 3) := by decide +kernel
theorem own_d3_50 : decode method_2_code 50 = .ok (.aload_n 0, 1) := by decide +kernel
theorem own_d3_51 : decode method_2_code 51 = .ok (.iconst 5, 1) := by decide +kernel
theorem own_d3_52 : decode method_2_code 52 = .ok (.laload, 1) := by decide +kernel
theorem own_d3_53 : decode method_2_code 53 = .ok (.lload 11, 2) := by decide +kernel
theorem own_d3_55 : decode method_2_code 55 = .ok (.lcmp, 1) := by decide +kernel
theorem own_d3_56 : decode method_2_code 56 = .ok (.ifCond .ne 61, 3) := by decide +kernel
theorem own_d3_59 : decode method_2_code 59 = .ok (.aload_n 0, 1) := by decide +kernel
theorem own_d3_60 : decode method_2_code 60 = .ok (.bipush 6, 2) := by decide +kernel
theorem own_d3_62 : decode method_2_code 62 = .ok (.laload, 1) := by decide +kernel
theorem own_d3_63 : decode method_2_code 63 = .ok (.lload_n 1, 1) := by decide +kernel
theorem own_d3_64 : decode method_2_code 64 = .ok (.ldc2_w 7, 3) := by decide +kernel
theorem own_d3_67 : decode method_2_code 67 = .ok (.lxor, 1) := by decide +kernel
theorem own_d3_68 : decode method_2_code 68 = .ok (.lcmp, 1) := by decide +kernel
theorem own_d3_69 : decode method_2_code 69 = .ok (.ifCond .ne 48, 3) := by decide +kernel
theorem own_d3_72 : decode method_2_code 72 = .ok (.aload_n 0, 1) := by decide +kernel
theorem own_d3_73 : decode method_2_code 73 = .ok (.bipush 7, 2) := by decide +kernel
theorem own_d3_75 : decode method_2_code 75 = .ok (.laload, 1) := by decide +kernel
theorem own_d3_76 : decode method_2_code 76 = .ok (.lload_n 3, 1) := by decide +kernel
theorem own_d3_77 : decode method_2_code 77 = .ok (.ldc2_w 7, 3) := by decide +kernel
theorem own_d3_80 : decode method_2_code 80 = .ok (.lxor, 1) := by decide +kernel
theorem own_d3_81 : decode method_2_code 81 = .ok (.lcmp, 1) := by decide +kernel
theorem own_d3_82 : decode method_2_code 82 = .ok (.ifCond .ne 35, 3) := by decide +kernel
theorem own_d3_85 : decode method_2_code 85 = .ok (.aload_n 0, 1) := by decide +kernel
theorem own_d3_86 : decode method_2_code 86 = .ok (.bipush 8, 2) := by decide +kernel
theorem own_d3_88 : decode method_2_code 88 = .ok (.laload, 1) := by decide +kernel
theorem own_d3_89 : decode method_2_code 89 = .ok (.lload 5, 2) := by decide +kernel
theorem own_d3_91 : decode method_2_code 91 = .ok (.ldc2_w 7, 3) := by decide +kernel
theorem own_d3_94 : decode method_2_code 94 = .ok (.lxor, 1) := by decide +kernel
theorem own_d3_95 : decode method_2_code 95 = .ok (.lcmp, 1) := by decide +kernel
theorem own_d3_96 : decode method_2_code 96 = .ok (.ifCond .ne 21, 3) := by decide +kernel
theorem own_d3_99 : decode method_2_code 99 = .ok (.aload_n 0, 1) := by decide +kernel
theorem own_d3_100 : decode method_2_code 100 = .ok (.bipush 9, 2) := by decide +kernel
theorem own_d3_102 : decode method_2_code 102 = .ok (.laload, 1) := by decide +kernel
theorem own_d3_103 : decode method_2_code 103 = .ok (.lload 7, 2) := by decide +kernel
theorem own_d3_105 : decode method_2_code 105 = .ok (.ldc2_w 7, 3) := by decide +kernel
theorem own_d3_108 : decode method_2_code 108 = .ok (.lxor, 1) := by decide +kernel
theorem own_d3_109 : decode method_2_code 109 = .ok (.lcmp, 1) := by decide +kernel
theorem own_d3_110 : decode method_2_code 110 = .ok (.ifCond .ne 7, 3) := by decide +kernel
theorem own_d3_113 : decode method_2_code 113 = .ok (.iconst 1, 1) := by decide +kernel
theorem own_d3_114 : decode method_2_code 114 = .ok (.goto 4, 3) := by decide +kernel
theorem own_d3_118 : decode method_2_code 118 = .ok (.ireturn, 1) := by decide +kernel
abbrev own_room3 : Room := { frames := 0, cells := 0, slots := 0, locals := 0 }
theorem own_pn3 : plainName "io/bucketry/ElementSetPinLaw" = true := by first | (simp [plainName, overriddenIn]; done) | decide +kernel
theorem own_ef3 (m : MethodId) (a0 : Addr) (p0 : Int64) (p1 : Int64) (p2 : Int64) (p3 : Int64) (p4 : Int64) (p5 : Int64) : entryFrame m #[(.ref a0), (.long p0), (.long p1), (.long p2), (.long p3), (.long p4), (.long p5)] 13 = mkF m 0 #[.val (.ref a0), .val (.long p0), .second, .val (.long p1), .second, .val (.long p2), .second, .val (.long p3), .second, .val (.long p4), .second, .val (.long p5), .second] [] := by first | (simp [entryFrame, mkF, argsToLocals, Value.category]; done) | rfl
def own_Q3 (Z : State) (a0 : Addr) (p0 : Int64) (p1 : Int64) (p2 : Int64) (p3 : Int64) (p4 : Int64) (p5 : Int64) (ka : ClassId) (h0 : Heap) (n0 : Nat) (v : Option Value) (h : Heap) (L : List Loc) : Prop := v = some (.int (1 : Int32)) ∧ Fr n0 L ∧ h = h0
set_option maxRecDepth 65536 in
set_option maxHeartbeats 40000000 in
theorem own_rm3 (l : Launch) (Z : State) (a0 : Array Value) (hw : ∀ d ∈ tables_1, d.before a0 Z = true) (ws : List Jvm.Cond) (a0 : Addr) (p0 : Int64) (p1 : Int64) (p2 : Int64) (p3 : Int64) (p4 : Int64) (p5 : Int64) (ka : ClassId) (h0 : Heap) (n0 : Nat) (F0 : own_AJ Z h0 a0 ka (10 : Int32) [p0, p1, p2, p3, p4, p5, (p0 ^^^ (-1 : Int64)), (p1 ^^^ (-1 : Int64)), (p2 ^^^ (-1 : Int64)), (p3 ^^^ (-1 : Int64))]) :
    MetFree l (⟨"io/bucketry/ElementSetPinLaw", "matches", "([JJJJJJJ)Z"⟩ : MethodName) (head1 (Jvm.Cond.code (⟨"io/bucketry/ElementSetPinLaw", "matches", "([JJJJJJJ)Z"⟩ : MethodName) method_2_code 13 (some .boolean) :: ws) (own_room3 : Room)) (fun a U => a = #[(.ref a0), (.long p0), (.long p1), (.long p2), (.long p3), (.long p4), (.long p5)] ∧ Z.Warmed39 U.vm ∧ U.heap = h0) (fun _ _ _ _ _ => True) (fun _ U o U' => ∃ v L, o = .returned v ∧ own_Q3 Z a0 p0 p1 p2 p3 p4 p5 ka h0 n0 v U'.heap L ∧ FrameEnd U o U' L (own_room3 : Room).cells (own_room3 : Room).slots) := by
  refine MetFree.of_bodySF (plainFor_of_name own_pn3) hisR ?_
  intro p e s m args below meth c s₁ Bd hml0 hP hK
  obtain ⟨rfl, hZ, hh⟩ := hP
  have hx := Bd.exec
  have hby := Bd.bytes
  have hml : c.maxLocals = 13 := hml0
  have hown : s.vm.findClass "io/bucketry/ElementSetPinLaw" = some m.cls := findClass_of_methodNamed Bd.named
  have hnm := (name_of_methodNamed Bd.named Bd.method).1
  have X0 : Stand p l e (own_room3 : Room) s m #[(.ref a0), (.long p0), (.long p1), (.long p2), (.long p3), (.long p4), (.long p5)] below meth c s₁ [] 0 0 := Stand.of_body Bd
  have e0 : s₁.heap = h0 := by rw [← hh, Bd.state]; rfl
  have N0 := Fr.nil n0
  refine own_out fun G hG => ?_
  rw [own_ef3 m a0 p0 p1 p2 p3 p4 p5]
  show own_Go p.tables e below G (s₁.setTop (mkF m 0 #[.val (.ref a0), .val (.long p0), .second, .val (.long p1), .second, .val (.long p2), .second, .val (.long p3), .second, .val (.long p4), .second, .val (.long p5), .second] []))
  refine own_of (S' := s₁.setTop (mkF m 1 #[.val (.ref a0), .val (.long p0), .second, .val (.long p1), .second, .val (.long p2), .second, .val (.long p3), .second, .val (.long p4), .second, .val (.long p5), .second] [(.ref a0)])) (fun t k => XS.aloadN X0.here hx rfl (hb hby own_d3_0) rfl rfl k) ?_
  refine own_of (S' := s₁.setTop (mkF m 2 #[.val (.ref a0), .val (.long p0), .second, .val (.long p1), .second, .val (.long p2), .second, .val (.long p3), .second, .val (.long p4), .second, .val (.long p5), .second] [(.int (10 : Int32))])) (own_lenJ X0 hx hZ e0 F0 (g := (mkF m 1 #[.val (.ref a0), .val (.long p0), .second, .val (.long p1), .second, .val (.long p2), .second, .val (.long p3), .second, .val (.long p4), .second, .val (.long p5), .second] [(.ref a0)])) rfl rfl (hb hby own_d3_1)) ?_
  refine own_of (S' := s₁.setTop (mkF m 4 #[.val (.ref a0), .val (.long p0), .second, .val (.long p1), .second, .val (.long p2), .second, .val (.long p3), .second, .val (.long p4), .second, .val (.long p5), .second] [(.int (10 : Int32)), (.int (10 : Int32))])) (fun t k => XS.bipush X0.here hx rfl (hb hby own_d3_2) k) ?_
  have hc4 : (10 : Int32) = (10 : Int32) := by rfl
  refine own_of (S' := s₁.setTop (mkF m 7 #[.val (.ref a0), .val (.long p0), .second, .val (.long p1), .second, .val (.long p2), .second, .val (.long p3), .second, .val (.long p4), .second, .val (.long p5), .second] [])) (fun t k => XS.icmpNo X0.here hx rfl (hb hby own_d3_4) rfl (teq hc4).2 k) ?_
  refine own_of (S' := s₁.setTop (mkF m 8 #[.val (.ref a0), .val (.long p0), .second, .val (.long p1), .second, .val (.long p2), .second, .val (.long p3), .second, .val (.long p4), .second, .val (.long p5), .second] [(.ref a0)])) (fun t k => XS.aloadN X0.here hx rfl (hb hby own_d3_7) rfl rfl k) ?_
  refine own_of (S' := s₁.setTop (mkF m 9 #[.val (.ref a0), .val (.long p0), .second, .val (.long p1), .second, .val (.long p2), .second, .val (.long p3), .second, .val (.long p4), .second, .val (.long p5), .second] [(.int (0 : Int32)), (.ref a0)])) (fun t k => XS.iconst X0.here hx rfl (hb hby own_d3_8) k) ?_
  refine own_of (S' := s₁.setTop (mkF m 10 #[.val (.ref a0), .val (.long p0), .second, .val (.long p1), .second, .val (.long p2), .second, .val (.long p3), .second, .val (.long p4), .second, .val (.long p5), .second] [(.long p0)])) (own_ldJ X0 hx hZ e0 F0 (j := (0 : Int32)) ⟨by decide, by decide⟩ (g := (mkF m 9 #[.val (.ref a0), .val (.long p0), .second, .val (.long p1), .second, .val (.long p2), .second, .val (.long p3), .second, .val (.long p4), .second, .val (.long p5), .second] [(.int (0 : Int32)), (.ref a0)])) rfl rfl (hb hby own_d3_9)) ?_
  refine own_of (S' := s₁.setTop (mkF m 11 #[.val (.ref a0), .val (.long p0), .second, .val (.long p1), .second, .val (.long p2), .second, .val (.long p3), .second, .val (.long p4), .second, .val (.long p5), .second] [(.long p0), (.long p0)])) (fun t k => XS.lloadN X0.here hx rfl (hb hby own_d3_10) rfl k) ?_
  refine own_of (S' := s₁.setTop (mkF m 12 #[.val (.ref a0), .val (.long p0), .second, .val (.long p1), .second, .val (.long p2), .second, .val (.long p3), .second, .val (.long p4), .second, .val (.long p5), .second] [(.int (lcmpW p0 p0))])) (fun t k => XS.lcmp X0.here hx rfl (hb hby own_d3_11) rfl k) ?_
  have hc12 : p0 = p0 := by rfl
  refine own_of (S' := s₁.setTop (mkF m 15 #[.val (.ref a0), .val (.long p0), .second, .val (.long p1), .second, .val (.long p2), .second, .val (.long p3), .second, .val (.long p4), .second, .val (.long p5), .second] [])) (fun t k => XS.ifNo X0.here hx rfl (hb hby own_d3_12) rfl ((if0 _ _).trans (teq ((lw_eq p0 p0).mpr hc12)).2) k) ?_
  refine own_of (S' := s₁.setTop (mkF m 16 #[.val (.ref a0), .val (.long p0), .second, .val (.long p1), .second, .val (.long p2), .second, .val (.long p3), .second, .val (.long p4), .second, .val (.long p5), .second] [(.ref a0)])) (fun t k => XS.aloadN X0.here hx rfl (hb hby own_d3_15) rfl rfl k) ?_
  refine own_of (S' := s₁.setTop (mkF m 17 #[.val (.ref a0), .val (.long p0), .second, .val (.long p1), .second, .val (.long p2), .second, .val (.long p3), .second, .val (.long p4), .second, .val (.long p5), .second] [(.int (1 : Int32)), (.ref a0)])) (fun t k => XS.iconst X0.here hx rfl (hb hby own_d3_16) k) ?_
  refine own_of (S' := s₁.setTop (mkF m 18 #[.val (.ref a0), .val (.long p0), .second, .val (.long p1), .second, .val (.long p2), .second, .val (.long p3), .second, .val (.long p4), .second, .val (.long p5), .second] [(.long p1)])) (own_ldJ X0 hx hZ e0 F0 (j := (1 : Int32)) ⟨by decide, by decide⟩ (g := (mkF m 17 #[.val (.ref a0), .val (.long p0), .second, .val (.long p1), .second, .val (.long p2), .second, .val (.long p3), .second, .val (.long p4), .second, .val (.long p5), .second] [(.int (1 : Int32)), (.ref a0)])) rfl rfl (hb hby own_d3_17)) ?_
  refine own_of (S' := s₁.setTop (mkF m 19 #[.val (.ref a0), .val (.long p0), .second, .val (.long p1), .second, .val (.long p2), .second, .val (.long p3), .second, .val (.long p4), .second, .val (.long p5), .second] [(.long p1), (.long p1)])) (fun t k => XS.lloadN X0.here hx rfl (hb hby own_d3_18) rfl k) ?_
  refine own_of (S' := s₁.setTop (mkF m 20 #[.val (.ref a0), .val (.long p0), .second, .val (.long p1), .second, .val (.long p2), .second, .val (.long p3), .second, .val (.long p4), .second, .val (.long p5), .second] [(.int (lcmpW p1 p1))])) (fun t k => XS.lcmp X0.here hx rfl (hb hby own_d3_19) rfl k) ?_
  have hc20 : p1 = p1 := by rfl
  refine own_of (S' := s₁.setTop (mkF m 23 #[.val (.ref a0), .val (.long p0), .second, .val (.long p1), .second, .val (.long p2), .second, .val (.long p3), .second, .val (.long p4), .second, .val (.long p5), .second] [])) (fun t k => XS.ifNo X0.here hx rfl (hb hby own_d3_20) rfl ((if0 _ _).trans (teq ((lw_eq p1 p1).mpr hc20)).2) k) ?_
  refine own_of (S' := s₁.setTop (mkF m 24 #[.val (.ref a0), .val (.long p0), .second, .val (.long p1), .second, .val (.long p2), .second, .val (.long p3), .second, .val (.long p4), .second, .val (.long p5), .second] [(.ref a0)])) (fun t k => XS.aloadN X0.here hx rfl (hb hby own_d3_23) rfl rfl k) ?_
  refine own_of (S' := s₁.setTop (mkF m 25 #[.val (.ref a0), .val (.long p0), .second, .val (.long p1), .second, .val (.long p2), .second, .val (.long p3), .second, .val (.long p4), .second, .val (.long p5), .second] [(.int (2 : Int32)), (.ref a0)])) (fun t k => XS.iconst X0.here hx rfl (hb hby own_d3_24) k) ?_
  refine own_of (S' := s₁.setTop (mkF m 26 #[.val (.ref a0), .val (.long p0), .second, .val (.long p1), .second, .val (.long p2), .second, .val (.long p3), .second, .val (.long p4), .second, .val (.long p5), .second] [(.long p2)])) (own_ldJ X0 hx hZ e0 F0 (j := (2 : Int32)) ⟨by decide, by decide⟩ (g := (mkF m 25 #[.val (.ref a0), .val (.long p0), .second, .val (.long p1), .second, .val (.long p2), .second, .val (.long p3), .second, .val (.long p4), .second, .val (.long p5), .second] [(.int (2 : Int32)), (.ref a0)])) rfl rfl (hb hby own_d3_25)) ?_
  refine own_of (S' := s₁.setTop (mkF m 28 #[.val (.ref a0), .val (.long p0), .second, .val (.long p1), .second, .val (.long p2), .second, .val (.long p3), .second, .val (.long p4), .second, .val (.long p5), .second] [(.long p2), (.long p2)])) (fun t k => XS.lload X0.here hx rfl (hb hby own_d3_26) rfl k) ?_
  refine own_of (S' := s₁.setTop (mkF m 29 #[.val (.ref a0), .val (.long p0), .second, .val (.long p1), .second, .val (.long p2), .second, .val (.long p3), .second, .val (.long p4), .second, .val (.long p5), .second] [(.int (lcmpW p2 p2))])) (fun t k => XS.lcmp X0.here hx rfl (hb hby own_d3_28) rfl k) ?_
  have hc29 : p2 = p2 := by rfl
  refine own_of (S' := s₁.setTop (mkF m 32 #[.val (.ref a0), .val (.long p0), .second, .val (.long p1), .second, .val (.long p2), .second, .val (.long p3), .second, .val (.long p4), .second, .val (.long p5), .second] [])) (fun t k => XS.ifNo X0.here hx rfl (hb hby own_d3_29) rfl ((if0 _ _).trans (teq ((lw_eq p2 p2).mpr hc29)).2) k) ?_
  refine own_of (S' := s₁.setTop (mkF m 33 #[.val (.ref a0), .val (.long p0), .second, .val (.long p1), .second, .val (.long p2), .second, .val (.long p3), .second, .val (.long p4), .second, .val (.long p5), .second] [(.ref a0)])) (fun t k => XS.aloadN X0.here hx rfl (hb hby own_d3_32) rfl rfl k) ?_
  refine own_of (S' := s₁.setTop (mkF m 34 #[.val (.ref a0), .val (.long p0), .second, .val (.long p1), .second, .val (.long p2), .second, .val (.long p3), .second, .val (.long p4), .second, .val (.long p5), .second] [(.int (3 : Int32)), (.ref a0)])) (fun t k => XS.iconst X0.here hx rfl (hb hby own_d3_33) k) ?_
  refine own_of (S' := s₁.setTop (mkF m 35 #[.val (.ref a0), .val (.long p0), .second, .val (.long p1), .second, .val (.long p2), .second, .val (.long p3), .second, .val (.long p4), .second, .val (.long p5), .second] [(.long p3)])) (own_ldJ X0 hx hZ e0 F0 (j := (3 : Int32)) ⟨by decide, by decide⟩ (g := (mkF m 34 #[.val (.ref a0), .val (.long p0), .second, .val (.long p1), .second, .val (.long p2), .second, .val (.long p3), .second, .val (.long p4), .second, .val (.long p5), .second] [(.int (3 : Int32)), (.ref a0)])) rfl rfl (hb hby own_d3_34)) ?_
  refine own_of (S' := s₁.setTop (mkF m 37 #[.val (.ref a0), .val (.long p0), .second, .val (.long p1), .second, .val (.long p2), .second, .val (.long p3), .second, .val (.long p4), .second, .val (.long p5), .second] [(.long p3), (.long p3)])) (fun t k => XS.lload X0.here hx rfl (hb hby own_d3_35) rfl k) ?_
  refine own_of (S' := s₁.setTop (mkF m 38 #[.val (.ref a0), .val (.long p0), .second, .val (.long p1), .second, .val (.long p2), .second, .val (.long p3), .second, .val (.long p4), .second, .val (.long p5), .second] [(.int (lcmpW p3 p3))])) (fun t k => XS.lcmp X0.here hx rfl (hb hby own_d3_37) rfl k) ?_
  have hc38 : p3 = p3 := by rfl
  refine own_of (S' := s₁.setTop (mkF m 41 #[.val (.ref a0), .val (.long p0), .second, .val (.long p1), .second, .val (.long p2), .second, .val (.long p3), .second, .val (.long p4), .second, .val (.long p5), .second] [])) (fun t k => XS.ifNo X0.here hx rfl (hb hby own_d3_38) rfl ((if0 _ _).trans (teq ((lw_eq p3 p3).mpr hc38)).2) k) ?_
  refine own_of (S' := s₁.setTop (mkF m 42 #[.val (.ref a0), .val (.long p0), .second, .val (.long p1), .second, .val (.long p2), .second, .val (.long p3), .second, .val (.long p4), .second, .val (.long p5), .second] [(.ref a0)])) (fun t k => XS.aloadN X0.here hx rfl (hb hby own_d3_41) rfl rfl k) ?_
  refine own_of (S' := s₁.setTop (mkF m 43 #[.val (.ref a0), .val (.long p0), .second, .val (.long p1), .second, .val (.long p2), .second, .val (.long p3), .second, .val (.long p4), .second, .val (.long p5), .second] [(.int (4 : Int32)), (.ref a0)])) (fun t k => XS.iconst X0.here hx rfl (hb hby own_d3_42) k) ?_
  refine own_of (S' := s₁.setTop (mkF m 44 #[.val (.ref a0), .val (.long p0), .second, .val (.long p1), .second, .val (.long p2), .second, .val (.long p3), .second, .val (.long p4), .second, .val (.long p5), .second] [(.long p4)])) (own_ldJ X0 hx hZ e0 F0 (j := (4 : Int32)) ⟨by decide, by decide⟩ (g := (mkF m 43 #[.val (.ref a0), .val (.long p0), .second, .val (.long p1), .second, .val (.long p2), .second, .val (.long p3), .second, .val (.long p4), .second, .val (.long p5), .second] [(.int (4 : Int32)), (.ref a0)])) rfl rfl (hb hby own_d3_43)) ?_
  refine own_of (S' := s₁.setTop (mkF m 46 #[.val (.ref a0), .val (.long p0), .second, .val (.long p1), .second, .val (.long p2), .second, .val (.long p3), .second, .val (.long p4), .second, .val (.long p5), .second] [(.long p4), (.long p4)])) (fun t k => XS.lload X0.here hx rfl (hb hby own_d3_44) rfl k) ?_
  refine own_of (S' := s₁.setTop (mkF m 47 #[.val (.ref a0), .val (.long p0), .second, .val (.long p1), .second, .val (.long p2), .second, .val (.long p3), .second, .val (.long p4), .second, .val (.long p5), .second] [(.int (lcmpW p4 p4))])) (fun t k => XS.lcmp X0.here hx rfl (hb hby own_d3_46) rfl k) ?_
  have hc47 : p4 = p4 := by rfl
  refine own_of (S' := s₁.setTop (mkF m 50 #[.val (.ref a0), .val (.long p0), .second, .val (.long p1), .second, .val (.long p2), .second, .val (.long p3), .second, .val (.long p4), .second, .val (.long p5), .second] [])) (fun t k => XS.ifNo X0.here hx rfl (hb hby own_d3_47) rfl ((if0 _ _).trans (teq ((lw_eq p4 p4).mpr hc47)).2) k) ?_
  refine own_of (S' := s₁.setTop (mkF m 51 #[.val (.ref a0), .val (.long p0), .second, .val (.long p1), .second, .val (.long p2), .second, .val (.long p3), .second, .val (.long p4), .second, .val (.long p5), .second] [(.ref a0)])) (fun t k => XS.aloadN X0.here hx rfl (hb hby own_d3_50) rfl rfl k) ?_
  refine own_of (S' := s₁.setTop (mkF m 52 #[.val (.ref a0), .val (.long p0), .second, .val (.long p1), .second, .val (.long p2), .second, .val (.long p3), .second, .val (.long p4), .second, .val (.long p5), .second] [(.int (5 : Int32)), (.ref a0)])) (fun t k => XS.iconst X0.here hx rfl (hb hby own_d3_51) k) ?_
  refine own_of (S' := s₁.setTop (mkF m 53 #[.val (.ref a0), .val (.long p0), .second, .val (.long p1), .second, .val (.long p2), .second, .val (.long p3), .second, .val (.long p4), .second, .val (.long p5), .second] [(.long p5)])) (own_ldJ X0 hx hZ e0 F0 (j := (5 : Int32)) ⟨by decide, by decide⟩ (g := (mkF m 52 #[.val (.ref a0), .val (.long p0), .second, .val (.long p1), .second, .val (.long p2), .second, .val (.long p3), .second, .val (.long p4), .second, .val (.long p5), .second] [(.int (5 : Int32)), (.ref a0)])) rfl rfl (hb hby own_d3_52)) ?_
  refine own_of (S' := s₁.setTop (mkF m 55 #[.val (.ref a0), .val (.long p0), .second, .val (.long p1), .second, .val (.long p2), .second, .val (.long p3), .second, .val (.long p4), .second, .val (.long p5), .second] [(.long p5), (.long p5)])) (fun t k => XS.lload X0.here hx rfl (hb hby own_d3_53) rfl k) ?_
  refine own_of (S' := s₁.setTop (mkF m 56 #[.val (.ref a0), .val (.long p0), .second, .val (.long p1), .second, .val (.long p2), .second, .val (.long p3), .second, .val (.long p4), .second, .val (.long p5), .second] [(.int (lcmpW p5 p5))])) (fun t k => XS.lcmp X0.here hx rfl (hb hby own_d3_55) rfl k) ?_
  have hc56 : p5 = p5 := by rfl
  refine own_of (S' := s₁.setTop (mkF m 59 #[.val (.ref a0), .val (.long p0), .second, .val (.long p1), .second, .val (.long p2), .second, .val (.long p3), .second, .val (.long p4), .second, .val (.long p5), .second] [])) (fun t k => XS.ifNo X0.here hx rfl (hb hby own_d3_56) rfl ((if0 _ _).trans (teq ((lw_eq p5 p5).mpr hc56)).2) k) ?_
  refine own_of (S' := s₁.setTop (mkF m 60 #[.val (.ref a0), .val (.long p0), .second, .val (.long p1), .second, .val (.long p2), .second, .val (.long p3), .second, .val (.long p4), .second, .val (.long p5), .second] [(.ref a0)])) (fun t k => XS.aloadN X0.here hx rfl (hb hby own_d3_59) rfl rfl k) ?_
  refine own_of (S' := s₁.setTop (mkF m 62 #[.val (.ref a0), .val (.long p0), .second, .val (.long p1), .second, .val (.long p2), .second, .val (.long p3), .second, .val (.long p4), .second, .val (.long p5), .second] [(.int (6 : Int32)), (.ref a0)])) (fun t k => XS.bipush X0.here hx rfl (hb hby own_d3_60) k) ?_
  refine own_of (S' := s₁.setTop (mkF m 63 #[.val (.ref a0), .val (.long p0), .second, .val (.long p1), .second, .val (.long p2), .second, .val (.long p3), .second, .val (.long p4), .second, .val (.long p5), .second] [(.long (p0 ^^^ (-1 : Int64)))])) (own_ldJ X0 hx hZ e0 F0 (j := (6 : Int32)) ⟨by decide, by decide⟩ (g := (mkF m 62 #[.val (.ref a0), .val (.long p0), .second, .val (.long p1), .second, .val (.long p2), .second, .val (.long p3), .second, .val (.long p4), .second, .val (.long p5), .second] [(.int (6 : Int32)), (.ref a0)])) rfl rfl (hb hby own_d3_62)) ?_
  refine own_of (S' := s₁.setTop (mkF m 64 #[.val (.ref a0), .val (.long p0), .second, .val (.long p1), .second, .val (.long p2), .second, .val (.long p3), .second, .val (.long p4), .second, .val (.long p5), .second] [(.long p0), (.long (p0 ^^^ (-1 : Int64)))])) (fun t k => XS.lloadN X0.here hx rfl (hb hby own_d3_63) rfl k) ?_
  refine own_of (S' := s₁.setTop (mkF m 67 #[.val (.ref a0), .val (.long p0), .second, .val (.long p1), .second, .val (.long p2), .second, .val (.long p3), .second, .val (.long p4), .second, .val (.long p5), .second] [(.long (-1 : Int64)), (.long p0), (.long (p0 ^^^ (-1 : Int64)))])) (X0.ldc2Long hx hown (mvT hZ (hw _ (List.mem_of_getElem? (i := 1) rfl))) (g := (mkF m 64 #[.val (.ref a0), .val (.long p0), .second, .val (.long p1), .second, .val (.long p2), .second, .val (.long p3), .second, .val (.long p4), .second, .val (.long p5), .second] [(.long p0), (.long (p0 ^^^ (-1 : Int64)))])) rfl (hb hby own_d3_64)) ?_
  refine own_of (S' := s₁.setTop (mkF m 68 #[.val (.ref a0), .val (.long p0), .second, .val (.long p1), .second, .val (.long p2), .second, .val (.long p3), .second, .val (.long p4), .second, .val (.long p5), .second] [(.long (p0 ^^^ (-1 : Int64))), (.long (p0 ^^^ (-1 : Int64)))])) (fun t k => XS.lxor X0.here hx rfl (hb hby own_d3_67) rfl k) ?_
  refine own_of (S' := s₁.setTop (mkF m 69 #[.val (.ref a0), .val (.long p0), .second, .val (.long p1), .second, .val (.long p2), .second, .val (.long p3), .second, .val (.long p4), .second, .val (.long p5), .second] [(.int (lcmpW (p0 ^^^ (-1 : Int64)) (p0 ^^^ (-1 : Int64))))])) (fun t k => XS.lcmp X0.here hx rfl (hb hby own_d3_68) rfl k) ?_
  have hc69 : (p0 ^^^ (-1 : Int64)) = (p0 ^^^ (-1 : Int64)) := by rfl
  refine own_of (S' := s₁.setTop (mkF m 72 #[.val (.ref a0), .val (.long p0), .second, .val (.long p1), .second, .val (.long p2), .second, .val (.long p3), .second, .val (.long p4), .second, .val (.long p5), .second] [])) (fun t k => XS.ifNo X0.here hx rfl (hb hby own_d3_69) rfl ((if0 _ _).trans (teq ((lw_eq (p0 ^^^ (-1 : Int64)) (p0 ^^^ (-1 : Int64))).mpr hc69)).2) k) ?_
  refine own_of (S' := s₁.setTop (mkF m 73 #[.val (.ref a0), .val (.long p0), .second, .val (.long p1), .second, .val (.long p2), .second, .val (.long p3), .second, .val (.long p4), .second, .val (.long p5), .second] [(.ref a0)])) (fun t k => XS.aloadN X0.here hx rfl (hb hby own_d3_72) rfl rfl k) ?_
  refine own_of (S' := s₁.setTop (mkF m 75 #[.val (.ref a0), .val (.long p0), .second, .val (.long p1), .second, .val (.long p2), .second, .val (.long p3), .second, .val (.long p4), .second, .val (.long p5), .second] [(.int (7 : Int32)), (.ref a0)])) (fun t k => XS.bipush X0.here hx rfl (hb hby own_d3_73) k) ?_
  refine own_of (S' := s₁.setTop (mkF m 76 #[.val (.ref a0), .val (.long p0), .second, .val (.long p1), .second, .val (.long p2), .second, .val (.long p3), .second, .val (.long p4), .second, .val (.long p5), .second] [(.long (p1 ^^^ (-1 : Int64)))])) (own_ldJ X0 hx hZ e0 F0 (j := (7 : Int32)) ⟨by decide, by decide⟩ (g := (mkF m 75 #[.val (.ref a0), .val (.long p0), .second, .val (.long p1), .second, .val (.long p2), .second, .val (.long p3), .second, .val (.long p4), .second, .val (.long p5), .second] [(.int (7 : Int32)), (.ref a0)])) rfl rfl (hb hby own_d3_75)) ?_
  refine own_of (S' := s₁.setTop (mkF m 77 #[.val (.ref a0), .val (.long p0), .second, .val (.long p1), .second, .val (.long p2), .second, .val (.long p3), .second, .val (.long p4), .second, .val (.long p5), .second] [(.long p1), (.long (p1 ^^^ (-1 : Int64)))])) (fun t k => XS.lloadN X0.here hx rfl (hb hby own_d3_76) rfl k) ?_
  refine own_of (S' := s₁.setTop (mkF m 80 #[.val (.ref a0), .val (.long p0), .second, .val (.long p1), .second, .val (.long p2), .second, .val (.long p3), .second, .val (.long p4), .second, .val (.long p5), .second] [(.long (-1 : Int64)), (.long p1), (.long (p1 ^^^ (-1 : Int64)))])) (X0.ldc2Long hx hown (mvT hZ (hw _ (List.mem_of_getElem? (i := 1) rfl))) (g := (mkF m 77 #[.val (.ref a0), .val (.long p0), .second, .val (.long p1), .second, .val (.long p2), .second, .val (.long p3), .second, .val (.long p4), .second, .val (.long p5), .second] [(.long p1), (.long (p1 ^^^ (-1 : Int64)))])) rfl (hb hby own_d3_77)) ?_
  refine own_of (S' := s₁.setTop (mkF m 81 #[.val (.ref a0), .val (.long p0), .second, .val (.long p1), .second, .val (.long p2), .second, .val (.long p3), .second, .val (.long p4), .second, .val (.long p5), .second] [(.long (p1 ^^^ (-1 : Int64))), (.long (p1 ^^^ (-1 : Int64)))])) (fun t k => XS.lxor X0.here hx rfl (hb hby own_d3_80) rfl k) ?_
  refine own_of (S' := s₁.setTop (mkF m 82 #[.val (.ref a0), .val (.long p0), .second, .val (.long p1), .second, .val (.long p2), .second, .val (.long p3), .second, .val (.long p4), .second, .val (.long p5), .second] [(.int (lcmpW (p1 ^^^ (-1 : Int64)) (p1 ^^^ (-1 : Int64))))])) (fun t k => XS.lcmp X0.here hx rfl (hb hby own_d3_81) rfl k) ?_
  have hc82 : (p1 ^^^ (-1 : Int64)) = (p1 ^^^ (-1 : Int64)) := by rfl
  refine own_of (S' := s₁.setTop (mkF m 85 #[.val (.ref a0), .val (.long p0), .second, .val (.long p1), .second, .val (.long p2), .second, .val (.long p3), .second, .val (.long p4), .second, .val (.long p5), .second] [])) (fun t k => XS.ifNo X0.here hx rfl (hb hby own_d3_82) rfl ((if0 _ _).trans (teq ((lw_eq (p1 ^^^ (-1 : Int64)) (p1 ^^^ (-1 : Int64))).mpr hc82)).2) k) ?_
  refine own_of (S' := s₁.setTop (mkF m 86 #[.val (.ref a0), .val (.long p0), .second, .val (.long p1), .second, .val (.long p2), .second, .val (.long p3), .second, .val (.long p4), .second, .val (.long p5), .second] [(.ref a0)])) (fun t k => XS.aloadN X0.here hx rfl (hb hby own_d3_85) rfl rfl k) ?_
  refine own_of (S' := s₁.setTop (mkF m 88 #[.val (.ref a0), .val (.long p0), .second, .val (.long p1), .second, .val (.long p2), .second, .val (.long p3), .second, .val (.long p4), .second, .val (.long p5), .second] [(.int (8 : Int32)), (.ref a0)])) (fun t k => XS.bipush X0.here hx rfl (hb hby own_d3_86) k) ?_
  refine own_of (S' := s₁.setTop (mkF m 89 #[.val (.ref a0), .val (.long p0), .second, .val (.long p1), .second, .val (.long p2), .second, .val (.long p3), .second, .val (.long p4), .second, .val (.long p5), .second] [(.long (p2 ^^^ (-1 : Int64)))])) (own_ldJ X0 hx hZ e0 F0 (j := (8 : Int32)) ⟨by decide, by decide⟩ (g := (mkF m 88 #[.val (.ref a0), .val (.long p0), .second, .val (.long p1), .second, .val (.long p2), .second, .val (.long p3), .second, .val (.long p4), .second, .val (.long p5), .second] [(.int (8 : Int32)), (.ref a0)])) rfl rfl (hb hby own_d3_88)) ?_
  refine own_of (S' := s₁.setTop (mkF m 91 #[.val (.ref a0), .val (.long p0), .second, .val (.long p1), .second, .val (.long p2), .second, .val (.long p3), .second, .val (.long p4), .second, .val (.long p5), .second] [(.long p2), (.long (p2 ^^^ (-1 : Int64)))])) (fun t k => XS.lload X0.here hx rfl (hb hby own_d3_89) rfl k) ?_
  refine own_of (S' := s₁.setTop (mkF m 94 #[.val (.ref a0), .val (.long p0), .second, .val (.long p1), .second, .val (.long p2), .second, .val (.long p3), .second, .val (.long p4), .second, .val (.long p5), .second] [(.long (-1 : Int64)), (.long p2), (.long (p2 ^^^ (-1 : Int64)))])) (X0.ldc2Long hx hown (mvT hZ (hw _ (List.mem_of_getElem? (i := 1) rfl))) (g := (mkF m 91 #[.val (.ref a0), .val (.long p0), .second, .val (.long p1), .second, .val (.long p2), .second, .val (.long p3), .second, .val (.long p4), .second, .val (.long p5), .second] [(.long p2), (.long (p2 ^^^ (-1 : Int64)))])) rfl (hb hby own_d3_91)) ?_
  refine own_of (S' := s₁.setTop (mkF m 95 #[.val (.ref a0), .val (.long p0), .second, .val (.long p1), .second, .val (.long p2), .second, .val (.long p3), .second, .val (.long p4), .second, .val (.long p5), .second] [(.long (p2 ^^^ (-1 : Int64))), (.long (p2 ^^^ (-1 : Int64)))])) (fun t k => XS.lxor X0.here hx rfl (hb hby own_d3_94) rfl k) ?_
  refine own_of (S' := s₁.setTop (mkF m 96 #[.val (.ref a0), .val (.long p0), .second, .val (.long p1), .second, .val (.long p2), .second, .val (.long p3), .second, .val (.long p4), .second, .val (.long p5), .second] [(.int (lcmpW (p2 ^^^ (-1 : Int64)) (p2 ^^^ (-1 : Int64))))])) (fun t k => XS.lcmp X0.here hx rfl (hb hby own_d3_95) rfl k) ?_
  have hc96 : (p2 ^^^ (-1 : Int64)) = (p2 ^^^ (-1 : Int64)) := by rfl
  refine own_of (S' := s₁.setTop (mkF m 99 #[.val (.ref a0), .val (.long p0), .second, .val (.long p1), .second, .val (.long p2), .second, .val (.long p3), .second, .val (.long p4), .second, .val (.long p5), .second] [])) (fun t k => XS.ifNo X0.here hx rfl (hb hby own_d3_96) rfl ((if0 _ _).trans (teq ((lw_eq (p2 ^^^ (-1 : Int64)) (p2 ^^^ (-1 : Int64))).mpr hc96)).2) k) ?_
  refine own_of (S' := s₁.setTop (mkF m 100 #[.val (.ref a0), .val (.long p0), .second, .val (.long p1), .second, .val (.long p2), .second, .val (.long p3), .second, .val (.long p4), .second, .val (.long p5), .second] [(.ref a0)])) (fun t k => XS.aloadN X0.here hx rfl (hb hby own_d3_99) rfl rfl k) ?_
  refine own_of (S' := s₁.setTop (mkF m 102 #[.val (.ref a0), .val (.long p0), .second, .val (.long p1), .second, .val (.long p2), .second, .val (.long p3), .second, .val (.long p4), .second, .val (.long p5), .second] [(.int (9 : Int32)), (.ref a0)])) (fun t k => XS.bipush X0.here hx rfl (hb hby own_d3_100) k) ?_
  refine own_of (S' := s₁.setTop (mkF m 103 #[.val (.ref a0), .val (.long p0), .second, .val (.long p1), .second, .val (.long p2), .second, .val (.long p3), .second, .val (.long p4), .second, .val (.long p5), .second] [(.long (p3 ^^^ (-1 : Int64)))])) (own_ldJ X0 hx hZ e0 F0 (j := (9 : Int32)) ⟨by decide, by decide⟩ (g := (mkF m 102 #[.val (.ref a0), .val (.long p0), .second, .val (.long p1), .second, .val (.long p2), .second, .val (.long p3), .second, .val (.long p4), .second, .val (.long p5), .second] [(.int (9 : Int32)), (.ref a0)])) rfl rfl (hb hby own_d3_102)) ?_
  refine own_of (S' := s₁.setTop (mkF m 105 #[.val (.ref a0), .val (.long p0), .second, .val (.long p1), .second, .val (.long p2), .second, .val (.long p3), .second, .val (.long p4), .second, .val (.long p5), .second] [(.long p3), (.long (p3 ^^^ (-1 : Int64)))])) (fun t k => XS.lload X0.here hx rfl (hb hby own_d3_103) rfl k) ?_
  refine own_of (S' := s₁.setTop (mkF m 108 #[.val (.ref a0), .val (.long p0), .second, .val (.long p1), .second, .val (.long p2), .second, .val (.long p3), .second, .val (.long p4), .second, .val (.long p5), .second] [(.long (-1 : Int64)), (.long p3), (.long (p3 ^^^ (-1 : Int64)))])) (X0.ldc2Long hx hown (mvT hZ (hw _ (List.mem_of_getElem? (i := 1) rfl))) (g := (mkF m 105 #[.val (.ref a0), .val (.long p0), .second, .val (.long p1), .second, .val (.long p2), .second, .val (.long p3), .second, .val (.long p4), .second, .val (.long p5), .second] [(.long p3), (.long (p3 ^^^ (-1 : Int64)))])) rfl (hb hby own_d3_105)) ?_
  refine own_of (S' := s₁.setTop (mkF m 109 #[.val (.ref a0), .val (.long p0), .second, .val (.long p1), .second, .val (.long p2), .second, .val (.long p3), .second, .val (.long p4), .second, .val (.long p5), .second] [(.long (p3 ^^^ (-1 : Int64))), (.long (p3 ^^^ (-1 : Int64)))])) (fun t k => XS.lxor X0.here hx rfl (hb hby own_d3_108) rfl k) ?_
  refine own_of (S' := s₁.setTop (mkF m 110 #[.val (.ref a0), .val (.long p0), .second, .val (.long p1), .second, .val (.long p2), .second, .val (.long p3), .second, .val (.long p4), .second, .val (.long p5), .second] [(.int (lcmpW (p3 ^^^ (-1 : Int64)) (p3 ^^^ (-1 : Int64))))])) (fun t k => XS.lcmp X0.here hx rfl (hb hby own_d3_109) rfl k) ?_
  have hc110 : (p3 ^^^ (-1 : Int64)) = (p3 ^^^ (-1 : Int64)) := by rfl
  refine own_of (S' := s₁.setTop (mkF m 113 #[.val (.ref a0), .val (.long p0), .second, .val (.long p1), .second, .val (.long p2), .second, .val (.long p3), .second, .val (.long p4), .second, .val (.long p5), .second] [])) (fun t k => XS.ifNo X0.here hx rfl (hb hby own_d3_110) rfl ((if0 _ _).trans (teq ((lw_eq (p3 ^^^ (-1 : Int64)) (p3 ^^^ (-1 : Int64))).mpr hc110)).2) k) ?_
  refine own_of (S' := s₁.setTop (mkF m 114 #[.val (.ref a0), .val (.long p0), .second, .val (.long p1), .second, .val (.long p2), .second, .val (.long p3), .second, .val (.long p4), .second, .val (.long p5), .second] [(.int (1 : Int32))])) (fun t k => XS.iconst X0.here hx rfl (hb hby own_d3_113) k) ?_
  refine own_of (S' := s₁.setTop (mkF m 118 #[.val (.ref a0), .val (.long p0), .second, .val (.long p1), .second, .val (.long p2), .second, .val (.long p3), .second, .val (.long p4), .second, .val (.long p5), .second] [(.int (1 : Int32))])) (fun t k => XS.goto X0.here hx rfl (pc0 := 114) (pc' := 118) rfl (hb hby own_d3_114) (by decide) (by decide) k) ?_
  obtain ⟨fs, hr, hrun, hended, hW, hsame⟩ := X0.leave (v := some (.int (nar .boolean (1 : Int32)))) (fun h => by rw [Bd.returns] at h; cases h)
  refine ⟨_, _, retN X0 hx (t := .boolean) Bd.returns (by simp) (hb hby own_d3_118) hr, hrun, hended, hG _ _ ⟨_, _, rfl, ?_, ⟨_, rfl⟩, hW, hsame.mono (by decide) (by decide)⟩⟩
  show own_Q3 Z a0 p0 p1 p2 p3 p4 p5 ka h0 n0 _ s₁.heap _
  rw [e0]
  exact ⟨rfl, N0, rfl⟩
theorem own_pn0 : plainName "io/bucketry/ElementSetPinLaw" = true := by first | (simp [plainName, overriddenIn]; done) | decide +kernel
theorem own_ef0 (m : MethodId) (p0 : Int64) (p1 : Int64) (p2 : Int64) (p3 : Int64) (p4 : Int64) (p5 : Int64) : entryFrame m #[(.long p0), (.long p1), (.long p2), (.long p3), (.long p4), (.long p5)] maxLocals = mkF m 0 #[.val (.long p0), .second, .val (.long p1), .second, .val (.long p2), .second, .val (.long p3), .second, .val (.long p4), .second, .val (.long p5), .second, .unset, .unset, .unset, .unset, .unset, .unset, .unset] [] := by first | (simp [entryFrame, mkF, argsToLocals, Value.category, maxLocals]; done) | rfl
def own_Q0 (Z : State) (p0 : Int64) (p1 : Int64) (p2 : Int64) (p3 : Int64) (p4 : Int64) (p5 : Int64) (h0 : Heap) (n0 : Nat) (v : Option Value) (h : Heap) (L : List Loc) : Prop := v = some (.int 1) ∧ Fr n0 L
set_option maxRecDepth 65536 in
set_option maxHeartbeats 40000000 in
theorem own_rm0 (l : Launch) (Z : State) (a0 : Array Value) (hw : ∀ d ∈ tables_1, d.before a0 Z = true) (ws : List Jvm.Cond) (p0 : Int64) (p1 : Int64) (p2 : Int64) (p3 : Int64) (p4 : Int64) (p5 : Int64) (h0 : Heap) (n0 : Nat) (Z0 : n0 ≤ h0.size) :
    MetFree l x (head1 (Jvm.Cond.code x code maxLocals ret :: ws) room_1) (fun a U => a = #[(.long p0), (.long p1), (.long p2), (.long p3), (.long p4), (.long p5)] ∧ Z.Warmed39 U.vm ∧ U.heap = h0) (fun _ _ _ _ _ => True) (fun _ U o U' => ∃ v L, o = .returned v ∧ own_Q0 Z p0 p1 p2 p3 p4 p5 h0 n0 v U'.heap L ∧ FrameEnd U o U' L 4 22) := by
  refine MetFree.of_bodySF (plainFor_of_name own_pn0) hisR ?_
  intro p e s m args below meth c s₁ Bd hml0 hP hK
  obtain ⟨rfl, hZ, hh⟩ := hP
  have hx := Bd.exec
  have hby := Bd.bytes
  have hml : c.maxLocals = 19 := hml0
  have hown : s.vm.findClass "io/bucketry/ElementSetPinLaw" = some m.cls := findClass_of_methodNamed Bd.named
  have hnm := (name_of_methodNamed Bd.named Bd.method).1
  have X0 : Stand p l e room_1 s m #[(.long p0), (.long p1), (.long p2), (.long p3), (.long p4), (.long p5)] below meth c s₁ [] 0 0 := Stand.of_body Bd
  have e0 : s₁.heap = h0 := by rw [← hh, Bd.state]; rfl
  have N0 := Fr.nil n0
  refine own_out fun G hG => ?_
  rw [own_ef0 m p0 p1 p2 p3 p4 p5]
  show own_Go p.tables e below G (s₁.setTop (mkF m 0 #[.val (.long p0), .second, .val (.long p1), .second, .val (.long p2), .second, .val (.long p3), .second, .val (.long p4), .second, .val (.long p5), .second, .unset, .unset, .unset, .unset, .unset, .unset, .unset] []))
  refine own_of (S' := s₁.setTop (mkF m 2 #[.val (.long p0), .second, .val (.long p1), .second, .val (.long p2), .second, .val (.long p3), .second, .val (.long p4), .second, .val (.long p5), .second, .unset, .unset, .unset, .unset, .unset, .unset, .unset] [(.int (10 : Int32))])) (fun t k => XS.bipush X0.here hx rfl (hb hby at_0) k) ?_
  obtain ⟨T21, h21, k21, X21, e21, E21, A21, st21⟩ := newP X0 hx hZ (hw _ (List.mem_of_getElem? (i := 0) rfl)) e0 (g := (mkF m 2 #[.val (.long p0), .second, .val (.long p1), .second, .val (.long p2), .second, .val (.long p3), .second, .val (.long p4), .second, .val (.long p5), .second, .unset, .unset, .unset, .unset, .unset, .unset, .unset] [(.int (10 : Int32))])) rfl (hb hby at_2) rfl (by decide) (cap := 10) (by decide) (by decide) (by decide) (by decide)
  obtain ⟨b21, g21⟩ : ∃ z, z = h0.size := ⟨_, rfl⟩
  have g_b21 : n0 ≤ b21 := Nat.le_trans Z0 (Nat.le_of_eq g21.symm)
  rw [← g21] at A21 st21
  have f22 : own_AJ Z h21 b21 k21 (10 : Int32) [0, 0, 0, 0, 0, 0, 0, 0, 0, 0] := own_newJ A21 (by decide) 10 (by decide)
  have z23 : n0 ≤ h21.size := Nat.le_trans Z0 E21.1
  refine own_of (S' := T21.setTop (mkF m 4 #[.val (.long p0), .second, .val (.long p1), .second, .val (.long p2), .second, .val (.long p3), .second, .val (.long p4), .second, .val (.long p5), .second, .unset, .unset, .unset, .unset, .unset, .unset, .unset] [(.ref b21)])) st21 ?_
  refine own_of (S' := T21.setTop (mkF m 5 #[.val (.long p0), .second, .val (.long p1), .second, .val (.long p2), .second, .val (.long p3), .second, .val (.long p4), .second, .val (.long p5), .second, .unset, .unset, .unset, .unset, .unset, .unset, .unset] [(.ref b21), (.ref b21)])) (fun t k => XS.dup X21.here hx rfl (hb hby at_4) rfl rfl k) ?_
  refine own_of (S' := T21.setTop (mkF m 6 #[.val (.long p0), .second, .val (.long p1), .second, .val (.long p2), .second, .val (.long p3), .second, .val (.long p4), .second, .val (.long p5), .second, .unset, .unset, .unset, .unset, .unset, .unset, .unset] [(.int (0 : Int32)), (.ref b21), (.ref b21)])) (fun t k => XS.iconst X21.here hx rfl (hb hby at_5) k) ?_
  refine own_of (S' := T21.setTop (mkF m 7 #[.val (.long p0), .second, .val (.long p1), .second, .val (.long p2), .second, .val (.long p3), .second, .val (.long p4), .second, .val (.long p5), .second, .unset, .unset, .unset, .unset, .unset, .unset, .unset] [(.long p0), (.int (0 : Int32)), (.ref b21), (.ref b21)])) (fun t k => XS.lloadN X21.here hx rfl (hb hby at_6) rfl k) ?_
  obtain ⟨T24, h24, X24, e24, W24, V24, st24⟩ := own_stJ X21 hx hZ e21 f22 (j := (0 : Int32)) ⟨by decide, by decide⟩ (g := (mkF m 7 #[.val (.long p0), .second, .val (.long p1), .second, .val (.long p2), .second, .val (.long p3), .second, .val (.long p4), .second, .val (.long p5), .second, .unset, .unset, .unset, .unset, .unset, .unset, .unset] [(.long p0), (.int (0 : Int32)), (.ref b21), (.ref b21)])) rfl rfl (hb hby at_7)
  have f25 : own_AJ Z h24 b21 k21 (10 : Int32) [p0, 0, 0, 0, 0, 0, 0, 0, 0, 0] := V24
  have N24 := Fr.snoc X24 N0 g_b21
  have z26 : n0 ≤ h24.size := Nat.le_trans z23 (Keep.of_wr W24).1
  refine own_of (S' := T24.setTop (mkF m 8 #[.val (.long p0), .second, .val (.long p1), .second, .val (.long p2), .second, .val (.long p3), .second, .val (.long p4), .second, .val (.long p5), .second, .unset, .unset, .unset, .unset, .unset, .unset, .unset] [(.ref b21)])) st24 ?_
  refine own_of (S' := T24.setTop (mkF m 9 #[.val (.long p0), .second, .val (.long p1), .second, .val (.long p2), .second, .val (.long p3), .second, .val (.long p4), .second, .val (.long p5), .second, .unset, .unset, .unset, .unset, .unset, .unset, .unset] [(.ref b21), (.ref b21)])) (fun t k => XS.dup X24.here hx rfl (hb hby at_8) rfl rfl k) ?_
  refine own_of (S' := T24.setTop (mkF m 10 #[.val (.long p0), .second, .val (.long p1), .second, .val (.long p2), .second, .val (.long p3), .second, .val (.long p4), .second, .val (.long p5), .second, .unset, .unset, .unset, .unset, .unset, .unset, .unset] [(.int (1 : Int32)), (.ref b21), (.ref b21)])) (fun t k => XS.iconst X24.here hx rfl (hb hby at_9) k) ?_
  refine own_of (S' := T24.setTop (mkF m 11 #[.val (.long p0), .second, .val (.long p1), .second, .val (.long p2), .second, .val (.long p3), .second, .val (.long p4), .second, .val (.long p5), .second, .unset, .unset, .unset, .unset, .unset, .unset, .unset] [(.long p1), (.int (1 : Int32)), (.ref b21), (.ref b21)])) (fun t k => XS.lloadN X24.here hx rfl (hb hby at_10) rfl k) ?_
  obtain ⟨T27, h27, X27, e27, W27, V27, st27⟩ := own_stJ X24 hx hZ e24 f25 (j := (1 : Int32)) ⟨by decide, by decide⟩ (g := (mkF m 11 #[.val (.long p0), .second, .val (.long p1), .second, .val (.long p2), .second, .val (.long p3), .second, .val (.long p4), .second, .val (.long p5), .second, .unset, .unset, .unset, .unset, .unset, .unset, .unset] [(.long p1), (.int (1 : Int32)), (.ref b21), (.ref b21)])) rfl rfl (hb hby at_11)
  have f28 : own_AJ Z h27 b21 k21 (10 : Int32) [p0, p1, 0, 0, 0, 0, 0, 0, 0, 0] := V27
  have N27 := Fr.snoc X27 N24 g_b21
  have z29 : n0 ≤ h27.size := Nat.le_trans z26 (Keep.of_wr W27).1
  refine own_of (S' := T27.setTop (mkF m 12 #[.val (.long p0), .second, .val (.long p1), .second, .val (.long p2), .second, .val (.long p3), .second, .val (.long p4), .second, .val (.long p5), .second, .unset, .unset, .unset, .unset, .unset, .unset, .unset] [(.ref b21)])) st27 ?_
  refine own_of (S' := T27.setTop (mkF m 13 #[.val (.long p0), .second, .val (.long p1), .second, .val (.long p2), .second, .val (.long p3), .second, .val (.long p4), .second, .val (.long p5), .second, .unset, .unset, .unset, .unset, .unset, .unset, .unset] [(.ref b21), (.ref b21)])) (fun t k => XS.dup X27.here hx rfl (hb hby at_12) rfl rfl k) ?_
  refine own_of (S' := T27.setTop (mkF m 14 #[.val (.long p0), .second, .val (.long p1), .second, .val (.long p2), .second, .val (.long p3), .second, .val (.long p4), .second, .val (.long p5), .second, .unset, .unset, .unset, .unset, .unset, .unset, .unset] [(.int (2 : Int32)), (.ref b21), (.ref b21)])) (fun t k => XS.iconst X27.here hx rfl (hb hby at_13) k) ?_
  refine own_of (S' := T27.setTop (mkF m 16 #[.val (.long p0), .second, .val (.long p1), .second, .val (.long p2), .second, .val (.long p3), .second, .val (.long p4), .second, .val (.long p5), .second, .unset, .unset, .unset, .unset, .unset, .unset, .unset] [(.long p2), (.int (2 : Int32)), (.ref b21), (.ref b21)])) (fun t k => XS.lload X27.here hx rfl (hb hby at_14) rfl k) ?_
  obtain ⟨T30, h30, X30, e30, W30, V30, st30⟩ := own_stJ X27 hx hZ e27 f28 (j := (2 : Int32)) ⟨by decide, by decide⟩ (g := (mkF m 16 #[.val (.long p0), .second, .val (.long p1), .second, .val (.long p2), .second, .val (.long p3), .second, .val (.long p4), .second, .val (.long p5), .second, .unset, .unset, .unset, .unset, .unset, .unset, .unset] [(.long p2), (.int (2 : Int32)), (.ref b21), (.ref b21)])) rfl rfl (hb hby at_16)
  have f31 : own_AJ Z h30 b21 k21 (10 : Int32) [p0, p1, p2, 0, 0, 0, 0, 0, 0, 0] := V30
  have N30 := Fr.snoc X30 N27 g_b21
  have z32 : n0 ≤ h30.size := Nat.le_trans z29 (Keep.of_wr W30).1
  refine own_of (S' := T30.setTop (mkF m 17 #[.val (.long p0), .second, .val (.long p1), .second, .val (.long p2), .second, .val (.long p3), .second, .val (.long p4), .second, .val (.long p5), .second, .unset, .unset, .unset, .unset, .unset, .unset, .unset] [(.ref b21)])) st30 ?_
  refine own_of (S' := T30.setTop (mkF m 18 #[.val (.long p0), .second, .val (.long p1), .second, .val (.long p2), .second, .val (.long p3), .second, .val (.long p4), .second, .val (.long p5), .second, .unset, .unset, .unset, .unset, .unset, .unset, .unset] [(.ref b21), (.ref b21)])) (fun t k => XS.dup X30.here hx rfl (hb hby at_17) rfl rfl k) ?_
  refine own_of (S' := T30.setTop (mkF m 19 #[.val (.long p0), .second, .val (.long p1), .second, .val (.long p2), .second, .val (.long p3), .second, .val (.long p4), .second, .val (.long p5), .second, .unset, .unset, .unset, .unset, .unset, .unset, .unset] [(.int (3 : Int32)), (.ref b21), (.ref b21)])) (fun t k => XS.iconst X30.here hx rfl (hb hby at_18) k) ?_
  refine own_of (S' := T30.setTop (mkF m 21 #[.val (.long p0), .second, .val (.long p1), .second, .val (.long p2), .second, .val (.long p3), .second, .val (.long p4), .second, .val (.long p5), .second, .unset, .unset, .unset, .unset, .unset, .unset, .unset] [(.long p3), (.int (3 : Int32)), (.ref b21), (.ref b21)])) (fun t k => XS.lload X30.here hx rfl (hb hby at_19) rfl k) ?_
  obtain ⟨T33, h33, X33, e33, W33, V33, st33⟩ := own_stJ X30 hx hZ e30 f31 (j := (3 : Int32)) ⟨by decide, by decide⟩ (g := (mkF m 21 #[.val (.long p0), .second, .val (.long p1), .second, .val (.long p2), .second, .val (.long p3), .second, .val (.long p4), .second, .val (.long p5), .second, .unset, .unset, .unset, .unset, .unset, .unset, .unset] [(.long p3), (.int (3 : Int32)), (.ref b21), (.ref b21)])) rfl rfl (hb hby at_21)
  have f34 : own_AJ Z h33 b21 k21 (10 : Int32) [p0, p1, p2, p3, 0, 0, 0, 0, 0, 0] := V33
  have N33 := Fr.snoc X33 N30 g_b21
  have z35 : n0 ≤ h33.size := Nat.le_trans z32 (Keep.of_wr W33).1
  refine own_of (S' := T33.setTop (mkF m 22 #[.val (.long p0), .second, .val (.long p1), .second, .val (.long p2), .second, .val (.long p3), .second, .val (.long p4), .second, .val (.long p5), .second, .unset, .unset, .unset, .unset, .unset, .unset, .unset] [(.ref b21)])) st33 ?_
  refine own_of (S' := T33.setTop (mkF m 23 #[.val (.long p0), .second, .val (.long p1), .second, .val (.long p2), .second, .val (.long p3), .second, .val (.long p4), .second, .val (.long p5), .second, .unset, .unset, .unset, .unset, .unset, .unset, .unset] [(.ref b21), (.ref b21)])) (fun t k => XS.dup X33.here hx rfl (hb hby at_22) rfl rfl k) ?_
  refine own_of (S' := T33.setTop (mkF m 24 #[.val (.long p0), .second, .val (.long p1), .second, .val (.long p2), .second, .val (.long p3), .second, .val (.long p4), .second, .val (.long p5), .second, .unset, .unset, .unset, .unset, .unset, .unset, .unset] [(.int (4 : Int32)), (.ref b21), (.ref b21)])) (fun t k => XS.iconst X33.here hx rfl (hb hby at_23) k) ?_
  refine own_of (S' := T33.setTop (mkF m 26 #[.val (.long p0), .second, .val (.long p1), .second, .val (.long p2), .second, .val (.long p3), .second, .val (.long p4), .second, .val (.long p5), .second, .unset, .unset, .unset, .unset, .unset, .unset, .unset] [(.long p4), (.int (4 : Int32)), (.ref b21), (.ref b21)])) (fun t k => XS.lload X33.here hx rfl (hb hby at_24) rfl k) ?_
  obtain ⟨T36, h36, X36, e36, W36, V36, st36⟩ := own_stJ X33 hx hZ e33 f34 (j := (4 : Int32)) ⟨by decide, by decide⟩ (g := (mkF m 26 #[.val (.long p0), .second, .val (.long p1), .second, .val (.long p2), .second, .val (.long p3), .second, .val (.long p4), .second, .val (.long p5), .second, .unset, .unset, .unset, .unset, .unset, .unset, .unset] [(.long p4), (.int (4 : Int32)), (.ref b21), (.ref b21)])) rfl rfl (hb hby at_26)
  have f37 : own_AJ Z h36 b21 k21 (10 : Int32) [p0, p1, p2, p3, p4, 0, 0, 0, 0, 0] := V36
  have N36 := Fr.snoc X36 N33 g_b21
  have z38 : n0 ≤ h36.size := Nat.le_trans z35 (Keep.of_wr W36).1
  refine own_of (S' := T36.setTop (mkF m 27 #[.val (.long p0), .second, .val (.long p1), .second, .val (.long p2), .second, .val (.long p3), .second, .val (.long p4), .second, .val (.long p5), .second, .unset, .unset, .unset, .unset, .unset, .unset, .unset] [(.ref b21)])) st36 ?_
  refine own_of (S' := T36.setTop (mkF m 28 #[.val (.long p0), .second, .val (.long p1), .second, .val (.long p2), .second, .val (.long p3), .second, .val (.long p4), .second, .val (.long p5), .second, .unset, .unset, .unset, .unset, .unset, .unset, .unset] [(.ref b21), (.ref b21)])) (fun t k => XS.dup X36.here hx rfl (hb hby at_27) rfl rfl k) ?_
  refine own_of (S' := T36.setTop (mkF m 29 #[.val (.long p0), .second, .val (.long p1), .second, .val (.long p2), .second, .val (.long p3), .second, .val (.long p4), .second, .val (.long p5), .second, .unset, .unset, .unset, .unset, .unset, .unset, .unset] [(.int (5 : Int32)), (.ref b21), (.ref b21)])) (fun t k => XS.iconst X36.here hx rfl (hb hby at_28) k) ?_
  refine own_of (S' := T36.setTop (mkF m 31 #[.val (.long p0), .second, .val (.long p1), .second, .val (.long p2), .second, .val (.long p3), .second, .val (.long p4), .second, .val (.long p5), .second, .unset, .unset, .unset, .unset, .unset, .unset, .unset] [(.long p5), (.int (5 : Int32)), (.ref b21), (.ref b21)])) (fun t k => XS.lload X36.here hx rfl (hb hby at_29) rfl k) ?_
  obtain ⟨T39, h39, X39, e39, W39, V39, st39⟩ := own_stJ X36 hx hZ e36 f37 (j := (5 : Int32)) ⟨by decide, by decide⟩ (g := (mkF m 31 #[.val (.long p0), .second, .val (.long p1), .second, .val (.long p2), .second, .val (.long p3), .second, .val (.long p4), .second, .val (.long p5), .second, .unset, .unset, .unset, .unset, .unset, .unset, .unset] [(.long p5), (.int (5 : Int32)), (.ref b21), (.ref b21)])) rfl rfl (hb hby at_31)
  have f40 : own_AJ Z h39 b21 k21 (10 : Int32) [p0, p1, p2, p3, p4, p5, 0, 0, 0, 0] := V39
  have N39 := Fr.snoc X39 N36 g_b21
  have z41 : n0 ≤ h39.size := Nat.le_trans z38 (Keep.of_wr W39).1
  refine own_of (S' := T39.setTop (mkF m 32 #[.val (.long p0), .second, .val (.long p1), .second, .val (.long p2), .second, .val (.long p3), .second, .val (.long p4), .second, .val (.long p5), .second, .unset, .unset, .unset, .unset, .unset, .unset, .unset] [(.ref b21)])) st39 ?_
  refine own_of (S' := T39.setTop (mkF m 33 #[.val (.long p0), .second, .val (.long p1), .second, .val (.long p2), .second, .val (.long p3), .second, .val (.long p4), .second, .val (.long p5), .second, .unset, .unset, .unset, .unset, .unset, .unset, .unset] [(.ref b21), (.ref b21)])) (fun t k => XS.dup X39.here hx rfl (hb hby at_32) rfl rfl k) ?_
  refine own_of (S' := T39.setTop (mkF m 35 #[.val (.long p0), .second, .val (.long p1), .second, .val (.long p2), .second, .val (.long p3), .second, .val (.long p4), .second, .val (.long p5), .second, .unset, .unset, .unset, .unset, .unset, .unset, .unset] [(.int (6 : Int32)), (.ref b21), (.ref b21)])) (fun t k => XS.bipush X39.here hx rfl (hb hby at_33) k) ?_
  refine own_of (S' := T39.setTop (mkF m 36 #[.val (.long p0), .second, .val (.long p1), .second, .val (.long p2), .second, .val (.long p3), .second, .val (.long p4), .second, .val (.long p5), .second, .unset, .unset, .unset, .unset, .unset, .unset, .unset] [(.long p0), (.int (6 : Int32)), (.ref b21), (.ref b21)])) (fun t k => XS.lloadN X39.here hx rfl (hb hby at_35) rfl k) ?_
  refine own_of (S' := T39.setTop (mkF m 39 #[.val (.long p0), .second, .val (.long p1), .second, .val (.long p2), .second, .val (.long p3), .second, .val (.long p4), .second, .val (.long p5), .second, .unset, .unset, .unset, .unset, .unset, .unset, .unset] [(.long (-1 : Int64)), (.long p0), (.int (6 : Int32)), (.ref b21), (.ref b21)])) (X39.ldc2Long hx hown (mvT hZ (hw _ (List.mem_of_getElem? (i := 1) rfl))) (g := (mkF m 36 #[.val (.long p0), .second, .val (.long p1), .second, .val (.long p2), .second, .val (.long p3), .second, .val (.long p4), .second, .val (.long p5), .second, .unset, .unset, .unset, .unset, .unset, .unset, .unset] [(.long p0), (.int (6 : Int32)), (.ref b21), (.ref b21)])) rfl (hb hby at_36)) ?_
  refine own_of (S' := T39.setTop (mkF m 40 #[.val (.long p0), .second, .val (.long p1), .second, .val (.long p2), .second, .val (.long p3), .second, .val (.long p4), .second, .val (.long p5), .second, .unset, .unset, .unset, .unset, .unset, .unset, .unset] [(.long (p0 ^^^ (-1 : Int64))), (.int (6 : Int32)), (.ref b21), (.ref b21)])) (fun t k => XS.lxor X39.here hx rfl (hb hby at_39) rfl k) ?_
  obtain ⟨T42, h42, X42, e42, W42, V42, st42⟩ := own_stJ X39 hx hZ e39 f40 (j := (6 : Int32)) ⟨by decide, by decide⟩ (g := (mkF m 40 #[.val (.long p0), .second, .val (.long p1), .second, .val (.long p2), .second, .val (.long p3), .second, .val (.long p4), .second, .val (.long p5), .second, .unset, .unset, .unset, .unset, .unset, .unset, .unset] [(.long (p0 ^^^ (-1 : Int64))), (.int (6 : Int32)), (.ref b21), (.ref b21)])) rfl rfl (hb hby at_40)
  have f43 : own_AJ Z h42 b21 k21 (10 : Int32) [p0, p1, p2, p3, p4, p5, (p0 ^^^ (-1 : Int64)), 0, 0, 0] := V42
  have N42 := Fr.snoc X42 N39 g_b21
  have z44 : n0 ≤ h42.size := Nat.le_trans z41 (Keep.of_wr W42).1
  refine own_of (S' := T42.setTop (mkF m 41 #[.val (.long p0), .second, .val (.long p1), .second, .val (.long p2), .second, .val (.long p3), .second, .val (.long p4), .second, .val (.long p5), .second, .unset, .unset, .unset, .unset, .unset, .unset, .unset] [(.ref b21)])) st42 ?_
  refine own_of (S' := T42.setTop (mkF m 42 #[.val (.long p0), .second, .val (.long p1), .second, .val (.long p2), .second, .val (.long p3), .second, .val (.long p4), .second, .val (.long p5), .second, .unset, .unset, .unset, .unset, .unset, .unset, .unset] [(.ref b21), (.ref b21)])) (fun t k => XS.dup X42.here hx rfl (hb hby at_41) rfl rfl k) ?_
  refine own_of (S' := T42.setTop (mkF m 44 #[.val (.long p0), .second, .val (.long p1), .second, .val (.long p2), .second, .val (.long p3), .second, .val (.long p4), .second, .val (.long p5), .second, .unset, .unset, .unset, .unset, .unset, .unset, .unset] [(.int (7 : Int32)), (.ref b21), (.ref b21)])) (fun t k => XS.bipush X42.here hx rfl (hb hby at_42) k) ?_
  refine own_of (S' := T42.setTop (mkF m 45 #[.val (.long p0), .second, .val (.long p1), .second, .val (.long p2), .second, .val (.long p3), .second, .val (.long p4), .second, .val (.long p5), .second, .unset, .unset, .unset, .unset, .unset, .unset, .unset] [(.long p1), (.int (7 : Int32)), (.ref b21), (.ref b21)])) (fun t k => XS.lloadN X42.here hx rfl (hb hby at_44) rfl k) ?_
  refine own_of (S' := T42.setTop (mkF m 48 #[.val (.long p0), .second, .val (.long p1), .second, .val (.long p2), .second, .val (.long p3), .second, .val (.long p4), .second, .val (.long p5), .second, .unset, .unset, .unset, .unset, .unset, .unset, .unset] [(.long (-1 : Int64)), (.long p1), (.int (7 : Int32)), (.ref b21), (.ref b21)])) (X42.ldc2Long hx hown (mvT hZ (hw _ (List.mem_of_getElem? (i := 1) rfl))) (g := (mkF m 45 #[.val (.long p0), .second, .val (.long p1), .second, .val (.long p2), .second, .val (.long p3), .second, .val (.long p4), .second, .val (.long p5), .second, .unset, .unset, .unset, .unset, .unset, .unset, .unset] [(.long p1), (.int (7 : Int32)), (.ref b21), (.ref b21)])) rfl (hb hby at_45)) ?_
  refine own_of (S' := T42.setTop (mkF m 49 #[.val (.long p0), .second, .val (.long p1), .second, .val (.long p2), .second, .val (.long p3), .second, .val (.long p4), .second, .val (.long p5), .second, .unset, .unset, .unset, .unset, .unset, .unset, .unset] [(.long (p1 ^^^ (-1 : Int64))), (.int (7 : Int32)), (.ref b21), (.ref b21)])) (fun t k => XS.lxor X42.here hx rfl (hb hby at_48) rfl k) ?_
  obtain ⟨T45, h45, X45, e45, W45, V45, st45⟩ := own_stJ X42 hx hZ e42 f43 (j := (7 : Int32)) ⟨by decide, by decide⟩ (g := (mkF m 49 #[.val (.long p0), .second, .val (.long p1), .second, .val (.long p2), .second, .val (.long p3), .second, .val (.long p4), .second, .val (.long p5), .second, .unset, .unset, .unset, .unset, .unset, .unset, .unset] [(.long (p1 ^^^ (-1 : Int64))), (.int (7 : Int32)), (.ref b21), (.ref b21)])) rfl rfl (hb hby at_49)
  have f46 : own_AJ Z h45 b21 k21 (10 : Int32) [p0, p1, p2, p3, p4, p5, (p0 ^^^ (-1 : Int64)), (p1 ^^^ (-1 : Int64)), 0, 0] := V45
  have N45 := Fr.snoc X45 N42 g_b21
  have z47 : n0 ≤ h45.size := Nat.le_trans z44 (Keep.of_wr W45).1
  refine own_of (S' := T45.setTop (mkF m 50 #[.val (.long p0), .second, .val (.long p1), .second, .val (.long p2), .second, .val (.long p3), .second, .val (.long p4), .second, .val (.long p5), .second, .unset, .unset, .unset, .unset, .unset, .unset, .unset] [(.ref b21)])) st45 ?_
  refine own_of (S' := T45.setTop (mkF m 51 #[.val (.long p0), .second, .val (.long p1), .second, .val (.long p2), .second, .val (.long p3), .second, .val (.long p4), .second, .val (.long p5), .second, .unset, .unset, .unset, .unset, .unset, .unset, .unset] [(.ref b21), (.ref b21)])) (fun t k => XS.dup X45.here hx rfl (hb hby at_50) rfl rfl k) ?_
  refine own_of (S' := T45.setTop (mkF m 53 #[.val (.long p0), .second, .val (.long p1), .second, .val (.long p2), .second, .val (.long p3), .second, .val (.long p4), .second, .val (.long p5), .second, .unset, .unset, .unset, .unset, .unset, .unset, .unset] [(.int (8 : Int32)), (.ref b21), (.ref b21)])) (fun t k => XS.bipush X45.here hx rfl (hb hby at_51) k) ?_
  refine own_of (S' := T45.setTop (mkF m 55 #[.val (.long p0), .second, .val (.long p1), .second, .val (.long p2), .second, .val (.long p3), .second, .val (.long p4), .second, .val (.long p5), .second, .unset, .unset, .unset, .unset, .unset, .unset, .unset] [(.long p2), (.int (8 : Int32)), (.ref b21), (.ref b21)])) (fun t k => XS.lload X45.here hx rfl (hb hby at_53) rfl k) ?_
  refine own_of (S' := T45.setTop (mkF m 58 #[.val (.long p0), .second, .val (.long p1), .second, .val (.long p2), .second, .val (.long p3), .second, .val (.long p4), .second, .val (.long p5), .second, .unset, .unset, .unset, .unset, .unset, .unset, .unset] [(.long (-1 : Int64)), (.long p2), (.int (8 : Int32)), (.ref b21), (.ref b21)])) (X45.ldc2Long hx hown (mvT hZ (hw _ (List.mem_of_getElem? (i := 1) rfl))) (g := (mkF m 55 #[.val (.long p0), .second, .val (.long p1), .second, .val (.long p2), .second, .val (.long p3), .second, .val (.long p4), .second, .val (.long p5), .second, .unset, .unset, .unset, .unset, .unset, .unset, .unset] [(.long p2), (.int (8 : Int32)), (.ref b21), (.ref b21)])) rfl (hb hby at_55)) ?_
  refine own_of (S' := T45.setTop (mkF m 59 #[.val (.long p0), .second, .val (.long p1), .second, .val (.long p2), .second, .val (.long p3), .second, .val (.long p4), .second, .val (.long p5), .second, .unset, .unset, .unset, .unset, .unset, .unset, .unset] [(.long (p2 ^^^ (-1 : Int64))), (.int (8 : Int32)), (.ref b21), (.ref b21)])) (fun t k => XS.lxor X45.here hx rfl (hb hby at_58) rfl k) ?_
  obtain ⟨T48, h48, X48, e48, W48, V48, st48⟩ := own_stJ X45 hx hZ e45 f46 (j := (8 : Int32)) ⟨by decide, by decide⟩ (g := (mkF m 59 #[.val (.long p0), .second, .val (.long p1), .second, .val (.long p2), .second, .val (.long p3), .second, .val (.long p4), .second, .val (.long p5), .second, .unset, .unset, .unset, .unset, .unset, .unset, .unset] [(.long (p2 ^^^ (-1 : Int64))), (.int (8 : Int32)), (.ref b21), (.ref b21)])) rfl rfl (hb hby at_59)
  have f49 : own_AJ Z h48 b21 k21 (10 : Int32) [p0, p1, p2, p3, p4, p5, (p0 ^^^ (-1 : Int64)), (p1 ^^^ (-1 : Int64)), (p2 ^^^ (-1 : Int64)), 0] := V48
  have N48 := Fr.snoc X48 N45 g_b21
  have z50 : n0 ≤ h48.size := Nat.le_trans z47 (Keep.of_wr W48).1
  refine own_of (S' := T48.setTop (mkF m 60 #[.val (.long p0), .second, .val (.long p1), .second, .val (.long p2), .second, .val (.long p3), .second, .val (.long p4), .second, .val (.long p5), .second, .unset, .unset, .unset, .unset, .unset, .unset, .unset] [(.ref b21)])) st48 ?_
  refine own_of (S' := T48.setTop (mkF m 61 #[.val (.long p0), .second, .val (.long p1), .second, .val (.long p2), .second, .val (.long p3), .second, .val (.long p4), .second, .val (.long p5), .second, .unset, .unset, .unset, .unset, .unset, .unset, .unset] [(.ref b21), (.ref b21)])) (fun t k => XS.dup X48.here hx rfl (hb hby at_60) rfl rfl k) ?_
  refine own_of (S' := T48.setTop (mkF m 63 #[.val (.long p0), .second, .val (.long p1), .second, .val (.long p2), .second, .val (.long p3), .second, .val (.long p4), .second, .val (.long p5), .second, .unset, .unset, .unset, .unset, .unset, .unset, .unset] [(.int (9 : Int32)), (.ref b21), (.ref b21)])) (fun t k => XS.bipush X48.here hx rfl (hb hby at_61) k) ?_
  refine own_of (S' := T48.setTop (mkF m 65 #[.val (.long p0), .second, .val (.long p1), .second, .val (.long p2), .second, .val (.long p3), .second, .val (.long p4), .second, .val (.long p5), .second, .unset, .unset, .unset, .unset, .unset, .unset, .unset] [(.long p3), (.int (9 : Int32)), (.ref b21), (.ref b21)])) (fun t k => XS.lload X48.here hx rfl (hb hby at_63) rfl k) ?_
  refine own_of (S' := T48.setTop (mkF m 68 #[.val (.long p0), .second, .val (.long p1), .second, .val (.long p2), .second, .val (.long p3), .second, .val (.long p4), .second, .val (.long p5), .second, .unset, .unset, .unset, .unset, .unset, .unset, .unset] [(.long (-1 : Int64)), (.long p3), (.int (9 : Int32)), (.ref b21), (.ref b21)])) (X48.ldc2Long hx hown (mvT hZ (hw _ (List.mem_of_getElem? (i := 1) rfl))) (g := (mkF m 65 #[.val (.long p0), .second, .val (.long p1), .second, .val (.long p2), .second, .val (.long p3), .second, .val (.long p4), .second, .val (.long p5), .second, .unset, .unset, .unset, .unset, .unset, .unset, .unset] [(.long p3), (.int (9 : Int32)), (.ref b21), (.ref b21)])) rfl (hb hby at_65)) ?_
  refine own_of (S' := T48.setTop (mkF m 69 #[.val (.long p0), .second, .val (.long p1), .second, .val (.long p2), .second, .val (.long p3), .second, .val (.long p4), .second, .val (.long p5), .second, .unset, .unset, .unset, .unset, .unset, .unset, .unset] [(.long (p3 ^^^ (-1 : Int64))), (.int (9 : Int32)), (.ref b21), (.ref b21)])) (fun t k => XS.lxor X48.here hx rfl (hb hby at_68) rfl k) ?_
  obtain ⟨T51, h51, X51, e51, W51, V51, st51⟩ := own_stJ X48 hx hZ e48 f49 (j := (9 : Int32)) ⟨by decide, by decide⟩ (g := (mkF m 69 #[.val (.long p0), .second, .val (.long p1), .second, .val (.long p2), .second, .val (.long p3), .second, .val (.long p4), .second, .val (.long p5), .second, .unset, .unset, .unset, .unset, .unset, .unset, .unset] [(.long (p3 ^^^ (-1 : Int64))), (.int (9 : Int32)), (.ref b21), (.ref b21)])) rfl rfl (hb hby at_69)
  have f52 : own_AJ Z h51 b21 k21 (10 : Int32) [p0, p1, p2, p3, p4, p5, (p0 ^^^ (-1 : Int64)), (p1 ^^^ (-1 : Int64)), (p2 ^^^ (-1 : Int64)), (p3 ^^^ (-1 : Int64))] := V51
  have N51 := Fr.snoc X51 N48 g_b21
  have z53 : n0 ≤ h51.size := Nat.le_trans z50 (Keep.of_wr W51).1
  refine own_of (S' := T51.setTop (mkF m 70 #[.val (.long p0), .second, .val (.long p1), .second, .val (.long p2), .second, .val (.long p3), .second, .val (.long p4), .second, .val (.long p5), .second, .unset, .unset, .unset, .unset, .unset, .unset, .unset] [(.ref b21)])) st51 ?_
  refine own_of (S' := T51.setTop (mkF m 72 #[.val (.long p0), .second, .val (.long p1), .second, .val (.long p2), .second, .val (.long p3), .second, .val (.long p4), .second, .val (.long p5), .second, .val (.ref b21), .unset, .unset, .unset, .unset, .unset, .unset] [])) (fun t k => XS.astore X51.here hx rfl (hb hby at_70) rfl rfl (l' := #[.val (.long p0), .second, .val (.long p1), .second, .val (.long p2), .second, .val (.long p3), .second, .val (.long p4), .second, .val (.long p5), .second, .val (.ref b21), .unset, .unset, .unset, .unset, .unset, .unset]) rfl k) ?_
  refine own_of (S' := T51.setTop (mkF m 74 #[.val (.long p0), .second, .val (.long p1), .second, .val (.long p2), .second, .val (.long p3), .second, .val (.long p4), .second, .val (.long p5), .second, .val (.ref b21), .unset, .unset, .unset, .unset, .unset, .unset] [(.int (10 : Int32))])) (fun t k => XS.bipush X51.here hx rfl (hb hby at_72) k) ?_
  obtain ⟨T54, h54, k54, X54, e54, E54, A54, st54⟩ := newP X51 hx hZ (hw _ (List.mem_of_getElem? (i := 0) rfl)) e51 (g := (mkF m 74 #[.val (.long p0), .second, .val (.long p1), .second, .val (.long p2), .second, .val (.long p3), .second, .val (.long p4), .second, .val (.long p5), .second, .val (.ref b21), .unset, .unset, .unset, .unset, .unset, .unset] [(.int (10 : Int32))])) rfl (hb hby at_74) rfl (by decide) (cap := 10) (by decide) (by decide) (by decide) (by decide)
  obtain ⟨b54, g54⟩ : ∃ z, z = h51.size := ⟨_, rfl⟩
  have ne55 : b21 ≠ b54 := by rw [g54]; exact Nat.ne_of_lt f52.lt
  have g_b54 : n0 ≤ b54 := Nat.le_trans z53 (Nat.le_of_eq g54.symm)
  rw [← g54] at A54 st54
  have f56 : own_AJ Z h54 b21 k21 (10 : Int32) [p0, p1, p2, p3, p4, p5, (p0 ^^^ (-1 : Int64)), (p1 ^^^ (-1 : Int64)), (p2 ^^^ (-1 : Int64)), (p3 ^^^ (-1 : Int64))] := (f52.ext E54)
  have f57 : own_AJ Z h54 b54 k54 (10 : Int32) [0, 0, 0, 0, 0, 0, 0, 0, 0, 0] := own_newJ A54 (by decide) 10 (by decide)
  have z58 : n0 ≤ h54.size := Nat.le_trans z53 E54.1
  refine own_of (S' := T54.setTop (mkF m 76 #[.val (.long p0), .second, .val (.long p1), .second, .val (.long p2), .second, .val (.long p3), .second, .val (.long p4), .second, .val (.long p5), .second, .val (.ref b21), .unset, .unset, .unset, .unset, .unset, .unset] [(.ref b54)])) st54 ?_
  refine own_of (S' := T54.setTop (mkF m 77 #[.val (.long p0), .second, .val (.long p1), .second, .val (.long p2), .second, .val (.long p3), .second, .val (.long p4), .second, .val (.long p5), .second, .val (.ref b21), .unset, .unset, .unset, .unset, .unset, .unset] [(.ref b54), (.ref b54)])) (fun t k => XS.dup X54.here hx rfl (hb hby at_76) rfl rfl k) ?_
  refine own_of (S' := T54.setTop (mkF m 78 #[.val (.long p0), .second, .val (.long p1), .second, .val (.long p2), .second, .val (.long p3), .second, .val (.long p4), .second, .val (.long p5), .second, .val (.ref b21), .unset, .unset, .unset, .unset, .unset, .unset] [(.int (0 : Int32)), (.ref b54), (.ref b54)])) (fun t k => XS.iconst X54.here hx rfl (hb hby at_77) k) ?_
  refine own_of (S' := T54.setTop (mkF m 79 #[.val (.long p0), .second, .val (.long p1), .second, .val (.long p2), .second, .val (.long p3), .second, .val (.long p4), .second, .val (.long p5), .second, .val (.ref b21), .unset, .unset, .unset, .unset, .unset, .unset] [(.long p0), (.int (0 : Int32)), (.ref b54), (.ref b54)])) (fun t k => XS.lloadN X54.here hx rfl (hb hby at_78) rfl k) ?_
  refine own_of (S' := T54.setTop (mkF m 82 #[.val (.long p0), .second, .val (.long p1), .second, .val (.long p2), .second, .val (.long p3), .second, .val (.long p4), .second, .val (.long p5), .second, .val (.ref b21), .unset, .unset, .unset, .unset, .unset, .unset] [(.long (-1 : Int64)), (.long p0), (.int (0 : Int32)), (.ref b54), (.ref b54)])) (X54.ldc2Long hx hown (mvT hZ (hw _ (List.mem_of_getElem? (i := 1) rfl))) (g := (mkF m 79 #[.val (.long p0), .second, .val (.long p1), .second, .val (.long p2), .second, .val (.long p3), .second, .val (.long p4), .second, .val (.long p5), .second, .val (.ref b21), .unset, .unset, .unset, .unset, .unset, .unset] [(.long p0), (.int (0 : Int32)), (.ref b54), (.ref b54)])) rfl (hb hby at_79)) ?_
  refine own_of (S' := T54.setTop (mkF m 83 #[.val (.long p0), .second, .val (.long p1), .second, .val (.long p2), .second, .val (.long p3), .second, .val (.long p4), .second, .val (.long p5), .second, .val (.ref b21), .unset, .unset, .unset, .unset, .unset, .unset] [(.long (p0 ^^^ (-1 : Int64))), (.int (0 : Int32)), (.ref b54), (.ref b54)])) (fun t k => XS.lxor X54.here hx rfl (hb hby at_82) rfl k) ?_
  obtain ⟨T59, h59, X59, e59, W59, V59, st59⟩ := own_stJ X54 hx hZ e54 f57 (j := (0 : Int32)) ⟨by decide, by decide⟩ (g := (mkF m 83 #[.val (.long p0), .second, .val (.long p1), .second, .val (.long p2), .second, .val (.long p3), .second, .val (.long p4), .second, .val (.long p5), .second, .val (.ref b21), .unset, .unset, .unset, .unset, .unset, .unset] [(.long (p0 ^^^ (-1 : Int64))), (.int (0 : Int32)), (.ref b54), (.ref b54)])) rfl rfl (hb hby at_83)
  have f60 : own_AJ Z h59 b21 k21 (10 : Int32) [p0, p1, p2, p3, p4, p5, (p0 ^^^ (-1 : Int64)), (p1 ^^^ (-1 : Int64)), (p2 ^^^ (-1 : Int64)), (p3 ^^^ (-1 : Int64))] := (f56.other W59 ne55)
  have f61 : own_AJ Z h59 b54 k54 (10 : Int32) [(p0 ^^^ (-1 : Int64)), 0, 0, 0, 0, 0, 0, 0, 0, 0] := V59
  have N59 := Fr.snoc X59 N51 g_b54
  have z62 : n0 ≤ h59.size := Nat.le_trans z58 (Keep.of_wr W59).1
  refine own_of (S' := T59.setTop (mkF m 84 #[.val (.long p0), .second, .val (.long p1), .second, .val (.long p2), .second, .val (.long p3), .second, .val (.long p4), .second, .val (.long p5), .second, .val (.ref b21), .unset, .unset, .unset, .unset, .unset, .unset] [(.ref b54)])) st59 ?_
  refine own_of (S' := T59.setTop (mkF m 85 #[.val (.long p0), .second, .val (.long p1), .second, .val (.long p2), .second, .val (.long p3), .second, .val (.long p4), .second, .val (.long p5), .second, .val (.ref b21), .unset, .unset, .unset, .unset, .unset, .unset] [(.ref b54), (.ref b54)])) (fun t k => XS.dup X59.here hx rfl (hb hby at_84) rfl rfl k) ?_
  refine own_of (S' := T59.setTop (mkF m 86 #[.val (.long p0), .second, .val (.long p1), .second, .val (.long p2), .second, .val (.long p3), .second, .val (.long p4), .second, .val (.long p5), .second, .val (.ref b21), .unset, .unset, .unset, .unset, .unset, .unset] [(.int (1 : Int32)), (.ref b54), (.ref b54)])) (fun t k => XS.iconst X59.here hx rfl (hb hby at_85) k) ?_
  refine own_of (S' := T59.setTop (mkF m 87 #[.val (.long p0), .second, .val (.long p1), .second, .val (.long p2), .second, .val (.long p3), .second, .val (.long p4), .second, .val (.long p5), .second, .val (.ref b21), .unset, .unset, .unset, .unset, .unset, .unset] [(.long p1), (.int (1 : Int32)), (.ref b54), (.ref b54)])) (fun t k => XS.lloadN X59.here hx rfl (hb hby at_86) rfl k) ?_
  refine own_of (S' := T59.setTop (mkF m 90 #[.val (.long p0), .second, .val (.long p1), .second, .val (.long p2), .second, .val (.long p3), .second, .val (.long p4), .second, .val (.long p5), .second, .val (.ref b21), .unset, .unset, .unset, .unset, .unset, .unset] [(.long (-1 : Int64)), (.long p1), (.int (1 : Int32)), (.ref b54), (.ref b54)])) (X59.ldc2Long hx hown (mvT hZ (hw _ (List.mem_of_getElem? (i := 1) rfl))) (g := (mkF m 87 #[.val (.long p0), .second, .val (.long p1), .second, .val (.long p2), .second, .val (.long p3), .second, .val (.long p4), .second, .val (.long p5), .second, .val (.ref b21), .unset, .unset, .unset, .unset, .unset, .unset] [(.long p1), (.int (1 : Int32)), (.ref b54), (.ref b54)])) rfl (hb hby at_87)) ?_
  refine own_of (S' := T59.setTop (mkF m 91 #[.val (.long p0), .second, .val (.long p1), .second, .val (.long p2), .second, .val (.long p3), .second, .val (.long p4), .second, .val (.long p5), .second, .val (.ref b21), .unset, .unset, .unset, .unset, .unset, .unset] [(.long (p1 ^^^ (-1 : Int64))), (.int (1 : Int32)), (.ref b54), (.ref b54)])) (fun t k => XS.lxor X59.here hx rfl (hb hby at_90) rfl k) ?_
  obtain ⟨T63, h63, X63, e63, W63, V63, st63⟩ := own_stJ X59 hx hZ e59 f61 (j := (1 : Int32)) ⟨by decide, by decide⟩ (g := (mkF m 91 #[.val (.long p0), .second, .val (.long p1), .second, .val (.long p2), .second, .val (.long p3), .second, .val (.long p4), .second, .val (.long p5), .second, .val (.ref b21), .unset, .unset, .unset, .unset, .unset, .unset] [(.long (p1 ^^^ (-1 : Int64))), (.int (1 : Int32)), (.ref b54), (.ref b54)])) rfl rfl (hb hby at_91)
  have f64 : own_AJ Z h63 b21 k21 (10 : Int32) [p0, p1, p2, p3, p4, p5, (p0 ^^^ (-1 : Int64)), (p1 ^^^ (-1 : Int64)), (p2 ^^^ (-1 : Int64)), (p3 ^^^ (-1 : Int64))] := (f60.other W63 ne55)
  have f65 : own_AJ Z h63 b54 k54 (10 : Int32) [(p0 ^^^ (-1 : Int64)), (p1 ^^^ (-1 : Int64)), 0, 0, 0, 0, 0, 0, 0, 0] := V63
  have N63 := Fr.snoc X63 N59 g_b54
  have z66 : n0 ≤ h63.size := Nat.le_trans z62 (Keep.of_wr W63).1
  refine own_of (S' := T63.setTop (mkF m 92 #[.val (.long p0), .second, .val (.long p1), .second, .val (.long p2), .second, .val (.long p3), .second, .val (.long p4), .second, .val (.long p5), .second, .val (.ref b21), .unset, .unset, .unset, .unset, .unset, .unset] [(.ref b54)])) st63 ?_
  refine own_of (S' := T63.setTop (mkF m 93 #[.val (.long p0), .second, .val (.long p1), .second, .val (.long p2), .second, .val (.long p3), .second, .val (.long p4), .second, .val (.long p5), .second, .val (.ref b21), .unset, .unset, .unset, .unset, .unset, .unset] [(.ref b54), (.ref b54)])) (fun t k => XS.dup X63.here hx rfl (hb hby at_92) rfl rfl k) ?_
  refine own_of (S' := T63.setTop (mkF m 94 #[.val (.long p0), .second, .val (.long p1), .second, .val (.long p2), .second, .val (.long p3), .second, .val (.long p4), .second, .val (.long p5), .second, .val (.ref b21), .unset, .unset, .unset, .unset, .unset, .unset] [(.int (2 : Int32)), (.ref b54), (.ref b54)])) (fun t k => XS.iconst X63.here hx rfl (hb hby at_93) k) ?_
  refine own_of (S' := T63.setTop (mkF m 96 #[.val (.long p0), .second, .val (.long p1), .second, .val (.long p2), .second, .val (.long p3), .second, .val (.long p4), .second, .val (.long p5), .second, .val (.ref b21), .unset, .unset, .unset, .unset, .unset, .unset] [(.long p2), (.int (2 : Int32)), (.ref b54), (.ref b54)])) (fun t k => XS.lload X63.here hx rfl (hb hby at_94) rfl k) ?_
  refine own_of (S' := T63.setTop (mkF m 99 #[.val (.long p0), .second, .val (.long p1), .second, .val (.long p2), .second, .val (.long p3), .second, .val (.long p4), .second, .val (.long p5), .second, .val (.ref b21), .unset, .unset, .unset, .unset, .unset, .unset] [(.long (-1 : Int64)), (.long p2), (.int (2 : Int32)), (.ref b54), (.ref b54)])) (X63.ldc2Long hx hown (mvT hZ (hw _ (List.mem_of_getElem? (i := 1) rfl))) (g := (mkF m 96 #[.val (.long p0), .second, .val (.long p1), .second, .val (.long p2), .second, .val (.long p3), .second, .val (.long p4), .second, .val (.long p5), .second, .val (.ref b21), .unset, .unset, .unset, .unset, .unset, .unset] [(.long p2), (.int (2 : Int32)), (.ref b54), (.ref b54)])) rfl (hb hby at_96)) ?_
  refine own_of (S' := T63.setTop (mkF m 100 #[.val (.long p0), .second, .val (.long p1), .second, .val (.long p2), .second, .val (.long p3), .second, .val (.long p4), .second, .val (.long p5), .second, .val (.ref b21), .unset, .unset, .unset, .unset, .unset, .unset] [(.long (p2 ^^^ (-1 : Int64))), (.int (2 : Int32)), (.ref b54), (.ref b54)])) (fun t k => XS.lxor X63.here hx rfl (hb hby at_99) rfl k) ?_
  obtain ⟨T67, h67, X67, e67, W67, V67, st67⟩ := own_stJ X63 hx hZ e63 f65 (j := (2 : Int32)) ⟨by decide, by decide⟩ (g := (mkF m 100 #[.val (.long p0), .second, .val (.long p1), .second, .val (.long p2), .second, .val (.long p3), .second, .val (.long p4), .second, .val (.long p5), .second, .val (.ref b21), .unset, .unset, .unset, .unset, .unset, .unset] [(.long (p2 ^^^ (-1 : Int64))), (.int (2 : Int32)), (.ref b54), (.ref b54)])) rfl rfl (hb hby at_100)
  have f68 : own_AJ Z h67 b21 k21 (10 : Int32) [p0, p1, p2, p3, p4, p5, (p0 ^^^ (-1 : Int64)), (p1 ^^^ (-1 : Int64)), (p2 ^^^ (-1 : Int64)), (p3 ^^^ (-1 : Int64))] := (f64.other W67 ne55)
  have f69 : own_AJ Z h67 b54 k54 (10 : Int32) [(p0 ^^^ (-1 : Int64)), (p1 ^^^ (-1 : Int64)), (p2 ^^^ (-1 : Int64)), 0, 0, 0, 0, 0, 0, 0] := V67
  have N67 := Fr.snoc X67 N63 g_b54
  have z70 : n0 ≤ h67.size := Nat.le_trans z66 (Keep.of_wr W67).1
  refine own_of (S' := T67.setTop (mkF m 101 #[.val (.long p0), .second, .val (.long p1), .second, .val (.long p2), .second, .val (.long p3), .second, .val (.long p4), .second, .val (.long p5), .second, .val (.ref b21), .unset, .unset, .unset, .unset, .unset, .unset] [(.ref b54)])) st67 ?_
  refine own_of (S' := T67.setTop (mkF m 102 #[.val (.long p0), .second, .val (.long p1), .second, .val (.long p2), .second, .val (.long p3), .second, .val (.long p4), .second, .val (.long p5), .second, .val (.ref b21), .unset, .unset, .unset, .unset, .unset, .unset] [(.ref b54), (.ref b54)])) (fun t k => XS.dup X67.here hx rfl (hb hby at_101) rfl rfl k) ?_
  refine own_of (S' := T67.setTop (mkF m 103 #[.val (.long p0), .second, .val (.long p1), .second, .val (.long p2), .second, .val (.long p3), .second, .val (.long p4), .second, .val (.long p5), .second, .val (.ref b21), .unset, .unset, .unset, .unset, .unset, .unset] [(.int (3 : Int32)), (.ref b54), (.ref b54)])) (fun t k => XS.iconst X67.here hx rfl (hb hby at_102) k) ?_
  refine own_of (S' := T67.setTop (mkF m 105 #[.val (.long p0), .second, .val (.long p1), .second, .val (.long p2), .second, .val (.long p3), .second, .val (.long p4), .second, .val (.long p5), .second, .val (.ref b21), .unset, .unset, .unset, .unset, .unset, .unset] [(.long p3), (.int (3 : Int32)), (.ref b54), (.ref b54)])) (fun t k => XS.lload X67.here hx rfl (hb hby at_103) rfl k) ?_
  refine own_of (S' := T67.setTop (mkF m 108 #[.val (.long p0), .second, .val (.long p1), .second, .val (.long p2), .second, .val (.long p3), .second, .val (.long p4), .second, .val (.long p5), .second, .val (.ref b21), .unset, .unset, .unset, .unset, .unset, .unset] [(.long (-1 : Int64)), (.long p3), (.int (3 : Int32)), (.ref b54), (.ref b54)])) (X67.ldc2Long hx hown (mvT hZ (hw _ (List.mem_of_getElem? (i := 1) rfl))) (g := (mkF m 105 #[.val (.long p0), .second, .val (.long p1), .second, .val (.long p2), .second, .val (.long p3), .second, .val (.long p4), .second, .val (.long p5), .second, .val (.ref b21), .unset, .unset, .unset, .unset, .unset, .unset] [(.long p3), (.int (3 : Int32)), (.ref b54), (.ref b54)])) rfl (hb hby at_105)) ?_
  refine own_of (S' := T67.setTop (mkF m 109 #[.val (.long p0), .second, .val (.long p1), .second, .val (.long p2), .second, .val (.long p3), .second, .val (.long p4), .second, .val (.long p5), .second, .val (.ref b21), .unset, .unset, .unset, .unset, .unset, .unset] [(.long (p3 ^^^ (-1 : Int64))), (.int (3 : Int32)), (.ref b54), (.ref b54)])) (fun t k => XS.lxor X67.here hx rfl (hb hby at_108) rfl k) ?_
  obtain ⟨T71, h71, X71, e71, W71, V71, st71⟩ := own_stJ X67 hx hZ e67 f69 (j := (3 : Int32)) ⟨by decide, by decide⟩ (g := (mkF m 109 #[.val (.long p0), .second, .val (.long p1), .second, .val (.long p2), .second, .val (.long p3), .second, .val (.long p4), .second, .val (.long p5), .second, .val (.ref b21), .unset, .unset, .unset, .unset, .unset, .unset] [(.long (p3 ^^^ (-1 : Int64))), (.int (3 : Int32)), (.ref b54), (.ref b54)])) rfl rfl (hb hby at_109)
  have f72 : own_AJ Z h71 b21 k21 (10 : Int32) [p0, p1, p2, p3, p4, p5, (p0 ^^^ (-1 : Int64)), (p1 ^^^ (-1 : Int64)), (p2 ^^^ (-1 : Int64)), (p3 ^^^ (-1 : Int64))] := (f68.other W71 ne55)
  have f73 : own_AJ Z h71 b54 k54 (10 : Int32) [(p0 ^^^ (-1 : Int64)), (p1 ^^^ (-1 : Int64)), (p2 ^^^ (-1 : Int64)), (p3 ^^^ (-1 : Int64)), 0, 0, 0, 0, 0, 0] := V71
  have N71 := Fr.snoc X71 N67 g_b54
  have z74 : n0 ≤ h71.size := Nat.le_trans z70 (Keep.of_wr W71).1
  refine own_of (S' := T71.setTop (mkF m 110 #[.val (.long p0), .second, .val (.long p1), .second, .val (.long p2), .second, .val (.long p3), .second, .val (.long p4), .second, .val (.long p5), .second, .val (.ref b21), .unset, .unset, .unset, .unset, .unset, .unset] [(.ref b54)])) st71 ?_
  refine own_of (S' := T71.setTop (mkF m 111 #[.val (.long p0), .second, .val (.long p1), .second, .val (.long p2), .second, .val (.long p3), .second, .val (.long p4), .second, .val (.long p5), .second, .val (.ref b21), .unset, .unset, .unset, .unset, .unset, .unset] [(.ref b54), (.ref b54)])) (fun t k => XS.dup X71.here hx rfl (hb hby at_110) rfl rfl k) ?_
  refine own_of (S' := T71.setTop (mkF m 112 #[.val (.long p0), .second, .val (.long p1), .second, .val (.long p2), .second, .val (.long p3), .second, .val (.long p4), .second, .val (.long p5), .second, .val (.ref b21), .unset, .unset, .unset, .unset, .unset, .unset] [(.int (4 : Int32)), (.ref b54), (.ref b54)])) (fun t k => XS.iconst X71.here hx rfl (hb hby at_111) k) ?_
  refine own_of (S' := T71.setTop (mkF m 114 #[.val (.long p0), .second, .val (.long p1), .second, .val (.long p2), .second, .val (.long p3), .second, .val (.long p4), .second, .val (.long p5), .second, .val (.ref b21), .unset, .unset, .unset, .unset, .unset, .unset] [(.long p4), (.int (4 : Int32)), (.ref b54), (.ref b54)])) (fun t k => XS.lload X71.here hx rfl (hb hby at_112) rfl k) ?_
  refine own_of (S' := T71.setTop (mkF m 117 #[.val (.long p0), .second, .val (.long p1), .second, .val (.long p2), .second, .val (.long p3), .second, .val (.long p4), .second, .val (.long p5), .second, .val (.ref b21), .unset, .unset, .unset, .unset, .unset, .unset] [(.long (-1 : Int64)), (.long p4), (.int (4 : Int32)), (.ref b54), (.ref b54)])) (X71.ldc2Long hx hown (mvT hZ (hw _ (List.mem_of_getElem? (i := 1) rfl))) (g := (mkF m 114 #[.val (.long p0), .second, .val (.long p1), .second, .val (.long p2), .second, .val (.long p3), .second, .val (.long p4), .second, .val (.long p5), .second, .val (.ref b21), .unset, .unset, .unset, .unset, .unset, .unset] [(.long p4), (.int (4 : Int32)), (.ref b54), (.ref b54)])) rfl (hb hby at_114)) ?_
  refine own_of (S' := T71.setTop (mkF m 118 #[.val (.long p0), .second, .val (.long p1), .second, .val (.long p2), .second, .val (.long p3), .second, .val (.long p4), .second, .val (.long p5), .second, .val (.ref b21), .unset, .unset, .unset, .unset, .unset, .unset] [(.long (p4 ^^^ (-1 : Int64))), (.int (4 : Int32)), (.ref b54), (.ref b54)])) (fun t k => XS.lxor X71.here hx rfl (hb hby at_117) rfl k) ?_
  obtain ⟨T75, h75, X75, e75, W75, V75, st75⟩ := own_stJ X71 hx hZ e71 f73 (j := (4 : Int32)) ⟨by decide, by decide⟩ (g := (mkF m 118 #[.val (.long p0), .second, .val (.long p1), .second, .val (.long p2), .second, .val (.long p3), .second, .val (.long p4), .second, .val (.long p5), .second, .val (.ref b21), .unset, .unset, .unset, .unset, .unset, .unset] [(.long (p4 ^^^ (-1 : Int64))), (.int (4 : Int32)), (.ref b54), (.ref b54)])) rfl rfl (hb hby at_118)
  have f76 : own_AJ Z h75 b21 k21 (10 : Int32) [p0, p1, p2, p3, p4, p5, (p0 ^^^ (-1 : Int64)), (p1 ^^^ (-1 : Int64)), (p2 ^^^ (-1 : Int64)), (p3 ^^^ (-1 : Int64))] := (f72.other W75 ne55)
  have f77 : own_AJ Z h75 b54 k54 (10 : Int32) [(p0 ^^^ (-1 : Int64)), (p1 ^^^ (-1 : Int64)), (p2 ^^^ (-1 : Int64)), (p3 ^^^ (-1 : Int64)), (p4 ^^^ (-1 : Int64)), 0, 0, 0, 0, 0] := V75
  have N75 := Fr.snoc X75 N71 g_b54
  have z78 : n0 ≤ h75.size := Nat.le_trans z74 (Keep.of_wr W75).1
  refine own_of (S' := T75.setTop (mkF m 119 #[.val (.long p0), .second, .val (.long p1), .second, .val (.long p2), .second, .val (.long p3), .second, .val (.long p4), .second, .val (.long p5), .second, .val (.ref b21), .unset, .unset, .unset, .unset, .unset, .unset] [(.ref b54)])) st75 ?_
  refine own_of (S' := T75.setTop (mkF m 120 #[.val (.long p0), .second, .val (.long p1), .second, .val (.long p2), .second, .val (.long p3), .second, .val (.long p4), .second, .val (.long p5), .second, .val (.ref b21), .unset, .unset, .unset, .unset, .unset, .unset] [(.ref b54), (.ref b54)])) (fun t k => XS.dup X75.here hx rfl (hb hby at_119) rfl rfl k) ?_
  refine own_of (S' := T75.setTop (mkF m 121 #[.val (.long p0), .second, .val (.long p1), .second, .val (.long p2), .second, .val (.long p3), .second, .val (.long p4), .second, .val (.long p5), .second, .val (.ref b21), .unset, .unset, .unset, .unset, .unset, .unset] [(.int (5 : Int32)), (.ref b54), (.ref b54)])) (fun t k => XS.iconst X75.here hx rfl (hb hby at_120) k) ?_
  refine own_of (S' := T75.setTop (mkF m 123 #[.val (.long p0), .second, .val (.long p1), .second, .val (.long p2), .second, .val (.long p3), .second, .val (.long p4), .second, .val (.long p5), .second, .val (.ref b21), .unset, .unset, .unset, .unset, .unset, .unset] [(.long p5), (.int (5 : Int32)), (.ref b54), (.ref b54)])) (fun t k => XS.lload X75.here hx rfl (hb hby at_121) rfl k) ?_
  refine own_of (S' := T75.setTop (mkF m 126 #[.val (.long p0), .second, .val (.long p1), .second, .val (.long p2), .second, .val (.long p3), .second, .val (.long p4), .second, .val (.long p5), .second, .val (.ref b21), .unset, .unset, .unset, .unset, .unset, .unset] [(.long (-1 : Int64)), (.long p5), (.int (5 : Int32)), (.ref b54), (.ref b54)])) (X75.ldc2Long hx hown (mvT hZ (hw _ (List.mem_of_getElem? (i := 1) rfl))) (g := (mkF m 123 #[.val (.long p0), .second, .val (.long p1), .second, .val (.long p2), .second, .val (.long p3), .second, .val (.long p4), .second, .val (.long p5), .second, .val (.ref b21), .unset, .unset, .unset, .unset, .unset, .unset] [(.long p5), (.int (5 : Int32)), (.ref b54), (.ref b54)])) rfl (hb hby at_123)) ?_
  refine own_of (S' := T75.setTop (mkF m 127 #[.val (.long p0), .second, .val (.long p1), .second, .val (.long p2), .second, .val (.long p3), .second, .val (.long p4), .second, .val (.long p5), .second, .val (.ref b21), .unset, .unset, .unset, .unset, .unset, .unset] [(.long (p5 ^^^ (-1 : Int64))), (.int (5 : Int32)), (.ref b54), (.ref b54)])) (fun t k => XS.lxor X75.here hx rfl (hb hby at_126) rfl k) ?_
  obtain ⟨T79, h79, X79, e79, W79, V79, st79⟩ := own_stJ X75 hx hZ e75 f77 (j := (5 : Int32)) ⟨by decide, by decide⟩ (g := (mkF m 127 #[.val (.long p0), .second, .val (.long p1), .second, .val (.long p2), .second, .val (.long p3), .second, .val (.long p4), .second, .val (.long p5), .second, .val (.ref b21), .unset, .unset, .unset, .unset, .unset, .unset] [(.long (p5 ^^^ (-1 : Int64))), (.int (5 : Int32)), (.ref b54), (.ref b54)])) rfl rfl (hb hby at_127)
  have f80 : own_AJ Z h79 b21 k21 (10 : Int32) [p0, p1, p2, p3, p4, p5, (p0 ^^^ (-1 : Int64)), (p1 ^^^ (-1 : Int64)), (p2 ^^^ (-1 : Int64)), (p3 ^^^ (-1 : Int64))] := (f76.other W79 ne55)
  have f81 : own_AJ Z h79 b54 k54 (10 : Int32) [(p0 ^^^ (-1 : Int64)), (p1 ^^^ (-1 : Int64)), (p2 ^^^ (-1 : Int64)), (p3 ^^^ (-1 : Int64)), (p4 ^^^ (-1 : Int64)), (p5 ^^^ (-1 : Int64)), 0, 0, 0, 0] := V79
  have N79 := Fr.snoc X79 N75 g_b54
  have z82 : n0 ≤ h79.size := Nat.le_trans z78 (Keep.of_wr W79).1
  refine own_of (S' := T79.setTop (mkF m 128 #[.val (.long p0), .second, .val (.long p1), .second, .val (.long p2), .second, .val (.long p3), .second, .val (.long p4), .second, .val (.long p5), .second, .val (.ref b21), .unset, .unset, .unset, .unset, .unset, .unset] [(.ref b54)])) st79 ?_
  refine own_of (S' := T79.setTop (mkF m 129 #[.val (.long p0), .second, .val (.long p1), .second, .val (.long p2), .second, .val (.long p3), .second, .val (.long p4), .second, .val (.long p5), .second, .val (.ref b21), .unset, .unset, .unset, .unset, .unset, .unset] [(.ref b54), (.ref b54)])) (fun t k => XS.dup X79.here hx rfl (hb hby at_128) rfl rfl k) ?_
  refine own_of (S' := T79.setTop (mkF m 131 #[.val (.long p0), .second, .val (.long p1), .second, .val (.long p2), .second, .val (.long p3), .second, .val (.long p4), .second, .val (.long p5), .second, .val (.ref b21), .unset, .unset, .unset, .unset, .unset, .unset] [(.int (6 : Int32)), (.ref b54), (.ref b54)])) (fun t k => XS.bipush X79.here hx rfl (hb hby at_129) k) ?_
  refine own_of (S' := T79.setTop (mkF m 132 #[.val (.long p0), .second, .val (.long p1), .second, .val (.long p2), .second, .val (.long p3), .second, .val (.long p4), .second, .val (.long p5), .second, .val (.ref b21), .unset, .unset, .unset, .unset, .unset, .unset] [(.long p0), (.int (6 : Int32)), (.ref b54), (.ref b54)])) (fun t k => XS.lloadN X79.here hx rfl (hb hby at_131) rfl k) ?_
  obtain ⟨T83, h83, X83, e83, W83, V83, st83⟩ := own_stJ X79 hx hZ e79 f81 (j := (6 : Int32)) ⟨by decide, by decide⟩ (g := (mkF m 132 #[.val (.long p0), .second, .val (.long p1), .second, .val (.long p2), .second, .val (.long p3), .second, .val (.long p4), .second, .val (.long p5), .second, .val (.ref b21), .unset, .unset, .unset, .unset, .unset, .unset] [(.long p0), (.int (6 : Int32)), (.ref b54), (.ref b54)])) rfl rfl (hb hby at_132)
  have f84 : own_AJ Z h83 b21 k21 (10 : Int32) [p0, p1, p2, p3, p4, p5, (p0 ^^^ (-1 : Int64)), (p1 ^^^ (-1 : Int64)), (p2 ^^^ (-1 : Int64)), (p3 ^^^ (-1 : Int64))] := (f80.other W83 ne55)
  have f85 : own_AJ Z h83 b54 k54 (10 : Int32) [(p0 ^^^ (-1 : Int64)), (p1 ^^^ (-1 : Int64)), (p2 ^^^ (-1 : Int64)), (p3 ^^^ (-1 : Int64)), (p4 ^^^ (-1 : Int64)), (p5 ^^^ (-1 : Int64)), p0, 0, 0, 0] := V83
  have N83 := Fr.snoc X83 N79 g_b54
  have z86 : n0 ≤ h83.size := Nat.le_trans z82 (Keep.of_wr W83).1
  refine own_of (S' := T83.setTop (mkF m 133 #[.val (.long p0), .second, .val (.long p1), .second, .val (.long p2), .second, .val (.long p3), .second, .val (.long p4), .second, .val (.long p5), .second, .val (.ref b21), .unset, .unset, .unset, .unset, .unset, .unset] [(.ref b54)])) st83 ?_
  refine own_of (S' := T83.setTop (mkF m 134 #[.val (.long p0), .second, .val (.long p1), .second, .val (.long p2), .second, .val (.long p3), .second, .val (.long p4), .second, .val (.long p5), .second, .val (.ref b21), .unset, .unset, .unset, .unset, .unset, .unset] [(.ref b54), (.ref b54)])) (fun t k => XS.dup X83.here hx rfl (hb hby at_133) rfl rfl k) ?_
  refine own_of (S' := T83.setTop (mkF m 136 #[.val (.long p0), .second, .val (.long p1), .second, .val (.long p2), .second, .val (.long p3), .second, .val (.long p4), .second, .val (.long p5), .second, .val (.ref b21), .unset, .unset, .unset, .unset, .unset, .unset] [(.int (7 : Int32)), (.ref b54), (.ref b54)])) (fun t k => XS.bipush X83.here hx rfl (hb hby at_134) k) ?_
  refine own_of (S' := T83.setTop (mkF m 137 #[.val (.long p0), .second, .val (.long p1), .second, .val (.long p2), .second, .val (.long p3), .second, .val (.long p4), .second, .val (.long p5), .second, .val (.ref b21), .unset, .unset, .unset, .unset, .unset, .unset] [(.long p1), (.int (7 : Int32)), (.ref b54), (.ref b54)])) (fun t k => XS.lloadN X83.here hx rfl (hb hby at_136) rfl k) ?_
  obtain ⟨T87, h87, X87, e87, W87, V87, st87⟩ := own_stJ X83 hx hZ e83 f85 (j := (7 : Int32)) ⟨by decide, by decide⟩ (g := (mkF m 137 #[.val (.long p0), .second, .val (.long p1), .second, .val (.long p2), .second, .val (.long p3), .second, .val (.long p4), .second, .val (.long p5), .second, .val (.ref b21), .unset, .unset, .unset, .unset, .unset, .unset] [(.long p1), (.int (7 : Int32)), (.ref b54), (.ref b54)])) rfl rfl (hb hby at_137)
  have f88 : own_AJ Z h87 b21 k21 (10 : Int32) [p0, p1, p2, p3, p4, p5, (p0 ^^^ (-1 : Int64)), (p1 ^^^ (-1 : Int64)), (p2 ^^^ (-1 : Int64)), (p3 ^^^ (-1 : Int64))] := (f84.other W87 ne55)
  have f89 : own_AJ Z h87 b54 k54 (10 : Int32) [(p0 ^^^ (-1 : Int64)), (p1 ^^^ (-1 : Int64)), (p2 ^^^ (-1 : Int64)), (p3 ^^^ (-1 : Int64)), (p4 ^^^ (-1 : Int64)), (p5 ^^^ (-1 : Int64)), p0, p1, 0, 0] := V87
  have N87 := Fr.snoc X87 N83 g_b54
  have z90 : n0 ≤ h87.size := Nat.le_trans z86 (Keep.of_wr W87).1
  refine own_of (S' := T87.setTop (mkF m 138 #[.val (.long p0), .second, .val (.long p1), .second, .val (.long p2), .second, .val (.long p3), .second, .val (.long p4), .second, .val (.long p5), .second, .val (.ref b21), .unset, .unset, .unset, .unset, .unset, .unset] [(.ref b54)])) st87 ?_
  refine own_of (S' := T87.setTop (mkF m 139 #[.val (.long p0), .second, .val (.long p1), .second, .val (.long p2), .second, .val (.long p3), .second, .val (.long p4), .second, .val (.long p5), .second, .val (.ref b21), .unset, .unset, .unset, .unset, .unset, .unset] [(.ref b54), (.ref b54)])) (fun t k => XS.dup X87.here hx rfl (hb hby at_138) rfl rfl k) ?_
  refine own_of (S' := T87.setTop (mkF m 141 #[.val (.long p0), .second, .val (.long p1), .second, .val (.long p2), .second, .val (.long p3), .second, .val (.long p4), .second, .val (.long p5), .second, .val (.ref b21), .unset, .unset, .unset, .unset, .unset, .unset] [(.int (8 : Int32)), (.ref b54), (.ref b54)])) (fun t k => XS.bipush X87.here hx rfl (hb hby at_139) k) ?_
  refine own_of (S' := T87.setTop (mkF m 143 #[.val (.long p0), .second, .val (.long p1), .second, .val (.long p2), .second, .val (.long p3), .second, .val (.long p4), .second, .val (.long p5), .second, .val (.ref b21), .unset, .unset, .unset, .unset, .unset, .unset] [(.long p2), (.int (8 : Int32)), (.ref b54), (.ref b54)])) (fun t k => XS.lload X87.here hx rfl (hb hby at_141) rfl k) ?_
  obtain ⟨T91, h91, X91, e91, W91, V91, st91⟩ := own_stJ X87 hx hZ e87 f89 (j := (8 : Int32)) ⟨by decide, by decide⟩ (g := (mkF m 143 #[.val (.long p0), .second, .val (.long p1), .second, .val (.long p2), .second, .val (.long p3), .second, .val (.long p4), .second, .val (.long p5), .second, .val (.ref b21), .unset, .unset, .unset, .unset, .unset, .unset] [(.long p2), (.int (8 : Int32)), (.ref b54), (.ref b54)])) rfl rfl (hb hby at_143)
  have f92 : own_AJ Z h91 b21 k21 (10 : Int32) [p0, p1, p2, p3, p4, p5, (p0 ^^^ (-1 : Int64)), (p1 ^^^ (-1 : Int64)), (p2 ^^^ (-1 : Int64)), (p3 ^^^ (-1 : Int64))] := (f88.other W91 ne55)
  have f93 : own_AJ Z h91 b54 k54 (10 : Int32) [(p0 ^^^ (-1 : Int64)), (p1 ^^^ (-1 : Int64)), (p2 ^^^ (-1 : Int64)), (p3 ^^^ (-1 : Int64)), (p4 ^^^ (-1 : Int64)), (p5 ^^^ (-1 : Int64)), p0, p1, p2, 0] := V91
  have N91 := Fr.snoc X91 N87 g_b54
  have z94 : n0 ≤ h91.size := Nat.le_trans z90 (Keep.of_wr W91).1
  refine own_of (S' := T91.setTop (mkF m 144 #[.val (.long p0), .second, .val (.long p1), .second, .val (.long p2), .second, .val (.long p3), .second, .val (.long p4), .second, .val (.long p5), .second, .val (.ref b21), .unset, .unset, .unset, .unset, .unset, .unset] [(.ref b54)])) st91 ?_
  refine own_of (S' := T91.setTop (mkF m 145 #[.val (.long p0), .second, .val (.long p1), .second, .val (.long p2), .second, .val (.long p3), .second, .val (.long p4), .second, .val (.long p5), .second, .val (.ref b21), .unset, .unset, .unset, .unset, .unset, .unset] [(.ref b54), (.ref b54)])) (fun t k => XS.dup X91.here hx rfl (hb hby at_144) rfl rfl k) ?_
  refine own_of (S' := T91.setTop (mkF m 147 #[.val (.long p0), .second, .val (.long p1), .second, .val (.long p2), .second, .val (.long p3), .second, .val (.long p4), .second, .val (.long p5), .second, .val (.ref b21), .unset, .unset, .unset, .unset, .unset, .unset] [(.int (9 : Int32)), (.ref b54), (.ref b54)])) (fun t k => XS.bipush X91.here hx rfl (hb hby at_145) k) ?_
  refine own_of (S' := T91.setTop (mkF m 149 #[.val (.long p0), .second, .val (.long p1), .second, .val (.long p2), .second, .val (.long p3), .second, .val (.long p4), .second, .val (.long p5), .second, .val (.ref b21), .unset, .unset, .unset, .unset, .unset, .unset] [(.long p3), (.int (9 : Int32)), (.ref b54), (.ref b54)])) (fun t k => XS.lload X91.here hx rfl (hb hby at_147) rfl k) ?_
  obtain ⟨T95, h95, X95, e95, W95, V95, st95⟩ := own_stJ X91 hx hZ e91 f93 (j := (9 : Int32)) ⟨by decide, by decide⟩ (g := (mkF m 149 #[.val (.long p0), .second, .val (.long p1), .second, .val (.long p2), .second, .val (.long p3), .second, .val (.long p4), .second, .val (.long p5), .second, .val (.ref b21), .unset, .unset, .unset, .unset, .unset, .unset] [(.long p3), (.int (9 : Int32)), (.ref b54), (.ref b54)])) rfl rfl (hb hby at_149)
  have f96 : own_AJ Z h95 b21 k21 (10 : Int32) [p0, p1, p2, p3, p4, p5, (p0 ^^^ (-1 : Int64)), (p1 ^^^ (-1 : Int64)), (p2 ^^^ (-1 : Int64)), (p3 ^^^ (-1 : Int64))] := (f92.other W95 ne55)
  have f97 : own_AJ Z h95 b54 k54 (10 : Int32) [(p0 ^^^ (-1 : Int64)), (p1 ^^^ (-1 : Int64)), (p2 ^^^ (-1 : Int64)), (p3 ^^^ (-1 : Int64)), (p4 ^^^ (-1 : Int64)), (p5 ^^^ (-1 : Int64)), p0, p1, p2, p3] := V95
  have N95 := Fr.snoc X95 N91 g_b54
  have z98 : n0 ≤ h95.size := Nat.le_trans z94 (Keep.of_wr W95).1
  refine own_of (S' := T95.setTop (mkF m 150 #[.val (.long p0), .second, .val (.long p1), .second, .val (.long p2), .second, .val (.long p3), .second, .val (.long p4), .second, .val (.long p5), .second, .val (.ref b21), .unset, .unset, .unset, .unset, .unset, .unset] [(.ref b54)])) st95 ?_
  refine own_of (S' := T95.setTop (mkF m 152 #[.val (.long p0), .second, .val (.long p1), .second, .val (.long p2), .second, .val (.long p3), .second, .val (.long p4), .second, .val (.long p5), .second, .val (.ref b21), .val (.ref b54), .unset, .unset, .unset, .unset, .unset] [])) (fun t k => XS.astore X95.here hx rfl (hb hby at_150) rfl rfl (l' := #[.val (.long p0), .second, .val (.long p1), .second, .val (.long p2), .second, .val (.long p3), .second, .val (.long p4), .second, .val (.long p5), .second, .val (.ref b21), .val (.ref b54), .unset, .unset, .unset, .unset, .unset]) rfl k) ?_
  obtain ⟨T99, h99, X99, e99, E99, A99, D99, -, st99⟩ := newO X95 hx hZ hown (hw _ (List.mem_of_getElem? (i := 2) rfl)) (hw _ (List.mem_of_getElem? (i := 3) rfl)) (hw _ (List.mem_of_getElem? (i := 4) rfl)) e95 (g := (mkF m 152 #[.val (.long p0), .second, .val (.long p1), .second, .val (.long p2), .second, .val (.long p3), .second, .val (.long p4), .second, .val (.long p5), .second, .val (.ref b21), .val (.ref b54), .unset, .unset, .unset, .unset, .unset] [])) rfl (hb hby at_152) (by decide) (by decide)
  obtain ⟨b99, g99⟩ : ∃ z, z = h95.size := ⟨_, rfl⟩
  have ne100 : b21 ≠ b99 := by rw [g99]; exact Nat.ne_of_lt f96.lt
  have ne101 : b54 ≠ b99 := by rw [g99]; exact Nat.ne_of_lt f97.lt
  have g_b99 : n0 ≤ b99 := Nat.le_trans z98 (Nat.le_of_eq g99.symm)
  rw [← g99] at A99 D99 st99
  have f102 : own_AJ Z h99 b21 k21 (10 : Int32) [p0, p1, p2, p3, p4, p5, (p0 ^^^ (-1 : Int64)), (p1 ^^^ (-1 : Int64)), (p2 ^^^ (-1 : Int64)), (p3 ^^^ (-1 : Int64))] := (f96.ext E99)
  have f103 : own_AJ Z h99 b54 k54 (10 : Int32) [(p0 ^^^ (-1 : Int64)), (p1 ^^^ (-1 : Int64)), (p2 ^^^ (-1 : Int64)), (p3 ^^^ (-1 : Int64)), (p4 ^^^ (-1 : Int64)), (p5 ^^^ (-1 : Int64)), p0, p1, p2, p3] := (f97.ext E99)
  have f104 : Fld Z h99 b99 "io/bucketry/Ed25519$Element" "limbs" "[J" .null := D99 (Or.inr (hw _ (List.mem_of_getElem? (i := 12) rfl))) (ty := (.array .long)) (by decide)
  have z105 : n0 ≤ h99.size := Nat.le_trans z98 E99.1
  refine own_of (S' := T99.setTop (mkF m 155 #[.val (.long p0), .second, .val (.long p1), .second, .val (.long p2), .second, .val (.long p3), .second, .val (.long p4), .second, .val (.long p5), .second, .val (.ref b21), .val (.ref b54), .unset, .unset, .unset, .unset, .unset] [(.ref b99)])) st99 ?_
  refine own_of (S' := T99.setTop (mkF m 156 #[.val (.long p0), .second, .val (.long p1), .second, .val (.long p2), .second, .val (.long p3), .second, .val (.long p4), .second, .val (.long p5), .second, .val (.ref b21), .val (.ref b54), .unset, .unset, .unset, .unset, .unset] [(.ref b99), (.ref b99)])) (fun t k => XS.dup X99.here hx rfl (hb hby at_155) rfl rfl k) ?_
  refine own_of (S' := T99.setTop (mkF m 158 #[.val (.long p0), .second, .val (.long p1), .second, .val (.long p2), .second, .val (.long p3), .second, .val (.long p4), .second, .val (.long p5), .second, .val (.ref b21), .val (.ref b54), .unset, .unset, .unset, .unset, .unset] [(.ref b21), (.ref b99), (.ref b99)])) (fun t k => XS.aload X99.here hx rfl (hb hby at_156) rfl rfl k) ?_
  suffices k106 : ∀ (T' : State) (locs' : List Loc), Stand p l e room_1 s m #[(.long p0), (.long p1), (.long p2), (.long p3), (.long p4), (.long p5)] below meth c T' locs' 3 21 → Fr n0 locs' → T'.heap = h99 → own_Go p.tables e below G (T'.setTop (mkF m 158 #[.val (.long p0), .second, .val (.long p1), .second, .val (.long p2), .second, .val (.long p3), .second, .val (.long p4), .second, .val (.long p5), .second, .val (.ref b21), .val (.ref b54), .unset, .unset, .unset, .unset, .unset] [(.ref b21), (.ref b99), (.ref b99)])) from k106 T99 _ X99 N95 e99
  intro T106 locs106 X106 N106 e106
  obtain ⟨_, _, ⟨T107, L107, k107, n107⟩, -, X107, ⟨Lc107, hQ107, l107, y107, z107⟩, st107⟩ := X106.specialBack hx (y := (⟨"io/bucketry/Ed25519$Element", "<init>", "([J)V"⟩ : MethodName)) rfl hown (mvT hZ (hw _ (List.mem_of_getElem? (i := 5) rfl))) (mvT hZ (hw _ (List.mem_of_getElem? (i := 6) rfl))) (mvT hZ (hw _ (List.mem_of_getElem? (i := 7) rfl))) (by decide) (backOf (W := 1) (own_rm1 l Z _ hw [] b99 b21 h99 n0 A99 f104 g_b99) hZ (hw _ (List.mem_of_getElem? (i := 7) rfl)) (hw _ (List.mem_of_getElem? (i := 4) rfl)) (by decide) (by decide)) (g := (mkF m 158 #[.val (.long p0), .second, .val (.long p1), .second, .val (.long p2), .second, .val (.long p3), .second, .val (.long p4), .second, .val (.long p5), .second, .val (.ref b21), .val (.ref b54), .unset, .unset, .unset, .unset, .unset] [(.ref b21), (.ref b99), (.ref b99)])) rfl (by rw [hml]; rfl) (Steps.refl _) (a := b99) (argsL := [(.ref b21)]) (rest := [(.ref b99)]) (lenOf own_pd0 rfl) rfl (by show 2 * 0 + _ ≤ _; exact Nat.le_of_eq rfl) (hb hby at_158) (fun _ _ => ⟨rfl, e106, (by decide : 3 + 0 ≤ _), (by decide : 21 + 0 ≤ _)⟩)
  dsimp only [Pt.U, Pt.locs, Pt.cells, Pt.slots] at X107 l107 y107 z107 st107 hQ107
  subst l107 y107 z107
  obtain ⟨rfl, M107, K107, p107_0, p107_1⟩ := hQ107
  have f108 : own_AJ Z T107.heap b21 k21 (10 : Int32) [p0, p1, p2, p3, p4, p5, (p0 ^^^ (-1 : Int64)), (p1 ^^^ (-1 : Int64)), (p2 ^^^ (-1 : Int64)), (p3 ^^^ (-1 : Int64))] := (f102.keep K107 (ninS ne100 nin0))
  have f109 : own_AJ Z T107.heap b54 k54 (10 : Int32) [(p0 ^^^ (-1 : Int64)), (p1 ^^^ (-1 : Int64)), (p2 ^^^ (-1 : Int64)), (p3 ^^^ (-1 : Int64)), (p4 ^^^ (-1 : Int64)), (p5 ^^^ (-1 : Int64)), p0, p1, p2, p3] := (f103.keep K107 (ninS ne101 nin0))
  have f110 : Exa Z T107.heap b99 "io/bucketry/Ed25519$Element" := (A99.keep K107)
  have z111 : n0 ≤ T107.heap.size := Nat.le_trans z105 K107.1
  have N107 := Fr.app N106 M107
  refine own_of (S' := T107.setTop (mkF m 161 #[.val (.long p0), .second, .val (.long p1), .second, .val (.long p2), .second, .val (.long p3), .second, .val (.long p4), .second, .val (.long p5), .second, .val (.ref b21), .val (.ref b54), .unset, .unset, .unset, .unset, .unset] [(.ref b99)])) (fun t k => st107.trans k) ?_
  refine own_of (S' := T107.setTop (mkF m 163 #[.val (.long p0), .second, .val (.long p1), .second, .val (.long p2), .second, .val (.long p3), .second, .val (.long p4), .second, .val (.long p5), .second, .val (.ref b21), .val (.ref b54), .val (.ref b99), .unset, .unset, .unset, .unset] [])) (fun t k => XS.astore X107.here hx rfl (hb hby at_161) rfl rfl (l' := #[.val (.long p0), .second, .val (.long p1), .second, .val (.long p2), .second, .val (.long p3), .second, .val (.long p4), .second, .val (.long p5), .second, .val (.ref b21), .val (.ref b54), .val (.ref b99), .unset, .unset, .unset, .unset]) rfl k) ?_
  obtain ⟨T112, h112, X112, e112, E112, A112, D112, -, st112⟩ := newO X107 hx hZ hown (hw _ (List.mem_of_getElem? (i := 2) rfl)) (hw _ (List.mem_of_getElem? (i := 3) rfl)) (hw _ (List.mem_of_getElem? (i := 4) rfl)) rfl (g := (mkF m 163 #[.val (.long p0), .second, .val (.long p1), .second, .val (.long p2), .second, .val (.long p3), .second, .val (.long p4), .second, .val (.long p5), .second, .val (.ref b21), .val (.ref b54), .val (.ref b99), .unset, .unset, .unset, .unset] [])) rfl (hb hby at_163) (by decide) (by decide)
  obtain ⟨b112, g112⟩ : ∃ z, z = T107.heap.size := ⟨_, rfl⟩
  have ne113 : b21 ≠ b112 := by rw [g112]; exact Nat.ne_of_lt f108.lt
  have ne114 : b54 ≠ b112 := by rw [g112]; exact Nat.ne_of_lt f109.lt
  have ne115 : b99 ≠ b112 := by rw [g112]; exact Nat.ne_of_lt p107_0.lt
  have g_b112 : n0 ≤ b112 := Nat.le_trans z111 (Nat.le_of_eq g112.symm)
  rw [← g112] at A112 D112 st112
  have f116 : own_AJ Z h112 b21 k21 (10 : Int32) [p0, p1, p2, p3, p4, p5, (p0 ^^^ (-1 : Int64)), (p1 ^^^ (-1 : Int64)), (p2 ^^^ (-1 : Int64)), (p3 ^^^ (-1 : Int64))] := (f108.ext E112)
  have f117 : own_AJ Z h112 b54 k54 (10 : Int32) [(p0 ^^^ (-1 : Int64)), (p1 ^^^ (-1 : Int64)), (p2 ^^^ (-1 : Int64)), (p3 ^^^ (-1 : Int64)), (p4 ^^^ (-1 : Int64)), (p5 ^^^ (-1 : Int64)), p0, p1, p2, p3] := (f109.ext E112)
  have f118 : Exa Z h112 b99 "io/bucketry/Ed25519$Element" := (p107_0.ext E112)
  have f119 : Fld Z h112 b99 "io/bucketry/Ed25519$Element" "limbs" "[J" (.ref b21) := (p107_1.ext E112)
  have f120 : Fld Z h112 b112 "io/bucketry/Ed25519$Element" "limbs" "[J" .null := D112 (Or.inr (hw _ (List.mem_of_getElem? (i := 12) rfl))) (ty := (.array .long)) (by decide)
  have z121 : n0 ≤ h112.size := Nat.le_trans z111 E112.1
  refine own_of (S' := T112.setTop (mkF m 166 #[.val (.long p0), .second, .val (.long p1), .second, .val (.long p2), .second, .val (.long p3), .second, .val (.long p4), .second, .val (.long p5), .second, .val (.ref b21), .val (.ref b54), .val (.ref b99), .unset, .unset, .unset, .unset] [(.ref b112)])) st112 ?_
  refine own_of (S' := T112.setTop (mkF m 167 #[.val (.long p0), .second, .val (.long p1), .second, .val (.long p2), .second, .val (.long p3), .second, .val (.long p4), .second, .val (.long p5), .second, .val (.ref b21), .val (.ref b54), .val (.ref b99), .unset, .unset, .unset, .unset] [(.ref b112), (.ref b112)])) (fun t k => XS.dup X112.here hx rfl (hb hby at_166) rfl rfl k) ?_
  refine own_of (S' := T112.setTop (mkF m 169 #[.val (.long p0), .second, .val (.long p1), .second, .val (.long p2), .second, .val (.long p3), .second, .val (.long p4), .second, .val (.long p5), .second, .val (.ref b21), .val (.ref b54), .val (.ref b99), .unset, .unset, .unset, .unset] [(.ref b54), (.ref b112), (.ref b112)])) (fun t k => XS.aload X112.here hx rfl (hb hby at_167) rfl rfl k) ?_
  obtain ⟨_, _, ⟨T122, L122, k122, n122⟩, -, X122, ⟨Lc122, hQ122, l122, y122, z122⟩, st122⟩ := X112.specialBack hx (y := (⟨"io/bucketry/Ed25519$Element", "<init>", "([J)V"⟩ : MethodName)) rfl hown (mvT hZ (hw _ (List.mem_of_getElem? (i := 5) rfl))) (mvT hZ (hw _ (List.mem_of_getElem? (i := 6) rfl))) (mvT hZ (hw _ (List.mem_of_getElem? (i := 7) rfl))) (by decide) (backOf (W := 1) (own_rm1 l Z _ hw [] b112 b54 h112 n0 A112 f120 g_b112) hZ (hw _ (List.mem_of_getElem? (i := 7) rfl)) (hw _ (List.mem_of_getElem? (i := 4) rfl)) (by decide) (by decide)) (g := (mkF m 169 #[.val (.long p0), .second, .val (.long p1), .second, .val (.long p2), .second, .val (.long p3), .second, .val (.long p4), .second, .val (.long p5), .second, .val (.ref b21), .val (.ref b54), .val (.ref b99), .unset, .unset, .unset, .unset] [(.ref b54), (.ref b112), (.ref b112)])) rfl (by rw [hml]; rfl) (Steps.refl _) (a := b112) (argsL := [(.ref b54)]) (rest := [(.ref b112)]) (lenOf own_pd0 rfl) rfl (by show 2 * 0 + _ ≤ _; exact Nat.le_of_eq rfl) (hb hby at_169) (fun _ _ => ⟨rfl, e112, (by decide : 4 + 0 ≤ _), (by decide : 22 + 0 ≤ _)⟩)
  dsimp only [Pt.U, Pt.locs, Pt.cells, Pt.slots] at X122 l122 y122 z122 st122 hQ122
  subst l122 y122 z122
  obtain ⟨rfl, M122, K122, p122_0, p122_1⟩ := hQ122
  have f123 : own_AJ Z T122.heap b21 k21 (10 : Int32) [p0, p1, p2, p3, p4, p5, (p0 ^^^ (-1 : Int64)), (p1 ^^^ (-1 : Int64)), (p2 ^^^ (-1 : Int64)), (p3 ^^^ (-1 : Int64))] := (f116.keep K122 (ninS ne113 nin0))
  have f124 : own_AJ Z T122.heap b54 k54 (10 : Int32) [(p0 ^^^ (-1 : Int64)), (p1 ^^^ (-1 : Int64)), (p2 ^^^ (-1 : Int64)), (p3 ^^^ (-1 : Int64)), (p4 ^^^ (-1 : Int64)), (p5 ^^^ (-1 : Int64)), p0, p1, p2, p3] := (f117.keep K122 (ninS ne114 nin0))
  have f125 : Exa Z T122.heap b99 "io/bucketry/Ed25519$Element" := (f118.keep K122)
  have f126 : Fld Z T122.heap b99 "io/bucketry/Ed25519$Element" "limbs" "[J" (.ref b21) := (f119.keep K122 (ninS ne115 nin0))
  have f127 : Exa Z T122.heap b112 "io/bucketry/Ed25519$Element" := (A112.keep K122)
  have z128 : n0 ≤ T122.heap.size := Nat.le_trans z121 K122.1
  have N122 := Fr.app N107 M122
  refine own_of (S' := T122.setTop (mkF m 172 #[.val (.long p0), .second, .val (.long p1), .second, .val (.long p2), .second, .val (.long p3), .second, .val (.long p4), .second, .val (.long p5), .second, .val (.ref b21), .val (.ref b54), .val (.ref b99), .unset, .unset, .unset, .unset] [(.ref b112)])) (fun t k => st122.trans k) ?_
  refine own_of (S' := T122.setTop (mkF m 174 #[.val (.long p0), .second, .val (.long p1), .second, .val (.long p2), .second, .val (.long p3), .second, .val (.long p4), .second, .val (.long p5), .second, .val (.ref b21), .val (.ref b54), .val (.ref b99), .val (.ref b112), .unset, .unset, .unset] [])) (fun t k => XS.astore X122.here hx rfl (hb hby at_172) rfl rfl (l' := #[.val (.long p0), .second, .val (.long p1), .second, .val (.long p2), .second, .val (.long p3), .second, .val (.long p4), .second, .val (.long p5), .second, .val (.ref b21), .val (.ref b54), .val (.ref b99), .val (.ref b112), .unset, .unset, .unset]) rfl k) ?_
  refine own_of (S' := T122.setTop (mkF m 176 #[.val (.long p0), .second, .val (.long p1), .second, .val (.long p2), .second, .val (.long p3), .second, .val (.long p4), .second, .val (.long p5), .second, .val (.ref b21), .val (.ref b54), .val (.ref b99), .val (.ref b112), .unset, .unset, .unset] [(.ref b112)])) (fun t k => XS.aload X122.here hx rfl (hb hby at_174) rfl rfl k) ?_
  refine own_of (S' := T122.setTop (mkF m 178 #[.val (.long p0), .second, .val (.long p1), .second, .val (.long p2), .second, .val (.long p3), .second, .val (.long p4), .second, .val (.long p5), .second, .val (.ref b21), .val (.ref b54), .val (.ref b99), .val (.ref b112), .unset, .unset, .unset] [(.ref b99), (.ref b112)])) (fun t k => XS.aload X122.here hx rfl (hb hby at_176) rfl rfl k) ?_
  obtain ⟨cq129, kq129, q129a, q129b, q129c⟩ := isOf hZ rfl p122_0
  obtain ⟨_, _, ⟨T129, L129, k129, n129⟩, -, X129, ⟨Lc129, hQ129, l129, y129, z129⟩, st129⟩ := X122.virtualBack hx (y := (⟨"io/bucketry/Ed25519$Element", "set", "(Lio/bucketry/Ed25519$Element;)Lio/bucketry/Ed25519$Element;"⟩ : MethodName)) (z := (⟨"io/bucketry/Ed25519$Element", "set", "(Lio/bucketry/Ed25519$Element;)Lio/bucketry/Ed25519$Element;"⟩ : MethodName)) hown (mvT hZ (hw _ (List.mem_of_getElem? (i := 13) rfl))) (mvT hZ (hw _ (List.mem_of_getElem? (i := 14) rfl))) (notFace_of_selects (args := #[]) (mvT hZ (hw _ (List.mem_of_getElem? (i := 16) rfl)))) (mvT hZ (hw _ (List.mem_of_getElem? (i := 16) rfl))) (mvT hZ (hw _ (List.mem_of_getElem? (i := 15) rfl))) (by decide) (backOf (W := 0) (own_rm2 l Z _ hw [] b112 b99 b54 b21 k54 k21 ([(p0 ^^^ (-1 : Int64)), (p1 ^^^ (-1 : Int64)), (p2 ^^^ (-1 : Int64)), (p3 ^^^ (-1 : Int64)), (p4 ^^^ (-1 : Int64)), (p5 ^^^ (-1 : Int64)), p0, p1, p2, p3]) ([p0, p1, p2, p3, p4, p5, (p0 ^^^ (-1 : Int64)), (p1 ^^^ (-1 : Int64)), (p2 ^^^ (-1 : Int64)), (p3 ^^^ (-1 : Int64))]) T122.heap n0 p122_1 f126 f124 f123 g_b54) hZ (hw _ (List.mem_of_getElem? (i := 17) rfl)) (hw _ (List.mem_of_getElem? (i := 4) rfl)) (by decide) (by decide)) q129a q129c (g := (mkF m 178 #[.val (.long p0), .second, .val (.long p1), .second, .val (.long p2), .second, .val (.long p3), .second, .val (.long p4), .second, .val (.long p5), .second, .val (.ref b21), .val (.ref b54), .val (.ref b99), .val (.ref b112), .unset, .unset, .unset] [(.ref b99), (.ref b112)])) rfl (by rw [hml]; rfl) (Steps.refl _) (argsL := [(.ref b99)]) (rest := []) (lenOf own_pd1 rfl) rfl (by show 2 * 0 + _ ≤ _; exact Nat.le_of_eq rfl) (hb hby at_178) (fun _ _ => ⟨rfl, rfl, (by decide : 4 + 0 ≤ _), (by decide : 22 + 0 ≤ _)⟩)
  dsimp only [Pt.U, Pt.locs, Pt.cells, Pt.slots] at X129 l129 y129 z129 st129 hQ129
  subst l129 y129 z129
  obtain ⟨rfl, M129, K129, p129_0⟩ := hQ129
  have f130 : own_AJ Z T129.heap b21 k21 (10 : Int32) [p0, p1, p2, p3, p4, p5, (p0 ^^^ (-1 : Int64)), (p1 ^^^ (-1 : Int64)), (p2 ^^^ (-1 : Int64)), (p3 ^^^ (-1 : Int64))] := (f123.keep K129 (ninS ne55 nin0))
  have f131 : Exa Z T129.heap b99 "io/bucketry/Ed25519$Element" := (f125.keep K129)
  have f132 : Fld Z T129.heap b99 "io/bucketry/Ed25519$Element" "limbs" "[J" (.ref b21) := (f126.keep K129 (ninS (Ne.symm ne101) nin0))
  have f133 : Exa Z T129.heap b112 "io/bucketry/Ed25519$Element" := (p122_0.keep K129)
  have f134 : Fld Z T129.heap b112 "io/bucketry/Ed25519$Element" "limbs" "[J" (.ref b54) := (p122_1.keep K129 (ninS (Ne.symm ne114) nin0))
  have z135 : n0 ≤ T129.heap.size := Nat.le_trans z128 K129.1
  have N129 := Fr.app N122 M129
  refine own_of (S' := T129.setTop (mkF m 181 #[.val (.long p0), .second, .val (.long p1), .second, .val (.long p2), .second, .val (.long p3), .second, .val (.long p4), .second, .val (.long p5), .second, .val (.ref b21), .val (.ref b54), .val (.ref b99), .val (.ref b112), .unset, .unset, .unset] [(.ref b112)])) (fun t k => st129.trans k) ?_
  refine own_of (S' := T129.setTop (mkF m 183 #[.val (.long p0), .second, .val (.long p1), .second, .val (.long p2), .second, .val (.long p3), .second, .val (.long p4), .second, .val (.long p5), .second, .val (.ref b21), .val (.ref b54), .val (.ref b99), .val (.ref b112), .val (.ref b112), .unset, .unset] [])) (fun t k => XS.astore X129.here hx rfl (hb hby at_181) rfl rfl (l' := #[.val (.long p0), .second, .val (.long p1), .second, .val (.long p2), .second, .val (.long p3), .second, .val (.long p4), .second, .val (.long p5), .second, .val (.ref b21), .val (.ref b54), .val (.ref b99), .val (.ref b112), .val (.ref b112), .unset, .unset]) rfl k) ?_
  refine own_of (S' := T129.setTop (mkF m 185 #[.val (.long p0), .second, .val (.long p1), .second, .val (.long p2), .second, .val (.long p3), .second, .val (.long p4), .second, .val (.long p5), .second, .val (.ref b21), .val (.ref b54), .val (.ref b99), .val (.ref b112), .val (.ref b112), .unset, .unset] [(.ref b112)])) (fun t k => XS.aload X129.here hx rfl (hb hby at_183) rfl rfl k) ?_
  refine own_of (S' := T129.setTop (mkF m 187 #[.val (.long p0), .second, .val (.long p1), .second, .val (.long p2), .second, .val (.long p3), .second, .val (.long p4), .second, .val (.long p5), .second, .val (.ref b21), .val (.ref b54), .val (.ref b99), .val (.ref b112), .val (.ref b112), .unset, .unset] [(.ref b112), (.ref b112)])) (fun t k => XS.aload X129.here hx rfl (hb hby at_185) rfl rfl k) ?_
  refine own_of (S' := T129.setTop (mkF m 190 #[.val (.long p0), .second, .val (.long p1), .second, .val (.long p2), .second, .val (.long p3), .second, .val (.long p4), .second, .val (.long p5), .second, .val (.ref b21), .val (.ref b54), .val (.ref b99), .val (.ref b112), .val (.ref b112), .unset, .unset] [])) (fun t k => Jvm.RoadKit.acmp (g := (mkF m 187 #[.val (.long p0), .second, .val (.long p1), .second, .val (.long p2), .second, .val (.long p3), .second, .val (.long p4), .second, .val (.long p5), .second, .val (.ref b21), .val (.ref b54), .val (.ref b99), .val (.ref b112), .val (.ref b112), .unset, .unset] [(.ref b112), (.ref b112)])) X129 hx rfl rfl rfl (pc0 := 187) (pc' := 190) (same := true) rfl (hb hby at_187) rfl (decide_eq_true rfl) (by decide) (by decide) k) ?_
  refine own_of (S' := T129.setTop (mkF m 192 #[.val (.long p0), .second, .val (.long p1), .second, .val (.long p2), .second, .val (.long p3), .second, .val (.long p4), .second, .val (.long p5), .second, .val (.ref b21), .val (.ref b54), .val (.ref b99), .val (.ref b112), .val (.ref b112), .unset, .unset] [(.ref b112)])) (fun t k => XS.aload X129.here hx rfl (hb hby at_190) rfl rfl k) ?_
  obtain ⟨T136, X136, e136, st136⟩ := getF X129 hx hZ hown (host := "") (Or.inl (hw _ (List.mem_of_getElem? (i := 22) rfl))) Via.refl rfl f134 (g := (mkF m 192 #[.val (.long p0), .second, .val (.long p1), .second, .val (.long p2), .second, .val (.long p3), .second, .val (.long p4), .second, .val (.long p5), .second, .val (.ref b21), .val (.ref b54), .val (.ref b99), .val (.ref b112), .val (.ref b112), .unset, .unset] [(.ref b112)])) rfl rfl (hb hby at_192)
  refine own_of (S' := T136.setTop (mkF m 195 #[.val (.long p0), .second, .val (.long p1), .second, .val (.long p2), .second, .val (.long p3), .second, .val (.long p4), .second, .val (.long p5), .second, .val (.ref b21), .val (.ref b54), .val (.ref b99), .val (.ref b112), .val (.ref b112), .unset, .unset] [(.ref b54)])) st136 ?_
  refine own_of (S' := T136.setTop (mkF m 197 #[.val (.long p0), .second, .val (.long p1), .second, .val (.long p2), .second, .val (.long p3), .second, .val (.long p4), .second, .val (.long p5), .second, .val (.ref b21), .val (.ref b54), .val (.ref b99), .val (.ref b112), .val (.ref b112), .unset, .unset] [(.ref b54), (.ref b54)])) (fun t k => XS.aload X136.here hx rfl (hb hby at_195) rfl rfl k) ?_
  refine own_of (S' := T136.setTop (mkF m 200 #[.val (.long p0), .second, .val (.long p1), .second, .val (.long p2), .second, .val (.long p3), .second, .val (.long p4), .second, .val (.long p5), .second, .val (.ref b21), .val (.ref b54), .val (.ref b99), .val (.ref b112), .val (.ref b112), .unset, .unset] [])) (fun t k => Jvm.RoadKit.acmp (g := (mkF m 197 #[.val (.long p0), .second, .val (.long p1), .second, .val (.long p2), .second, .val (.long p3), .second, .val (.long p4), .second, .val (.long p5), .second, .val (.ref b21), .val (.ref b54), .val (.ref b99), .val (.ref b112), .val (.ref b112), .unset, .unset] [(.ref b54), (.ref b54)])) X136 hx rfl rfl rfl (pc0 := 197) (pc' := 200) (same := true) rfl (hb hby at_197) rfl (decide_eq_true rfl) (by decide) (by decide) k) ?_
  refine own_of (S' := T136.setTop (mkF m 202 #[.val (.long p0), .second, .val (.long p1), .second, .val (.long p2), .second, .val (.long p3), .second, .val (.long p4), .second, .val (.long p5), .second, .val (.ref b21), .val (.ref b54), .val (.ref b99), .val (.ref b112), .val (.ref b112), .unset, .unset] [(.ref b99)])) (fun t k => XS.aload X136.here hx rfl (hb hby at_200) rfl rfl k) ?_
  obtain ⟨T137, X137, e137, st137⟩ := getF X136 hx hZ hown (host := "") (Or.inl (hw _ (List.mem_of_getElem? (i := 22) rfl))) Via.refl e136 f132 (g := (mkF m 202 #[.val (.long p0), .second, .val (.long p1), .second, .val (.long p2), .second, .val (.long p3), .second, .val (.long p4), .second, .val (.long p5), .second, .val (.ref b21), .val (.ref b54), .val (.ref b99), .val (.ref b112), .val (.ref b112), .unset, .unset] [(.ref b99)])) rfl rfl (hb hby at_202)
  refine own_of (S' := T137.setTop (mkF m 205 #[.val (.long p0), .second, .val (.long p1), .second, .val (.long p2), .second, .val (.long p3), .second, .val (.long p4), .second, .val (.long p5), .second, .val (.ref b21), .val (.ref b54), .val (.ref b99), .val (.ref b112), .val (.ref b112), .unset, .unset] [(.ref b21)])) st137 ?_
  refine own_of (S' := T137.setTop (mkF m 207 #[.val (.long p0), .second, .val (.long p1), .second, .val (.long p2), .second, .val (.long p3), .second, .val (.long p4), .second, .val (.long p5), .second, .val (.ref b21), .val (.ref b54), .val (.ref b99), .val (.ref b112), .val (.ref b112), .unset, .unset] [(.ref b21), (.ref b21)])) (fun t k => XS.aload X137.here hx rfl (hb hby at_205) rfl rfl k) ?_
  refine own_of (S' := T137.setTop (mkF m 210 #[.val (.long p0), .second, .val (.long p1), .second, .val (.long p2), .second, .val (.long p3), .second, .val (.long p4), .second, .val (.long p5), .second, .val (.ref b21), .val (.ref b54), .val (.ref b99), .val (.ref b112), .val (.ref b112), .unset, .unset] [])) (fun t k => Jvm.RoadKit.acmp (g := (mkF m 207 #[.val (.long p0), .second, .val (.long p1), .second, .val (.long p2), .second, .val (.long p3), .second, .val (.long p4), .second, .val (.long p5), .second, .val (.ref b21), .val (.ref b54), .val (.ref b99), .val (.ref b112), .val (.ref b112), .unset, .unset] [(.ref b21), (.ref b21)])) X137 hx rfl rfl rfl (pc0 := 207) (pc' := 210) (same := true) rfl (hb hby at_207) rfl (decide_eq_true rfl) (by decide) (by decide) k) ?_
  refine own_of (S' := T137.setTop (mkF m 211 #[.val (.long p0), .second, .val (.long p1), .second, .val (.long p2), .second, .val (.long p3), .second, .val (.long p4), .second, .val (.long p5), .second, .val (.ref b21), .val (.ref b54), .val (.ref b99), .val (.ref b112), .val (.ref b112), .unset, .unset] [(.int (1 : Int32))])) (fun t k => XS.iconst X137.here hx rfl (hb hby at_210) k) ?_
  refine own_of (S' := T137.setTop (mkF m 215 #[.val (.long p0), .second, .val (.long p1), .second, .val (.long p2), .second, .val (.long p3), .second, .val (.long p4), .second, .val (.long p5), .second, .val (.ref b21), .val (.ref b54), .val (.ref b99), .val (.ref b112), .val (.ref b112), .unset, .unset] [(.int (1 : Int32))])) (fun t k => XS.goto X137.here hx rfl (pc0 := 211) (pc' := 215) rfl (hb hby at_211) (by decide) (by decide) k) ?_
  refine own_of (S' := T137.setTop (mkF m 217 #[.val (.long p0), .second, .val (.long p1), .second, .val (.long p2), .second, .val (.long p3), .second, .val (.long p4), .second, .val (.long p5), .second, .val (.ref b21), .val (.ref b54), .val (.ref b99), .val (.ref b112), .val (.ref b112), .val (.int (1 : Int32)), .unset] [])) (fun t k => XS.istore X137.here hx rfl (hb hby at_215) rfl (l' := #[.val (.long p0), .second, .val (.long p1), .second, .val (.long p2), .second, .val (.long p3), .second, .val (.long p4), .second, .val (.long p5), .second, .val (.ref b21), .val (.ref b54), .val (.ref b99), .val (.ref b112), .val (.ref b112), .val (.int (1 : Int32)), .unset]) rfl k) ?_
  refine own_of (S' := T137.setTop (mkF m 219 #[.val (.long p0), .second, .val (.long p1), .second, .val (.long p2), .second, .val (.long p3), .second, .val (.long p4), .second, .val (.long p5), .second, .val (.ref b21), .val (.ref b54), .val (.ref b99), .val (.ref b112), .val (.ref b112), .val (.int (1 : Int32)), .unset] [(.int (1 : Int32))])) (fun t k => XS.iload X137.here hx rfl (hb hby at_217) rfl k) ?_
  have hc219 : ¬ ((1 : Int32) = (0 : Int32)) := by decide
  refine own_of (S' := T137.setTop (mkF m 222 #[.val (.long p0), .second, .val (.long p1), .second, .val (.long p2), .second, .val (.long p3), .second, .val (.long p4), .second, .val (.long p5), .second, .val (.ref b21), .val (.ref b54), .val (.ref b99), .val (.ref b112), .val (.ref b112), .val (.int (1 : Int32)), .unset] [])) (fun t k => XS.ifNo X137.here hx rfl (hb hby at_219) rfl ((if0 _ _).trans (feq hc219).1) k) ?_
  refine own_of (S' := T137.setTop (mkF m 224 #[.val (.long p0), .second, .val (.long p1), .second, .val (.long p2), .second, .val (.long p3), .second, .val (.long p4), .second, .val (.long p5), .second, .val (.ref b21), .val (.ref b54), .val (.ref b99), .val (.ref b112), .val (.ref b112), .val (.int (1 : Int32)), .unset] [(.ref b112)])) (fun t k => XS.aload X137.here hx rfl (hb hby at_222) rfl rfl k) ?_
  obtain ⟨T139, X139, e139, st139⟩ := getF X137 hx hZ hown (host := "") (Or.inl (hw _ (List.mem_of_getElem? (i := 22) rfl))) Via.refl e137 f134 (g := (mkF m 224 #[.val (.long p0), .second, .val (.long p1), .second, .val (.long p2), .second, .val (.long p3), .second, .val (.long p4), .second, .val (.long p5), .second, .val (.ref b21), .val (.ref b54), .val (.ref b99), .val (.ref b112), .val (.ref b112), .val (.int (1 : Int32)), .unset] [(.ref b112)])) rfl rfl (hb hby at_224)
  refine own_of (S' := T139.setTop (mkF m 227 #[.val (.long p0), .second, .val (.long p1), .second, .val (.long p2), .second, .val (.long p3), .second, .val (.long p4), .second, .val (.long p5), .second, .val (.ref b21), .val (.ref b54), .val (.ref b99), .val (.ref b112), .val (.ref b112), .val (.int (1 : Int32)), .unset] [(.ref b54)])) st139 ?_
  refine own_of (S' := T139.setTop (mkF m 228 #[.val (.long p0), .second, .val (.long p1), .second, .val (.long p2), .second, .val (.long p3), .second, .val (.long p4), .second, .val (.long p5), .second, .val (.ref b21), .val (.ref b54), .val (.ref b99), .val (.ref b112), .val (.ref b112), .val (.int (1 : Int32)), .unset] [(.long p0), (.ref b54)])) (fun t k => XS.lloadN X139.here hx rfl (hb hby at_227) rfl k) ?_
  refine own_of (S' := T139.setTop (mkF m 229 #[.val (.long p0), .second, .val (.long p1), .second, .val (.long p2), .second, .val (.long p3), .second, .val (.long p4), .second, .val (.long p5), .second, .val (.ref b21), .val (.ref b54), .val (.ref b99), .val (.ref b112), .val (.ref b112), .val (.int (1 : Int32)), .unset] [(.long p1), (.long p0), (.ref b54)])) (fun t k => XS.lloadN X139.here hx rfl (hb hby at_228) rfl k) ?_
  refine own_of (S' := T139.setTop (mkF m 231 #[.val (.long p0), .second, .val (.long p1), .second, .val (.long p2), .second, .val (.long p3), .second, .val (.long p4), .second, .val (.long p5), .second, .val (.ref b21), .val (.ref b54), .val (.ref b99), .val (.ref b112), .val (.ref b112), .val (.int (1 : Int32)), .unset] [(.long p2), (.long p1), (.long p0), (.ref b54)])) (fun t k => XS.lload X139.here hx rfl (hb hby at_229) rfl k) ?_
  refine own_of (S' := T139.setTop (mkF m 233 #[.val (.long p0), .second, .val (.long p1), .second, .val (.long p2), .second, .val (.long p3), .second, .val (.long p4), .second, .val (.long p5), .second, .val (.ref b21), .val (.ref b54), .val (.ref b99), .val (.ref b112), .val (.ref b112), .val (.int (1 : Int32)), .unset] [(.long p3), (.long p2), (.long p1), (.long p0), (.ref b54)])) (fun t k => XS.lload X139.here hx rfl (hb hby at_231) rfl k) ?_
  refine own_of (S' := T139.setTop (mkF m 235 #[.val (.long p0), .second, .val (.long p1), .second, .val (.long p2), .second, .val (.long p3), .second, .val (.long p4), .second, .val (.long p5), .second, .val (.ref b21), .val (.ref b54), .val (.ref b99), .val (.ref b112), .val (.ref b112), .val (.int (1 : Int32)), .unset] [(.long p4), (.long p3), (.long p2), (.long p1), (.long p0), (.ref b54)])) (fun t k => XS.lload X139.here hx rfl (hb hby at_233) rfl k) ?_
  refine own_of (S' := T139.setTop (mkF m 237 #[.val (.long p0), .second, .val (.long p1), .second, .val (.long p2), .second, .val (.long p3), .second, .val (.long p4), .second, .val (.long p5), .second, .val (.ref b21), .val (.ref b54), .val (.ref b99), .val (.ref b112), .val (.ref b112), .val (.int (1 : Int32)), .unset] [(.long p5), (.long p4), (.long p3), (.long p2), (.long p1), (.long p0), (.ref b54)])) (fun t k => XS.lload X139.here hx rfl (hb hby at_235) rfl k) ?_
  obtain ⟨_, _, ⟨T140, L140, k140, n140⟩, -, X140, ⟨Lc140, hQ140, l140, y140, z140⟩, st140⟩ := Jvm.LawKit.callS X139 hx (y := (⟨"io/bucketry/ElementSetPinLaw", "matches", "([JJJJJJJ)Z"⟩ : MethodName)) hown (mvT hZ (hw _ (List.mem_of_getElem? (i := 23) rfl))) (mvT hZ (hw _ (List.mem_of_getElem? (i := 24) rfl))) (mvT hZ (hw _ (List.mem_of_getElem? (i := 25) rfl))) (mvT hZ (hw _ (List.mem_of_getElem? (i := 26) rfl))) (by decide) (backOf (W := 0) (own_rm3 l Z _ hw [] b54 p0 p1 p2 p3 p4 p5 k54 T129.heap n0 p129_0) hZ (hw _ (List.mem_of_getElem? (i := 26) rfl)) (hw _ (List.mem_of_getElem? (i := 25) rfl)) (by decide) (by decide)) (g := (mkF m 237 #[.val (.long p0), .second, .val (.long p1), .second, .val (.long p2), .second, .val (.long p3), .second, .val (.long p4), .second, .val (.long p5), .second, .val (.ref b21), .val (.ref b54), .val (.ref b99), .val (.ref b112), .val (.ref b112), .val (.int (1 : Int32)), .unset] [(.long p5), (.long p4), (.long p3), (.long p2), (.long p1), (.long p0), (.ref b54)])) rfl (by rw [hml]; rfl) (argsL := [(.ref b54), (.long p0), (.long p1), (.long p2), (.long p3), (.long p4), (.long p5)]) (rest := []) (lenOf own_pd2 rfl) rfl (by show 2 * 0 + _ ≤ _; exact Nat.le_of_eq rfl) (hb hby at_237) (fun _ _ => ⟨rfl, e139, (by decide : 4 + 0 ≤ _), (by decide : 22 + 0 ≤ _)⟩)
  dsimp only [Pt.U, Pt.locs, Pt.cells, Pt.slots] at X140 l140 y140 z140 st140 hQ140
  subst l140 y140 z140
  obtain ⟨rfl, M140, eh140⟩ := hQ140
  have N140 := Fr.app N129 M140
  refine own_of (S' := T140.setTop (mkF m 240 #[.val (.long p0), .second, .val (.long p1), .second, .val (.long p2), .second, .val (.long p3), .second, .val (.long p4), .second, .val (.long p5), .second, .val (.ref b21), .val (.ref b54), .val (.ref b99), .val (.ref b112), .val (.ref b112), .val (.int (1 : Int32)), .unset] [(.int (1 : Int32))])) (fun t k => st140 _ k) ?_
  have hc240 : ¬ ((1 : Int32) = (0 : Int32)) := by decide
  refine own_of (S' := T140.setTop (mkF m 243 #[.val (.long p0), .second, .val (.long p1), .second, .val (.long p2), .second, .val (.long p3), .second, .val (.long p4), .second, .val (.long p5), .second, .val (.ref b21), .val (.ref b54), .val (.ref b99), .val (.ref b112), .val (.ref b112), .val (.int (1 : Int32)), .unset] [])) (fun t k => XS.ifNo X140.here hx rfl (hb hby at_240) rfl ((if0 _ _).trans (feq hc240).1) k) ?_
  refine own_of (S' := T140.setTop (mkF m 244 #[.val (.long p0), .second, .val (.long p1), .second, .val (.long p2), .second, .val (.long p3), .second, .val (.long p4), .second, .val (.long p5), .second, .val (.ref b21), .val (.ref b54), .val (.ref b99), .val (.ref b112), .val (.ref b112), .val (.int (1 : Int32)), .unset] [(.int (1 : Int32))])) (fun t k => XS.iconst X140.here hx rfl (hb hby at_243) k) ?_
  refine own_of (S' := T140.setTop (mkF m 248 #[.val (.long p0), .second, .val (.long p1), .second, .val (.long p2), .second, .val (.long p3), .second, .val (.long p4), .second, .val (.long p5), .second, .val (.ref b21), .val (.ref b54), .val (.ref b99), .val (.ref b112), .val (.ref b112), .val (.int (1 : Int32)), .unset] [(.int (1 : Int32))])) (fun t k => XS.goto X140.here hx rfl (pc0 := 244) (pc' := 248) rfl (hb hby at_244) (by decide) (by decide) k) ?_
  refine own_of (S' := T140.setTop (mkF m 250 #[.val (.long p0), .second, .val (.long p1), .second, .val (.long p2), .second, .val (.long p3), .second, .val (.long p4), .second, .val (.long p5), .second, .val (.ref b21), .val (.ref b54), .val (.ref b99), .val (.ref b112), .val (.ref b112), .val (.int (1 : Int32)), .unset] [])) (fun t k => XS.istore X140.here hx rfl (hb hby at_248) rfl (l' := #[.val (.long p0), .second, .val (.long p1), .second, .val (.long p2), .second, .val (.long p3), .second, .val (.long p4), .second, .val (.long p5), .second, .val (.ref b21), .val (.ref b54), .val (.ref b99), .val (.ref b112), .val (.ref b112), .val (.int (1 : Int32)), .unset]) rfl k) ?_
  refine own_of (S' := T140.setTop (mkF m 252 #[.val (.long p0), .second, .val (.long p1), .second, .val (.long p2), .second, .val (.long p3), .second, .val (.long p4), .second, .val (.long p5), .second, .val (.ref b21), .val (.ref b54), .val (.ref b99), .val (.ref b112), .val (.ref b112), .val (.int (1 : Int32)), .unset] [(.int (1 : Int32))])) (fun t k => XS.iload X140.here hx rfl (hb hby at_250) rfl k) ?_
  have hc252 : ¬ ((1 : Int32) = (0 : Int32)) := by decide
  refine own_of (S' := T140.setTop (mkF m 255 #[.val (.long p0), .second, .val (.long p1), .second, .val (.long p2), .second, .val (.long p3), .second, .val (.long p4), .second, .val (.long p5), .second, .val (.ref b21), .val (.ref b54), .val (.ref b99), .val (.ref b112), .val (.ref b112), .val (.int (1 : Int32)), .unset] [])) (fun t k => XS.ifNo X140.here hx rfl (hb hby at_252) rfl ((if0 _ _).trans (feq hc252).1) k) ?_
  refine own_of (S' := T140.setTop (mkF m 257 #[.val (.long p0), .second, .val (.long p1), .second, .val (.long p2), .second, .val (.long p3), .second, .val (.long p4), .second, .val (.long p5), .second, .val (.ref b21), .val (.ref b54), .val (.ref b99), .val (.ref b112), .val (.ref b112), .val (.int (1 : Int32)), .unset] [(.ref b99)])) (fun t k => XS.aload X140.here hx rfl (hb hby at_255) rfl rfl k) ?_
  obtain ⟨T143, X143, e143, st143⟩ := getF X140 hx hZ hown (host := "") (Or.inl (hw _ (List.mem_of_getElem? (i := 22) rfl))) Via.refl eh140 f132 (g := (mkF m 257 #[.val (.long p0), .second, .val (.long p1), .second, .val (.long p2), .second, .val (.long p3), .second, .val (.long p4), .second, .val (.long p5), .second, .val (.ref b21), .val (.ref b54), .val (.ref b99), .val (.ref b112), .val (.ref b112), .val (.int (1 : Int32)), .unset] [(.ref b99)])) rfl rfl (hb hby at_257)
  refine own_of (S' := T143.setTop (mkF m 260 #[.val (.long p0), .second, .val (.long p1), .second, .val (.long p2), .second, .val (.long p3), .second, .val (.long p4), .second, .val (.long p5), .second, .val (.ref b21), .val (.ref b54), .val (.ref b99), .val (.ref b112), .val (.ref b112), .val (.int (1 : Int32)), .unset] [(.ref b21)])) st143 ?_
  refine own_of (S' := T143.setTop (mkF m 261 #[.val (.long p0), .second, .val (.long p1), .second, .val (.long p2), .second, .val (.long p3), .second, .val (.long p4), .second, .val (.long p5), .second, .val (.ref b21), .val (.ref b54), .val (.ref b99), .val (.ref b112), .val (.ref b112), .val (.int (1 : Int32)), .unset] [(.long p0), (.ref b21)])) (fun t k => XS.lloadN X143.here hx rfl (hb hby at_260) rfl k) ?_
  refine own_of (S' := T143.setTop (mkF m 262 #[.val (.long p0), .second, .val (.long p1), .second, .val (.long p2), .second, .val (.long p3), .second, .val (.long p4), .second, .val (.long p5), .second, .val (.ref b21), .val (.ref b54), .val (.ref b99), .val (.ref b112), .val (.ref b112), .val (.int (1 : Int32)), .unset] [(.long p1), (.long p0), (.ref b21)])) (fun t k => XS.lloadN X143.here hx rfl (hb hby at_261) rfl k) ?_
  refine own_of (S' := T143.setTop (mkF m 264 #[.val (.long p0), .second, .val (.long p1), .second, .val (.long p2), .second, .val (.long p3), .second, .val (.long p4), .second, .val (.long p5), .second, .val (.ref b21), .val (.ref b54), .val (.ref b99), .val (.ref b112), .val (.ref b112), .val (.int (1 : Int32)), .unset] [(.long p2), (.long p1), (.long p0), (.ref b21)])) (fun t k => XS.lload X143.here hx rfl (hb hby at_262) rfl k) ?_
  refine own_of (S' := T143.setTop (mkF m 266 #[.val (.long p0), .second, .val (.long p1), .second, .val (.long p2), .second, .val (.long p3), .second, .val (.long p4), .second, .val (.long p5), .second, .val (.ref b21), .val (.ref b54), .val (.ref b99), .val (.ref b112), .val (.ref b112), .val (.int (1 : Int32)), .unset] [(.long p3), (.long p2), (.long p1), (.long p0), (.ref b21)])) (fun t k => XS.lload X143.here hx rfl (hb hby at_264) rfl k) ?_
  refine own_of (S' := T143.setTop (mkF m 268 #[.val (.long p0), .second, .val (.long p1), .second, .val (.long p2), .second, .val (.long p3), .second, .val (.long p4), .second, .val (.long p5), .second, .val (.ref b21), .val (.ref b54), .val (.ref b99), .val (.ref b112), .val (.ref b112), .val (.int (1 : Int32)), .unset] [(.long p4), (.long p3), (.long p2), (.long p1), (.long p0), (.ref b21)])) (fun t k => XS.lload X143.here hx rfl (hb hby at_266) rfl k) ?_
  refine own_of (S' := T143.setTop (mkF m 270 #[.val (.long p0), .second, .val (.long p1), .second, .val (.long p2), .second, .val (.long p3), .second, .val (.long p4), .second, .val (.long p5), .second, .val (.ref b21), .val (.ref b54), .val (.ref b99), .val (.ref b112), .val (.ref b112), .val (.int (1 : Int32)), .unset] [(.long p5), (.long p4), (.long p3), (.long p2), (.long p1), (.long p0), (.ref b21)])) (fun t k => XS.lload X143.here hx rfl (hb hby at_268) rfl k) ?_
  obtain ⟨_, _, ⟨T144, L144, k144, n144⟩, -, X144, ⟨Lc144, hQ144, l144, y144, z144⟩, st144⟩ := Jvm.LawKit.callS X143 hx (y := (⟨"io/bucketry/ElementSetPinLaw", "matches", "([JJJJJJJ)Z"⟩ : MethodName)) hown (mvT hZ (hw _ (List.mem_of_getElem? (i := 23) rfl))) (mvT hZ (hw _ (List.mem_of_getElem? (i := 24) rfl))) (mvT hZ (hw _ (List.mem_of_getElem? (i := 25) rfl))) (mvT hZ (hw _ (List.mem_of_getElem? (i := 26) rfl))) (by decide) (backOf (W := 0) (own_rm3 l Z _ hw [] b21 p0 p1 p2 p3 p4 p5 k21 T129.heap n0 f130) hZ (hw _ (List.mem_of_getElem? (i := 26) rfl)) (hw _ (List.mem_of_getElem? (i := 25) rfl)) (by decide) (by decide)) (g := (mkF m 270 #[.val (.long p0), .second, .val (.long p1), .second, .val (.long p2), .second, .val (.long p3), .second, .val (.long p4), .second, .val (.long p5), .second, .val (.ref b21), .val (.ref b54), .val (.ref b99), .val (.ref b112), .val (.ref b112), .val (.int (1 : Int32)), .unset] [(.long p5), (.long p4), (.long p3), (.long p2), (.long p1), (.long p0), (.ref b21)])) rfl (by rw [hml]; rfl) (argsL := [(.ref b21), (.long p0), (.long p1), (.long p2), (.long p3), (.long p4), (.long p5)]) (rest := []) (lenOf own_pd2 rfl) rfl (by show 2 * 0 + _ ≤ _; exact Nat.le_of_eq rfl) (hb hby at_270) (fun _ _ => ⟨rfl, e143, (by decide : 4 + 0 ≤ _), (by decide : 22 + 0 ≤ _)⟩)
  dsimp only [Pt.U, Pt.locs, Pt.cells, Pt.slots] at X144 l144 y144 z144 st144 hQ144
  subst l144 y144 z144
  obtain ⟨rfl, M144, eh144⟩ := hQ144
  have N144 := Fr.app N140 M144
  refine own_of (S' := T144.setTop (mkF m 273 #[.val (.long p0), .second, .val (.long p1), .second, .val (.long p2), .second, .val (.long p3), .second, .val (.long p4), .second, .val (.long p5), .second, .val (.ref b21), .val (.ref b54), .val (.ref b99), .val (.ref b112), .val (.ref b112), .val (.int (1 : Int32)), .unset] [(.int (1 : Int32))])) (fun t k => st144 _ k) ?_
  have hc273 : ¬ ((1 : Int32) = (0 : Int32)) := by decide
  refine own_of (S' := T144.setTop (mkF m 276 #[.val (.long p0), .second, .val (.long p1), .second, .val (.long p2), .second, .val (.long p3), .second, .val (.long p4), .second, .val (.long p5), .second, .val (.ref b21), .val (.ref b54), .val (.ref b99), .val (.ref b112), .val (.ref b112), .val (.int (1 : Int32)), .unset] [])) (fun t k => XS.ifNo X144.here hx rfl (hb hby at_273) rfl ((if0 _ _).trans (feq hc273).1) k) ?_
  refine own_of (S' := T144.setTop (mkF m 277 #[.val (.long p0), .second, .val (.long p1), .second, .val (.long p2), .second, .val (.long p3), .second, .val (.long p4), .second, .val (.long p5), .second, .val (.ref b21), .val (.ref b54), .val (.ref b99), .val (.ref b112), .val (.ref b112), .val (.int (1 : Int32)), .unset] [(.int (1 : Int32))])) (fun t k => XS.iconst X144.here hx rfl (hb hby at_276) k) ?_
  refine own_of (S' := T144.setTop (mkF m 281 #[.val (.long p0), .second, .val (.long p1), .second, .val (.long p2), .second, .val (.long p3), .second, .val (.long p4), .second, .val (.long p5), .second, .val (.ref b21), .val (.ref b54), .val (.ref b99), .val (.ref b112), .val (.ref b112), .val (.int (1 : Int32)), .unset] [(.int (1 : Int32))])) (fun t k => XS.goto X144.here hx rfl (pc0 := 277) (pc' := 281) rfl (hb hby at_277) (by decide) (by decide) k) ?_
  refine own_of (S' := T144.setTop (mkF m 283 #[.val (.long p0), .second, .val (.long p1), .second, .val (.long p2), .second, .val (.long p3), .second, .val (.long p4), .second, .val (.long p5), .second, .val (.ref b21), .val (.ref b54), .val (.ref b99), .val (.ref b112), .val (.ref b112), .val (.int (1 : Int32)), .unset] [])) (fun t k => XS.istore X144.here hx rfl (hb hby at_281) rfl (l' := #[.val (.long p0), .second, .val (.long p1), .second, .val (.long p2), .second, .val (.long p3), .second, .val (.long p4), .second, .val (.long p5), .second, .val (.ref b21), .val (.ref b54), .val (.ref b99), .val (.ref b112), .val (.ref b112), .val (.int (1 : Int32)), .unset]) rfl k) ?_
  refine own_of (S' := T144.setTop (mkF m 285 #[.val (.long p0), .second, .val (.long p1), .second, .val (.long p2), .second, .val (.long p3), .second, .val (.long p4), .second, .val (.long p5), .second, .val (.ref b21), .val (.ref b54), .val (.ref b99), .val (.ref b112), .val (.ref b112), .val (.int (1 : Int32)), .unset] [(.ref b112)])) (fun t k => XS.aload X144.here hx rfl (hb hby at_283) rfl rfl k) ?_
  refine own_of (S' := T144.setTop (mkF m 287 #[.val (.long p0), .second, .val (.long p1), .second, .val (.long p2), .second, .val (.long p3), .second, .val (.long p4), .second, .val (.long p5), .second, .val (.ref b21), .val (.ref b54), .val (.ref b99), .val (.ref b112), .val (.ref b112), .val (.int (1 : Int32)), .unset] [(.ref b112), (.ref b112)])) (fun t k => XS.aload X144.here hx rfl (hb hby at_285) rfl rfl k) ?_
  obtain ⟨cq146, kq146, q146a, q146b, q146c⟩ := isOf hZ eh144 f133
  obtain ⟨_, _, ⟨T146, L146, k146, n146⟩, -, X146, ⟨Lc146, hQ146, l146, y146, z146⟩, st146⟩ := X144.virtualBack hx (y := (⟨"io/bucketry/Ed25519$Element", "set", "(Lio/bucketry/Ed25519$Element;)Lio/bucketry/Ed25519$Element;"⟩ : MethodName)) (z := (⟨"io/bucketry/Ed25519$Element", "set", "(Lio/bucketry/Ed25519$Element;)Lio/bucketry/Ed25519$Element;"⟩ : MethodName)) hown (mvT hZ (hw _ (List.mem_of_getElem? (i := 13) rfl))) (mvT hZ (hw _ (List.mem_of_getElem? (i := 14) rfl))) (notFace_of_selects (args := #[]) (mvT hZ (hw _ (List.mem_of_getElem? (i := 16) rfl)))) (mvT hZ (hw _ (List.mem_of_getElem? (i := 16) rfl))) (mvT hZ (hw _ (List.mem_of_getElem? (i := 15) rfl))) (by decide) (backOf (W := 0) (own_rm2 l Z _ hw [] b112 b112 b54 b54 k54 k54 ([p0, p1, p2, p3, p4, p5, (p0 ^^^ (-1 : Int64)), (p1 ^^^ (-1 : Int64)), (p2 ^^^ (-1 : Int64)), (p3 ^^^ (-1 : Int64))]) ([p0, p1, p2, p3, p4, p5, (p0 ^^^ (-1 : Int64)), (p1 ^^^ (-1 : Int64)), (p2 ^^^ (-1 : Int64)), (p3 ^^^ (-1 : Int64))]) T129.heap n0 f134 f134 p129_0 p129_0 g_b54) hZ (hw _ (List.mem_of_getElem? (i := 17) rfl)) (hw _ (List.mem_of_getElem? (i := 4) rfl)) (by decide) (by decide)) q146a q146c (g := (mkF m 287 #[.val (.long p0), .second, .val (.long p1), .second, .val (.long p2), .second, .val (.long p3), .second, .val (.long p4), .second, .val (.long p5), .second, .val (.ref b21), .val (.ref b54), .val (.ref b99), .val (.ref b112), .val (.ref b112), .val (.int (1 : Int32)), .unset] [(.ref b112), (.ref b112)])) rfl (by rw [hml]; rfl) (Steps.refl _) (argsL := [(.ref b112)]) (rest := []) (lenOf own_pd1 rfl) rfl (by show 2 * 0 + _ ≤ _; exact Nat.le_of_eq rfl) (hb hby at_287) (fun _ _ => ⟨rfl, eh144, (by decide : 4 + 0 ≤ _), (by decide : 22 + 0 ≤ _)⟩)
  dsimp only [Pt.U, Pt.locs, Pt.cells, Pt.slots] at X146 l146 y146 z146 st146 hQ146
  subst l146 y146 z146
  obtain ⟨rfl, M146, K146, p146_0⟩ := hQ146
  have f147 : own_AJ Z T146.heap b21 k21 (10 : Int32) [p0, p1, p2, p3, p4, p5, (p0 ^^^ (-1 : Int64)), (p1 ^^^ (-1 : Int64)), (p2 ^^^ (-1 : Int64)), (p3 ^^^ (-1 : Int64))] := (f130.keep K146 (ninS ne55 nin0))
  have f148 : Exa Z T146.heap b99 "io/bucketry/Ed25519$Element" := (f131.keep K146)
  have f149 : Fld Z T146.heap b99 "io/bucketry/Ed25519$Element" "limbs" "[J" (.ref b21) := (f132.keep K146 (ninS (Ne.symm ne101) nin0))
  have f150 : Exa Z T146.heap b112 "io/bucketry/Ed25519$Element" := (f133.keep K146)
  have f151 : Fld Z T146.heap b112 "io/bucketry/Ed25519$Element" "limbs" "[J" (.ref b54) := (f134.keep K146 (ninS (Ne.symm ne114) nin0))
  have z152 : n0 ≤ T146.heap.size := Nat.le_trans z135 K146.1
  have N146 := Fr.app N144 M146
  refine own_of (S' := T146.setTop (mkF m 290 #[.val (.long p0), .second, .val (.long p1), .second, .val (.long p2), .second, .val (.long p3), .second, .val (.long p4), .second, .val (.long p5), .second, .val (.ref b21), .val (.ref b54), .val (.ref b99), .val (.ref b112), .val (.ref b112), .val (.int (1 : Int32)), .unset] [(.ref b112)])) (fun t k => st146.trans k) ?_
  refine own_of (S' := T146.setTop (mkF m 292 #[.val (.long p0), .second, .val (.long p1), .second, .val (.long p2), .second, .val (.long p3), .second, .val (.long p4), .second, .val (.long p5), .second, .val (.ref b21), .val (.ref b54), .val (.ref b99), .val (.ref b112), .val (.ref b112), .val (.int (1 : Int32)), .val (.ref b112)] [])) (fun t k => XS.astore X146.here hx rfl (hb hby at_290) rfl rfl (l' := #[.val (.long p0), .second, .val (.long p1), .second, .val (.long p2), .second, .val (.long p3), .second, .val (.long p4), .second, .val (.long p5), .second, .val (.ref b21), .val (.ref b54), .val (.ref b99), .val (.ref b112), .val (.ref b112), .val (.int (1 : Int32)), .val (.ref b112)]) rfl k) ?_
  refine own_of (S' := T146.setTop (mkF m 294 #[.val (.long p0), .second, .val (.long p1), .second, .val (.long p2), .second, .val (.long p3), .second, .val (.long p4), .second, .val (.long p5), .second, .val (.ref b21), .val (.ref b54), .val (.ref b99), .val (.ref b112), .val (.ref b112), .val (.int (1 : Int32)), .val (.ref b112)] [(.int (1 : Int32))])) (fun t k => XS.iload X146.here hx rfl (hb hby at_292) rfl k) ?_
  have hc294 : ¬ ((1 : Int32) = (0 : Int32)) := by decide
  refine own_of (S' := T146.setTop (mkF m 297 #[.val (.long p0), .second, .val (.long p1), .second, .val (.long p2), .second, .val (.long p3), .second, .val (.long p4), .second, .val (.long p5), .second, .val (.ref b21), .val (.ref b54), .val (.ref b99), .val (.ref b112), .val (.ref b112), .val (.int (1 : Int32)), .val (.ref b112)] [])) (fun t k => XS.ifNo X146.here hx rfl (hb hby at_294) rfl ((if0 _ _).trans (feq hc294).1) k) ?_
  refine own_of (S' := T146.setTop (mkF m 299 #[.val (.long p0), .second, .val (.long p1), .second, .val (.long p2), .second, .val (.long p3), .second, .val (.long p4), .second, .val (.long p5), .second, .val (.ref b21), .val (.ref b54), .val (.ref b99), .val (.ref b112), .val (.ref b112), .val (.int (1 : Int32)), .val (.ref b112)] [(.ref b112)])) (fun t k => XS.aload X146.here hx rfl (hb hby at_297) rfl rfl k) ?_
  refine own_of (S' := T146.setTop (mkF m 301 #[.val (.long p0), .second, .val (.long p1), .second, .val (.long p2), .second, .val (.long p3), .second, .val (.long p4), .second, .val (.long p5), .second, .val (.ref b21), .val (.ref b54), .val (.ref b99), .val (.ref b112), .val (.ref b112), .val (.int (1 : Int32)), .val (.ref b112)] [(.ref b112), (.ref b112)])) (fun t k => XS.aload X146.here hx rfl (hb hby at_299) rfl rfl k) ?_
  refine own_of (S' := T146.setTop (mkF m 304 #[.val (.long p0), .second, .val (.long p1), .second, .val (.long p2), .second, .val (.long p3), .second, .val (.long p4), .second, .val (.long p5), .second, .val (.ref b21), .val (.ref b54), .val (.ref b99), .val (.ref b112), .val (.ref b112), .val (.int (1 : Int32)), .val (.ref b112)] [])) (fun t k => Jvm.RoadKit.acmp (g := (mkF m 301 #[.val (.long p0), .second, .val (.long p1), .second, .val (.long p2), .second, .val (.long p3), .second, .val (.long p4), .second, .val (.long p5), .second, .val (.ref b21), .val (.ref b54), .val (.ref b99), .val (.ref b112), .val (.ref b112), .val (.int (1 : Int32)), .val (.ref b112)] [(.ref b112), (.ref b112)])) X146 hx rfl rfl rfl (pc0 := 301) (pc' := 304) (same := true) rfl (hb hby at_301) rfl (decide_eq_true rfl) (by decide) (by decide) k) ?_
  refine own_of (S' := T146.setTop (mkF m 306 #[.val (.long p0), .second, .val (.long p1), .second, .val (.long p2), .second, .val (.long p3), .second, .val (.long p4), .second, .val (.long p5), .second, .val (.ref b21), .val (.ref b54), .val (.ref b99), .val (.ref b112), .val (.ref b112), .val (.int (1 : Int32)), .val (.ref b112)] [(.ref b112)])) (fun t k => XS.aload X146.here hx rfl (hb hby at_304) rfl rfl k) ?_
  obtain ⟨T154, X154, e154, st154⟩ := getF X146 hx hZ hown (host := "") (Or.inl (hw _ (List.mem_of_getElem? (i := 22) rfl))) Via.refl rfl f151 (g := (mkF m 306 #[.val (.long p0), .second, .val (.long p1), .second, .val (.long p2), .second, .val (.long p3), .second, .val (.long p4), .second, .val (.long p5), .second, .val (.ref b21), .val (.ref b54), .val (.ref b99), .val (.ref b112), .val (.ref b112), .val (.int (1 : Int32)), .val (.ref b112)] [(.ref b112)])) rfl rfl (hb hby at_306)
  refine own_of (S' := T154.setTop (mkF m 309 #[.val (.long p0), .second, .val (.long p1), .second, .val (.long p2), .second, .val (.long p3), .second, .val (.long p4), .second, .val (.long p5), .second, .val (.ref b21), .val (.ref b54), .val (.ref b99), .val (.ref b112), .val (.ref b112), .val (.int (1 : Int32)), .val (.ref b112)] [(.ref b54)])) st154 ?_
  refine own_of (S' := T154.setTop (mkF m 311 #[.val (.long p0), .second, .val (.long p1), .second, .val (.long p2), .second, .val (.long p3), .second, .val (.long p4), .second, .val (.long p5), .second, .val (.ref b21), .val (.ref b54), .val (.ref b99), .val (.ref b112), .val (.ref b112), .val (.int (1 : Int32)), .val (.ref b112)] [(.ref b54), (.ref b54)])) (fun t k => XS.aload X154.here hx rfl (hb hby at_309) rfl rfl k) ?_
  refine own_of (S' := T154.setTop (mkF m 314 #[.val (.long p0), .second, .val (.long p1), .second, .val (.long p2), .second, .val (.long p3), .second, .val (.long p4), .second, .val (.long p5), .second, .val (.ref b21), .val (.ref b54), .val (.ref b99), .val (.ref b112), .val (.ref b112), .val (.int (1 : Int32)), .val (.ref b112)] [])) (fun t k => Jvm.RoadKit.acmp (g := (mkF m 311 #[.val (.long p0), .second, .val (.long p1), .second, .val (.long p2), .second, .val (.long p3), .second, .val (.long p4), .second, .val (.long p5), .second, .val (.ref b21), .val (.ref b54), .val (.ref b99), .val (.ref b112), .val (.ref b112), .val (.int (1 : Int32)), .val (.ref b112)] [(.ref b54), (.ref b54)])) X154 hx rfl rfl rfl (pc0 := 311) (pc' := 314) (same := true) rfl (hb hby at_311) rfl (decide_eq_true rfl) (by decide) (by decide) k) ?_
  refine own_of (S' := T154.setTop (mkF m 315 #[.val (.long p0), .second, .val (.long p1), .second, .val (.long p2), .second, .val (.long p3), .second, .val (.long p4), .second, .val (.long p5), .second, .val (.ref b21), .val (.ref b54), .val (.ref b99), .val (.ref b112), .val (.ref b112), .val (.int (1 : Int32)), .val (.ref b112)] [(.int (1 : Int32))])) (fun t k => XS.iconst X154.here hx rfl (hb hby at_314) k) ?_
  refine own_of (S' := T154.setTop (mkF m 319 #[.val (.long p0), .second, .val (.long p1), .second, .val (.long p2), .second, .val (.long p3), .second, .val (.long p4), .second, .val (.long p5), .second, .val (.ref b21), .val (.ref b54), .val (.ref b99), .val (.ref b112), .val (.ref b112), .val (.int (1 : Int32)), .val (.ref b112)] [(.int (1 : Int32))])) (fun t k => XS.goto X154.here hx rfl (pc0 := 315) (pc' := 319) rfl (hb hby at_315) (by decide) (by decide) k) ?_
  refine own_of (S' := T154.setTop (mkF m 321 #[.val (.long p0), .second, .val (.long p1), .second, .val (.long p2), .second, .val (.long p3), .second, .val (.long p4), .second, .val (.long p5), .second, .val (.ref b21), .val (.ref b54), .val (.ref b99), .val (.ref b112), .val (.ref b112), .val (.int (1 : Int32)), .val (.ref b112)] [])) (fun t k => XS.istore X154.here hx rfl (hb hby at_319) rfl (l' := #[.val (.long p0), .second, .val (.long p1), .second, .val (.long p2), .second, .val (.long p3), .second, .val (.long p4), .second, .val (.long p5), .second, .val (.ref b21), .val (.ref b54), .val (.ref b99), .val (.ref b112), .val (.ref b112), .val (.int (1 : Int32)), .val (.ref b112)]) rfl k) ?_
  refine own_of (S' := T154.setTop (mkF m 323 #[.val (.long p0), .second, .val (.long p1), .second, .val (.long p2), .second, .val (.long p3), .second, .val (.long p4), .second, .val (.long p5), .second, .val (.ref b21), .val (.ref b54), .val (.ref b99), .val (.ref b112), .val (.ref b112), .val (.int (1 : Int32)), .val (.ref b112)] [(.int (1 : Int32))])) (fun t k => XS.iload X154.here hx rfl (hb hby at_321) rfl k) ?_
  have hc323 : ¬ ((1 : Int32) = (0 : Int32)) := by decide
  refine own_of (S' := T154.setTop (mkF m 326 #[.val (.long p0), .second, .val (.long p1), .second, .val (.long p2), .second, .val (.long p3), .second, .val (.long p4), .second, .val (.long p5), .second, .val (.ref b21), .val (.ref b54), .val (.ref b99), .val (.ref b112), .val (.ref b112), .val (.int (1 : Int32)), .val (.ref b112)] [])) (fun t k => XS.ifNo X154.here hx rfl (hb hby at_323) rfl ((if0 _ _).trans (feq hc323).1) k) ?_
  refine own_of (S' := T154.setTop (mkF m 328 #[.val (.long p0), .second, .val (.long p1), .second, .val (.long p2), .second, .val (.long p3), .second, .val (.long p4), .second, .val (.long p5), .second, .val (.ref b21), .val (.ref b54), .val (.ref b99), .val (.ref b112), .val (.ref b112), .val (.int (1 : Int32)), .val (.ref b112)] [(.ref b112)])) (fun t k => XS.aload X154.here hx rfl (hb hby at_326) rfl rfl k) ?_
  obtain ⟨T156, X156, e156, st156⟩ := getF X154 hx hZ hown (host := "") (Or.inl (hw _ (List.mem_of_getElem? (i := 22) rfl))) Via.refl e154 f151 (g := (mkF m 328 #[.val (.long p0), .second, .val (.long p1), .second, .val (.long p2), .second, .val (.long p3), .second, .val (.long p4), .second, .val (.long p5), .second, .val (.ref b21), .val (.ref b54), .val (.ref b99), .val (.ref b112), .val (.ref b112), .val (.int (1 : Int32)), .val (.ref b112)] [(.ref b112)])) rfl rfl (hb hby at_328)
  refine own_of (S' := T156.setTop (mkF m 331 #[.val (.long p0), .second, .val (.long p1), .second, .val (.long p2), .second, .val (.long p3), .second, .val (.long p4), .second, .val (.long p5), .second, .val (.ref b21), .val (.ref b54), .val (.ref b99), .val (.ref b112), .val (.ref b112), .val (.int (1 : Int32)), .val (.ref b112)] [(.ref b54)])) st156 ?_
  refine own_of (S' := T156.setTop (mkF m 332 #[.val (.long p0), .second, .val (.long p1), .second, .val (.long p2), .second, .val (.long p3), .second, .val (.long p4), .second, .val (.long p5), .second, .val (.ref b21), .val (.ref b54), .val (.ref b99), .val (.ref b112), .val (.ref b112), .val (.int (1 : Int32)), .val (.ref b112)] [(.long p0), (.ref b54)])) (fun t k => XS.lloadN X156.here hx rfl (hb hby at_331) rfl k) ?_
  refine own_of (S' := T156.setTop (mkF m 333 #[.val (.long p0), .second, .val (.long p1), .second, .val (.long p2), .second, .val (.long p3), .second, .val (.long p4), .second, .val (.long p5), .second, .val (.ref b21), .val (.ref b54), .val (.ref b99), .val (.ref b112), .val (.ref b112), .val (.int (1 : Int32)), .val (.ref b112)] [(.long p1), (.long p0), (.ref b54)])) (fun t k => XS.lloadN X156.here hx rfl (hb hby at_332) rfl k) ?_
  refine own_of (S' := T156.setTop (mkF m 335 #[.val (.long p0), .second, .val (.long p1), .second, .val (.long p2), .second, .val (.long p3), .second, .val (.long p4), .second, .val (.long p5), .second, .val (.ref b21), .val (.ref b54), .val (.ref b99), .val (.ref b112), .val (.ref b112), .val (.int (1 : Int32)), .val (.ref b112)] [(.long p2), (.long p1), (.long p0), (.ref b54)])) (fun t k => XS.lload X156.here hx rfl (hb hby at_333) rfl k) ?_
  refine own_of (S' := T156.setTop (mkF m 337 #[.val (.long p0), .second, .val (.long p1), .second, .val (.long p2), .second, .val (.long p3), .second, .val (.long p4), .second, .val (.long p5), .second, .val (.ref b21), .val (.ref b54), .val (.ref b99), .val (.ref b112), .val (.ref b112), .val (.int (1 : Int32)), .val (.ref b112)] [(.long p3), (.long p2), (.long p1), (.long p0), (.ref b54)])) (fun t k => XS.lload X156.here hx rfl (hb hby at_335) rfl k) ?_
  refine own_of (S' := T156.setTop (mkF m 339 #[.val (.long p0), .second, .val (.long p1), .second, .val (.long p2), .second, .val (.long p3), .second, .val (.long p4), .second, .val (.long p5), .second, .val (.ref b21), .val (.ref b54), .val (.ref b99), .val (.ref b112), .val (.ref b112), .val (.int (1 : Int32)), .val (.ref b112)] [(.long p4), (.long p3), (.long p2), (.long p1), (.long p0), (.ref b54)])) (fun t k => XS.lload X156.here hx rfl (hb hby at_337) rfl k) ?_
  refine own_of (S' := T156.setTop (mkF m 341 #[.val (.long p0), .second, .val (.long p1), .second, .val (.long p2), .second, .val (.long p3), .second, .val (.long p4), .second, .val (.long p5), .second, .val (.ref b21), .val (.ref b54), .val (.ref b99), .val (.ref b112), .val (.ref b112), .val (.int (1 : Int32)), .val (.ref b112)] [(.long p5), (.long p4), (.long p3), (.long p2), (.long p1), (.long p0), (.ref b54)])) (fun t k => XS.lload X156.here hx rfl (hb hby at_339) rfl k) ?_
  obtain ⟨_, _, ⟨T157, L157, k157, n157⟩, -, X157, ⟨Lc157, hQ157, l157, y157, z157⟩, st157⟩ := Jvm.LawKit.callS X156 hx (y := (⟨"io/bucketry/ElementSetPinLaw", "matches", "([JJJJJJJ)Z"⟩ : MethodName)) hown (mvT hZ (hw _ (List.mem_of_getElem? (i := 23) rfl))) (mvT hZ (hw _ (List.mem_of_getElem? (i := 24) rfl))) (mvT hZ (hw _ (List.mem_of_getElem? (i := 25) rfl))) (mvT hZ (hw _ (List.mem_of_getElem? (i := 26) rfl))) (by decide) (backOf (W := 0) (own_rm3 l Z _ hw [] b54 p0 p1 p2 p3 p4 p5 k54 T146.heap n0 p146_0) hZ (hw _ (List.mem_of_getElem? (i := 26) rfl)) (hw _ (List.mem_of_getElem? (i := 25) rfl)) (by decide) (by decide)) (g := (mkF m 341 #[.val (.long p0), .second, .val (.long p1), .second, .val (.long p2), .second, .val (.long p3), .second, .val (.long p4), .second, .val (.long p5), .second, .val (.ref b21), .val (.ref b54), .val (.ref b99), .val (.ref b112), .val (.ref b112), .val (.int (1 : Int32)), .val (.ref b112)] [(.long p5), (.long p4), (.long p3), (.long p2), (.long p1), (.long p0), (.ref b54)])) rfl (by rw [hml]; rfl) (argsL := [(.ref b54), (.long p0), (.long p1), (.long p2), (.long p3), (.long p4), (.long p5)]) (rest := []) (lenOf own_pd2 rfl) rfl (by show 2 * 0 + _ ≤ _; exact Nat.le_of_eq rfl) (hb hby at_341) (fun _ _ => ⟨rfl, e156, (by decide : 4 + 0 ≤ _), (by decide : 22 + 0 ≤ _)⟩)
  dsimp only [Pt.U, Pt.locs, Pt.cells, Pt.slots] at X157 l157 y157 z157 st157 hQ157
  subst l157 y157 z157
  obtain ⟨rfl, M157, eh157⟩ := hQ157
  have N157 := Fr.app N146 M157
  refine own_of (S' := T157.setTop (mkF m 344 #[.val (.long p0), .second, .val (.long p1), .second, .val (.long p2), .second, .val (.long p3), .second, .val (.long p4), .second, .val (.long p5), .second, .val (.ref b21), .val (.ref b54), .val (.ref b99), .val (.ref b112), .val (.ref b112), .val (.int (1 : Int32)), .val (.ref b112)] [(.int (1 : Int32))])) (fun t k => st157 _ k) ?_
  have hc344 : ¬ ((1 : Int32) = (0 : Int32)) := by decide
  refine own_of (S' := T157.setTop (mkF m 347 #[.val (.long p0), .second, .val (.long p1), .second, .val (.long p2), .second, .val (.long p3), .second, .val (.long p4), .second, .val (.long p5), .second, .val (.ref b21), .val (.ref b54), .val (.ref b99), .val (.ref b112), .val (.ref b112), .val (.int (1 : Int32)), .val (.ref b112)] [])) (fun t k => XS.ifNo X157.here hx rfl (hb hby at_344) rfl ((if0 _ _).trans (feq hc344).1) k) ?_
  refine own_of (S' := T157.setTop (mkF m 348 #[.val (.long p0), .second, .val (.long p1), .second, .val (.long p2), .second, .val (.long p3), .second, .val (.long p4), .second, .val (.long p5), .second, .val (.ref b21), .val (.ref b54), .val (.ref b99), .val (.ref b112), .val (.ref b112), .val (.int (1 : Int32)), .val (.ref b112)] [(.int (1 : Int32))])) (fun t k => XS.iconst X157.here hx rfl (hb hby at_347) k) ?_
  refine own_of (S' := T157.setTop (mkF m 352 #[.val (.long p0), .second, .val (.long p1), .second, .val (.long p2), .second, .val (.long p3), .second, .val (.long p4), .second, .val (.long p5), .second, .val (.ref b21), .val (.ref b54), .val (.ref b99), .val (.ref b112), .val (.ref b112), .val (.int (1 : Int32)), .val (.ref b112)] [(.int (1 : Int32))])) (fun t k => XS.goto X157.here hx rfl (pc0 := 348) (pc' := 352) rfl (hb hby at_348) (by decide) (by decide) k) ?_
  refine own_of (S' := T157.setTop (mkF m 354 #[.val (.long p0), .second, .val (.long p1), .second, .val (.long p2), .second, .val (.long p3), .second, .val (.long p4), .second, .val (.long p5), .second, .val (.ref b21), .val (.ref b54), .val (.ref b99), .val (.ref b112), .val (.ref b112), .val (.int (1 : Int32)), .val (.ref b112)] [])) (fun t k => XS.istore X157.here hx rfl (hb hby at_352) rfl (l' := #[.val (.long p0), .second, .val (.long p1), .second, .val (.long p2), .second, .val (.long p3), .second, .val (.long p4), .second, .val (.long p5), .second, .val (.ref b21), .val (.ref b54), .val (.ref b99), .val (.ref b112), .val (.ref b112), .val (.int (1 : Int32)), .val (.ref b112)]) rfl k) ?_
  refine own_of (S' := T157.setTop (mkF m 356 #[.val (.long p0), .second, .val (.long p1), .second, .val (.long p2), .second, .val (.long p3), .second, .val (.long p4), .second, .val (.long p5), .second, .val (.ref b21), .val (.ref b54), .val (.ref b99), .val (.ref b112), .val (.ref b112), .val (.int (1 : Int32)), .val (.ref b112)] [(.int (1 : Int32))])) (fun t k => XS.iload X157.here hx rfl (hb hby at_354) rfl k) ?_
  obtain ⟨fs, hr, hrun, hended, hW, hsame⟩ := X157.leave (v := some (.int (nar .boolean (1 : Int32)))) (fun h => by rw [Bd.returns] at h; cases h)
  refine ⟨_, _, retN X157 hx (t := .boolean) Bd.returns (by simp) (hb hby at_356) hr, hrun, hended, hG _ _ ⟨_, _, rfl, ?_, ⟨_, rfl⟩, hW, hsame.mono (by decide) (by decide)⟩⟩
  show own_Q0 Z p0 p1 p2 p3 p4 p5 h0 n0 _ T157.heap _
  rw [eh157]
  exact ⟨rfl, N157⟩
set_option maxRecDepth 65536 in
set_option maxHeartbeats 40000000 in
theorem own_comes {Post : Tables → Env → Array Value → State → Outcome → State → Prop} (hpost : ∀ tb e args s v u, (limb_1_1.after args s (.returned v) u = true ∧ limb_1_2.after args s (.returned v) u = true ∧ True) → FrameEnd s (.returned v) u (Jvm.fieldLocs frame_1_writes args s ++ Jvm.arrayLocs frame_1_arrays args s ++ Jvm.staticLocs frame_1_statics s) 16 128 → Post tb e args s (.returned v) u) :
    ArmFor flags0 classFile x code maxLocals ret World_1 tables_1 room_1 Calls_1 rest_1 Pre_1 Post := by
  intro l hfl _ _ p e ha hc hk s m args below hf hA hF happ hP
  obtain ⟨hcalls, hrest, hpre⟩ := hP
  obtain ⟨-, -, -, hnamed, -, -, -, hat⟩ := (Spec.applies_iff hf).mp happ
  obtain ⟨hg, hn⟩ := and_e (Cond.before_iff.mp (show (Jvm.Cond.and given_1 narrow_1).before args s = true from hpre))
  obtain ⟨hcount, hg0⟩ := and_e hg
  obtain ⟨ha0, hg1⟩ := and_e hg0
  obtain ⟨ha1, hg2⟩ := and_e hg1
  obtain ⟨ha2, hg3⟩ := and_e hg2
  obtain ⟨ha3, hg4⟩ := and_e hg3
  obtain ⟨ha4, hg5⟩ := and_e hg4
  obtain ⟨w0, w1, w2, w3, w4, w5, rfl⟩ : ∃ w0 w1 w2 w3 w4 w5 : Value, args = #[w0, w1, w2, w3, w4, w5] := by
    have hs : args.size = 6 := by simpa [Cond.value, given_1] using hcount
    obtain ⟨L⟩ := args
    match L, hs with
    | [w0, w1, w2, w3, w4, w5], _ => exact ⟨w0, w1, w2, w3, w4, w5, rfl⟩
  have hw := fun d (hd : d ∈ tables_1) => atoms_spec (ws := Jvm.Cond.code x code maxLocals ret :: tables_1) hat d (List.mem_cons_of_mem _ hd)
  obtain ⟨i0, ei0⟩ := isL_v ha0
  obtain rfl : w0 = (.long i0) := Option.some.inj ei0
  obtain ⟨i1, ei1⟩ := isL_v ha1
  obtain rfl : w1 = (.long i1) := Option.some.inj ei1
  obtain ⟨i2, ei2⟩ := isL_v ha2
  obtain rfl : w2 = (.long i2) := Option.some.inj ei2
  obtain ⟨i3, ei3⟩ := isL_v ha3
  obtain rfl : w3 = (.long i3) := Option.some.inj ei3
  obtain ⟨i4, ei4⟩ := isL_v ha4
  obtain rfl : w4 = (.long i4) := Option.some.inj ei4
  obtain ⟨i5, ei5⟩ := isL_v hg5
  obtain rfl : w5 = (.long i5) := Option.some.inj ei5
  obtain ⟨n, o, h1, h2, h3, _, L, rfl, ⟨rfl, N⟩, hq⟩ := own_rm0 l s _ hw tables_1 i0 i1 i2 i3 i4 i5 s.heap s.heap.size (Nat.le_refl _) p e ha hc hk s m _ below hf ((Spec.applies_iff_loose hf).mp happ).1 ⟨rfl, State.Warmed39.refl s, rfl⟩ trivial
  exact ⟨n, _, h1, h2, h3, hpost _ _ _ _ _ _ ⟨Cond.after_iff.mpr rfl, Cond.after_iff.mpr (eq_i res_at (Term.int_eval (1)) rfl), trivial⟩ ⟨hq.1, hq.2.1, (hq.2.2.sift fun y hy => Or.inr (N y hy)).mono (by decide) (by decide)⟩⟩
theorem main_1_1 : Claimed_1_1 := own_comes fun _ _ _ _ _ _ h hF => ⟨h.1, hF⟩
theorem main_1_2 : Claimed_1_2 := own_comes fun _ _ _ _ _ _ h hF => ⟨h.2.1, hF⟩
end Jvm.Pilot.@@N@@
namespace Jvm.Pilot.@@N@@
open Jvm Jvm.ClassFile Sem Op Lib Jvm.Free Jvm.Stand Jvm.Pilot.@@N@@.Jvm.D
/-! MADE BY PROGRAM (witnessworld.py) out of the Statement's table words and the real class files: 12 classes; the members and pool entries that the words name. The judged class is class 1, her method 2. -/
namespace start1
open Jvm.ClassFile
def u (s : String) : CpInfo := .utf8 (stringToUtf16 s)
/-- a pool by its gaps: so many unusable entries, then the entry; so many at the end -/
def gap : Nat → List CpInfo → List CpInfo
  | 0, r => r
  | n + 1, r => .unusable :: gap n r
def poolList (es : List (Nat × CpInfo)) (last : Nat) : List CpInfo := es.foldr (fun e r => gap e.1 (e.2 :: r)) (gap last [])
def pool (es : List (Nat × CpInfo)) (last : Nat) : Array CpInfo := ⟨poolList es last⟩
def fileOf (pool : Array CpInfo) (this : Nat) (attrs : Array Attribute := #[]) (ms : Array MethodInfo := #[]) (fl : Nat := 33) (sup : Nat := 0) (ifs : Array Nat := #[]) (fds : Array FieldInfo := #[]) : ClassFile where
  minorVersion := 0
  majorVersion := 65
  constantPool := pool
  accessFlags := fl
  thisClass := this
  superClass := sup
  interfaces := ifs
  fields := fds
  methods := ms
  attributes := attrs
def plain (name : String) (sup : Option ClassId) : Class where
  name := name
  kind := .ordinary
  loader := none
  accessFlags := 33
  super := sup
  interfaces := #[]
  cf := none
  fields := #[]
  methods := #[]
  instanceTypes := #[]
  staticTypes := #[]
  resolved := #[]
  callSites := []
  init := .initialized
  statics := none
  mirror := none

def pool0 : Array CpInfo := pool [(5, u "<init>"), (0, u "()V"), (1, .class_ 10), (1, u "java/lang/Object")] 113

def k0c0 : Code := { maxStack := 0, maxLocals := 1, code := object_method_1_code, exceptionTable := #[], attributes := #[] }
def k0m0 : Method := { name := "<init>", desc := "()V", sig := { parameters := [], returnType := none }, accessFlags := 1, code := some k0c0 }
/-- java/lang/Object -/
def k0 : Class := { plain "java/lang/Object" none with
  accessFlags := 33
  interfaces := #[]
  cf := some (fileOf pool0 8 #[] #[{ accessFlags := 1, nameIndex := 5, descriptorIndex := 6, attributes := #[] }] 33 0 #[] #[])
  fields := #[]
  methods := #[k0m0]
  instanceTypes := #[]
  staticTypes := #[]
  resolved := Array.replicate 124 none
  statics := none }

def pool1 : Array CpInfo := pool [(2, .class_ 4), (1, u "java/lang/Object"), (0, u "<init>"), (0, u "()V"), (0, .long 18446744073709551615), (1, .class_ 10), (0, u "io/bucketry/Ed25519$Element"), (0, .methodref 9 12), (0, .nameAndType 5 13), (0, u "([J)V"), (0, .methodref 9 15), (0, .nameAndType 16 17), (0, u "set"), (0, u "(Lio/bucketry/Ed25519$Element;)Lio/bucketry/Ed25519$Element;"), (0, .fieldref 9 19), (0, .nameAndType 20 21), (0, u "limbs"), (0, u "[J"), (0, .methodref 23 24), (0, .class_ 25), (0, .nameAndType 26 27), (0, u "io/bucketry/ElementSetPinLaw"), (0, u "matches"), (0, u "([JJJJJJJ)Z"), (3, u "law"), (0, u "(JJJJJJ)Z")] 7

def k1m0 : Method := { name := "<init>", desc := "()V", sig := { parameters := [], returnType := none }, accessFlags := 2, code := none }
def k1c1 : Code := { maxStack := 6, maxLocals := 13, code := method_2_code, exceptionTable := #[], attributes := #[] }
def k1m1 : Method := { name := "matches", desc := "([JJJJJJJ)Z", sig := { parameters := [(.array .long), .long, .long, .long, .long, .long, .long], returnType := some .boolean }, accessFlags := 10, code := some k1c1 }
def k1c2 : Code := { maxStack := 13, maxLocals := 19, code := code, exceptionTable := #[], attributes := #[] }
def k1m2 : Method := { name := "law", desc := "(JJJJJJ)Z", sig := { parameters := [.long, .long, .long, .long, .long, .long], returnType := some .boolean }, accessFlags := 9, code := some k1c2 }
/-- io/bucketry/ElementSetPinLaw -/
def k1 : Class := { plain "io/bucketry/ElementSetPinLaw" (some 0) with
  accessFlags := 49
  interfaces := #[]
  cf := some (fileOf pool1 23 #[] #[{ accessFlags := 2, nameIndex := 5, descriptorIndex := 6, attributes := #[] }, { accessFlags := 10, nameIndex := 26, descriptorIndex := 27, attributes := #[] }, { accessFlags := 9, nameIndex := 31, descriptorIndex := 32, attributes := #[] }] 49 2 #[] #[])
  fields := #[]
  methods := #[k1m0, k1m1, k1m2]
  instanceTypes := #[]
  staticTypes := #[]
  resolved := Array.replicate 40 none
  statics := none }

def pool2 : Array CpInfo := pool [(1, .class_ 2), (0, u "io/bucketry/Ed25519"), (1, .class_ 6), (1, u "io/bucketry/Ed25519$Element"), (0, u "<init>"), (0, u "([J)V"), (0, .methodref 10 11), (0, .class_ 12), (0, .nameAndType 7 13), (0, u "java/lang/Object"), (0, u "()V"), (0, .fieldref 4 15), (0, .nameAndType 16 17), (0, u "limbs"), (0, u "[J"), (27, .methodref 46 47), (0, .class_ 48), (0, .nameAndType 49 50), (0, u "java/lang/System"), (0, u "arraycopy"), (0, u "(Ljava/lang/Object;ILjava/lang/Object;II)V"), (17, u "(Lio/bucketry/Ed25519$Element;)Lio/bucketry/Ed25519$Element;"), (33, u "set")] 16

def k2m0 : Method := { name := "<init>", desc := "()V", sig := { parameters := [], returnType := none }, accessFlags := 0, code := none }
def k2c1 : Code := { maxStack := 2, maxLocals := 2, code := prog_25_method_2_code, exceptionTable := #[], attributes := #[] }
def k2m1 : Method := { name := "<init>", desc := "([J)V", sig := { parameters := [(.array .long)], returnType := none }, accessFlags := 0, code := some k2c1 }
def k2c2 : Code := { maxStack := 5, maxLocals := 2, code := prog_25_method_5_code, exceptionTable := #[], attributes := #[] }
def k2m2 : Method := { name := "set", desc := "(Lio/bucketry/Ed25519$Element;)Lio/bucketry/Ed25519$Element;", sig := { parameters := [(.object "io/bucketry/Ed25519$Element")], returnType := some (.object "io/bucketry/Ed25519$Element") }, accessFlags := 0, code := some k2c2 }
/-- io/bucketry/Ed25519$Element -/
def k2 : Class := { plain "io/bucketry/Ed25519$Element" (some 0) with
  accessFlags := 48
  interfaces := #[]
  cf := some (fileOf pool2 4 #[.nestHost 1] #[{ accessFlags := 0, nameIndex := 7, descriptorIndex := 13, attributes := #[] }, { accessFlags := 0, nameIndex := 7, descriptorIndex := 8, attributes := #[] }, { accessFlags := 0, nameIndex := 102, descriptorIndex := 68, attributes := #[] }] 48 10 #[] #[{ accessFlags := 16, nameIndex := 16, descriptorIndex := 17, attributes := #[] }])
  fields := #[{ name := "limbs", type := (.array .long), accessFlags := 16, slot := 0, constantValue := 0 }]
  methods := #[k2m0, k2m1, k2m2]
  instanceTypes := #[(.array .long)]
  staticTypes := #[]
  resolved := Array.replicate 119 none
  statics := none }

def pool3 : Array CpInfo := pool [(2, .class_ 4), (1, u "java/lang/Object"), (0, u "<init>"), (0, u "()V"), (1, .class_ 10), (1, u "java/lang/System"), (0, u "allowSecurityManager"), (0, u "I"), (16, u "cons"), (0, u "Ljava/io/Console;"), (77, .class_ 110), (1, u "java/lang/System$CallersHolder"), (43, u "initialErrStream"), (0, u "Ljava/io/PrintStream;"), (19, u "security"), (0, u "Ljava/lang/SecurityManager;"), (31, .class_ 209), (0, u "java/lang/System$1"), (7, u "props"), (0, u "Ljava/util/Properties;"), (2, u "lineSeparator"), (0, u "Ljava/lang/String;"), (96, .class_ 321), (1, u "java/lang/System$LoggerFinder"), (5, .class_ 328), (0, u "java/lang/System$Logger"), (67, u "err"), (2, u "out"), (91, u "notSupportedJnuEncoding"), (15, u "in"), (17, u "initialIn"), (0, u "Ljava/io/InputStream;"), (35, u "bootLayer"), (0, u "Ljava/lang/ModuleLayer;"), (99, .class_ 664), (0, u "java/lang/System$2"), (9, u "NEVER"), (2, u "MAYBE"), (49, u "arraycopy"), (0, u "(Ljava/lang/Object;ILjava/lang/Object;II)V"), (72, .class_ 802), (0, u "java/lang/System$Logger$Level")] 31

def k3m0 : Method := { name := "<init>", desc := "()V", sig := { parameters := [], returnType := none }, accessFlags := 2, code := none }
def k3m1 : Method := { name := "arraycopy", desc := "(Ljava/lang/Object;ILjava/lang/Object;II)V", sig := { parameters := [(.object "java/lang/Object"), .int, (.object "java/lang/Object"), .int, .int], returnType := none }, accessFlags := 265, code := none }
/-- java/lang/System -/
def k3 : Class := { plain "java/lang/System" (some 0) with
  accessFlags := 49
  interfaces := #[]
  cf := some (fileOf pool3 8 #[.nestMembers #[319, 327, 801, 108, 663, 208]] #[{ accessFlags := 2, nameIndex := 5, descriptorIndex := 6, attributes := #[] }, { accessFlags := 265, nameIndex := 727, descriptorIndex := 728, attributes := #[] }] 49 2 #[] #[{ accessFlags := 25, nameIndex := 507, descriptorIndex := 526, attributes := #[] }, { accessFlags := 25, nameIndex := 399, descriptorIndex := 155, attributes := #[] }, { accessFlags := 25, nameIndex := 396, descriptorIndex := 155, attributes := #[] }, { accessFlags := 10, nameIndex := 525, descriptorIndex := 526, attributes := #[] }, { accessFlags := 26, nameIndex := 674, descriptorIndex := 12, attributes := #[] }, { accessFlags := 26, nameIndex := 677, descriptorIndex := 12, attributes := #[] }, { accessFlags := 10, nameIndex := 11, descriptorIndex := 12, attributes := #[] }, { accessFlags := 74, nameIndex := 175, descriptorIndex := 176, attributes := #[] }, { accessFlags := 10, nameIndex := 491, descriptorIndex := 222, attributes := #[] }, { accessFlags := 74, nameIndex := 29, descriptorIndex := 30, attributes := #[] }, { accessFlags := 74, nameIndex := 154, descriptorIndex := 155, attributes := #[] }, { accessFlags := 10, nameIndex := 217, descriptorIndex := 218, attributes := #[] }, { accessFlags := 10, nameIndex := 221, descriptorIndex := 222, attributes := #[] }, { accessFlags := 8, nameIndex := 562, descriptorIndex := 563, attributes := #[] }])
  fields := #[{ name := "in", type := (.object "java/io/InputStream"), accessFlags := 25, slot := 0, constantValue := 0 }, { name := "out", type := (.object "java/io/PrintStream"), accessFlags := 25, slot := 1, constantValue := 0 }, { name := "err", type := (.object "java/io/PrintStream"), accessFlags := 25, slot := 2, constantValue := 0 }, { name := "initialIn", type := (.object "java/io/InputStream"), accessFlags := 10, slot := 3, constantValue := 0 }, { name := "NEVER", type := .int, accessFlags := 26, slot := 4, constantValue := 0 }, { name := "MAYBE", type := .int, accessFlags := 26, slot := 5, constantValue := 0 }, { name := "allowSecurityManager", type := .int, accessFlags := 10, slot := 6, constantValue := 0 }, { name := "security", type := (.object "java/lang/SecurityManager"), accessFlags := 74, slot := 7, constantValue := 0 }, { name := "notSupportedJnuEncoding", type := (.object "java/lang/String"), accessFlags := 10, slot := 8, constantValue := 0 }, { name := "cons", type := (.object "java/io/Console"), accessFlags := 74, slot := 9, constantValue := 0 }, { name := "initialErrStream", type := (.object "java/io/PrintStream"), accessFlags := 74, slot := 10, constantValue := 0 }, { name := "props", type := (.object "java/util/Properties"), accessFlags := 10, slot := 11, constantValue := 0 }, { name := "lineSeparator", type := (.object "java/lang/String"), accessFlags := 10, slot := 12, constantValue := 0 }, { name := "bootLayer", type := (.object "java/lang/ModuleLayer"), accessFlags := 8, slot := 13, constantValue := 0 }]
  methods := #[k3m0, k3m1]
  instanceTypes := #[]
  staticTypes := #[(.object "java/io/InputStream"), (.object "java/io/PrintStream"), (.object "java/io/PrintStream"), (.object "java/io/InputStream"), .int, .int, .int, (.object "java/lang/SecurityManager"), (.object "java/lang/String"), (.object "java/io/Console"), (.object "java/io/PrintStream"), (.object "java/util/Properties"), (.object "java/lang/String"), (.object "java/lang/ModuleLayer")]
  resolved := Array.replicate 834 none
  statics := none }

def pool4 : Array CpInfo := pool [(1, u "java/lang/Cloneable"), (0, .class_ 1), (0, u "java/lang/Object"), (0, .class_ 3)] 3

/-- java/lang/Cloneable -/
def k4 : Class := { plain "java/lang/Cloneable" (some 0) with
  accessFlags := 1537
  interfaces := #[]
  cf := some (fileOf pool4 2 #[] #[] 1537 4 #[] #[])
  fields := #[]
  methods := #[]
  instanceTypes := #[]
  staticTypes := #[]
  resolved := Array.replicate 8 none
  statics := none }

def pool5 : Array CpInfo := pool [(1, u "java/io/Serializable"), (0, .class_ 1), (0, u "java/lang/Object"), (0, .class_ 3)] 3

/-- java/io/Serializable -/
def k5 : Class := { plain "java/io/Serializable" (some 0) with
  accessFlags := 1537
  interfaces := #[]
  cf := some (fileOf pool5 2 #[] #[] 1537 4 #[] #[])
  fields := #[]
  methods := #[]
  instanceTypes := #[]
  staticTypes := #[]
  resolved := Array.replicate 8 none
  statics := none }

/-- the primitive byte -/
def k6 : Class := { plain "byte" none with kind := .primitive 'B', accessFlags := 0x411 }
/-- [B -/
def k7 : Class := { plain "[B" (some 0) with kind := .array 6 .byte, interfaces := #[4, 5], accessFlags := 1041 }

/-- the primitive int -/
def k8 : Class := { plain "int" none with kind := .primitive 'I', accessFlags := 0x411 }
/-- [I -/
def k9 : Class := { plain "[I" (some 0) with kind := .array 8 .int, interfaces := #[4, 5], accessFlags := 1041 }

/-- the primitive long -/
def k10 : Class := { plain "long" none with kind := .primitive 'J', accessFlags := 0x411 }
/-- [J -/
def k11 : Class := { plain "[J" (some 0) with kind := .array 10 .long, interfaces := #[4, 5], accessFlags := 1041 }

def heap : Heap := #[]
def classes : Array Class := #[k0, k1, k2, k3, k4, k5, k6, k7, k8, k9, k10, k11]
def interned : List (Array UInt16 × Addr) := []
def slotsUsed : Nat := 0
def theMethod : MethodId := ⟨1, 2⟩
def args0 : Array Value := #[.long 5, .long 7, .long 2, .long 9, .long 1, .long 3]
def aboutOver (below : List Frame) : State where
  vm := { classes := classes, interned := interned.toArray }
  heap := heap
  slotsUsed := slotsUsed
  threads := #[{ frames := .invoking theMethod args0 :: below }]
def below0 : List Frame := [.native { method := ⟨0, 0⟩, args := #[] }]
def about1 : State := aboutOver below0
def p0 : Program := .bare "" "" ""
def e0 : Env := launch0.env 0 0 0
theorem w_frames : about1.frames = Frame.invoking theMethod args0 :: below0 := rfl
set_option maxRecDepth 65536 in
theorem w_args : argsFit about1.vm theMethod args0 = true := by decide +kernel
set_option maxRecDepth 65536 in
theorem w_heap : heapFits about1 = true := by decide +kernel
set_option maxRecDepth 65536 in
theorem w_runnable : about1.curStatus? = some .runnable := by decide +kernel
set_option maxRecDepth 65536 in
theorem w_alone : about1.alone = true := by decide +kernel
set_option maxRecDepth 65536 in
theorem w_named : about1.methodNamed? x = some theMethod := by decide +kernel
set_option maxRecDepth 65536 in
theorem w_hears : about1.hears theMethod below0 = true := by decide +kernel
set_option maxRecDepth 65536 in
theorem w_ripe : about1.ripe theMethod args0 below0 = true := by decide +kernel
theorem w_running : about1.status = .running := rfl
set_option maxRecDepth 65536 in
theorem w_room : about1.hasRoom e0.platform room_1 = true :=
  launch0.hasRoom_least _ room_1 (by decide +kernel) (by decide +kernel) (by decide +kernel) (by decide +kernel) (by decide +kernel) (by decide +kernel)
theorem allAtoms_all (ts : List Jvm.Cond) (a : Array Jvm.Value) (st : Jvm.State) : (allAtoms ts).before a st = ts.all (fun c => c.before a st) := by
  induction ts with
  | nil => rfl
  | cons c t ih =>
    show (Jvm.Cond.and c (allAtoms t)).before a st = _
    rw [Jvm.Cond.before_and, ih, List.all_cons]
def words1 : List Jvm.Cond := Jvm.Cond.code x code maxLocals ret :: tables_1
/-- a 'code' word, met by the world's own term for the bytes: nothing is compared byte by byte -/
theorem code_word {y : MethodName} {bytes : ByteArray} {mx : Nat} {rt : Option FieldType} {a : Array Value} {s : State} {m : MethodId} {meth : Method} {c : Code} (h1 : s.methodNamed? y = some m) (h2 : s.vm.method? m = some meth) (h3 : meth.code = some c) (h4 : c.code = bytes)
    (h5 : (c.maxLocals == mx && c.exceptionTable.isEmpty && decide (c.maxStack ≤ mostOperands) && decide (meth.sig.returnType = rt) && !meth.locks && decide (parseMethodDescriptor y.desc = some meth.sig)) = true) : (Jvm.Cond.code y bytes mx rt).before a s = true := by
  simp only [Bool.and_eq_true, beq_iff_eq, Bool.not_eq_true', decide_eq_true_eq] at h5
  obtain ⟨⟨⟨⟨⟨g1, g2⟩, g3⟩, g4⟩, g5⟩, g6⟩ := h5
  simp [Cond.before, Cond.holds, Cond.value, h1, h2, h3, h4, g1, g2, g3, g4, g5, g6]
def isCode : Jvm.Cond → Bool
  | .code _ _ _ _ => true
  | _ => false
theorem all_split {L : List Jvm.Cond} {P : Jvm.Cond → Bool} (h1 : L.all (fun c => isCode c || P c) = true) (h2 : ∀ c ∈ L.filter isCode, P c = true) : L.all P = true := by
  refine List.all_eq_true.mpr fun c hc => ?_
  have h := List.all_eq_true.mp h1 c hc
  rcases Bool.eq_false_or_eq_true (isCode c) with hi | hi
  · exact h2 c (List.mem_filter.mpr ⟨hc, hi⟩)
  · simpa [hi] using h
set_option maxRecDepth 65536 in
theorem w_c0 : (Jvm.Cond.code x code maxLocals ret).before args0 about1 = true := code_word (m := ⟨1, 2⟩) (meth := k1m2) (c := k1c2) (by decide +kernel) rfl rfl rfl (by decide +kernel)
set_option maxRecDepth 65536 in
theorem w_c1 : (Jvm.Cond.code ({ cls := "io/bucketry/Ed25519$Element", name := "<init>", desc := "([J)V" } : Jvm.MethodName) prog_25_method_2_code (2 : Nat) (Option.none : Option Jvm.ClassFile.FieldType)).before args0 about1 = true := code_word (m := ⟨2, 1⟩) (meth := k2m1) (c := k2c1) (by decide +kernel) rfl rfl rfl (by decide +kernel)
set_option maxRecDepth 65536 in
theorem w_c2 : (Jvm.Cond.code ({ cls := "java/lang/Object", name := "<init>", desc := "()V" } : Jvm.MethodName) object_method_1_code (1 : Nat) (Option.none : Option Jvm.ClassFile.FieldType)).before args0 about1 = true := code_word (m := ⟨0, 0⟩) (meth := k0m0) (c := k0c0) (by decide +kernel) rfl rfl rfl (by decide +kernel)
set_option maxRecDepth 65536 in
theorem w_c3 : (Jvm.Cond.code ({ cls := "io/bucketry/Ed25519$Element", name := "set", desc := "(Lio/bucketry/Ed25519$Element;)Lio/bucketry/Ed25519$Element;" } : Jvm.MethodName) prog_25_method_5_code (2 : Nat) (Option.some (Jvm.ClassFile.FieldType.object "io/bucketry/Ed25519$Element"))).before args0 about1 = true := code_word (m := ⟨2, 2⟩) (meth := k2m2) (c := k2c2) (by decide +kernel) rfl rfl rfl (by decide +kernel)
set_option maxRecDepth 65536 in
theorem w_c4 : (Jvm.Cond.code ({ cls := "io/bucketry/ElementSetPinLaw", name := "matches", desc := "([JJJJJJJ)Z" } : Jvm.MethodName) method_2_code (13 : Nat) (Option.some Jvm.ClassFile.FieldType.boolean)).before args0 about1 = true := code_word (m := ⟨1, 1⟩) (meth := k1m1) (c := k1c1) (by decide +kernel) rfl rfl rfl (by decide +kernel)
def codes1 : List Jvm.Cond := [Jvm.Cond.code x code maxLocals ret, Jvm.Cond.code ({ cls := "io/bucketry/Ed25519$Element", name := "<init>", desc := "([J)V" } : Jvm.MethodName) prog_25_method_2_code (2 : Nat) (Option.none : Option Jvm.ClassFile.FieldType), Jvm.Cond.code ({ cls := "java/lang/Object", name := "<init>", desc := "()V" } : Jvm.MethodName) object_method_1_code (1 : Nat) (Option.none : Option Jvm.ClassFile.FieldType), Jvm.Cond.code ({ cls := "io/bucketry/Ed25519$Element", name := "set", desc := "(Lio/bucketry/Ed25519$Element;)Lio/bucketry/Ed25519$Element;" } : Jvm.MethodName) prog_25_method_5_code (2 : Nat) (Option.some (Jvm.ClassFile.FieldType.object "io/bucketry/Ed25519$Element")), Jvm.Cond.code ({ cls := "io/bucketry/ElementSetPinLaw", name := "matches", desc := "([JJJJJJJ)Z" } : Jvm.MethodName) method_2_code (13 : Nat) (Option.some Jvm.ClassFile.FieldType.boolean)]
set_option maxRecDepth 65536 in
theorem codes_eq : words1.filter isCode = codes1 := rfl
theorem w_codes : ∀ c ∈ words1.filter isCode, c.before args0 about1 = true := by
  rw [codes_eq]
  intro c hc
  simp only [codes1, List.mem_cons, List.not_mem_nil, or_false] at hc
  rcases hc with rfl | rfl | rfl | rfl | rfl
  · exact w_c0
  · exact w_c1
  · exact w_c2
  · exact w_c3
  · exact w_c4
set_option maxRecDepth 65536 in
theorem w_t1 : (words1.take 24).all (fun c => isCode c || c.before args0 about1) = true := by decide +kernel
set_option maxRecDepth 65536 in
theorem w_t2 : (words1.drop 24).all (fun c => isCode c || c.before args0 about1) = true := by decide +kernel
theorem w_tables : (allAtoms (Jvm.Cond.code x code maxLocals ret :: tables_1)).before args0 about1 = true := by
  rw [allAtoms_all]
  show words1.all (fun c => c.before args0 about1) = true
  refine all_split ?_ w_codes
  rw [← List.take_append_drop 24 words1, List.all_append, w_t1, w_t2]
  rfl
set_option maxRecDepth 65536 in
theorem w_case : (Jvm.Cond.and given_1 narrow_1).before args0 about1 = true := by decide +kernel
theorem w_applies : (headSpec (Jvm.Cond.code x code maxLocals ret :: tables_1) room_1).applies x e0.platform about1 = true :=
  (Spec.applies_iff w_frames).mpr ⟨w_running, w_runnable, w_alone, w_named, w_hears, w_ripe, w_room, w_tables⟩
theorem atStart : AtStart classFile x code maxLocals ret World_1 tables_1 room_1 Calls_1 rest_1 Pre_1 launch0 p0 e0 about1 theMethod args0 below0 :=
  ⟨lists_1, trivial, launch0.admits_env _ _ _, launch0.least_env, fairChoices_fair.cas, fairChoices_fair.clock, w_frames, w_args, w_heap, w_applies, trivial, trivial, w_case⟩
end start1
theorem witness_1 : WitnessClaimed_1 := ⟨start1.p0, start1.e0, start1.about1, start1.theMethod, start1.args0, start1.below0, start1.atStart⟩
end Jvm.Pilot.@@N@@
