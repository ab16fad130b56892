import JvmDerived
import JvmDerived.Pilot.@@N@@Statement
import JvmDerived.Pilot.@@N@@Code
set_option linter.unusedVariables false
set_option linter.unusedSimpArgs false
namespace Jvm.Pilot.@@N@@
open Jvm Jvm.ClassFile Sem Op Lib Jvm.Free Jvm.Stand Jvm.LawKit Jvm.RoadKit Bundle Jvm.Pilot.@@N@@.Jvm.D
section OwnKit
variable {p : Program} {l : Launch} {e : Env} {R : Room} {s : State} {m : MethodId} {args : Array Value} {below : List Frame} {meth : Method} {c : Code} {T : State} {locs : List Loc} {cells slots : Nat} {Z : State} {h : Heap} {a : Addr} {k : ClassId} {z : Int32} {vs : List Value} {dv : Value}
theorem oLen (X : Stand p l e R s m args below meth c T locs cells slots) (hx : p.tables.exec = Jvm.exec) (hZ : Z.Warmed39 s.vm) (eT : T.heap = h) {ty : FieldType} (F : Arv Z h a k ty z vs dv) {g : JFrame} (hg : g.method = m) {rest : List Value} (hs : g.stack = .ref a :: rest) (hd : decode c.code g.pc = .ok (.arraylength, 1)) (target : State)
    (hr : Steps p.tables e below (T.setTop { g with pc := g.pc + 1, stack := .int z :: rest }) target) : Steps p.tables e below (T.setTop g) target := by
  obtain ⟨cl, A, -, S, M, -, -⟩ := F
  refine X.arraylength hx (by rw [eT]; exact A.1) (State.isArrayOf_alike hZ.alike A.2.1) hg hs hd target ?_
  rw [len_of S M]
  exact hr
theorem oLdI (X : Stand p l e R s m args below meth c T locs cells slots) (hx : p.tables.exec = Jvm.exec) (hZ : Z.Warmed39 s.vm) (eT : T.heap = h) (F : Arv Z h a k .int z vs dv) {j : Int32} {v : Value} (hj : ¬ j < 0 ∧ j < z) (hv : vs.getD j.toNatClampNeg dv = v) {g : JFrame} (hg : g.method = m) {rest : List Value} (hs : g.stack = .int j :: .ref a :: rest) (hd : decode c.code g.pc = .ok (.iaload, 1)) (target : State)
    (hr : Steps p.tables e below (T.setTop { g with pc := g.pc + 1, stack := v :: rest }) target) : Steps p.tables e below (T.setTop g) target := by
  obtain ⟨cl, A, -, S, -, H, -⟩ := F
  have hin := inb_of S hj
  exact X.iaload hx (by rw [eT]; exact A.1) (State.isArrayOf_alike hZ.alike A.2.1) A.2.2 hin (Has.at H hin hv) hg hs hd target hr
theorem oLdB (X : Stand p l e R s m args below meth c T locs cells slots) (hx : p.tables.exec = Jvm.exec) (hZ : Z.Warmed39 s.vm) (eT : T.heap = h) (F : Arv Z h a k .byte z vs dv) {j : Int32} {v : Value} (hj : ¬ j < 0 ∧ j < z) (hv : vs.getD j.toNatClampNeg dv = v) {g : JFrame} (hg : g.method = m) {rest : List Value} (hs : g.stack = .int j :: .ref a :: rest) (hd : decode c.code g.pc = .ok (.baload, 1)) (target : State)
    (hr : Steps p.tables e below (T.setTop { g with pc := g.pc + 1, stack := v :: rest }) target) : Steps p.tables e below (T.setTop g) target := by
  obtain ⟨cl, A, -, S, -, H, -⟩ := F
  have hin := inb_of S hj
  exact X.baloadBytes hx (by rw [eT]; exact A.1) (State.isArrayOf_alike hZ.alike A.2.1) A.2.2 hin (Has.at H hin hv) hg hs hd target hr
theorem oLdJ (X : Stand p l e R s m args below meth c T locs cells slots) (hx : p.tables.exec = Jvm.exec) (hZ : Z.Warmed39 s.vm) (eT : T.heap = h) (F : Arv Z h a k .long z vs dv) {j : Int32} {v : Value} (hj : ¬ j < 0 ∧ j < z) (hv : vs.getD j.toNatClampNeg dv = v) {g : JFrame} (hg : g.method = m) {rest : List Value} (hs : g.stack = .int j :: .ref a :: rest) (hd : decode c.code g.pc = .ok (.laload, 1)) (target : State)
    (hr : Steps p.tables e below (T.setTop { g with pc := g.pc + 1, stack := v :: rest }) target) : Steps p.tables e below (T.setTop g) target := by
  obtain ⟨cl, A, -, S, -, H, -⟩ := F
  have hin := inb_of S hj
  exact X.laload hx (by rw [eT]; exact A.1) (State.isArrayOf_alike hZ.alike A.2.1) A.2.2 hin (Has.at H hin hv) hg hs hd target hr
theorem oLdD (X : Stand p l e R s m args below meth c T locs cells slots) (hx : p.tables.exec = Jvm.exec) (hZ : Z.Warmed39 s.vm) (eT : T.heap = h) (F : Arv Z h a k .double z vs dv) {j : Int32} {v : Value} (hj : ¬ j < 0 ∧ j < z) (hv : vs.getD j.toNatClampNeg dv = v) {g : JFrame} (hg : g.method = m) {rest : List Value} (hs : g.stack = .int j :: .ref a :: rest) (hd : decode c.code g.pc = .ok (.daload, 1)) (target : State)
    (hr : Steps p.tables e below (T.setTop { g with pc := g.pc + 1, stack := v :: rest }) target) : Steps p.tables e below (T.setTop g) target := by
  obtain ⟨cl, A, -, S, -, H, -⟩ := F
  have hin := inb_of S hj
  exact X.daload hx (by rw [eT]; exact A.1) (State.isArrayOf_alike hZ.alike A.2.1) A.2.2 hin (Has.at H hin hv) hg hs hd target hr
theorem oStI (X : Stand p l e R s m args below meth c T locs cells slots) (hx : p.tables.exec = Jvm.exec) (hZ : Z.Warmed39 s.vm) (eT : T.heap = h) (F : Arv Z h a k .int z vs dv) {j : Int32} {x : Int32} (hj : ¬ j < 0 ∧ j < z) (i : Nat) (hi : j.toNatClampNeg = i) (hl : i < vs.length) {g : JFrame} (hg : g.method = m) {rest : List Value} (hs : g.stack = .int x :: .int j :: .ref a :: rest) (hd : decode c.code g.pc = .ok (.iastore, 1)) :
    ∃ T' h', Stand p l e R s m args below meth c T' (locs ++ [⟨a, j.toNatClampNeg⟩]) cells slots ∧ T'.heap = h' ∧ Wr h h' a j.toNatClampNeg (.int x) ∧ Arv Z h' a k .int z (vs.set i (.int x)) dv ∧ ∀ target, Steps p.tables e below (T'.setTop { g with pc := g.pc + 1, stack := rest }) target → Steps p.tables e below (T.setTop g) target := by
  obtain ⟨cl, A, q1, S, M, H, G⟩ := F
  obtain ⟨T', h', X', e', W, st⟩ := stI X hx hZ eT A (j := j) (inb_of S hj) hg hs hd
  exact ⟨T', h', X', e', W, Arv.set A q1 S M H G rfl W i hi hl, st⟩
theorem oStB (X : Stand p l e R s m args below meth c T locs cells slots) (hx : p.tables.exec = Jvm.exec) (hZ : Z.Warmed39 s.vm) (eT : T.heap = h) (F : Arv Z h a k .byte z vs dv) {j : Int32} {x : Int32} (hj : ¬ j < 0 ∧ j < z) (i : Nat) (hi : j.toNatClampNeg = i) (hl : i < vs.length) {g : JFrame} (hg : g.method = m) {rest : List Value} (hs : g.stack = .int x :: .int j :: .ref a :: rest) (hd : decode c.code g.pc = .ok (.bastore, 1)) :
    ∃ T' h', Stand p l e R s m args below meth c T' (locs ++ [⟨a, j.toNatClampNeg⟩]) cells slots ∧ T'.heap = h' ∧ Wr h h' a j.toNatClampNeg (.int (nar .byte x)) ∧ Arv Z h' a k .byte z (vs.set i (.int (nar .byte x))) dv ∧ ∀ target, Steps p.tables e below (T'.setTop { g with pc := g.pc + 1, stack := rest }) target → Steps p.tables e below (T.setTop g) target := by
  obtain ⟨cl, A, q1, S, M, H, G⟩ := F
  obtain ⟨T', h', X', e', W, st⟩ := stB X hx hZ eT A (j := j) (inb_of S hj) hg hs hd
  exact ⟨T', h', X', e', W, Arv.set A q1 S M H G (fits_nar_byte x) W i hi hl, st⟩
theorem oStJ (X : Stand p l e R s m args below meth c T locs cells slots) (hx : p.tables.exec = Jvm.exec) (hZ : Z.Warmed39 s.vm) (eT : T.heap = h) (F : Arv Z h a k .long z vs dv) {j : Int32} {x : Int64} (hj : ¬ j < 0 ∧ j < z) (i : Nat) (hi : j.toNatClampNeg = i) (hl : i < vs.length) {g : JFrame} (hg : g.method = m) {rest : List Value} (hs : g.stack = .long x :: .int j :: .ref a :: rest) (hd : decode c.code g.pc = .ok (.lastore, 1)) :
    ∃ T' h', Stand p l e R s m args below meth c T' (locs ++ [⟨a, j.toNatClampNeg⟩]) cells slots ∧ T'.heap = h' ∧ Wr h h' a j.toNatClampNeg (.long x) ∧ Arv Z h' a k .long z (vs.set i (.long x)) dv ∧ ∀ target, Steps p.tables e below (T'.setTop { g with pc := g.pc + 1, stack := rest }) target → Steps p.tables e below (T.setTop g) target := by
  obtain ⟨cl, A, q1, S, M, H, G⟩ := F
  obtain ⟨T', h', X', e', W, st⟩ := stJ X hx hZ eT A (j := j) (inb_of S hj) hg hs hd
  exact ⟨T', h', X', e', W, Arv.set A q1 S M H G rfl W i hi hl, st⟩
theorem oStD (X : Stand p l e R s m args below meth c T locs cells slots) (hx : p.tables.exec = Jvm.exec) (hZ : Z.Warmed39 s.vm) (eT : T.heap = h) (F : Arv Z h a k .double z vs dv) {j : Int32} {x : UInt64} (hj : ¬ j < 0 ∧ j < z) (i : Nat) (hi : j.toNatClampNeg = i) (hl : i < vs.length) {g : JFrame} (hg : g.method = m) {rest : List Value} (hs : g.stack = .double x :: .int j :: .ref a :: rest) (hd : decode c.code g.pc = .ok (.dastore, 1)) :
    ∃ T' h', Stand p l e R s m args below meth c T' (locs ++ [⟨a, j.toNatClampNeg⟩]) cells slots ∧ T'.heap = h' ∧ Wr h h' a j.toNatClampNeg (.double x) ∧ Arv Z h' a k .double z (vs.set i (.double x)) dv ∧ ∀ target, Steps p.tables e below (T'.setTop { g with pc := g.pc + 1, stack := rest }) target → Steps p.tables e below (T.setTop g) target := by
  obtain ⟨cl, A, q1, S, M, H, G⟩ := F
  obtain ⟨T', h', X', e', W, st⟩ := stD X hx hZ eT A (j := j) (inb_of S hj) hg hs hd
  exact ⟨T', h', X', e', W, Arv.set A q1 S M H G rfl W i hi hl, st⟩
end OwnKit
abbrev oi (x : Int32) : Slot := .val (.int x)
abbrev oj (x : Int64) : Slot := .val (.long x)
abbrev oa (x : Addr) : Slot := .val (.ref x)
abbrev od (x : UInt64) : Slot := .val (.double x)
abbrev oS (p : Program) (e : Env) (below : List Frame) (T : State) (m : MethodId) (pc : Nat) (L : Array Slot) (S : List Value) (t : State) : Prop := Steps p.tables e below (T.setTop (mkF m pc L S)) t
theorem own_ltp (x k : Int32) : (x < k) = (x.toInt < k.toInt) := propext Int32.lt_iff_toInt_lt
theorem own_eqp (x k : Int32) : (x = k) = (x.toInt = k.toInt) := propext Int32.toInt_inj.symm
theorem own_ltpL (x k : Int64) : (x < k) = (x.toInt < k.toInt) := propext Int64.lt_iff_toInt_lt
theorem own_eqpL (x k : Int64) : (x = k) = (x.toInt = k.toInt) := propext Int64.toInt_inj.symm
theorem own_of_range {P : Int32 → Prop} (n : Nat) (h : ∀ i : Fin n, P (Int32.ofNat i.1)) (x : Int32) (h0 : 0 ≤ x.toInt) (h1 : x.toInt < (n : Int)) : P x := by
  have e : Int32.ofNat x.toInt.toNat = x := by
    rw [← Int32.ofInt_eq_ofNat, Int.toNat_of_nonneg h0, Int32.ofInt_toInt]
  have q := h ⟨x.toInt.toNat, by omega⟩
  rwa [e] at q
theorem own_getD (ws : List Int32) (n : Nat) : (ws.map Value.int).getD n (.int (0 : Int32)) = .int (ws.getD n 0) := by
  simp only [List.getD_eq_getElem?_getD, List.getElem?_map]
  cases ws[n]? <;> rfl

theorem own_eqI {args : Array Value} {s : State} {t : Term} {n : Int32} {idx : List Nat} (h : (Jvm.Cond.eq t (.int n)).value args s none s idx = some true) : t.eval args s none idx s = some (.int n) := by
  obtain ⟨x, y, e1, e2, k1, k2⟩ := cmp_v (Or.inl h)
  cases (Term.int_eval n).symm.trans e2
  obtain ⟨z, rfl⟩ : ∃ z, x = Value.int z := k2
  exact e1.trans (congrArg (fun z => some (Value.int z)) (gotT (Cond.eq_ints e1 (Term.int_eval n)) h))

theorem own_pn0 : plainName "com/example/casement/casement/tree/DrawStateIsDrawnPinLaw" = true := by first | (simp [plainName, overriddenIn]; done) | decide +kernel
theorem own_d1_0 : decode method_2_code 0 = .ok (.iload_n 0, 1) := by decide +kernel
theorem own_d1_1 : decode method_2_code 1 = .ok (.ifCond .ne 7, 3) := by decide +kernel
theorem own_d1_4 : decode method_2_code 4 = .ok (.getstatic 7, 3) := by decide +kernel
theorem own_d1_7 : decode method_2_code 7 = .ok (.areturn, 1) := by decide +kernel
theorem own_d1_8 : decode method_2_code 8 = .ok (.iload_n 0, 1) := by decide +kernel
theorem own_d1_9 : decode method_2_code 9 = .ok (.iconst 1, 1) := by decide +kernel
theorem own_d1_10 : decode method_2_code 10 = .ok (.if_icmp .ne 7, 3) := by decide +kernel
theorem own_d1_13 : decode method_2_code 13 = .ok (.getstatic 13, 3) := by decide +kernel
theorem own_d1_16 : decode method_2_code 16 = .ok (.areturn, 1) := by decide +kernel
theorem own_d1_17 : decode method_2_code 17 = .ok (.iload_n 0, 1) := by decide +kernel
theorem own_d1_18 : decode method_2_code 18 = .ok (.iconst 2, 1) := by decide +kernel
theorem own_d1_19 : decode method_2_code 19 = .ok (.if_icmp .ne 7, 3) := by decide +kernel
theorem own_d1_22 : decode method_2_code 22 = .ok (.getstatic 16, 3) := by decide +kernel
theorem own_d1_25 : decode method_2_code 25 = .ok (.areturn, 1) := by decide +kernel
theorem own_d1_26 : decode method_2_code 26 = .ok (.iload_n 0, 1) := by decide +kernel
theorem own_d1_27 : decode method_2_code 27 = .ok (.iconst 3, 1) := by decide +kernel
theorem own_d1_28 : decode method_2_code 28 = .ok (.if_icmp .ne 7, 3) := by decide +kernel
theorem own_d1_31 : decode method_2_code 31 = .ok (.getstatic 19, 3) := by decide +kernel
theorem own_d1_34 : decode method_2_code 34 = .ok (.areturn, 1) := by decide +kernel
theorem own_d1_35 : decode method_2_code 35 = .ok (.getstatic 22, 3) := by decide +kernel
theorem own_d1_38 : decode method_2_code 38 = .ok (.areturn, 1) := by decide +kernel
theorem own_ef1 (m : MethodId) (p0 : Int32) : entryFrame m #[(.int p0)] 1 = mkF m 0 #[oi p0] [] := by first | (simp [entryFrame, mkF, argsToLocals, Value.category]; done) | rfl
def own_f1 (p0 : Int32) (aNS : Addr) (aDP : Addr) (aCP : Addr) (aRS : Addr) (aHD : Addr) : Addr := (if p0 = (0 : Int32) then aNS else (if p0 = (1 : Int32) then aDP else (if p0 = (2 : Int32) then aCP else (if p0 = (3 : Int32) then aRS else aHD))))
def own_Q1 (Z : State) (p0 : Int32) (aNS : Addr) (aDP : Addr) (aCP : Addr) (aRS : Addr) (aHD : Addr) (h0 : Heap) (n0 : Nat) (v : Option Value) (h : Heap) (L : List Loc) : Prop := v = some (Value.ref (own_f1 p0 aNS aDP aCP aRS aHD)) ∧ Fr n0 L ∧ h = h0
set_option maxRecDepth 65536 in
set_option maxHeartbeats 40000000 in
theorem own_rm1 (l : Launch) (Z : State) (av : Array Value) (hw : ∀ d ∈ tables_1, d.before av Z = true) (ws : List Jvm.Cond) (p0 : Int32) (aNS : Addr) (aDP : Addr) (aCP : Addr) (aRS : Addr) (aHD : Addr) (h0 : Heap) (n0 : Nat) (Z0 : n0 ≤ h0.size) (S_NO_SURFACE : Sta Z h0 "com/example/casement/casement/tree/DrawState" "NO_SURFACE" "Lcom/example/casement/casement/tree/DrawState;" (.ref aNS)) (S_DRAW_PENDING : Sta Z h0 "com/example/casement/casement/tree/DrawState" "DRAW_PENDING" "Lcom/example/casement/casement/tree/DrawState;" (.ref aDP)) (S_COMMIT_DRAW_PENDING : Sta Z h0 "com/example/casement/casement/tree/DrawState" "COMMIT_DRAW_PENDING" "Lcom/example/casement/casement/tree/DrawState;" (.ref aCP)) (S_READY_TO_SHOW : Sta Z h0 "com/example/casement/casement/tree/DrawState" "READY_TO_SHOW" "Lcom/example/casement/casement/tree/DrawState;" (.ref aRS)) (S_HAS_DRAWN : Sta Z h0 "com/example/casement/casement/tree/DrawState" "HAS_DRAWN" "Lcom/example/casement/casement/tree/DrawState;" (.ref aHD)) :
    MetFree l (⟨"com/example/casement/casement/tree/DrawStateIsDrawnPinLaw", "pick", "(I)Lcom/example/casement/casement/tree/DrawState;"⟩ : MethodName) (head1 (Jvm.Cond.code (⟨"com/example/casement/casement/tree/DrawStateIsDrawnPinLaw", "pick", "(I)Lcom/example/casement/casement/tree/DrawState;"⟩ : MethodName) method_2_code 1 (some (.object "com/example/casement/casement/tree/DrawState")) :: ws) ({ frames := 0, cells := 0, slots := 0, locals := 0 } : Room)) (fun a U => a = #[(.int p0)] ∧ Z.Warmed39 U.vm ∧ U.heap = h0) (fun _ _ _ _ _ => True) (fun _ U o U' => ∃ v L, o = .returned v ∧ own_Q1 Z p0 aNS aDP aCP aRS aHD h0 n0 v U'.heap L ∧ FrameEnd U o U' L ({ frames := 0, cells := 0, slots := 0, locals := 0 } : Room).cells ({ frames := 0, cells := 0, slots := 0, locals := 0 } : Room).slots) := by
  refine MetFree.of_bodySF (plainFor_of_name own_pn0) hisR ?_
  intro p e s m args below meth c s₁ Bd hml0 hP hK
  obtain ⟨rfl, hZ, hh⟩ := hP
  have hx := Bd.exec
  have hby := Bd.bytes
  have hml : c.maxLocals = 1 := hml0
  have hown : s.vm.findClass "com/example/casement/casement/tree/DrawStateIsDrawnPinLaw" = some m.cls := findClass_of_methodNamed Bd.named
  have hnm := (name_of_methodNamed Bd.named Bd.method).1
  have X0 : Stand p l e ({ frames := 0, cells := 0, slots := 0, locals := 0 } : Room) s m #[(.int p0)] below meth c s₁ [] 0 0 := Stand.of_body Bd
  have e0 : s₁.heap = h0 := by rw [← hh, Bd.state]; rfl
  have N0 := Fr.nil n0
  have pre0 : ∀ t, Steps p.tables e below (s₁.setTop (mkF m 0 #[oi p0] [])) t → Steps p.tables e below (s₁.setTop (entryFrame m #[(.int p0)] 1)) t := fun t k => castTop (own_ef1 m p0) k
  have pre1 : ∀ t, Steps p.tables e below (s₁.setTop (mkF m 1 #[oi p0] [(.int p0)])) t → Steps p.tables e below (s₁.setTop (entryFrame m #[(.int p0)] 1)) t := by
    intro t k
    refine pre0 t ?_
    show oS p e below s₁ m 0 #[oi p0] [] _
    refine XS.iloadN X0.here hx rfl (hb hby own_d1_0) rfl ?_
    exact k
  by_cases c2 : p0 = (0 : Int32)
  · skip
    obtain ⟨T3, X3, e3, st3⟩ := getS2 X0 hx hZ hown (host := "") (Or.inl (hw _ (List.mem_of_getElem? (i := 5) rfl))) Via.refl e0 S_NO_SURFACE (g := (mkF m 4 #[oi p0] [])) rfl (hb hby own_d1_4)
    obtain ⟨fs, hr, hrun, hended, hW, hsame⟩ := X3.leave (v := (some (.ref aNS))) (fun h => by rw [Bd.returns] at h; cases h)
    refine ⟨_, _, pre1 _ ?_, hrun, hended, _, _, rfl, ?_, ⟨_, rfl⟩, hW, hsame.mono (by decide) (by decide)⟩
    · show oS p e below s₁ m 1 #[oi p0] [(.int p0)] _
      refine XS.ifNo X0.here hx rfl (hb hby own_d1_1) rfl ((if0 _ _).trans (teq c2).2) ?_
      show oS p e below s₁ m 4 #[oi p0] [] _
      refine st3 _ ?_
      show oS p e below T3 m 7 #[oi p0] [(.ref aNS)] _
      exact retOut X3 hx Bd.returns rfl (Or.inr (Or.inr (Or.inr (Or.inr ⟨rfl, rfl, rfl⟩)))) (hb hby own_d1_7) hr
    · show own_Q1 Z p0 aNS aDP aCP aRS aHD h0 n0 _ T3.heap _
      rw [e3]
      exact ⟨congrArg (fun z => some (Value.ref z)) (by rw [own_f1, if_pos c2]), N0, rfl⟩
  · skip
    have pre4 : ∀ t, Steps p.tables e below (s₁.setTop (mkF m 10 #[oi p0] [(.int (1 : Int32)), (.int p0)])) t → Steps p.tables e below (s₁.setTop (entryFrame m #[(.int p0)] 1)) t := by
      intro t k
      refine pre1 t ?_
      show oS p e below s₁ m 1 #[oi p0] [(.int p0)] _
      refine XS.ifYes X0.here hx rfl (pc0 := 1) (pc' := 8) rfl (hb hby own_d1_1) rfl ((if0 _ _).trans (feq c2).2) (by decide) (by decide) ?_
      show oS p e below s₁ m 8 #[oi p0] [] _
      refine XS.iloadN X0.here hx rfl (hb hby own_d1_8) rfl ?_
      show oS p e below s₁ m 9 #[oi p0] [(.int p0)] _
      refine XS.iconst X0.here hx rfl (hb hby own_d1_9) ?_
      exact k
    by_cases c5 : p0 = (1 : Int32)
    · skip
      obtain ⟨T6, X6, e6, st6⟩ := getS2 X0 hx hZ hown (host := "") (Or.inl (hw _ (List.mem_of_getElem? (i := 19) rfl))) Via.refl e0 S_DRAW_PENDING (g := (mkF m 13 #[oi p0] [])) rfl (hb hby own_d1_13)
      obtain ⟨fs, hr, hrun, hended, hW, hsame⟩ := X6.leave (v := (some (.ref aDP))) (fun h => by rw [Bd.returns] at h; cases h)
      refine ⟨_, _, pre4 _ ?_, hrun, hended, _, _, rfl, ?_, ⟨_, rfl⟩, hW, hsame.mono (by decide) (by decide)⟩
      · show oS p e below s₁ m 10 #[oi p0] [(.int (1 : Int32)), (.int p0)] _
        refine XS.icmpNo X0.here hx rfl (hb hby own_d1_10) rfl (teq c5).2 ?_
        show oS p e below s₁ m 13 #[oi p0] [] _
        refine st6 _ ?_
        show oS p e below T6 m 16 #[oi p0] [(.ref aDP)] _
        exact retOut X6 hx Bd.returns rfl (Or.inr (Or.inr (Or.inr (Or.inr ⟨rfl, rfl, rfl⟩)))) (hb hby own_d1_16) hr
      · show own_Q1 Z p0 aNS aDP aCP aRS aHD h0 n0 _ T6.heap _
        rw [e6]
        exact ⟨congrArg (fun z => some (Value.ref z)) (by rw [own_f1, if_neg c2, if_pos c5]), N0, rfl⟩
    · skip
      have pre7 : ∀ t, Steps p.tables e below (s₁.setTop (mkF m 19 #[oi p0] [(.int (2 : Int32)), (.int p0)])) t → Steps p.tables e below (s₁.setTop (entryFrame m #[(.int p0)] 1)) t := by
        intro t k
        refine pre4 t ?_
        show oS p e below s₁ m 10 #[oi p0] [(.int (1 : Int32)), (.int p0)] _
        refine XS.icmpYes X0.here hx rfl (pc0 := 10) (pc' := 17) rfl (hb hby own_d1_10) rfl (feq c5).2 (by decide) (by decide) ?_
        show oS p e below s₁ m 17 #[oi p0] [] _
        refine XS.iloadN X0.here hx rfl (hb hby own_d1_17) rfl ?_
        show oS p e below s₁ m 18 #[oi p0] [(.int p0)] _
        refine XS.iconst X0.here hx rfl (hb hby own_d1_18) ?_
        exact k
      by_cases c8 : p0 = (2 : Int32)
      · skip
        obtain ⟨T9, X9, e9, st9⟩ := getS2 X0 hx hZ hown (host := "") (Or.inl (hw _ (List.mem_of_getElem? (i := 21) rfl))) Via.refl e0 S_COMMIT_DRAW_PENDING (g := (mkF m 22 #[oi p0] [])) rfl (hb hby own_d1_22)
        obtain ⟨fs, hr, hrun, hended, hW, hsame⟩ := X9.leave (v := (some (.ref aCP))) (fun h => by rw [Bd.returns] at h; cases h)
        refine ⟨_, _, pre7 _ ?_, hrun, hended, _, _, rfl, ?_, ⟨_, rfl⟩, hW, hsame.mono (by decide) (by decide)⟩
        · show oS p e below s₁ m 19 #[oi p0] [(.int (2 : Int32)), (.int p0)] _
          refine XS.icmpNo X0.here hx rfl (hb hby own_d1_19) rfl (teq c8).2 ?_
          show oS p e below s₁ m 22 #[oi p0] [] _
          refine st9 _ ?_
          show oS p e below T9 m 25 #[oi p0] [(.ref aCP)] _
          exact retOut X9 hx Bd.returns rfl (Or.inr (Or.inr (Or.inr (Or.inr ⟨rfl, rfl, rfl⟩)))) (hb hby own_d1_25) hr
        · show own_Q1 Z p0 aNS aDP aCP aRS aHD h0 n0 _ T9.heap _
          rw [e9]
          exact ⟨congrArg (fun z => some (Value.ref z)) (by rw [own_f1, if_neg c2, if_neg c5, if_pos c8]), N0, rfl⟩
      · skip
        have pre10 : ∀ t, Steps p.tables e below (s₁.setTop (mkF m 28 #[oi p0] [(.int (3 : Int32)), (.int p0)])) t → Steps p.tables e below (s₁.setTop (entryFrame m #[(.int p0)] 1)) t := by
          intro t k
          refine pre7 t ?_
          show oS p e below s₁ m 19 #[oi p0] [(.int (2 : Int32)), (.int p0)] _
          refine XS.icmpYes X0.here hx rfl (pc0 := 19) (pc' := 26) rfl (hb hby own_d1_19) rfl (feq c8).2 (by decide) (by decide) ?_
          show oS p e below s₁ m 26 #[oi p0] [] _
          refine XS.iloadN X0.here hx rfl (hb hby own_d1_26) rfl ?_
          show oS p e below s₁ m 27 #[oi p0] [(.int p0)] _
          refine XS.iconst X0.here hx rfl (hb hby own_d1_27) ?_
          exact k
        by_cases c11 : p0 = (3 : Int32)
        · skip
          obtain ⟨T12, X12, e12, st12⟩ := getS2 X0 hx hZ hown (host := "") (Or.inl (hw _ (List.mem_of_getElem? (i := 8) rfl))) Via.refl e0 S_READY_TO_SHOW (g := (mkF m 31 #[oi p0] [])) rfl (hb hby own_d1_31)
          obtain ⟨fs, hr, hrun, hended, hW, hsame⟩ := X12.leave (v := (some (.ref aRS))) (fun h => by rw [Bd.returns] at h; cases h)
          refine ⟨_, _, pre10 _ ?_, hrun, hended, _, _, rfl, ?_, ⟨_, rfl⟩, hW, hsame.mono (by decide) (by decide)⟩
          · show oS p e below s₁ m 28 #[oi p0] [(.int (3 : Int32)), (.int p0)] _
            refine XS.icmpNo X0.here hx rfl (hb hby own_d1_28) rfl (teq c11).2 ?_
            show oS p e below s₁ m 31 #[oi p0] [] _
            refine st12 _ ?_
            show oS p e below T12 m 34 #[oi p0] [(.ref aRS)] _
            exact retOut X12 hx Bd.returns rfl (Or.inr (Or.inr (Or.inr (Or.inr ⟨rfl, rfl, rfl⟩)))) (hb hby own_d1_34) hr
          · show own_Q1 Z p0 aNS aDP aCP aRS aHD h0 n0 _ T12.heap _
            rw [e12]
            exact ⟨congrArg (fun z => some (Value.ref z)) (by rw [own_f1, if_neg c2, if_neg c5, if_neg c8, if_pos c11]), N0, rfl⟩
        · skip
          obtain ⟨T13, X13, e13, st13⟩ := getS2 X0 hx hZ hown (host := "") (Or.inl (hw _ (List.mem_of_getElem? (i := 18) rfl))) Via.refl e0 S_HAS_DRAWN (g := (mkF m 35 #[oi p0] [])) rfl (hb hby own_d1_35)
          obtain ⟨fs, hr, hrun, hended, hW, hsame⟩ := X13.leave (v := (some (.ref aHD))) (fun h => by rw [Bd.returns] at h; cases h)
          refine ⟨_, _, pre10 _ ?_, hrun, hended, _, _, rfl, ?_, ⟨_, rfl⟩, hW, hsame.mono (by decide) (by decide)⟩
          · show oS p e below s₁ m 28 #[oi p0] [(.int (3 : Int32)), (.int p0)] _
            refine XS.icmpYes X0.here hx rfl (pc0 := 28) (pc' := 35) rfl (hb hby own_d1_28) rfl (feq c11).2 (by decide) (by decide) ?_
            show oS p e below s₁ m 35 #[oi p0] [] _
            refine st13 _ ?_
            show oS p e below T13 m 38 #[oi p0] [(.ref aHD)] _
            exact retOut X13 hx Bd.returns rfl (Or.inr (Or.inr (Or.inr (Or.inr ⟨rfl, rfl, rfl⟩)))) (hb hby own_d1_38) hr
          · show own_Q1 Z p0 aNS aDP aCP aRS aHD h0 n0 _ T13.heap _
            rw [e13]
            exact ⟨congrArg (fun z => some (Value.ref z)) (by rw [own_f1, if_neg c2, if_neg c5, if_neg c8, if_neg c11]), N0, rfl⟩
theorem own_pn1 : plainName "com/example/casement/casement/tree/DrawState" = true := by first | (simp [plainName, overriddenIn]; done) | decide +kernel
theorem own_d2_0 : decode prog_80_method_4_code 0 = .ok (.aload_n 0, 1) := by decide +kernel
theorem own_d2_1 : decode prog_80_method_4_code 1 = .ok (.getstatic 13, 3) := by decide +kernel
theorem own_d2_4 : decode prog_80_method_4_code 4 = .ok (.if_acmp .eq 10, 3) := by decide +kernel
theorem own_d2_7 : decode prog_80_method_4_code 7 = .ok (.aload_n 0, 1) := by decide +kernel
theorem own_d2_8 : decode prog_80_method_4_code 8 = .ok (.getstatic 16, 3) := by decide +kernel
theorem own_d2_11 : decode prog_80_method_4_code 11 = .ok (.if_acmp .ne 7, 3) := by decide +kernel
theorem own_d2_14 : decode prog_80_method_4_code 14 = .ok (.iconst 1, 1) := by decide +kernel
theorem own_d2_15 : decode prog_80_method_4_code 15 = .ok (.goto 4, 3) := by decide +kernel
theorem own_d2_18 : decode prog_80_method_4_code 18 = .ok (.iconst 0, 1) := by decide +kernel
theorem own_d2_19 : decode prog_80_method_4_code 19 = .ok (.ireturn, 1) := by decide +kernel
theorem own_ef2 (m : MethodId) (a0 : Addr) : entryFrame m #[(.ref a0)] 1 = mkF m 0 #[oa a0] [] := by first | (simp [entryFrame, mkF, argsToLocals, Value.category]; done) | rfl
def own_f2 (a0 : Addr) (aRS : Addr) (aHD : Addr) : Int32 := (if a0 = aRS then (1 : Int32) else (if a0 = aHD then (1 : Int32) else (0 : Int32)))
def own_Q2 (Z : State) (a0 : Addr) (aRS : Addr) (aHD : Addr) (h0 : Heap) (n0 : Nat) (v : Option Value) (h : Heap) (L : List Loc) : Prop := v = some (Value.int (own_f2 a0 aRS aHD)) ∧ Fr n0 L ∧ h = h0
set_option maxRecDepth 65536 in
set_option maxHeartbeats 40000000 in
theorem own_rm2 (l : Launch) (Z : State) (av : Array Value) (hw : ∀ d ∈ tables_1, d.before av Z = true) (ws : List Jvm.Cond) (a0 : Addr) (aRS : Addr) (aHD : Addr) (h0 : Heap) (n0 : Nat) (Z0 : n0 ≤ h0.size) (S_READY_TO_SHOW : Sta Z h0 "com/example/casement/casement/tree/DrawState" "READY_TO_SHOW" "Lcom/example/casement/casement/tree/DrawState;" (.ref aRS)) (S_HAS_DRAWN : Sta Z h0 "com/example/casement/casement/tree/DrawState" "HAS_DRAWN" "Lcom/example/casement/casement/tree/DrawState;" (.ref aHD)) :
    MetFree l (⟨"com/example/casement/casement/tree/DrawState", "isDrawn", "()Z"⟩ : MethodName) (head1 (Jvm.Cond.code (⟨"com/example/casement/casement/tree/DrawState", "isDrawn", "()Z"⟩ : MethodName) prog_80_method_4_code 1 (some .boolean) :: ws) ({ frames := 0, cells := 0, slots := 0, locals := 0 } : Room)) (fun a U => a = #[(.ref a0)] ∧ Z.Warmed39 U.vm ∧ U.heap = h0) (fun _ _ _ _ _ => True) (fun _ U o U' => ∃ v L, o = .returned v ∧ own_Q2 Z a0 aRS aHD h0 n0 v U'.heap L ∧ FrameEnd U o U' L ({ frames := 0, cells := 0, slots := 0, locals := 0 } : Room).cells ({ frames := 0, cells := 0, slots := 0, locals := 0 } : Room).slots) := by
  refine MetFree.of_bodySF (plainFor_of_name own_pn1) hisR ?_
  intro p e s m args below meth c s₁ Bd hml0 hP hK
  obtain ⟨rfl, hZ, hh⟩ := hP
  have hx := Bd.exec
  have hby := Bd.bytes
  have hml : c.maxLocals = 1 := hml0
  have hown : s.vm.findClass "com/example/casement/casement/tree/DrawState" = some m.cls := findClass_of_methodNamed Bd.named
  have hnm := (name_of_methodNamed Bd.named Bd.method).1
  have X0 : Stand p l e ({ frames := 0, cells := 0, slots := 0, locals := 0 } : Room) s m #[(.ref a0)] below meth c s₁ [] 0 0 := Stand.of_body Bd
  have e0 : s₁.heap = h0 := by rw [← hh, Bd.state]; rfl
  have N0 := Fr.nil n0
  have pre0 : ∀ t, Steps p.tables e below (s₁.setTop (mkF m 0 #[oa a0] [])) t → Steps p.tables e below (s₁.setTop (entryFrame m #[(.ref a0)] 1)) t := fun t k => castTop (own_ef2 m a0) k
  obtain ⟨T1, X1, e1, st1⟩ := getS2 X0 hx hZ hown (host := "") (Or.inl (hw _ (List.mem_of_getElem? (i := 15) rfl))) Via.refl e0 S_READY_TO_SHOW (g := (mkF m 1 #[oa a0] [(.ref a0)])) rfl (hb hby own_d2_1)
  have pre2 : ∀ t, Steps p.tables e below (T1.setTop (mkF m 4 #[oa a0] [(.ref aRS), (.ref a0)])) t → Steps p.tables e below (s₁.setTop (entryFrame m #[(.ref a0)] 1)) t := by
    intro t k
    refine pre0 t ?_
    show oS p e below s₁ m 0 #[oa a0] [] _
    refine XS.aloadN X0.here hx rfl (hb hby own_d2_0) rfl rfl ?_
    show oS p e below s₁ m 1 #[oa a0] [(.ref a0)] _
    refine st1 _ ?_
    exact k
  by_cases c3 : a0 = aRS
  · skip
    obtain ⟨fs, hr, hrun, hended, hW, hsame⟩ := X1.leave (v := (some (.int (1 : Int32)))) (fun h => by rw [Bd.returns] at h; cases h)
    refine ⟨_, _, pre2 _ ?_, hrun, hended, _, _, rfl, ?_, ⟨_, rfl⟩, hW, hsame.mono (by decide) (by decide)⟩
    · show oS p e below T1 m 4 #[oa a0] [(.ref aRS), (.ref a0)] _
      refine Jvm.RoadKit.acmp (g := (mkF m 4 #[oa a0] [(.ref aRS), (.ref a0)])) X1 hx rfl rfl rfl (pc0 := 4) (pc' := 14) (same := true) rfl (hb hby own_d2_4) rfl (decide_eq_true (congrArg Value.ref c3)) (by decide) (by decide) ?_
      show oS p e below T1 m 14 #[oa a0] [] _
      refine XS.iconst X1.here hx rfl (hb hby own_d2_14) ?_
      show oS p e below T1 m 15 #[oa a0] [(.int (1 : Int32))] _
      refine XS.goto X1.here hx rfl (pc0 := 15) (pc' := 19) rfl (hb hby own_d2_15) (by decide) (by decide) ?_
      show oS p e below T1 m 19 #[oa a0] [(.int (1 : Int32))] _
      exact retN X1 hx (t := .boolean) Bd.returns (by simp) (hb hby own_d2_19) hr
    · show own_Q2 Z a0 aRS aHD h0 n0 _ T1.heap _
      rw [e1]
      exact ⟨congrArg (fun z => some (Value.int z)) (by rw [own_f2, if_pos c3]), N0, rfl⟩
  · skip
    obtain ⟨T4, X4, e4, st4⟩ := getS2 X1 hx hZ hown (host := "") (Or.inl (hw _ (List.mem_of_getElem? (i := 16) rfl))) Via.refl e1 S_HAS_DRAWN (g := (mkF m 8 #[oa a0] [(.ref a0)])) rfl (hb hby own_d2_8)
    have pre5 : ∀ t, Steps p.tables e below (T4.setTop (mkF m 11 #[oa a0] [(.ref aHD), (.ref a0)])) t → Steps p.tables e below (s₁.setTop (entryFrame m #[(.ref a0)] 1)) t := by
      intro t k
      refine pre2 t ?_
      show oS p e below T1 m 4 #[oa a0] [(.ref aRS), (.ref a0)] _
      refine Jvm.RoadKit.acmp (g := (mkF m 4 #[oa a0] [(.ref aRS), (.ref a0)])) X1 hx rfl rfl rfl (pc0 := 4) (pc' := 7) (same := false) rfl (hb hby own_d2_4) rfl (decide_eq_false fun q => c3 (Value.ref.inj q)) (by decide) (by decide) ?_
      show oS p e below T1 m 7 #[oa a0] [] _
      refine XS.aloadN X1.here hx rfl (hb hby own_d2_7) rfl rfl ?_
      show oS p e below T1 m 8 #[oa a0] [(.ref a0)] _
      refine st4 _ ?_
      exact k
    by_cases c6 : a0 = aHD
    · skip
      obtain ⟨fs, hr, hrun, hended, hW, hsame⟩ := X4.leave (v := (some (.int (1 : Int32)))) (fun h => by rw [Bd.returns] at h; cases h)
      refine ⟨_, _, pre5 _ ?_, hrun, hended, _, _, rfl, ?_, ⟨_, rfl⟩, hW, hsame.mono (by decide) (by decide)⟩
      · show oS p e below T4 m 11 #[oa a0] [(.ref aHD), (.ref a0)] _
        refine Jvm.RoadKit.acmp (g := (mkF m 11 #[oa a0] [(.ref aHD), (.ref a0)])) X4 hx rfl rfl rfl (pc0 := 11) (pc' := 14) (same := true) rfl (hb hby own_d2_11) rfl (decide_eq_true (congrArg Value.ref c6)) (by decide) (by decide) ?_
        show oS p e below T4 m 14 #[oa a0] [] _
        refine XS.iconst X4.here hx rfl (hb hby own_d2_14) ?_
        show oS p e below T4 m 15 #[oa a0] [(.int (1 : Int32))] _
        refine XS.goto X4.here hx rfl (pc0 := 15) (pc' := 19) rfl (hb hby own_d2_15) (by decide) (by decide) ?_
        show oS p e below T4 m 19 #[oa a0] [(.int (1 : Int32))] _
        exact retN X4 hx (t := .boolean) Bd.returns (by simp) (hb hby own_d2_19) hr
      · show own_Q2 Z a0 aRS aHD h0 n0 _ T4.heap _
        rw [e4]
        exact ⟨congrArg (fun z => some (Value.int z)) (by rw [own_f2, if_neg c3, if_pos c6]), N0, rfl⟩
    · skip
      obtain ⟨fs, hr, hrun, hended, hW, hsame⟩ := X4.leave (v := (some (.int (0 : Int32)))) (fun h => by rw [Bd.returns] at h; cases h)
      refine ⟨_, _, pre5 _ ?_, hrun, hended, _, _, rfl, ?_, ⟨_, rfl⟩, hW, hsame.mono (by decide) (by decide)⟩
      · show oS p e below T4 m 11 #[oa a0] [(.ref aHD), (.ref a0)] _
        refine Jvm.RoadKit.acmp (g := (mkF m 11 #[oa a0] [(.ref aHD), (.ref a0)])) X4 hx rfl rfl rfl (pc0 := 11) (pc' := 18) (same := false) rfl (hb hby own_d2_11) rfl (decide_eq_false fun q => c6 (Value.ref.inj q)) (by decide) (by decide) ?_
        show oS p e below T4 m 18 #[oa a0] [] _
        refine XS.iconst X4.here hx rfl (hb hby own_d2_18) ?_
        show oS p e below T4 m 19 #[oa a0] [(.int (0 : Int32))] _
        exact retN X4 hx (t := .boolean) Bd.returns (by simp) (hb hby own_d2_19) hr
      · show own_Q2 Z a0 aRS aHD h0 n0 _ T4.heap _
        rw [e4]
        exact ⟨congrArg (fun z => some (Value.int z)) (by rw [own_f2, if_neg c3, if_neg c6]), N0, rfl⟩
theorem own_exa {Z : State} {h : Heap} {K : String} {aNS aDP aCP aRS aHD : Addr} (E0 : Exa Z h aNS K) (E1 : Exa Z h aDP K) (E2 : Exa Z h aCP K) (E3 : Exa Z h aRS K) (E4 : Exa Z h aHD K) (k : Int32) : Exa Z h (own_f1 k aNS aDP aCP aRS aHD) K := by
  unfold own_f1
  repeat' split
  all_goals assumption
theorem own_ex {aNS aDP aCP aRS aHD : Addr} (n1 : aNS ≠ aRS) (n2 : aNS ≠ aHD) (n3 : aDP ≠ aRS) (n4 : aDP ≠ aHD) (n5 : aCP ≠ aRS) (n6 : aCP ≠ aHD) (k : Int32) (h : 0 ≤ k.toInt) : own_f2 (own_f1 k aNS aDP aCP aRS aHD) aRS aHD = (if k < (3 : Int32) then (0 : Int32) else (1 : Int32)) := by
  by_cases h0 : k = 0
  · subst h0; simp [own_f1, own_f2, n1, n2]
  · by_cases h1 : k = 1
    · subst h1; simp [own_f1, own_f2, n3, n4]
    · by_cases h2 : k = 2
      · subst h2; simp [own_f1, own_f2, n5, n6]
      · have h3 : ¬ k < (3 : Int32) := by
          rw [← Int32.toInt_inj] at h0 h1 h2
          simp only [own_ltp, Int32.reduceToInt] at h0 h1 h2 ⊢
          omega
        rw [if_neg h3]
        by_cases h4 : k = 3
        · subst h4; simp [own_f1, own_f2]
        · simp [own_f1, own_f2, h0, h1, h2, h4]
theorem own_mono (i j : Int32) (h : ¬ j < i) (h' : ¬ (if i < (3 : Int32) then (0 : Int32) else (1 : Int32)) = 0) : ¬ (if j < (3 : Int32) then (0 : Int32) else (1 : Int32)) = 0 := by
  by_cases c : i < (3 : Int32)
  · rw [if_pos c] at h'; exact absurd rfl h'
  · have c' : ¬ j < (3 : Int32) := by
      simp only [own_ltp, Int32.reduceToInt] at h c ⊢
      omega
    rw [if_neg c']; decide
theorem own_m5 (x : Int32) : 0 ≤ ((x &&& (2147483647 : Int32)) % (5 : Int32)).toInt := by
  have h : (x &&& (2147483647 : Int32)).toInt = x.toInt % 2147483648 := c_mask x 2147483647 31 (by decide) (by decide)
  have h2 := (c_irem (x &&& 2147483647) 5 5 (by decide)).1 (by omega)
  rw [h2]; omega
theorem own_pd0 : parseMethodDescriptor "(I)Lcom/example/casement/casement/tree/DrawState;" = some ⟨[.int], some (.object "com/example/casement/casement/tree/DrawState")⟩ := by decide +kernel
theorem own_pd1 : parseMethodDescriptor "()Z" = some ⟨[], some .boolean⟩ := by decide +kernel
theorem own_ef0 (m : MethodId) (p0 : Int32) (p1 : Int32) : entryFrame m #[(.int p0), (.int p1)] maxLocals = mkF m 0 #[oi p0, oi p1, .unset, .unset, .unset, .unset, .unset, .unset, .unset, .unset] [] := by first | (simp [entryFrame, mkF, argsToLocals, Value.category, maxLocals]; done) | rfl
def own_Q0 (Z : State) (p0 : Int32) (p1 : Int32) (aNS : Addr) (aDP : Addr) (aCP : Addr) (aRS : Addr) (aHD : Addr) (h0 : Heap) (n0 : Nat) (v : Option Value) (h : Heap) (L : List Loc) : Prop := v = some (Value.int (1 : Int32)) ∧ Fr n0 L
set_option maxRecDepth 65536 in
set_option maxHeartbeats 40000000 in
theorem own_rm0 (l : Launch) (Z : State) (av : Array Value) (hw : ∀ d ∈ tables_1, d.before av Z = true) (ws : List Jvm.Cond) (p0 : Int32) (p1 : Int32) (aNS : Addr) (aDP : Addr) (aCP : Addr) (aRS : Addr) (aHD : Addr) (h0 : Heap) (n0 : Nat) (Z0 : n0 ≤ h0.size) (S_NO_SURFACE : Sta Z h0 "com/example/casement/casement/tree/DrawState" "NO_SURFACE" "Lcom/example/casement/casement/tree/DrawState;" (.ref aNS)) (S_DRAW_PENDING : Sta Z h0 "com/example/casement/casement/tree/DrawState" "DRAW_PENDING" "Lcom/example/casement/casement/tree/DrawState;" (.ref aDP)) (S_COMMIT_DRAW_PENDING : Sta Z h0 "com/example/casement/casement/tree/DrawState" "COMMIT_DRAW_PENDING" "Lcom/example/casement/casement/tree/DrawState;" (.ref aCP)) (S_READY_TO_SHOW : Sta Z h0 "com/example/casement/casement/tree/DrawState" "READY_TO_SHOW" "Lcom/example/casement/casement/tree/DrawState;" (.ref aRS)) (S_HAS_DRAWN : Sta Z h0 "com/example/casement/casement/tree/DrawState" "HAS_DRAWN" "Lcom/example/casement/casement/tree/DrawState;" (.ref aHD)) (E_aNS : Exa Z h0 aNS "com/example/casement/casement/tree/DrawState") (E_aDP : Exa Z h0 aDP "com/example/casement/casement/tree/DrawState") (E_aCP : Exa Z h0 aCP "com/example/casement/casement/tree/DrawState") (E_aRS : Exa Z h0 aRS "com/example/casement/casement/tree/DrawState") (E_aHD : Exa Z h0 aHD "com/example/casement/casement/tree/DrawState") (n1 : aNS ≠ aRS) (n2 : aNS ≠ aHD) (n3 : aDP ≠ aRS) (n4 : aDP ≠ aHD) (n5 : aCP ≠ aRS) (n6 : aCP ≠ aHD) :
    MetFree l x (head1 (Jvm.Cond.code x code maxLocals ret :: ws) room_1) (fun a U => a = #[(.int p0), (.int p1)] ∧ Z.Warmed39 U.vm ∧ U.heap = h0) (fun _ _ _ _ _ => True) (fun _ U o U' => ∃ v L, o = .returned v ∧ own_Q0 Z p0 p1 aNS aDP aCP aRS aHD h0 n0 v U'.heap L ∧ FrameEnd U o U' L room_1.cells room_1.slots) := by
  refine MetFree.of_bodySF (plainFor_of_name own_pn0) hisR ?_
  intro p e s m args below meth c s₁ Bd hml0 hP hK
  obtain ⟨rfl, hZ, hh⟩ := hP
  have hx := Bd.exec
  have hby := Bd.bytes
  have hml : c.maxLocals = 10 := hml0
  have hown : s.vm.findClass "com/example/casement/casement/tree/DrawStateIsDrawnPinLaw" = some m.cls := findClass_of_methodNamed Bd.named
  have hnm := (name_of_methodNamed Bd.named Bd.method).1
  have X0 : Stand p l e room_1 s m #[(.int p0), (.int p1)] below meth c s₁ [] 0 0 := Stand.of_body Bd
  have e0 : s₁.heap = h0 := by rw [← hh, Bd.state]; rfl
  have N0 := Fr.nil n0
  have pre0 : ∀ t, Steps p.tables e below (s₁.setTop (mkF m 0 #[oi p0, oi p1, .unset, .unset, .unset, .unset, .unset, .unset, .unset, .unset] [])) t → Steps p.tables e below (s₁.setTop (entryFrame m #[(.int p0), (.int p1)] maxLocals)) t := fun t k => castTop (own_ef0 m p0 p1) k
  have pre1 : ∀ t, Steps p.tables e below (s₁.setTop (mkF m 6 #[oi p0, oi p1, .unset, .unset, .unset, .unset, .unset, .unset, .unset, .unset] [(.int ((p0 &&& (2147483647 : Int32)) % (5 : Int32)))])) t → Steps p.tables e below (s₁.setTop (entryFrame m #[(.int p0), (.int p1)] maxLocals)) t := by
    intro t k
    refine pre0 t ?_
    show oS p e below s₁ m 0 #[oi p0, oi p1, .unset, .unset, .unset, .unset, .unset, .unset, .unset, .unset] [] _
    refine XS.iloadN X0.here hx rfl (hb hby at_0) rfl ?_
    show oS p e below s₁ m 1 #[oi p0, oi p1, .unset, .unset, .unset, .unset, .unset, .unset, .unset, .unset] [(.int p0)] _
    refine X0.ldcInt hx hown (mvT hZ (hw _ (List.mem_of_getElem? (i := 0) rfl))) (g := (mkF m 1 #[oi p0, oi p1, .unset, .unset, .unset, .unset, .unset, .unset, .unset, .unset] [(.int p0)])) rfl (hb hby at_1) _ ?_
    show oS p e below s₁ m 3 #[oi p0, oi p1, .unset, .unset, .unset, .unset, .unset, .unset, .unset, .unset] [(.int (2147483647 : Int32)), (.int p0)] _
    refine XS.iand X0.here hx rfl (hb hby at_3) rfl ?_
    show oS p e below s₁ m 4 #[oi p0, oi p1, .unset, .unset, .unset, .unset, .unset, .unset, .unset, .unset] [(.int (p0 &&& (2147483647 : Int32)))] _
    refine XS.iconst X0.here hx rfl (hb hby at_4) ?_
    show oS p e below s₁ m 5 #[oi p0, oi p1, .unset, .unset, .unset, .unset, .unset, .unset, .unset, .unset] [(.int (5 : Int32)), (.int (p0 &&& (2147483647 : Int32)))] _
    refine Jvm.RoadKit.iremM X0 hx rfl (hb hby at_5) rfl (by decide) ?_
    exact k
  obtain ⟨vi, hvi⟩ : ∃ z : Int32, z = ((p0 &&& (2147483647 : Int32)) % (5 : Int32)) := ⟨_, rfl⟩
  rw [← hvi] at pre1
  have rvi : 0 ≤ vi.toInt := by rw [hvi]; exact own_m5 _
  have pre2 : ∀ t, Steps p.tables e below (s₁.setTop (mkF m 13 #[oi p0, oi p1, oi vi, .unset, .unset, .unset, .unset, .unset, .unset, .unset] [(.int ((p1 &&& (2147483647 : Int32)) % (5 : Int32)))])) t → Steps p.tables e below (s₁.setTop (entryFrame m #[(.int p0), (.int p1)] maxLocals)) t := by
    intro t k
    refine pre1 t ?_
    show oS p e below s₁ m 6 #[oi p0, oi p1, .unset, .unset, .unset, .unset, .unset, .unset, .unset, .unset] [(.int vi)] _
    refine XS.istoreN X0.here hx rfl (hb hby at_6) rfl (l' := #[oi p0, oi p1, oi vi, .unset, .unset, .unset, .unset, .unset, .unset, .unset]) rfl ?_
    show oS p e below s₁ m 7 #[oi p0, oi p1, oi vi, .unset, .unset, .unset, .unset, .unset, .unset, .unset] [] _
    refine XS.iloadN X0.here hx rfl (hb hby at_7) rfl ?_
    show oS p e below s₁ m 8 #[oi p0, oi p1, oi vi, .unset, .unset, .unset, .unset, .unset, .unset, .unset] [(.int p1)] _
    refine X0.ldcInt hx hown (mvT hZ (hw _ (List.mem_of_getElem? (i := 0) rfl))) (g := (mkF m 8 #[oi p0, oi p1, oi vi, .unset, .unset, .unset, .unset, .unset, .unset, .unset] [(.int p1)])) rfl (hb hby at_8) _ ?_
    show oS p e below s₁ m 10 #[oi p0, oi p1, oi vi, .unset, .unset, .unset, .unset, .unset, .unset, .unset] [(.int (2147483647 : Int32)), (.int p1)] _
    refine XS.iand X0.here hx rfl (hb hby at_10) rfl ?_
    show oS p e below s₁ m 11 #[oi p0, oi p1, oi vi, .unset, .unset, .unset, .unset, .unset, .unset, .unset] [(.int (p1 &&& (2147483647 : Int32)))] _
    refine XS.iconst X0.here hx rfl (hb hby at_11) ?_
    show oS p e below s₁ m 12 #[oi p0, oi p1, oi vi, .unset, .unset, .unset, .unset, .unset, .unset, .unset] [(.int (5 : Int32)), (.int (p1 &&& (2147483647 : Int32)))] _
    refine Jvm.RoadKit.iremM X0 hx rfl (hb hby at_12) rfl (by decide) ?_
    exact k
  obtain ⟨vj, hvj⟩ : ∃ z : Int32, z = ((p1 &&& (2147483647 : Int32)) % (5 : Int32)) := ⟨_, rfl⟩
  rw [← hvj] at pre2
  have rvj : 0 ≤ vj.toInt := by rw [hvj]; exact own_m5 _
  obtain ⟨_, _, ⟨T3, L3, k3, n3⟩, -, X3, ⟨Lc3, hQ3, l3, y3, z3⟩, st3⟩ := Jvm.LawKit.callS X0 hx (y := (⟨"com/example/casement/casement/tree/DrawStateIsDrawnPinLaw", "pick", "(I)Lcom/example/casement/casement/tree/DrawState;"⟩ : MethodName)) hown (mvT hZ (hw _ (List.mem_of_getElem? (i := 1) rfl))) (mvT hZ (hw _ (List.mem_of_getElem? (i := 2) rfl))) (mvT hZ (hw _ (List.mem_of_getElem? (i := 3) rfl))) (mvT hZ (hw _ (List.mem_of_getElem? (i := 4) rfl))) (by decide) (backOf (W := 0) (own_rm1 l Z av hw [] vi aNS aDP aCP aRS aHD h0 n0 Z0 S_NO_SURFACE S_DRAW_PENDING S_COMMIT_DRAW_PENDING S_READY_TO_SHOW S_HAS_DRAWN) hZ (hw _ (List.mem_of_getElem? (i := 4) rfl)) (hw _ (List.mem_of_getElem? (i := 3) rfl)) (by decide) (by decide)) (g := (mkF m 15 #[oi p0, oi p1, oi vi, oi vj, .unset, .unset, .unset, .unset, .unset, .unset] [(.int vi)])) rfl (by rw [hml]; rfl) (argsL := [(.int vi)]) (rest := []) (lenOf own_pd0 rfl) rfl (by show 2 * 0 + _ ≤ _; exact Nat.le_of_eq rfl) (hb hby at_15) (fun _ _ => ⟨rfl, e0, (by decide : 0 + 0 ≤ _), (by decide : 0 + 0 ≤ _)⟩)
  dsimp only [Pt.U, Pt.locs, Pt.cells, Pt.slots] at X3 l3 y3 z3 st3 hQ3
  subst l3 y3 z3
  obtain ⟨rfl, Nq3, eq3⟩ := hQ3
  have N3 := Fr.app N0 Nq3
  have pre4 : ∀ t, Steps p.tables e below (T3.setTop (mkF m 18 #[oi p0, oi p1, oi vi, oi vj, .unset, .unset, .unset, .unset, .unset, .unset] [(.ref (own_f1 vi aNS aDP aCP aRS aHD))])) t → Steps p.tables e below (s₁.setTop (entryFrame m #[(.int p0), (.int p1)] maxLocals)) t := by
    intro t k
    refine pre2 t ?_
    show oS p e below s₁ m 13 #[oi p0, oi p1, oi vi, .unset, .unset, .unset, .unset, .unset, .unset, .unset] [(.int vj)] _
    refine XS.istoreN X0.here hx rfl (hb hby at_13) rfl (l' := #[oi p0, oi p1, oi vi, oi vj, .unset, .unset, .unset, .unset, .unset, .unset]) rfl ?_
    show oS p e below s₁ m 14 #[oi p0, oi p1, oi vi, oi vj, .unset, .unset, .unset, .unset, .unset, .unset] [] _
    refine XS.iloadN X0.here hx rfl (hb hby at_14) rfl ?_
    show oS p e below s₁ m 15 #[oi p0, oi p1, oi vi, oi vj, .unset, .unset, .unset, .unset, .unset, .unset] [(.int vi)] _
    refine st3 _ ?_
    exact k
  obtain ⟨x1, hx1⟩ : ∃ z : Addr, z = (own_f1 vi aNS aDP aCP aRS aHD) := ⟨_, rfl⟩
  rw [← hx1] at pre4
  have E_x1 : Exa Z h0 x1 "com/example/casement/casement/tree/DrawState" := by rw [hx1]; exact own_exa E_aNS E_aDP E_aCP E_aRS E_aHD _
  have hd_x1 : own_f2 x1 aRS aHD = (if vi < (3 : Int32) then (0 : Int32) else (1 : Int32)) := by rw [hx1]; exact own_ex n1 n2 n3 n4 n5 n6 _ rvi
  obtain ⟨_, _, ⟨T5, L5, k5, n5⟩, -, X5, ⟨Lc5, hQ5, l5, y5, z5⟩, st5⟩ := Jvm.LawKit.callS X3 hx (y := (⟨"com/example/casement/casement/tree/DrawStateIsDrawnPinLaw", "pick", "(I)Lcom/example/casement/casement/tree/DrawState;"⟩ : MethodName)) hown (mvT hZ (hw _ (List.mem_of_getElem? (i := 1) rfl))) (mvT hZ (hw _ (List.mem_of_getElem? (i := 2) rfl))) (mvT hZ (hw _ (List.mem_of_getElem? (i := 3) rfl))) (mvT hZ (hw _ (List.mem_of_getElem? (i := 4) rfl))) (by decide) (backOf (W := 0) (own_rm1 l Z av hw [] vj aNS aDP aCP aRS aHD h0 n0 Z0 S_NO_SURFACE S_DRAW_PENDING S_COMMIT_DRAW_PENDING S_READY_TO_SHOW S_HAS_DRAWN) hZ (hw _ (List.mem_of_getElem? (i := 4) rfl)) (hw _ (List.mem_of_getElem? (i := 3) rfl)) (by decide) (by decide)) (g := (mkF m 21 #[oi p0, oi p1, oi vi, oi vj, oa x1, .unset, .unset, .unset, .unset, .unset] [(.int vj)])) rfl (by rw [hml]; rfl) (argsL := [(.int vj)]) (rest := []) (lenOf own_pd0 rfl) rfl (by show 2 * 0 + _ ≤ _; exact Nat.le_of_eq rfl) (hb hby at_21) (fun _ _ => ⟨rfl, eq3, (by decide : 0 + 0 ≤ _), (by decide : 0 + 0 ≤ _)⟩)
  dsimp only [Pt.U, Pt.locs, Pt.cells, Pt.slots] at X5 l5 y5 z5 st5 hQ5
  subst l5 y5 z5
  obtain ⟨rfl, Nq5, eq5⟩ := hQ5
  have N5 := Fr.app N3 Nq5
  have pre6 : ∀ t, Steps p.tables e below (T5.setTop (mkF m 24 #[oi p0, oi p1, oi vi, oi vj, oa x1, .unset, .unset, .unset, .unset, .unset] [(.ref (own_f1 vj aNS aDP aCP aRS aHD))])) t → Steps p.tables e below (s₁.setTop (entryFrame m #[(.int p0), (.int p1)] maxLocals)) t := by
    intro t k
    refine pre4 t ?_
    show oS p e below T3 m 18 #[oi p0, oi p1, oi vi, oi vj, .unset, .unset, .unset, .unset, .unset, .unset] [(.ref x1)] _
    refine XS.astore X3.here hx rfl (hb hby at_18) rfl rfl (l' := #[oi p0, oi p1, oi vi, oi vj, oa x1, .unset, .unset, .unset, .unset, .unset]) rfl ?_
    show oS p e below T3 m 20 #[oi p0, oi p1, oi vi, oi vj, oa x1, .unset, .unset, .unset, .unset, .unset] [] _
    refine XS.iloadN X3.here hx rfl (hb hby at_20) rfl ?_
    show oS p e below T3 m 21 #[oi p0, oi p1, oi vi, oi vj, oa x1, .unset, .unset, .unset, .unset, .unset] [(.int vj)] _
    refine st5 _ ?_
    exact k
  obtain ⟨x2, hx2⟩ : ∃ z : Addr, z = (own_f1 vj aNS aDP aCP aRS aHD) := ⟨_, rfl⟩
  rw [← hx2] at pre6
  have E_x2 : Exa Z h0 x2 "com/example/casement/casement/tree/DrawState" := by rw [hx2]; exact own_exa E_aNS E_aDP E_aCP E_aRS E_aHD _
  have hd_x2 : own_f2 x2 aRS aHD = (if vj < (3 : Int32) then (0 : Int32) else (1 : Int32)) := by rw [hx2]; exact own_ex n1 n2 n3 n4 n5 n6 _ rvj
  obtain ⟨cq7, kq7, q7a, q7b, q7c⟩ := isOf hZ eq5 E_x1
  obtain ⟨_, _, ⟨T7, L7, k7, n7⟩, -, X7, ⟨Lc7, hQ7, l7, y7, z7⟩, st7⟩ := X5.virtualBack hx (y := (⟨"com/example/casement/casement/tree/DrawState", "isDrawn", "()Z"⟩ : MethodName)) (z := (⟨"com/example/casement/casement/tree/DrawState", "isDrawn", "()Z"⟩ : MethodName)) hown (mvT hZ (hw _ (List.mem_of_getElem? (i := 10) rfl))) (mvT hZ (hw _ (List.mem_of_getElem? (i := 11) rfl))) (notFace_of_selects (args := #[]) (mvT hZ (hw _ (List.mem_of_getElem? (i := 13) rfl)))) (mvT hZ (hw _ (List.mem_of_getElem? (i := 13) rfl))) (mvT hZ (hw _ (List.mem_of_getElem? (i := 12) rfl))) (by decide) (backOf (W := 0) (own_rm2 l Z av hw [] x1 aRS aHD h0 n0 Z0 S_READY_TO_SHOW S_HAS_DRAWN) hZ (hw _ (List.mem_of_getElem? (i := 14) rfl)) (hw _ (List.mem_of_getElem? (i := 6) rfl)) (by decide) (by decide)) q7a q7c (g := (mkF m 28 #[oi p0, oi p1, oi vi, oi vj, oa x1, oa x2, .unset, .unset, .unset, .unset] [(.ref x1)])) rfl (by rw [hml]; rfl) (Steps.refl _) (argsL := []) (rest := []) (lenOf own_pd1 rfl) rfl (by show 2 * 0 + _ ≤ _; exact Nat.le_of_eq rfl) (hb hby at_28) (fun _ _ => ⟨rfl, eq5, (by decide : 0 + 0 ≤ _), (by decide : 0 + 0 ≤ _)⟩)
  dsimp only [Pt.U, Pt.locs, Pt.cells, Pt.slots] at X7 l7 y7 z7 st7 hQ7
  subst l7 y7 z7
  obtain ⟨rfl, Nq7, eq7⟩ := hQ7
  have N7 := Fr.app N5 Nq7
  obtain ⟨cq8, kq8, q8a, q8b, q8c⟩ := isOf hZ eq7 E_x2
  obtain ⟨_, _, ⟨T8, L8, k8, n8⟩, -, X8, ⟨Lc8, hQ8, l8, y8, z8⟩, st8⟩ := X7.virtualBack hx (y := (⟨"com/example/casement/casement/tree/DrawState", "isDrawn", "()Z"⟩ : MethodName)) (z := (⟨"com/example/casement/casement/tree/DrawState", "isDrawn", "()Z"⟩ : MethodName)) hown (mvT hZ (hw _ (List.mem_of_getElem? (i := 10) rfl))) (mvT hZ (hw _ (List.mem_of_getElem? (i := 11) rfl))) (notFace_of_selects (args := #[]) (mvT hZ (hw _ (List.mem_of_getElem? (i := 13) rfl)))) (mvT hZ (hw _ (List.mem_of_getElem? (i := 13) rfl))) (mvT hZ (hw _ (List.mem_of_getElem? (i := 12) rfl))) (by decide) (backOf (W := 0) (own_rm2 l Z av hw [] x2 aRS aHD h0 n0 Z0 S_READY_TO_SHOW S_HAS_DRAWN) hZ (hw _ (List.mem_of_getElem? (i := 14) rfl)) (hw _ (List.mem_of_getElem? (i := 6) rfl)) (by decide) (by decide)) q8a q8c (g := (mkF m 35 #[oi p0, oi p1, oi vi, oi vj, oa x1, oa x2, oi (own_f2 x1 aRS aHD), .unset, .unset, .unset] [(.ref x2)])) rfl (by rw [hml]; rfl) (Steps.refl _) (argsL := []) (rest := []) (lenOf own_pd1 rfl) rfl (by show 2 * 0 + _ ≤ _; exact Nat.le_of_eq rfl) (hb hby at_35) (fun _ _ => ⟨rfl, eq7, (by decide : 0 + 0 ≤ _), (by decide : 0 + 0 ≤ _)⟩)
  dsimp only [Pt.U, Pt.locs, Pt.cells, Pt.slots] at X8 l8 y8 z8 st8 hQ8
  subst l8 y8 z8
  obtain ⟨rfl, Nq8, eq8⟩ := hQ8
  have N8 := Fr.app N7 Nq8
  have pre9 : ∀ t, Steps p.tables e below (T8.setTop (mkF m 44 #[oi p0, oi p1, oi vi, oi vj, oa x1, oa x2, oi (own_f2 x1 aRS aHD), oi (own_f2 x2 aRS aHD), .unset, .unset] [(.int (3 : Int32)), (.int vi), (.int (own_f2 x1 aRS aHD))])) t → Steps p.tables e below (s₁.setTop (entryFrame m #[(.int p0), (.int p1)] maxLocals)) t := by
    intro t k
    refine pre6 t ?_
    show oS p e below T5 m 24 #[oi p0, oi p1, oi vi, oi vj, oa x1, .unset, .unset, .unset, .unset, .unset] [(.ref x2)] _
    refine XS.astore X5.here hx rfl (hb hby at_24) rfl rfl (l' := #[oi p0, oi p1, oi vi, oi vj, oa x1, oa x2, .unset, .unset, .unset, .unset]) rfl ?_
    show oS p e below T5 m 26 #[oi p0, oi p1, oi vi, oi vj, oa x1, oa x2, .unset, .unset, .unset, .unset] [] _
    refine XS.aload X5.here hx rfl (hb hby at_26) rfl rfl ?_
    show oS p e below T5 m 28 #[oi p0, oi p1, oi vi, oi vj, oa x1, oa x2, .unset, .unset, .unset, .unset] [(.ref x1)] _
    refine st7.trans ?_
    show oS p e below T7 m 31 #[oi p0, oi p1, oi vi, oi vj, oa x1, oa x2, .unset, .unset, .unset, .unset] [(.int (own_f2 x1 aRS aHD))] _
    refine XS.istore X7.here hx rfl (hb hby at_31) rfl (l' := #[oi p0, oi p1, oi vi, oi vj, oa x1, oa x2, oi (own_f2 x1 aRS aHD), .unset, .unset, .unset]) rfl ?_
    show oS p e below T7 m 33 #[oi p0, oi p1, oi vi, oi vj, oa x1, oa x2, oi (own_f2 x1 aRS aHD), .unset, .unset, .unset] [] _
    refine XS.aload X7.here hx rfl (hb hby at_33) rfl rfl ?_
    show oS p e below T7 m 35 #[oi p0, oi p1, oi vi, oi vj, oa x1, oa x2, oi (own_f2 x1 aRS aHD), .unset, .unset, .unset] [(.ref x2)] _
    refine st8.trans ?_
    show oS p e below T8 m 38 #[oi p0, oi p1, oi vi, oi vj, oa x1, oa x2, oi (own_f2 x1 aRS aHD), .unset, .unset, .unset] [(.int (own_f2 x2 aRS aHD))] _
    refine XS.istore X8.here hx rfl (hb hby at_38) rfl (l' := #[oi p0, oi p1, oi vi, oi vj, oa x1, oa x2, oi (own_f2 x1 aRS aHD), oi (own_f2 x2 aRS aHD), .unset, .unset]) rfl ?_
    show oS p e below T8 m 40 #[oi p0, oi p1, oi vi, oi vj, oa x1, oa x2, oi (own_f2 x1 aRS aHD), oi (own_f2 x2 aRS aHD), .unset, .unset] [] _
    refine XS.iload X8.here hx rfl (hb hby at_40) rfl ?_
    show oS p e below T8 m 42 #[oi p0, oi p1, oi vi, oi vj, oa x1, oa x2, oi (own_f2 x1 aRS aHD), oi (own_f2 x2 aRS aHD), .unset, .unset] [(.int (own_f2 x1 aRS aHD))] _
    refine XS.iloadN X8.here hx rfl (hb hby at_42) rfl ?_
    show oS p e below T8 m 43 #[oi p0, oi p1, oi vi, oi vj, oa x1, oa x2, oi (own_f2 x1 aRS aHD), oi (own_f2 x2 aRS aHD), .unset, .unset] [(.int vi), (.int (own_f2 x1 aRS aHD))] _
    refine XS.iconst X8.here hx rfl (hb hby at_43) ?_
    exact k
  obtain ⟨v11, hv11⟩ : ∃ z : Int32, z = (if vi < (3 : Int32) then (0 : Int32) else (1 : Int32)) := ⟨_, rfl⟩
  have pre12 : ∀ t, Steps p.tables e below (T8.setTop (mkF m 52 #[oi p0, oi p1, oi vi, oi vj, oa x1, oa x2, oi (own_f2 x1 aRS aHD), oi (own_f2 x2 aRS aHD), .unset, .unset] [(.int v11), (.int (own_f2 x1 aRS aHD))])) t → Steps p.tables e below (s₁.setTop (entryFrame m #[(.int p0), (.int p1)] maxLocals)) t := by
    intro t k
    by_cases c10 : vi < (3 : Int32)
    · skip
      rw [show v11 = (0 : Int32) from hv11.trans (by rw [if_pos c10])] at k
      refine pre9 t ?_
      show oS p e below T8 m 44 #[oi p0, oi p1, oi vi, oi vj, oa x1, oa x2, oi (own_f2 x1 aRS aHD), oi (own_f2 x2 aRS aHD), .unset, .unset] [(.int (3 : Int32)), (.int vi), (.int (own_f2 x1 aRS aHD))] _
      refine XS.icmpYes X8.here hx rfl (pc0 := 44) (pc' := 51) rfl (hb hby at_44) rfl (tlt c10).1 (by decide) (by decide) ?_
      show oS p e below T8 m 51 #[oi p0, oi p1, oi vi, oi vj, oa x1, oa x2, oi (own_f2 x1 aRS aHD), oi (own_f2 x2 aRS aHD), .unset, .unset] [(.int (own_f2 x1 aRS aHD))] _
      refine XS.iconst X8.here hx rfl (hb hby at_51) ?_
      exact k
    · skip
      rw [show v11 = (1 : Int32) from hv11.trans (by rw [if_neg c10])] at k
      refine pre9 t ?_
      show oS p e below T8 m 44 #[oi p0, oi p1, oi vi, oi vj, oa x1, oa x2, oi (own_f2 x1 aRS aHD), oi (own_f2 x2 aRS aHD), .unset, .unset] [(.int (3 : Int32)), (.int vi), (.int (own_f2 x1 aRS aHD))] _
      refine XS.icmpNo X8.here hx rfl (hb hby at_44) rfl (flt c10).1 ?_
      show oS p e below T8 m 47 #[oi p0, oi p1, oi vi, oi vj, oa x1, oa x2, oi (own_f2 x1 aRS aHD), oi (own_f2 x2 aRS aHD), .unset, .unset] [(.int (own_f2 x1 aRS aHD))] _
      refine XS.iconst X8.here hx rfl (hb hby at_47) ?_
      show oS p e below T8 m 48 #[oi p0, oi p1, oi vi, oi vj, oa x1, oa x2, oi (own_f2 x1 aRS aHD), oi (own_f2 x2 aRS aHD), .unset, .unset] [(.int (1 : Int32)), (.int (own_f2 x1 aRS aHD))] _
      refine XS.goto X8.here hx rfl (pc0 := 48) (pc' := 52) rfl (hb hby at_48) (by decide) (by decide) ?_
      exact k
  have b13 : (own_f2 x1 aRS aHD) = v11 := by rw [hv11]; exact hd_x1
  have pre14 : ∀ t, Steps p.tables e below (T8.setTop (mkF m 64 #[oi p0, oi p1, oi vi, oi vj, oa x1, oa x2, oi (own_f2 x1 aRS aHD), oi (own_f2 x2 aRS aHD), oi (1 : Int32), .unset] [(.int vj), (.int vi)])) t → Steps p.tables e below (s₁.setTop (entryFrame m #[(.int p0), (.int p1)] maxLocals)) t := by
    intro t k
    refine pre12 t ?_
    show oS p e below T8 m 52 #[oi p0, oi p1, oi vi, oi vj, oa x1, oa x2, oi (own_f2 x1 aRS aHD), oi (own_f2 x2 aRS aHD), .unset, .unset] [(.int v11), (.int (own_f2 x1 aRS aHD))] _
    refine XS.icmpNo X8.here hx rfl (hb hby at_52) rfl (teq b13).2 ?_
    show oS p e below T8 m 55 #[oi p0, oi p1, oi vi, oi vj, oa x1, oa x2, oi (own_f2 x1 aRS aHD), oi (own_f2 x2 aRS aHD), .unset, .unset] [] _
    refine XS.iconst X8.here hx rfl (hb hby at_55) ?_
    show oS p e below T8 m 56 #[oi p0, oi p1, oi vi, oi vj, oa x1, oa x2, oi (own_f2 x1 aRS aHD), oi (own_f2 x2 aRS aHD), .unset, .unset] [(.int (1 : Int32))] _
    refine XS.goto X8.here hx rfl (pc0 := 56) (pc' := 60) rfl (hb hby at_56) (by decide) (by decide) ?_
    show oS p e below T8 m 60 #[oi p0, oi p1, oi vi, oi vj, oa x1, oa x2, oi (own_f2 x1 aRS aHD), oi (own_f2 x2 aRS aHD), .unset, .unset] [(.int (1 : Int32))] _
    refine XS.istore X8.here hx rfl (hb hby at_60) rfl (l' := #[oi p0, oi p1, oi vi, oi vj, oa x1, oa x2, oi (own_f2 x1 aRS aHD), oi (own_f2 x2 aRS aHD), oi (1 : Int32), .unset]) rfl ?_
    show oS p e below T8 m 62 #[oi p0, oi p1, oi vi, oi vj, oa x1, oa x2, oi (own_f2 x1 aRS aHD), oi (own_f2 x2 aRS aHD), oi (1 : Int32), .unset] [] _
    refine XS.iloadN X8.here hx rfl (hb hby at_62) rfl ?_
    show oS p e below T8 m 63 #[oi p0, oi p1, oi vi, oi vj, oa x1, oa x2, oi (own_f2 x1 aRS aHD), oi (own_f2 x2 aRS aHD), oi (1 : Int32), .unset] [(.int vi)] _
    refine XS.iloadN X8.here hx rfl (hb hby at_63) rfl ?_
    exact k
  by_cases c15 : vj < vi
  · skip
    have b16 : ¬ ((1 : Int32) = (0 : Int32)) := (by decide)
    have b17 : ¬ ((1 : Int32) = (0 : Int32)) := (by decide)
    obtain ⟨fs, hr, hrun, hended, hW, hsame⟩ := X8.leave (v := (some (.int (1 : Int32)))) (fun h => by rw [Bd.returns] at h; cases h)
    refine ⟨_, _, pre14 _ ?_, hrun, hended, _, _, rfl, ?_, ⟨_, rfl⟩, hW, hsame.mono (by decide) (by decide)⟩
    · show oS p e below T8 m 64 #[oi p0, oi p1, oi vi, oi vj, oa x1, oa x2, oi (own_f2 x1 aRS aHD), oi (own_f2 x2 aRS aHD), oi (1 : Int32), .unset] [(.int vj), (.int vi)] _
      refine XS.icmpYes X8.here hx rfl (pc0 := 64) (pc' := 77) rfl (hb hby at_64) rfl (tlt c15).2.2.1 (by decide) (by decide) ?_
      show oS p e below T8 m 77 #[oi p0, oi p1, oi vi, oi vj, oa x1, oa x2, oi (own_f2 x1 aRS aHD), oi (own_f2 x2 aRS aHD), oi (1 : Int32), .unset] [] _
      refine XS.iconst X8.here hx rfl (hb hby at_77) ?_
      show oS p e below T8 m 78 #[oi p0, oi p1, oi vi, oi vj, oa x1, oa x2, oi (own_f2 x1 aRS aHD), oi (own_f2 x2 aRS aHD), oi (1 : Int32), .unset] [(.int (1 : Int32))] _
      refine XS.goto X8.here hx rfl (pc0 := 78) (pc' := 82) rfl (hb hby at_78) (by decide) (by decide) ?_
      show oS p e below T8 m 82 #[oi p0, oi p1, oi vi, oi vj, oa x1, oa x2, oi (own_f2 x1 aRS aHD), oi (own_f2 x2 aRS aHD), oi (1 : Int32), .unset] [(.int (1 : Int32))] _
      refine XS.istore X8.here hx rfl (hb hby at_82) rfl (l' := #[oi p0, oi p1, oi vi, oi vj, oa x1, oa x2, oi (own_f2 x1 aRS aHD), oi (own_f2 x2 aRS aHD), oi (1 : Int32), oi (1 : Int32)]) rfl ?_
      show oS p e below T8 m 84 #[oi p0, oi p1, oi vi, oi vj, oa x1, oa x2, oi (own_f2 x1 aRS aHD), oi (own_f2 x2 aRS aHD), oi (1 : Int32), oi (1 : Int32)] [] _
      refine XS.iload X8.here hx rfl (hb hby at_84) rfl ?_
      show oS p e below T8 m 86 #[oi p0, oi p1, oi vi, oi vj, oa x1, oa x2, oi (own_f2 x1 aRS aHD), oi (own_f2 x2 aRS aHD), oi (1 : Int32), oi (1 : Int32)] [(.int (1 : Int32))] _
      refine XS.ifNo X8.here hx rfl (hb hby at_86) rfl ((if0 _ _).trans (feq b16).1) ?_
      show oS p e below T8 m 89 #[oi p0, oi p1, oi vi, oi vj, oa x1, oa x2, oi (own_f2 x1 aRS aHD), oi (own_f2 x2 aRS aHD), oi (1 : Int32), oi (1 : Int32)] [] _
      refine XS.iload X8.here hx rfl (hb hby at_89) rfl ?_
      show oS p e below T8 m 91 #[oi p0, oi p1, oi vi, oi vj, oa x1, oa x2, oi (own_f2 x1 aRS aHD), oi (own_f2 x2 aRS aHD), oi (1 : Int32), oi (1 : Int32)] [(.int (1 : Int32))] _
      refine XS.ifNo X8.here hx rfl (hb hby at_91) rfl ((if0 _ _).trans (feq b17).1) ?_
      show oS p e below T8 m 94 #[oi p0, oi p1, oi vi, oi vj, oa x1, oa x2, oi (own_f2 x1 aRS aHD), oi (own_f2 x2 aRS aHD), oi (1 : Int32), oi (1 : Int32)] [] _
      refine XS.iconst X8.here hx rfl (hb hby at_94) ?_
      show oS p e below T8 m 95 #[oi p0, oi p1, oi vi, oi vj, oa x1, oa x2, oi (own_f2 x1 aRS aHD), oi (own_f2 x2 aRS aHD), oi (1 : Int32), oi (1 : Int32)] [(.int (1 : Int32))] _
      refine XS.goto X8.here hx rfl (pc0 := 95) (pc' := 99) rfl (hb hby at_95) (by decide) (by decide) ?_
      show oS p e below T8 m 99 #[oi p0, oi p1, oi vi, oi vj, oa x1, oa x2, oi (own_f2 x1 aRS aHD), oi (own_f2 x2 aRS aHD), oi (1 : Int32), oi (1 : Int32)] [(.int (1 : Int32))] _
      exact retN X8 hx (t := .boolean) Bd.returns (by simp) (hb hby at_99) hr
    · show own_Q0 Z p0 p1 aNS aDP aCP aRS aHD h0 n0 _ T8.heap _
      rw [eq8]
      exact ⟨rfl, N8⟩
  · skip
    have pre18 : ∀ t, Steps p.tables e below (T8.setTop (mkF m 69 #[oi p0, oi p1, oi vi, oi vj, oa x1, oa x2, oi (own_f2 x1 aRS aHD), oi (own_f2 x2 aRS aHD), oi (1 : Int32), .unset] [(.int (own_f2 x1 aRS aHD))])) t → Steps p.tables e below (s₁.setTop (entryFrame m #[(.int p0), (.int p1)] maxLocals)) t := by
      intro t k
      refine pre14 t ?_
      show oS p e below T8 m 64 #[oi p0, oi p1, oi vi, oi vj, oa x1, oa x2, oi (own_f2 x1 aRS aHD), oi (own_f2 x2 aRS aHD), oi (1 : Int32), .unset] [(.int vj), (.int vi)] _
      refine XS.icmpNo X8.here hx rfl (hb hby at_64) rfl (flt c15).2.2.1 ?_
      show oS p e below T8 m 67 #[oi p0, oi p1, oi vi, oi vj, oa x1, oa x2, oi (own_f2 x1 aRS aHD), oi (own_f2 x2 aRS aHD), oi (1 : Int32), .unset] [] _
      refine XS.iload X8.here hx rfl (hb hby at_67) rfl ?_
      exact k
    by_cases c19 : (own_f2 x1 aRS aHD) = (0 : Int32)
    · skip
      have b20 : ¬ ((1 : Int32) = (0 : Int32)) := (by decide)
      have b21 : ¬ ((1 : Int32) = (0 : Int32)) := (by decide)
      obtain ⟨fs, hr, hrun, hended, hW, hsame⟩ := X8.leave (v := (some (.int (1 : Int32)))) (fun h => by rw [Bd.returns] at h; cases h)
      refine ⟨_, _, pre18 _ ?_, hrun, hended, _, _, rfl, ?_, ⟨_, rfl⟩, hW, hsame.mono (by decide) (by decide)⟩
      · show oS p e below T8 m 69 #[oi p0, oi p1, oi vi, oi vj, oa x1, oa x2, oi (own_f2 x1 aRS aHD), oi (own_f2 x2 aRS aHD), oi (1 : Int32), .unset] [(.int (own_f2 x1 aRS aHD))] _
        refine XS.ifYes X8.here hx rfl (pc0 := 69) (pc' := 77) rfl (hb hby at_69) rfl ((if0 _ _).trans (teq c19).1) (by decide) (by decide) ?_
        show oS p e below T8 m 77 #[oi p0, oi p1, oi vi, oi vj, oa x1, oa x2, oi (own_f2 x1 aRS aHD), oi (own_f2 x2 aRS aHD), oi (1 : Int32), .unset] [] _
        refine XS.iconst X8.here hx rfl (hb hby at_77) ?_
        show oS p e below T8 m 78 #[oi p0, oi p1, oi vi, oi vj, oa x1, oa x2, oi (own_f2 x1 aRS aHD), oi (own_f2 x2 aRS aHD), oi (1 : Int32), .unset] [(.int (1 : Int32))] _
        refine XS.goto X8.here hx rfl (pc0 := 78) (pc' := 82) rfl (hb hby at_78) (by decide) (by decide) ?_
        show oS p e below T8 m 82 #[oi p0, oi p1, oi vi, oi vj, oa x1, oa x2, oi (own_f2 x1 aRS aHD), oi (own_f2 x2 aRS aHD), oi (1 : Int32), .unset] [(.int (1 : Int32))] _
        refine XS.istore X8.here hx rfl (hb hby at_82) rfl (l' := #[oi p0, oi p1, oi vi, oi vj, oa x1, oa x2, oi (own_f2 x1 aRS aHD), oi (own_f2 x2 aRS aHD), oi (1 : Int32), oi (1 : Int32)]) rfl ?_
        show oS p e below T8 m 84 #[oi p0, oi p1, oi vi, oi vj, oa x1, oa x2, oi (own_f2 x1 aRS aHD), oi (own_f2 x2 aRS aHD), oi (1 : Int32), oi (1 : Int32)] [] _
        refine XS.iload X8.here hx rfl (hb hby at_84) rfl ?_
        show oS p e below T8 m 86 #[oi p0, oi p1, oi vi, oi vj, oa x1, oa x2, oi (own_f2 x1 aRS aHD), oi (own_f2 x2 aRS aHD), oi (1 : Int32), oi (1 : Int32)] [(.int (1 : Int32))] _
        refine XS.ifNo X8.here hx rfl (hb hby at_86) rfl ((if0 _ _).trans (feq b20).1) ?_
        show oS p e below T8 m 89 #[oi p0, oi p1, oi vi, oi vj, oa x1, oa x2, oi (own_f2 x1 aRS aHD), oi (own_f2 x2 aRS aHD), oi (1 : Int32), oi (1 : Int32)] [] _
        refine XS.iload X8.here hx rfl (hb hby at_89) rfl ?_
        show oS p e below T8 m 91 #[oi p0, oi p1, oi vi, oi vj, oa x1, oa x2, oi (own_f2 x1 aRS aHD), oi (own_f2 x2 aRS aHD), oi (1 : Int32), oi (1 : Int32)] [(.int (1 : Int32))] _
        refine XS.ifNo X8.here hx rfl (hb hby at_91) rfl ((if0 _ _).trans (feq b21).1) ?_
        show oS p e below T8 m 94 #[oi p0, oi p1, oi vi, oi vj, oa x1, oa x2, oi (own_f2 x1 aRS aHD), oi (own_f2 x2 aRS aHD), oi (1 : Int32), oi (1 : Int32)] [] _
        refine XS.iconst X8.here hx rfl (hb hby at_94) ?_
        show oS p e below T8 m 95 #[oi p0, oi p1, oi vi, oi vj, oa x1, oa x2, oi (own_f2 x1 aRS aHD), oi (own_f2 x2 aRS aHD), oi (1 : Int32), oi (1 : Int32)] [(.int (1 : Int32))] _
        refine XS.goto X8.here hx rfl (pc0 := 95) (pc' := 99) rfl (hb hby at_95) (by decide) (by decide) ?_
        show oS p e below T8 m 99 #[oi p0, oi p1, oi vi, oi vj, oa x1, oa x2, oi (own_f2 x1 aRS aHD), oi (own_f2 x2 aRS aHD), oi (1 : Int32), oi (1 : Int32)] [(.int (1 : Int32))] _
        exact retN X8 hx (t := .boolean) Bd.returns (by simp) (hb hby at_99) hr
      · show own_Q0 Z p0 p1 aNS aDP aCP aRS aHD h0 n0 _ T8.heap _
        rw [eq8]
        exact ⟨rfl, N8⟩
    · skip
      have b22 : ¬ ((own_f2 x2 aRS aHD) = (0 : Int32)) := by rw [hd_x2]; exact own_mono _ _ c15 (by rw [← hd_x1]; exact c19)
      have b23 : ¬ ((1 : Int32) = (0 : Int32)) := (by decide)
      have b24 : ¬ ((1 : Int32) = (0 : Int32)) := (by decide)
      obtain ⟨fs, hr, hrun, hended, hW, hsame⟩ := X8.leave (v := (some (.int (1 : Int32)))) (fun h => by rw [Bd.returns] at h; cases h)
      refine ⟨_, _, pre18 _ ?_, hrun, hended, _, _, rfl, ?_, ⟨_, rfl⟩, hW, hsame.mono (by decide) (by decide)⟩
      · show oS p e below T8 m 69 #[oi p0, oi p1, oi vi, oi vj, oa x1, oa x2, oi (own_f2 x1 aRS aHD), oi (own_f2 x2 aRS aHD), oi (1 : Int32), .unset] [(.int (own_f2 x1 aRS aHD))] _
        refine XS.ifNo X8.here hx rfl (hb hby at_69) rfl ((if0 _ _).trans (feq c19).1) ?_
        show oS p e below T8 m 72 #[oi p0, oi p1, oi vi, oi vj, oa x1, oa x2, oi (own_f2 x1 aRS aHD), oi (own_f2 x2 aRS aHD), oi (1 : Int32), .unset] [] _
        refine XS.iload X8.here hx rfl (hb hby at_72) rfl ?_
        show oS p e below T8 m 74 #[oi p0, oi p1, oi vi, oi vj, oa x1, oa x2, oi (own_f2 x1 aRS aHD), oi (own_f2 x2 aRS aHD), oi (1 : Int32), .unset] [(.int (own_f2 x2 aRS aHD))] _
        refine XS.ifNo X8.here hx rfl (hb hby at_74) rfl ((if0 _ _).trans (feq b22).1) ?_
        show oS p e below T8 m 77 #[oi p0, oi p1, oi vi, oi vj, oa x1, oa x2, oi (own_f2 x1 aRS aHD), oi (own_f2 x2 aRS aHD), oi (1 : Int32), .unset] [] _
        refine XS.iconst X8.here hx rfl (hb hby at_77) ?_
        show oS p e below T8 m 78 #[oi p0, oi p1, oi vi, oi vj, oa x1, oa x2, oi (own_f2 x1 aRS aHD), oi (own_f2 x2 aRS aHD), oi (1 : Int32), .unset] [(.int (1 : Int32))] _
        refine XS.goto X8.here hx rfl (pc0 := 78) (pc' := 82) rfl (hb hby at_78) (by decide) (by decide) ?_
        show oS p e below T8 m 82 #[oi p0, oi p1, oi vi, oi vj, oa x1, oa x2, oi (own_f2 x1 aRS aHD), oi (own_f2 x2 aRS aHD), oi (1 : Int32), .unset] [(.int (1 : Int32))] _
        refine XS.istore X8.here hx rfl (hb hby at_82) rfl (l' := #[oi p0, oi p1, oi vi, oi vj, oa x1, oa x2, oi (own_f2 x1 aRS aHD), oi (own_f2 x2 aRS aHD), oi (1 : Int32), oi (1 : Int32)]) rfl ?_
        show oS p e below T8 m 84 #[oi p0, oi p1, oi vi, oi vj, oa x1, oa x2, oi (own_f2 x1 aRS aHD), oi (own_f2 x2 aRS aHD), oi (1 : Int32), oi (1 : Int32)] [] _
        refine XS.iload X8.here hx rfl (hb hby at_84) rfl ?_
        show oS p e below T8 m 86 #[oi p0, oi p1, oi vi, oi vj, oa x1, oa x2, oi (own_f2 x1 aRS aHD), oi (own_f2 x2 aRS aHD), oi (1 : Int32), oi (1 : Int32)] [(.int (1 : Int32))] _
        refine XS.ifNo X8.here hx rfl (hb hby at_86) rfl ((if0 _ _).trans (feq b23).1) ?_
        show oS p e below T8 m 89 #[oi p0, oi p1, oi vi, oi vj, oa x1, oa x2, oi (own_f2 x1 aRS aHD), oi (own_f2 x2 aRS aHD), oi (1 : Int32), oi (1 : Int32)] [] _
        refine XS.iload X8.here hx rfl (hb hby at_89) rfl ?_
        show oS p e below T8 m 91 #[oi p0, oi p1, oi vi, oi vj, oa x1, oa x2, oi (own_f2 x1 aRS aHD), oi (own_f2 x2 aRS aHD), oi (1 : Int32), oi (1 : Int32)] [(.int (1 : Int32))] _
        refine XS.ifNo X8.here hx rfl (hb hby at_91) rfl ((if0 _ _).trans (feq b24).1) ?_
        show oS p e below T8 m 94 #[oi p0, oi p1, oi vi, oi vj, oa x1, oa x2, oi (own_f2 x1 aRS aHD), oi (own_f2 x2 aRS aHD), oi (1 : Int32), oi (1 : Int32)] [] _
        refine XS.iconst X8.here hx rfl (hb hby at_94) ?_
        show oS p e below T8 m 95 #[oi p0, oi p1, oi vi, oi vj, oa x1, oa x2, oi (own_f2 x1 aRS aHD), oi (own_f2 x2 aRS aHD), oi (1 : Int32), oi (1 : Int32)] [(.int (1 : Int32))] _
        refine XS.goto X8.here hx rfl (pc0 := 95) (pc' := 99) rfl (hb hby at_95) (by decide) (by decide) ?_
        show oS p e below T8 m 99 #[oi p0, oi p1, oi vi, oi vj, oa x1, oa x2, oi (own_f2 x1 aRS aHD), oi (own_f2 x2 aRS aHD), oi (1 : Int32), oi (1 : Int32)] [(.int (1 : Int32))] _
        exact retN X8 hx (t := .boolean) Bd.returns (by simp) (hb hby at_99) hr
      · show own_Q0 Z p0 p1 aNS aDP aCP aRS aHD h0 n0 _ T8.heap _
        rw [eq8]
        exact ⟨rfl, N8⟩
set_option maxRecDepth 65536 in
set_option maxHeartbeats 40000000 in
theorem own_comes {Post : Tables → Env → Array Value → State → Outcome → State → Prop} (hpost : ∀ tb e args s v u, (limb_1_1.after args s (.returned v) u = true ∧ limb_1_2.after args s (.returned v) u = true ∧ True) → FrameEnd s (.returned v) u (Jvm.fieldLocs frame_1_writes args s ++ Jvm.arrayLocs frame_1_arrays args s ++ Jvm.staticLocs frame_1_statics s) 0 0 → Post tb e args s (.returned v) u) :
    ArmFor flags0 classFile x code maxLocals ret World_1 tables_1 room_1 Calls_1 rest_1 Pre_1 Post := by
  intro l hfl _ _ p e ha hc hk s m args below hf hA hF happ hP
  obtain ⟨hcalls, hrest, hpre⟩ := hP
  obtain ⟨-, -, -, hnamed, -, -, -, hat⟩ := (Spec.applies_iff hf).mp happ
  obtain ⟨hg, hn⟩ := and_e (Cond.before_iff.mp (show (Jvm.Cond.and given_1 narrow_1).before args s = true from hpre))
  obtain ⟨gv1, gv2⟩ := and_e hg
  obtain ⟨gv3, gv4⟩ := and_e gv2
  obtain ⟨w0, w1, rfl⟩ : ∃ w0 w1 : Value, args = #[w0, w1] := by
    have hs : args.size = 2 := by simpa [Cond.value, given_1] using gv1
    obtain ⟨L⟩ := args
    match L, hs with
    | [w0, w1], _ => exact ⟨w0, w1, rfl⟩
  have hw := fun d (hd : d ∈ tables_1) => atoms_spec (ws := Jvm.Cond.code x code maxLocals ret :: tables_1) hat d (List.mem_cons_of_mem _ hd)
  have hfit : Fit s := fun {y c} hc i hi => by
    obtain ⟨ha, rfl⟩ := Array.getElem?_eq_some_iff.mp hc
    have q := List.all_eq_true.mp ((Array.all_eq_true_iff_forall_mem.mp hF) _ (Array.getElem_mem ha)) i (List.mem_range.mpr hi)
    simpa [Array.getElem?_eq_getElem hi] using q
  obtain ⟨i0, ei0⟩ := is_v gv3
  obtain rfl : w0 = (.int i0) := Option.some.inj ei0
  obtain ⟨i1, ei1⟩ := is_v gv4
  obtain rfl : w1 = (.int i1) := Option.some.inj ei1
  obtain ⟨na1, na2⟩ := and_e hn
  obtain ⟨na3, na4⟩ := and_e na2
  obtain ⟨na5, na6⟩ := and_e na4
  obtain ⟨na7, na8⟩ := and_e na6
  obtain ⟨na9, na10⟩ := and_e na8
  obtain ⟨na11, na12⟩ := and_e na10
  obtain ⟨na13, na14⟩ := and_e na12
  obtain ⟨na15, na16⟩ := and_e na14
  obtain ⟨na17, na18⟩ := and_e na16
  obtain ⟨aNS, ev_aNS⟩ := exa_v na1
  have E_aNS : Exa s s.heap aNS "com/example/casement/casement/tree/DrawState" := Exa.start ev_aNS na1
  have S_NO_SURFACE : Sta s s.heap "com/example/casement/casement/tree/DrawState" "NO_SURFACE" "Lcom/example/casement/casement/tree/DrawState;" (.ref aNS) := Sta.start ev_aNS (Or.inr ⟨(hw _ (List.mem_of_getElem? (i := 6) rfl)), (hw _ (List.mem_of_getElem? (i := 7) rfl))⟩)
  obtain ⟨aRS, ev_aRS⟩ := exa_v na3
  have E_aRS : Exa s s.heap aRS "com/example/casement/casement/tree/DrawState" := Exa.start ev_aRS na3
  have S_READY_TO_SHOW : Sta s s.heap "com/example/casement/casement/tree/DrawState" "READY_TO_SHOW" "Lcom/example/casement/casement/tree/DrawState;" (.ref aRS) := Sta.start ev_aRS (Or.inr ⟨(hw _ (List.mem_of_getElem? (i := 6) rfl)), (hw _ (List.mem_of_getElem? (i := 9) rfl))⟩)
  obtain ⟨aHD, ev_aHD⟩ := exa_v na9
  have E_aHD : Exa s s.heap aHD "com/example/casement/casement/tree/DrawState" := Exa.start ev_aHD na9
  have S_HAS_DRAWN : Sta s s.heap "com/example/casement/casement/tree/DrawState" "HAS_DRAWN" "Lcom/example/casement/casement/tree/DrawState;" (.ref aHD) := Sta.start ev_aHD (Or.inr ⟨(hw _ (List.mem_of_getElem? (i := 6) rfl)), (hw _ (List.mem_of_getElem? (i := 17) rfl))⟩)
  obtain ⟨aDP, ev_aDP⟩ := exa_v na13
  have E_aDP : Exa s s.heap aDP "com/example/casement/casement/tree/DrawState" := Exa.start ev_aDP na13
  have S_DRAW_PENDING : Sta s s.heap "com/example/casement/casement/tree/DrawState" "DRAW_PENDING" "Lcom/example/casement/casement/tree/DrawState;" (.ref aDP) := Sta.start ev_aDP (Or.inr ⟨(hw _ (List.mem_of_getElem? (i := 6) rfl)), (hw _ (List.mem_of_getElem? (i := 20) rfl))⟩)
  obtain ⟨aCP, ev_aCP⟩ := exa_v na17
  have E_aCP : Exa s s.heap aCP "com/example/casement/casement/tree/DrawState" := Exa.start ev_aCP na17
  have S_COMMIT_DRAW_PENDING : Sta s s.heap "com/example/casement/casement/tree/DrawState" "COMMIT_DRAW_PENDING" "Lcom/example/casement/casement/tree/DrawState;" (.ref aCP) := Sta.start ev_aCP (Or.inr ⟨(hw _ (List.mem_of_getElem? (i := 6) rfl)), (hw _ (List.mem_of_getElem? (i := 22) rfl))⟩)
  have O_aNS : Fld s s.heap aNS "java/lang/Enum" "ordinal" "I" (.int (0 : Int32)) := Fld.start ((fld_at ev_aNS).symm.trans (own_eqI na5))
  have O_aRS : Fld s s.heap aRS "java/lang/Enum" "ordinal" "I" (.int (3 : Int32)) := Fld.start ((fld_at ev_aRS).symm.trans (own_eqI na7))
  have O_aHD : Fld s s.heap aHD "java/lang/Enum" "ordinal" "I" (.int (4 : Int32)) := Fld.start ((fld_at ev_aHD).symm.trans (own_eqI na11))
  have O_aDP : Fld s s.heap aDP "java/lang/Enum" "ordinal" "I" (.int (1 : Int32)) := Fld.start ((fld_at ev_aDP).symm.trans (own_eqI na15))
  have O_aCP : Fld s s.heap aCP "java/lang/Enum" "ordinal" "I" (.int (2 : Int32)) := Fld.start ((fld_at ev_aCP).symm.trans (own_eqI na18))
  obtain ⟨n, o, h1, h2, h3, _, L, rfl, ⟨rfl, N⟩, hq⟩ := own_rm0 l s _ hw tables_1 i0 i1 aNS aDP aCP aRS aHD s.heap s.heap.size (Nat.le_refl _) S_NO_SURFACE S_DRAW_PENDING S_COMMIT_DRAW_PENDING S_READY_TO_SHOW S_HAS_DRAWN E_aNS E_aDP E_aCP E_aRS E_aHD (Fld.ne O_aNS O_aRS (by decide)) (Fld.ne O_aNS O_aHD (by decide)) (Fld.ne O_aDP O_aRS (by decide)) (Fld.ne O_aDP O_aHD (by decide)) (Fld.ne O_aCP O_aRS (by decide)) (Fld.ne O_aCP O_aHD (by decide)) p e ha hc hk s m _ below hf ((Spec.applies_iff_loose hf).mp happ).1 ⟨rfl, State.Warmed39.refl s, rfl⟩ trivial
  refine ⟨n, _, h1, h2, h3, hpost _ _ _ _ _ _ ⟨Cond.after_iff.mpr rfl, Cond.after_iff.mpr (eq_i res_at (Term.int_eval (1)) rfl), trivial⟩ ⟨hq.1, hq.2.1, (hq.2.2.sift fun y hy => Or.inr (N y hy)).mono (by decide) (by decide)⟩⟩
theorem main_1_1 : Claimed_1_1 := own_comes fun _ _ _ _ _ _ h hF => ⟨h.1, hF⟩
theorem main_1_2 : Claimed_1_2 := own_comes fun _ _ _ _ _ _ h hF => ⟨h.2.1, hF⟩
end Jvm.Pilot.@@N@@
namespace Jvm.Pilot.@@N@@
open Jvm Jvm.ClassFile Sem Op Lib Jvm.Free Jvm.Stand Jvm.Pilot.@@N@@.Jvm.D
/-! MADE BY PROGRAM (witnessworld.py) out of the Statement's table words and the real class files: 12 classes; the members and pool entries that the words name. The judged class is class 1, her method 2. -/
namespace start1
open Jvm.ClassFile
def u (s : String) : CpInfo := .utf8 (stringToUtf16 s)
/-- a pool by its gaps: so many unusable entries, then the entry; so many at the end -/
def gap : Nat → List CpInfo → List CpInfo
  | 0, r => r
  | n + 1, r => .unusable :: gap n r
def poolList (es : List (Nat × CpInfo)) (last : Nat) : List CpInfo := es.foldr (fun e r => gap e.1 (e.2 :: r)) (gap last [])
def pool (es : List (Nat × CpInfo)) (last : Nat) : Array CpInfo := ⟨poolList es last⟩
def fileOf (pool : Array CpInfo) (this : Nat) (attrs : Array Attribute := #[]) (ms : Array MethodInfo := #[]) (fl : Nat := 33) (sup : Nat := 0) (ifs : Array Nat := #[]) (fds : Array FieldInfo := #[]) : ClassFile where
  minorVersion := 0
  majorVersion := 65
  constantPool := pool
  accessFlags := fl
  thisClass := this
  superClass := sup
  interfaces := ifs
  fields := fds
  methods := ms
  attributes := attrs
def plain (name : String) (sup : Option ClassId) : Class where
  name := name
  kind := .ordinary
  loader := none
  accessFlags := 33
  super := sup
  interfaces := #[]
  cf := none
  fields := #[]
  methods := #[]
  instanceTypes := #[]
  staticTypes := #[]
  resolved := #[]
  callSites := []
  init := .initialized
  statics := none
  mirror := none

def pool0 : Array CpInfo := pool [(5, u "<init>"), (0, u "()V"), (1, .class_ 10), (1, u "java/lang/Object")] 113

def k0m0 : Method := { name := "<init>", desc := "()V", sig := { parameters := [], returnType := none }, accessFlags := 1, code := none }
/-- java/lang/Object -/
def k0 : Class := { plain "java/lang/Object" none with
  accessFlags := 33
  interfaces := #[]
  cf := some (fileOf pool0 8 #[] #[{ accessFlags := 1, nameIndex := 5, descriptorIndex := 6, attributes := #[] }] 33 0 #[] #[])
  fields := #[]
  methods := #[k0m0]
  instanceTypes := #[]
  staticTypes := #[]
  resolved := Array.replicate 124 none
  statics := none }

def pool1 : Array CpInfo := pool [(2, .class_ 4), (1, u "java/lang/Object"), (0, u "<init>"), (0, u "()V"), (0, .fieldref 8 9), (0, .class_ 10), (0, .nameAndType 11 12), (0, u "com/example/casement/casement/tree/DrawState"), (0, u "NO_SURFACE"), (0, u "Lcom/example/casement/casement/tree/DrawState;"), (0, .fieldref 8 14), (0, .nameAndType 15 12), (0, u "DRAW_PENDING"), (0, .fieldref 8 17), (0, .nameAndType 18 12), (0, u "COMMIT_DRAW_PENDING"), (0, .fieldref 8 20), (0, .nameAndType 21 12), (0, u "READY_TO_SHOW"), (0, .fieldref 8 23), (0, .nameAndType 24 12), (0, u "HAS_DRAWN"), (0, .integer 2147483647), (0, .methodref 27 28), (0, .class_ 29), (0, .nameAndType 30 31), (0, u "com/example/casement/casement/tree/DrawStateIsDrawnPinLaw"), (0, u "pick"), (0, u "(I)Lcom/example/casement/casement/tree/DrawState;"), (0, .methodref 8 33), (0, .nameAndType 34 35), (0, u "isDrawn"), (0, u "()Z"), (3, u "law"), (0, u "(II)Z")] 2

def k1m0 : Method := { name := "<init>", desc := "()V", sig := { parameters := [], returnType := none }, accessFlags := 2, code := none }
def k1c1 : Code := { maxStack := 2, maxLocals := 1, code := method_2_code, exceptionTable := #[], attributes := #[] }
def k1m1 : Method := { name := "pick", desc := "(I)Lcom/example/casement/casement/tree/DrawState;", sig := { parameters := [.int], returnType := some (.object "com/example/casement/casement/tree/DrawState") }, accessFlags := 10, code := some k1c1 }
def k1c2 : Code := { maxStack := 3, maxLocals := 10, code := code, exceptionTable := #[], attributes := #[] }
def k1m2 : Method := { name := "law", desc := "(II)Z", sig := { parameters := [.int, .int], returnType := some .boolean }, accessFlags := 9, code := some k1c2 }
/-- com/example/casement/casement/tree/DrawStateIsDrawnPinLaw -/
def k1 : Class := { plain "com/example/casement/casement/tree/DrawStateIsDrawnPinLaw" (some 0) with
  accessFlags := 49
  interfaces := #[]
  cf := some (fileOf pool1 27 #[] #[{ accessFlags := 2, nameIndex := 5, descriptorIndex := 6, attributes := #[] }, { accessFlags := 10, nameIndex := 30, descriptorIndex := 31, attributes := #[] }, { accessFlags := 9, nameIndex := 39, descriptorIndex := 40, attributes := #[] }] 49 2 #[] #[])
  fields := #[]
  methods := #[k1m0, k1m1, k1m2]
  instanceTypes := #[]
  staticTypes := #[]
  resolved := Array.replicate 43 none
  statics := none }

def pool2 : Array CpInfo := pool [(1, .class_ 2), (0, u "java/lang/constant/Constable"), (0, .class_ 4), (0, u "java/lang/Object")] 6

/-- java/lang/constant/Constable -/
def k2 : Class := { plain "java/lang/constant/Constable" (some 0) with
  accessFlags := 1537
  interfaces := #[]
  cf := some (fileOf pool2 1 #[] #[] 1537 3 #[] #[])
  fields := #[]
  methods := #[]
  instanceTypes := #[]
  staticTypes := #[]
  resolved := Array.replicate 11 none
  statics := none }

def pool3 : Array CpInfo := pool [(1, .class_ 2), (0, u "java/lang/Comparable"), (0, .class_ 4), (0, u "java/lang/Object")] 7

/-- java/lang/Comparable -/
def k3 : Class := { plain "java/lang/Comparable" (some 0) with
  accessFlags := 1537
  interfaces := #[]
  cf := some (fileOf pool3 1 #[] #[] 1537 3 #[] #[])
  fields := #[]
  methods := #[]
  instanceTypes := #[]
  staticTypes := #[]
  resolved := Array.replicate 12 none
  statics := none }

def pool4 : Array CpInfo := pool [(1, .class_ 2), (0, u "java/io/Serializable"), (0, .class_ 4), (0, u "java/lang/Object")] 2

/-- java/io/Serializable -/
def k4 : Class := { plain "java/io/Serializable" (some 0) with
  accessFlags := 1537
  interfaces := #[]
  cf := some (fileOf pool4 1 #[] #[] 1537 3 #[] #[])
  fields := #[]
  methods := #[]
  instanceTypes := #[]
  staticTypes := #[]
  resolved := Array.replicate 7 none
  statics := none }

def pool5 : Array CpInfo := pool [(2, .class_ 4), (1, u "java/lang/Enum"), (0, u "name"), (0, u "Ljava/lang/String;"), (2, u "ordinal"), (0, u "I"), (1, .class_ 14), (1, u "java/lang/Object"), (4, u "hash"), (86, .class_ 108), (1, u "java/lang/Enum$EnumDesc"), (2, .class_ 112), (0, u "java/lang/constant/Constable"), (0, .class_ 114), (0, u "java/lang/Comparable"), (0, .class_ 116), (0, u "java/io/Serializable")] 87

/-- java/lang/Enum -/
def k5 : Class := { plain "java/lang/Enum" (some 0) with
  accessFlags := 1057
  interfaces := #[2, 3, 4]
  cf := some (fileOf pool5 2 #[.nestMembers #[106]] #[] 1057 12 #[111, 113, 115] #[{ accessFlags := 18, nameIndex := 5, descriptorIndex := 6, attributes := #[] }, { accessFlags := 18, nameIndex := 9, descriptorIndex := 10, attributes := #[] }, { accessFlags := 2, nameIndex := 19, descriptorIndex := 10, attributes := #[] }])
  fields := #[{ name := "name", type := (.object "java/lang/String"), accessFlags := 18, slot := 0, constantValue := 0 }, { name := "ordinal", type := .int, accessFlags := 18, slot := 1, constantValue := 0 }, { name := "hash", type := .int, accessFlags := 2, slot := 2, constantValue := 0 }]
  methods := #[]
  instanceTypes := #[(.object "java/lang/String"), .int, .int]
  staticTypes := #[]
  resolved := Array.replicate 204 none
  statics := none }

def pool6 : Array CpInfo := pool [(1, .class_ 2), (0, u "com/example/casement/casement/tree/DrawState"), (2, u "NO_SURFACE"), (0, u "Lcom/example/casement/casement/tree/DrawState;"), (2, u "DRAW_PENDING"), (2, u "COMMIT_DRAW_PENDING"), (0, .fieldref 1 14), (0, .nameAndType 15 6), (0, u "READY_TO_SHOW"), (0, .fieldref 1 17), (0, .nameAndType 18 6), (0, u "HAS_DRAWN"), (2, u "$VALUES"), (0, u "[Lcom/example/casement/casement/tree/DrawState;"), (6, .class_ 31), (1, u "java/lang/Enum"), (23, u "isDrawn"), (0, u "()Z")] 5

def k6c0 : Code := { maxStack := 2, maxLocals := 1, code := prog_80_method_4_code, exceptionTable := #[], attributes := #[] }
def k6m0 : Method := { name := "isDrawn", desc := "()Z", sig := { parameters := [], returnType := some .boolean }, accessFlags := 1, code := some k6c0 }
/-- com/example/casement/casement/tree/DrawState -/
def k6 : Class := { plain "com/example/casement/casement/tree/DrawState" (some 5) with
  accessFlags := 16433
  interfaces := #[]
  cf := some (fileOf pool6 1 #[] #[{ accessFlags := 1, nameIndex := 55, descriptorIndex := 56, attributes := #[] }] 16433 29 #[] #[{ accessFlags := 16409, nameIndex := 5, descriptorIndex := 6, attributes := #[] }, { accessFlags := 16409, nameIndex := 9, descriptorIndex := 6, attributes := #[] }, { accessFlags := 16409, nameIndex := 12, descriptorIndex := 6, attributes := #[] }, { accessFlags := 16409, nameIndex := 15, descriptorIndex := 6, attributes := #[] }, { accessFlags := 16409, nameIndex := 18, descriptorIndex := 6, attributes := #[] }, { accessFlags := 4122, nameIndex := 21, descriptorIndex := 22, attributes := #[] }])
  fields := #[{ name := "NO_SURFACE", type := (.object "com/example/casement/casement/tree/DrawState"), accessFlags := 16409, slot := 0, constantValue := 0 }, { name := "DRAW_PENDING", type := (.object "com/example/casement/casement/tree/DrawState"), accessFlags := 16409, slot := 1, constantValue := 0 }, { name := "COMMIT_DRAW_PENDING", type := (.object "com/example/casement/casement/tree/DrawState"), accessFlags := 16409, slot := 2, constantValue := 0 }, { name := "READY_TO_SHOW", type := (.object "com/example/casement/casement/tree/DrawState"), accessFlags := 16409, slot := 3, constantValue := 0 }, { name := "HAS_DRAWN", type := (.object "com/example/casement/casement/tree/DrawState"), accessFlags := 16409, slot := 4, constantValue := 0 }, { name := "$VALUES", type := (.array (.object "com/example/casement/casement/tree/DrawState")), accessFlags := 4122, slot := 5, constantValue := 0 }]
  methods := #[k6m0]
  instanceTypes := #[(.object "java/lang/String"), .int, .int]
  staticTypes := #[(.object "com/example/casement/casement/tree/DrawState"), (.object "com/example/casement/casement/tree/DrawState"), (.object "com/example/casement/casement/tree/DrawState"), (.object "com/example/casement/casement/tree/DrawState"), (.object "com/example/casement/casement/tree/DrawState"), (.array (.object "com/example/casement/casement/tree/DrawState"))]
  resolved := Array.replicate 62 none
  statics := some 0 }

def pool7 : Array CpInfo := pool [(1, u "java/lang/Cloneable"), (0, .class_ 1), (0, u "java/lang/Object"), (0, .class_ 3)] 3

/-- java/lang/Cloneable -/
def k7 : Class := { plain "java/lang/Cloneable" (some 0) with
  accessFlags := 1537
  interfaces := #[]
  cf := some (fileOf pool7 2 #[] #[] 1537 4 #[] #[])
  fields := #[]
  methods := #[]
  instanceTypes := #[]
  staticTypes := #[]
  resolved := Array.replicate 8 none
  statics := none }

/-- the primitive byte -/
def k8 : Class := { plain "byte" none with kind := .primitive 'B', accessFlags := 0x411 }
/-- [B -/
def k9 : Class := { plain "[B" (some 0) with kind := .array 8 .byte, interfaces := #[7, 4], accessFlags := 1041 }

/-- the primitive int -/
def k10 : Class := { plain "int" none with kind := .primitive 'I', accessFlags := 0x411 }
/-- [I -/
def k11 : Class := { plain "[I" (some 0) with kind := .array 10 .int, interfaces := #[7, 4], accessFlags := 1041 }

def heap : Heap := #[{ cls := 6, slots := #[.ref 1, .ref 2, .ref 3, .ref 4, .ref 5, .null], vm := .statics 6 },
  { cls := 6, slots := #[.null, .int 0, .int 0], vm := .none },
  { cls := 6, slots := #[.null, .int 1, .int 0], vm := .none },
  { cls := 6, slots := #[.null, .int 2, .int 0], vm := .none },
  { cls := 6, slots := #[.null, .int 3, .int 0], vm := .none },
  { cls := 6, slots := #[.null, .int 4, .int 0], vm := .none }]
def classes : Array Class := #[k0, k1, k2, k3, k4, k5, k6, k7, k8, k9, k10, k11]
def interned : List (Array UInt16 × Addr) := []
def slotsUsed : Nat := 21
def theMethod : MethodId := ⟨1, 2⟩
def args0 : Array Value := #[.int 5, .int 6]
def aboutOver (below : List Frame) : State where
  vm := { classes := classes, interned := interned.toArray }
  heap := heap
  slotsUsed := slotsUsed
  threads := #[{ frames := .invoking theMethod args0 :: below }]
def below0 : List Frame := [.native { method := ⟨0, 0⟩, args := #[] }]
def about1 : State := aboutOver below0
def p0 : Program := .bare "" "" ""
def e0 : Env := launch0.env 0 0 0
theorem w_frames : about1.frames = Frame.invoking theMethod args0 :: below0 := rfl
set_option maxRecDepth 65536 in
theorem w_args : argsFit about1.vm theMethod args0 = true := by decide +kernel
set_option maxRecDepth 65536 in
theorem w_heap : heapFits about1 = true := by decide +kernel
set_option maxRecDepth 65536 in
theorem w_runnable : about1.curStatus? = some .runnable := by decide +kernel
set_option maxRecDepth 65536 in
theorem w_alone : about1.alone = true := by decide +kernel
set_option maxRecDepth 65536 in
theorem w_named : about1.methodNamed? x = some theMethod := by decide +kernel
set_option maxRecDepth 65536 in
theorem w_hears : about1.hears theMethod below0 = true := by decide +kernel
set_option maxRecDepth 65536 in
theorem w_ripe : about1.ripe theMethod args0 below0 = true := by decide +kernel
theorem w_running : about1.status = .running := rfl
set_option maxRecDepth 65536 in
theorem w_room : about1.hasRoom e0.platform room_1 = true :=
  launch0.hasRoom_least _ room_1 (by decide +kernel) (by decide +kernel) (by decide +kernel) (by decide +kernel) (by decide +kernel) (by decide +kernel)
theorem allAtoms_all (ts : List Jvm.Cond) (a : Array Jvm.Value) (st : Jvm.State) : (allAtoms ts).before a st = ts.all (fun c => c.before a st) := by
  induction ts with
  | nil => rfl
  | cons c t ih =>
    show (Jvm.Cond.and c (allAtoms t)).before a st = _
    rw [Jvm.Cond.before_and, ih, List.all_cons]
def words1 : List Jvm.Cond := Jvm.Cond.code x code maxLocals ret :: tables_1
/-- a 'code' word, met by the world's own term for the bytes: nothing is compared byte by byte -/
theorem code_word {y : MethodName} {bytes : ByteArray} {mx : Nat} {rt : Option FieldType} {a : Array Value} {s : State} {m : MethodId} {meth : Method} {c : Code} (h1 : s.methodNamed? y = some m) (h2 : s.vm.method? m = some meth) (h3 : meth.code = some c) (h4 : c.code = bytes)
    (h5 : (c.maxLocals == mx && c.exceptionTable.isEmpty && decide (c.maxStack ≤ mostOperands) && decide (meth.sig.returnType = rt) && !meth.locks && decide (parseMethodDescriptor y.desc = some meth.sig)) = true) : (Jvm.Cond.code y bytes mx rt).before a s = true := by
  simp only [Bool.and_eq_true, beq_iff_eq, Bool.not_eq_true', decide_eq_true_eq] at h5
  obtain ⟨⟨⟨⟨⟨g1, g2⟩, g3⟩, g4⟩, g5⟩, g6⟩ := h5
  simp [Cond.before, Cond.holds, Cond.value, h1, h2, h3, h4, g1, g2, g3, g4, g5, g6]
def isCode : Jvm.Cond → Bool
  | .code _ _ _ _ => true
  | _ => false
theorem all_split {L : List Jvm.Cond} {P : Jvm.Cond → Bool} (h1 : L.all (fun c => isCode c || P c) = true) (h2 : ∀ c ∈ L.filter isCode, P c = true) : L.all P = true := by
  refine List.all_eq_true.mpr fun c hc => ?_
  have h := List.all_eq_true.mp h1 c hc
  rcases Bool.eq_false_or_eq_true (isCode c) with hi | hi
  · exact h2 c (List.mem_filter.mpr ⟨hc, hi⟩)
  · simpa [hi] using h
set_option maxRecDepth 65536 in
theorem w_c0 : (Jvm.Cond.code x code maxLocals ret).before args0 about1 = true := code_word (m := ⟨1, 2⟩) (meth := k1m2) (c := k1c2) (by decide +kernel) rfl rfl rfl (by decide +kernel)
set_option maxRecDepth 65536 in
theorem w_c1 : (Jvm.Cond.code ({ cls := "com/example/casement/casement/tree/DrawStateIsDrawnPinLaw", name := "pick", desc := "(I)Lcom/example/casement/casement/tree/DrawState;" } : Jvm.MethodName) method_2_code (1 : Nat) (Option.some (Jvm.ClassFile.FieldType.object "com/example/casement/casement/tree/DrawState"))).before args0 about1 = true := code_word (m := ⟨1, 1⟩) (meth := k1m1) (c := k1c1) (by decide +kernel) rfl rfl rfl (by decide +kernel)
set_option maxRecDepth 65536 in
theorem w_c2 : (Jvm.Cond.code ({ cls := "com/example/casement/casement/tree/DrawState", name := "isDrawn", desc := "()Z" } : Jvm.MethodName) prog_80_method_4_code (1 : Nat) (Option.some Jvm.ClassFile.FieldType.boolean)).before args0 about1 = true := code_word (m := ⟨6, 0⟩) (meth := k6m0) (c := k6c0) (by decide +kernel) rfl rfl rfl (by decide +kernel)
def codes1 : List Jvm.Cond := [Jvm.Cond.code x code maxLocals ret, Jvm.Cond.code ({ cls := "com/example/casement/casement/tree/DrawStateIsDrawnPinLaw", name := "pick", desc := "(I)Lcom/example/casement/casement/tree/DrawState;" } : Jvm.MethodName) method_2_code (1 : Nat) (Option.some (Jvm.ClassFile.FieldType.object "com/example/casement/casement/tree/DrawState")), Jvm.Cond.code ({ cls := "com/example/casement/casement/tree/DrawState", name := "isDrawn", desc := "()Z" } : Jvm.MethodName) prog_80_method_4_code (1 : Nat) (Option.some Jvm.ClassFile.FieldType.boolean)]
set_option maxRecDepth 65536 in
theorem codes_eq : words1.filter isCode = codes1 := rfl
theorem w_codes : ∀ c ∈ words1.filter isCode, c.before args0 about1 = true := by
  rw [codes_eq]
  intro c hc
  simp only [codes1, List.mem_cons, List.not_mem_nil, or_false] at hc
  rcases hc with rfl | rfl | rfl
  · exact w_c0
  · exact w_c1
  · exact w_c2
set_option maxRecDepth 65536 in
theorem w_t1 : words1.all (fun c => isCode c || c.before args0 about1) = true := by decide +kernel
theorem w_tables : (allAtoms (Jvm.Cond.code x code maxLocals ret :: tables_1)).before args0 about1 = true := by
  rw [allAtoms_all]
  show words1.all (fun c => c.before args0 about1) = true
  refine all_split ?_ w_codes
  rw [w_t1]
set_option maxRecDepth 65536 in
theorem w_case : (Jvm.Cond.and given_1 narrow_1).before args0 about1 = true := by decide +kernel
theorem w_applies : (headSpec (Jvm.Cond.code x code maxLocals ret :: tables_1) room_1).applies x e0.platform about1 = true :=
  (Spec.applies_iff w_frames).mpr ⟨w_running, w_runnable, w_alone, w_named, w_hears, w_ripe, w_room, w_tables⟩
theorem atStart : AtStart classFile x code maxLocals ret World_1 tables_1 room_1 Calls_1 rest_1 Pre_1 launch0 p0 e0 about1 theMethod args0 below0 :=
  ⟨lists_1, trivial, launch0.admits_env _ _ _, launch0.least_env, fairChoices_fair.cas, fairChoices_fair.clock, w_frames, w_args, w_heap, w_applies, trivial, trivial, w_case⟩
end start1
theorem witness_1 : WitnessClaimed_1 := ⟨start1.p0, start1.e0, start1.about1, start1.theMethod, start1.args0, start1.below0, start1.atStart⟩
end Jvm.Pilot.@@N@@
