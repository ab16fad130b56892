import JvmDerived
import JvmDerived.Pilot.@@N@@Statement
import JvmDerived.Pilot.@@N@@Code
set_option linter.unusedVariables false
set_option linter.unusedSimpArgs false
namespace Jvm.Pilot.@@N@@
open Jvm Jvm.ClassFile Sem Op Lib Jvm.Free Jvm.Stand Jvm.LawKit Jvm.RoadKit Bundle Jvm.Pilot.@@N@@.Jvm.D
section OwnKit
variable {p : Program} {l : Launch} {e : Env} {R : Room} {s : State} {m : MethodId} {args : Array Value} {below : List Frame} {meth : Method} {c : Code} {T : State} {locs : List Loc} {cells slots : Nat} {Z : State} {h : Heap} {a : Addr} {k : ClassId} {z : Int32} {vs : List Value} {dv : Value}
theorem oLen (X : Stand p l e R s m args below meth c T locs cells slots) (hx : p.tables.exec = Jvm.exec) (hZ : Z.Warmed39 s.vm) (eT : T.heap = h) {ty : FieldType} (F : Arv Z h a k ty z vs dv) {g : JFrame} (hg : g.method = m) {rest : List Value} (hs : g.stack = .ref a :: rest) (hd : decode c.code g.pc = .ok (.arraylength, 1)) (target : State)
    (hr : Steps p.tables e below (T.setTop { g with pc := g.pc + 1, stack := .int z :: rest }) target) : Steps p.tables e below (T.setTop g) target := by
  obtain ⟨cl, A, -, S, M, -, -⟩ := F
  refine X.arraylength hx (by rw [eT]; exact A.1) (State.isArrayOf_alike hZ.alike A.2.1) hg hs hd target ?_
  rw [len_of S M]
  exact hr
theorem oLdI (X : Stand p l e R s m args below meth c T locs cells slots) (hx : p.tables.exec = Jvm.exec) (hZ : Z.Warmed39 s.vm) (eT : T.heap = h) (F : Arv Z h a k .int z vs dv) {j : Int32} {v : Value} (hj : ¬ j < 0 ∧ j < z) (hv : vs.getD j.toNatClampNeg dv = v) {g : JFrame} (hg : g.method = m) {rest : List Value} (hs : g.stack = .int j :: .ref a :: rest) (hd : decode c.code g.pc = .ok (.iaload, 1)) (target : State)
    (hr : Steps p.tables e below (T.setTop { g with pc := g.pc + 1, stack := v :: rest }) target) : Steps p.tables e below (T.setTop g) target := by
  obtain ⟨cl, A, -, S, -, H, -⟩ := F
  have hin := inb_of S hj
  exact X.iaload hx (by rw [eT]; exact A.1) (State.isArrayOf_alike hZ.alike A.2.1) A.2.2 hin (Has.at H hin hv) hg hs hd target hr
theorem oLdB (X : Stand p l e R s m args below meth c T locs cells slots) (hx : p.tables.exec = Jvm.exec) (hZ : Z.Warmed39 s.vm) (eT : T.heap = h) (F : Arv Z h a k .byte z vs dv) {j : Int32} {v : Value} (hj : ¬ j < 0 ∧ j < z) (hv : vs.getD j.toNatClampNeg dv = v) {g : JFrame} (hg : g.method = m) {rest : List Value} (hs : g.stack = .int j :: .ref a :: rest) (hd : decode c.code g.pc = .ok (.baload, 1)) (target : State)
    (hr : Steps p.tables e below (T.setTop { g with pc := g.pc + 1, stack := v :: rest }) target) : Steps p.tables e below (T.setTop g) target := by
  obtain ⟨cl, A, -, S, -, H, -⟩ := F
  have hin := inb_of S hj
  exact X.baloadBytes hx (by rw [eT]; exact A.1) (State.isArrayOf_alike hZ.alike A.2.1) A.2.2 hin (Has.at H hin hv) hg hs hd target hr
theorem oLdJ (X : Stand p l e R s m args below meth c T locs cells slots) (hx : p.tables.exec = Jvm.exec) (hZ : Z.Warmed39 s.vm) (eT : T.heap = h) (F : Arv Z h a k .long z vs dv) {j : Int32} {v : Value} (hj : ¬ j < 0 ∧ j < z) (hv : vs.getD j.toNatClampNeg dv = v) {g : JFrame} (hg : g.method = m) {rest : List Value} (hs : g.stack = .int j :: .ref a :: rest) (hd : decode c.code g.pc = .ok (.laload, 1)) (target : State)
    (hr : Steps p.tables e below (T.setTop { g with pc := g.pc + 1, stack := v :: rest }) target) : Steps p.tables e below (T.setTop g) target := by
  obtain ⟨cl, A, -, S, -, H, -⟩ := F
  have hin := inb_of S hj
  exact X.laload hx (by rw [eT]; exact A.1) (State.isArrayOf_alike hZ.alike A.2.1) A.2.2 hin (Has.at H hin hv) hg hs hd target hr
theorem oLdD (X : Stand p l e R s m args below meth c T locs cells slots) (hx : p.tables.exec = Jvm.exec) (hZ : Z.Warmed39 s.vm) (eT : T.heap = h) (F : Arv Z h a k .double z vs dv) {j : Int32} {v : Value} (hj : ¬ j < 0 ∧ j < z) (hv : vs.getD j.toNatClampNeg dv = v) {g : JFrame} (hg : g.method = m) {rest : List Value} (hs : g.stack = .int j :: .ref a :: rest) (hd : decode c.code g.pc = .ok (.daload, 1)) (target : State)
    (hr : Steps p.tables e below (T.setTop { g with pc := g.pc + 1, stack := v :: rest }) target) : Steps p.tables e below (T.setTop g) target := by
  obtain ⟨cl, A, -, S, -, H, -⟩ := F
  have hin := inb_of S hj
  exact X.daload hx (by rw [eT]; exact A.1) (State.isArrayOf_alike hZ.alike A.2.1) A.2.2 hin (Has.at H hin hv) hg hs hd target hr
theorem oStI (X : Stand p l e R s m args below meth c T locs cells slots) (hx : p.tables.exec = Jvm.exec) (hZ : Z.Warmed39 s.vm) (eT : T.heap = h) (F : Arv Z h a k .int z vs dv) {j : Int32} {x : Int32} (hj : ¬ j < 0 ∧ j < z) (i : Nat) (hi : j.toNatClampNeg = i) (hl : i < vs.length) {g : JFrame} (hg : g.method = m) {rest : List Value} (hs : g.stack = .int x :: .int j :: .ref a :: rest) (hd : decode c.code g.pc = .ok (.iastore, 1)) :
    ∃ T' h', Stand p l e R s m args below meth c T' (locs ++ [⟨a, j.toNatClampNeg⟩]) cells slots ∧ T'.heap = h' ∧ Wr h h' a j.toNatClampNeg (.int x) ∧ Arv Z h' a k .int z (vs.set i (.int x)) dv ∧ ∀ target, Steps p.tables e below (T'.setTop { g with pc := g.pc + 1, stack := rest }) target → Steps p.tables e below (T.setTop g) target := by
  obtain ⟨cl, A, q1, S, M, H, G⟩ := F
  obtain ⟨T', h', X', e', W, st⟩ := stI X hx hZ eT A (j := j) (inb_of S hj) hg hs hd
  exact ⟨T', h', X', e', W, Arv.set A q1 S M H G rfl W i hi hl, st⟩
theorem oStB (X : Stand p l e R s m args below meth c T locs cells slots) (hx : p.tables.exec = Jvm.exec) (hZ : Z.Warmed39 s.vm) (eT : T.heap = h) (F : Arv Z h a k .byte z vs dv) {j : Int32} {x : Int32} (hj : ¬ j < 0 ∧ j < z) (i : Nat) (hi : j.toNatClampNeg = i) (hl : i < vs.length) {g : JFrame} (hg : g.method = m) {rest : List Value} (hs : g.stack = .int x :: .int j :: .ref a :: rest) (hd : decode c.code g.pc = .ok (.bastore, 1)) :
    ∃ T' h', Stand p l e R s m args below meth c T' (locs ++ [⟨a, j.toNatClampNeg⟩]) cells slots ∧ T'.heap = h' ∧ Wr h h' a j.toNatClampNeg (.int (nar .byte x)) ∧ Arv Z h' a k .byte z (vs.set i (.int (nar .byte x))) dv ∧ ∀ target, Steps p.tables e below (T'.setTop { g with pc := g.pc + 1, stack := rest }) target → Steps p.tables e below (T.setTop g) target := by
  obtain ⟨cl, A, q1, S, M, H, G⟩ := F
  obtain ⟨T', h', X', e', W, st⟩ := stB X hx hZ eT A (j := j) (inb_of S hj) hg hs hd
  exact ⟨T', h', X', e', W, Arv.set A q1 S M H G (fits_nar_byte x) W i hi hl, st⟩
theorem oStJ (X : Stand p l e R s m args below meth c T locs cells slots) (hx : p.tables.exec = Jvm.exec) (hZ : Z.Warmed39 s.vm) (eT : T.heap = h) (F : Arv Z h a k .long z vs dv) {j : Int32} {x : Int64} (hj : ¬ j < 0 ∧ j < z) (i : Nat) (hi : j.toNatClampNeg = i) (hl : i < vs.length) {g : JFrame} (hg : g.method = m) {rest : List Value} (hs : g.stack = .long x :: .int j :: .ref a :: rest) (hd : decode c.code g.pc = .ok (.lastore, 1)) :
    ∃ T' h', Stand p l e R s m args below meth c T' (locs ++ [⟨a, j.toNatClampNeg⟩]) cells slots ∧ T'.heap = h' ∧ Wr h h' a j.toNatClampNeg (.long x) ∧ Arv Z h' a k .long z (vs.set i (.long x)) dv ∧ ∀ target, Steps p.tables e below (T'.setTop { g with pc := g.pc + 1, stack := rest }) target → Steps p.tables e below (T.setTop g) target := by
  obtain ⟨cl, A, q1, S, M, H, G⟩ := F
  obtain ⟨T', h', X', e', W, st⟩ := stJ X hx hZ eT A (j := j) (inb_of S hj) hg hs hd
  exact ⟨T', h', X', e', W, Arv.set A q1 S M H G rfl W i hi hl, st⟩
theorem oStD (X : Stand p l e R s m args below meth c T locs cells slots) (hx : p.tables.exec = Jvm.exec) (hZ : Z.Warmed39 s.vm) (eT : T.heap = h) (F : Arv Z h a k .double z vs dv) {j : Int32} {x : UInt64} (hj : ¬ j < 0 ∧ j < z) (i : Nat) (hi : j.toNatClampNeg = i) (hl : i < vs.length) {g : JFrame} (hg : g.method = m) {rest : List Value} (hs : g.stack = .double x :: .int j :: .ref a :: rest) (hd : decode c.code g.pc = .ok (.dastore, 1)) :
    ∃ T' h', Stand p l e R s m args below meth c T' (locs ++ [⟨a, j.toNatClampNeg⟩]) cells slots ∧ T'.heap = h' ∧ Wr h h' a j.toNatClampNeg (.double x) ∧ Arv Z h' a k .double z (vs.set i (.double x)) dv ∧ ∀ target, Steps p.tables e below (T'.setTop { g with pc := g.pc + 1, stack := rest }) target → Steps p.tables e below (T.setTop g) target := by
  obtain ⟨cl, A, q1, S, M, H, G⟩ := F
  obtain ⟨T', h', X', e', W, st⟩ := stD X hx hZ eT A (j := j) (inb_of S hj) hg hs hd
  exact ⟨T', h', X', e', W, Arv.set A q1 S M H G rfl W i hi hl, st⟩
end OwnKit
abbrev oi (x : Int32) : Slot := .val (.int x)
abbrev oj (x : Int64) : Slot := .val (.long x)
abbrev oa (x : Addr) : Slot := .val (.ref x)
abbrev od (x : UInt64) : Slot := .val (.double x)
abbrev oS (p : Program) (e : Env) (below : List Frame) (T : State) (m : MethodId) (pc : Nat) (L : Array Slot) (S : List Value) (t : State) : Prop := Steps p.tables e below (T.setTop (mkF m pc L S)) t
theorem own_ltp (x k : Int32) : (x < k) = (x.toInt < k.toInt) := propext Int32.lt_iff_toInt_lt
theorem own_eqp (x k : Int32) : (x = k) = (x.toInt = k.toInt) := propext Int32.toInt_inj.symm
theorem own_ltpL (x k : Int64) : (x < k) = (x.toInt < k.toInt) := propext Int64.lt_iff_toInt_lt
theorem own_eqpL (x k : Int64) : (x = k) = (x.toInt = k.toInt) := propext Int64.toInt_inj.symm
theorem own_of_range {P : Int32 → Prop} (n : Nat) (h : ∀ i : Fin n, P (Int32.ofNat i.1)) (x : Int32) (h0 : 0 ≤ x.toInt) (h1 : x.toInt < (n : Int)) : P x := by
  have e : Int32.ofNat x.toInt.toNat = x := by
    rw [← Int32.ofInt_eq_ofNat, Int.toNat_of_nonneg h0, Int32.ofInt_toInt]
  have q := h ⟨x.toInt.toNat, by omega⟩
  rwa [e] at q
theorem own_getD (ws : List Int32) (n : Nat) : (ws.map Value.int).getD n (.int (0 : Int32)) = .int (ws.getD n 0) := by
  simp only [List.getD_eq_getElem?_getD, List.getElem?_map]
  cases ws[n]? <;> rfl

theorem own_eqI {args : Array Value} {s : State} {t : Term} {n : Int32} {idx : List Nat} (h : (Jvm.Cond.eq t (.int n)).value args s none s idx = some true) : t.eval args s none idx s = some (.int n) := by
  obtain ⟨x, y, e1, e2, k1, k2⟩ := cmp_v (Or.inl h)
  cases (Term.int_eval n).symm.trans e2
  obtain ⟨z, rfl⟩ : ∃ z, x = Value.int z := k2
  exact e1.trans (congrArg (fun z => some (Value.int z)) (gotT (Cond.eq_ints e1 (Term.int_eval n)) h))

theorem own_pn0 : plainName "com/example/typewright/typewright/cast/CastMatrix$Condition" = true := by first | (simp [plainName, overriddenIn]; done) | decide +kernel
theorem own_d1_0 : decode prog_6_method_4_code 0 = .ok (.iload_n 0, 1) := by decide +kernel
theorem own_d1_1 : decode prog_6_method_4_code 1 = .ok (.tableswitch 65 50 54 #[35, 41, 47, 53, 59], 35) := by decide +kernel
theorem own_d1_36 : decode prog_6_method_4_code 36 = .ok (.getstatic 3, 3) := by decide +kernel
theorem own_d1_39 : decode prog_6_method_4_code 39 = .ok (.goto 41, 3) := by decide +kernel
theorem own_d1_42 : decode prog_6_method_4_code 42 = .ok (.getstatic 7, 3) := by decide +kernel
theorem own_d1_45 : decode prog_6_method_4_code 45 = .ok (.goto 35, 3) := by decide +kernel
theorem own_d1_48 : decode prog_6_method_4_code 48 = .ok (.getstatic 10, 3) := by decide +kernel
theorem own_d1_51 : decode prog_6_method_4_code 51 = .ok (.goto 29, 3) := by decide +kernel
theorem own_d1_54 : decode prog_6_method_4_code 54 = .ok (.getstatic 13, 3) := by decide +kernel
theorem own_d1_57 : decode prog_6_method_4_code 57 = .ok (.goto 23, 3) := by decide +kernel
theorem own_d1_60 : decode prog_6_method_4_code 60 = .ok (.getstatic 16, 3) := by decide +kernel
theorem own_d1_63 : decode prog_6_method_4_code 63 = .ok (.goto 17, 3) := by decide +kernel
theorem own_d1_80 : decode prog_6_method_4_code 80 = .ok (.areturn, 1) := by decide +kernel
theorem own_ef1 (m : MethodId) (p0 : Int32) : entryFrame m #[(.int p0)] 1 = mkF m 0 #[oi p0] [] := by first | (simp [entryFrame, mkF, argsToLocals, Value.category]; done) | rfl
def own_f1 (p0 : Int32) (aNO : Addr) (aCH : Addr) (aSR : Addr) (aYM : Addr) (aDT : Addr) : Addr := (if p0.toInt = 50 then aNO else (if p0.toInt = 51 then aCH else (if p0.toInt = 52 then aSR else (if p0.toInt = 53 then aYM else aDT))))
def own_Q1 (Z : State) (p0 : Int32) (aNO : Addr) (aCH : Addr) (aSR : Addr) (aYM : Addr) (aDT : Addr) (h0 : Heap) (n0 : Nat) (v : Option Value) (h : Heap) (L : List Loc) : Prop := v = some (Value.ref (own_f1 p0 aNO aCH aSR aYM aDT)) ∧ Fr n0 L ∧ h = h0
set_option maxRecDepth 65536 in
set_option maxHeartbeats 40000000 in
theorem own_rm1 (l : Launch) (Z : State) (av : Array Value) (hw : ∀ d ∈ tables_1, d.before av Z = true) (ws : List Jvm.Cond) (p0 : Int32) (aNO : Addr) (aCH : Addr) (aSR : Addr) (aYM : Addr) (aDT : Addr) (h0 : Heap) (n0 : Nat) (Z0 : n0 ≤ h0.size) (S_NONE : Sta Z h0 "com/example/typewright/typewright/cast/CastMatrix$Condition" "NONE" "Lcom/example/typewright/typewright/cast/CastMatrix$Condition;" (.ref aNO)) (S_CHILDREN : Sta Z h0 "com/example/typewright/typewright/cast/CastMatrix$Condition" "CHILDREN" "Lcom/example/typewright/typewright/cast/CastMatrix$Condition;" (.ref aCH)) (S_SAME_RAW : Sta Z h0 "com/example/typewright/typewright/cast/CastMatrix$Condition" "SAME_RAW" "Lcom/example/typewright/typewright/cast/CastMatrix$Condition;" (.ref aSR)) (S_YEAR_MONTH_INTERVAL : Sta Z h0 "com/example/typewright/typewright/cast/CastMatrix$Condition" "YEAR_MONTH_INTERVAL" "Lcom/example/typewright/typewright/cast/CastMatrix$Condition;" (.ref aYM)) (S_DAY_TIME_INTERVAL : Sta Z h0 "com/example/typewright/typewright/cast/CastMatrix$Condition" "DAY_TIME_INTERVAL" "Lcom/example/typewright/typewright/cast/CastMatrix$Condition;" (.ref aDT)) (hin : ¬ (p0.toInt < 50 ∨ p0.toInt > 54)) :
    MetFree l (⟨"com/example/typewright/typewright/cast/CastMatrix$Condition", "ofFootnote", "(C)Lcom/example/typewright/typewright/cast/CastMatrix$Condition;"⟩ : MethodName) (head1 (Jvm.Cond.code (⟨"com/example/typewright/typewright/cast/CastMatrix$Condition", "ofFootnote", "(C)Lcom/example/typewright/typewright/cast/CastMatrix$Condition;"⟩ : MethodName) prog_6_method_4_code 1 (some (.object "com/example/typewright/typewright/cast/CastMatrix$Condition")) :: ws) ({ frames := 0, cells := 0, slots := 0, locals := 0 } : Room)) (fun a U => a = #[(.int p0)] ∧ Z.Warmed39 U.vm ∧ U.heap = h0) (fun _ _ _ _ _ => True) (fun _ U o U' => ∃ v L, o = .returned v ∧ own_Q1 Z p0 aNO aCH aSR aYM aDT h0 n0 v U'.heap L ∧ FrameEnd U o U' L ({ frames := 0, cells := 0, slots := 0, locals := 0 } : Room).cells ({ frames := 0, cells := 0, slots := 0, locals := 0 } : Room).slots) := by
  refine MetFree.of_bodySF (plainFor_of_name own_pn0) hisR ?_
  intro p e s m args below meth c s₁ Bd hml0 hP hK
  obtain ⟨rfl, hZ, hh⟩ := hP
  have hx := Bd.exec
  have hby := Bd.bytes
  have hml : c.maxLocals = 1 := hml0
  have hown : s.vm.findClass "com/example/typewright/typewright/cast/CastMatrix$Condition" = some m.cls := findClass_of_methodNamed Bd.named
  have hnm := (name_of_methodNamed Bd.named Bd.method).1
  have X0 : Stand p l e ({ frames := 0, cells := 0, slots := 0, locals := 0 } : Room) s m #[(.int p0)] below meth c s₁ [] 0 0 := Stand.of_body Bd
  have e0 : s₁.heap = h0 := by rw [← hh, Bd.state]; rfl
  have N0 := Fr.nil n0
  have pre0 : ∀ t, Steps p.tables e below (s₁.setTop (mkF m 0 #[oi p0] [])) t → Steps p.tables e below (s₁.setTop (entryFrame m #[(.int p0)] 1)) t := fun t k => castTop (own_ef1 m p0) k
  have pre1 : ∀ t, Steps p.tables e below (s₁.setTop (mkF m 1 #[oi p0] [(.int p0)])) t → Steps p.tables e below (s₁.setTop (entryFrame m #[(.int p0)] 1)) t := by
    intro t k
    refine pre0 t ?_
    show oS p e below s₁ m 0 #[oi p0] [] _
    refine XS.iloadN X0.here hx rfl (hb hby own_d1_0) rfl ?_
    exact k
  have c2 : ¬ (p0.toInt < 50 ∨ p0.toInt > 54) := hin
  have k3 : p0.toInt = 50 ∨ p0.toInt = 51 ∨ p0.toInt = 52 ∨ p0.toInt = 53 ∨ p0.toInt = 54 := by omega
  rcases k3 with k3 | k3 | k3 | k3 | k3
  · skip
    obtain ⟨T4, X4, e4, st4⟩ := getS2 X0 hx hZ hown (host := "") (Or.inl (hw _ (List.mem_of_getElem? (i := 5) rfl))) Via.refl e0 S_NONE (g := (mkF m 36 #[oi p0] [])) rfl (hb hby own_d1_36)
    obtain ⟨fs, hr, hrun, hended, hW, hsame⟩ := X4.leave (v := (some (.ref aNO))) (fun h => by rw [Bd.returns] at h; cases h)
    refine ⟨_, _, pre1 _ ?_, hrun, hended, _, _, rfl, ?_, ⟨_, rfl⟩, hW, hsame.mono (by decide) (by decide)⟩
    · show oS p e below s₁ m 1 #[oi p0] [(.int p0)] _
      refine XS.tswIn X0.here hx rfl (o := 35) (pc0 := 1) (pc' := 36) rfl (hb hby own_d1_1) rfl c2 (by rw [show p0.toInt = 50 from k3]; rfl) (by decide) (by decide) ?_
      show oS p e below s₁ m 36 #[oi p0] [] _
      refine st4 _ ?_
      show oS p e below T4 m 39 #[oi p0] [(.ref aNO)] _
      refine XS.goto X4.here hx rfl (pc0 := 39) (pc' := 80) rfl (hb hby own_d1_39) (by decide) (by decide) ?_
      show oS p e below T4 m 80 #[oi p0] [(.ref aNO)] _
      exact retOut X4 hx Bd.returns rfl (Or.inr (Or.inr (Or.inr (Or.inr ⟨rfl, rfl, rfl⟩)))) (hb hby own_d1_80) hr
    · show own_Q1 Z p0 aNO aCH aSR aYM aDT h0 n0 _ T4.heap _
      rw [e4]
      exact ⟨congrArg (fun z => some (Value.ref z)) (by rw [own_f1, if_pos k3]), N0, rfl⟩
  · skip
    obtain ⟨T5, X5, e5, st5⟩ := getS2 X0 hx hZ hown (host := "") (Or.inl (hw _ (List.mem_of_getElem? (i := 17) rfl))) Via.refl e0 S_CHILDREN (g := (mkF m 42 #[oi p0] [])) rfl (hb hby own_d1_42)
    obtain ⟨fs, hr, hrun, hended, hW, hsame⟩ := X5.leave (v := (some (.ref aCH))) (fun h => by rw [Bd.returns] at h; cases h)
    refine ⟨_, _, pre1 _ ?_, hrun, hended, _, _, rfl, ?_, ⟨_, rfl⟩, hW, hsame.mono (by decide) (by decide)⟩
    · show oS p e below s₁ m 1 #[oi p0] [(.int p0)] _
      refine XS.tswIn X0.here hx rfl (o := 41) (pc0 := 1) (pc' := 42) rfl (hb hby own_d1_1) rfl c2 (by rw [show p0.toInt = 51 from k3]; rfl) (by decide) (by decide) ?_
      show oS p e below s₁ m 42 #[oi p0] [] _
      refine st5 _ ?_
      show oS p e below T5 m 45 #[oi p0] [(.ref aCH)] _
      refine XS.goto X5.here hx rfl (pc0 := 45) (pc' := 80) rfl (hb hby own_d1_45) (by decide) (by decide) ?_
      show oS p e below T5 m 80 #[oi p0] [(.ref aCH)] _
      exact retOut X5 hx Bd.returns rfl (Or.inr (Or.inr (Or.inr (Or.inr ⟨rfl, rfl, rfl⟩)))) (hb hby own_d1_80) hr
    · show own_Q1 Z p0 aNO aCH aSR aYM aDT h0 n0 _ T5.heap _
      rw [e5]
      exact ⟨congrArg (fun z => some (Value.ref z)) (by rw [own_f1, if_neg (show ¬ (p0.toInt = 50) by omega), if_pos k3]), N0, rfl⟩
  · skip
    obtain ⟨T6, X6, e6, st6⟩ := getS2 X0 hx hZ hown (host := "") (Or.inl (hw _ (List.mem_of_getElem? (i := 23) rfl))) Via.refl e0 S_SAME_RAW (g := (mkF m 48 #[oi p0] [])) rfl (hb hby own_d1_48)
    obtain ⟨fs, hr, hrun, hended, hW, hsame⟩ := X6.leave (v := (some (.ref aSR))) (fun h => by rw [Bd.returns] at h; cases h)
    refine ⟨_, _, pre1 _ ?_, hrun, hended, _, _, rfl, ?_, ⟨_, rfl⟩, hW, hsame.mono (by decide) (by decide)⟩
    · show oS p e below s₁ m 1 #[oi p0] [(.int p0)] _
      refine XS.tswIn X0.here hx rfl (o := 47) (pc0 := 1) (pc' := 48) rfl (hb hby own_d1_1) rfl c2 (by rw [show p0.toInt = 52 from k3]; rfl) (by decide) (by decide) ?_
      show oS p e below s₁ m 48 #[oi p0] [] _
      refine st6 _ ?_
      show oS p e below T6 m 51 #[oi p0] [(.ref aSR)] _
      refine XS.goto X6.here hx rfl (pc0 := 51) (pc' := 80) rfl (hb hby own_d1_51) (by decide) (by decide) ?_
      show oS p e below T6 m 80 #[oi p0] [(.ref aSR)] _
      exact retOut X6 hx Bd.returns rfl (Or.inr (Or.inr (Or.inr (Or.inr ⟨rfl, rfl, rfl⟩)))) (hb hby own_d1_80) hr
    · show own_Q1 Z p0 aNO aCH aSR aYM aDT h0 n0 _ T6.heap _
      rw [e6]
      exact ⟨congrArg (fun z => some (Value.ref z)) (by rw [own_f1, if_neg (show ¬ (p0.toInt = 50) by omega), if_neg (show ¬ (p0.toInt = 51) by omega), if_pos k3]), N0, rfl⟩
  · skip
    obtain ⟨T7, X7, e7, st7⟩ := getS2 X0 hx hZ hown (host := "") (Or.inl (hw _ (List.mem_of_getElem? (i := 14) rfl))) Via.refl e0 S_YEAR_MONTH_INTERVAL (g := (mkF m 54 #[oi p0] [])) rfl (hb hby own_d1_54)
    obtain ⟨fs, hr, hrun, hended, hW, hsame⟩ := X7.leave (v := (some (.ref aYM))) (fun h => by rw [Bd.returns] at h; cases h)
    refine ⟨_, _, pre1 _ ?_, hrun, hended, _, _, rfl, ?_, ⟨_, rfl⟩, hW, hsame.mono (by decide) (by decide)⟩
    · show oS p e below s₁ m 1 #[oi p0] [(.int p0)] _
      refine XS.tswIn X0.here hx rfl (o := 53) (pc0 := 1) (pc' := 54) rfl (hb hby own_d1_1) rfl c2 (by rw [show p0.toInt = 53 from k3]; rfl) (by decide) (by decide) ?_
      show oS p e below s₁ m 54 #[oi p0] [] _
      refine st7 _ ?_
      show oS p e below T7 m 57 #[oi p0] [(.ref aYM)] _
      refine XS.goto X7.here hx rfl (pc0 := 57) (pc' := 80) rfl (hb hby own_d1_57) (by decide) (by decide) ?_
      show oS p e below T7 m 80 #[oi p0] [(.ref aYM)] _
      exact retOut X7 hx Bd.returns rfl (Or.inr (Or.inr (Or.inr (Or.inr ⟨rfl, rfl, rfl⟩)))) (hb hby own_d1_80) hr
    · show own_Q1 Z p0 aNO aCH aSR aYM aDT h0 n0 _ T7.heap _
      rw [e7]
      exact ⟨congrArg (fun z => some (Value.ref z)) (by rw [own_f1, if_neg (show ¬ (p0.toInt = 50) by omega), if_neg (show ¬ (p0.toInt = 51) by omega), if_neg (show ¬ (p0.toInt = 52) by omega), if_pos k3]), N0, rfl⟩
  · skip
    obtain ⟨T8, X8, e8, st8⟩ := getS2 X0 hx hZ hown (host := "") (Or.inl (hw _ (List.mem_of_getElem? (i := 20) rfl))) Via.refl e0 S_DAY_TIME_INTERVAL (g := (mkF m 60 #[oi p0] [])) rfl (hb hby own_d1_60)
    obtain ⟨fs, hr, hrun, hended, hW, hsame⟩ := X8.leave (v := (some (.ref aDT))) (fun h => by rw [Bd.returns] at h; cases h)
    refine ⟨_, _, pre1 _ ?_, hrun, hended, _, _, rfl, ?_, ⟨_, rfl⟩, hW, hsame.mono (by decide) (by decide)⟩
    · show oS p e below s₁ m 1 #[oi p0] [(.int p0)] _
      refine XS.tswIn X0.here hx rfl (o := 59) (pc0 := 1) (pc' := 60) rfl (hb hby own_d1_1) rfl c2 (by rw [show p0.toInt = 54 from k3]; rfl) (by decide) (by decide) ?_
      show oS p e below s₁ m 60 #[oi p0] [] _
      refine st8 _ ?_
      show oS p e below T8 m 63 #[oi p0] [(.ref aDT)] _
      refine XS.goto X8.here hx rfl (pc0 := 63) (pc' := 80) rfl (hb hby own_d1_63) (by decide) (by decide) ?_
      show oS p e below T8 m 80 #[oi p0] [(.ref aDT)] _
      exact retOut X8 hx Bd.returns rfl (Or.inr (Or.inr (Or.inr (Or.inr ⟨rfl, rfl, rfl⟩)))) (hb hby own_d1_80) hr
    · show own_Q1 Z p0 aNO aCH aSR aYM aDT h0 n0 _ T8.heap _
      rw [e8]
      exact ⟨congrArg (fun z => some (Value.ref z)) (by rw [own_f1, if_neg (show ¬ (p0.toInt = 50) by omega), if_neg (show ¬ (p0.toInt = 51) by omega), if_neg (show ¬ (p0.toInt = 52) by omega), if_neg (show ¬ (p0.toInt = 53) by omega)]), N0, rfl⟩
theorem own_pn1 : plainName "com/example/typewright/typewright/cast/ConditionOfFootnotePinLaw" = true := by first | (simp [plainName, overriddenIn]; done) | decide +kernel
theorem own_d2_0 : decode method_2_code 0 = .ok (.iload_n 0, 1) := by decide +kernel
theorem own_d2_1 : decode method_2_code 1 = .ok (.iconst 2, 1) := by decide +kernel
theorem own_d2_2 : decode method_2_code 2 = .ok (.if_icmp .ne 10, 3) := by decide +kernel
theorem own_d2_5 : decode method_2_code 5 = .ok (.getstatic 7, 3) := by decide +kernel
theorem own_d2_8 : decode method_2_code 8 = .ok (.astore_n 1, 1) := by decide +kernel
theorem own_d2_9 : decode method_2_code 9 = .ok (.goto 43, 3) := by decide +kernel
theorem own_d2_12 : decode method_2_code 12 = .ok (.iload_n 0, 1) := by decide +kernel
theorem own_d2_13 : decode method_2_code 13 = .ok (.iconst 3, 1) := by decide +kernel
theorem own_d2_14 : decode method_2_code 14 = .ok (.if_icmp .ne 10, 3) := by decide +kernel
theorem own_d2_17 : decode method_2_code 17 = .ok (.getstatic 13, 3) := by decide +kernel
theorem own_d2_20 : decode method_2_code 20 = .ok (.astore_n 1, 1) := by decide +kernel
theorem own_d2_21 : decode method_2_code 21 = .ok (.goto 31, 3) := by decide +kernel
theorem own_d2_24 : decode method_2_code 24 = .ok (.iload_n 0, 1) := by decide +kernel
theorem own_d2_25 : decode method_2_code 25 = .ok (.iconst 4, 1) := by decide +kernel
theorem own_d2_26 : decode method_2_code 26 = .ok (.if_icmp .ne 10, 3) := by decide +kernel
theorem own_d2_29 : decode method_2_code 29 = .ok (.getstatic 16, 3) := by decide +kernel
theorem own_d2_32 : decode method_2_code 32 = .ok (.astore_n 1, 1) := by decide +kernel
theorem own_d2_33 : decode method_2_code 33 = .ok (.goto 19, 3) := by decide +kernel
theorem own_d2_36 : decode method_2_code 36 = .ok (.iload_n 0, 1) := by decide +kernel
theorem own_d2_37 : decode method_2_code 37 = .ok (.iconst 5, 1) := by decide +kernel
theorem own_d2_38 : decode method_2_code 38 = .ok (.if_icmp .ne 10, 3) := by decide +kernel
theorem own_d2_41 : decode method_2_code 41 = .ok (.getstatic 19, 3) := by decide +kernel
theorem own_d2_44 : decode method_2_code 44 = .ok (.astore_n 1, 1) := by decide +kernel
theorem own_d2_45 : decode method_2_code 45 = .ok (.goto 7, 3) := by decide +kernel
theorem own_d2_48 : decode method_2_code 48 = .ok (.getstatic 22, 3) := by decide +kernel
theorem own_d2_51 : decode method_2_code 51 = .ok (.astore_n 1, 1) := by decide +kernel
theorem own_d2_52 : decode method_2_code 52 = .ok (.aload_n 1, 1) := by decide +kernel
theorem own_d2_53 : decode method_2_code 53 = .ok (.areturn, 1) := by decide +kernel
theorem own_ef2 (m : MethodId) (p0 : Int32) : entryFrame m #[(.int p0)] 2 = mkF m 0 #[oi p0, .unset] [] := by first | (simp [entryFrame, mkF, argsToLocals, Value.category]; done) | rfl
def own_f2 (p0 : Int32) (aNO : Addr) (aCH : Addr) (aSR : Addr) (aYM : Addr) (aDT : Addr) : Addr := (if p0 = (2 : Int32) then aNO else (if p0 = (3 : Int32) then aCH else (if p0 = (4 : Int32) then aSR else (if p0 = (5 : Int32) then aYM else aDT))))
def own_Q2 (Z : State) (p0 : Int32) (aNO : Addr) (aCH : Addr) (aSR : Addr) (aYM : Addr) (aDT : Addr) (h0 : Heap) (n0 : Nat) (v : Option Value) (h : Heap) (L : List Loc) : Prop := v = some (Value.ref (own_f2 p0 aNO aCH aSR aYM aDT)) ∧ Fr n0 L ∧ h = h0
set_option maxRecDepth 65536 in
set_option maxHeartbeats 40000000 in
theorem own_rm2 (l : Launch) (Z : State) (av : Array Value) (hw : ∀ d ∈ tables_1, d.before av Z = true) (ws : List Jvm.Cond) (p0 : Int32) (aNO : Addr) (aCH : Addr) (aSR : Addr) (aYM : Addr) (aDT : Addr) (h0 : Heap) (n0 : Nat) (Z0 : n0 ≤ h0.size) (S_NONE : Sta Z h0 "com/example/typewright/typewright/cast/CastMatrix$Condition" "NONE" "Lcom/example/typewright/typewright/cast/CastMatrix$Condition;" (.ref aNO)) (S_CHILDREN : Sta Z h0 "com/example/typewright/typewright/cast/CastMatrix$Condition" "CHILDREN" "Lcom/example/typewright/typewright/cast/CastMatrix$Condition;" (.ref aCH)) (S_SAME_RAW : Sta Z h0 "com/example/typewright/typewright/cast/CastMatrix$Condition" "SAME_RAW" "Lcom/example/typewright/typewright/cast/CastMatrix$Condition;" (.ref aSR)) (S_YEAR_MONTH_INTERVAL : Sta Z h0 "com/example/typewright/typewright/cast/CastMatrix$Condition" "YEAR_MONTH_INTERVAL" "Lcom/example/typewright/typewright/cast/CastMatrix$Condition;" (.ref aYM)) (S_DAY_TIME_INTERVAL : Sta Z h0 "com/example/typewright/typewright/cast/CastMatrix$Condition" "DAY_TIME_INTERVAL" "Lcom/example/typewright/typewright/cast/CastMatrix$Condition;" (.ref aDT)) :
    MetFree l (⟨"com/example/typewright/typewright/cast/ConditionOfFootnotePinLaw", "documented", "(I)Lcom/example/typewright/typewright/cast/CastMatrix$Condition;"⟩ : MethodName) (head1 (Jvm.Cond.code (⟨"com/example/typewright/typewright/cast/ConditionOfFootnotePinLaw", "documented", "(I)Lcom/example/typewright/typewright/cast/CastMatrix$Condition;"⟩ : MethodName) method_2_code 2 (some (.object "com/example/typewright/typewright/cast/CastMatrix$Condition")) :: ws) ({ frames := 0, cells := 0, slots := 0, locals := 0 } : Room)) (fun a U => a = #[(.int p0)] ∧ Z.Warmed39 U.vm ∧ U.heap = h0) (fun _ _ _ _ _ => True) (fun _ U o U' => ∃ v L, o = .returned v ∧ own_Q2 Z p0 aNO aCH aSR aYM aDT h0 n0 v U'.heap L ∧ FrameEnd U o U' L ({ frames := 0, cells := 0, slots := 0, locals := 0 } : Room).cells ({ frames := 0, cells := 0, slots := 0, locals := 0 } : Room).slots) := by
  refine MetFree.of_bodySF (plainFor_of_name own_pn1) hisR ?_
  intro p e s m args below meth c s₁ Bd hml0 hP hK
  obtain ⟨rfl, hZ, hh⟩ := hP
  have hx := Bd.exec
  have hby := Bd.bytes
  have hml : c.maxLocals = 2 := hml0
  have hown : s.vm.findClass "com/example/typewright/typewright/cast/ConditionOfFootnotePinLaw" = some m.cls := findClass_of_methodNamed Bd.named
  have hnm := (name_of_methodNamed Bd.named Bd.method).1
  have X0 : Stand p l e ({ frames := 0, cells := 0, slots := 0, locals := 0 } : Room) s m #[(.int p0)] below meth c s₁ [] 0 0 := Stand.of_body Bd
  have e0 : s₁.heap = h0 := by rw [← hh, Bd.state]; rfl
  have N0 := Fr.nil n0
  have pre0 : ∀ t, Steps p.tables e below (s₁.setTop (mkF m 0 #[oi p0, .unset] [])) t → Steps p.tables e below (s₁.setTop (entryFrame m #[(.int p0)] 2)) t := fun t k => castTop (own_ef2 m p0) k
  have pre1 : ∀ t, Steps p.tables e below (s₁.setTop (mkF m 2 #[oi p0, .unset] [(.int (2 : Int32)), (.int p0)])) t → Steps p.tables e below (s₁.setTop (entryFrame m #[(.int p0)] 2)) t := by
    intro t k
    refine pre0 t ?_
    show oS p e below s₁ m 0 #[oi p0, .unset] [] _
    refine XS.iloadN X0.here hx rfl (hb hby own_d2_0) rfl ?_
    show oS p e below s₁ m 1 #[oi p0, .unset] [(.int p0)] _
    refine XS.iconst X0.here hx rfl (hb hby own_d2_1) ?_
    exact k
  by_cases c2 : p0 = (2 : Int32)
  · skip
    obtain ⟨T3, X3, e3, st3⟩ := getS2 X0 hx hZ hown (host := "") (Or.inl (hw _ (List.mem_of_getElem? (i := 11) rfl))) Via.refl e0 S_NONE (g := (mkF m 5 #[oi p0, .unset] [])) rfl (hb hby own_d2_5)
    obtain ⟨fs, hr, hrun, hended, hW, hsame⟩ := X3.leave (v := (some (.ref aNO))) (fun h => by rw [Bd.returns] at h; cases h)
    refine ⟨_, _, pre1 _ ?_, hrun, hended, _, _, rfl, ?_, ⟨_, rfl⟩, hW, hsame.mono (by decide) (by decide)⟩
    · show oS p e below s₁ m 2 #[oi p0, .unset] [(.int (2 : Int32)), (.int p0)] _
      refine XS.icmpNo X0.here hx rfl (hb hby own_d2_2) rfl (teq c2).2 ?_
      show oS p e below s₁ m 5 #[oi p0, .unset] [] _
      refine st3 _ ?_
      show oS p e below T3 m 8 #[oi p0, .unset] [(.ref aNO)] _
      refine XS.astoreN X3.here hx rfl (hb hby own_d2_8) rfl rfl (l' := #[oi p0, oa aNO]) rfl ?_
      show oS p e below T3 m 9 #[oi p0, oa aNO] [] _
      refine XS.goto X3.here hx rfl (pc0 := 9) (pc' := 52) rfl (hb hby own_d2_9) (by decide) (by decide) ?_
      show oS p e below T3 m 52 #[oi p0, oa aNO] [] _
      refine XS.aloadN X3.here hx rfl (hb hby own_d2_52) rfl rfl ?_
      show oS p e below T3 m 53 #[oi p0, oa aNO] [(.ref aNO)] _
      exact retOut X3 hx Bd.returns rfl (Or.inr (Or.inr (Or.inr (Or.inr ⟨rfl, rfl, rfl⟩)))) (hb hby own_d2_53) hr
    · show own_Q2 Z p0 aNO aCH aSR aYM aDT h0 n0 _ T3.heap _
      rw [e3]
      exact ⟨congrArg (fun z => some (Value.ref z)) (by rw [own_f2, if_pos c2]), N0, rfl⟩
  · skip
    have pre4 : ∀ t, Steps p.tables e below (s₁.setTop (mkF m 14 #[oi p0, .unset] [(.int (3 : Int32)), (.int p0)])) t → Steps p.tables e below (s₁.setTop (entryFrame m #[(.int p0)] 2)) t := by
      intro t k
      refine pre1 t ?_
      show oS p e below s₁ m 2 #[oi p0, .unset] [(.int (2 : Int32)), (.int p0)] _
      refine XS.icmpYes X0.here hx rfl (pc0 := 2) (pc' := 12) rfl (hb hby own_d2_2) rfl (feq c2).2 (by decide) (by decide) ?_
      show oS p e below s₁ m 12 #[oi p0, .unset] [] _
      refine XS.iloadN X0.here hx rfl (hb hby own_d2_12) rfl ?_
      show oS p e below s₁ m 13 #[oi p0, .unset] [(.int p0)] _
      refine XS.iconst X0.here hx rfl (hb hby own_d2_13) ?_
      exact k
    by_cases c5 : p0 = (3 : Int32)
    · skip
      obtain ⟨T6, X6, e6, st6⟩ := getS2 X0 hx hZ hown (host := "") (Or.inl (hw _ (List.mem_of_getElem? (i := 19) rfl))) Via.refl e0 S_CHILDREN (g := (mkF m 17 #[oi p0, .unset] [])) rfl (hb hby own_d2_17)
      obtain ⟨fs, hr, hrun, hended, hW, hsame⟩ := X6.leave (v := (some (.ref aCH))) (fun h => by rw [Bd.returns] at h; cases h)
      refine ⟨_, _, pre4 _ ?_, hrun, hended, _, _, rfl, ?_, ⟨_, rfl⟩, hW, hsame.mono (by decide) (by decide)⟩
      · show oS p e below s₁ m 14 #[oi p0, .unset] [(.int (3 : Int32)), (.int p0)] _
        refine XS.icmpNo X0.here hx rfl (hb hby own_d2_14) rfl (teq c5).2 ?_
        show oS p e below s₁ m 17 #[oi p0, .unset] [] _
        refine st6 _ ?_
        show oS p e below T6 m 20 #[oi p0, .unset] [(.ref aCH)] _
        refine XS.astoreN X6.here hx rfl (hb hby own_d2_20) rfl rfl (l' := #[oi p0, oa aCH]) rfl ?_
        show oS p e below T6 m 21 #[oi p0, oa aCH] [] _
        refine XS.goto X6.here hx rfl (pc0 := 21) (pc' := 52) rfl (hb hby own_d2_21) (by decide) (by decide) ?_
        show oS p e below T6 m 52 #[oi p0, oa aCH] [] _
        refine XS.aloadN X6.here hx rfl (hb hby own_d2_52) rfl rfl ?_
        show oS p e below T6 m 53 #[oi p0, oa aCH] [(.ref aCH)] _
        exact retOut X6 hx Bd.returns rfl (Or.inr (Or.inr (Or.inr (Or.inr ⟨rfl, rfl, rfl⟩)))) (hb hby own_d2_53) hr
      · show own_Q2 Z p0 aNO aCH aSR aYM aDT h0 n0 _ T6.heap _
        rw [e6]
        exact ⟨congrArg (fun z => some (Value.ref z)) (by rw [own_f2, if_neg c2, if_pos c5]), N0, rfl⟩
    · skip
      have pre7 : ∀ t, Steps p.tables e below (s₁.setTop (mkF m 26 #[oi p0, .unset] [(.int (4 : Int32)), (.int p0)])) t → Steps p.tables e below (s₁.setTop (entryFrame m #[(.int p0)] 2)) t := by
        intro t k
        refine pre4 t ?_
        show oS p e below s₁ m 14 #[oi p0, .unset] [(.int (3 : Int32)), (.int p0)] _
        refine XS.icmpYes X0.here hx rfl (pc0 := 14) (pc' := 24) rfl (hb hby own_d2_14) rfl (feq c5).2 (by decide) (by decide) ?_
        show oS p e below s₁ m 24 #[oi p0, .unset] [] _
        refine XS.iloadN X0.here hx rfl (hb hby own_d2_24) rfl ?_
        show oS p e below s₁ m 25 #[oi p0, .unset] [(.int p0)] _
        refine XS.iconst X0.here hx rfl (hb hby own_d2_25) ?_
        exact k
      by_cases c8 : p0 = (4 : Int32)
      · skip
        obtain ⟨T9, X9, e9, st9⟩ := getS2 X0 hx hZ hown (host := "") (Or.inl (hw _ (List.mem_of_getElem? (i := 25) rfl))) Via.refl e0 S_SAME_RAW (g := (mkF m 29 #[oi p0, .unset] [])) rfl (hb hby own_d2_29)
        obtain ⟨fs, hr, hrun, hended, hW, hsame⟩ := X9.leave (v := (some (.ref aSR))) (fun h => by rw [Bd.returns] at h; cases h)
        refine ⟨_, _, pre7 _ ?_, hrun, hended, _, _, rfl, ?_, ⟨_, rfl⟩, hW, hsame.mono (by decide) (by decide)⟩
        · show oS p e below s₁ m 26 #[oi p0, .unset] [(.int (4 : Int32)), (.int p0)] _
          refine XS.icmpNo X0.here hx rfl (hb hby own_d2_26) rfl (teq c8).2 ?_
          show oS p e below s₁ m 29 #[oi p0, .unset] [] _
          refine st9 _ ?_
          show oS p e below T9 m 32 #[oi p0, .unset] [(.ref aSR)] _
          refine XS.astoreN X9.here hx rfl (hb hby own_d2_32) rfl rfl (l' := #[oi p0, oa aSR]) rfl ?_
          show oS p e below T9 m 33 #[oi p0, oa aSR] [] _
          refine XS.goto X9.here hx rfl (pc0 := 33) (pc' := 52) rfl (hb hby own_d2_33) (by decide) (by decide) ?_
          show oS p e below T9 m 52 #[oi p0, oa aSR] [] _
          refine XS.aloadN X9.here hx rfl (hb hby own_d2_52) rfl rfl ?_
          show oS p e below T9 m 53 #[oi p0, oa aSR] [(.ref aSR)] _
          exact retOut X9 hx Bd.returns rfl (Or.inr (Or.inr (Or.inr (Or.inr ⟨rfl, rfl, rfl⟩)))) (hb hby own_d2_53) hr
        · show own_Q2 Z p0 aNO aCH aSR aYM aDT h0 n0 _ T9.heap _
          rw [e9]
          exact ⟨congrArg (fun z => some (Value.ref z)) (by rw [own_f2, if_neg c2, if_neg c5, if_pos c8]), N0, rfl⟩
      · skip
        have pre10 : ∀ t, Steps p.tables e below (s₁.setTop (mkF m 38 #[oi p0, .unset] [(.int (5 : Int32)), (.int p0)])) t → Steps p.tables e below (s₁.setTop (entryFrame m #[(.int p0)] 2)) t := by
          intro t k
          refine pre7 t ?_
          show oS p e below s₁ m 26 #[oi p0, .unset] [(.int (4 : Int32)), (.int p0)] _
          refine XS.icmpYes X0.here hx rfl (pc0 := 26) (pc' := 36) rfl (hb hby own_d2_26) rfl (feq c8).2 (by decide) (by decide) ?_
          show oS p e below s₁ m 36 #[oi p0, .unset] [] _
          refine XS.iloadN X0.here hx rfl (hb hby own_d2_36) rfl ?_
          show oS p e below s₁ m 37 #[oi p0, .unset] [(.int p0)] _
          refine XS.iconst X0.here hx rfl (hb hby own_d2_37) ?_
          exact k
        by_cases c11 : p0 = (5 : Int32)
        · skip
          obtain ⟨T12, X12, e12, st12⟩ := getS2 X0 hx hZ hown (host := "") (Or.inl (hw _ (List.mem_of_getElem? (i := 16) rfl))) Via.refl e0 S_YEAR_MONTH_INTERVAL (g := (mkF m 41 #[oi p0, .unset] [])) rfl (hb hby own_d2_41)
          obtain ⟨fs, hr, hrun, hended, hW, hsame⟩ := X12.leave (v := (some (.ref aYM))) (fun h => by rw [Bd.returns] at h; cases h)
          refine ⟨_, _, pre10 _ ?_, hrun, hended, _, _, rfl, ?_, ⟨_, rfl⟩, hW, hsame.mono (by decide) (by decide)⟩
          · show oS p e below s₁ m 38 #[oi p0, .unset] [(.int (5 : Int32)), (.int p0)] _
            refine XS.icmpNo X0.here hx rfl (hb hby own_d2_38) rfl (teq c11).2 ?_
            show oS p e below s₁ m 41 #[oi p0, .unset] [] _
            refine st12 _ ?_
            show oS p e below T12 m 44 #[oi p0, .unset] [(.ref aYM)] _
            refine XS.astoreN X12.here hx rfl (hb hby own_d2_44) rfl rfl (l' := #[oi p0, oa aYM]) rfl ?_
            show oS p e below T12 m 45 #[oi p0, oa aYM] [] _
            refine XS.goto X12.here hx rfl (pc0 := 45) (pc' := 52) rfl (hb hby own_d2_45) (by decide) (by decide) ?_
            show oS p e below T12 m 52 #[oi p0, oa aYM] [] _
            refine XS.aloadN X12.here hx rfl (hb hby own_d2_52) rfl rfl ?_
            show oS p e below T12 m 53 #[oi p0, oa aYM] [(.ref aYM)] _
            exact retOut X12 hx Bd.returns rfl (Or.inr (Or.inr (Or.inr (Or.inr ⟨rfl, rfl, rfl⟩)))) (hb hby own_d2_53) hr
          · show own_Q2 Z p0 aNO aCH aSR aYM aDT h0 n0 _ T12.heap _
            rw [e12]
            exact ⟨congrArg (fun z => some (Value.ref z)) (by rw [own_f2, if_neg c2, if_neg c5, if_neg c8, if_pos c11]), N0, rfl⟩
        · skip
          obtain ⟨T13, X13, e13, st13⟩ := getS2 X0 hx hZ hown (host := "") (Or.inl (hw _ (List.mem_of_getElem? (i := 22) rfl))) Via.refl e0 S_DAY_TIME_INTERVAL (g := (mkF m 48 #[oi p0, .unset] [])) rfl (hb hby own_d2_48)
          obtain ⟨fs, hr, hrun, hended, hW, hsame⟩ := X13.leave (v := (some (.ref aDT))) (fun h => by rw [Bd.returns] at h; cases h)
          refine ⟨_, _, pre10 _ ?_, hrun, hended, _, _, rfl, ?_, ⟨_, rfl⟩, hW, hsame.mono (by decide) (by decide)⟩
          · show oS p e below s₁ m 38 #[oi p0, .unset] [(.int (5 : Int32)), (.int p0)] _
            refine XS.icmpYes X0.here hx rfl (pc0 := 38) (pc' := 48) rfl (hb hby own_d2_38) rfl (feq c11).2 (by decide) (by decide) ?_
            show oS p e below s₁ m 48 #[oi p0, .unset] [] _
            refine st13 _ ?_
            show oS p e below T13 m 51 #[oi p0, .unset] [(.ref aDT)] _
            refine XS.astoreN X13.here hx rfl (hb hby own_d2_51) rfl rfl (l' := #[oi p0, oa aDT]) rfl ?_
            show oS p e below T13 m 52 #[oi p0, oa aDT] [] _
            refine XS.aloadN X13.here hx rfl (hb hby own_d2_52) rfl rfl ?_
            show oS p e below T13 m 53 #[oi p0, oa aDT] [(.ref aDT)] _
            exact retOut X13 hx Bd.returns rfl (Or.inr (Or.inr (Or.inr (Or.inr ⟨rfl, rfl, rfl⟩)))) (hb hby own_d2_53) hr
          · show own_Q2 Z p0 aNO aCH aSR aYM aDT h0 n0 _ T13.heap _
            rw [e13]
            exact ⟨congrArg (fun z => some (Value.ref z)) (by rw [own_f2, if_neg c2, if_neg c5, if_neg c8, if_neg c11]), N0, rfl⟩
theorem own_d (x : Int32) : 2 ≤ ((2 : Int32) + ((x &&& (2147483647 : Int32)) % (5 : Int32))).toInt ∧ ((2 : Int32) + ((x &&& (2147483647 : Int32)) % (5 : Int32))).toInt ≤ 6 := by
  have h : (x &&& (2147483647 : Int32)).toInt = x.toInt % 2147483648 := c_mask x 2147483647 31 (by decide) (by decide)
  have h2 := (c_irem (x &&& 2147483647) 5 5 (by decide)).1 (by omega)
  have h3 := c_iadd 2 ((x &&& 2147483647) % 5)
  have h4 := rng32 (2 + (x &&& 2147483647) % 5)
  simp only [Int32.reduceToInt, h2] at h3
  omega
theorem own_ch (v : Int32) (h : 2 ≤ v.toInt ∧ v.toInt ≤ 6) : (((48 : Int32) + v).toUInt32.toUInt16.toUInt32.toInt32).toInt = 48 + v.toInt := by
  have h1 := c_i2c ((48 : Int32) + v)
  have h2 := c_iadd 48 v
  have h3 := rng32 (48 + v)
  simp only [Int32.reduceToInt] at h2
  omega
theorem own_c {v : Int32} (h : 2 ≤ v.toInt ∧ v.toInt ≤ 6) : ¬ ((((48 : Int32) + v).toUInt32.toUInt16.toUInt32.toInt32).toInt < 50 ∨ (((48 : Int32) + v).toUInt32.toUInt16.toUInt32.toInt32).toInt > 54) := by
  rw [own_ch v h]; omega
theorem own_eq {v : Int32} (h : 2 ≤ v.toInt ∧ v.toInt ≤ 6) {aNO aCH aSR aYM aDT : Addr} : own_f1 (((48 : Int32) + v).toUInt32.toUInt16.toUInt32.toInt32) aNO aCH aSR aYM aDT = own_f2 v aNO aCH aSR aYM aDT := by
  unfold own_f1 own_f2
  rw [own_ch v h]
  simp only [own_eqp v, Int32.reduceToInt]
  repeat' split
  all_goals first | rfl | (exfalso; omega)
theorem own_ne {v : Int32} {aNO aCH aSR aYM aDT aSK : Addr} (n1 : aNO ≠ aSK) (n2 : aCH ≠ aSK) (n3 : aSR ≠ aSK) (n4 : aYM ≠ aSK) (n5 : aDT ≠ aSK) : own_f1 v aNO aCH aSR aYM aDT ≠ aSK := by
  unfold own_f1
  repeat' split
  all_goals assumption
theorem own_pd0 : parseMethodDescriptor "(C)Lcom/example/typewright/typewright/cast/CastMatrix$Condition;" = some ⟨[.char], some (.object "com/example/typewright/typewright/cast/CastMatrix$Condition")⟩ := by decide +kernel
theorem own_pd1 : parseMethodDescriptor "(I)Lcom/example/typewright/typewright/cast/CastMatrix$Condition;" = some ⟨[.int], some (.object "com/example/typewright/typewright/cast/CastMatrix$Condition")⟩ := by decide +kernel
theorem own_ef0 (m : MethodId) (p0 : Int32) : entryFrame m #[(.int p0)] maxLocals = mkF m 0 #[oi p0, .unset, .unset, .unset] [] := by first | (simp [entryFrame, mkF, argsToLocals, Value.category, maxLocals]; done) | rfl
def own_Q0 (Z : State) (p0 : Int32) (aNO : Addr) (aCH : Addr) (aSR : Addr) (aYM : Addr) (aDT : Addr) (aSK : Addr) (h0 : Heap) (n0 : Nat) (v : Option Value) (h : Heap) (L : List Loc) : Prop := v = some (Value.int (1 : Int32)) ∧ Fr n0 L
set_option maxRecDepth 65536 in
set_option maxHeartbeats 40000000 in
theorem own_rm0 (l : Launch) (Z : State) (av : Array Value) (hw : ∀ d ∈ tables_1, d.before av Z = true) (ws : List Jvm.Cond) (p0 : Int32) (aNO : Addr) (aCH : Addr) (aSR : Addr) (aYM : Addr) (aDT : Addr) (aSK : Addr) (h0 : Heap) (n0 : Nat) (Z0 : n0 ≤ h0.size) (S_NONE : Sta Z h0 "com/example/typewright/typewright/cast/CastMatrix$Condition" "NONE" "Lcom/example/typewright/typewright/cast/CastMatrix$Condition;" (.ref aNO)) (S_CHILDREN : Sta Z h0 "com/example/typewright/typewright/cast/CastMatrix$Condition" "CHILDREN" "Lcom/example/typewright/typewright/cast/CastMatrix$Condition;" (.ref aCH)) (S_SAME_RAW : Sta Z h0 "com/example/typewright/typewright/cast/CastMatrix$Condition" "SAME_RAW" "Lcom/example/typewright/typewright/cast/CastMatrix$Condition;" (.ref aSR)) (S_YEAR_MONTH_INTERVAL : Sta Z h0 "com/example/typewright/typewright/cast/CastMatrix$Condition" "YEAR_MONTH_INTERVAL" "Lcom/example/typewright/typewright/cast/CastMatrix$Condition;" (.ref aYM)) (S_DAY_TIME_INTERVAL : Sta Z h0 "com/example/typewright/typewright/cast/CastMatrix$Condition" "DAY_TIME_INTERVAL" "Lcom/example/typewright/typewright/cast/CastMatrix$Condition;" (.ref aDT)) (S_SAME_INTERVAL_KIND : Sta Z h0 "com/example/typewright/typewright/cast/CastMatrix$Condition" "SAME_INTERVAL_KIND" "Lcom/example/typewright/typewright/cast/CastMatrix$Condition;" (.ref aSK)) (n1 : aNO ≠ aSK) (n2 : aCH ≠ aSK) (n3 : aSR ≠ aSK) (n4 : aYM ≠ aSK) (n5 : aDT ≠ aSK) :
    MetFree l x (head1 (Jvm.Cond.code x code maxLocals ret :: ws) room_1) (fun a U => a = #[(.int p0)] ∧ Z.Warmed39 U.vm ∧ U.heap = h0) (fun _ _ _ _ _ => True) (fun _ U o U' => ∃ v L, o = .returned v ∧ own_Q0 Z p0 aNO aCH aSR aYM aDT aSK h0 n0 v U'.heap L ∧ FrameEnd U o U' L room_1.cells room_1.slots) := by
  refine MetFree.of_bodySF (plainFor_of_name own_pn1) hisR ?_
  intro p e s m args below meth c s₁ Bd hml0 hP hK
  obtain ⟨rfl, hZ, hh⟩ := hP
  have hx := Bd.exec
  have hby := Bd.bytes
  have hml : c.maxLocals = 4 := hml0
  have hown : s.vm.findClass "com/example/typewright/typewright/cast/ConditionOfFootnotePinLaw" = some m.cls := findClass_of_methodNamed Bd.named
  have hnm := (name_of_methodNamed Bd.named Bd.method).1
  have X0 : Stand p l e room_1 s m #[(.int p0)] below meth c s₁ [] 0 0 := Stand.of_body Bd
  have e0 : s₁.heap = h0 := by rw [← hh, Bd.state]; rfl
  have N0 := Fr.nil n0
  have pre0 : ∀ t, Steps p.tables e below (s₁.setTop (mkF m 0 #[oi p0, .unset, .unset, .unset] [])) t → Steps p.tables e below (s₁.setTop (entryFrame m #[(.int p0)] maxLocals)) t := fun t k => castTop (own_ef0 m p0) k
  have pre1 : ∀ t, Steps p.tables e below (s₁.setTop (mkF m 8 #[oi p0, .unset, .unset, .unset] [(.int ((2 : Int32) + ((p0 &&& (2147483647 : Int32)) % (5 : Int32))))])) t → Steps p.tables e below (s₁.setTop (entryFrame m #[(.int p0)] maxLocals)) t := by
    intro t k
    refine pre0 t ?_
    show oS p e below s₁ m 0 #[oi p0, .unset, .unset, .unset] [] _
    refine XS.iconst X0.here hx rfl (hb hby at_0) ?_
    show oS p e below s₁ m 1 #[oi p0, .unset, .unset, .unset] [(.int (2 : Int32))] _
    refine XS.iloadN X0.here hx rfl (hb hby at_1) rfl ?_
    show oS p e below s₁ m 2 #[oi p0, .unset, .unset, .unset] [(.int p0), (.int (2 : Int32))] _
    refine X0.ldcInt hx hown (mvT hZ (hw _ (List.mem_of_getElem? (i := 0) rfl))) (g := (mkF m 2 #[oi p0, .unset, .unset, .unset] [(.int p0), (.int (2 : Int32))])) rfl (hb hby at_2) _ ?_
    show oS p e below s₁ m 4 #[oi p0, .unset, .unset, .unset] [(.int (2147483647 : Int32)), (.int p0), (.int (2 : Int32))] _
    refine XS.iand X0.here hx rfl (hb hby at_4) rfl ?_
    show oS p e below s₁ m 5 #[oi p0, .unset, .unset, .unset] [(.int (p0 &&& (2147483647 : Int32))), (.int (2 : Int32))] _
    refine XS.iconst X0.here hx rfl (hb hby at_5) ?_
    show oS p e below s₁ m 6 #[oi p0, .unset, .unset, .unset] [(.int (5 : Int32)), (.int (p0 &&& (2147483647 : Int32))), (.int (2 : Int32))] _
    refine Jvm.RoadKit.iremM X0 hx rfl (hb hby at_6) rfl (by decide) ?_
    show oS p e below s₁ m 7 #[oi p0, .unset, .unset, .unset] [(.int ((p0 &&& (2147483647 : Int32)) % (5 : Int32))), (.int (2 : Int32))] _
    refine XS.iadd X0.here hx rfl (hb hby at_7) rfl ?_
    exact k
  obtain ⟨vd, hvd⟩ : ∃ z : Int32, z = ((2 : Int32) + ((p0 &&& (2147483647 : Int32)) % (5 : Int32))) := ⟨_, rfl⟩
  rw [← hvd] at pre1
  have rv : 2 ≤ vd.toInt ∧ vd.toInt ≤ 6 := by rw [hvd]; exact own_d _
  obtain ⟨_, _, ⟨T2, L2, k2, n2⟩, -, X2, ⟨Lc2, hQ2, l2, y2, z2⟩, st2⟩ := Jvm.LawKit.callS X0 hx (y := (⟨"com/example/typewright/typewright/cast/CastMatrix$Condition", "ofFootnote", "(C)Lcom/example/typewright/typewright/cast/CastMatrix$Condition;"⟩ : MethodName)) hown (mvT hZ (hw _ (List.mem_of_getElem? (i := 1) rfl))) (mvT hZ (hw _ (List.mem_of_getElem? (i := 2) rfl))) (mvT hZ (hw _ (List.mem_of_getElem? (i := 3) rfl))) (mvT hZ (hw _ (List.mem_of_getElem? (i := 4) rfl))) (by decide) (backOf (W := 0) (own_rm1 l Z av hw [] (((48 : Int32) + vd).toUInt32.toUInt16.toUInt32.toInt32) aNO aCH aSR aYM aDT h0 n0 Z0 S_NONE S_CHILDREN S_SAME_RAW S_YEAR_MONTH_INTERVAL S_DAY_TIME_INTERVAL (own_c rv)) hZ (hw _ (List.mem_of_getElem? (i := 4) rfl)) (hw _ (List.mem_of_getElem? (i := 3) rfl)) (by decide) (by decide)) (g := (mkF m 16 #[oi p0, oi vd, oi (((48 : Int32) + vd).toUInt32.toUInt16.toUInt32.toInt32), .unset] [(.int (((48 : Int32) + vd).toUInt32.toUInt16.toUInt32.toInt32))])) rfl (by rw [hml]; rfl) (argsL := [(.int (((48 : Int32) + vd).toUInt32.toUInt16.toUInt32.toInt32))]) (rest := []) (lenOf own_pd0 rfl) rfl (by show 2 * 0 + _ ≤ _; exact Nat.le_of_eq rfl) (hb hby at_16) (fun _ _ => ⟨rfl, e0, (by decide : 0 + 0 ≤ _), (by decide : 0 + 0 ≤ _)⟩)
  dsimp only [Pt.U, Pt.locs, Pt.cells, Pt.slots] at X2 l2 y2 z2 st2 hQ2
  subst l2 y2 z2
  obtain ⟨rfl, Nq2, eq2⟩ := hQ2
  have N2 := Fr.app N0 Nq2
  obtain ⟨_, _, ⟨T3, L3, k3, n3⟩, -, X3, ⟨Lc3, hQ3, l3, y3, z3⟩, st3⟩ := Jvm.LawKit.callS X2 hx (y := (⟨"com/example/typewright/typewright/cast/ConditionOfFootnotePinLaw", "documented", "(I)Lcom/example/typewright/typewright/cast/CastMatrix$Condition;"⟩ : MethodName)) hown (mvT hZ (hw _ (List.mem_of_getElem? (i := 7) rfl))) (mvT hZ (hw _ (List.mem_of_getElem? (i := 8) rfl))) (mvT hZ (hw _ (List.mem_of_getElem? (i := 9) rfl))) (mvT hZ (hw _ (List.mem_of_getElem? (i := 10) rfl))) (by decide) (backOf (W := 1) (own_rm2 l Z av hw [] vd aNO aCH aSR aYM aDT h0 n0 Z0 S_NONE S_CHILDREN S_SAME_RAW S_YEAR_MONTH_INTERVAL S_DAY_TIME_INTERVAL) hZ (hw _ (List.mem_of_getElem? (i := 10) rfl)) (hw _ (List.mem_of_getElem? (i := 9) rfl)) (by decide) (by decide)) (g := (mkF m 22 #[oi p0, oi vd, oi (((48 : Int32) + vd).toUInt32.toUInt16.toUInt32.toInt32), oa (own_f1 (((48 : Int32) + vd).toUInt32.toUInt16.toUInt32.toInt32) aNO aCH aSR aYM aDT)] [(.int vd), (.ref (own_f1 (((48 : Int32) + vd).toUInt32.toUInt16.toUInt32.toInt32) aNO aCH aSR aYM aDT))])) rfl (by rw [hml]; rfl) (argsL := [(.int vd)]) (rest := [(.ref (own_f1 (((48 : Int32) + vd).toUInt32.toUInt16.toUInt32.toInt32) aNO aCH aSR aYM aDT))]) (lenOf own_pd1 rfl) rfl (by show 2 * 0 + _ ≤ _; exact Nat.le_of_eq rfl) (hb hby at_22) (fun _ _ => ⟨rfl, eq2, (by decide : 0 + 0 ≤ _), (by decide : 0 + 0 ≤ _)⟩)
  dsimp only [Pt.U, Pt.locs, Pt.cells, Pt.slots] at X3 l3 y3 z3 st3 hQ3
  subst l3 y3 z3
  obtain ⟨rfl, Nq3, eq3⟩ := hQ3
  have N3 := Fr.app N2 Nq3
  obtain ⟨T4, X4, e4, st4⟩ := getS2 X3 hx hZ hown (host := "") (Or.inl (hw _ (List.mem_of_getElem? (i := 12) rfl))) Via.refl eq3 S_SAME_INTERVAL_KIND (g := (mkF m 29 #[oi p0, oi vd, oi (((48 : Int32) + vd).toUInt32.toUInt16.toUInt32.toInt32), oa (own_f1 (((48 : Int32) + vd).toUInt32.toUInt16.toUInt32.toInt32) aNO aCH aSR aYM aDT)] [(.ref (own_f1 (((48 : Int32) + vd).toUInt32.toUInt16.toUInt32.toInt32) aNO aCH aSR aYM aDT))])) rfl (hb hby at_29)
  obtain ⟨fs, hr, hrun, hended, hW, hsame⟩ := X4.leave (v := (some (.int (1 : Int32)))) (fun h => by rw [Bd.returns] at h; cases h)
  refine ⟨_, _, pre1 _ ?_, hrun, hended, _, _, rfl, ?_, ⟨_, rfl⟩, hW, hsame.mono (by decide) (by decide)⟩
  · show oS p e below s₁ m 8 #[oi p0, .unset, .unset, .unset] [(.int vd)] _
    refine XS.istoreN X0.here hx rfl (hb hby at_8) rfl (l' := #[oi p0, oi vd, .unset, .unset]) rfl ?_
    show oS p e below s₁ m 9 #[oi p0, oi vd, .unset, .unset] [] _
    refine XS.bipush X0.here hx rfl (hb hby at_9) ?_
    show oS p e below s₁ m 11 #[oi p0, oi vd, .unset, .unset] [(.int (48 : Int32))] _
    refine XS.iloadN X0.here hx rfl (hb hby at_11) rfl ?_
    show oS p e below s₁ m 12 #[oi p0, oi vd, .unset, .unset] [(.int vd), (.int (48 : Int32))] _
    refine XS.iadd X0.here hx rfl (hb hby at_12) rfl ?_
    show oS p e below s₁ m 13 #[oi p0, oi vd, .unset, .unset] [(.int ((48 : Int32) + vd))] _
    refine XS.i2c X0.here hx rfl (hb hby at_13) rfl ?_
    show oS p e below s₁ m 14 #[oi p0, oi vd, .unset, .unset] [(.int (((48 : Int32) + vd).toUInt32.toUInt16.toUInt32.toInt32))] _
    refine XS.istoreN X0.here hx rfl (hb hby at_14) rfl (l' := #[oi p0, oi vd, oi (((48 : Int32) + vd).toUInt32.toUInt16.toUInt32.toInt32), .unset]) rfl ?_
    show oS p e below s₁ m 15 #[oi p0, oi vd, oi (((48 : Int32) + vd).toUInt32.toUInt16.toUInt32.toInt32), .unset] [] _
    refine XS.iloadN X0.here hx rfl (hb hby at_15) rfl ?_
    show oS p e below s₁ m 16 #[oi p0, oi vd, oi (((48 : Int32) + vd).toUInt32.toUInt16.toUInt32.toInt32), .unset] [(.int (((48 : Int32) + vd).toUInt32.toUInt16.toUInt32.toInt32))] _
    refine st2 _ ?_
    show oS p e below T2 m 19 #[oi p0, oi vd, oi (((48 : Int32) + vd).toUInt32.toUInt16.toUInt32.toInt32), .unset] [(.ref (own_f1 (((48 : Int32) + vd).toUInt32.toUInt16.toUInt32.toInt32) aNO aCH aSR aYM aDT))] _
    refine XS.astoreN X2.here hx rfl (hb hby at_19) rfl rfl (l' := #[oi p0, oi vd, oi (((48 : Int32) + vd).toUInt32.toUInt16.toUInt32.toInt32), oa (own_f1 (((48 : Int32) + vd).toUInt32.toUInt16.toUInt32.toInt32) aNO aCH aSR aYM aDT)]) rfl ?_
    show oS p e below T2 m 20 #[oi p0, oi vd, oi (((48 : Int32) + vd).toUInt32.toUInt16.toUInt32.toInt32), oa (own_f1 (((48 : Int32) + vd).toUInt32.toUInt16.toUInt32.toInt32) aNO aCH aSR aYM aDT)] [] _
    refine XS.aloadN X2.here hx rfl (hb hby at_20) rfl rfl ?_
    show oS p e below T2 m 21 #[oi p0, oi vd, oi (((48 : Int32) + vd).toUInt32.toUInt16.toUInt32.toInt32), oa (own_f1 (((48 : Int32) + vd).toUInt32.toUInt16.toUInt32.toInt32) aNO aCH aSR aYM aDT)] [(.ref (own_f1 (((48 : Int32) + vd).toUInt32.toUInt16.toUInt32.toInt32) aNO aCH aSR aYM aDT))] _
    refine XS.iloadN X2.here hx rfl (hb hby at_21) rfl ?_
    show oS p e below T2 m 22 #[oi p0, oi vd, oi (((48 : Int32) + vd).toUInt32.toUInt16.toUInt32.toInt32), oa (own_f1 (((48 : Int32) + vd).toUInt32.toUInt16.toUInt32.toInt32) aNO aCH aSR aYM aDT)] [(.int vd), (.ref (own_f1 (((48 : Int32) + vd).toUInt32.toUInt16.toUInt32.toInt32) aNO aCH aSR aYM aDT))] _
    refine st3 _ ?_
    show oS p e below T3 m 25 #[oi p0, oi vd, oi (((48 : Int32) + vd).toUInt32.toUInt16.toUInt32.toInt32), oa (own_f1 (((48 : Int32) + vd).toUInt32.toUInt16.toUInt32.toInt32) aNO aCH aSR aYM aDT)] [(.ref (own_f2 vd aNO aCH aSR aYM aDT)), (.ref (own_f1 (((48 : Int32) + vd).toUInt32.toUInt16.toUInt32.toInt32) aNO aCH aSR aYM aDT))] _
    refine Jvm.RoadKit.acmp (g := (mkF m 25 #[oi p0, oi vd, oi (((48 : Int32) + vd).toUInt32.toUInt16.toUInt32.toInt32), oa (own_f1 (((48 : Int32) + vd).toUInt32.toUInt16.toUInt32.toInt32) aNO aCH aSR aYM aDT)] [(.ref (own_f2 vd aNO aCH aSR aYM aDT)), (.ref (own_f1 (((48 : Int32) + vd).toUInt32.toUInt16.toUInt32.toInt32) aNO aCH aSR aYM aDT))])) X3 hx rfl rfl rfl (pc0 := 25) (pc' := 28) (same := true) rfl (hb hby at_25) rfl (decide_eq_true (congrArg Value.ref (own_eq rv))) (by decide) (by decide) ?_
    show oS p e below T3 m 28 #[oi p0, oi vd, oi (((48 : Int32) + vd).toUInt32.toUInt16.toUInt32.toInt32), oa (own_f1 (((48 : Int32) + vd).toUInt32.toUInt16.toUInt32.toInt32) aNO aCH aSR aYM aDT)] [] _
    refine XS.aloadN X3.here hx rfl (hb hby at_28) rfl rfl ?_
    show oS p e below T3 m 29 #[oi p0, oi vd, oi (((48 : Int32) + vd).toUInt32.toUInt16.toUInt32.toInt32), oa (own_f1 (((48 : Int32) + vd).toUInt32.toUInt16.toUInt32.toInt32) aNO aCH aSR aYM aDT)] [(.ref (own_f1 (((48 : Int32) + vd).toUInt32.toUInt16.toUInt32.toInt32) aNO aCH aSR aYM aDT))] _
    refine st4 _ ?_
    show oS p e below T4 m 32 #[oi p0, oi vd, oi (((48 : Int32) + vd).toUInt32.toUInt16.toUInt32.toInt32), oa (own_f1 (((48 : Int32) + vd).toUInt32.toUInt16.toUInt32.toInt32) aNO aCH aSR aYM aDT)] [(.ref aSK), (.ref (own_f1 (((48 : Int32) + vd).toUInt32.toUInt16.toUInt32.toInt32) aNO aCH aSR aYM aDT))] _
    refine Jvm.RoadKit.acmp (g := (mkF m 32 #[oi p0, oi vd, oi (((48 : Int32) + vd).toUInt32.toUInt16.toUInt32.toInt32), oa (own_f1 (((48 : Int32) + vd).toUInt32.toUInt16.toUInt32.toInt32) aNO aCH aSR aYM aDT)] [(.ref aSK), (.ref (own_f1 (((48 : Int32) + vd).toUInt32.toUInt16.toUInt32.toInt32) aNO aCH aSR aYM aDT))])) X4 hx rfl rfl rfl (pc0 := 32) (pc' := 35) (same := false) rfl (hb hby at_32) rfl (decide_eq_false fun q => own_ne n1 n2 n3 n4 n5 (Value.ref.inj q)) (by decide) (by decide) ?_
    show oS p e below T4 m 35 #[oi p0, oi vd, oi (((48 : Int32) + vd).toUInt32.toUInt16.toUInt32.toInt32), oa (own_f1 (((48 : Int32) + vd).toUInt32.toUInt16.toUInt32.toInt32) aNO aCH aSR aYM aDT)] [] _
    refine XS.iconst X4.here hx rfl (hb hby at_35) ?_
    show oS p e below T4 m 36 #[oi p0, oi vd, oi (((48 : Int32) + vd).toUInt32.toUInt16.toUInt32.toInt32), oa (own_f1 (((48 : Int32) + vd).toUInt32.toUInt16.toUInt32.toInt32) aNO aCH aSR aYM aDT)] [(.int (1 : Int32))] _
    refine XS.goto X4.here hx rfl (pc0 := 36) (pc' := 40) rfl (hb hby at_36) (by decide) (by decide) ?_
    show oS p e below T4 m 40 #[oi p0, oi vd, oi (((48 : Int32) + vd).toUInt32.toUInt16.toUInt32.toInt32), oa (own_f1 (((48 : Int32) + vd).toUInt32.toUInt16.toUInt32.toInt32) aNO aCH aSR aYM aDT)] [(.int (1 : Int32))] _
    exact retN X4 hx (t := .boolean) Bd.returns (by simp) (hb hby at_40) hr
  · show own_Q0 Z p0 aNO aCH aSR aYM aDT aSK h0 n0 _ T4.heap _
    rw [e4]
    exact ⟨rfl, N3⟩
set_option maxRecDepth 65536 in
set_option maxHeartbeats 40000000 in
theorem own_comes {Post : Tables → Env → Array Value → State → Outcome → State → Prop} (hpost : ∀ tb e args s v u, (limb_1_1.after args s (.returned v) u = true ∧ limb_1_2.after args s (.returned v) u = true ∧ True) → FrameEnd s (.returned v) u (Jvm.fieldLocs frame_1_writes args s ++ Jvm.arrayLocs frame_1_arrays args s ++ Jvm.staticLocs frame_1_statics s) 0 0 → Post tb e args s (.returned v) u) :
    ArmFor flags0 classFile x code maxLocals ret World_1 tables_1 room_1 Calls_1 rest_1 Pre_1 Post := by
  intro l hfl _ _ p e ha hc hk s m args below hf hA hF happ hP
  obtain ⟨hcalls, hrest, hpre⟩ := hP
  obtain ⟨-, -, -, hnamed, -, -, -, hat⟩ := (Spec.applies_iff hf).mp happ
  obtain ⟨hg, hn⟩ := and_e (Cond.before_iff.mp (show (Jvm.Cond.and given_1 narrow_1).before args s = true from hpre))
  obtain ⟨gv1, gv2⟩ := and_e hg
  obtain ⟨w0, rfl⟩ : ∃ w0 : Value, args = #[w0] := by
    have hs : args.size = 1 := by simpa [Cond.value, given_1] using gv1
    obtain ⟨L⟩ := args
    match L, hs with
    | [w0], _ => exact ⟨w0, rfl⟩
  have hw := fun d (hd : d ∈ tables_1) => atoms_spec (ws := Jvm.Cond.code x code maxLocals ret :: tables_1) hat d (List.mem_cons_of_mem _ hd)
  have hfit : Fit s := fun {y c} hc i hi => by
    obtain ⟨ha, rfl⟩ := Array.getElem?_eq_some_iff.mp hc
    have q := List.all_eq_true.mp ((Array.all_eq_true_iff_forall_mem.mp hF) _ (Array.getElem_mem ha)) i (List.mem_range.mpr hi)
    simpa [Array.getElem?_eq_getElem hi] using q
  obtain ⟨i0, ei0⟩ := is_v gv2
  obtain rfl : w0 = (.int i0) := Option.some.inj ei0
  obtain ⟨na1, na2⟩ := and_e hn
  obtain ⟨na3, na4⟩ := and_e na2
  obtain ⟨na5, na6⟩ := and_e na4
  obtain ⟨na7, na8⟩ := and_e na6
  obtain ⟨na9, na10⟩ := and_e na8
  obtain ⟨na11, na12⟩ := and_e na10
  obtain ⟨na13, na14⟩ := and_e na12
  obtain ⟨na15, na16⟩ := and_e na14
  obtain ⟨na17, na18⟩ := and_e na16
  obtain ⟨na19, na20⟩ := and_e na18
  obtain ⟨na21, na22⟩ := and_e na20
  obtain ⟨aNO, ev_aNO⟩ := exa_v na1
  have E_aNO : Exa s s.heap aNO "com/example/typewright/typewright/cast/CastMatrix$Condition" := Exa.start ev_aNO na1
  have S_NONE : Sta s s.heap "com/example/typewright/typewright/cast/CastMatrix$Condition" "NONE" "Lcom/example/typewright/typewright/cast/CastMatrix$Condition;" (.ref aNO) := Sta.start ev_aNO (Or.inr ⟨(hw _ (List.mem_of_getElem? (i := 3) rfl)), (hw _ (List.mem_of_getElem? (i := 6) rfl))⟩)
  obtain ⟨aSK, ev_aSK⟩ := exa_v na3
  have E_aSK : Exa s s.heap aSK "com/example/typewright/typewright/cast/CastMatrix$Condition" := Exa.start ev_aSK na3
  have S_SAME_INTERVAL_KIND : Sta s s.heap "com/example/typewright/typewright/cast/CastMatrix$Condition" "SAME_INTERVAL_KIND" "Lcom/example/typewright/typewright/cast/CastMatrix$Condition;" (.ref aSK) := Sta.start ev_aSK (Or.inr ⟨(hw _ (List.mem_of_getElem? (i := 3) rfl)), (hw _ (List.mem_of_getElem? (i := 13) rfl))⟩)
  obtain ⟨aYM, ev_aYM⟩ := exa_v na9
  have E_aYM : Exa s s.heap aYM "com/example/typewright/typewright/cast/CastMatrix$Condition" := Exa.start ev_aYM na9
  have S_YEAR_MONTH_INTERVAL : Sta s s.heap "com/example/typewright/typewright/cast/CastMatrix$Condition" "YEAR_MONTH_INTERVAL" "Lcom/example/typewright/typewright/cast/CastMatrix$Condition;" (.ref aYM) := Sta.start ev_aYM (Or.inr ⟨(hw _ (List.mem_of_getElem? (i := 3) rfl)), (hw _ (List.mem_of_getElem? (i := 15) rfl))⟩)
  obtain ⟨aCH, ev_aCH⟩ := exa_v na13
  have E_aCH : Exa s s.heap aCH "com/example/typewright/typewright/cast/CastMatrix$Condition" := Exa.start ev_aCH na13
  have S_CHILDREN : Sta s s.heap "com/example/typewright/typewright/cast/CastMatrix$Condition" "CHILDREN" "Lcom/example/typewright/typewright/cast/CastMatrix$Condition;" (.ref aCH) := Sta.start ev_aCH (Or.inr ⟨(hw _ (List.mem_of_getElem? (i := 3) rfl)), (hw _ (List.mem_of_getElem? (i := 18) rfl))⟩)
  obtain ⟨aDT, ev_aDT⟩ := exa_v na17
  have E_aDT : Exa s s.heap aDT "com/example/typewright/typewright/cast/CastMatrix$Condition" := Exa.start ev_aDT na17
  have S_DAY_TIME_INTERVAL : Sta s s.heap "com/example/typewright/typewright/cast/CastMatrix$Condition" "DAY_TIME_INTERVAL" "Lcom/example/typewright/typewright/cast/CastMatrix$Condition;" (.ref aDT) := Sta.start ev_aDT (Or.inr ⟨(hw _ (List.mem_of_getElem? (i := 3) rfl)), (hw _ (List.mem_of_getElem? (i := 21) rfl))⟩)
  obtain ⟨aSR, ev_aSR⟩ := exa_v na21
  have E_aSR : Exa s s.heap aSR "com/example/typewright/typewright/cast/CastMatrix$Condition" := Exa.start ev_aSR na21
  have S_SAME_RAW : Sta s s.heap "com/example/typewright/typewright/cast/CastMatrix$Condition" "SAME_RAW" "Lcom/example/typewright/typewright/cast/CastMatrix$Condition;" (.ref aSR) := Sta.start ev_aSR (Or.inr ⟨(hw _ (List.mem_of_getElem? (i := 3) rfl)), (hw _ (List.mem_of_getElem? (i := 24) rfl))⟩)
  have O_aNO : Fld s s.heap aNO "java/lang/Enum" "ordinal" "I" (.int (0 : Int32)) := Fld.start ((fld_at ev_aNO).symm.trans (own_eqI na5))
  have O_aSK : Fld s s.heap aSK "java/lang/Enum" "ordinal" "I" (.int (5 : Int32)) := Fld.start ((fld_at ev_aSK).symm.trans (own_eqI na7))
  have O_aYM : Fld s s.heap aYM "java/lang/Enum" "ordinal" "I" (.int (3 : Int32)) := Fld.start ((fld_at ev_aYM).symm.trans (own_eqI na11))
  have O_aCH : Fld s s.heap aCH "java/lang/Enum" "ordinal" "I" (.int (1 : Int32)) := Fld.start ((fld_at ev_aCH).symm.trans (own_eqI na15))
  have O_aDT : Fld s s.heap aDT "java/lang/Enum" "ordinal" "I" (.int (4 : Int32)) := Fld.start ((fld_at ev_aDT).symm.trans (own_eqI na19))
  have O_aSR : Fld s s.heap aSR "java/lang/Enum" "ordinal" "I" (.int (2 : Int32)) := Fld.start ((fld_at ev_aSR).symm.trans (own_eqI na22))
  obtain ⟨n, o, h1, h2, h3, _, L, rfl, ⟨rfl, N⟩, hq⟩ := own_rm0 l s _ hw tables_1 i0 aNO aCH aSR aYM aDT aSK s.heap s.heap.size (Nat.le_refl _) S_NONE S_CHILDREN S_SAME_RAW S_YEAR_MONTH_INTERVAL S_DAY_TIME_INTERVAL S_SAME_INTERVAL_KIND (Fld.ne O_aNO O_aSK (by decide)) (Fld.ne O_aCH O_aSK (by decide)) (Fld.ne O_aSR O_aSK (by decide)) (Fld.ne O_aYM O_aSK (by decide)) (Fld.ne O_aDT O_aSK (by decide)) p e ha hc hk s m _ below hf ((Spec.applies_iff_loose hf).mp happ).1 ⟨rfl, State.Warmed39.refl s, rfl⟩ trivial
  refine ⟨n, _, h1, h2, h3, hpost _ _ _ _ _ _ ⟨Cond.after_iff.mpr rfl, Cond.after_iff.mpr (eq_i res_at (Term.int_eval (1)) rfl), trivial⟩ ⟨hq.1, hq.2.1, (hq.2.2.sift fun y hy => Or.inr (N y hy)).mono (by decide) (by decide)⟩⟩
theorem main_1_1 : Claimed_1_1 := own_comes fun _ _ _ _ _ _ h hF => ⟨h.1, hF⟩
theorem main_1_2 : Claimed_1_2 := own_comes fun _ _ _ _ _ _ h hF => ⟨h.2.1, hF⟩
end Jvm.Pilot.@@N@@
namespace Jvm.Pilot.@@N@@
open Jvm Jvm.ClassFile Sem Op Lib Jvm.Free Jvm.Stand Jvm.Pilot.@@N@@.Jvm.D
/-! MADE BY PROGRAM (witnessworld.py) out of the Statement's table words and the real class files: 12 classes; the members and pool entries that the words name. The judged class is class 1, her method 2. -/
namespace start1
open Jvm.ClassFile
def u (s : String) : CpInfo := .utf8 (stringToUtf16 s)
/-- a pool by its gaps: so many unusable entries, then the entry; so many at the end -/
def gap : Nat → List CpInfo → List CpInfo
  | 0, r => r
  | n + 1, r => .unusable :: gap n r
def poolList (es : List (Nat × CpInfo)) (last : Nat) : List CpInfo := es.foldr (fun e r => gap e.1 (e.2 :: r)) (gap last [])
def pool (es : List (Nat × CpInfo)) (last : Nat) : Array CpInfo := ⟨poolList es last⟩
def fileOf (pool : Array CpInfo) (this : Nat) (attrs : Array Attribute := #[]) (ms : Array MethodInfo := #[]) (fl : Nat := 33) (sup : Nat := 0) (ifs : Array Nat := #[]) (fds : Array FieldInfo := #[]) : ClassFile where
  minorVersion := 0
  majorVersion := 65
  constantPool := pool
  accessFlags := fl
  thisClass := this
  superClass := sup
  interfaces := ifs
  fields := fds
  methods := ms
  attributes := attrs
def plain (name : String) (sup : Option ClassId) : Class where
  name := name
  kind := .ordinary
  loader := none
  accessFlags := 33
  super := sup
  interfaces := #[]
  cf := none
  fields := #[]
  methods := #[]
  instanceTypes := #[]
  staticTypes := #[]
  resolved := #[]
  callSites := []
  init := .initialized
  statics := none
  mirror := none

def pool0 : Array CpInfo := pool [(5, u "<init>"), (0, u "()V"), (1, .class_ 10), (1, u "java/lang/Object")] 113

def k0m0 : Method := { name := "<init>", desc := "()V", sig := { parameters := [], returnType := none }, accessFlags := 1, code := none }
/-- java/lang/Object -/
def k0 : Class := { plain "java/lang/Object" none with
  accessFlags := 33
  interfaces := #[]
  cf := some (fileOf pool0 8 #[] #[{ accessFlags := 1, nameIndex := 5, descriptorIndex := 6, attributes := #[] }] 33 0 #[] #[])
  fields := #[]
  methods := #[k0m0]
  instanceTypes := #[]
  staticTypes := #[]
  resolved := Array.replicate 124 none
  statics := none }

def pool1 : Array CpInfo := pool [(2, .class_ 4), (1, u "java/lang/Object"), (0, u "<init>"), (0, u "()V"), (0, .fieldref 8 9), (0, .class_ 10), (0, .nameAndType 11 12), (0, u "com/example/typewright/typewright/cast/CastMatrix$Condition"), (0, u "NONE"), (0, u "Lcom/example/typewright/typewright/cast/CastMatrix$Condition;"), (0, .fieldref 8 14), (0, .nameAndType 15 12), (0, u "CHILDREN"), (0, .fieldref 8 17), (0, .nameAndType 18 12), (0, u "SAME_RAW"), (0, .fieldref 8 20), (0, .nameAndType 21 12), (0, u "YEAR_MONTH_INTERVAL"), (0, .fieldref 8 23), (0, .nameAndType 24 12), (0, u "DAY_TIME_INTERVAL"), (0, .integer 2147483647), (0, .methodref 8 27), (0, .nameAndType 28 29), (0, u "ofFootnote"), (0, u "(C)Lcom/example/typewright/typewright/cast/CastMatrix$Condition;"), (0, .methodref 31 32), (0, .class_ 33), (0, .nameAndType 34 35), (0, u "com/example/typewright/typewright/cast/ConditionOfFootnotePinLaw"), (0, u "documented"), (0, u "(I)Lcom/example/typewright/typewright/cast/CastMatrix$Condition;"), (0, .fieldref 8 37), (0, .nameAndType 38 12), (0, u "SAME_INTERVAL_KIND"), (3, u "law"), (0, u "(I)Z")] 6

def k1m0 : Method := { name := "<init>", desc := "()V", sig := { parameters := [], returnType := none }, accessFlags := 2, code := none }
def k1c1 : Code := { maxStack := 2, maxLocals := 2, code := method_2_code, exceptionTable := #[], attributes := #[] }
def k1m1 : Method := { name := "documented", desc := "(I)Lcom/example/typewright/typewright/cast/CastMatrix$Condition;", sig := { parameters := [.int], returnType := some (.object "com/example/typewright/typewright/cast/CastMatrix$Condition") }, accessFlags := 10, code := some k1c1 }
def k1c2 : Code := { maxStack := 3, maxLocals := 4, code := code, exceptionTable := #[], attributes := #[] }
def k1m2 : Method := { name := "law", desc := "(I)Z", sig := { parameters := [.int], returnType := some .boolean }, accessFlags := 9, code := some k1c2 }
/-- com/example/typewright/typewright/cast/ConditionOfFootnotePinLaw -/
def k1 : Class := { plain "com/example/typewright/typewright/cast/ConditionOfFootnotePinLaw" (some 0) with
  accessFlags := 49
  interfaces := #[]
  cf := some (fileOf pool1 31 #[] #[{ accessFlags := 2, nameIndex := 5, descriptorIndex := 6, attributes := #[] }, { accessFlags := 10, nameIndex := 34, descriptorIndex := 35, attributes := #[] }, { accessFlags := 9, nameIndex := 42, descriptorIndex := 43, attributes := #[] }] 49 2 #[] #[])
  fields := #[]
  methods := #[k1m0, k1m1, k1m2]
  instanceTypes := #[]
  staticTypes := #[]
  resolved := Array.replicate 50 none
  statics := none }

def pool2 : Array CpInfo := pool [(1, .class_ 2), (0, u "java/lang/constant/Constable"), (0, .class_ 4), (0, u "java/lang/Object")] 6

/-- java/lang/constant/Constable -/
def k2 : Class := { plain "java/lang/constant/Constable" (some 0) with
  accessFlags := 1537
  interfaces := #[]
  cf := some (fileOf pool2 1 #[] #[] 1537 3 #[] #[])
  fields := #[]
  methods := #[]
  instanceTypes := #[]
  staticTypes := #[]
  resolved := Array.replicate 11 none
  statics := none }

def pool3 : Array CpInfo := pool [(1, .class_ 2), (0, u "java/lang/Comparable"), (0, .class_ 4), (0, u "java/lang/Object")] 7

/-- java/lang/Comparable -/
def k3 : Class := { plain "java/lang/Comparable" (some 0) with
  accessFlags := 1537
  interfaces := #[]
  cf := some (fileOf pool3 1 #[] #[] 1537 3 #[] #[])
  fields := #[]
  methods := #[]
  instanceTypes := #[]
  staticTypes := #[]
  resolved := Array.replicate 12 none
  statics := none }

def pool4 : Array CpInfo := pool [(1, .class_ 2), (0, u "java/io/Serializable"), (0, .class_ 4), (0, u "java/lang/Object")] 2

/-- java/io/Serializable -/
def k4 : Class := { plain "java/io/Serializable" (some 0) with
  accessFlags := 1537
  interfaces := #[]
  cf := some (fileOf pool4 1 #[] #[] 1537 3 #[] #[])
  fields := #[]
  methods := #[]
  instanceTypes := #[]
  staticTypes := #[]
  resolved := Array.replicate 7 none
  statics := none }

def pool5 : Array CpInfo := pool [(2, .class_ 4), (1, u "java/lang/Enum"), (0, u "name"), (0, u "Ljava/lang/String;"), (2, u "ordinal"), (0, u "I"), (1, .class_ 14), (1, u "java/lang/Object"), (4, u "hash"), (86, .class_ 108), (1, u "java/lang/Enum$EnumDesc"), (2, .class_ 112), (0, u "java/lang/constant/Constable"), (0, .class_ 114), (0, u "java/lang/Comparable"), (0, .class_ 116), (0, u "java/io/Serializable")] 87

/-- java/lang/Enum -/
def k5 : Class := { plain "java/lang/Enum" (some 0) with
  accessFlags := 1057
  interfaces := #[2, 3, 4]
  cf := some (fileOf pool5 2 #[.nestMembers #[106]] #[] 1057 12 #[111, 113, 115] #[{ accessFlags := 18, nameIndex := 5, descriptorIndex := 6, attributes := #[] }, { accessFlags := 18, nameIndex := 9, descriptorIndex := 10, attributes := #[] }, { accessFlags := 2, nameIndex := 19, descriptorIndex := 10, attributes := #[] }])
  fields := #[{ name := "name", type := (.object "java/lang/String"), accessFlags := 18, slot := 0, constantValue := 0 }, { name := "ordinal", type := .int, accessFlags := 18, slot := 1, constantValue := 0 }, { name := "hash", type := .int, accessFlags := 2, slot := 2, constantValue := 0 }]
  methods := #[]
  instanceTypes := #[(.object "java/lang/String"), .int, .int]
  staticTypes := #[]
  resolved := Array.replicate 204 none
  statics := none }

def pool6 : Array CpInfo := pool [(1, .class_ 2), (0, u "com/example/typewright/typewright/cast/CastMatrix$Condition"), (0, .fieldref 1 4), (0, .nameAndType 5 6), (0, u "NONE"), (0, u "Lcom/example/typewright/typewright/cast/CastMatrix$Condition;"), (0, .fieldref 1 8), (0, .nameAndType 9 6), (0, u "CHILDREN"), (0, .fieldref 1 11), (0, .nameAndType 12 6), (0, u "SAME_RAW"), (0, .fieldref 1 14), (0, .nameAndType 15 6), (0, u "YEAR_MONTH_INTERVAL"), (0, .fieldref 1 17), (0, .nameAndType 18 6), (0, u "DAY_TIME_INTERVAL"), (2, u "SAME_INTERVAL_KIND"), (2, u "$VALUES"), (0, u "[Lcom/example/typewright/typewright/cast/CastMatrix$Condition;"), (6, .class_ 34), (1, u "java/lang/Enum"), (74, u "ofFootnote"), (0, u "(C)Lcom/example/typewright/typewright/cast/CastMatrix$Condition;"), (8, .class_ 120), (0, u "com/example/typewright/typewright/cast/CastMatrix")] 16

def k6c0 : Code := { maxStack := 3, maxLocals := 1, code := prog_6_method_4_code, exceptionTable := #[], attributes := #[] }
def k6m0 : Method := { name := "ofFootnote", desc := "(C)Lcom/example/typewright/typewright/cast/CastMatrix$Condition;", sig := { parameters := [.char], returnType := some (.object "com/example/typewright/typewright/cast/CastMatrix$Condition") }, accessFlags := 8, code := some k6c0 }
/-- com/example/typewright/typewright/cast/CastMatrix$Condition -/
def k6 : Class := { plain "com/example/typewright/typewright/cast/CastMatrix$Condition" (some 5) with
  accessFlags := 16432
  interfaces := #[]
  cf := some (fileOf pool6 1 #[.nestHost 119] #[{ accessFlags := 8, nameIndex := 109, descriptorIndex := 110, attributes := #[] }] 16432 32 #[] #[{ accessFlags := 16409, nameIndex := 5, descriptorIndex := 6, attributes := #[] }, { accessFlags := 16409, nameIndex := 9, descriptorIndex := 6, attributes := #[] }, { accessFlags := 16409, nameIndex := 12, descriptorIndex := 6, attributes := #[] }, { accessFlags := 16409, nameIndex := 15, descriptorIndex := 6, attributes := #[] }, { accessFlags := 16409, nameIndex := 18, descriptorIndex := 6, attributes := #[] }, { accessFlags := 16409, nameIndex := 21, descriptorIndex := 6, attributes := #[] }, { accessFlags := 4122, nameIndex := 24, descriptorIndex := 25, attributes := #[] }])
  fields := #[{ name := "NONE", type := (.object "com/example/typewright/typewright/cast/CastMatrix$Condition"), accessFlags := 16409, slot := 0, constantValue := 0 }, { name := "CHILDREN", type := (.object "com/example/typewright/typewright/cast/CastMatrix$Condition"), accessFlags := 16409, slot := 1, constantValue := 0 }, { name := "SAME_RAW", type := (.object "com/example/typewright/typewright/cast/CastMatrix$Condition"), accessFlags := 16409, slot := 2, constantValue := 0 }, { name := "YEAR_MONTH_INTERVAL", type := (.object "com/example/typewright/typewright/cast/CastMatrix$Condition"), accessFlags := 16409, slot := 3, constantValue := 0 }, { name := "DAY_TIME_INTERVAL", type := (.object "com/example/typewright/typewright/cast/CastMatrix$Condition"), accessFlags := 16409, slot := 4, constantValue := 0 }, { name := "SAME_INTERVAL_KIND", type := (.object "com/example/typewright/typewright/cast/CastMatrix$Condition"), accessFlags := 16409, slot := 5, constantValue := 0 }, { name := "$VALUES", type := (.array (.object "com/example/typewright/typewright/cast/CastMatrix$Condition")), accessFlags := 4122, slot := 6, constantValue := 0 }]
  methods := #[k6m0]
  instanceTypes := #[(.object "java/lang/String"), .int, .int]
  staticTypes := #[(.object "com/example/typewright/typewright/cast/CastMatrix$Condition"), (.object "com/example/typewright/typewright/cast/CastMatrix$Condition"), (.object "com/example/typewright/typewright/cast/CastMatrix$Condition"), (.object "com/example/typewright/typewright/cast/CastMatrix$Condition"), (.object "com/example/typewright/typewright/cast/CastMatrix$Condition"), (.object "com/example/typewright/typewright/cast/CastMatrix$Condition"), (.array (.object "com/example/typewright/typewright/cast/CastMatrix$Condition"))]
  resolved := Array.replicate 137 none
  statics := some 0 }

def pool7 : Array CpInfo := pool [(1, u "java/lang/Cloneable"), (0, .class_ 1), (0, u "java/lang/Object"), (0, .class_ 3)] 3

/-- java/lang/Cloneable -/
def k7 : Class := { plain "java/lang/Cloneable" (some 0) with
  accessFlags := 1537
  interfaces := #[]
  cf := some (fileOf pool7 2 #[] #[] 1537 4 #[] #[])
  fields := #[]
  methods := #[]
  instanceTypes := #[]
  staticTypes := #[]
  resolved := Array.replicate 8 none
  statics := none }

/-- the primitive byte -/
def k8 : Class := { plain "byte" none with kind := .primitive 'B', accessFlags := 0x411 }
/-- [B -/
def k9 : Class := { plain "[B" (some 0) with kind := .array 8 .byte, interfaces := #[7, 4], accessFlags := 1041 }

/-- the primitive int -/
def k10 : Class := { plain "int" none with kind := .primitive 'I', accessFlags := 0x411 }
/-- [I -/
def k11 : Class := { plain "[I" (some 0) with kind := .array 10 .int, interfaces := #[7, 4], accessFlags := 1041 }

def heap : Heap := #[{ cls := 6, slots := #[.ref 1, .ref 2, .ref 3, .ref 4, .ref 5, .ref 6, .null], vm := .statics 6 },
  { cls := 6, slots := #[.null, .int 0, .int 0], vm := .none },
  { cls := 6, slots := #[.null, .int 1, .int 0], vm := .none },
  { cls := 6, slots := #[.null, .int 2, .int 0], vm := .none },
  { cls := 6, slots := #[.null, .int 3, .int 0], vm := .none },
  { cls := 6, slots := #[.null, .int 4, .int 0], vm := .none },
  { cls := 6, slots := #[.null, .int 5, .int 0], vm := .none }]
def classes : Array Class := #[k0, k1, k2, k3, k4, k5, k6, k7, k8, k9, k10, k11]
def interned : List (Array UInt16 × Addr) := []
def slotsUsed : Nat := 25
def theMethod : MethodId := ⟨1, 2⟩
def args0 : Array Value := #[.int 5]
def aboutOver (below : List Frame) : State where
  vm := { classes := classes, interned := interned.toArray }
  heap := heap
  slotsUsed := slotsUsed
  threads := #[{ frames := .invoking theMethod args0 :: below }]
def below0 : List Frame := [.native { method := ⟨0, 0⟩, args := #[] }]
def about1 : State := aboutOver below0
def p0 : Program := .bare "" "" ""
def e0 : Env := launch0.env 0 0 0
theorem w_frames : about1.frames = Frame.invoking theMethod args0 :: below0 := rfl
set_option maxRecDepth 65536 in
theorem w_args : argsFit about1.vm theMethod args0 = true := by decide +kernel
set_option maxRecDepth 65536 in
theorem w_heap : heapFits about1 = true := by decide +kernel
set_option maxRecDepth 65536 in
theorem w_runnable : about1.curStatus? = some .runnable := by decide +kernel
set_option maxRecDepth 65536 in
theorem w_alone : about1.alone = true := by decide +kernel
set_option maxRecDepth 65536 in
theorem w_named : about1.methodNamed? x = some theMethod := by decide +kernel
set_option maxRecDepth 65536 in
theorem w_hears : about1.hears theMethod below0 = true := by decide +kernel
set_option maxRecDepth 65536 in
theorem w_ripe : about1.ripe theMethod args0 below0 = true := by decide +kernel
theorem w_running : about1.status = .running := rfl
set_option maxRecDepth 65536 in
theorem w_room : about1.hasRoom e0.platform room_1 = true :=
  launch0.hasRoom_least _ room_1 (by decide +kernel) (by decide +kernel) (by decide +kernel) (by decide +kernel) (by decide +kernel) (by decide +kernel)
theorem allAtoms_all (ts : List Jvm.Cond) (a : Array Jvm.Value) (st : Jvm.State) : (allAtoms ts).before a st = ts.all (fun c => c.before a st) := by
  induction ts with
  | nil => rfl
  | cons c t ih =>
    show (Jvm.Cond.and c (allAtoms t)).before a st = _
    rw [Jvm.Cond.before_and, ih, List.all_cons]
def words1 : List Jvm.Cond := Jvm.Cond.code x code maxLocals ret :: tables_1
/-- a 'code' word, met by the world's own term for the bytes: nothing is compared byte by byte -/
theorem code_word {y : MethodName} {bytes : ByteArray} {mx : Nat} {rt : Option FieldType} {a : Array Value} {s : State} {m : MethodId} {meth : Method} {c : Code} (h1 : s.methodNamed? y = some m) (h2 : s.vm.method? m = some meth) (h3 : meth.code = some c) (h4 : c.code = bytes)
    (h5 : (c.maxLocals == mx && c.exceptionTable.isEmpty && decide (c.maxStack ≤ mostOperands) && decide (meth.sig.returnType = rt) && !meth.locks && decide (parseMethodDescriptor y.desc = some meth.sig)) = true) : (Jvm.Cond.code y bytes mx rt).before a s = true := by
  simp only [Bool.and_eq_true, beq_iff_eq, Bool.not_eq_true', decide_eq_true_eq] at h5
  obtain ⟨⟨⟨⟨⟨g1, g2⟩, g3⟩, g4⟩, g5⟩, g6⟩ := h5
  simp [Cond.before, Cond.holds, Cond.value, h1, h2, h3, h4, g1, g2, g3, g4, g5, g6]
def isCode : Jvm.Cond → Bool
  | .code _ _ _ _ => true
  | _ => false
theorem all_split {L : List Jvm.Cond} {P : Jvm.Cond → Bool} (h1 : L.all (fun c => isCode c || P c) = true) (h2 : ∀ c ∈ L.filter isCode, P c = true) : L.all P = true := by
  refine List.all_eq_true.mpr fun c hc => ?_
  have h := List.all_eq_true.mp h1 c hc
  rcases Bool.eq_false_or_eq_true (isCode c) with hi | hi
  · exact h2 c (List.mem_filter.mpr ⟨hc, hi⟩)
  · simpa [hi] using h
set_option maxRecDepth 65536 in
theorem w_c0 : (Jvm.Cond.code x code maxLocals ret).before args0 about1 = true := code_word (m := ⟨1, 2⟩) (meth := k1m2) (c := k1c2) (by decide +kernel) rfl rfl rfl (by decide +kernel)
set_option maxRecDepth 65536 in
theorem w_c1 : (Jvm.Cond.code ({ cls := "com/example/typewright/typewright/cast/CastMatrix$Condition", name := "ofFootnote", desc := "(C)Lcom/example/typewright/typewright/cast/CastMatrix$Condition;" } : Jvm.MethodName) prog_6_method_4_code (1 : Nat) (Option.some (Jvm.ClassFile.FieldType.object "com/example/typewright/typewright/cast/CastMatrix$Condition"))).before args0 about1 = true := code_word (m := ⟨6, 0⟩) (meth := k6m0) (c := k6c0) (by decide +kernel) rfl rfl rfl (by decide +kernel)
set_option maxRecDepth 65536 in
theorem w_c2 : (Jvm.Cond.code ({ cls := "com/example/typewright/typewright/cast/ConditionOfFootnotePinLaw", name := "documented", desc := "(I)Lcom/example/typewright/typewright/cast/CastMatrix$Condition;" } : Jvm.MethodName) method_2_code (2 : Nat) (Option.some (Jvm.ClassFile.FieldType.object "com/example/typewright/typewright/cast/CastMatrix$Condition"))).before args0 about1 = true := code_word (m := ⟨1, 1⟩) (meth := k1m1) (c := k1c1) (by decide +kernel) rfl rfl rfl (by decide +kernel)
def codes1 : List Jvm.Cond := [Jvm.Cond.code x code maxLocals ret, Jvm.Cond.code ({ cls := "com/example/typewright/typewright/cast/CastMatrix$Condition", name := "ofFootnote", desc := "(C)Lcom/example/typewright/typewright/cast/CastMatrix$Condition;" } : Jvm.MethodName) prog_6_method_4_code (1 : Nat) (Option.some (Jvm.ClassFile.FieldType.object "com/example/typewright/typewright/cast/CastMatrix$Condition")), Jvm.Cond.code ({ cls := "com/example/typewright/typewright/cast/ConditionOfFootnotePinLaw", name := "documented", desc := "(I)Lcom/example/typewright/typewright/cast/CastMatrix$Condition;" } : Jvm.MethodName) method_2_code (2 : Nat) (Option.some (Jvm.ClassFile.FieldType.object "com/example/typewright/typewright/cast/CastMatrix$Condition"))]
set_option maxRecDepth 65536 in
theorem codes_eq : words1.filter isCode = codes1 := rfl
theorem w_codes : ∀ c ∈ words1.filter isCode, c.before args0 about1 = true := by
  rw [codes_eq]
  intro c hc
  simp only [codes1, List.mem_cons, List.not_mem_nil, or_false] at hc
  rcases hc with rfl | rfl | rfl
  · exact w_c0
  · exact w_c1
  · exact w_c2
set_option maxRecDepth 65536 in
theorem w_t1 : (words1.take 24).all (fun c => isCode c || c.before args0 about1) = true := by decide +kernel
set_option maxRecDepth 65536 in
theorem w_t2 : (words1.drop 24).all (fun c => isCode c || c.before args0 about1) = true := by decide +kernel
theorem w_tables : (allAtoms (Jvm.Cond.code x code maxLocals ret :: tables_1)).before args0 about1 = true := by
  rw [allAtoms_all]
  show words1.all (fun c => c.before args0 about1) = true
  refine all_split ?_ w_codes
  rw [← List.take_append_drop 24 words1, List.all_append, w_t1, w_t2]
  rfl
set_option maxRecDepth 65536 in
theorem w_case : (Jvm.Cond.and given_1 narrow_1).before args0 about1 = true := by decide +kernel
theorem w_applies : (headSpec (Jvm.Cond.code x code maxLocals ret :: tables_1) room_1).applies x e0.platform about1 = true :=
  (Spec.applies_iff w_frames).mpr ⟨w_running, w_runnable, w_alone, w_named, w_hears, w_ripe, w_room, w_tables⟩
theorem atStart : AtStart classFile x code maxLocals ret World_1 tables_1 room_1 Calls_1 rest_1 Pre_1 launch0 p0 e0 about1 theMethod args0 below0 :=
  ⟨lists_1, trivial, launch0.admits_env _ _ _, launch0.least_env, fairChoices_fair.cas, fairChoices_fair.clock, w_frames, w_args, w_heap, w_applies, trivial, trivial, w_case⟩
end start1
theorem witness_1 : WitnessClaimed_1 := ⟨start1.p0, start1.e0, start1.about1, start1.theMethod, start1.args0, start1.below0, start1.atStart⟩
end Jvm.Pilot.@@N@@
