import JvmDerived
import JvmDerived.Pilot.@@N@@Statement
import JvmDerived.Pilot.@@N@@Code
set_option linter.unusedVariables false
set_option linter.unusedSimpArgs false
namespace Jvm.Pilot.@@N@@
open Jvm Jvm.ClassFile Sem Op Lib Jvm.Free Jvm.Stand Jvm.LawKit Jvm.RoadKit Bundle Jvm.Pilot.@@N@@.Jvm.D
section OwnKit
variable {p : Program} {l : Launch} {e : Env} {R : Room} {s : State} {m : MethodId} {args : Array Value} {below : List Frame} {meth : Method} {c : Code} {T : State} {locs : List Loc} {cells slots : Nat} {Z : State} {h : Heap} {a : Addr} {k : ClassId} {z : Int32} {vs : List Value} {dv : Value}
theorem oLen (X : Stand p l e R s m args below meth c T locs cells slots) (hx : p.tables.exec = Jvm.exec) (hZ : Z.Warmed39 s.vm) (eT : T.heap = h) {ty : FieldType} (F : Arv Z h a k ty z vs dv) {pc : Nat} {Ls : Array Slot} {rest : List Value} (hd : decode c.code pc = .ok (.arraylength, 1)) {target : State}
    (hr : Steps p.tables e below (T.setTop (mkF m (pc + 1) Ls (.int z :: rest))) target) : Steps p.tables e below (T.setTop (mkF m pc Ls (.ref a :: rest))) target := by
  obtain ⟨cl, A, -, S, M, -, -⟩ := F
  refine X.arraylength hx (by rw [eT]; exact A.1) (State.isArrayOf_alike hZ.alike A.2.1) (g := mkF m pc Ls (.ref a :: rest)) rfl rfl hd target ?_
  rw [len_of S M]
  exact hr
theorem oLdI (X : Stand p l e R s m args below meth c T locs cells slots) (hx : p.tables.exec = Jvm.exec) (hZ : Z.Warmed39 s.vm) (eT : T.heap = h) (F : Arv Z h a k .int z vs dv) {j : Int32} {v : Value} (hj : ¬ j < 0 ∧ j < z) (hv : vs.getD j.toNatClampNeg dv = v) {pc : Nat} {Ls : Array Slot} {rest : List Value} (hd : decode c.code pc = .ok (.iaload, 1)) {target : State}
    (hr : Steps p.tables e below (T.setTop (mkF m (pc + 1) Ls (v :: rest))) target) : Steps p.tables e below (T.setTop (mkF m pc Ls (.int j :: .ref a :: rest))) target := by
  obtain ⟨cl, A, -, S, -, H, -⟩ := F
  have hin := inb_of S hj
  exact X.iaload hx (by rw [eT]; exact A.1) (State.isArrayOf_alike hZ.alike A.2.1) A.2.2 hin (Has.at H hin hv) (g := mkF m pc Ls (.int j :: .ref a :: rest)) rfl rfl hd target hr
theorem oLdB (X : Stand p l e R s m args below meth c T locs cells slots) (hx : p.tables.exec = Jvm.exec) (hZ : Z.Warmed39 s.vm) (eT : T.heap = h) (F : Arv Z h a k .byte z vs dv) {j : Int32} {v : Value} (hj : ¬ j < 0 ∧ j < z) (hv : vs.getD j.toNatClampNeg dv = v) {pc : Nat} {Ls : Array Slot} {rest : List Value} (hd : decode c.code pc = .ok (.baload, 1)) {target : State}
    (hr : Steps p.tables e below (T.setTop (mkF m (pc + 1) Ls (v :: rest))) target) : Steps p.tables e below (T.setTop (mkF m pc Ls (.int j :: .ref a :: rest))) target := by
  obtain ⟨cl, A, -, S, -, H, -⟩ := F
  have hin := inb_of S hj
  exact X.baloadBytes hx (by rw [eT]; exact A.1) (State.isArrayOf_alike hZ.alike A.2.1) A.2.2 hin (Has.at H hin hv) (g := mkF m pc Ls (.int j :: .ref a :: rest)) rfl rfl hd target hr
theorem oLdJ (X : Stand p l e R s m args below meth c T locs cells slots) (hx : p.tables.exec = Jvm.exec) (hZ : Z.Warmed39 s.vm) (eT : T.heap = h) (F : Arv Z h a k .long z vs dv) {j : Int32} {v : Value} (hj : ¬ j < 0 ∧ j < z) (hv : vs.getD j.toNatClampNeg dv = v) {pc : Nat} {Ls : Array Slot} {rest : List Value} (hd : decode c.code pc = .ok (.laload, 1)) {target : State}
    (hr : Steps p.tables e below (T.setTop (mkF m (pc + 1) Ls (v :: rest))) target) : Steps p.tables e below (T.setTop (mkF m pc Ls (.int j :: .ref a :: rest))) target := by
  obtain ⟨cl, A, -, S, -, H, -⟩ := F
  have hin := inb_of S hj
  exact X.laload hx (by rw [eT]; exact A.1) (State.isArrayOf_alike hZ.alike A.2.1) A.2.2 hin (Has.at H hin hv) (g := mkF m pc Ls (.int j :: .ref a :: rest)) rfl rfl hd target hr
theorem oLdD (X : Stand p l e R s m args below meth c T locs cells slots) (hx : p.tables.exec = Jvm.exec) (hZ : Z.Warmed39 s.vm) (eT : T.heap = h) (F : Arv Z h a k .double z vs dv) {j : Int32} {v : Value} (hj : ¬ j < 0 ∧ j < z) (hv : vs.getD j.toNatClampNeg dv = v) {pc : Nat} {Ls : Array Slot} {rest : List Value} (hd : decode c.code pc = .ok (.daload, 1)) {target : State}
    (hr : Steps p.tables e below (T.setTop (mkF m (pc + 1) Ls (v :: rest))) target) : Steps p.tables e below (T.setTop (mkF m pc Ls (.int j :: .ref a :: rest))) target := by
  obtain ⟨cl, A, -, S, -, H, -⟩ := F
  have hin := inb_of S hj
  exact X.daload hx (by rw [eT]; exact A.1) (State.isArrayOf_alike hZ.alike A.2.1) A.2.2 hin (Has.at H hin hv) (g := mkF m pc Ls (.int j :: .ref a :: rest)) rfl rfl hd target hr
theorem oStI (X : Stand p l e R s m args below meth c T locs cells slots) (hx : p.tables.exec = Jvm.exec) (hZ : Z.Warmed39 s.vm) (eT : T.heap = h) (F : Arv Z h a k .int z vs dv) {j : Int32} {x : Int32} (hj : ¬ j < 0 ∧ j < z) (i : Nat) (hi : j.toNatClampNeg = i) (hl : i < vs.length) {g : JFrame} (hg : g.method = m) {rest : List Value} (hs : g.stack = .int x :: .int j :: .ref a :: rest) (hd : decode c.code g.pc = .ok (.iastore, 1)) :
    ∃ T' h', Stand p l e R s m args below meth c T' (locs ++ [⟨a, j.toNatClampNeg⟩]) cells slots ∧ T'.heap = h' ∧ Wr h h' a j.toNatClampNeg (.int x) ∧ Arv Z h' a k .int z (vs.set i (.int x)) dv ∧ ∀ target, Steps p.tables e below (T'.setTop { g with pc := g.pc + 1, stack := rest }) target → Steps p.tables e below (T.setTop g) target := by
  obtain ⟨cl, A, q1, S, M, H, G⟩ := F
  obtain ⟨T', h', X', e', W, st⟩ := stI X hx hZ eT A (j := j) (inb_of S hj) hg hs hd
  exact ⟨T', h', X', e', W, Arv.set A q1 S M H G rfl W i hi hl, st⟩
theorem oStB (X : Stand p l e R s m args below meth c T locs cells slots) (hx : p.tables.exec = Jvm.exec) (hZ : Z.Warmed39 s.vm) (eT : T.heap = h) (F : Arv Z h a k .byte z vs dv) {j : Int32} {x : Int32} (hj : ¬ j < 0 ∧ j < z) (i : Nat) (hi : j.toNatClampNeg = i) (hl : i < vs.length) {g : JFrame} (hg : g.method = m) {rest : List Value} (hs : g.stack = .int x :: .int j :: .ref a :: rest) (hd : decode c.code g.pc = .ok (.bastore, 1)) :
    ∃ T' h', Stand p l e R s m args below meth c T' (locs ++ [⟨a, j.toNatClampNeg⟩]) cells slots ∧ T'.heap = h' ∧ Wr h h' a j.toNatClampNeg (.int (nar .byte x)) ∧ Arv Z h' a k .byte z (vs.set i (.int (nar .byte x))) dv ∧ ∀ target, Steps p.tables e below (T'.setTop { g with pc := g.pc + 1, stack := rest }) target → Steps p.tables e below (T.setTop g) target := by
  obtain ⟨cl, A, q1, S, M, H, G⟩ := F
  obtain ⟨T', h', X', e', W, st⟩ := stB X hx hZ eT A (j := j) (inb_of S hj) hg hs hd
  exact ⟨T', h', X', e', W, Arv.set A q1 S M H G (fits_nar_byte x) W i hi hl, st⟩
theorem oStJ (X : Stand p l e R s m args below meth c T locs cells slots) (hx : p.tables.exec = Jvm.exec) (hZ : Z.Warmed39 s.vm) (eT : T.heap = h) (F : Arv Z h a k .long z vs dv) {j : Int32} {x : Int64} (hj : ¬ j < 0 ∧ j < z) (i : Nat) (hi : j.toNatClampNeg = i) (hl : i < vs.length) {g : JFrame} (hg : g.method = m) {rest : List Value} (hs : g.stack = .long x :: .int j :: .ref a :: rest) (hd : decode c.code g.pc = .ok (.lastore, 1)) :
    ∃ T' h', Stand p l e R s m args below meth c T' (locs ++ [⟨a, j.toNatClampNeg⟩]) cells slots ∧ T'.heap = h' ∧ Wr h h' a j.toNatClampNeg (.long x) ∧ Arv Z h' a k .long z (vs.set i (.long x)) dv ∧ ∀ target, Steps p.tables e below (T'.setTop { g with pc := g.pc + 1, stack := rest }) target → Steps p.tables e below (T.setTop g) target := by
  obtain ⟨cl, A, q1, S, M, H, G⟩ := F
  obtain ⟨T', h', X', e', W, st⟩ := stJ X hx hZ eT A (j := j) (inb_of S hj) hg hs hd
  exact ⟨T', h', X', e', W, Arv.set A q1 S M H G rfl W i hi hl, st⟩
theorem oStD (X : Stand p l e R s m args below meth c T locs cells slots) (hx : p.tables.exec = Jvm.exec) (hZ : Z.Warmed39 s.vm) (eT : T.heap = h) (F : Arv Z h a k .double z vs dv) {j : Int32} {x : UInt64} (hj : ¬ j < 0 ∧ j < z) (i : Nat) (hi : j.toNatClampNeg = i) (hl : i < vs.length) {g : JFrame} (hg : g.method = m) {rest : List Value} (hs : g.stack = .double x :: .int j :: .ref a :: rest) (hd : decode c.code g.pc = .ok (.dastore, 1)) :
    ∃ T' h', Stand p l e R s m args below meth c T' (locs ++ [⟨a, j.toNatClampNeg⟩]) cells slots ∧ T'.heap = h' ∧ Wr h h' a j.toNatClampNeg (.double x) ∧ Arv Z h' a k .double z (vs.set i (.double x)) dv ∧ ∀ target, Steps p.tables e below (T'.setTop { g with pc := g.pc + 1, stack := rest }) target → Steps p.tables e below (T.setTop g) target := by
  obtain ⟨cl, A, q1, S, M, H, G⟩ := F
  obtain ⟨T', h', X', e', W, st⟩ := stD X hx hZ eT A (j := j) (inb_of S hj) hg hs hd
  exact ⟨T', h', X', e', W, Arv.set A q1 S M H G rfl W i hi hl, st⟩
theorem oOpq {n0 : Nat} (X : Stand p l e R s m args below meth c T locs cells slots) (N : Fr n0 locs) : ∃ L, Stand p l e R s m args below meth c T L cells slots ∧ Fr n0 L := ⟨_, X, N⟩
end OwnKit
abbrev oi (x : Int32) : Slot := .val (.int x)
abbrev oj (x : Int64) : Slot := .val (.long x)
abbrev oa (x : Addr) : Slot := .val (.ref x)
abbrev od (x : UInt64) : Slot := .val (.double x)
abbrev oS (p : Program) (e : Env) (below : List Frame) (T : State) (m : MethodId) (pc : Nat) (L : Array Slot) (S : List Value) (t : State) : Prop := Steps p.tables e below (T.setTop (mkF m pc L S)) t
theorem own_ltp (x k : Int32) : (x < k) = (x.toInt < k.toInt) := propext Int32.lt_iff_toInt_lt
theorem own_eqp (x k : Int32) : (x = k) = (x.toInt = k.toInt) := propext Int32.toInt_inj.symm
theorem own_ltpL (x k : Int64) : (x < k) = (x.toInt < k.toInt) := propext Int64.lt_iff_toInt_lt
theorem own_eqpL (x k : Int64) : (x = k) = (x.toInt = k.toInt) := propext Int64.toInt_inj.symm
theorem own_of_range {P : Int32 → Prop} (n : Nat) (h : ∀ i : Fin n, P (Int32.ofNat i.1)) (x : Int32) (h0 : 0 ≤ x.toInt) (h1 : x.toInt < (n : Int)) : P x := by
  have e : Int32.ofNat x.toInt.toNat = x := by
    rw [← Int32.ofInt_eq_ofNat, Int.toNat_of_nonneg h0, Int32.ofInt_toInt]
  have q := h ⟨x.toInt.toNat, by omega⟩
  rwa [e] at q
theorem own_getD (ws : List Int32) (n : Nat) : (ws.map Value.int).getD n (.int (0 : Int32)) = .int (ws.getD n 0) := by
  simp only [List.getD_eq_getElem?_getD, List.getElem?_map]
  cases ws[n]? <;> rfl

theorem own_eqI {args : Array Value} {s : State} {t : Term} {n : Int32} {idx : List Nat} (h : (Jvm.Cond.eq t (.int n)).value args s none s idx = some true) : t.eval args s none idx s = some (.int n) := by
  obtain ⟨x, y, e1, e2, k1, k2⟩ := cmp_v (Or.inl h)
  cases (Term.int_eval n).symm.trans e2
  obtain ⟨z, rfl⟩ : ∃ z, x = Value.int z := k2
  exact e1.trans (congrArg (fun z => some (Value.int z)) (gotT (Cond.eq_ints e1 (Term.int_eval n)) h))

theorem own_pn0 : plainName "com/example/spanwood/spanwood/store/KeyType" = true := by first | (simp [plainName, overriddenIn]; done) | decide +kernel
theorem own_d1_0 : decode prog_36_method_8_code 0 = .ok (.iload_n 0, 1) := by decide +kernel
theorem own_d1_1 : decode prog_36_method_8_code 1 = .ok (.tableswitch 143 (-16) 12 #[137, 143, 143, 143, 143, 143, 143, 137, 143, 143, 131, 131, 143, 143, 143, 137, 143, 143, 143, 143, 131, 131, 143, 143, 143, 143, 143, 143, 137], 131) := by decide +kernel
theorem own_d1_132 : decode prog_36_method_8_code 132 = .ok (.getstatic 3, 3) := by decide +kernel
theorem own_d1_135 : decode prog_36_method_8_code 135 = .ok (.goto 10, 3) := by decide +kernel
theorem own_d1_138 : decode prog_36_method_8_code 138 = .ok (.getstatic 7, 3) := by decide +kernel
theorem own_d1_141 : decode prog_36_method_8_code 141 = .ok (.goto 4, 3) := by decide +kernel
theorem own_d1_144 : decode prog_36_method_8_code 144 = .ok (.aconst_null, 1) := by decide +kernel
theorem own_d1_145 : decode prog_36_method_8_code 145 = .ok (.areturn, 1) := by decide +kernel
theorem own_ef1 (m : MethodId) (p0 : Int32) : entryFrame m #[(.int p0)] 1 = mkF m 0 #[oi p0] [] := by first | (simp [entryFrame, mkF, argsToLocals, Value.category]; done) | rfl
def own_f1 (p0 : Int32) (aW : Addr) (aT : Addr) : Value := (if p0.toInt = -16 then (.ref aT) else (if p0.toInt = -15 then .null else (if p0.toInt = -14 then .null else (if p0.toInt = -13 then .null else (if p0.toInt = -12 then .null else (if p0.toInt = -11 then .null else (if p0.toInt = -10 then .null else (if p0.toInt = -9 then (.ref aT) else (if p0.toInt = -8 then .null else (if p0.toInt = -7 then .null else (if p0.toInt = -6 then (.ref aW) else (if p0.toInt = -5 then (.ref aW) else (if p0.toInt = -4 then .null else (if p0.toInt = -3 then .null else (if p0.toInt = -2 then .null else (if p0.toInt = -1 then (.ref aT) else (if p0.toInt = 0 then .null else (if p0.toInt = 1 then .null else (if p0.toInt = 2 then .null else (if p0.toInt = 3 then .null else (if p0.toInt = 4 then (.ref aW) else (if p0.toInt = 5 then (.ref aW) else (if p0.toInt = 6 then .null else (if p0.toInt = 7 then .null else (if p0.toInt = 8 then .null else (if p0.toInt = 9 then .null else (if p0.toInt = 10 then .null else (if p0.toInt = 11 then .null else (if p0.toInt = 12 then (.ref aT) else .null)))))))))))))))))))))))))))))
def own_Q1 (Z : State) (p0 : Int32) (aW : Addr) (aT : Addr) (h0 : Heap) (n0 : Nat) (v : Option Value) (h : Heap) (L : List Loc) : Prop := v = some (own_f1 p0 aW aT) ∧ Fr n0 L ∧ h = h0
set_option maxRecDepth 65536 in
set_option maxHeartbeats 40000000 in
theorem own_rm1 (l : Launch) (Z : State) (av : Array Value) (hw : ∀ d ∈ tables_1, d.before av Z = true) (ws : List Jvm.Cond) (p0 : Int32) (aW : Addr) (aT : Addr) (h0 : Heap) (n0 : Nat) (Z0 : n0 ≤ h0.size) (S_WHOLE_NUMBER : Sta Z h0 "com/example/spanwood/spanwood/store/KeyType" "WHOLE_NUMBER" "Lcom/example/spanwood/spanwood/store/KeyType;" (.ref aW)) (S_TEXT : Sta Z h0 "com/example/spanwood/spanwood/store/KeyType" "TEXT" "Lcom/example/spanwood/spanwood/store/KeyType;" (.ref aT)) :
    MetFree l (⟨"com/example/spanwood/spanwood/store/KeyType", "of", "(I)Lcom/example/spanwood/spanwood/store/KeyType;"⟩ : MethodName) (head1 (Jvm.Cond.code (⟨"com/example/spanwood/spanwood/store/KeyType", "of", "(I)Lcom/example/spanwood/spanwood/store/KeyType;"⟩ : MethodName) prog_36_method_8_code 1 (some (.object "com/example/spanwood/spanwood/store/KeyType")) :: ws) ({ frames := 0, cells := 0, slots := 0, locals := 0 } : Room)) (fun a U => a = #[(.int p0)] ∧ Z.Warmed39 U.vm ∧ U.heap = h0) (fun _ _ _ _ _ => True) (fun _ U o U' => ∃ v L, o = .returned v ∧ own_Q1 Z p0 aW aT h0 n0 v U'.heap L ∧ FrameEnd U o U' L ({ frames := 0, cells := 0, slots := 0, locals := 0 } : Room).cells ({ frames := 0, cells := 0, slots := 0, locals := 0 } : Room).slots) := by
  refine MetFree.of_bodySF (plainFor_of_name own_pn0) hisR ?_
  intro p e s m args below meth c s₁ Bd hml0 hP hK
  obtain ⟨rfl, hZ, hh⟩ := hP
  have hx := Bd.exec
  have hby := Bd.bytes
  have hml : c.maxLocals = 1 := hml0
  have hown : s.vm.findClass "com/example/spanwood/spanwood/store/KeyType" = some m.cls := findClass_of_methodNamed Bd.named
  have hnm := (name_of_methodNamed Bd.named Bd.method).1
  have X0 : Stand p l e ({ frames := 0, cells := 0, slots := 0, locals := 0 } : Room) s m #[(.int p0)] below meth c s₁ [] 0 0 := Stand.of_body Bd
  have e0 : s₁.heap = h0 := by rw [← hh, Bd.state]; rfl
  have N0 := Fr.nil n0
  have pre0 : ∀ t, Steps p.tables e below (s₁.setTop (mkF m 0 #[oi p0] [])) t → Steps p.tables e below (s₁.setTop (entryFrame m #[(.int p0)] 1)) t := fun t k => castTop (own_ef1 m p0) k
  have pre1 : ∀ t, Steps p.tables e below (s₁.setTop (mkF m 1 #[oi p0] [(.int p0)])) t → Steps p.tables e below (s₁.setTop (entryFrame m #[(.int p0)] 1)) t := by
    intro t k
    refine pre0 t ?_
    show oS p e below s₁ m 0 #[oi p0] [] _
    refine XS.iloadN X0.here hx rfl (hb hby own_d1_0) rfl ?_
    exact k
  by_cases c2 : (p0.toInt < -16 ∨ p0.toInt > 12)
  · skip
    obtain ⟨fs, hr, hrun, hended, hW, hsame⟩ := X0.leave (v := (some .null)) (fun h => by rw [Bd.returns] at h; cases h)
    refine ⟨_, _, pre1 _ ?_, hrun, hended, _, _, rfl, ?_, ⟨_, rfl⟩, hW, hsame.mono (by decide) (by decide)⟩
    · show oS p e below s₁ m 1 #[oi p0] [(.int p0)] _
      refine XS.tswOut X0.here hx rfl (pc0 := 1) (pc' := 144) rfl (hb hby own_d1_1) rfl c2 (by decide) (by decide) ?_
      show oS p e below s₁ m 144 #[oi p0] [] _
      refine XS.aconstNull X0.here hx rfl (hb hby own_d1_144) ?_
      show oS p e below s₁ m 145 #[oi p0] [.null] _
      exact retOut X0 hx Bd.returns rfl (Or.inr (Or.inr (Or.inr (Or.inr ⟨rfl, rfl, rfl⟩)))) (hb hby own_d1_145) hr
    · show own_Q1 Z p0 aW aT h0 n0 _ s₁.heap _
      rw [e0]
      exact ⟨congrArg some (by rw [own_f1, if_neg (show ¬ (p0.toInt = -16) by omega), if_neg (show ¬ (p0.toInt = -15) by omega), if_neg (show ¬ (p0.toInt = -14) by omega), if_neg (show ¬ (p0.toInt = -13) by omega), if_neg (show ¬ (p0.toInt = -12) by omega), if_neg (show ¬ (p0.toInt = -11) by omega), if_neg (show ¬ (p0.toInt = -10) by omega), if_neg (show ¬ (p0.toInt = -9) by omega), if_neg (show ¬ (p0.toInt = -8) by omega), if_neg (show ¬ (p0.toInt = -7) by omega), if_neg (show ¬ (p0.toInt = -6) by omega), if_neg (show ¬ (p0.toInt = -5) by omega), if_neg (show ¬ (p0.toInt = -4) by omega), if_neg (show ¬ (p0.toInt = -3) by omega), if_neg (show ¬ (p0.toInt = -2) by omega), if_neg (show ¬ (p0.toInt = -1) by omega), if_neg (show ¬ (p0.toInt = 0) by omega), if_neg (show ¬ (p0.toInt = 1) by omega), if_neg (show ¬ (p0.toInt = 2) by omega), if_neg (show ¬ (p0.toInt = 3) by omega), if_neg (show ¬ (p0.toInt = 4) by omega), if_neg (show ¬ (p0.toInt = 5) by omega), if_neg (show ¬ (p0.toInt = 6) by omega), if_neg (show ¬ (p0.toInt = 7) by omega), if_neg (show ¬ (p0.toInt = 8) by omega), if_neg (show ¬ (p0.toInt = 9) by omega), if_neg (show ¬ (p0.toInt = 10) by omega), if_neg (show ¬ (p0.toInt = 11) by omega), if_neg (show ¬ (p0.toInt = 12) by omega)]), N0, rfl⟩
  · skip
    have k3 : p0.toInt = -16 ∨ p0.toInt = -15 ∨ p0.toInt = -14 ∨ p0.toInt = -13 ∨ p0.toInt = -12 ∨ p0.toInt = -11 ∨ p0.toInt = -10 ∨ p0.toInt = -9 ∨ p0.toInt = -8 ∨ p0.toInt = -7 ∨ p0.toInt = -6 ∨ p0.toInt = -5 ∨ p0.toInt = -4 ∨ p0.toInt = -3 ∨ p0.toInt = -2 ∨ p0.toInt = -1 ∨ p0.toInt = 0 ∨ p0.toInt = 1 ∨ p0.toInt = 2 ∨ p0.toInt = 3 ∨ p0.toInt = 4 ∨ p0.toInt = 5 ∨ p0.toInt = 6 ∨ p0.toInt = 7 ∨ p0.toInt = 8 ∨ p0.toInt = 9 ∨ p0.toInt = 10 ∨ p0.toInt = 11 ∨ p0.toInt = 12 := by omega
    rcases k3 with k3 | k3 | k3 | k3 | k3 | k3 | k3 | k3 | k3 | k3 | k3 | k3 | k3 | k3 | k3 | k3 | k3 | k3 | k3 | k3 | k3 | k3 | k3 | k3 | k3 | k3 | k3 | k3 | k3
    · skip
      obtain ⟨T4, X4, e4, st4⟩ := getS2 X0 hx hZ hown (host := "") (Or.inl (hw _ (List.mem_of_getElem? (i := 12) rfl))) Via.refl e0 S_TEXT (g := (mkF m 138 #[oi p0] [])) rfl (hb hby own_d1_138)
      obtain ⟨fs, hr, hrun, hended, hW, hsame⟩ := X4.leave (v := (some (.ref aT))) (fun h => by rw [Bd.returns] at h; cases h)
      refine ⟨_, _, pre1 _ ?_, hrun, hended, _, _, rfl, ?_, ⟨_, rfl⟩, hW, hsame.mono (by decide) (by decide)⟩
      · show oS p e below s₁ m 1 #[oi p0] [(.int p0)] _
        refine XS.tswIn X0.here hx rfl (o := 137) (pc0 := 1) (pc' := 138) rfl (hb hby own_d1_1) rfl c2 (by rw [show p0.toInt = -16 from k3]; rfl) (by decide) (by decide) ?_
        show oS p e below s₁ m 138 #[oi p0] [] _
        refine st4 _ ?_
        show oS p e below T4 m 141 #[oi p0] [(.ref aT)] _
        refine XS.goto X4.here hx rfl (pc0 := 141) (pc' := 145) rfl (hb hby own_d1_141) (by decide) (by decide) ?_
        show oS p e below T4 m 145 #[oi p0] [(.ref aT)] _
        exact retOut X4 hx Bd.returns rfl (Or.inr (Or.inr (Or.inr (Or.inr ⟨rfl, rfl, rfl⟩)))) (hb hby own_d1_145) hr
      · show own_Q1 Z p0 aW aT h0 n0 _ T4.heap _
        rw [e4]
        exact ⟨congrArg some (by rw [own_f1, if_pos k3]), N0, rfl⟩
    · skip
      obtain ⟨fs, hr, hrun, hended, hW, hsame⟩ := X0.leave (v := (some .null)) (fun h => by rw [Bd.returns] at h; cases h)
      refine ⟨_, _, pre1 _ ?_, hrun, hended, _, _, rfl, ?_, ⟨_, rfl⟩, hW, hsame.mono (by decide) (by decide)⟩
      · show oS p e below s₁ m 1 #[oi p0] [(.int p0)] _
        refine XS.tswIn X0.here hx rfl (o := 143) (pc0 := 1) (pc' := 144) rfl (hb hby own_d1_1) rfl c2 (by rw [show p0.toInt = -15 from k3]; rfl) (by decide) (by decide) ?_
        show oS p e below s₁ m 144 #[oi p0] [] _
        refine XS.aconstNull X0.here hx rfl (hb hby own_d1_144) ?_
        show oS p e below s₁ m 145 #[oi p0] [.null] _
        exact retOut X0 hx Bd.returns rfl (Or.inr (Or.inr (Or.inr (Or.inr ⟨rfl, rfl, rfl⟩)))) (hb hby own_d1_145) hr
      · show own_Q1 Z p0 aW aT h0 n0 _ s₁.heap _
        rw [e0]
        exact ⟨congrArg some (by rw [own_f1, if_neg (show ¬ (p0.toInt = -16) by omega), if_pos k3]), N0, rfl⟩
    · skip
      obtain ⟨fs, hr, hrun, hended, hW, hsame⟩ := X0.leave (v := (some .null)) (fun h => by rw [Bd.returns] at h; cases h)
      refine ⟨_, _, pre1 _ ?_, hrun, hended, _, _, rfl, ?_, ⟨_, rfl⟩, hW, hsame.mono (by decide) (by decide)⟩
      · show oS p e below s₁ m 1 #[oi p0] [(.int p0)] _
        refine XS.tswIn X0.here hx rfl (o := 143) (pc0 := 1) (pc' := 144) rfl (hb hby own_d1_1) rfl c2 (by rw [show p0.toInt = -14 from k3]; rfl) (by decide) (by decide) ?_
        show oS p e below s₁ m 144 #[oi p0] [] _
        refine XS.aconstNull X0.here hx rfl (hb hby own_d1_144) ?_
        show oS p e below s₁ m 145 #[oi p0] [.null] _
        exact retOut X0 hx Bd.returns rfl (Or.inr (Or.inr (Or.inr (Or.inr ⟨rfl, rfl, rfl⟩)))) (hb hby own_d1_145) hr
      · show own_Q1 Z p0 aW aT h0 n0 _ s₁.heap _
        rw [e0]
        exact ⟨congrArg some (by rw [own_f1, if_neg (show ¬ (p0.toInt = -16) by omega), if_neg (show ¬ (p0.toInt = -15) by omega), if_pos k3]), N0, rfl⟩
    · skip
      obtain ⟨fs, hr, hrun, hended, hW, hsame⟩ := X0.leave (v := (some .null)) (fun h => by rw [Bd.returns] at h; cases h)
      refine ⟨_, _, pre1 _ ?_, hrun, hended, _, _, rfl, ?_, ⟨_, rfl⟩, hW, hsame.mono (by decide) (by decide)⟩
      · show oS p e below s₁ m 1 #[oi p0] [(.int p0)] _
        refine XS.tswIn X0.here hx rfl (o := 143) (pc0 := 1) (pc' := 144) rfl (hb hby own_d1_1) rfl c2 (by rw [show p0.toInt = -13 from k3]; rfl) (by decide) (by decide) ?_
        show oS p e below s₁ m 144 #[oi p0] [] _
        refine XS.aconstNull X0.here hx rfl (hb hby own_d1_144) ?_
        show oS p e below s₁ m 145 #[oi p0] [.null] _
        exact retOut X0 hx Bd.returns rfl (Or.inr (Or.inr (Or.inr (Or.inr ⟨rfl, rfl, rfl⟩)))) (hb hby own_d1_145) hr
      · show own_Q1 Z p0 aW aT h0 n0 _ s₁.heap _
        rw [e0]
        exact ⟨congrArg some (by rw [own_f1, if_neg (show ¬ (p0.toInt = -16) by omega), if_neg (show ¬ (p0.toInt = -15) by omega), if_neg (show ¬ (p0.toInt = -14) by omega), if_pos k3]), N0, rfl⟩
    · skip
      obtain ⟨fs, hr, hrun, hended, hW, hsame⟩ := X0.leave (v := (some .null)) (fun h => by rw [Bd.returns] at h; cases h)
      refine ⟨_, _, pre1 _ ?_, hrun, hended, _, _, rfl, ?_, ⟨_, rfl⟩, hW, hsame.mono (by decide) (by decide)⟩
      · show oS p e below s₁ m 1 #[oi p0] [(.int p0)] _
        refine XS.tswIn X0.here hx rfl (o := 143) (pc0 := 1) (pc' := 144) rfl (hb hby own_d1_1) rfl c2 (by rw [show p0.toInt = -12 from k3]; rfl) (by decide) (by decide) ?_
        show oS p e below s₁ m 144 #[oi p0] [] _
        refine XS.aconstNull X0.here hx rfl (hb hby own_d1_144) ?_
        show oS p e below s₁ m 145 #[oi p0] [.null] _
        exact retOut X0 hx Bd.returns rfl (Or.inr (Or.inr (Or.inr (Or.inr ⟨rfl, rfl, rfl⟩)))) (hb hby own_d1_145) hr
      · show own_Q1 Z p0 aW aT h0 n0 _ s₁.heap _
        rw [e0]
        exact ⟨congrArg some (by rw [own_f1, if_neg (show ¬ (p0.toInt = -16) by omega), if_neg (show ¬ (p0.toInt = -15) by omega), if_neg (show ¬ (p0.toInt = -14) by omega), if_neg (show ¬ (p0.toInt = -13) by omega), if_pos k3]), N0, rfl⟩
    · skip
      obtain ⟨fs, hr, hrun, hended, hW, hsame⟩ := X0.leave (v := (some .null)) (fun h => by rw [Bd.returns] at h; cases h)
      refine ⟨_, _, pre1 _ ?_, hrun, hended, _, _, rfl, ?_, ⟨_, rfl⟩, hW, hsame.mono (by decide) (by decide)⟩
      · show oS p e below s₁ m 1 #[oi p0] [(.int p0)] _
        refine XS.tswIn X0.here hx rfl (o := 143) (pc0 := 1) (pc' := 144) rfl (hb hby own_d1_1) rfl c2 (by rw [show p0.toInt = -11 from k3]; rfl) (by decide) (by decide) ?_
        show oS p e below s₁ m 144 #[oi p0] [] _
        refine XS.aconstNull X0.here hx rfl (hb hby own_d1_144) ?_
        show oS p e below s₁ m 145 #[oi p0] [.null] _
        exact retOut X0 hx Bd.returns rfl (Or.inr (Or.inr (Or.inr (Or.inr ⟨rfl, rfl, rfl⟩)))) (hb hby own_d1_145) hr
      · show own_Q1 Z p0 aW aT h0 n0 _ s₁.heap _
        rw [e0]
        exact ⟨congrArg some (by rw [own_f1, if_neg (show ¬ (p0.toInt = -16) by omega), if_neg (show ¬ (p0.toInt = -15) by omega), if_neg (show ¬ (p0.toInt = -14) by omega), if_neg (show ¬ (p0.toInt = -13) by omega), if_neg (show ¬ (p0.toInt = -12) by omega), if_pos k3]), N0, rfl⟩
    · skip
      obtain ⟨fs, hr, hrun, hended, hW, hsame⟩ := X0.leave (v := (some .null)) (fun h => by rw [Bd.returns] at h; cases h)
      refine ⟨_, _, pre1 _ ?_, hrun, hended, _, _, rfl, ?_, ⟨_, rfl⟩, hW, hsame.mono (by decide) (by decide)⟩
      · show oS p e below s₁ m 1 #[oi p0] [(.int p0)] _
        refine XS.tswIn X0.here hx rfl (o := 143) (pc0 := 1) (pc' := 144) rfl (hb hby own_d1_1) rfl c2 (by rw [show p0.toInt = -10 from k3]; rfl) (by decide) (by decide) ?_
        show oS p e below s₁ m 144 #[oi p0] [] _
        refine XS.aconstNull X0.here hx rfl (hb hby own_d1_144) ?_
        show oS p e below s₁ m 145 #[oi p0] [.null] _
        exact retOut X0 hx Bd.returns rfl (Or.inr (Or.inr (Or.inr (Or.inr ⟨rfl, rfl, rfl⟩)))) (hb hby own_d1_145) hr
      · show own_Q1 Z p0 aW aT h0 n0 _ s₁.heap _
        rw [e0]
        exact ⟨congrArg some (by rw [own_f1, if_neg (show ¬ (p0.toInt = -16) by omega), if_neg (show ¬ (p0.toInt = -15) by omega), if_neg (show ¬ (p0.toInt = -14) by omega), if_neg (show ¬ (p0.toInt = -13) by omega), if_neg (show ¬ (p0.toInt = -12) by omega), if_neg (show ¬ (p0.toInt = -11) by omega), if_pos k3]), N0, rfl⟩
    · skip
      obtain ⟨T5, X5, e5, st5⟩ := getS2 X0 hx hZ hown (host := "") (Or.inl (hw _ (List.mem_of_getElem? (i := 12) rfl))) Via.refl e0 S_TEXT (g := (mkF m 138 #[oi p0] [])) rfl (hb hby own_d1_138)
      obtain ⟨fs, hr, hrun, hended, hW, hsame⟩ := X5.leave (v := (some (.ref aT))) (fun h => by rw [Bd.returns] at h; cases h)
      refine ⟨_, _, pre1 _ ?_, hrun, hended, _, _, rfl, ?_, ⟨_, rfl⟩, hW, hsame.mono (by decide) (by decide)⟩
      · show oS p e below s₁ m 1 #[oi p0] [(.int p0)] _
        refine XS.tswIn X0.here hx rfl (o := 137) (pc0 := 1) (pc' := 138) rfl (hb hby own_d1_1) rfl c2 (by rw [show p0.toInt = -9 from k3]; rfl) (by decide) (by decide) ?_
        show oS p e below s₁ m 138 #[oi p0] [] _
        refine st5 _ ?_
        show oS p e below T5 m 141 #[oi p0] [(.ref aT)] _
        refine XS.goto X5.here hx rfl (pc0 := 141) (pc' := 145) rfl (hb hby own_d1_141) (by decide) (by decide) ?_
        show oS p e below T5 m 145 #[oi p0] [(.ref aT)] _
        exact retOut X5 hx Bd.returns rfl (Or.inr (Or.inr (Or.inr (Or.inr ⟨rfl, rfl, rfl⟩)))) (hb hby own_d1_145) hr
      · show own_Q1 Z p0 aW aT h0 n0 _ T5.heap _
        rw [e5]
        exact ⟨congrArg some (by rw [own_f1, if_neg (show ¬ (p0.toInt = -16) by omega), if_neg (show ¬ (p0.toInt = -15) by omega), if_neg (show ¬ (p0.toInt = -14) by omega), if_neg (show ¬ (p0.toInt = -13) by omega), if_neg (show ¬ (p0.toInt = -12) by omega), if_neg (show ¬ (p0.toInt = -11) by omega), if_neg (show ¬ (p0.toInt = -10) by omega), if_pos k3]), N0, rfl⟩
    · skip
      obtain ⟨fs, hr, hrun, hended, hW, hsame⟩ := X0.leave (v := (some .null)) (fun h => by rw [Bd.returns] at h; cases h)
      refine ⟨_, _, pre1 _ ?_, hrun, hended, _, _, rfl, ?_, ⟨_, rfl⟩, hW, hsame.mono (by decide) (by decide)⟩
      · show oS p e below s₁ m 1 #[oi p0] [(.int p0)] _
        refine XS.tswIn X0.here hx rfl (o := 143) (pc0 := 1) (pc' := 144) rfl (hb hby own_d1_1) rfl c2 (by rw [show p0.toInt = -8 from k3]; rfl) (by decide) (by decide) ?_
        show oS p e below s₁ m 144 #[oi p0] [] _
        refine XS.aconstNull X0.here hx rfl (hb hby own_d1_144) ?_
        show oS p e below s₁ m 145 #[oi p0] [.null] _
        exact retOut X0 hx Bd.returns rfl (Or.inr (Or.inr (Or.inr (Or.inr ⟨rfl, rfl, rfl⟩)))) (hb hby own_d1_145) hr
      · show own_Q1 Z p0 aW aT h0 n0 _ s₁.heap _
        rw [e0]
        exact ⟨congrArg some (by rw [own_f1, if_neg (show ¬ (p0.toInt = -16) by omega), if_neg (show ¬ (p0.toInt = -15) by omega), if_neg (show ¬ (p0.toInt = -14) by omega), if_neg (show ¬ (p0.toInt = -13) by omega), if_neg (show ¬ (p0.toInt = -12) by omega), if_neg (show ¬ (p0.toInt = -11) by omega), if_neg (show ¬ (p0.toInt = -10) by omega), if_neg (show ¬ (p0.toInt = -9) by omega), if_pos k3]), N0, rfl⟩
    · skip
      obtain ⟨fs, hr, hrun, hended, hW, hsame⟩ := X0.leave (v := (some .null)) (fun h => by rw [Bd.returns] at h; cases h)
      refine ⟨_, _, pre1 _ ?_, hrun, hended, _, _, rfl, ?_, ⟨_, rfl⟩, hW, hsame.mono (by decide) (by decide)⟩
      · show oS p e below s₁ m 1 #[oi p0] [(.int p0)] _
        refine XS.tswIn X0.here hx rfl (o := 143) (pc0 := 1) (pc' := 144) rfl (hb hby own_d1_1) rfl c2 (by rw [show p0.toInt = -7 from k3]; rfl) (by decide) (by decide) ?_
        show oS p e below s₁ m 144 #[oi p0] [] _
        refine XS.aconstNull X0.here hx rfl (hb hby own_d1_144) ?_
        show oS p e below s₁ m 145 #[oi p0] [.null] _
        exact retOut X0 hx Bd.returns rfl (Or.inr (Or.inr (Or.inr (Or.inr ⟨rfl, rfl, rfl⟩)))) (hb hby own_d1_145) hr
      · show own_Q1 Z p0 aW aT h0 n0 _ s₁.heap _
        rw [e0]
        exact ⟨congrArg some (by rw [own_f1, if_neg (show ¬ (p0.toInt = -16) by omega), if_neg (show ¬ (p0.toInt = -15) by omega), if_neg (show ¬ (p0.toInt = -14) by omega), if_neg (show ¬ (p0.toInt = -13) by omega), if_neg (show ¬ (p0.toInt = -12) by omega), if_neg (show ¬ (p0.toInt = -11) by omega), if_neg (show ¬ (p0.toInt = -10) by omega), if_neg (show ¬ (p0.toInt = -9) by omega), if_neg (show ¬ (p0.toInt = -8) by omega), if_pos k3]), N0, rfl⟩
    · skip
      obtain ⟨T6, X6, e6, st6⟩ := getS2 X0 hx hZ hown (host := "") (Or.inl (hw _ (List.mem_of_getElem? (i := 5) rfl))) Via.refl e0 S_WHOLE_NUMBER (g := (mkF m 132 #[oi p0] [])) rfl (hb hby own_d1_132)
      obtain ⟨fs, hr, hrun, hended, hW, hsame⟩ := X6.leave (v := (some (.ref aW))) (fun h => by rw [Bd.returns] at h; cases h)
      refine ⟨_, _, pre1 _ ?_, hrun, hended, _, _, rfl, ?_, ⟨_, rfl⟩, hW, hsame.mono (by decide) (by decide)⟩
      · show oS p e below s₁ m 1 #[oi p0] [(.int p0)] _
        refine XS.tswIn X0.here hx rfl (o := 131) (pc0 := 1) (pc' := 132) rfl (hb hby own_d1_1) rfl c2 (by rw [show p0.toInt = -6 from k3]; rfl) (by decide) (by decide) ?_
        show oS p e below s₁ m 132 #[oi p0] [] _
        refine st6 _ ?_
        show oS p e below T6 m 135 #[oi p0] [(.ref aW)] _
        refine XS.goto X6.here hx rfl (pc0 := 135) (pc' := 145) rfl (hb hby own_d1_135) (by decide) (by decide) ?_
        show oS p e below T6 m 145 #[oi p0] [(.ref aW)] _
        exact retOut X6 hx Bd.returns rfl (Or.inr (Or.inr (Or.inr (Or.inr ⟨rfl, rfl, rfl⟩)))) (hb hby own_d1_145) hr
      · show own_Q1 Z p0 aW aT h0 n0 _ T6.heap _
        rw [e6]
        exact ⟨congrArg some (by rw [own_f1, if_neg (show ¬ (p0.toInt = -16) by omega), if_neg (show ¬ (p0.toInt = -15) by omega), if_neg (show ¬ (p0.toInt = -14) by omega), if_neg (show ¬ (p0.toInt = -13) by omega), if_neg (show ¬ (p0.toInt = -12) by omega), if_neg (show ¬ (p0.toInt = -11) by omega), if_neg (show ¬ (p0.toInt = -10) by omega), if_neg (show ¬ (p0.toInt = -9) by omega), if_neg (show ¬ (p0.toInt = -8) by omega), if_neg (show ¬ (p0.toInt = -7) by omega), if_pos k3]), N0, rfl⟩
    · skip
      obtain ⟨T7, X7, e7, st7⟩ := getS2 X0 hx hZ hown (host := "") (Or.inl (hw _ (List.mem_of_getElem? (i := 5) rfl))) Via.refl e0 S_WHOLE_NUMBER (g := (mkF m 132 #[oi p0] [])) rfl (hb hby own_d1_132)
      obtain ⟨fs, hr, hrun, hended, hW, hsame⟩ := X7.leave (v := (some (.ref aW))) (fun h => by rw [Bd.returns] at h; cases h)
      refine ⟨_, _, pre1 _ ?_, hrun, hended, _, _, rfl, ?_, ⟨_, rfl⟩, hW, hsame.mono (by decide) (by decide)⟩
      · show oS p e below s₁ m 1 #[oi p0] [(.int p0)] _
        refine XS.tswIn X0.here hx rfl (o := 131) (pc0 := 1) (pc' := 132) rfl (hb hby own_d1_1) rfl c2 (by rw [show p0.toInt = -5 from k3]; rfl) (by decide) (by decide) ?_
        show oS p e below s₁ m 132 #[oi p0] [] _
        refine st7 _ ?_
        show oS p e below T7 m 135 #[oi p0] [(.ref aW)] _
        refine XS.goto X7.here hx rfl (pc0 := 135) (pc' := 145) rfl (hb hby own_d1_135) (by decide) (by decide) ?_
        show oS p e below T7 m 145 #[oi p0] [(.ref aW)] _
        exact retOut X7 hx Bd.returns rfl (Or.inr (Or.inr (Or.inr (Or.inr ⟨rfl, rfl, rfl⟩)))) (hb hby own_d1_145) hr
      · show own_Q1 Z p0 aW aT h0 n0 _ T7.heap _
        rw [e7]
        exact ⟨congrArg some (by rw [own_f1, if_neg (show ¬ (p0.toInt = -16) by omega), if_neg (show ¬ (p0.toInt = -15) by omega), if_neg (show ¬ (p0.toInt = -14) by omega), if_neg (show ¬ (p0.toInt = -13) by omega), if_neg (show ¬ (p0.toInt = -12) by omega), if_neg (show ¬ (p0.toInt = -11) by omega), if_neg (show ¬ (p0.toInt = -10) by omega), if_neg (show ¬ (p0.toInt = -9) by omega), if_neg (show ¬ (p0.toInt = -8) by omega), if_neg (show ¬ (p0.toInt = -7) by omega), if_neg (show ¬ (p0.toInt = -6) by omega), if_pos k3]), N0, rfl⟩
    · skip
      obtain ⟨fs, hr, hrun, hended, hW, hsame⟩ := X0.leave (v := (some .null)) (fun h => by rw [Bd.returns] at h; cases h)
      refine ⟨_, _, pre1 _ ?_, hrun, hended, _, _, rfl, ?_, ⟨_, rfl⟩, hW, hsame.mono (by decide) (by decide)⟩
      · show oS p e below s₁ m 1 #[oi p0] [(.int p0)] _
        refine XS.tswIn X0.here hx rfl (o := 143) (pc0 := 1) (pc' := 144) rfl (hb hby own_d1_1) rfl c2 (by rw [show p0.toInt = -4 from k3]; rfl) (by decide) (by decide) ?_
        show oS p e below s₁ m 144 #[oi p0] [] _
        refine XS.aconstNull X0.here hx rfl (hb hby own_d1_144) ?_
        show oS p e below s₁ m 145 #[oi p0] [.null] _
        exact retOut X0 hx Bd.returns rfl (Or.inr (Or.inr (Or.inr (Or.inr ⟨rfl, rfl, rfl⟩)))) (hb hby own_d1_145) hr
      · show own_Q1 Z p0 aW aT h0 n0 _ s₁.heap _
        rw [e0]
        exact ⟨congrArg some (by rw [own_f1, if_neg (show ¬ (p0.toInt = -16) by omega), if_neg (show ¬ (p0.toInt = -15) by omega), if_neg (show ¬ (p0.toInt = -14) by omega), if_neg (show ¬ (p0.toInt = -13) by omega), if_neg (show ¬ (p0.toInt = -12) by omega), if_neg (show ¬ (p0.toInt = -11) by omega), if_neg (show ¬ (p0.toInt = -10) by omega), if_neg (show ¬ (p0.toInt = -9) by omega), if_neg (show ¬ (p0.toInt = -8) by omega), if_neg (show ¬ (p0.toInt = -7) by omega), if_neg (show ¬ (p0.toInt = -6) by omega), if_neg (show ¬ (p0.toInt = -5) by omega), if_pos k3]), N0, rfl⟩
    · skip
      obtain ⟨fs, hr, hrun, hended, hW, hsame⟩ := X0.leave (v := (some .null)) (fun h => by rw [Bd.returns] at h; cases h)
      refine ⟨_, _, pre1 _ ?_, hrun, hended, _, _, rfl, ?_, ⟨_, rfl⟩, hW, hsame.mono (by decide) (by decide)⟩
      · show oS p e below s₁ m 1 #[oi p0] [(.int p0)] _
        refine XS.tswIn X0.here hx rfl (o := 143) (pc0 := 1) (pc' := 144) rfl (hb hby own_d1_1) rfl c2 (by rw [show p0.toInt = -3 from k3]; rfl) (by decide) (by decide) ?_
        show oS p e below s₁ m 144 #[oi p0] [] _
        refine XS.aconstNull X0.here hx rfl (hb hby own_d1_144) ?_
        show oS p e below s₁ m 145 #[oi p0] [.null] _
        exact retOut X0 hx Bd.returns rfl (Or.inr (Or.inr (Or.inr (Or.inr ⟨rfl, rfl, rfl⟩)))) (hb hby own_d1_145) hr
      · show own_Q1 Z p0 aW aT h0 n0 _ s₁.heap _
        rw [e0]
        exact ⟨congrArg some (by rw [own_f1, if_neg (show ¬ (p0.toInt = -16) by omega), if_neg (show ¬ (p0.toInt = -15) by omega), if_neg (show ¬ (p0.toInt = -14) by omega), if_neg (show ¬ (p0.toInt = -13) by omega), if_neg (show ¬ (p0.toInt = -12) by omega), if_neg (show ¬ (p0.toInt = -11) by omega), if_neg (show ¬ (p0.toInt = -10) by omega), if_neg (show ¬ (p0.toInt = -9) by omega), if_neg (show ¬ (p0.toInt = -8) by omega), if_neg (show ¬ (p0.toInt = -7) by omega), if_neg (show ¬ (p0.toInt = -6) by omega), if_neg (show ¬ (p0.toInt = -5) by omega), if_neg (show ¬ (p0.toInt = -4) by omega), if_pos k3]), N0, rfl⟩
    · skip
      obtain ⟨fs, hr, hrun, hended, hW, hsame⟩ := X0.leave (v := (some .null)) (fun h => by rw [Bd.returns] at h; cases h)
      refine ⟨_, _, pre1 _ ?_, hrun, hended, _, _, rfl, ?_, ⟨_, rfl⟩, hW, hsame.mono (by decide) (by decide)⟩
      · show oS p e below s₁ m 1 #[oi p0] [(.int p0)] _
        refine XS.tswIn X0.here hx rfl (o := 143) (pc0 := 1) (pc' := 144) rfl (hb hby own_d1_1) rfl c2 (by rw [show p0.toInt = -2 from k3]; rfl) (by decide) (by decide) ?_
        show oS p e below s₁ m 144 #[oi p0] [] _
        refine XS.aconstNull X0.here hx rfl (hb hby own_d1_144) ?_
        show oS p e below s₁ m 145 #[oi p0] [.null] _
        exact retOut X0 hx Bd.returns rfl (Or.inr (Or.inr (Or.inr (Or.inr ⟨rfl, rfl, rfl⟩)))) (hb hby own_d1_145) hr
      · show own_Q1 Z p0 aW aT h0 n0 _ s₁.heap _
        rw [e0]
        exact ⟨congrArg some (by rw [own_f1, if_neg (show ¬ (p0.toInt = -16) by omega), if_neg (show ¬ (p0.toInt = -15) by omega), if_neg (show ¬ (p0.toInt = -14) by omega), if_neg (show ¬ (p0.toInt = -13) by omega), if_neg (show ¬ (p0.toInt = -12) by omega), if_neg (show ¬ (p0.toInt = -11) by omega), if_neg (show ¬ (p0.toInt = -10) by omega), if_neg (show ¬ (p0.toInt = -9) by omega), if_neg (show ¬ (p0.toInt = -8) by omega), if_neg (show ¬ (p0.toInt = -7) by omega), if_neg (show ¬ (p0.toInt = -6) by omega), if_neg (show ¬ (p0.toInt = -5) by omega), if_neg (show ¬ (p0.toInt = -4) by omega), if_neg (show ¬ (p0.toInt = -3) by omega), if_pos k3]), N0, rfl⟩
    · skip
      obtain ⟨T8, X8, e8, st8⟩ := getS2 X0 hx hZ hown (host := "") (Or.inl (hw _ (List.mem_of_getElem? (i := 12) rfl))) Via.refl e0 S_TEXT (g := (mkF m 138 #[oi p0] [])) rfl (hb hby own_d1_138)
      obtain ⟨fs, hr, hrun, hended, hW, hsame⟩ := X8.leave (v := (some (.ref aT))) (fun h => by rw [Bd.returns] at h; cases h)
      refine ⟨_, _, pre1 _ ?_, hrun, hended, _, _, rfl, ?_, ⟨_, rfl⟩, hW, hsame.mono (by decide) (by decide)⟩
      · show oS p e below s₁ m 1 #[oi p0] [(.int p0)] _
        refine XS.tswIn X0.here hx rfl (o := 137) (pc0 := 1) (pc' := 138) rfl (hb hby own_d1_1) rfl c2 (by rw [show p0.toInt = -1 from k3]; rfl) (by decide) (by decide) ?_
        show oS p e below s₁ m 138 #[oi p0] [] _
        refine st8 _ ?_
        show oS p e below T8 m 141 #[oi p0] [(.ref aT)] _
        refine XS.goto X8.here hx rfl (pc0 := 141) (pc' := 145) rfl (hb hby own_d1_141) (by decide) (by decide) ?_
        show oS p e below T8 m 145 #[oi p0] [(.ref aT)] _
        exact retOut X8 hx Bd.returns rfl (Or.inr (Or.inr (Or.inr (Or.inr ⟨rfl, rfl, rfl⟩)))) (hb hby own_d1_145) hr
      · show own_Q1 Z p0 aW aT h0 n0 _ T8.heap _
        rw [e8]
        exact ⟨congrArg some (by rw [own_f1, if_neg (show ¬ (p0.toInt = -16) by omega), if_neg (show ¬ (p0.toInt = -15) by omega), if_neg (show ¬ (p0.toInt = -14) by omega), if_neg (show ¬ (p0.toInt = -13) by omega), if_neg (show ¬ (p0.toInt = -12) by omega), if_neg (show ¬ (p0.toInt = -11) by omega), if_neg (show ¬ (p0.toInt = -10) by omega), if_neg (show ¬ (p0.toInt = -9) by omega), if_neg (show ¬ (p0.toInt = -8) by omega), if_neg (show ¬ (p0.toInt = -7) by omega), if_neg (show ¬ (p0.toInt = -6) by omega), if_neg (show ¬ (p0.toInt = -5) by omega), if_neg (show ¬ (p0.toInt = -4) by omega), if_neg (show ¬ (p0.toInt = -3) by omega), if_neg (show ¬ (p0.toInt = -2) by omega), if_pos k3]), N0, rfl⟩
    · skip
      obtain ⟨fs, hr, hrun, hended, hW, hsame⟩ := X0.leave (v := (some .null)) (fun h => by rw [Bd.returns] at h; cases h)
      refine ⟨_, _, pre1 _ ?_, hrun, hended, _, _, rfl, ?_, ⟨_, rfl⟩, hW, hsame.mono (by decide) (by decide)⟩
      · show oS p e below s₁ m 1 #[oi p0] [(.int p0)] _
        refine XS.tswIn X0.here hx rfl (o := 143) (pc0 := 1) (pc' := 144) rfl (hb hby own_d1_1) rfl c2 (by rw [show p0.toInt = 0 from k3]; rfl) (by decide) (by decide) ?_
        show oS p e below s₁ m 144 #[oi p0] [] _
        refine XS.aconstNull X0.here hx rfl (hb hby own_d1_144) ?_
        show oS p e below s₁ m 145 #[oi p0] [.null] _
        exact retOut X0 hx Bd.returns rfl (Or.inr (Or.inr (Or.inr (Or.inr ⟨rfl, rfl, rfl⟩)))) (hb hby own_d1_145) hr
      · show own_Q1 Z p0 aW aT h0 n0 _ s₁.heap _
        rw [e0]
        exact ⟨congrArg some (by rw [own_f1, if_neg (show ¬ (p0.toInt = -16) by omega), if_neg (show ¬ (p0.toInt = -15) by omega), if_neg (show ¬ (p0.toInt = -14) by omega), if_neg (show ¬ (p0.toInt = -13) by omega), if_neg (show ¬ (p0.toInt = -12) by omega), if_neg (show ¬ (p0.toInt = -11) by omega), if_neg (show ¬ (p0.toInt = -10) by omega), if_neg (show ¬ (p0.toInt = -9) by omega), if_neg (show ¬ (p0.toInt = -8) by omega), if_neg (show ¬ (p0.toInt = -7) by omega), if_neg (show ¬ (p0.toInt = -6) by omega), if_neg (show ¬ (p0.toInt = -5) by omega), if_neg (show ¬ (p0.toInt = -4) by omega), if_neg (show ¬ (p0.toInt = -3) by omega), if_neg (show ¬ (p0.toInt = -2) by omega), if_neg (show ¬ (p0.toInt = -1) by omega), if_pos k3]), N0, rfl⟩
    · skip
      obtain ⟨fs, hr, hrun, hended, hW, hsame⟩ := X0.leave (v := (some .null)) (fun h => by rw [Bd.returns] at h; cases h)
      refine ⟨_, _, pre1 _ ?_, hrun, hended, _, _, rfl, ?_, ⟨_, rfl⟩, hW, hsame.mono (by decide) (by decide)⟩
      · show oS p e below s₁ m 1 #[oi p0] [(.int p0)] _
        refine XS.tswIn X0.here hx rfl (o := 143) (pc0 := 1) (pc' := 144) rfl (hb hby own_d1_1) rfl c2 (by rw [show p0.toInt = 1 from k3]; rfl) (by decide) (by decide) ?_
        show oS p e below s₁ m 144 #[oi p0] [] _
        refine XS.aconstNull X0.here hx rfl (hb hby own_d1_144) ?_
        show oS p e below s₁ m 145 #[oi p0] [.null] _
        exact retOut X0 hx Bd.returns rfl (Or.inr (Or.inr (Or.inr (Or.inr ⟨rfl, rfl, rfl⟩)))) (hb hby own_d1_145) hr
      · show own_Q1 Z p0 aW aT h0 n0 _ s₁.heap _
        rw [e0]
        exact ⟨congrArg some (by rw [own_f1, if_neg (show ¬ (p0.toInt = -16) by omega), if_neg (show ¬ (p0.toInt = -15) by omega), if_neg (show ¬ (p0.toInt = -14) by omega), if_neg (show ¬ (p0.toInt = -13) by omega), if_neg (show ¬ (p0.toInt = -12) by omega), if_neg (show ¬ (p0.toInt = -11) by omega), if_neg (show ¬ (p0.toInt = -10) by omega), if_neg (show ¬ (p0.toInt = -9) by omega), if_neg (show ¬ (p0.toInt = -8) by omega), if_neg (show ¬ (p0.toInt = -7) by omega), if_neg (show ¬ (p0.toInt = -6) by omega), if_neg (show ¬ (p0.toInt = -5) by omega), if_neg (show ¬ (p0.toInt = -4) by omega), if_neg (show ¬ (p0.toInt = -3) by omega), if_neg (show ¬ (p0.toInt = -2) by omega), if_neg (show ¬ (p0.toInt = -1) by omega), if_neg (show ¬ (p0.toInt = 0) by omega), if_pos k3]), N0, rfl⟩
    · skip
      obtain ⟨fs, hr, hrun, hended, hW, hsame⟩ := X0.leave (v := (some .null)) (fun h => by rw [Bd.returns] at h; cases h)
      refine ⟨_, _, pre1 _ ?_, hrun, hended, _, _, rfl, ?_, ⟨_, rfl⟩, hW, hsame.mono (by decide) (by decide)⟩
      · show oS p e below s₁ m 1 #[oi p0] [(.int p0)] _
        refine XS.tswIn X0.here hx rfl (o := 143) (pc0 := 1) (pc' := 144) rfl (hb hby own_d1_1) rfl c2 (by rw [show p0.toInt = 2 from k3]; rfl) (by decide) (by decide) ?_
        show oS p e below s₁ m 144 #[oi p0] [] _
        refine XS.aconstNull X0.here hx rfl (hb hby own_d1_144) ?_
        show oS p e below s₁ m 145 #[oi p0] [.null] _
        exact retOut X0 hx Bd.returns rfl (Or.inr (Or.inr (Or.inr (Or.inr ⟨rfl, rfl, rfl⟩)))) (hb hby own_d1_145) hr
      · show own_Q1 Z p0 aW aT h0 n0 _ s₁.heap _
        rw [e0]
        exact ⟨congrArg some (by rw [own_f1, if_neg (show ¬ (p0.toInt = -16) by omega), if_neg (show ¬ (p0.toInt = -15) by omega), if_neg (show ¬ (p0.toInt = -14) by omega), if_neg (show ¬ (p0.toInt = -13) by omega), if_neg (show ¬ (p0.toInt = -12) by omega), if_neg (show ¬ (p0.toInt = -11) by omega), if_neg (show ¬ (p0.toInt = -10) by omega), if_neg (show ¬ (p0.toInt = -9) by omega), if_neg (show ¬ (p0.toInt = -8) by omega), if_neg (show ¬ (p0.toInt = -7) by omega), if_neg (show ¬ (p0.toInt = -6) by omega), if_neg (show ¬ (p0.toInt = -5) by omega), if_neg (show ¬ (p0.toInt = -4) by omega), if_neg (show ¬ (p0.toInt = -3) by omega), if_neg (show ¬ (p0.toInt = -2) by omega), if_neg (show ¬ (p0.toInt = -1) by omega), if_neg (show ¬ (p0.toInt = 0) by omega), if_neg (show ¬ (p0.toInt = 1) by omega), if_pos k3]), N0, rfl⟩
    · skip
      obtain ⟨fs, hr, hrun, hended, hW, hsame⟩ := X0.leave (v := (some .null)) (fun h => by rw [Bd.returns] at h; cases h)
      refine ⟨_, _, pre1 _ ?_, hrun, hended, _, _, rfl, ?_, ⟨_, rfl⟩, hW, hsame.mono (by decide) (by decide)⟩
      · show oS p e below s₁ m 1 #[oi p0] [(.int p0)] _
        refine XS.tswIn X0.here hx rfl (o := 143) (pc0 := 1) (pc' := 144) rfl (hb hby own_d1_1) rfl c2 (by rw [show p0.toInt = 3 from k3]; rfl) (by decide) (by decide) ?_
        show oS p e below s₁ m 144 #[oi p0] [] _
        refine XS.aconstNull X0.here hx rfl (hb hby own_d1_144) ?_
        show oS p e below s₁ m 145 #[oi p0] [.null] _
        exact retOut X0 hx Bd.returns rfl (Or.inr (Or.inr (Or.inr (Or.inr ⟨rfl, rfl, rfl⟩)))) (hb hby own_d1_145) hr
      · show own_Q1 Z p0 aW aT h0 n0 _ s₁.heap _
        rw [e0]
        exact ⟨congrArg some (by rw [own_f1, if_neg (show ¬ (p0.toInt = -16) by omega), if_neg (show ¬ (p0.toInt = -15) by omega), if_neg (show ¬ (p0.toInt = -14) by omega), if_neg (show ¬ (p0.toInt = -13) by omega), if_neg (show ¬ (p0.toInt = -12) by omega), if_neg (show ¬ (p0.toInt = -11) by omega), if_neg (show ¬ (p0.toInt = -10) by omega), if_neg (show ¬ (p0.toInt = -9) by omega), if_neg (show ¬ (p0.toInt = -8) by omega), if_neg (show ¬ (p0.toInt = -7) by omega), if_neg (show ¬ (p0.toInt = -6) by omega), if_neg (show ¬ (p0.toInt = -5) by omega), if_neg (show ¬ (p0.toInt = -4) by omega), if_neg (show ¬ (p0.toInt = -3) by omega), if_neg (show ¬ (p0.toInt = -2) by omega), if_neg (show ¬ (p0.toInt = -1) by omega), if_neg (show ¬ (p0.toInt = 0) by omega), if_neg (show ¬ (p0.toInt = 1) by omega), if_neg (show ¬ (p0.toInt = 2) by omega), if_pos k3]), N0, rfl⟩
    · skip
      obtain ⟨T9, X9, e9, st9⟩ := getS2 X0 hx hZ hown (host := "") (Or.inl (hw _ (List.mem_of_getElem? (i := 5) rfl))) Via.refl e0 S_WHOLE_NUMBER (g := (mkF m 132 #[oi p0] [])) rfl (hb hby own_d1_132)
      obtain ⟨fs, hr, hrun, hended, hW, hsame⟩ := X9.leave (v := (some (.ref aW))) (fun h => by rw [Bd.returns] at h; cases h)
      refine ⟨_, _, pre1 _ ?_, hrun, hended, _, _, rfl, ?_, ⟨_, rfl⟩, hW, hsame.mono (by decide) (by decide)⟩
      · show oS p e below s₁ m 1 #[oi p0] [(.int p0)] _
        refine XS.tswIn X0.here hx rfl (o := 131) (pc0 := 1) (pc' := 132) rfl (hb hby own_d1_1) rfl c2 (by rw [show p0.toInt = 4 from k3]; rfl) (by decide) (by decide) ?_
        show oS p e below s₁ m 132 #[oi p0] [] _
        refine st9 _ ?_
        show oS p e below T9 m 135 #[oi p0] [(.ref aW)] _
        refine XS.goto X9.here hx rfl (pc0 := 135) (pc' := 145) rfl (hb hby own_d1_135) (by decide) (by decide) ?_
        show oS p e below T9 m 145 #[oi p0] [(.ref aW)] _
        exact retOut X9 hx Bd.returns rfl (Or.inr (Or.inr (Or.inr (Or.inr ⟨rfl, rfl, rfl⟩)))) (hb hby own_d1_145) hr
      · show own_Q1 Z p0 aW aT h0 n0 _ T9.heap _
        rw [e9]
        exact ⟨congrArg some (by rw [own_f1, if_neg (show ¬ (p0.toInt = -16) by omega), if_neg (show ¬ (p0.toInt = -15) by omega), if_neg (show ¬ (p0.toInt = -14) by omega), if_neg (show ¬ (p0.toInt = -13) by omega), if_neg (show ¬ (p0.toInt = -12) by omega), if_neg (show ¬ (p0.toInt = -11) by omega), if_neg (show ¬ (p0.toInt = -10) by omega), if_neg (show ¬ (p0.toInt = -9) by omega), if_neg (show ¬ (p0.toInt = -8) by omega), if_neg (show ¬ (p0.toInt = -7) by omega), if_neg (show ¬ (p0.toInt = -6) by omega), if_neg (show ¬ (p0.toInt = -5) by omega), if_neg (show ¬ (p0.toInt = -4) by omega), if_neg (show ¬ (p0.toInt = -3) by omega), if_neg (show ¬ (p0.toInt = -2) by omega), if_neg (show ¬ (p0.toInt = -1) by omega), if_neg (show ¬ (p0.toInt = 0) by omega), if_neg (show ¬ (p0.toInt = 1) by omega), if_neg (show ¬ (p0.toInt = 2) by omega), if_neg (show ¬ (p0.toInt = 3) by omega), if_pos k3]), N0, rfl⟩
    · skip
      obtain ⟨T10, X10, e10, st10⟩ := getS2 X0 hx hZ hown (host := "") (Or.inl (hw _ (List.mem_of_getElem? (i := 5) rfl))) Via.refl e0 S_WHOLE_NUMBER (g := (mkF m 132 #[oi p0] [])) rfl (hb hby own_d1_132)
      obtain ⟨fs, hr, hrun, hended, hW, hsame⟩ := X10.leave (v := (some (.ref aW))) (fun h => by rw [Bd.returns] at h; cases h)
      refine ⟨_, _, pre1 _ ?_, hrun, hended, _, _, rfl, ?_, ⟨_, rfl⟩, hW, hsame.mono (by decide) (by decide)⟩
      · show oS p e below s₁ m 1 #[oi p0] [(.int p0)] _
        refine XS.tswIn X0.here hx rfl (o := 131) (pc0 := 1) (pc' := 132) rfl (hb hby own_d1_1) rfl c2 (by rw [show p0.toInt = 5 from k3]; rfl) (by decide) (by decide) ?_
        show oS p e below s₁ m 132 #[oi p0] [] _
        refine st10 _ ?_
        show oS p e below T10 m 135 #[oi p0] [(.ref aW)] _
        refine XS.goto X10.here hx rfl (pc0 := 135) (pc' := 145) rfl (hb hby own_d1_135) (by decide) (by decide) ?_
        show oS p e below T10 m 145 #[oi p0] [(.ref aW)] _
        exact retOut X10 hx Bd.returns rfl (Or.inr (Or.inr (Or.inr (Or.inr ⟨rfl, rfl, rfl⟩)))) (hb hby own_d1_145) hr
      · show own_Q1 Z p0 aW aT h0 n0 _ T10.heap _
        rw [e10]
        exact ⟨congrArg some (by rw [own_f1, if_neg (show ¬ (p0.toInt = -16) by omega), if_neg (show ¬ (p0.toInt = -15) by omega), if_neg (show ¬ (p0.toInt = -14) by omega), if_neg (show ¬ (p0.toInt = -13) by omega), if_neg (show ¬ (p0.toInt = -12) by omega), if_neg (show ¬ (p0.toInt = -11) by omega), if_neg (show ¬ (p0.toInt = -10) by omega), if_neg (show ¬ (p0.toInt = -9) by omega), if_neg (show ¬ (p0.toInt = -8) by omega), if_neg (show ¬ (p0.toInt = -7) by omega), if_neg (show ¬ (p0.toInt = -6) by omega), if_neg (show ¬ (p0.toInt = -5) by omega), if_neg (show ¬ (p0.toInt = -4) by omega), if_neg (show ¬ (p0.toInt = -3) by omega), if_neg (show ¬ (p0.toInt = -2) by omega), if_neg (show ¬ (p0.toInt = -1) by omega), if_neg (show ¬ (p0.toInt = 0) by omega), if_neg (show ¬ (p0.toInt = 1) by omega), if_neg (show ¬ (p0.toInt = 2) by omega), if_neg (show ¬ (p0.toInt = 3) by omega), if_neg (show ¬ (p0.toInt = 4) by omega), if_pos k3]), N0, rfl⟩
    · skip
      obtain ⟨fs, hr, hrun, hended, hW, hsame⟩ := X0.leave (v := (some .null)) (fun h => by rw [Bd.returns] at h; cases h)
      refine ⟨_, _, pre1 _ ?_, hrun, hended, _, _, rfl, ?_, ⟨_, rfl⟩, hW, hsame.mono (by decide) (by decide)⟩
      · show oS p e below s₁ m 1 #[oi p0] [(.int p0)] _
        refine XS.tswIn X0.here hx rfl (o := 143) (pc0 := 1) (pc' := 144) rfl (hb hby own_d1_1) rfl c2 (by rw [show p0.toInt = 6 from k3]; rfl) (by decide) (by decide) ?_
        show oS p e below s₁ m 144 #[oi p0] [] _
        refine XS.aconstNull X0.here hx rfl (hb hby own_d1_144) ?_
        show oS p e below s₁ m 145 #[oi p0] [.null] _
        exact retOut X0 hx Bd.returns rfl (Or.inr (Or.inr (Or.inr (Or.inr ⟨rfl, rfl, rfl⟩)))) (hb hby own_d1_145) hr
      · show own_Q1 Z p0 aW aT h0 n0 _ s₁.heap _
        rw [e0]
        exact ⟨congrArg some (by rw [own_f1, if_neg (show ¬ (p0.toInt = -16) by omega), if_neg (show ¬ (p0.toInt = -15) by omega), if_neg (show ¬ (p0.toInt = -14) by omega), if_neg (show ¬ (p0.toInt = -13) by omega), if_neg (show ¬ (p0.toInt = -12) by omega), if_neg (show ¬ (p0.toInt = -11) by omega), if_neg (show ¬ (p0.toInt = -10) by omega), if_neg (show ¬ (p0.toInt = -9) by omega), if_neg (show ¬ (p0.toInt = -8) by omega), if_neg (show ¬ (p0.toInt = -7) by omega), if_neg (show ¬ (p0.toInt = -6) by omega), if_neg (show ¬ (p0.toInt = -5) by omega), if_neg (show ¬ (p0.toInt = -4) by omega), if_neg (show ¬ (p0.toInt = -3) by omega), if_neg (show ¬ (p0.toInt = -2) by omega), if_neg (show ¬ (p0.toInt = -1) by omega), if_neg (show ¬ (p0.toInt = 0) by omega), if_neg (show ¬ (p0.toInt = 1) by omega), if_neg (show ¬ (p0.toInt = 2) by omega), if_neg (show ¬ (p0.toInt = 3) by omega), if_neg (show ¬ (p0.toInt = 4) by omega), if_neg (show ¬ (p0.toInt = 5) by omega), if_pos k3]), N0, rfl⟩
    · skip
      obtain ⟨fs, hr, hrun, hended, hW, hsame⟩ := X0.leave (v := (some .null)) (fun h => by rw [Bd.returns] at h; cases h)
      refine ⟨_, _, pre1 _ ?_, hrun, hended, _, _, rfl, ?_, ⟨_, rfl⟩, hW, hsame.mono (by decide) (by decide)⟩
      · show oS p e below s₁ m 1 #[oi p0] [(.int p0)] _
        refine XS.tswIn X0.here hx rfl (o := 143) (pc0 := 1) (pc' := 144) rfl (hb hby own_d1_1) rfl c2 (by rw [show p0.toInt = 7 from k3]; rfl) (by decide) (by decide) ?_
        show oS p e below s₁ m 144 #[oi p0] [] _
        refine XS.aconstNull X0.here hx rfl (hb hby own_d1_144) ?_
        show oS p e below s₁ m 145 #[oi p0] [.null] _
        exact retOut X0 hx Bd.returns rfl (Or.inr (Or.inr (Or.inr (Or.inr ⟨rfl, rfl, rfl⟩)))) (hb hby own_d1_145) hr
      · show own_Q1 Z p0 aW aT h0 n0 _ s₁.heap _
        rw [e0]
        exact ⟨congrArg some (by rw [own_f1, if_neg (show ¬ (p0.toInt = -16) by omega), if_neg (show ¬ (p0.toInt = -15) by omega), if_neg (show ¬ (p0.toInt = -14) by omega), if_neg (show ¬ (p0.toInt = -13) by omega), if_neg (show ¬ (p0.toInt = -12) by omega), if_neg (show ¬ (p0.toInt = -11) by omega), if_neg (show ¬ (p0.toInt = -10) by omega), if_neg (show ¬ (p0.toInt = -9) by omega), if_neg (show ¬ (p0.toInt = -8) by omega), if_neg (show ¬ (p0.toInt = -7) by omega), if_neg (show ¬ (p0.toInt = -6) by omega), if_neg (show ¬ (p0.toInt = -5) by omega), if_neg (show ¬ (p0.toInt = -4) by omega), if_neg (show ¬ (p0.toInt = -3) by omega), if_neg (show ¬ (p0.toInt = -2) by omega), if_neg (show ¬ (p0.toInt = -1) by omega), if_neg (show ¬ (p0.toInt = 0) by omega), if_neg (show ¬ (p0.toInt = 1) by omega), if_neg (show ¬ (p0.toInt = 2) by omega), if_neg (show ¬ (p0.toInt = 3) by omega), if_neg (show ¬ (p0.toInt = 4) by omega), if_neg (show ¬ (p0.toInt = 5) by omega), if_neg (show ¬ (p0.toInt = 6) by omega), if_pos k3]), N0, rfl⟩
    · skip
      obtain ⟨fs, hr, hrun, hended, hW, hsame⟩ := X0.leave (v := (some .null)) (fun h => by rw [Bd.returns] at h; cases h)
      refine ⟨_, _, pre1 _ ?_, hrun, hended, _, _, rfl, ?_, ⟨_, rfl⟩, hW, hsame.mono (by decide) (by decide)⟩
      · show oS p e below s₁ m 1 #[oi p0] [(.int p0)] _
        refine XS.tswIn X0.here hx rfl (o := 143) (pc0 := 1) (pc' := 144) rfl (hb hby own_d1_1) rfl c2 (by rw [show p0.toInt = 8 from k3]; rfl) (by decide) (by decide) ?_
        show oS p e below s₁ m 144 #[oi p0] [] _
        refine XS.aconstNull X0.here hx rfl (hb hby own_d1_144) ?_
        show oS p e below s₁ m 145 #[oi p0] [.null] _
        exact retOut X0 hx Bd.returns rfl (Or.inr (Or.inr (Or.inr (Or.inr ⟨rfl, rfl, rfl⟩)))) (hb hby own_d1_145) hr
      · show own_Q1 Z p0 aW aT h0 n0 _ s₁.heap _
        rw [e0]
        exact ⟨congrArg some (by rw [own_f1, if_neg (show ¬ (p0.toInt = -16) by omega), if_neg (show ¬ (p0.toInt = -15) by omega), if_neg (show ¬ (p0.toInt = -14) by omega), if_neg (show ¬ (p0.toInt = -13) by omega), if_neg (show ¬ (p0.toInt = -12) by omega), if_neg (show ¬ (p0.toInt = -11) by omega), if_neg (show ¬ (p0.toInt = -10) by omega), if_neg (show ¬ (p0.toInt = -9) by omega), if_neg (show ¬ (p0.toInt = -8) by omega), if_neg (show ¬ (p0.toInt = -7) by omega), if_neg (show ¬ (p0.toInt = -6) by omega), if_neg (show ¬ (p0.toInt = -5) by omega), if_neg (show ¬ (p0.toInt = -4) by omega), if_neg (show ¬ (p0.toInt = -3) by omega), if_neg (show ¬ (p0.toInt = -2) by omega), if_neg (show ¬ (p0.toInt = -1) by omega), if_neg (show ¬ (p0.toInt = 0) by omega), if_neg (show ¬ (p0.toInt = 1) by omega), if_neg (show ¬ (p0.toInt = 2) by omega), if_neg (show ¬ (p0.toInt = 3) by omega), if_neg (show ¬ (p0.toInt = 4) by omega), if_neg (show ¬ (p0.toInt = 5) by omega), if_neg (show ¬ (p0.toInt = 6) by omega), if_neg (show ¬ (p0.toInt = 7) by omega), if_pos k3]), N0, rfl⟩
    · skip
      obtain ⟨fs, hr, hrun, hended, hW, hsame⟩ := X0.leave (v := (some .null)) (fun h => by rw [Bd.returns] at h; cases h)
      refine ⟨_, _, pre1 _ ?_, hrun, hended, _, _, rfl, ?_, ⟨_, rfl⟩, hW, hsame.mono (by decide) (by decide)⟩
      · show oS p e below s₁ m 1 #[oi p0] [(.int p0)] _
        refine XS.tswIn X0.here hx rfl (o := 143) (pc0 := 1) (pc' := 144) rfl (hb hby own_d1_1) rfl c2 (by rw [show p0.toInt = 9 from k3]; rfl) (by decide) (by decide) ?_
        show oS p e below s₁ m 144 #[oi p0] [] _
        refine XS.aconstNull X0.here hx rfl (hb hby own_d1_144) ?_
        show oS p e below s₁ m 145 #[oi p0] [.null] _
        exact retOut X0 hx Bd.returns rfl (Or.inr (Or.inr (Or.inr (Or.inr ⟨rfl, rfl, rfl⟩)))) (hb hby own_d1_145) hr
      · show own_Q1 Z p0 aW aT h0 n0 _ s₁.heap _
        rw [e0]
        exact ⟨congrArg some (by rw [own_f1, if_neg (show ¬ (p0.toInt = -16) by omega), if_neg (show ¬ (p0.toInt = -15) by omega), if_neg (show ¬ (p0.toInt = -14) by omega), if_neg (show ¬ (p0.toInt = -13) by omega), if_neg (show ¬ (p0.toInt = -12) by omega), if_neg (show ¬ (p0.toInt = -11) by omega), if_neg (show ¬ (p0.toInt = -10) by omega), if_neg (show ¬ (p0.toInt = -9) by omega), if_neg (show ¬ (p0.toInt = -8) by omega), if_neg (show ¬ (p0.toInt = -7) by omega), if_neg (show ¬ (p0.toInt = -6) by omega), if_neg (show ¬ (p0.toInt = -5) by omega), if_neg (show ¬ (p0.toInt = -4) by omega), if_neg (show ¬ (p0.toInt = -3) by omega), if_neg (show ¬ (p0.toInt = -2) by omega), if_neg (show ¬ (p0.toInt = -1) by omega), if_neg (show ¬ (p0.toInt = 0) by omega), if_neg (show ¬ (p0.toInt = 1) by omega), if_neg (show ¬ (p0.toInt = 2) by omega), if_neg (show ¬ (p0.toInt = 3) by omega), if_neg (show ¬ (p0.toInt = 4) by omega), if_neg (show ¬ (p0.toInt = 5) by omega), if_neg (show ¬ (p0.toInt = 6) by omega), if_neg (show ¬ (p0.toInt = 7) by omega), if_neg (show ¬ (p0.toInt = 8) by omega), if_pos k3]), N0, rfl⟩
    · skip
      obtain ⟨fs, hr, hrun, hended, hW, hsame⟩ := X0.leave (v := (some .null)) (fun h => by rw [Bd.returns] at h; cases h)
      refine ⟨_, _, pre1 _ ?_, hrun, hended, _, _, rfl, ?_, ⟨_, rfl⟩, hW, hsame.mono (by decide) (by decide)⟩
      · show oS p e below s₁ m 1 #[oi p0] [(.int p0)] _
        refine XS.tswIn X0.here hx rfl (o := 143) (pc0 := 1) (pc' := 144) rfl (hb hby own_d1_1) rfl c2 (by rw [show p0.toInt = 10 from k3]; rfl) (by decide) (by decide) ?_
        show oS p e below s₁ m 144 #[oi p0] [] _
        refine XS.aconstNull X0.here hx rfl (hb hby own_d1_144) ?_
        show oS p e below s₁ m 145 #[oi p0] [.null] _
        exact retOut X0 hx Bd.returns rfl (Or.inr (Or.inr (Or.inr (Or.inr ⟨rfl, rfl, rfl⟩)))) (hb hby own_d1_145) hr
      · show own_Q1 Z p0 aW aT h0 n0 _ s₁.heap _
        rw [e0]
        exact ⟨congrArg some (by rw [own_f1, if_neg (show ¬ (p0.toInt = -16) by omega), if_neg (show ¬ (p0.toInt = -15) by omega), if_neg (show ¬ (p0.toInt = -14) by omega), if_neg (show ¬ (p0.toInt = -13) by omega), if_neg (show ¬ (p0.toInt = -12) by omega), if_neg (show ¬ (p0.toInt = -11) by omega), if_neg (show ¬ (p0.toInt = -10) by omega), if_neg (show ¬ (p0.toInt = -9) by omega), if_neg (show ¬ (p0.toInt = -8) by omega), if_neg (show ¬ (p0.toInt = -7) by omega), if_neg (show ¬ (p0.toInt = -6) by omega), if_neg (show ¬ (p0.toInt = -5) by omega), if_neg (show ¬ (p0.toInt = -4) by omega), if_neg (show ¬ (p0.toInt = -3) by omega), if_neg (show ¬ (p0.toInt = -2) by omega), if_neg (show ¬ (p0.toInt = -1) by omega), if_neg (show ¬ (p0.toInt = 0) by omega), if_neg (show ¬ (p0.toInt = 1) by omega), if_neg (show ¬ (p0.toInt = 2) by omega), if_neg (show ¬ (p0.toInt = 3) by omega), if_neg (show ¬ (p0.toInt = 4) by omega), if_neg (show ¬ (p0.toInt = 5) by omega), if_neg (show ¬ (p0.toInt = 6) by omega), if_neg (show ¬ (p0.toInt = 7) by omega), if_neg (show ¬ (p0.toInt = 8) by omega), if_neg (show ¬ (p0.toInt = 9) by omega), if_pos k3]), N0, rfl⟩
    · skip
      obtain ⟨fs, hr, hrun, hended, hW, hsame⟩ := X0.leave (v := (some .null)) (fun h => by rw [Bd.returns] at h; cases h)
      refine ⟨_, _, pre1 _ ?_, hrun, hended, _, _, rfl, ?_, ⟨_, rfl⟩, hW, hsame.mono (by decide) (by decide)⟩
      · show oS p e below s₁ m 1 #[oi p0] [(.int p0)] _
        refine XS.tswIn X0.here hx rfl (o := 143) (pc0 := 1) (pc' := 144) rfl (hb hby own_d1_1) rfl c2 (by rw [show p0.toInt = 11 from k3]; rfl) (by decide) (by decide) ?_
        show oS p e below s₁ m 144 #[oi p0] [] _
        refine XS.aconstNull X0.here hx rfl (hb hby own_d1_144) ?_
        show oS p e below s₁ m 145 #[oi p0] [.null] _
        exact retOut X0 hx Bd.returns rfl (Or.inr (Or.inr (Or.inr (Or.inr ⟨rfl, rfl, rfl⟩)))) (hb hby own_d1_145) hr
      · show own_Q1 Z p0 aW aT h0 n0 _ s₁.heap _
        rw [e0]
        exact ⟨congrArg some (by rw [own_f1, if_neg (show ¬ (p0.toInt = -16) by omega), if_neg (show ¬ (p0.toInt = -15) by omega), if_neg (show ¬ (p0.toInt = -14) by omega), if_neg (show ¬ (p0.toInt = -13) by omega), if_neg (show ¬ (p0.toInt = -12) by omega), if_neg (show ¬ (p0.toInt = -11) by omega), if_neg (show ¬ (p0.toInt = -10) by omega), if_neg (show ¬ (p0.toInt = -9) by omega), if_neg (show ¬ (p0.toInt = -8) by omega), if_neg (show ¬ (p0.toInt = -7) by omega), if_neg (show ¬ (p0.toInt = -6) by omega), if_neg (show ¬ (p0.toInt = -5) by omega), if_neg (show ¬ (p0.toInt = -4) by omega), if_neg (show ¬ (p0.toInt = -3) by omega), if_neg (show ¬ (p0.toInt = -2) by omega), if_neg (show ¬ (p0.toInt = -1) by omega), if_neg (show ¬ (p0.toInt = 0) by omega), if_neg (show ¬ (p0.toInt = 1) by omega), if_neg (show ¬ (p0.toInt = 2) by omega), if_neg (show ¬ (p0.toInt = 3) by omega), if_neg (show ¬ (p0.toInt = 4) by omega), if_neg (show ¬ (p0.toInt = 5) by omega), if_neg (show ¬ (p0.toInt = 6) by omega), if_neg (show ¬ (p0.toInt = 7) by omega), if_neg (show ¬ (p0.toInt = 8) by omega), if_neg (show ¬ (p0.toInt = 9) by omega), if_neg (show ¬ (p0.toInt = 10) by omega), if_pos k3]), N0, rfl⟩
    · skip
      obtain ⟨T11, X11, e11, st11⟩ := getS2 X0 hx hZ hown (host := "") (Or.inl (hw _ (List.mem_of_getElem? (i := 12) rfl))) Via.refl e0 S_TEXT (g := (mkF m 138 #[oi p0] [])) rfl (hb hby own_d1_138)
      obtain ⟨fs, hr, hrun, hended, hW, hsame⟩ := X11.leave (v := (some (.ref aT))) (fun h => by rw [Bd.returns] at h; cases h)
      refine ⟨_, _, pre1 _ ?_, hrun, hended, _, _, rfl, ?_, ⟨_, rfl⟩, hW, hsame.mono (by decide) (by decide)⟩
      · show oS p e below s₁ m 1 #[oi p0] [(.int p0)] _
        refine XS.tswIn X0.here hx rfl (o := 137) (pc0 := 1) (pc' := 138) rfl (hb hby own_d1_1) rfl c2 (by rw [show p0.toInt = 12 from k3]; rfl) (by decide) (by decide) ?_
        show oS p e below s₁ m 138 #[oi p0] [] _
        refine st11 _ ?_
        show oS p e below T11 m 141 #[oi p0] [(.ref aT)] _
        refine XS.goto X11.here hx rfl (pc0 := 141) (pc' := 145) rfl (hb hby own_d1_141) (by decide) (by decide) ?_
        show oS p e below T11 m 145 #[oi p0] [(.ref aT)] _
        exact retOut X11 hx Bd.returns rfl (Or.inr (Or.inr (Or.inr (Or.inr ⟨rfl, rfl, rfl⟩)))) (hb hby own_d1_145) hr
      · show own_Q1 Z p0 aW aT h0 n0 _ T11.heap _
        rw [e11]
        exact ⟨congrArg some (by rw [own_f1, if_neg (show ¬ (p0.toInt = -16) by omega), if_neg (show ¬ (p0.toInt = -15) by omega), if_neg (show ¬ (p0.toInt = -14) by omega), if_neg (show ¬ (p0.toInt = -13) by omega), if_neg (show ¬ (p0.toInt = -12) by omega), if_neg (show ¬ (p0.toInt = -11) by omega), if_neg (show ¬ (p0.toInt = -10) by omega), if_neg (show ¬ (p0.toInt = -9) by omega), if_neg (show ¬ (p0.toInt = -8) by omega), if_neg (show ¬ (p0.toInt = -7) by omega), if_neg (show ¬ (p0.toInt = -6) by omega), if_neg (show ¬ (p0.toInt = -5) by omega), if_neg (show ¬ (p0.toInt = -4) by omega), if_neg (show ¬ (p0.toInt = -3) by omega), if_neg (show ¬ (p0.toInt = -2) by omega), if_neg (show ¬ (p0.toInt = -1) by omega), if_neg (show ¬ (p0.toInt = 0) by omega), if_neg (show ¬ (p0.toInt = 1) by omega), if_neg (show ¬ (p0.toInt = 2) by omega), if_neg (show ¬ (p0.toInt = 3) by omega), if_neg (show ¬ (p0.toInt = 4) by omega), if_neg (show ¬ (p0.toInt = 5) by omega), if_neg (show ¬ (p0.toInt = 6) by omega), if_neg (show ¬ (p0.toInt = 7) by omega), if_neg (show ¬ (p0.toInt = 8) by omega), if_neg (show ¬ (p0.toInt = 9) by omega), if_neg (show ¬ (p0.toInt = 10) by omega), if_neg (show ¬ (p0.toInt = 11) by omega), if_pos k3]), N0, rfl⟩
theorem own_pn1 : plainName "com/example/spanwood/spanwood/store/KeyTypeOfPinLaw" = true := by first | (simp [plainName, overriddenIn]; done) | decide +kernel
theorem own_d2_0 : decode method_2_code 0 = .ok (.iload_n 0, 1) := by decide +kernel
theorem own_d2_1 : decode method_2_code 1 = .ok (.bipush (-6), 2) := by decide +kernel
theorem own_d2_3 : decode method_2_code 3 = .ok (.if_icmp .eq 19, 3) := by decide +kernel
theorem own_d2_6 : decode method_2_code 6 = .ok (.iload_n 0, 1) := by decide +kernel
theorem own_d2_7 : decode method_2_code 7 = .ok (.iconst 5, 1) := by decide +kernel
theorem own_d2_8 : decode method_2_code 8 = .ok (.if_icmp .eq 14, 3) := by decide +kernel
theorem own_d2_11 : decode method_2_code 11 = .ok (.iload_n 0, 1) := by decide +kernel
theorem own_d2_12 : decode method_2_code 12 = .ok (.iconst 4, 1) := by decide +kernel
theorem own_d2_13 : decode method_2_code 13 = .ok (.if_icmp .eq 9, 3) := by decide +kernel
theorem own_d2_16 : decode method_2_code 16 = .ok (.iload_n 0, 1) := by decide +kernel
theorem own_d2_17 : decode method_2_code 17 = .ok (.bipush (-5), 2) := by decide +kernel
theorem own_d2_19 : decode method_2_code 19 = .ok (.if_icmp .ne 7, 3) := by decide +kernel
theorem own_d2_22 : decode method_2_code 22 = .ok (.getstatic 7, 3) := by decide +kernel
theorem own_d2_25 : decode method_2_code 25 = .ok (.areturn, 1) := by decide +kernel
theorem own_d2_26 : decode method_2_code 26 = .ok (.iload_n 0, 1) := by decide +kernel
theorem own_d2_27 : decode method_2_code 27 = .ok (.bipush 12, 2) := by decide +kernel
theorem own_d2_29 : decode method_2_code 29 = .ok (.if_icmp .eq 20, 3) := by decide +kernel
theorem own_d2_32 : decode method_2_code 32 = .ok (.iload_n 0, 1) := by decide +kernel
theorem own_d2_33 : decode method_2_code 33 = .ok (.bipush (-9), 2) := by decide +kernel
theorem own_d2_35 : decode method_2_code 35 = .ok (.if_icmp .eq 14, 3) := by decide +kernel
theorem own_d2_38 : decode method_2_code 38 = .ok (.iload_n 0, 1) := by decide +kernel
theorem own_d2_39 : decode method_2_code 39 = .ok (.iconst (-1), 1) := by decide +kernel
theorem own_d2_40 : decode method_2_code 40 = .ok (.if_icmp .eq 9, 3) := by decide +kernel
theorem own_d2_43 : decode method_2_code 43 = .ok (.iload_n 0, 1) := by decide +kernel
theorem own_d2_44 : decode method_2_code 44 = .ok (.bipush (-16), 2) := by decide +kernel
theorem own_d2_46 : decode method_2_code 46 = .ok (.if_icmp .ne 7, 3) := by decide +kernel
theorem own_d2_49 : decode method_2_code 49 = .ok (.getstatic 13, 3) := by decide +kernel
theorem own_d2_52 : decode method_2_code 52 = .ok (.areturn, 1) := by decide +kernel
theorem own_d2_53 : decode method_2_code 53 = .ok (.aconst_null, 1) := by decide +kernel
theorem own_d2_54 : decode method_2_code 54 = .ok (.areturn, 1) := by decide +kernel
theorem own_ef2 (m : MethodId) (p0 : Int32) : entryFrame m #[(.int p0)] 1 = mkF m 0 #[oi p0] [] := by first | (simp [entryFrame, mkF, argsToLocals, Value.category]; done) | rfl
def own_f2 (p0 : Int32) (aW : Addr) (aT : Addr) : Value := (if p0 = (-6 : Int32) then (.ref aW) else (if p0 = (5 : Int32) then (.ref aW) else (if p0 = (4 : Int32) then (.ref aW) else (if p0 = (-5 : Int32) then (.ref aW) else (if p0 = (12 : Int32) then (.ref aT) else (if p0 = (-9 : Int32) then (.ref aT) else (if p0 = (-1 : Int32) then (.ref aT) else (if p0 = (-16 : Int32) then (.ref aT) else .null))))))))
def own_Q2 (Z : State) (p0 : Int32) (aW : Addr) (aT : Addr) (h0 : Heap) (n0 : Nat) (v : Option Value) (h : Heap) (L : List Loc) : Prop := v = some (own_f2 p0 aW aT) ∧ Fr n0 L ∧ h = h0
set_option maxRecDepth 65536 in
set_option maxHeartbeats 40000000 in
theorem own_rm2 (l : Launch) (Z : State) (av : Array Value) (hw : ∀ d ∈ tables_1, d.before av Z = true) (ws : List Jvm.Cond) (p0 : Int32) (aW : Addr) (aT : Addr) (h0 : Heap) (n0 : Nat) (Z0 : n0 ≤ h0.size) (S_WHOLE_NUMBER : Sta Z h0 "com/example/spanwood/spanwood/store/KeyType" "WHOLE_NUMBER" "Lcom/example/spanwood/spanwood/store/KeyType;" (.ref aW)) (S_TEXT : Sta Z h0 "com/example/spanwood/spanwood/store/KeyType" "TEXT" "Lcom/example/spanwood/spanwood/store/KeyType;" (.ref aT)) :
    MetFree l (⟨"com/example/spanwood/spanwood/store/KeyTypeOfPinLaw", "expected", "(I)Lcom/example/spanwood/spanwood/store/KeyType;"⟩ : MethodName) (head1 (Jvm.Cond.code (⟨"com/example/spanwood/spanwood/store/KeyTypeOfPinLaw", "expected", "(I)Lcom/example/spanwood/spanwood/store/KeyType;"⟩ : MethodName) method_2_code 1 (some (.object "com/example/spanwood/spanwood/store/KeyType")) :: ws) ({ frames := 0, cells := 0, slots := 0, locals := 0 } : Room)) (fun a U => a = #[(.int p0)] ∧ Z.Warmed39 U.vm ∧ U.heap = h0) (fun _ _ _ _ _ => True) (fun _ U o U' => ∃ v L, o = .returned v ∧ own_Q2 Z p0 aW aT h0 n0 v U'.heap L ∧ FrameEnd U o U' L ({ frames := 0, cells := 0, slots := 0, locals := 0 } : Room).cells ({ frames := 0, cells := 0, slots := 0, locals := 0 } : Room).slots) := by
  refine MetFree.of_bodySF (plainFor_of_name own_pn1) hisR ?_
  intro p e s m args below meth c s₁ Bd hml0 hP hK
  obtain ⟨rfl, hZ, hh⟩ := hP
  have hx := Bd.exec
  have hby := Bd.bytes
  have hml : c.maxLocals = 1 := hml0
  have hown : s.vm.findClass "com/example/spanwood/spanwood/store/KeyTypeOfPinLaw" = some m.cls := findClass_of_methodNamed Bd.named
  have hnm := (name_of_methodNamed Bd.named Bd.method).1
  have X0 : Stand p l e ({ frames := 0, cells := 0, slots := 0, locals := 0 } : Room) s m #[(.int p0)] below meth c s₁ [] 0 0 := Stand.of_body Bd
  have e0 : s₁.heap = h0 := by rw [← hh, Bd.state]; rfl
  have N0 := Fr.nil n0
  have pre0 : ∀ t, Steps p.tables e below (s₁.setTop (mkF m 0 #[oi p0] [])) t → Steps p.tables e below (s₁.setTop (entryFrame m #[(.int p0)] 1)) t := fun t k => castTop (own_ef2 m p0) k
  have pre1 : ∀ t, Steps p.tables e below (s₁.setTop (mkF m 3 #[oi p0] [(.int (-6 : Int32)), (.int p0)])) t → Steps p.tables e below (s₁.setTop (entryFrame m #[(.int p0)] 1)) t := by
    intro t k
    refine pre0 t ?_
    show oS p e below s₁ m 0 #[oi p0] [] _
    refine XS.iloadN X0.here hx rfl (hb hby own_d2_0) rfl ?_
    show oS p e below s₁ m 1 #[oi p0] [(.int p0)] _
    refine XS.bipush X0.here hx rfl (hb hby own_d2_1) ?_
    exact k
  by_cases c2 : p0 = (-6 : Int32)
  · skip
    obtain ⟨T3, X3, e3, st3⟩ := getS2 X0 hx hZ hown (host := "") (Or.inl (hw _ (List.mem_of_getElem? (i := 11) rfl))) Via.refl e0 S_WHOLE_NUMBER (g := (mkF m 22 #[oi p0] [])) rfl (hb hby own_d2_22)
    obtain ⟨fs, hr, hrun, hended, hW, hsame⟩ := X3.leave (v := (some (.ref aW))) (fun h => by rw [Bd.returns] at h; cases h)
    refine ⟨_, _, pre1 _ ?_, hrun, hended, _, _, rfl, ?_, ⟨_, rfl⟩, hW, hsame.mono (by decide) (by decide)⟩
    · show oS p e below s₁ m 3 #[oi p0] [(.int (-6 : Int32)), (.int p0)] _
      refine XS.icmpYes X0.here hx rfl (pc0 := 3) (pc' := 22) rfl (hb hby own_d2_3) rfl (teq c2).1 (by decide) (by decide) ?_
      show oS p e below s₁ m 22 #[oi p0] [] _
      refine st3 _ ?_
      show oS p e below T3 m 25 #[oi p0] [(.ref aW)] _
      exact retOut X3 hx Bd.returns rfl (Or.inr (Or.inr (Or.inr (Or.inr ⟨rfl, rfl, rfl⟩)))) (hb hby own_d2_25) hr
    · show own_Q2 Z p0 aW aT h0 n0 _ T3.heap _
      rw [e3]
      exact ⟨congrArg some (by rw [own_f2, if_pos c2]), N0, rfl⟩
  · skip
    have pre4 : ∀ t, Steps p.tables e below (s₁.setTop (mkF m 8 #[oi p0] [(.int (5 : Int32)), (.int p0)])) t → Steps p.tables e below (s₁.setTop (entryFrame m #[(.int p0)] 1)) t := by
      intro t k
      refine pre1 t ?_
      show oS p e below s₁ m 3 #[oi p0] [(.int (-6 : Int32)), (.int p0)] _
      refine XS.icmpNo X0.here hx rfl (hb hby own_d2_3) rfl (feq c2).1 ?_
      show oS p e below s₁ m 6 #[oi p0] [] _
      refine XS.iloadN X0.here hx rfl (hb hby own_d2_6) rfl ?_
      show oS p e below s₁ m 7 #[oi p0] [(.int p0)] _
      refine XS.iconst X0.here hx rfl (hb hby own_d2_7) ?_
      exact k
    by_cases c5 : p0 = (5 : Int32)
    · skip
      obtain ⟨T6, X6, e6, st6⟩ := getS2 X0 hx hZ hown (host := "") (Or.inl (hw _ (List.mem_of_getElem? (i := 11) rfl))) Via.refl e0 S_WHOLE_NUMBER (g := (mkF m 22 #[oi p0] [])) rfl (hb hby own_d2_22)
      obtain ⟨fs, hr, hrun, hended, hW, hsame⟩ := X6.leave (v := (some (.ref aW))) (fun h => by rw [Bd.returns] at h; cases h)
      refine ⟨_, _, pre4 _ ?_, hrun, hended, _, _, rfl, ?_, ⟨_, rfl⟩, hW, hsame.mono (by decide) (by decide)⟩
      · show oS p e below s₁ m 8 #[oi p0] [(.int (5 : Int32)), (.int p0)] _
        refine XS.icmpYes X0.here hx rfl (pc0 := 8) (pc' := 22) rfl (hb hby own_d2_8) rfl (teq c5).1 (by decide) (by decide) ?_
        show oS p e below s₁ m 22 #[oi p0] [] _
        refine st6 _ ?_
        show oS p e below T6 m 25 #[oi p0] [(.ref aW)] _
        exact retOut X6 hx Bd.returns rfl (Or.inr (Or.inr (Or.inr (Or.inr ⟨rfl, rfl, rfl⟩)))) (hb hby own_d2_25) hr
      · show own_Q2 Z p0 aW aT h0 n0 _ T6.heap _
        rw [e6]
        exact ⟨congrArg some (by rw [own_f2, if_neg c2, if_pos c5]), N0, rfl⟩
    · skip
      have pre7 : ∀ t, Steps p.tables e below (s₁.setTop (mkF m 13 #[oi p0] [(.int (4 : Int32)), (.int p0)])) t → Steps p.tables e below (s₁.setTop (entryFrame m #[(.int p0)] 1)) t := by
        intro t k
        refine pre4 t ?_
        show oS p e below s₁ m 8 #[oi p0] [(.int (5 : Int32)), (.int p0)] _
        refine XS.icmpNo X0.here hx rfl (hb hby own_d2_8) rfl (feq c5).1 ?_
        show oS p e below s₁ m 11 #[oi p0] [] _
        refine XS.iloadN X0.here hx rfl (hb hby own_d2_11) rfl ?_
        show oS p e below s₁ m 12 #[oi p0] [(.int p0)] _
        refine XS.iconst X0.here hx rfl (hb hby own_d2_12) ?_
        exact k
      by_cases c8 : p0 = (4 : Int32)
      · skip
        obtain ⟨T9, X9, e9, st9⟩ := getS2 X0 hx hZ hown (host := "") (Or.inl (hw _ (List.mem_of_getElem? (i := 11) rfl))) Via.refl e0 S_WHOLE_NUMBER (g := (mkF m 22 #[oi p0] [])) rfl (hb hby own_d2_22)
        obtain ⟨fs, hr, hrun, hended, hW, hsame⟩ := X9.leave (v := (some (.ref aW))) (fun h => by rw [Bd.returns] at h; cases h)
        refine ⟨_, _, pre7 _ ?_, hrun, hended, _, _, rfl, ?_, ⟨_, rfl⟩, hW, hsame.mono (by decide) (by decide)⟩
        · show oS p e below s₁ m 13 #[oi p0] [(.int (4 : Int32)), (.int p0)] _
          refine XS.icmpYes X0.here hx rfl (pc0 := 13) (pc' := 22) rfl (hb hby own_d2_13) rfl (teq c8).1 (by decide) (by decide) ?_
          show oS p e below s₁ m 22 #[oi p0] [] _
          refine st9 _ ?_
          show oS p e below T9 m 25 #[oi p0] [(.ref aW)] _
          exact retOut X9 hx Bd.returns rfl (Or.inr (Or.inr (Or.inr (Or.inr ⟨rfl, rfl, rfl⟩)))) (hb hby own_d2_25) hr
        · show own_Q2 Z p0 aW aT h0 n0 _ T9.heap _
          rw [e9]
          exact ⟨congrArg some (by rw [own_f2, if_neg c2, if_neg c5, if_pos c8]), N0, rfl⟩
      · skip
        have pre10 : ∀ t, Steps p.tables e below (s₁.setTop (mkF m 19 #[oi p0] [(.int (-5 : Int32)), (.int p0)])) t → Steps p.tables e below (s₁.setTop (entryFrame m #[(.int p0)] 1)) t := by
          intro t k
          refine pre7 t ?_
          show oS p e below s₁ m 13 #[oi p0] [(.int (4 : Int32)), (.int p0)] _
          refine XS.icmpNo X0.here hx rfl (hb hby own_d2_13) rfl (feq c8).1 ?_
          show oS p e below s₁ m 16 #[oi p0] [] _
          refine XS.iloadN X0.here hx rfl (hb hby own_d2_16) rfl ?_
          show oS p e below s₁ m 17 #[oi p0] [(.int p0)] _
          refine XS.bipush X0.here hx rfl (hb hby own_d2_17) ?_
          exact k
        by_cases c11 : p0 = (-5 : Int32)
        · skip
          obtain ⟨T12, X12, e12, st12⟩ := getS2 X0 hx hZ hown (host := "") (Or.inl (hw _ (List.mem_of_getElem? (i := 11) rfl))) Via.refl e0 S_WHOLE_NUMBER (g := (mkF m 22 #[oi p0] [])) rfl (hb hby own_d2_22)
          obtain ⟨fs, hr, hrun, hended, hW, hsame⟩ := X12.leave (v := (some (.ref aW))) (fun h => by rw [Bd.returns] at h; cases h)
          refine ⟨_, _, pre10 _ ?_, hrun, hended, _, _, rfl, ?_, ⟨_, rfl⟩, hW, hsame.mono (by decide) (by decide)⟩
          · show oS p e below s₁ m 19 #[oi p0] [(.int (-5 : Int32)), (.int p0)] _
            refine XS.icmpNo X0.here hx rfl (hb hby own_d2_19) rfl (teq c11).2 ?_
            show oS p e below s₁ m 22 #[oi p0] [] _
            refine st12 _ ?_
            show oS p e below T12 m 25 #[oi p0] [(.ref aW)] _
            exact retOut X12 hx Bd.returns rfl (Or.inr (Or.inr (Or.inr (Or.inr ⟨rfl, rfl, rfl⟩)))) (hb hby own_d2_25) hr
          · show own_Q2 Z p0 aW aT h0 n0 _ T12.heap _
            rw [e12]
            exact ⟨congrArg some (by rw [own_f2, if_neg c2, if_neg c5, if_neg c8, if_pos c11]), N0, rfl⟩
        · skip
          have pre13 : ∀ t, Steps p.tables e below (s₁.setTop (mkF m 29 #[oi p0] [(.int (12 : Int32)), (.int p0)])) t → Steps p.tables e below (s₁.setTop (entryFrame m #[(.int p0)] 1)) t := by
            intro t k
            refine pre10 t ?_
            show oS p e below s₁ m 19 #[oi p0] [(.int (-5 : Int32)), (.int p0)] _
            refine XS.icmpYes X0.here hx rfl (pc0 := 19) (pc' := 26) rfl (hb hby own_d2_19) rfl (feq c11).2 (by decide) (by decide) ?_
            show oS p e below s₁ m 26 #[oi p0] [] _
            refine XS.iloadN X0.here hx rfl (hb hby own_d2_26) rfl ?_
            show oS p e below s₁ m 27 #[oi p0] [(.int p0)] _
            refine XS.bipush X0.here hx rfl (hb hby own_d2_27) ?_
            exact k
          by_cases c14 : p0 = (12 : Int32)
          · skip
            obtain ⟨T15, X15, e15, st15⟩ := getS2 X0 hx hZ hown (host := "") (Or.inl (hw _ (List.mem_of_getElem? (i := 14) rfl))) Via.refl e0 S_TEXT (g := (mkF m 49 #[oi p0] [])) rfl (hb hby own_d2_49)
            obtain ⟨fs, hr, hrun, hended, hW, hsame⟩ := X15.leave (v := (some (.ref aT))) (fun h => by rw [Bd.returns] at h; cases h)
            refine ⟨_, _, pre13 _ ?_, hrun, hended, _, _, rfl, ?_, ⟨_, rfl⟩, hW, hsame.mono (by decide) (by decide)⟩
            · show oS p e below s₁ m 29 #[oi p0] [(.int (12 : Int32)), (.int p0)] _
              refine XS.icmpYes X0.here hx rfl (pc0 := 29) (pc' := 49) rfl (hb hby own_d2_29) rfl (teq c14).1 (by decide) (by decide) ?_
              show oS p e below s₁ m 49 #[oi p0] [] _
              refine st15 _ ?_
              show oS p e below T15 m 52 #[oi p0] [(.ref aT)] _
              exact retOut X15 hx Bd.returns rfl (Or.inr (Or.inr (Or.inr (Or.inr ⟨rfl, rfl, rfl⟩)))) (hb hby own_d2_52) hr
            · show own_Q2 Z p0 aW aT h0 n0 _ T15.heap _
              rw [e15]
              exact ⟨congrArg some (by rw [own_f2, if_neg c2, if_neg c5, if_neg c8, if_neg c11, if_pos c14]), N0, rfl⟩
          · skip
            have pre16 : ∀ t, Steps p.tables e below (s₁.setTop (mkF m 35 #[oi p0] [(.int (-9 : Int32)), (.int p0)])) t → Steps p.tables e below (s₁.setTop (entryFrame m #[(.int p0)] 1)) t := by
              intro t k
              refine pre13 t ?_
              show oS p e below s₁ m 29 #[oi p0] [(.int (12 : Int32)), (.int p0)] _
              refine XS.icmpNo X0.here hx rfl (hb hby own_d2_29) rfl (feq c14).1 ?_
              show oS p e below s₁ m 32 #[oi p0] [] _
              refine XS.iloadN X0.here hx rfl (hb hby own_d2_32) rfl ?_
              show oS p e below s₁ m 33 #[oi p0] [(.int p0)] _
              refine XS.bipush X0.here hx rfl (hb hby own_d2_33) ?_
              exact k
            by_cases c17 : p0 = (-9 : Int32)
            · skip
              obtain ⟨T18, X18, e18, st18⟩ := getS2 X0 hx hZ hown (host := "") (Or.inl (hw _ (List.mem_of_getElem? (i := 14) rfl))) Via.refl e0 S_TEXT (g := (mkF m 49 #[oi p0] [])) rfl (hb hby own_d2_49)
              obtain ⟨fs, hr, hrun, hended, hW, hsame⟩ := X18.leave (v := (some (.ref aT))) (fun h => by rw [Bd.returns] at h; cases h)
              refine ⟨_, _, pre16 _ ?_, hrun, hended, _, _, rfl, ?_, ⟨_, rfl⟩, hW, hsame.mono (by decide) (by decide)⟩
              · show oS p e below s₁ m 35 #[oi p0] [(.int (-9 : Int32)), (.int p0)] _
                refine XS.icmpYes X0.here hx rfl (pc0 := 35) (pc' := 49) rfl (hb hby own_d2_35) rfl (teq c17).1 (by decide) (by decide) ?_
                show oS p e below s₁ m 49 #[oi p0] [] _
                refine st18 _ ?_
                show oS p e below T18 m 52 #[oi p0] [(.ref aT)] _
                exact retOut X18 hx Bd.returns rfl (Or.inr (Or.inr (Or.inr (Or.inr ⟨rfl, rfl, rfl⟩)))) (hb hby own_d2_52) hr
              · show own_Q2 Z p0 aW aT h0 n0 _ T18.heap _
                rw [e18]
                exact ⟨congrArg some (by rw [own_f2, if_neg c2, if_neg c5, if_neg c8, if_neg c11, if_neg c14, if_pos c17]), N0, rfl⟩
            · skip
              have pre19 : ∀ t, Steps p.tables e below (s₁.setTop (mkF m 40 #[oi p0] [(.int (-1 : Int32)), (.int p0)])) t → Steps p.tables e below (s₁.setTop (entryFrame m #[(.int p0)] 1)) t := by
                intro t k
                refine pre16 t ?_
                show oS p e below s₁ m 35 #[oi p0] [(.int (-9 : Int32)), (.int p0)] _
                refine XS.icmpNo X0.here hx rfl (hb hby own_d2_35) rfl (feq c17).1 ?_
                show oS p e below s₁ m 38 #[oi p0] [] _
                refine XS.iloadN X0.here hx rfl (hb hby own_d2_38) rfl ?_
                show oS p e below s₁ m 39 #[oi p0] [(.int p0)] _
                refine XS.iconst X0.here hx rfl (hb hby own_d2_39) ?_
                exact k
              by_cases c20 : p0 = (-1 : Int32)
              · skip
                obtain ⟨T21, X21, e21, st21⟩ := getS2 X0 hx hZ hown (host := "") (Or.inl (hw _ (List.mem_of_getElem? (i := 14) rfl))) Via.refl e0 S_TEXT (g := (mkF m 49 #[oi p0] [])) rfl (hb hby own_d2_49)
                obtain ⟨fs, hr, hrun, hended, hW, hsame⟩ := X21.leave (v := (some (.ref aT))) (fun h => by rw [Bd.returns] at h; cases h)
                refine ⟨_, _, pre19 _ ?_, hrun, hended, _, _, rfl, ?_, ⟨_, rfl⟩, hW, hsame.mono (by decide) (by decide)⟩
                · show oS p e below s₁ m 40 #[oi p0] [(.int (-1 : Int32)), (.int p0)] _
                  refine XS.icmpYes X0.here hx rfl (pc0 := 40) (pc' := 49) rfl (hb hby own_d2_40) rfl (teq c20).1 (by decide) (by decide) ?_
                  show oS p e below s₁ m 49 #[oi p0] [] _
                  refine st21 _ ?_
                  show oS p e below T21 m 52 #[oi p0] [(.ref aT)] _
                  exact retOut X21 hx Bd.returns rfl (Or.inr (Or.inr (Or.inr (Or.inr ⟨rfl, rfl, rfl⟩)))) (hb hby own_d2_52) hr
                · show own_Q2 Z p0 aW aT h0 n0 _ T21.heap _
                  rw [e21]
                  exact ⟨congrArg some (by rw [own_f2, if_neg c2, if_neg c5, if_neg c8, if_neg c11, if_neg c14, if_neg c17, if_pos c20]), N0, rfl⟩
              · skip
                have pre22 : ∀ t, Steps p.tables e below (s₁.setTop (mkF m 46 #[oi p0] [(.int (-16 : Int32)), (.int p0)])) t → Steps p.tables e below (s₁.setTop (entryFrame m #[(.int p0)] 1)) t := by
                  intro t k
                  refine pre19 t ?_
                  show oS p e below s₁ m 40 #[oi p0] [(.int (-1 : Int32)), (.int p0)] _
                  refine XS.icmpNo X0.here hx rfl (hb hby own_d2_40) rfl (feq c20).1 ?_
                  show oS p e below s₁ m 43 #[oi p0] [] _
                  refine XS.iloadN X0.here hx rfl (hb hby own_d2_43) rfl ?_
                  show oS p e below s₁ m 44 #[oi p0] [(.int p0)] _
                  refine XS.bipush X0.here hx rfl (hb hby own_d2_44) ?_
                  exact k
                by_cases c23 : p0 = (-16 : Int32)
                · skip
                  obtain ⟨T24, X24, e24, st24⟩ := getS2 X0 hx hZ hown (host := "") (Or.inl (hw _ (List.mem_of_getElem? (i := 14) rfl))) Via.refl e0 S_TEXT (g := (mkF m 49 #[oi p0] [])) rfl (hb hby own_d2_49)
                  obtain ⟨fs, hr, hrun, hended, hW, hsame⟩ := X24.leave (v := (some (.ref aT))) (fun h => by rw [Bd.returns] at h; cases h)
                  refine ⟨_, _, pre22 _ ?_, hrun, hended, _, _, rfl, ?_, ⟨_, rfl⟩, hW, hsame.mono (by decide) (by decide)⟩
                  · show oS p e below s₁ m 46 #[oi p0] [(.int (-16 : Int32)), (.int p0)] _
                    refine XS.icmpNo X0.here hx rfl (hb hby own_d2_46) rfl (teq c23).2 ?_
                    show oS p e below s₁ m 49 #[oi p0] [] _
                    refine st24 _ ?_
                    show oS p e below T24 m 52 #[oi p0] [(.ref aT)] _
                    exact retOut X24 hx Bd.returns rfl (Or.inr (Or.inr (Or.inr (Or.inr ⟨rfl, rfl, rfl⟩)))) (hb hby own_d2_52) hr
                  · show own_Q2 Z p0 aW aT h0 n0 _ T24.heap _
                    rw [e24]
                    exact ⟨congrArg some (by rw [own_f2, if_neg c2, if_neg c5, if_neg c8, if_neg c11, if_neg c14, if_neg c17, if_neg c20, if_pos c23]), N0, rfl⟩
                · skip
                  obtain ⟨fs, hr, hrun, hended, hW, hsame⟩ := X0.leave (v := (some .null)) (fun h => by rw [Bd.returns] at h; cases h)
                  refine ⟨_, _, pre22 _ ?_, hrun, hended, _, _, rfl, ?_, ⟨_, rfl⟩, hW, hsame.mono (by decide) (by decide)⟩
                  · show oS p e below s₁ m 46 #[oi p0] [(.int (-16 : Int32)), (.int p0)] _
                    refine XS.icmpYes X0.here hx rfl (pc0 := 46) (pc' := 53) rfl (hb hby own_d2_46) rfl (feq c23).2 (by decide) (by decide) ?_
                    show oS p e below s₁ m 53 #[oi p0] [] _
                    refine XS.aconstNull X0.here hx rfl (hb hby own_d2_53) ?_
                    show oS p e below s₁ m 54 #[oi p0] [.null] _
                    exact retOut X0 hx Bd.returns rfl (Or.inr (Or.inr (Or.inr (Or.inr ⟨rfl, rfl, rfl⟩)))) (hb hby own_d2_54) hr
                  · show own_Q2 Z p0 aW aT h0 n0 _ s₁.heap _
                    rw [e0]
                    exact ⟨congrArg some (by rw [own_f2, if_neg c2, if_neg c5, if_neg c8, if_neg c11, if_neg c14, if_neg c17, if_neg c20, if_neg c23]), N0, rfl⟩
theorem own_eq (x : Int32) (aW aT : Addr) : own_f1 x aW aT = own_f2 x aW aT := by
  unfold own_f1 own_f2
  simp only [own_eqp x, Int32.reduceToInt]
  generalize x.toInt = t
  by_cases hr : -16 ≤ t ∧ t ≤ 12
  · have hk : t = -16 ∨ t = -15 ∨ t = -14 ∨ t = -13 ∨ t = -12 ∨ t = -11 ∨ t = -10 ∨ t = -9 ∨ t = -8 ∨ t = -7 ∨ t = -6 ∨ t = -5 ∨ t = -4 ∨ t = -3 ∨ t = -2 ∨ t = -1 ∨ t = 0 ∨ t = 1 ∨ t = 2 ∨ t = 3 ∨ t = 4 ∨ t = 5 ∨ t = 6 ∨ t = 7 ∨ t = 8 ∨ t = 9 ∨ t = 10 ∨ t = 11 ∨ t = 12 := by omega
    rcases hk with rfl | rfl | rfl | rfl | rfl | rfl | rfl | rfl | rfl | rfl | rfl | rfl | rfl | rfl | rfl | rfl | rfl | rfl | rfl | rfl | rfl | rfl | rfl | rfl | rfl | rfl | rfl | rfl | rfl
    all_goals rfl
  · rw [if_neg (show ¬ t = -16 by omega), if_neg (show ¬ t = -15 by omega), if_neg (show ¬ t = -14 by omega), if_neg (show ¬ t = -13 by omega), if_neg (show ¬ t = -12 by omega), if_neg (show ¬ t = -11 by omega), if_neg (show ¬ t = -10 by omega), if_neg (show ¬ t = -9 by omega), if_neg (show ¬ t = -8 by omega), if_neg (show ¬ t = -7 by omega), if_neg (show ¬ t = -6 by omega), if_neg (show ¬ t = -5 by omega), if_neg (show ¬ t = -4 by omega), if_neg (show ¬ t = -3 by omega), if_neg (show ¬ t = -2 by omega), if_neg (show ¬ t = -1 by omega), if_neg (show ¬ t = 0 by omega), if_neg (show ¬ t = 1 by omega), if_neg (show ¬ t = 2 by omega), if_neg (show ¬ t = 3 by omega), if_neg (show ¬ t = 4 by omega), if_neg (show ¬ t = 5 by omega), if_neg (show ¬ t = 6 by omega), if_neg (show ¬ t = 7 by omega), if_neg (show ¬ t = 8 by omega), if_neg (show ¬ t = 9 by omega), if_neg (show ¬ t = 10 by omega), if_neg (show ¬ t = 11 by omega), if_neg (show ¬ t = 12 by omega), if_neg (show ¬ t = -6 by omega), if_neg (show ¬ t = 5 by omega), if_neg (show ¬ t = 4 by omega), if_neg (show ¬ t = -5 by omega), if_neg (show ¬ t = 12 by omega), if_neg (show ¬ t = -9 by omega), if_neg (show ¬ t = -1 by omega), if_neg (show ¬ t = -16 by omega)]
theorem own_cat (x : Int32) (aW aT : Addr) : (own_f1 x aW aT).category = 1 := by
  rw [own_eq]
  unfold own_f2
  repeat' split
  all_goals rfl
theorem own_ref (x : Int32) (aW aT : Addr) : (own_f2 x aW aT).isRef = true := by
  unfold own_f2
  repeat' split
  all_goals rfl
theorem own_m15 (x : Int32) : 0 ≤ (x &&& (15 : Int32)).toInt := by
  have h : (x &&& (15 : Int32)).toInt = x.toInt % 16 := c_mask x 15 4 (by decide) (by decide)
  rw [h]; omega
theorem own_i1 {v : Int32} (h : 0 ≤ v.toInt) (h' : v < (8 : Int32)) : ¬ v < 0 ∧ v < (8 : Int32) := by
  refine ⟨?_, h'⟩
  simp only [own_ltp, Int32.reduceToInt]
  omega
theorem own_i2 (x : Int32) : ¬ (x &&& (7 : Int32)) < 0 ∧ (x &&& (7 : Int32)) < (8 : Int32) := by
  have h : (x &&& (7 : Int32)).toInt = x.toInt % 8 := c_mask x 7 3 (by decide) (by decide)
  simp only [own_ltp, Int32.reduceToInt, h]
  omega
theorem own_pd0 : parseMethodDescriptor "(I)Lcom/example/spanwood/spanwood/store/KeyType;" = some ⟨[.int], some (.object "com/example/spanwood/spanwood/store/KeyType")⟩ := by decide +kernel
theorem own_ef0 (m : MethodId) (p0 : Int32) (p1 : Int32) : entryFrame m #[(.int p0), (.int p1)] maxLocals = mkF m 0 #[oi p0, oi p1, .unset, .unset, .unset, .unset] [] := by first | (simp [entryFrame, mkF, argsToLocals, Value.category, maxLocals]; done) | rfl
def own_Q0 (Z : State) (p0 : Int32) (p1 : Int32) (aW : Addr) (aT : Addr) (h0 : Heap) (n0 : Nat) (v : Option Value) (h : Heap) (L : List Loc) : Prop := v = some (Value.int (1 : Int32)) ∧ Fr n0 L
set_option maxRecDepth 65536 in
set_option maxHeartbeats 40000000 in
theorem own_rm0 (l : Launch) (Z : State) (av : Array Value) (hw : ∀ d ∈ tables_1, d.before av Z = true) (ws : List Jvm.Cond) (p0 : Int32) (p1 : Int32) (aW : Addr) (aT : Addr) (h0 : Heap) (n0 : Nat) (Z0 : n0 ≤ h0.size) (S_WHOLE_NUMBER : Sta Z h0 "com/example/spanwood/spanwood/store/KeyType" "WHOLE_NUMBER" "Lcom/example/spanwood/spanwood/store/KeyType;" (.ref aW)) (S_TEXT : Sta Z h0 "com/example/spanwood/spanwood/store/KeyType" "TEXT" "Lcom/example/spanwood/spanwood/store/KeyType;" (.ref aT)) :
    MetFree l x (head1 (Jvm.Cond.code x code maxLocals ret :: ws) room_1) (fun a U => a = #[(.int p0), (.int p1)] ∧ Z.Warmed39 U.vm ∧ U.heap = h0) (fun _ _ _ _ _ => True) (fun _ U o U' => ∃ v L, o = .returned v ∧ own_Q0 Z p0 p1 aW aT h0 n0 v U'.heap L ∧ FrameEnd U o U' L room_1.cells room_1.slots) := by
  refine MetFree.of_bodySF (plainFor_of_name own_pn1) hisR ?_
  intro p e s m args below meth c s₁ Bd hml0 hP hK
  obtain ⟨rfl, hZ, hh⟩ := hP
  have hx := Bd.exec
  have hby := Bd.bytes
  have hml : c.maxLocals = 6 := hml0
  have hown : s.vm.findClass "com/example/spanwood/spanwood/store/KeyTypeOfPinLaw" = some m.cls := findClass_of_methodNamed Bd.named
  have hnm := (name_of_methodNamed Bd.named Bd.method).1
  have X0 : Stand p l e room_1 s m #[(.int p0), (.int p1)] below meth c s₁ [] 0 0 := Stand.of_body Bd
  have e0 : s₁.heap = h0 := by rw [← hh, Bd.state]; rfl
  have N0 := Fr.nil n0
  have pre0 : ∀ t, Steps p.tables e below (s₁.setTop (mkF m 0 #[oi p0, oi p1, .unset, .unset, .unset, .unset] [])) t → Steps p.tables e below (s₁.setTop (entryFrame m #[(.int p0), (.int p1)] maxLocals)) t := fun t k => castTop (own_ef0 m p0 p1) k
  obtain ⟨T1, h1, k1, X1, e1, E1, A1, st1⟩ := newP X0 hx hZ (hw _ (List.mem_of_getElem? (i := 0) rfl)) e0 (g := (mkF m 2 #[oi p0, oi p1, .unset, .unset, .unset, .unset] [(.int (8 : Int32))])) rfl (hb hby at_2) rfl (by decide) (cap := 8) (by decide) (by decide) (by decide) (by decide)
  obtain ⟨b1, g1⟩ : ∃ z, z = h0.size := ⟨_, rfl⟩
  rw [← g1] at A1 st1
  have g_b1 : n0 ≤ b1 := Nat.le_trans Z0 (Nat.le_of_eq g1.symm)
  have Z1 : n0 ≤ h1.size := Nat.le_trans Z0 E1.1
  have F2 := S_WHOLE_NUMBER.ext E1
  have F3 := S_TEXT.ext E1
  have V_4 : Arv Z h1 b1 k1 .int (8 : Int32) [(.int (0 : Int32)), (.int (0 : Int32)), (.int (0 : Int32)), (.int (0 : Int32)), (.int (0 : Int32)), (.int (0 : Int32)), (.int (0 : Int32)), (.int (0 : Int32))] (.int (0 : Int32)) := (Arv.new A1 (by decide)).pad (pad_rep [] (.int (0 : Int32)) 8)
  obtain ⟨T5, h5, X5, e5, W5, V5, st5⟩ := oStI X1 hx hZ e1 V_4 (j := (0 : Int32)) ⟨by decide, by decide⟩ 0 rfl (Nat.le_of_ble_eq_true rfl) (g := (mkF m 8 #[oi p0, oi p1, .unset, .unset, .unset, .unset] [(.int (-6 : Int32)), (.int (0 : Int32)), (.ref b1), (.ref b1)])) rfl rfl (hb hby at_8)
  obtain ⟨Lo5, X5, N5⟩ := oOpq X5 (Fr.snoc X5 N0 g_b1)
  have Z5 := Nat.le_trans Z1 (Keep.of_wr W5).1
  have F6 := F2.wr W5
  have F7 := F3.wr W5
  have V_8 : Arv Z h5 b1 k1 .int (8 : Int32) [(.int (-6 : Int32)), (.int (0 : Int32)), (.int (0 : Int32)), (.int (0 : Int32)), (.int (0 : Int32)), (.int (0 : Int32)), (.int (0 : Int32)), (.int (0 : Int32))] (.int (0 : Int32)) := V5
  obtain ⟨T9, h9, X9, e9, W9, V9, st9⟩ := oStI X5 hx hZ e5 V_8 (j := (1 : Int32)) ⟨by decide, by decide⟩ 1 rfl (Nat.le_of_ble_eq_true rfl) (g := (mkF m 12 #[oi p0, oi p1, .unset, .unset, .unset, .unset] [(.int (5 : Int32)), (.int (1 : Int32)), (.ref b1), (.ref b1)])) rfl rfl (hb hby at_12)
  obtain ⟨Lo9, X9, N9⟩ := oOpq X9 (Fr.snoc X9 N5 g_b1)
  have Z9 := Nat.le_trans Z5 (Keep.of_wr W9).1
  have F10 := F6.wr W9
  have F11 := F7.wr W9
  have V_12 : Arv Z h9 b1 k1 .int (8 : Int32) [(.int (-6 : Int32)), (.int (5 : Int32)), (.int (0 : Int32)), (.int (0 : Int32)), (.int (0 : Int32)), (.int (0 : Int32)), (.int (0 : Int32)), (.int (0 : Int32))] (.int (0 : Int32)) := V9
  obtain ⟨T13, h13, X13, e13, W13, V13, st13⟩ := oStI X9 hx hZ e9 V_12 (j := (2 : Int32)) ⟨by decide, by decide⟩ 2 rfl (Nat.le_of_ble_eq_true rfl) (g := (mkF m 16 #[oi p0, oi p1, .unset, .unset, .unset, .unset] [(.int (4 : Int32)), (.int (2 : Int32)), (.ref b1), (.ref b1)])) rfl rfl (hb hby at_16)
  obtain ⟨Lo13, X13, N13⟩ := oOpq X13 (Fr.snoc X13 N9 g_b1)
  have Z13 := Nat.le_trans Z9 (Keep.of_wr W13).1
  have F14 := F10.wr W13
  have F15 := F11.wr W13
  have V_16 : Arv Z h13 b1 k1 .int (8 : Int32) [(.int (-6 : Int32)), (.int (5 : Int32)), (.int (4 : Int32)), (.int (0 : Int32)), (.int (0 : Int32)), (.int (0 : Int32)), (.int (0 : Int32)), (.int (0 : Int32))] (.int (0 : Int32)) := V13
  obtain ⟨T17, h17, X17, e17, W17, V17, st17⟩ := oStI X13 hx hZ e13 V_16 (j := (3 : Int32)) ⟨by decide, by decide⟩ 3 rfl (Nat.le_of_ble_eq_true rfl) (g := (mkF m 21 #[oi p0, oi p1, .unset, .unset, .unset, .unset] [(.int (-5 : Int32)), (.int (3 : Int32)), (.ref b1), (.ref b1)])) rfl rfl (hb hby at_21)
  obtain ⟨Lo17, X17, N17⟩ := oOpq X17 (Fr.snoc X17 N13 g_b1)
  have Z17 := Nat.le_trans Z13 (Keep.of_wr W17).1
  have F18 := F14.wr W17
  have F19 := F15.wr W17
  have V_20 : Arv Z h17 b1 k1 .int (8 : Int32) [(.int (-6 : Int32)), (.int (5 : Int32)), (.int (4 : Int32)), (.int (-5 : Int32)), (.int (0 : Int32)), (.int (0 : Int32)), (.int (0 : Int32)), (.int (0 : Int32))] (.int (0 : Int32)) := V17
  obtain ⟨T21, h21, X21, e21, W21, V21, st21⟩ := oStI X17 hx hZ e17 V_20 (j := (4 : Int32)) ⟨by decide, by decide⟩ 4 rfl (Nat.le_of_ble_eq_true rfl) (g := (mkF m 26 #[oi p0, oi p1, .unset, .unset, .unset, .unset] [(.int (12 : Int32)), (.int (4 : Int32)), (.ref b1), (.ref b1)])) rfl rfl (hb hby at_26)
  obtain ⟨Lo21, X21, N21⟩ := oOpq X21 (Fr.snoc X21 N17 g_b1)
  have Z21 := Nat.le_trans Z17 (Keep.of_wr W21).1
  have F22 := F18.wr W21
  have F23 := F19.wr W21
  have V_24 : Arv Z h21 b1 k1 .int (8 : Int32) [(.int (-6 : Int32)), (.int (5 : Int32)), (.int (4 : Int32)), (.int (-5 : Int32)), (.int (12 : Int32)), (.int (0 : Int32)), (.int (0 : Int32)), (.int (0 : Int32))] (.int (0 : Int32)) := V21
  obtain ⟨T25, h25, X25, e25, W25, V25, st25⟩ := oStI X21 hx hZ e21 V_24 (j := (5 : Int32)) ⟨by decide, by decide⟩ 5 rfl (Nat.le_of_ble_eq_true rfl) (g := (mkF m 31 #[oi p0, oi p1, .unset, .unset, .unset, .unset] [(.int (-9 : Int32)), (.int (5 : Int32)), (.ref b1), (.ref b1)])) rfl rfl (hb hby at_31)
  obtain ⟨Lo25, X25, N25⟩ := oOpq X25 (Fr.snoc X25 N21 g_b1)
  have Z25 := Nat.le_trans Z21 (Keep.of_wr W25).1
  have F26 := F22.wr W25
  have F27 := F23.wr W25
  have V_28 : Arv Z h25 b1 k1 .int (8 : Int32) [(.int (-6 : Int32)), (.int (5 : Int32)), (.int (4 : Int32)), (.int (-5 : Int32)), (.int (12 : Int32)), (.int (-9 : Int32)), (.int (0 : Int32)), (.int (0 : Int32))] (.int (0 : Int32)) := V25
  obtain ⟨T29, h29, X29, e29, W29, V29, st29⟩ := oStI X25 hx hZ e25 V_28 (j := (6 : Int32)) ⟨by decide, by decide⟩ 6 rfl (Nat.le_of_ble_eq_true rfl) (g := (mkF m 36 #[oi p0, oi p1, .unset, .unset, .unset, .unset] [(.int (-1 : Int32)), (.int (6 : Int32)), (.ref b1), (.ref b1)])) rfl rfl (hb hby at_36)
  obtain ⟨Lo29, X29, N29⟩ := oOpq X29 (Fr.snoc X29 N25 g_b1)
  have Z29 := Nat.le_trans Z25 (Keep.of_wr W29).1
  have F30 := F26.wr W29
  have F31 := F27.wr W29
  have V_32 : Arv Z h29 b1 k1 .int (8 : Int32) [(.int (-6 : Int32)), (.int (5 : Int32)), (.int (4 : Int32)), (.int (-5 : Int32)), (.int (12 : Int32)), (.int (-9 : Int32)), (.int (-1 : Int32)), (.int (0 : Int32))] (.int (0 : Int32)) := V29
  obtain ⟨T33, h33, X33, e33, W33, V33, st33⟩ := oStI X29 hx hZ e29 V_32 (j := (7 : Int32)) ⟨by decide, by decide⟩ 7 rfl (Nat.le_of_ble_eq_true rfl) (g := (mkF m 42 #[oi p0, oi p1, .unset, .unset, .unset, .unset] [(.int (-16 : Int32)), (.int (7 : Int32)), (.ref b1), (.ref b1)])) rfl rfl (hb hby at_42)
  obtain ⟨Lo33, X33, N33⟩ := oOpq X33 (Fr.snoc X33 N29 g_b1)
  have Z33 := Nat.le_trans Z29 (Keep.of_wr W33).1
  have F34 := F30.wr W33
  have F35 := F31.wr W33
  have V_36 : Arv Z h33 b1 k1 .int (8 : Int32) [(.int (-6 : Int32)), (.int (5 : Int32)), (.int (4 : Int32)), (.int (-5 : Int32)), (.int (12 : Int32)), (.int (-9 : Int32)), (.int (-1 : Int32)), (.int (-16 : Int32))] (.int (0 : Int32)) := V33
  have pre37 : ∀ t, Steps p.tables e below (T33.setTop (mkF m 48 #[oi p0, oi p1, oa b1, .unset, .unset, .unset] [(.int (p0 &&& (15 : Int32)))])) t → Steps p.tables e below (s₁.setTop (entryFrame m #[(.int p0), (.int p1)] maxLocals)) t := by
    intro t k
    refine pre0 t ?_
    show oS p e below s₁ m 0 #[oi p0, oi p1, .unset, .unset, .unset, .unset] [] _
    refine XS.bipush X0.here hx rfl (hb hby at_0) ?_
    show oS p e below s₁ m 2 #[oi p0, oi p1, .unset, .unset, .unset, .unset] [(.int (8 : Int32))] _
    refine st1 _ ?_
    show oS p e below T1 m 4 #[oi p0, oi p1, .unset, .unset, .unset, .unset] [(.ref b1)] _
    refine XS.dup X1.here hx rfl (hb hby at_4) rfl rfl ?_
    show oS p e below T1 m 5 #[oi p0, oi p1, .unset, .unset, .unset, .unset] [(.ref b1), (.ref b1)] _
    refine XS.iconst X1.here hx rfl (hb hby at_5) ?_
    show oS p e below T1 m 6 #[oi p0, oi p1, .unset, .unset, .unset, .unset] [(.int (0 : Int32)), (.ref b1), (.ref b1)] _
    refine XS.bipush X1.here hx rfl (hb hby at_6) ?_
    show oS p e below T1 m 8 #[oi p0, oi p1, .unset, .unset, .unset, .unset] [(.int (-6 : Int32)), (.int (0 : Int32)), (.ref b1), (.ref b1)] _
    refine st5 _ ?_
    show oS p e below T5 m 9 #[oi p0, oi p1, .unset, .unset, .unset, .unset] [(.ref b1)] _
    refine XS.dup X5.here hx rfl (hb hby at_9) rfl rfl ?_
    show oS p e below T5 m 10 #[oi p0, oi p1, .unset, .unset, .unset, .unset] [(.ref b1), (.ref b1)] _
    refine XS.iconst X5.here hx rfl (hb hby at_10) ?_
    show oS p e below T5 m 11 #[oi p0, oi p1, .unset, .unset, .unset, .unset] [(.int (1 : Int32)), (.ref b1), (.ref b1)] _
    refine XS.iconst X5.here hx rfl (hb hby at_11) ?_
    show oS p e below T5 m 12 #[oi p0, oi p1, .unset, .unset, .unset, .unset] [(.int (5 : Int32)), (.int (1 : Int32)), (.ref b1), (.ref b1)] _
    refine st9 _ ?_
    show oS p e below T9 m 13 #[oi p0, oi p1, .unset, .unset, .unset, .unset] [(.ref b1)] _
    refine XS.dup X9.here hx rfl (hb hby at_13) rfl rfl ?_
    show oS p e below T9 m 14 #[oi p0, oi p1, .unset, .unset, .unset, .unset] [(.ref b1), (.ref b1)] _
    refine XS.iconst X9.here hx rfl (hb hby at_14) ?_
    show oS p e below T9 m 15 #[oi p0, oi p1, .unset, .unset, .unset, .unset] [(.int (2 : Int32)), (.ref b1), (.ref b1)] _
    refine XS.iconst X9.here hx rfl (hb hby at_15) ?_
    show oS p e below T9 m 16 #[oi p0, oi p1, .unset, .unset, .unset, .unset] [(.int (4 : Int32)), (.int (2 : Int32)), (.ref b1), (.ref b1)] _
    refine st13 _ ?_
    show oS p e below T13 m 17 #[oi p0, oi p1, .unset, .unset, .unset, .unset] [(.ref b1)] _
    refine XS.dup X13.here hx rfl (hb hby at_17) rfl rfl ?_
    show oS p e below T13 m 18 #[oi p0, oi p1, .unset, .unset, .unset, .unset] [(.ref b1), (.ref b1)] _
    refine XS.iconst X13.here hx rfl (hb hby at_18) ?_
    show oS p e below T13 m 19 #[oi p0, oi p1, .unset, .unset, .unset, .unset] [(.int (3 : Int32)), (.ref b1), (.ref b1)] _
    refine XS.bipush X13.here hx rfl (hb hby at_19) ?_
    show oS p e below T13 m 21 #[oi p0, oi p1, .unset, .unset, .unset, .unset] [(.int (-5 : Int32)), (.int (3 : Int32)), (.ref b1), (.ref b1)] _
    refine st17 _ ?_
    show oS p e below T17 m 22 #[oi p0, oi p1, .unset, .unset, .unset, .unset] [(.ref b1)] _
    refine XS.dup X17.here hx rfl (hb hby at_22) rfl rfl ?_
    show oS p e below T17 m 23 #[oi p0, oi p1, .unset, .unset, .unset, .unset] [(.ref b1), (.ref b1)] _
    refine XS.iconst X17.here hx rfl (hb hby at_23) ?_
    show oS p e below T17 m 24 #[oi p0, oi p1, .unset, .unset, .unset, .unset] [(.int (4 : Int32)), (.ref b1), (.ref b1)] _
    refine XS.bipush X17.here hx rfl (hb hby at_24) ?_
    show oS p e below T17 m 26 #[oi p0, oi p1, .unset, .unset, .unset, .unset] [(.int (12 : Int32)), (.int (4 : Int32)), (.ref b1), (.ref b1)] _
    refine st21 _ ?_
    show oS p e below T21 m 27 #[oi p0, oi p1, .unset, .unset, .unset, .unset] [(.ref b1)] _
    refine XS.dup X21.here hx rfl (hb hby at_27) rfl rfl ?_
    show oS p e below T21 m 28 #[oi p0, oi p1, .unset, .unset, .unset, .unset] [(.ref b1), (.ref b1)] _
    refine XS.iconst X21.here hx rfl (hb hby at_28) ?_
    show oS p e below T21 m 29 #[oi p0, oi p1, .unset, .unset, .unset, .unset] [(.int (5 : Int32)), (.ref b1), (.ref b1)] _
    refine XS.bipush X21.here hx rfl (hb hby at_29) ?_
    show oS p e below T21 m 31 #[oi p0, oi p1, .unset, .unset, .unset, .unset] [(.int (-9 : Int32)), (.int (5 : Int32)), (.ref b1), (.ref b1)] _
    refine st25 _ ?_
    show oS p e below T25 m 32 #[oi p0, oi p1, .unset, .unset, .unset, .unset] [(.ref b1)] _
    refine XS.dup X25.here hx rfl (hb hby at_32) rfl rfl ?_
    show oS p e below T25 m 33 #[oi p0, oi p1, .unset, .unset, .unset, .unset] [(.ref b1), (.ref b1)] _
    refine XS.bipush X25.here hx rfl (hb hby at_33) ?_
    show oS p e below T25 m 35 #[oi p0, oi p1, .unset, .unset, .unset, .unset] [(.int (6 : Int32)), (.ref b1), (.ref b1)] _
    refine XS.iconst X25.here hx rfl (hb hby at_35) ?_
    show oS p e below T25 m 36 #[oi p0, oi p1, .unset, .unset, .unset, .unset] [(.int (-1 : Int32)), (.int (6 : Int32)), (.ref b1), (.ref b1)] _
    refine st29 _ ?_
    show oS p e below T29 m 37 #[oi p0, oi p1, .unset, .unset, .unset, .unset] [(.ref b1)] _
    refine XS.dup X29.here hx rfl (hb hby at_37) rfl rfl ?_
    show oS p e below T29 m 38 #[oi p0, oi p1, .unset, .unset, .unset, .unset] [(.ref b1), (.ref b1)] _
    refine XS.bipush X29.here hx rfl (hb hby at_38) ?_
    show oS p e below T29 m 40 #[oi p0, oi p1, .unset, .unset, .unset, .unset] [(.int (7 : Int32)), (.ref b1), (.ref b1)] _
    refine XS.bipush X29.here hx rfl (hb hby at_40) ?_
    show oS p e below T29 m 42 #[oi p0, oi p1, .unset, .unset, .unset, .unset] [(.int (-16 : Int32)), (.int (7 : Int32)), (.ref b1), (.ref b1)] _
    refine st33 _ ?_
    show oS p e below T33 m 43 #[oi p0, oi p1, .unset, .unset, .unset, .unset] [(.ref b1)] _
    refine XS.astoreN X33.here hx rfl (hb hby at_43) rfl rfl (l' := #[oi p0, oi p1, oa b1, .unset, .unset, .unset]) rfl ?_
    show oS p e below T33 m 44 #[oi p0, oi p1, oa b1, .unset, .unset, .unset] [] _
    refine XS.iloadN X33.here hx rfl (hb hby at_44) rfl ?_
    show oS p e below T33 m 45 #[oi p0, oi p1, oa b1, .unset, .unset, .unset] [(.int p0)] _
    refine XS.bipush X33.here hx rfl (hb hby at_45) ?_
    show oS p e below T33 m 47 #[oi p0, oi p1, oa b1, .unset, .unset, .unset] [(.int (15 : Int32)), (.int p0)] _
    refine XS.iand X33.here hx rfl (hb hby at_47) rfl ?_
    exact k
  obtain ⟨vk, hvk⟩ : ∃ z : Int32, z = (p0 &&& (15 : Int32)) := ⟨_, rfl⟩
  rw [← hvk] at pre37
  have rv : 0 ≤ vk.toInt := by rw [hvk]; exact own_m15 _
  have pre38 : ∀ t, Steps p.tables e below (T33.setTop (mkF m 52 #[oi p0, oi p1, oa b1, oi vk, .unset, .unset] [(.int (8 : Int32)), (.int vk)])) t → Steps p.tables e below (s₁.setTop (entryFrame m #[(.int p0), (.int p1)] maxLocals)) t := by
    intro t k
    refine pre37 t ?_
    show oS p e below T33 m 48 #[oi p0, oi p1, oa b1, .unset, .unset, .unset] [(.int vk)] _
    refine XS.istoreN X33.here hx rfl (hb hby at_48) rfl (l' := #[oi p0, oi p1, oa b1, oi vk, .unset, .unset]) rfl ?_
    show oS p e below T33 m 49 #[oi p0, oi p1, oa b1, oi vk, .unset, .unset] [] _
    refine XS.iloadN X33.here hx rfl (hb hby at_49) rfl ?_
    show oS p e below T33 m 50 #[oi p0, oi p1, oa b1, oi vk, .unset, .unset] [(.int vk)] _
    refine XS.bipush X33.here hx rfl (hb hby at_50) ?_
    exact k
  by_cases c39 : vk < (8 : Int32)
  · skip
    have hin40 : ¬ vk < 0 ∧ vk < (8 : Int32) := (own_i1 rv c39)
    have hat41 : ([(.int (-6 : Int32)), (.int (5 : Int32)), (.int (4 : Int32)), (.int (-5 : Int32)), (.int (12 : Int32)), (.int (-9 : Int32)), (.int (-1 : Int32)), (.int (-16 : Int32))] : List Value).getD (vk).toNatClampNeg (.int (0 : Int32)) = (.int (([(-6 : Int32), (5 : Int32), (4 : Int32), (-5 : Int32), (12 : Int32), (-9 : Int32), (-1 : Int32), (-16 : Int32)] : List Int32).getD (vk).toNatClampNeg 0)) := (own_getD [(-6 : Int32), (5 : Int32), (4 : Int32), (-5 : Int32), (12 : Int32), (-9 : Int32), (-1 : Int32), (-16 : Int32)] _)
    have pre42 : ∀ t, Steps p.tables e below (T33.setTop (mkF m 58 #[oi p0, oi p1, oa b1, oi vk, .unset, .unset] [(.int (([(-6 : Int32), (5 : Int32), (4 : Int32), (-5 : Int32), (12 : Int32), (-9 : Int32), (-1 : Int32), (-16 : Int32)] : List Int32).getD (vk).toNatClampNeg 0))])) t → Steps p.tables e below (s₁.setTop (entryFrame m #[(.int p0), (.int p1)] maxLocals)) t := by
      intro t k
      refine pre38 t ?_
      show oS p e below T33 m 52 #[oi p0, oi p1, oa b1, oi vk, .unset, .unset] [(.int (8 : Int32)), (.int vk)] _
      refine XS.icmpNo X33.here hx rfl (hb hby at_52) rfl (tlt c39).2.1 ?_
      show oS p e below T33 m 55 #[oi p0, oi p1, oa b1, oi vk, .unset, .unset] [] _
      refine XS.aloadN X33.here hx rfl (hb hby at_55) rfl rfl ?_
      show oS p e below T33 m 56 #[oi p0, oi p1, oa b1, oi vk, .unset, .unset] [(.ref b1)] _
      refine XS.iloadN X33.here hx rfl (hb hby at_56) rfl ?_
      show oS p e below T33 m 57 #[oi p0, oi p1, oa b1, oi vk, .unset, .unset] [(.int vk), (.ref b1)] _
      refine oLdI X33 hx hZ e33 V_36 (v := (.int (([(-6 : Int32), (5 : Int32), (4 : Int32), (-5 : Int32), (12 : Int32), (-9 : Int32), (-1 : Int32), (-16 : Int32)] : List Int32).getD (vk).toNatClampNeg 0))) hin40 hat41 (hb hby at_57) ?_
      exact k
    obtain ⟨v43, hv43⟩ : ∃ z : Int32, z = (([(-6 : Int32), (5 : Int32), (4 : Int32), (-5 : Int32), (12 : Int32), (-9 : Int32), (-1 : Int32), (-16 : Int32)] : List Int32).getD (vk).toNatClampNeg 0) := ⟨_, rfl⟩
    rw [← hv43] at pre42
    obtain ⟨_, _, ⟨T44, L44, k44, n44⟩, -, X44, ⟨Lc44, hQ44, l44, y44, z44⟩, st44⟩ := Jvm.LawKit.callS X33 hx (y := (⟨"com/example/spanwood/spanwood/store/KeyType", "of", "(I)Lcom/example/spanwood/spanwood/store/KeyType;"⟩ : MethodName)) hown (mvT hZ (hw _ (List.mem_of_getElem? (i := 1) rfl))) (mvT hZ (hw _ (List.mem_of_getElem? (i := 2) rfl))) (mvT hZ (hw _ (List.mem_of_getElem? (i := 3) rfl))) (mvT hZ (hw _ (List.mem_of_getElem? (i := 4) rfl))) (by decide) (backOf (W := 0) (own_rm1 l Z av hw [] v43 aW aT h33 n0 Z33 F34 F35) hZ (hw _ (List.mem_of_getElem? (i := 4) rfl)) (hw _ (List.mem_of_getElem? (i := 3) rfl)) (by decide) (by decide)) (g := (mkF m 103 #[oi p0, oi p1, oa b1, oi vk, oi v43, .unset] [(.int v43)])) rfl (by rw [hml]; rfl) (argsL := [(.int v43)]) (rest := []) (lenOf own_pd0 rfl) rfl (by show 2 * 0 + _ ≤ _; exact Nat.le_of_eq rfl) (hb hby at_103) (fun _ _ => ⟨rfl, e33, (by decide : 1 + 0 ≤ _), (by decide : 8 + 0 ≤ _)⟩)
    dsimp only [Pt.U, Pt.locs, Pt.cells, Pt.slots] at X44 l44 y44 z44 st44 hQ44
    have yq44 : k44 = 1 := y44
    have zq44 : n44 = 8 := z44
    subst yq44 zq44
    obtain ⟨rfl, Nq44, eq44⟩ := hQ44
    have N44 : Fr n0 L44 := by rw [l44]; exact Fr.app N33 Nq44
    obtain ⟨_, _, ⟨T45, L45, k45, n45⟩, -, X45, ⟨Lc45, hQ45, l45, y45, z45⟩, st45⟩ := Jvm.LawKit.callS X44 hx (y := (⟨"com/example/spanwood/spanwood/store/KeyTypeOfPinLaw", "expected", "(I)Lcom/example/spanwood/spanwood/store/KeyType;"⟩ : MethodName)) hown (mvT hZ (hw _ (List.mem_of_getElem? (i := 7) rfl))) (mvT hZ (hw _ (List.mem_of_getElem? (i := 8) rfl))) (mvT hZ (hw _ (List.mem_of_getElem? (i := 9) rfl))) (mvT hZ (hw _ (List.mem_of_getElem? (i := 10) rfl))) (by decide) (backOf (W := 1) (own_rm2 l Z av hw [] v43 aW aT h33 n0 Z33 F34 F35) hZ (hw _ (List.mem_of_getElem? (i := 10) rfl)) (hw _ (List.mem_of_getElem? (i := 9) rfl)) (by decide) (by decide)) (g := (mkF m 108 #[oi p0, oi p1, oa b1, oi vk, oi v43, .unset] [(.int v43), (own_f1 v43 aW aT)])) rfl (by rw [hml]; rfl) (argsL := [(.int v43)]) (rest := [(own_f1 v43 aW aT)]) (lenOf own_pd0 rfl) rfl (by show 2 * 0 + (List.map (fun v => v.category) [(own_f1 v43 aW aT)]).sum ≤ 1; simp [own_cat]) (hb hby at_108) (fun _ _ => ⟨rfl, eq44, (by decide : 1 + 0 ≤ _), (by decide : 8 + 0 ≤ _)⟩)
    dsimp only [Pt.U, Pt.locs, Pt.cells, Pt.slots] at X45 l45 y45 z45 st45 hQ45
    have yq45 : k45 = 1 := y45
    have zq45 : n45 = 8 := z45
    subst yq45 zq45
    obtain ⟨rfl, Nq45, eq45⟩ := hQ45
    have N45 : Fr n0 L45 := by rw [l45]; exact Fr.app N44 Nq45
    obtain ⟨fs, hr, hrun, hended, hW, hsame⟩ := X45.leave (v := (some (.int (1 : Int32)))) (fun h => by rw [Bd.returns] at h; cases h)
    refine ⟨_, _, pre42 _ ?_, hrun, hended, _, _, rfl, ?_, ⟨_, rfl⟩, hW, hsame.mono (by decide) (by decide)⟩
    · show oS p e below T33 m 58 #[oi p0, oi p1, oa b1, oi vk, .unset, .unset] [(.int v43)] _
      refine XS.istore X33.here hx rfl (hb hby at_58) rfl (l' := #[oi p0, oi p1, oa b1, oi vk, oi v43, .unset]) rfl ?_
      show oS p e below T33 m 60 #[oi p0, oi p1, oa b1, oi vk, oi v43, .unset] [] _
      refine XS.goto X33.here hx rfl (pc0 := 60) (pc' := 101) rfl (hb hby at_60) (by decide) (by decide) ?_
      show oS p e below T33 m 101 #[oi p0, oi p1, oa b1, oi vk, oi v43, .unset] [] _
      refine XS.iload X33.here hx rfl (hb hby at_101) rfl ?_
      show oS p e below T33 m 103 #[oi p0, oi p1, oa b1, oi vk, oi v43, .unset] [(.int v43)] _
      refine st44 _ ?_
      show oS p e below T44 m 106 #[oi p0, oi p1, oa b1, oi vk, oi v43, .unset] [(own_f1 v43 aW aT)] _
      refine XS.iload X44.here hx rfl (hb hby at_106) rfl ?_
      show oS p e below T44 m 108 #[oi p0, oi p1, oa b1, oi vk, oi v43, .unset] [(.int v43), (own_f1 v43 aW aT)] _
      refine st45 _ ?_
      show oS p e below T45 m 111 #[oi p0, oi p1, oa b1, oi vk, oi v43, .unset] [(own_f2 v43 aW aT), (own_f1 v43 aW aT)] _
      refine Jvm.RoadKit.acmp (g := (mkF m 111 #[oi p0, oi p1, oa b1, oi vk, oi v43, .unset] [(own_f2 v43 aW aT), (own_f1 v43 aW aT)])) X45 hx rfl (by rw [own_eq]; exact own_ref _ _ _) (own_ref _ _ _) (pc0 := 111) (pc' := 114) (same := true) rfl (hb hby at_111) rfl (decide_eq_true (own_eq _ _ _)) (by decide) (by decide) ?_
      show oS p e below T45 m 114 #[oi p0, oi p1, oa b1, oi vk, oi v43, .unset] [] _
      refine XS.iconst X45.here hx rfl (hb hby at_114) ?_
      show oS p e below T45 m 115 #[oi p0, oi p1, oa b1, oi vk, oi v43, .unset] [(.int (1 : Int32))] _
      refine XS.goto X45.here hx rfl (pc0 := 115) (pc' := 119) rfl (hb hby at_115) (by decide) (by decide) ?_
      show oS p e below T45 m 119 #[oi p0, oi p1, oa b1, oi vk, oi v43, .unset] [(.int (1 : Int32))] _
      exact retN X45 hx (t := .boolean) Bd.returns (by simp) (hb hby at_119) hr
    · show own_Q0 Z p0 p1 aW aT h0 n0 _ T45.heap _
      rw [eq45]
      exact ⟨rfl, N45⟩
  · skip
    have pre46 : ∀ t, Steps p.tables e below (T33.setTop (mkF m 66 #[oi p0, oi p1, oa b1, oi vk, .unset, .unset] [(.int (12 : Int32)), (.int vk)])) t → Steps p.tables e below (s₁.setTop (entryFrame m #[(.int p0), (.int p1)] maxLocals)) t := by
      intro t k
      refine pre38 t ?_
      show oS p e below T33 m 52 #[oi p0, oi p1, oa b1, oi vk, .unset, .unset] [(.int (8 : Int32)), (.int vk)] _
      refine XS.icmpYes X33.here hx rfl (pc0 := 52) (pc' := 63) rfl (hb hby at_52) rfl (flt c39).2.1 (by decide) (by decide) ?_
      show oS p e below T33 m 63 #[oi p0, oi p1, oa b1, oi vk, .unset, .unset] [] _
      refine XS.iloadN X33.here hx rfl (hb hby at_63) rfl ?_
      show oS p e below T33 m 64 #[oi p0, oi p1, oa b1, oi vk, .unset, .unset] [(.int vk)] _
      refine XS.bipush X33.here hx rfl (hb hby at_64) ?_
      exact k
    by_cases c47 : vk < (12 : Int32)
    · skip
      obtain ⟨_, _, ⟨T48, L48, k48, n48⟩, -, X48, ⟨Lc48, hQ48, l48, y48, z48⟩, st48⟩ := Jvm.LawKit.callS X33 hx (y := (⟨"com/example/spanwood/spanwood/store/KeyType", "of", "(I)Lcom/example/spanwood/spanwood/store/KeyType;"⟩ : MethodName)) hown (mvT hZ (hw _ (List.mem_of_getElem? (i := 1) rfl))) (mvT hZ (hw _ (List.mem_of_getElem? (i := 2) rfl))) (mvT hZ (hw _ (List.mem_of_getElem? (i := 3) rfl))) (mvT hZ (hw _ (List.mem_of_getElem? (i := 4) rfl))) (by decide) (backOf (W := 0) (own_rm1 l Z av hw [] p1 aW aT h33 n0 Z33 F34 F35) hZ (hw _ (List.mem_of_getElem? (i := 4) rfl)) (hw _ (List.mem_of_getElem? (i := 3) rfl)) (by decide) (by decide)) (g := (mkF m 103 #[oi p0, oi p1, oa b1, oi vk, oi p1, .unset] [(.int p1)])) rfl (by rw [hml]; rfl) (argsL := [(.int p1)]) (rest := []) (lenOf own_pd0 rfl) rfl (by show 2 * 0 + _ ≤ _; exact Nat.le_of_eq rfl) (hb hby at_103) (fun _ _ => ⟨rfl, e33, (by decide : 1 + 0 ≤ _), (by decide : 8 + 0 ≤ _)⟩)
      dsimp only [Pt.U, Pt.locs, Pt.cells, Pt.slots] at X48 l48 y48 z48 st48 hQ48
      have yq48 : k48 = 1 := y48
      have zq48 : n48 = 8 := z48
      subst yq48 zq48
      obtain ⟨rfl, Nq48, eq48⟩ := hQ48
      have N48 : Fr n0 L48 := by rw [l48]; exact Fr.app N33 Nq48
      obtain ⟨_, _, ⟨T49, L49, k49, n49⟩, -, X49, ⟨Lc49, hQ49, l49, y49, z49⟩, st49⟩ := Jvm.LawKit.callS X48 hx (y := (⟨"com/example/spanwood/spanwood/store/KeyTypeOfPinLaw", "expected", "(I)Lcom/example/spanwood/spanwood/store/KeyType;"⟩ : MethodName)) hown (mvT hZ (hw _ (List.mem_of_getElem? (i := 7) rfl))) (mvT hZ (hw _ (List.mem_of_getElem? (i := 8) rfl))) (mvT hZ (hw _ (List.mem_of_getElem? (i := 9) rfl))) (mvT hZ (hw _ (List.mem_of_getElem? (i := 10) rfl))) (by decide) (backOf (W := 1) (own_rm2 l Z av hw [] p1 aW aT h33 n0 Z33 F34 F35) hZ (hw _ (List.mem_of_getElem? (i := 10) rfl)) (hw _ (List.mem_of_getElem? (i := 9) rfl)) (by decide) (by decide)) (g := (mkF m 108 #[oi p0, oi p1, oa b1, oi vk, oi p1, .unset] [(.int p1), (own_f1 p1 aW aT)])) rfl (by rw [hml]; rfl) (argsL := [(.int p1)]) (rest := [(own_f1 p1 aW aT)]) (lenOf own_pd0 rfl) rfl (by show 2 * 0 + (List.map (fun v => v.category) [(own_f1 p1 aW aT)]).sum ≤ 1; simp [own_cat]) (hb hby at_108) (fun _ _ => ⟨rfl, eq48, (by decide : 1 + 0 ≤ _), (by decide : 8 + 0 ≤ _)⟩)
      dsimp only [Pt.U, Pt.locs, Pt.cells, Pt.slots] at X49 l49 y49 z49 st49 hQ49
      have yq49 : k49 = 1 := y49
      have zq49 : n49 = 8 := z49
      subst yq49 zq49
      obtain ⟨rfl, Nq49, eq49⟩ := hQ49
      have N49 : Fr n0 L49 := by rw [l49]; exact Fr.app N48 Nq49
      obtain ⟨fs, hr, hrun, hended, hW, hsame⟩ := X49.leave (v := (some (.int (1 : Int32)))) (fun h => by rw [Bd.returns] at h; cases h)
      refine ⟨_, _, pre46 _ ?_, hrun, hended, _, _, rfl, ?_, ⟨_, rfl⟩, hW, hsame.mono (by decide) (by decide)⟩
      · show oS p e below T33 m 66 #[oi p0, oi p1, oa b1, oi vk, .unset, .unset] [(.int (12 : Int32)), (.int vk)] _
        refine XS.icmpNo X33.here hx rfl (hb hby at_66) rfl (tlt c47).2.1 ?_
        show oS p e below T33 m 69 #[oi p0, oi p1, oa b1, oi vk, .unset, .unset] [] _
        refine XS.iloadN X33.here hx rfl (hb hby at_69) rfl ?_
        show oS p e below T33 m 70 #[oi p0, oi p1, oa b1, oi vk, .unset, .unset] [(.int p1)] _
        refine XS.istore X33.here hx rfl (hb hby at_70) rfl (l' := #[oi p0, oi p1, oa b1, oi vk, oi p1, .unset]) rfl ?_
        show oS p e below T33 m 72 #[oi p0, oi p1, oa b1, oi vk, oi p1, .unset] [] _
        refine XS.goto X33.here hx rfl (pc0 := 72) (pc' := 101) rfl (hb hby at_72) (by decide) (by decide) ?_
        show oS p e below T33 m 101 #[oi p0, oi p1, oa b1, oi vk, oi p1, .unset] [] _
        refine XS.iload X33.here hx rfl (hb hby at_101) rfl ?_
        show oS p e below T33 m 103 #[oi p0, oi p1, oa b1, oi vk, oi p1, .unset] [(.int p1)] _
        refine st48 _ ?_
        show oS p e below T48 m 106 #[oi p0, oi p1, oa b1, oi vk, oi p1, .unset] [(own_f1 p1 aW aT)] _
        refine XS.iload X48.here hx rfl (hb hby at_106) rfl ?_
        show oS p e below T48 m 108 #[oi p0, oi p1, oa b1, oi vk, oi p1, .unset] [(.int p1), (own_f1 p1 aW aT)] _
        refine st49 _ ?_
        show oS p e below T49 m 111 #[oi p0, oi p1, oa b1, oi vk, oi p1, .unset] [(own_f2 p1 aW aT), (own_f1 p1 aW aT)] _
        refine Jvm.RoadKit.acmp (g := (mkF m 111 #[oi p0, oi p1, oa b1, oi vk, oi p1, .unset] [(own_f2 p1 aW aT), (own_f1 p1 aW aT)])) X49 hx rfl (by rw [own_eq]; exact own_ref _ _ _) (own_ref _ _ _) (pc0 := 111) (pc' := 114) (same := true) rfl (hb hby at_111) rfl (decide_eq_true (own_eq _ _ _)) (by decide) (by decide) ?_
        show oS p e below T49 m 114 #[oi p0, oi p1, oa b1, oi vk, oi p1, .unset] [] _
        refine XS.iconst X49.here hx rfl (hb hby at_114) ?_
        show oS p e below T49 m 115 #[oi p0, oi p1, oa b1, oi vk, oi p1, .unset] [(.int (1 : Int32))] _
        refine XS.goto X49.here hx rfl (pc0 := 115) (pc' := 119) rfl (hb hby at_115) (by decide) (by decide) ?_
        show oS p e below T49 m 119 #[oi p0, oi p1, oa b1, oi vk, oi p1, .unset] [(.int (1 : Int32))] _
        exact retN X49 hx (t := .boolean) Bd.returns (by simp) (hb hby at_119) hr
      · show own_Q0 Z p0 p1 aW aT h0 n0 _ T49.heap _
        rw [eq49]
        exact ⟨rfl, N49⟩
    · skip
      have pre50 : ∀ t, Steps p.tables e below (T33.setTop (mkF m 80 #[oi p0, oi p1, oa b1, oi vk, .unset, .unset] [(.int ((p0 >>> ((4 : Int32) &&& 31)) &&& (1 : Int32)))])) t → Steps p.tables e below (s₁.setTop (entryFrame m #[(.int p0), (.int p1)] maxLocals)) t := by
        intro t k
        refine pre46 t ?_
        show oS p e below T33 m 66 #[oi p0, oi p1, oa b1, oi vk, .unset, .unset] [(.int (12 : Int32)), (.int vk)] _
        refine XS.icmpYes X33.here hx rfl (pc0 := 66) (pc' := 75) rfl (hb hby at_66) rfl (flt c47).2.1 (by decide) (by decide) ?_
        show oS p e below T33 m 75 #[oi p0, oi p1, oa b1, oi vk, .unset, .unset] [] _
        refine XS.iloadN X33.here hx rfl (hb hby at_75) rfl ?_
        show oS p e below T33 m 76 #[oi p0, oi p1, oa b1, oi vk, .unset, .unset] [(.int p0)] _
        refine XS.iconst X33.here hx rfl (hb hby at_76) ?_
        show oS p e below T33 m 77 #[oi p0, oi p1, oa b1, oi vk, .unset, .unset] [(.int (4 : Int32)), (.int p0)] _
        refine XS.ishr X33.here hx rfl (hb hby at_77) rfl ?_
        show oS p e below T33 m 78 #[oi p0, oi p1, oa b1, oi vk, .unset, .unset] [(.int (p0 >>> ((4 : Int32) &&& 31)))] _
        refine XS.iconst X33.here hx rfl (hb hby at_78) ?_
        show oS p e below T33 m 79 #[oi p0, oi p1, oa b1, oi vk, .unset, .unset] [(.int (1 : Int32)), (.int (p0 >>> ((4 : Int32) &&& 31)))] _
        refine XS.iand X33.here hx rfl (hb hby at_79) rfl ?_
        exact k
      obtain ⟨v52, hv52⟩ : ∃ z : Int32, z = (if ((p0 >>> ((4 : Int32) &&& 31)) &&& (1 : Int32)) = (0 : Int32) then (-1 : Int32) else (1 : Int32)) := ⟨_, rfl⟩
      have pre53 : ∀ t, Steps p.tables e below (T33.setTop (mkF m 88 #[oi p0, oi p1, oa b1, oi vk, .unset, .unset] [(.int v52)])) t → Steps p.tables e below (s₁.setTop (entryFrame m #[(.int p0), (.int p1)] maxLocals)) t := by
        intro t k
        by_cases c51 : ((p0 >>> ((4 : Int32) &&& 31)) &&& (1 : Int32)) = (0 : Int32)
        · skip
          rw [show v52 = (-1 : Int32) from hv52.trans (by rw [if_pos c51])] at k
          refine pre50 t ?_
          show oS p e below T33 m 80 #[oi p0, oi p1, oa b1, oi vk, .unset, .unset] [(.int ((p0 >>> ((4 : Int32) &&& 31)) &&& (1 : Int32)))] _
          refine XS.ifYes X33.here hx rfl (pc0 := 80) (pc' := 87) rfl (hb hby at_80) rfl ((if0 _ _).trans (teq c51).1) (by decide) (by decide) ?_
          show oS p e below T33 m 87 #[oi p0, oi p1, oa b1, oi vk, .unset, .unset] [] _
          refine XS.iconst X33.here hx rfl (hb hby at_87) ?_
          exact k
        · skip
          rw [show v52 = (1 : Int32) from hv52.trans (by rw [if_neg c51])] at k
          refine pre50 t ?_
          show oS p e below T33 m 80 #[oi p0, oi p1, oa b1, oi vk, .unset, .unset] [(.int ((p0 >>> ((4 : Int32) &&& 31)) &&& (1 : Int32)))] _
          refine XS.ifNo X33.here hx rfl (hb hby at_80) rfl ((if0 _ _).trans (feq c51).1) ?_
          show oS p e below T33 m 83 #[oi p0, oi p1, oa b1, oi vk, .unset, .unset] [] _
          refine XS.iconst X33.here hx rfl (hb hby at_83) ?_
          show oS p e below T33 m 84 #[oi p0, oi p1, oa b1, oi vk, .unset, .unset] [(.int (1 : Int32))] _
          refine XS.goto X33.here hx rfl (pc0 := 84) (pc' := 88) rfl (hb hby at_84) (by decide) (by decide) ?_
          exact k
      have hin54 : ¬ (vk &&& (7 : Int32)) < 0 ∧ (vk &&& (7 : Int32)) < (8 : Int32) := (own_i2 _)
      have hat55 : ([(.int (-6 : Int32)), (.int (5 : Int32)), (.int (4 : Int32)), (.int (-5 : Int32)), (.int (12 : Int32)), (.int (-9 : Int32)), (.int (-1 : Int32)), (.int (-16 : Int32))] : List Value).getD ((vk &&& (7 : Int32))).toNatClampNeg (.int (0 : Int32)) = (.int (([(-6 : Int32), (5 : Int32), (4 : Int32), (-5 : Int32), (12 : Int32), (-9 : Int32), (-1 : Int32), (-16 : Int32)] : List Int32).getD ((vk &&& (7 : Int32))).toNatClampNeg 0)) := (own_getD [(-6 : Int32), (5 : Int32), (4 : Int32), (-5 : Int32), (12 : Int32), (-9 : Int32), (-1 : Int32), (-16 : Int32)] _)
      have pre56 : ∀ t, Steps p.tables e below (T33.setTop (mkF m 96 #[oi p0, oi p1, oa b1, oi vk, .unset, oi v52] [(.int (([(-6 : Int32), (5 : Int32), (4 : Int32), (-5 : Int32), (12 : Int32), (-9 : Int32), (-1 : Int32), (-16 : Int32)] : List Int32).getD ((vk &&& (7 : Int32))).toNatClampNeg 0))])) t → Steps p.tables e below (s₁.setTop (entryFrame m #[(.int p0), (.int p1)] maxLocals)) t := by
        intro t k
        refine pre53 t ?_
        show oS p e below T33 m 88 #[oi p0, oi p1, oa b1, oi vk, .unset, .unset] [(.int v52)] _
        refine XS.istore X33.here hx rfl (hb hby at_88) rfl (l' := #[oi p0, oi p1, oa b1, oi vk, .unset, oi v52]) rfl ?_
        show oS p e below T33 m 90 #[oi p0, oi p1, oa b1, oi vk, .unset, oi v52] [] _
        refine XS.aloadN X33.here hx rfl (hb hby at_90) rfl rfl ?_
        show oS p e below T33 m 91 #[oi p0, oi p1, oa b1, oi vk, .unset, oi v52] [(.ref b1)] _
        refine XS.iloadN X33.here hx rfl (hb hby at_91) rfl ?_
        show oS p e below T33 m 92 #[oi p0, oi p1, oa b1, oi vk, .unset, oi v52] [(.int vk), (.ref b1)] _
        refine XS.bipush X33.here hx rfl (hb hby at_92) ?_
        show oS p e below T33 m 94 #[oi p0, oi p1, oa b1, oi vk, .unset, oi v52] [(.int (7 : Int32)), (.int vk), (.ref b1)] _
        refine XS.iand X33.here hx rfl (hb hby at_94) rfl ?_
        show oS p e below T33 m 95 #[oi p0, oi p1, oa b1, oi vk, .unset, oi v52] [(.int (vk &&& (7 : Int32))), (.ref b1)] _
        refine oLdI X33 hx hZ e33 V_36 (v := (.int (([(-6 : Int32), (5 : Int32), (4 : Int32), (-5 : Int32), (12 : Int32), (-9 : Int32), (-1 : Int32), (-16 : Int32)] : List Int32).getD ((vk &&& (7 : Int32))).toNatClampNeg 0))) hin54 hat55 (hb hby at_95) ?_
        exact k
      obtain ⟨v57, hv57⟩ : ∃ z : Int32, z = (([(-6 : Int32), (5 : Int32), (4 : Int32), (-5 : Int32), (12 : Int32), (-9 : Int32), (-1 : Int32), (-16 : Int32)] : List Int32).getD ((vk &&& (7 : Int32))).toNatClampNeg 0) := ⟨_, rfl⟩
      rw [← hv57] at pre56
      have pre58 : ∀ t, Steps p.tables e below (T33.setTop (mkF m 101 #[oi p0, oi p1, oa b1, oi vk, oi (v57 + v52), oi v52] [])) t → Steps p.tables e below (s₁.setTop (entryFrame m #[(.int p0), (.int p1)] maxLocals)) t := by
        intro t k
        refine pre56 t ?_
        show oS p e below T33 m 96 #[oi p0, oi p1, oa b1, oi vk, .unset, oi v52] [(.int v57)] _
        refine XS.iload X33.here hx rfl (hb hby at_96) rfl ?_
        show oS p e below T33 m 98 #[oi p0, oi p1, oa b1, oi vk, .unset, oi v52] [(.int v52), (.int v57)] _
        refine XS.iadd X33.here hx rfl (hb hby at_98) rfl ?_
        show oS p e below T33 m 99 #[oi p0, oi p1, oa b1, oi vk, .unset, oi v52] [(.int (v57 + v52))] _
        refine XS.istore X33.here hx rfl (hb hby at_99) rfl (l' := #[oi p0, oi p1, oa b1, oi vk, oi (v57 + v52), oi v52]) rfl ?_
        exact k
      obtain ⟨v59, hv59⟩ : ∃ z : Int32, z = (v57 + v52) := ⟨_, rfl⟩
      rw [← hv59] at pre58
      obtain ⟨_, _, ⟨T60, L60, k60, n60⟩, -, X60, ⟨Lc60, hQ60, l60, y60, z60⟩, st60⟩ := Jvm.LawKit.callS X33 hx (y := (⟨"com/example/spanwood/spanwood/store/KeyType", "of", "(I)Lcom/example/spanwood/spanwood/store/KeyType;"⟩ : MethodName)) hown (mvT hZ (hw _ (List.mem_of_getElem? (i := 1) rfl))) (mvT hZ (hw _ (List.mem_of_getElem? (i := 2) rfl))) (mvT hZ (hw _ (List.mem_of_getElem? (i := 3) rfl))) (mvT hZ (hw _ (List.mem_of_getElem? (i := 4) rfl))) (by decide) (backOf (W := 0) (own_rm1 l Z av hw [] v59 aW aT h33 n0 Z33 F34 F35) hZ (hw _ (List.mem_of_getElem? (i := 4) rfl)) (hw _ (List.mem_of_getElem? (i := 3) rfl)) (by decide) (by decide)) (g := (mkF m 103 #[oi p0, oi p1, oa b1, oi vk, oi v59, oi v52] [(.int v59)])) rfl (by rw [hml]; rfl) (argsL := [(.int v59)]) (rest := []) (lenOf own_pd0 rfl) rfl (by show 2 * 0 + _ ≤ _; exact Nat.le_of_eq rfl) (hb hby at_103) (fun _ _ => ⟨rfl, e33, (by decide : 1 + 0 ≤ _), (by decide : 8 + 0 ≤ _)⟩)
      dsimp only [Pt.U, Pt.locs, Pt.cells, Pt.slots] at X60 l60 y60 z60 st60 hQ60
      have yq60 : k60 = 1 := y60
      have zq60 : n60 = 8 := z60
      subst yq60 zq60
      obtain ⟨rfl, Nq60, eq60⟩ := hQ60
      have N60 : Fr n0 L60 := by rw [l60]; exact Fr.app N33 Nq60
      obtain ⟨_, _, ⟨T61, L61, k61, n61⟩, -, X61, ⟨Lc61, hQ61, l61, y61, z61⟩, st61⟩ := Jvm.LawKit.callS X60 hx (y := (⟨"com/example/spanwood/spanwood/store/KeyTypeOfPinLaw", "expected", "(I)Lcom/example/spanwood/spanwood/store/KeyType;"⟩ : MethodName)) hown (mvT hZ (hw _ (List.mem_of_getElem? (i := 7) rfl))) (mvT hZ (hw _ (List.mem_of_getElem? (i := 8) rfl))) (mvT hZ (hw _ (List.mem_of_getElem? (i := 9) rfl))) (mvT hZ (hw _ (List.mem_of_getElem? (i := 10) rfl))) (by decide) (backOf (W := 1) (own_rm2 l Z av hw [] v59 aW aT h33 n0 Z33 F34 F35) hZ (hw _ (List.mem_of_getElem? (i := 10) rfl)) (hw _ (List.mem_of_getElem? (i := 9) rfl)) (by decide) (by decide)) (g := (mkF m 108 #[oi p0, oi p1, oa b1, oi vk, oi v59, oi v52] [(.int v59), (own_f1 v59 aW aT)])) rfl (by rw [hml]; rfl) (argsL := [(.int v59)]) (rest := [(own_f1 v59 aW aT)]) (lenOf own_pd0 rfl) rfl (by show 2 * 0 + (List.map (fun v => v.category) [(own_f1 v59 aW aT)]).sum ≤ 1; simp [own_cat]) (hb hby at_108) (fun _ _ => ⟨rfl, eq60, (by decide : 1 + 0 ≤ _), (by decide : 8 + 0 ≤ _)⟩)
      dsimp only [Pt.U, Pt.locs, Pt.cells, Pt.slots] at X61 l61 y61 z61 st61 hQ61
      have yq61 : k61 = 1 := y61
      have zq61 : n61 = 8 := z61
      subst yq61 zq61
      obtain ⟨rfl, Nq61, eq61⟩ := hQ61
      have N61 : Fr n0 L61 := by rw [l61]; exact Fr.app N60 Nq61
      obtain ⟨fs, hr, hrun, hended, hW, hsame⟩ := X61.leave (v := (some (.int (1 : Int32)))) (fun h => by rw [Bd.returns] at h; cases h)
      refine ⟨_, _, pre58 _ ?_, hrun, hended, _, _, rfl, ?_, ⟨_, rfl⟩, hW, hsame.mono (by decide) (by decide)⟩
      · show oS p e below T33 m 101 #[oi p0, oi p1, oa b1, oi vk, oi v59, oi v52] [] _
        refine XS.iload X33.here hx rfl (hb hby at_101) rfl ?_
        show oS p e below T33 m 103 #[oi p0, oi p1, oa b1, oi vk, oi v59, oi v52] [(.int v59)] _
        refine st60 _ ?_
        show oS p e below T60 m 106 #[oi p0, oi p1, oa b1, oi vk, oi v59, oi v52] [(own_f1 v59 aW aT)] _
        refine XS.iload X60.here hx rfl (hb hby at_106) rfl ?_
        show oS p e below T60 m 108 #[oi p0, oi p1, oa b1, oi vk, oi v59, oi v52] [(.int v59), (own_f1 v59 aW aT)] _
        refine st61 _ ?_
        show oS p e below T61 m 111 #[oi p0, oi p1, oa b1, oi vk, oi v59, oi v52] [(own_f2 v59 aW aT), (own_f1 v59 aW aT)] _
        refine Jvm.RoadKit.acmp (g := (mkF m 111 #[oi p0, oi p1, oa b1, oi vk, oi v59, oi v52] [(own_f2 v59 aW aT), (own_f1 v59 aW aT)])) X61 hx rfl (by rw [own_eq]; exact own_ref _ _ _) (own_ref _ _ _) (pc0 := 111) (pc' := 114) (same := true) rfl (hb hby at_111) rfl (decide_eq_true (own_eq _ _ _)) (by decide) (by decide) ?_
        show oS p e below T61 m 114 #[oi p0, oi p1, oa b1, oi vk, oi v59, oi v52] [] _
        refine XS.iconst X61.here hx rfl (hb hby at_114) ?_
        show oS p e below T61 m 115 #[oi p0, oi p1, oa b1, oi vk, oi v59, oi v52] [(.int (1 : Int32))] _
        refine XS.goto X61.here hx rfl (pc0 := 115) (pc' := 119) rfl (hb hby at_115) (by decide) (by decide) ?_
        show oS p e below T61 m 119 #[oi p0, oi p1, oa b1, oi vk, oi v59, oi v52] [(.int (1 : Int32))] _
        exact retN X61 hx (t := .boolean) Bd.returns (by simp) (hb hby at_119) hr
      · show own_Q0 Z p0 p1 aW aT h0 n0 _ T61.heap _
        rw [eq61]
        exact ⟨rfl, N61⟩
set_option maxRecDepth 65536 in
set_option maxHeartbeats 40000000 in
theorem own_comes {Post : Tables → Env → Array Value → State → Outcome → State → Prop} (hpost : ∀ tb e args s v u, (limb_1_1.after args s (.returned v) u = true ∧ limb_1_2.after args s (.returned v) u = true ∧ True) → FrameEnd s (.returned v) u (Jvm.fieldLocs frame_1_writes args s ++ Jvm.arrayLocs frame_1_arrays args s ++ Jvm.staticLocs frame_1_statics s) 16 128 → Post tb e args s (.returned v) u) :
    ArmFor flags0 classFile x code maxLocals ret World_1 tables_1 room_1 Calls_1 rest_1 Pre_1 Post := by
  intro l hfl _ _ p e ha hc hk s m args below hf hA hF happ hP
  obtain ⟨hcalls, hrest, hpre⟩ := hP
  obtain ⟨-, -, -, hnamed, -, -, -, hat⟩ := (Spec.applies_iff hf).mp happ
  obtain ⟨hg, hn⟩ := and_e (Cond.before_iff.mp (show (Jvm.Cond.and given_1 narrow_1).before args s = true from hpre))
  obtain ⟨gv1, gv2⟩ := and_e hg
  obtain ⟨gv3, gv4⟩ := and_e gv2
  obtain ⟨w0, w1, rfl⟩ : ∃ w0 w1 : Value, args = #[w0, w1] := by
    have hs : args.size = 2 := by simpa [Cond.value, given_1] using gv1
    obtain ⟨L⟩ := args
    match L, hs with
    | [w0, w1], _ => exact ⟨w0, w1, rfl⟩
  have hw := fun d (hd : d ∈ tables_1) => atoms_spec (ws := Jvm.Cond.code x code maxLocals ret :: tables_1) hat d (List.mem_cons_of_mem _ hd)
  have hfit : Fit s := fun {y c} hc i hi => by
    obtain ⟨ha, rfl⟩ := Array.getElem?_eq_some_iff.mp hc
    have q := List.all_eq_true.mp ((Array.all_eq_true_iff_forall_mem.mp hF) _ (Array.getElem_mem ha)) i (List.mem_range.mpr hi)
    simpa [Array.getElem?_eq_getElem hi] using q
  obtain ⟨i0, ei0⟩ := is_v gv3
  obtain rfl : w0 = (.int i0) := Option.some.inj ei0
  obtain ⟨i1, ei1⟩ := is_v gv4
  obtain rfl : w1 = (.int i1) := Option.some.inj ei1
  obtain ⟨na1, na2⟩ := and_e hn
  obtain ⟨aW, ev_aW⟩ := exa_v na1
  have E_aW : Exa s s.heap aW "com/example/spanwood/spanwood/store/KeyType$1" := Exa.start ev_aW na1
  have S_WHOLE_NUMBER : Sta s s.heap "com/example/spanwood/spanwood/store/KeyType" "WHOLE_NUMBER" "Lcom/example/spanwood/spanwood/store/KeyType;" (.ref aW) := Sta.start ev_aW (Or.inr ⟨(hw _ (List.mem_of_getElem? (i := 3) rfl)), (hw _ (List.mem_of_getElem? (i := 6) rfl))⟩)
  obtain ⟨aT, ev_aT⟩ := exa_v na2
  have E_aT : Exa s s.heap aT "com/example/spanwood/spanwood/store/KeyType$2" := Exa.start ev_aT na2
  have S_TEXT : Sta s s.heap "com/example/spanwood/spanwood/store/KeyType" "TEXT" "Lcom/example/spanwood/spanwood/store/KeyType;" (.ref aT) := Sta.start ev_aT (Or.inr ⟨(hw _ (List.mem_of_getElem? (i := 3) rfl)), (hw _ (List.mem_of_getElem? (i := 13) rfl))⟩)
  obtain ⟨n, o, h1, h2, h3, _, L, rfl, ⟨rfl, N⟩, hq⟩ := own_rm0 l s _ hw tables_1 i0 i1 aW aT s.heap s.heap.size (Nat.le_refl _) S_WHOLE_NUMBER S_TEXT p e ha hc hk s m _ below hf ((Spec.applies_iff_loose hf).mp happ).1 ⟨rfl, State.Warmed39.refl s, rfl⟩ trivial
  refine ⟨n, _, h1, h2, h3, hpost _ _ _ _ _ _ ⟨Cond.after_iff.mpr rfl, Cond.after_iff.mpr (eq_i res_at (Term.int_eval (1)) rfl), trivial⟩ ⟨hq.1, hq.2.1, (hq.2.2.sift fun y hy => Or.inr (N y hy)).mono (by decide) (by decide)⟩⟩
theorem main_1_1 : Claimed_1_1 := own_comes fun _ _ _ _ _ _ h hF => ⟨h.1, hF⟩
theorem main_1_2 : Claimed_1_2 := own_comes fun _ _ _ _ _ _ h hF => ⟨h.2.1, hF⟩
end Jvm.Pilot.@@N@@
namespace Jvm.Pilot.@@N@@
open Jvm Jvm.ClassFile Sem Op Lib Jvm.Free Jvm.Stand Jvm.Pilot.@@N@@.Jvm.D
/-! MADE BY PROGRAM (witnessworld.py) out of the Statement's table words and the real class files: 14 classes; the members and pool entries that the words name. The judged class is class 1, her method 2. -/
namespace start1
open Jvm.ClassFile
def u (s : String) : CpInfo := .utf8 (stringToUtf16 s)
/-- a pool by its gaps: so many unusable entries, then the entry; so many at the end -/
def gap : Nat → List CpInfo → List CpInfo
  | 0, r => r
  | n + 1, r => .unusable :: gap n r
def poolList (es : List (Nat × CpInfo)) (last : Nat) : List CpInfo := es.foldr (fun e r => gap e.1 (e.2 :: r)) (gap last [])
def pool (es : List (Nat × CpInfo)) (last : Nat) : Array CpInfo := ⟨poolList es last⟩
def fileOf (pool : Array CpInfo) (this : Nat) (attrs : Array Attribute := #[]) (ms : Array MethodInfo := #[]) (fl : Nat := 33) (sup : Nat := 0) (ifs : Array Nat := #[]) (fds : Array FieldInfo := #[]) : ClassFile where
  minorVersion := 0
  majorVersion := 65
  constantPool := pool
  accessFlags := fl
  thisClass := this
  superClass := sup
  interfaces := ifs
  fields := fds
  methods := ms
  attributes := attrs
def plain (name : String) (sup : Option ClassId) : Class where
  name := name
  kind := .ordinary
  loader := none
  accessFlags := 33
  super := sup
  interfaces := #[]
  cf := none
  fields := #[]
  methods := #[]
  instanceTypes := #[]
  staticTypes := #[]
  resolved := #[]
  callSites := []
  init := .initialized
  statics := none
  mirror := none

def pool0 : Array CpInfo := pool [(5, u "<init>"), (0, u "()V"), (1, .class_ 10), (1, u "java/lang/Object")] 113

def k0m0 : Method := { name := "<init>", desc := "()V", sig := { parameters := [], returnType := none }, accessFlags := 1, code := none }
/-- java/lang/Object -/
def k0 : Class := { plain "java/lang/Object" none with
  accessFlags := 33
  interfaces := #[]
  cf := some (fileOf pool0 8 #[] #[{ accessFlags := 1, nameIndex := 5, descriptorIndex := 6, attributes := #[] }] 33 0 #[] #[])
  fields := #[]
  methods := #[k0m0]
  instanceTypes := #[]
  staticTypes := #[]
  resolved := Array.replicate 124 none
  statics := none }

def pool1 : Array CpInfo := pool [(2, .class_ 4), (1, u "java/lang/Object"), (0, u "<init>"), (0, u "()V"), (0, .fieldref 8 9), (0, .class_ 10), (0, .nameAndType 11 12), (0, u "com/example/spanwood/spanwood/store/KeyType"), (0, u "WHOLE_NUMBER"), (0, u "Lcom/example/spanwood/spanwood/store/KeyType;"), (0, .fieldref 8 14), (0, .nameAndType 15 12), (0, u "TEXT"), (0, .methodref 8 17), (0, .nameAndType 18 19), (0, u "of"), (0, u "(I)Lcom/example/spanwood/spanwood/store/KeyType;"), (0, .methodref 21 22), (0, .class_ 23), (0, .nameAndType 24 19), (0, u "com/example/spanwood/spanwood/store/KeyTypeOfPinLaw"), (0, u "expected"), (3, u "law"), (0, u "(II)Z")] 4

def k1m0 : Method := { name := "<init>", desc := "()V", sig := { parameters := [], returnType := none }, accessFlags := 2, code := none }
def k1c1 : Code := { maxStack := 2, maxLocals := 1, code := method_2_code, exceptionTable := #[], attributes := #[] }
def k1m1 : Method := { name := "expected", desc := "(I)Lcom/example/spanwood/spanwood/store/KeyType;", sig := { parameters := [.int], returnType := some (.object "com/example/spanwood/spanwood/store/KeyType") }, accessFlags := 10, code := some k1c1 }
def k1c2 : Code := { maxStack := 4, maxLocals := 6, code := code, exceptionTable := #[], attributes := #[] }
def k1m2 : Method := { name := "law", desc := "(II)Z", sig := { parameters := [.int, .int], returnType := some .boolean }, accessFlags := 9, code := some k1c2 }
/-- com/example/spanwood/spanwood/store/KeyTypeOfPinLaw -/
def k1 : Class := { plain "com/example/spanwood/spanwood/store/KeyTypeOfPinLaw" (some 0) with
  accessFlags := 49
  interfaces := #[]
  cf := some (fileOf pool1 21 #[] #[{ accessFlags := 2, nameIndex := 5, descriptorIndex := 6, attributes := #[] }, { accessFlags := 10, nameIndex := 24, descriptorIndex := 19, attributes := #[] }, { accessFlags := 9, nameIndex := 28, descriptorIndex := 29, attributes := #[] }] 49 2 #[] #[])
  fields := #[]
  methods := #[k1m0, k1m1, k1m2]
  instanceTypes := #[]
  staticTypes := #[]
  resolved := Array.replicate 34 none
  statics := none }

def pool2 : Array CpInfo := pool [(1, .class_ 2), (0, u "java/lang/constant/Constable"), (0, .class_ 4), (0, u "java/lang/Object")] 6

/-- java/lang/constant/Constable -/
def k2 : Class := { plain "java/lang/constant/Constable" (some 0) with
  accessFlags := 1537
  interfaces := #[]
  cf := some (fileOf pool2 1 #[] #[] 1537 3 #[] #[])
  fields := #[]
  methods := #[]
  instanceTypes := #[]
  staticTypes := #[]
  resolved := Array.replicate 11 none
  statics := none }

def pool3 : Array CpInfo := pool [(1, .class_ 2), (0, u "java/lang/Comparable"), (0, .class_ 4), (0, u "java/lang/Object")] 7

/-- java/lang/Comparable -/
def k3 : Class := { plain "java/lang/Comparable" (some 0) with
  accessFlags := 1537
  interfaces := #[]
  cf := some (fileOf pool3 1 #[] #[] 1537 3 #[] #[])
  fields := #[]
  methods := #[]
  instanceTypes := #[]
  staticTypes := #[]
  resolved := Array.replicate 12 none
  statics := none }

def pool4 : Array CpInfo := pool [(1, .class_ 2), (0, u "java/io/Serializable"), (0, .class_ 4), (0, u "java/lang/Object")] 2

/-- java/io/Serializable -/
def k4 : Class := { plain "java/io/Serializable" (some 0) with
  accessFlags := 1537
  interfaces := #[]
  cf := some (fileOf pool4 1 #[] #[] 1537 3 #[] #[])
  fields := #[]
  methods := #[]
  instanceTypes := #[]
  staticTypes := #[]
  resolved := Array.replicate 7 none
  statics := none }

def pool5 : Array CpInfo := pool [(2, .class_ 4), (1, u "java/lang/Enum"), (0, u "name"), (0, u "Ljava/lang/String;"), (2, u "ordinal"), (0, u "I"), (1, .class_ 14), (1, u "java/lang/Object"), (4, u "hash"), (86, .class_ 108), (1, u "java/lang/Enum$EnumDesc"), (2, .class_ 112), (0, u "java/lang/constant/Constable"), (0, .class_ 114), (0, u "java/lang/Comparable"), (0, .class_ 116), (0, u "java/io/Serializable")] 87

/-- java/lang/Enum -/
def k5 : Class := { plain "java/lang/Enum" (some 0) with
  accessFlags := 1057
  interfaces := #[2, 3, 4]
  cf := some (fileOf pool5 2 #[.nestMembers #[106]] #[] 1057 12 #[111, 113, 115] #[{ accessFlags := 18, nameIndex := 5, descriptorIndex := 6, attributes := #[] }, { accessFlags := 18, nameIndex := 9, descriptorIndex := 10, attributes := #[] }, { accessFlags := 2, nameIndex := 19, descriptorIndex := 10, attributes := #[] }])
  fields := #[{ name := "name", type := (.object "java/lang/String"), accessFlags := 18, slot := 0, constantValue := 0 }, { name := "ordinal", type := .int, accessFlags := 18, slot := 1, constantValue := 0 }, { name := "hash", type := .int, accessFlags := 2, slot := 2, constantValue := 0 }]
  methods := #[]
  instanceTypes := #[(.object "java/lang/String"), .int, .int]
  staticTypes := #[]
  resolved := Array.replicate 204 none
  statics := none }

def pool6 : Array CpInfo := pool [(1, .class_ 2), (0, u "com/example/spanwood/spanwood/store/KeyType"), (0, .fieldref 1 4), (0, .nameAndType 5 6), (0, u "WHOLE_NUMBER"), (0, u "Lcom/example/spanwood/spanwood/store/KeyType;"), (0, .fieldref 1 8), (0, .nameAndType 9 6), (0, u "TEXT"), (2, u "$VALUES"), (0, u "[Lcom/example/spanwood/spanwood/store/KeyType;"), (6, .class_ 22), (1, u "java/lang/Enum"), (6, .class_ 30), (0, u "com/example/spanwood/spanwood/store/KeyType$1"), (2, .class_ 34), (0, u "com/example/spanwood/spanwood/store/KeyType$2"), (22, u "of"), (0, u "(I)Lcom/example/spanwood/spanwood/store/KeyType;")] 8

def k6c0 : Code := { maxStack := 1, maxLocals := 1, code := prog_36_method_8_code, exceptionTable := #[], attributes := #[] }
def k6m0 : Method := { name := "of", desc := "(I)Lcom/example/spanwood/spanwood/store/KeyType;", sig := { parameters := [.int], returnType := some (.object "com/example/spanwood/spanwood/store/KeyType") }, accessFlags := 8, code := some k6c0 }
/-- com/example/spanwood/spanwood/store/KeyType -/
def k6 : Class := { plain "com/example/spanwood/spanwood/store/KeyType" (some 5) with
  accessFlags := 17441
  interfaces := #[]
  cf := some (fileOf pool6 1 #[.nestMembers #[33, 29]] #[{ accessFlags := 8, nameIndex := 57, descriptorIndex := 58, attributes := #[] }] 17441 20 #[] #[{ accessFlags := 16409, nameIndex := 5, descriptorIndex := 6, attributes := #[] }, { accessFlags := 16409, nameIndex := 9, descriptorIndex := 6, attributes := #[] }, { accessFlags := 4122, nameIndex := 12, descriptorIndex := 13, attributes := #[] }])
  fields := #[{ name := "WHOLE_NUMBER", type := (.object "com/example/spanwood/spanwood/store/KeyType"), accessFlags := 16409, slot := 0, constantValue := 0 }, { name := "TEXT", type := (.object "com/example/spanwood/spanwood/store/KeyType"), accessFlags := 16409, slot := 1, constantValue := 0 }, { name := "$VALUES", type := (.array (.object "com/example/spanwood/spanwood/store/KeyType")), accessFlags := 4122, slot := 2, constantValue := 0 }]
  methods := #[k6m0]
  instanceTypes := #[(.object "java/lang/String"), .int, .int]
  staticTypes := #[(.object "com/example/spanwood/spanwood/store/KeyType"), (.object "com/example/spanwood/spanwood/store/KeyType"), (.array (.object "com/example/spanwood/spanwood/store/KeyType"))]
  resolved := Array.replicate 67 none
  statics := some 0 }

def pool7 : Array CpInfo := pool [(2, .class_ 4), (1, u "com/example/spanwood/spanwood/store/KeyType"), (13, .class_ 20), (1, u "com/example/spanwood/spanwood/store/KeyType$1")] 38

/-- com/example/spanwood/spanwood/store/KeyType$1 -/
def k7 : Class := { plain "com/example/spanwood/spanwood/store/KeyType$1" (some 6) with
  accessFlags := 16432
  interfaces := #[]
  cf := some (fileOf pool7 18 #[.nestHost 2] #[] 16432 2 #[] #[])
  fields := #[]
  methods := #[]
  instanceTypes := #[(.object "java/lang/String"), .int, .int]
  staticTypes := #[]
  resolved := Array.replicate 59 none
  statics := none }

def pool8 : Array CpInfo := pool [(2, .class_ 4), (1, u "com/example/spanwood/spanwood/store/KeyType"), (17, .class_ 24), (1, u "com/example/spanwood/spanwood/store/KeyType$2")] 30

/-- com/example/spanwood/spanwood/store/KeyType$2 -/
def k8 : Class := { plain "com/example/spanwood/spanwood/store/KeyType$2" (some 6) with
  accessFlags := 16432
  interfaces := #[]
  cf := some (fileOf pool8 22 #[.nestHost 2] #[] 16432 2 #[] #[])
  fields := #[]
  methods := #[]
  instanceTypes := #[(.object "java/lang/String"), .int, .int]
  staticTypes := #[]
  resolved := Array.replicate 55 none
  statics := none }

def pool9 : Array CpInfo := pool [(1, u "java/lang/Cloneable"), (0, .class_ 1), (0, u "java/lang/Object"), (0, .class_ 3)] 3

/-- java/lang/Cloneable -/
def k9 : Class := { plain "java/lang/Cloneable" (some 0) with
  accessFlags := 1537
  interfaces := #[]
  cf := some (fileOf pool9 2 #[] #[] 1537 4 #[] #[])
  fields := #[]
  methods := #[]
  instanceTypes := #[]
  staticTypes := #[]
  resolved := Array.replicate 8 none
  statics := none }

/-- the primitive byte -/
def k10 : Class := { plain "byte" none with kind := .primitive 'B', accessFlags := 0x411 }
/-- [B -/
def k11 : Class := { plain "[B" (some 0) with kind := .array 10 .byte, interfaces := #[9, 4], accessFlags := 1041 }

/-- the primitive int -/
def k12 : Class := { plain "int" none with kind := .primitive 'I', accessFlags := 0x411 }
/-- [I -/
def k13 : Class := { plain "[I" (some 0) with kind := .array 12 .int, interfaces := #[9, 4], accessFlags := 1041 }

def heap : Heap := #[{ cls := 6, slots := #[.ref 1, .ref 2, .null], vm := .statics 6 },
  { cls := 7, slots := #[.null, .int 0, .int 0], vm := .none },
  { cls := 8, slots := #[.null, .int 1, .int 0], vm := .none }]
def classes : Array Class := #[k0, k1, k2, k3, k4, k5, k6, k7, k8, k9, k10, k11, k12, k13]
def interned : List (Array UInt16 × Addr) := []
def slotsUsed : Nat := 9
def theMethod : MethodId := ⟨1, 2⟩
def args0 : Array Value := #[.int 5, .int 7]
def aboutOver (below : List Frame) : State where
  vm := { classes := classes, interned := interned.toArray }
  heap := heap
  slotsUsed := slotsUsed
  threads := #[{ frames := .invoking theMethod args0 :: below }]
def below0 : List Frame := [.native { method := ⟨0, 0⟩, args := #[] }]
def about1 : State := aboutOver below0
def p0 : Program := .bare "" "" ""
def e0 : Env := launch0.env 0 0 0
theorem w_frames : about1.frames = Frame.invoking theMethod args0 :: below0 := rfl
set_option maxRecDepth 65536 in
theorem w_args : argsFit about1.vm theMethod args0 = true := by decide +kernel
set_option maxRecDepth 65536 in
theorem w_heap : heapFits about1 = true := by decide +kernel
set_option maxRecDepth 65536 in
theorem w_runnable : about1.curStatus? = some .runnable := by decide +kernel
set_option maxRecDepth 65536 in
theorem w_alone : about1.alone = true := by decide +kernel
set_option maxRecDepth 65536 in
theorem w_named : about1.methodNamed? x = some theMethod := by decide +kernel
set_option maxRecDepth 65536 in
theorem w_hears : about1.hears theMethod below0 = true := by decide +kernel
set_option maxRecDepth 65536 in
theorem w_ripe : about1.ripe theMethod args0 below0 = true := by decide +kernel
theorem w_running : about1.status = .running := rfl
set_option maxRecDepth 65536 in
theorem w_room : about1.hasRoom e0.platform room_1 = true :=
  launch0.hasRoom_least _ room_1 (by decide +kernel) (by decide +kernel) (by decide +kernel) (by decide +kernel) (by decide +kernel) (by decide +kernel)
theorem allAtoms_all (ts : List Jvm.Cond) (a : Array Jvm.Value) (st : Jvm.State) : (allAtoms ts).before a st = ts.all (fun c => c.before a st) := by
  induction ts with
  | nil => rfl
  | cons c t ih =>
    show (Jvm.Cond.and c (allAtoms t)).before a st = _
    rw [Jvm.Cond.before_and, ih, List.all_cons]
def words1 : List Jvm.Cond := Jvm.Cond.code x code maxLocals ret :: tables_1
/-- a 'code' word, met by the world's own term for the bytes: nothing is compared byte by byte -/
theorem code_word {y : MethodName} {bytes : ByteArray} {mx : Nat} {rt : Option FieldType} {a : Array Value} {s : State} {m : MethodId} {meth : Method} {c : Code} (h1 : s.methodNamed? y = some m) (h2 : s.vm.method? m = some meth) (h3 : meth.code = some c) (h4 : c.code = bytes)
    (h5 : (c.maxLocals == mx && c.exceptionTable.isEmpty && decide (c.maxStack ≤ mostOperands) && decide (meth.sig.returnType = rt) && !meth.locks && decide (parseMethodDescriptor y.desc = some meth.sig)) = true) : (Jvm.Cond.code y bytes mx rt).before a s = true := by
  simp only [Bool.and_eq_true, beq_iff_eq, Bool.not_eq_true', decide_eq_true_eq] at h5
  obtain ⟨⟨⟨⟨⟨g1, g2⟩, g3⟩, g4⟩, g5⟩, g6⟩ := h5
  simp [Cond.before, Cond.holds, Cond.value, h1, h2, h3, h4, g1, g2, g3, g4, g5, g6]
def isCode : Jvm.Cond → Bool
  | .code _ _ _ _ => true
  | _ => false
theorem all_split {L : List Jvm.Cond} {P : Jvm.Cond → Bool} (h1 : L.all (fun c => isCode c || P c) = true) (h2 : ∀ c ∈ L.filter isCode, P c = true) : L.all P = true := by
  refine List.all_eq_true.mpr fun c hc => ?_
  have h := List.all_eq_true.mp h1 c hc
  rcases Bool.eq_false_or_eq_true (isCode c) with hi | hi
  · exact h2 c (List.mem_filter.mpr ⟨hc, hi⟩)
  · simpa [hi] using h
set_option maxRecDepth 65536 in
theorem w_c0 : (Jvm.Cond.code x code maxLocals ret).before args0 about1 = true := code_word (m := ⟨1, 2⟩) (meth := k1m2) (c := k1c2) (by decide +kernel) rfl rfl rfl (by decide +kernel)
set_option maxRecDepth 65536 in
theorem w_c1 : (Jvm.Cond.code ({ cls := "com/example/spanwood/spanwood/store/KeyType", name := "of", desc := "(I)Lcom/example/spanwood/spanwood/store/KeyType;" } : Jvm.MethodName) prog_36_method_8_code (1 : Nat) (Option.some (Jvm.ClassFile.FieldType.object "com/example/spanwood/spanwood/store/KeyType"))).before args0 about1 = true := code_word (m := ⟨6, 0⟩) (meth := k6m0) (c := k6c0) (by decide +kernel) rfl rfl rfl (by decide +kernel)
set_option maxRecDepth 65536 in
theorem w_c2 : (Jvm.Cond.code ({ cls := "com/example/spanwood/spanwood/store/KeyTypeOfPinLaw", name := "expected", desc := "(I)Lcom/example/spanwood/spanwood/store/KeyType;" } : Jvm.MethodName) method_2_code (1 : Nat) (Option.some (Jvm.ClassFile.FieldType.object "com/example/spanwood/spanwood/store/KeyType"))).before args0 about1 = true := code_word (m := ⟨1, 1⟩) (meth := k1m1) (c := k1c1) (by decide +kernel) rfl rfl rfl (by decide +kernel)
def codes1 : List Jvm.Cond := [Jvm.Cond.code x code maxLocals ret, Jvm.Cond.code ({ cls := "com/example/spanwood/spanwood/store/KeyType", name := "of", desc := "(I)Lcom/example/spanwood/spanwood/store/KeyType;" } : Jvm.MethodName) prog_36_method_8_code (1 : Nat) (Option.some (Jvm.ClassFile.FieldType.object "com/example/spanwood/spanwood/store/KeyType")), Jvm.Cond.code ({ cls := "com/example/spanwood/spanwood/store/KeyTypeOfPinLaw", name := "expected", desc := "(I)Lcom/example/spanwood/spanwood/store/KeyType;" } : Jvm.MethodName) method_2_code (1 : Nat) (Option.some (Jvm.ClassFile.FieldType.object "com/example/spanwood/spanwood/store/KeyType"))]
set_option maxRecDepth 65536 in
theorem codes_eq : words1.filter isCode = codes1 := rfl
theorem w_codes : ∀ c ∈ words1.filter isCode, c.before args0 about1 = true := by
  rw [codes_eq]
  intro c hc
  simp only [codes1, List.mem_cons, List.not_mem_nil, or_false] at hc
  rcases hc with rfl | rfl | rfl
  · exact w_c0
  · exact w_c1
  · exact w_c2
set_option maxRecDepth 65536 in
theorem w_t1 : words1.all (fun c => isCode c || c.before args0 about1) = true := by decide +kernel
theorem w_tables : (allAtoms (Jvm.Cond.code x code maxLocals ret :: tables_1)).before args0 about1 = true := by
  rw [allAtoms_all]
  show words1.all (fun c => c.before args0 about1) = true
  refine all_split ?_ w_codes
  rw [w_t1]
set_option maxRecDepth 65536 in
theorem w_case : (Jvm.Cond.and given_1 narrow_1).before args0 about1 = true := by decide +kernel
theorem w_applies : (headSpec (Jvm.Cond.code x code maxLocals ret :: tables_1) room_1).applies x e0.platform about1 = true :=
  (Spec.applies_iff w_frames).mpr ⟨w_running, w_runnable, w_alone, w_named, w_hears, w_ripe, w_room, w_tables⟩
theorem atStart : AtStart classFile x code maxLocals ret World_1 tables_1 room_1 Calls_1 rest_1 Pre_1 launch0 p0 e0 about1 theMethod args0 below0 :=
  ⟨lists_1, trivial, launch0.admits_env _ _ _, launch0.least_env, fairChoices_fair.cas, fairChoices_fair.clock, w_frames, w_args, w_heap, w_applies, trivial, trivial, w_case⟩
end start1
theorem witness_1 : WitnessClaimed_1 := ⟨start1.p0, start1.e0, start1.about1, start1.theMethod, start1.args0, start1.below0, start1.atStart⟩
end Jvm.Pilot.@@N@@
