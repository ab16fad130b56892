import JvmDerived
import JvmDerived.Pilot.@@N@@Statement
import JvmDerived.Pilot.@@N@@Code
set_option linter.unusedVariables false
set_option linter.unusedSimpArgs false
namespace Jvm.Pilot.@@N@@
open Jvm Jvm.ClassFile Sem Op Lib Jvm.Free Jvm.Stand Jvm.LawKit Jvm.RoadKit Bundle Jvm.Pilot.@@N@@.Jvm.D
section OwnKit
variable {p : Program} {l : Launch} {e : Env} {R : Room} {s : State} {m : MethodId} {args : Array Value} {below : List Frame} {meth : Method} {c : Code} {T : State} {locs : List Loc} {cells slots : Nat} {Z : State} {h : Heap} {a : Addr} {k : ClassId} {z : Int32} {vs : List Value} {dv : Value}
theorem oLen (X : Stand p l e R s m args below meth c T locs cells slots) (hx : p.tables.exec = Jvm.exec) (hZ : Z.Warmed39 s.vm) (eT : T.heap = h) {ty : FieldType} (F : Arv Z h a k ty z vs dv) {g : JFrame} (hg : g.method = m) {rest : List Value} (hs : g.stack = .ref a :: rest) (hd : decode c.code g.pc = .ok (.arraylength, 1)) (target : State)
    (hr : Steps p.tables e below (T.setTop { g with pc := g.pc + 1, stack := .int z :: rest }) target) : Steps p.tables e below (T.setTop g) target := by
  obtain ⟨cl, A, -, S, M, -, -⟩ := F
  refine X.arraylength hx (by rw [eT]; exact A.1) (State.isArrayOf_alike hZ.alike A.2.1) hg hs hd target ?_
  rw [len_of S M]
  exact hr
theorem oLdI (X : Stand p l e R s m args below meth c T locs cells slots) (hx : p.tables.exec = Jvm.exec) (hZ : Z.Warmed39 s.vm) (eT : T.heap = h) (F : Arv Z h a k .int z vs dv) {j : Int32} {v : Value} (hj : ¬ j < 0 ∧ j < z) (hv : vs.getD j.toNatClampNeg dv = v) {g : JFrame} (hg : g.method = m) {rest : List Value} (hs : g.stack = .int j :: .ref a :: rest) (hd : decode c.code g.pc = .ok (.iaload, 1)) (target : State)
    (hr : Steps p.tables e below (T.setTop { g with pc := g.pc + 1, stack := v :: rest }) target) : Steps p.tables e below (T.setTop g) target := by
  obtain ⟨cl, A, -, S, -, H, -⟩ := F
  have hin := inb_of S hj
  exact X.iaload hx (by rw [eT]; exact A.1) (State.isArrayOf_alike hZ.alike A.2.1) A.2.2 hin (Has.at H hin hv) hg hs hd target hr
theorem oLdB (X : Stand p l e R s m args below meth c T locs cells slots) (hx : p.tables.exec = Jvm.exec) (hZ : Z.Warmed39 s.vm) (eT : T.heap = h) (F : Arv Z h a k .byte z vs dv) {j : Int32} {v : Value} (hj : ¬ j < 0 ∧ j < z) (hv : vs.getD j.toNatClampNeg dv = v) {g : JFrame} (hg : g.method = m) {rest : List Value} (hs : g.stack = .int j :: .ref a :: rest) (hd : decode c.code g.pc = .ok (.baload, 1)) (target : State)
    (hr : Steps p.tables e below (T.setTop { g with pc := g.pc + 1, stack := v :: rest }) target) : Steps p.tables e below (T.setTop g) target := by
  obtain ⟨cl, A, -, S, -, H, -⟩ := F
  have hin := inb_of S hj
  exact X.baloadBytes hx (by rw [eT]; exact A.1) (State.isArrayOf_alike hZ.alike A.2.1) A.2.2 hin (Has.at H hin hv) hg hs hd target hr
theorem oLdJ (X : Stand p l e R s m args below meth c T locs cells slots) (hx : p.tables.exec = Jvm.exec) (hZ : Z.Warmed39 s.vm) (eT : T.heap = h) (F : Arv Z h a k .long z vs dv) {j : Int32} {v : Value} (hj : ¬ j < 0 ∧ j < z) (hv : vs.getD j.toNatClampNeg dv = v) {g : JFrame} (hg : g.method = m) {rest : List Value} (hs : g.stack = .int j :: .ref a :: rest) (hd : decode c.code g.pc = .ok (.laload, 1)) (target : State)
    (hr : Steps p.tables e below (T.setTop { g with pc := g.pc + 1, stack := v :: rest }) target) : Steps p.tables e below (T.setTop g) target := by
  obtain ⟨cl, A, -, S, -, H, -⟩ := F
  have hin := inb_of S hj
  exact X.laload hx (by rw [eT]; exact A.1) (State.isArrayOf_alike hZ.alike A.2.1) A.2.2 hin (Has.at H hin hv) hg hs hd target hr
theorem oLdD (X : Stand p l e R s m args below meth c T locs cells slots) (hx : p.tables.exec = Jvm.exec) (hZ : Z.Warmed39 s.vm) (eT : T.heap = h) (F : Arv Z h a k .double z vs dv) {j : Int32} {v : Value} (hj : ¬ j < 0 ∧ j < z) (hv : vs.getD j.toNatClampNeg dv = v) {g : JFrame} (hg : g.method = m) {rest : List Value} (hs : g.stack = .int j :: .ref a :: rest) (hd : decode c.code g.pc = .ok (.daload, 1)) (target : State)
    (hr : Steps p.tables e below (T.setTop { g with pc := g.pc + 1, stack := v :: rest }) target) : Steps p.tables e below (T.setTop g) target := by
  obtain ⟨cl, A, -, S, -, H, -⟩ := F
  have hin := inb_of S hj
  exact X.daload hx (by rw [eT]; exact A.1) (State.isArrayOf_alike hZ.alike A.2.1) A.2.2 hin (Has.at H hin hv) hg hs hd target hr
theorem oStI (X : Stand p l e R s m args below meth c T locs cells slots) (hx : p.tables.exec = Jvm.exec) (hZ : Z.Warmed39 s.vm) (eT : T.heap = h) (F : Arv Z h a k .int z vs dv) {j : Int32} {x : Int32} (hj : ¬ j < 0 ∧ j < z) (i : Nat) (hi : j.toNatClampNeg = i) (hl : i < vs.length) {g : JFrame} (hg : g.method = m) {rest : List Value} (hs : g.stack = .int x :: .int j :: .ref a :: rest) (hd : decode c.code g.pc = .ok (.iastore, 1)) :
    ∃ T' h', Stand p l e R s m args below meth c T' (locs ++ [⟨a, j.toNatClampNeg⟩]) cells slots ∧ T'.heap = h' ∧ Wr h h' a j.toNatClampNeg (.int x) ∧ Arv Z h' a k .int z (vs.set i (.int x)) dv ∧ ∀ target, Steps p.tables e below (T'.setTop { g with pc := g.pc + 1, stack := rest }) target → Steps p.tables e below (T.setTop g) target := by
  obtain ⟨cl, A, q1, S, M, H, G⟩ := F
  obtain ⟨T', h', X', e', W, st⟩ := stI X hx hZ eT A (j := j) (inb_of S hj) hg hs hd
  exact ⟨T', h', X', e', W, Arv.set A q1 S M H G rfl W i hi hl, st⟩
theorem oStB (X : Stand p l e R s m args below meth c T locs cells slots) (hx : p.tables.exec = Jvm.exec) (hZ : Z.Warmed39 s.vm) (eT : T.heap = h) (F : Arv Z h a k .byte z vs dv) {j : Int32} {x : Int32} (hj : ¬ j < 0 ∧ j < z) (i : Nat) (hi : j.toNatClampNeg = i) (hl : i < vs.length) {g : JFrame} (hg : g.method = m) {rest : List Value} (hs : g.stack = .int x :: .int j :: .ref a :: rest) (hd : decode c.code g.pc = .ok (.bastore, 1)) :
    ∃ T' h', Stand p l e R s m args below meth c T' (locs ++ [⟨a, j.toNatClampNeg⟩]) cells slots ∧ T'.heap = h' ∧ Wr h h' a j.toNatClampNeg (.int (nar .byte x)) ∧ Arv Z h' a k .byte z (vs.set i (.int (nar .byte x))) dv ∧ ∀ target, Steps p.tables e below (T'.setTop { g with pc := g.pc + 1, stack := rest }) target → Steps p.tables e below (T.setTop g) target := by
  obtain ⟨cl, A, q1, S, M, H, G⟩ := F
  obtain ⟨T', h', X', e', W, st⟩ := stB X hx hZ eT A (j := j) (inb_of S hj) hg hs hd
  exact ⟨T', h', X', e', W, Arv.set A q1 S M H G (fits_nar_byte x) W i hi hl, st⟩
theorem oStJ (X : Stand p l e R s m args below meth c T locs cells slots) (hx : p.tables.exec = Jvm.exec) (hZ : Z.Warmed39 s.vm) (eT : T.heap = h) (F : Arv Z h a k .long z vs dv) {j : Int32} {x : Int64} (hj : ¬ j < 0 ∧ j < z) (i : Nat) (hi : j.toNatClampNeg = i) (hl : i < vs.length) {g : JFrame} (hg : g.method = m) {rest : List Value} (hs : g.stack = .long x :: .int j :: .ref a :: rest) (hd : decode c.code g.pc = .ok (.lastore, 1)) :
    ∃ T' h', Stand p l e R s m args below meth c T' (locs ++ [⟨a, j.toNatClampNeg⟩]) cells slots ∧ T'.heap = h' ∧ Wr h h' a j.toNatClampNeg (.long x) ∧ Arv Z h' a k .long z (vs.set i (.long x)) dv ∧ ∀ target, Steps p.tables e below (T'.setTop { g with pc := g.pc + 1, stack := rest }) target → Steps p.tables e below (T.setTop g) target := by
  obtain ⟨cl, A, q1, S, M, H, G⟩ := F
  obtain ⟨T', h', X', e', W, st⟩ := stJ X hx hZ eT A (j := j) (inb_of S hj) hg hs hd
  exact ⟨T', h', X', e', W, Arv.set A q1 S M H G rfl W i hi hl, st⟩
theorem oStD (X : Stand p l e R s m args below meth c T locs cells slots) (hx : p.tables.exec = Jvm.exec) (hZ : Z.Warmed39 s.vm) (eT : T.heap = h) (F : Arv Z h a k .double z vs dv) {j : Int32} {x : UInt64} (hj : ¬ j < 0 ∧ j < z) (i : Nat) (hi : j.toNatClampNeg = i) (hl : i < vs.length) {g : JFrame} (hg : g.method = m) {rest : List Value} (hs : g.stack = .double x :: .int j :: .ref a :: rest) (hd : decode c.code g.pc = .ok (.dastore, 1)) :
    ∃ T' h', Stand p l e R s m args below meth c T' (locs ++ [⟨a, j.toNatClampNeg⟩]) cells slots ∧ T'.heap = h' ∧ Wr h h' a j.toNatClampNeg (.double x) ∧ Arv Z h' a k .double z (vs.set i (.double x)) dv ∧ ∀ target, Steps p.tables e below (T'.setTop { g with pc := g.pc + 1, stack := rest }) target → Steps p.tables e below (T.setTop g) target := by
  obtain ⟨cl, A, q1, S, M, H, G⟩ := F
  obtain ⟨T', h', X', e', W, st⟩ := stD X hx hZ eT A (j := j) (inb_of S hj) hg hs hd
  exact ⟨T', h', X', e', W, Arv.set A q1 S M H G rfl W i hi hl, st⟩
end OwnKit
abbrev oi (x : Int32) : Slot := .val (.int x)
abbrev oj (x : Int64) : Slot := .val (.long x)
abbrev oa (x : Addr) : Slot := .val (.ref x)
abbrev od (x : UInt64) : Slot := .val (.double x)
abbrev oS (p : Program) (e : Env) (below : List Frame) (T : State) (m : MethodId) (pc : Nat) (L : Array Slot) (S : List Value) (t : State) : Prop := Steps p.tables e below (T.setTop (mkF m pc L S)) t
theorem own_ltp (x k : Int32) : (x < k) = (x.toInt < k.toInt) := propext Int32.lt_iff_toInt_lt
theorem own_eqp (x k : Int32) : (x = k) = (x.toInt = k.toInt) := propext Int32.toInt_inj.symm
theorem own_ltpL (x k : Int64) : (x < k) = (x.toInt < k.toInt) := propext Int64.lt_iff_toInt_lt
theorem own_eqpL (x k : Int64) : (x = k) = (x.toInt = k.toInt) := propext Int64.toInt_inj.symm
theorem own_of_range {P : Int32 → Prop} (n : Nat) (h : ∀ i : Fin n, P (Int32.ofNat i.1)) (x : Int32) (h0 : 0 ≤ x.toInt) (h1 : x.toInt < (n : Int)) : P x := by
  have e : Int32.ofNat x.toInt.toNat = x := by
    rw [← Int32.ofInt_eq_ofNat, Int.toNat_of_nonneg h0, Int32.ofInt_toInt]
  have q := h ⟨x.toInt.toNat, by omega⟩
  rwa [e] at q
theorem own_getD (ws : List Int32) (n : Nat) : (ws.map Value.int).getD n (.int (0 : Int32)) = .int (ws.getD n 0) := by
  simp only [List.getD_eq_getElem?_getD, List.getElem?_map]
  cases ws[n]? <;> rfl

theorem own_pn0 : plainName "com/example/trawl_tables/trawltables/Router" = true := by first | (simp [plainName, overriddenIn]; done) | decide +kernel
theorem own_d2_0 : decode prog_7_method_4_code 0 = .ok (.lload_n 0, 1) := by decide +kernel
theorem own_d2_1 : decode prog_7_method_4_code 1 = .ok (.ldc2_w 100, 3) := by decide +kernel
theorem own_d2_4 : decode prog_7_method_4_code 4 = .ok (.lmul, 1) := by decide +kernel
theorem own_d2_5 : decode prog_7_method_4_code 5 = .ok (.lstore_n 3, 1) := by decide +kernel
theorem own_d2_6 : decode prog_7_method_4_code 6 = .ok (.ldc2_w 102, 3) := by decide +kernel
theorem own_d2_9 : decode prog_7_method_4_code 9 = .ok (.lstore 5, 2) := by decide +kernel
theorem own_d2_11 : decode prog_7_method_4_code 11 = .ok (.iload_n 2, 1) := by decide +kernel
theorem own_d2_12 : decode prog_7_method_4_code 12 = .ok (.i2l, 1) := by decide +kernel
theorem own_d2_13 : decode prog_7_method_4_code 13 = .ok (.ldc2_w 104, 3) := by decide +kernel
theorem own_d2_16 : decode prog_7_method_4_code 16 = .ok (.lmul, 1) := by decide +kernel
theorem own_d2_17 : decode prog_7_method_4_code 17 = .ok (.iload_n 2, 1) := by decide +kernel
theorem own_d2_18 : decode prog_7_method_4_code 18 = .ok (.i2l, 1) := by decide +kernel
theorem own_d2_19 : decode prog_7_method_4_code 19 = .ok (.ladd, 1) := by decide +kernel
theorem own_d2_20 : decode prog_7_method_4_code 20 = .ok (.lstore 7, 2) := by decide +kernel
theorem own_d2_22 : decode prog_7_method_4_code 22 = .ok (.lload_n 3, 1) := by decide +kernel
theorem own_d2_23 : decode prog_7_method_4_code 23 = .ok (.lload 5, 2) := by decide +kernel
theorem own_d2_25 : decode prog_7_method_4_code 25 = .ok (.ladd, 1) := by decide +kernel
theorem own_d2_26 : decode prog_7_method_4_code 26 = .ok (.lload 7, 2) := by decide +kernel
theorem own_d2_28 : decode prog_7_method_4_code 28 = .ok (.ladd, 1) := by decide +kernel
theorem own_d2_29 : decode prog_7_method_4_code 29 = .ok (.lreturn, 1) := by decide +kernel
theorem own_ef2 (m : MethodId) (q0 : Int64) (p1 : Int32) : entryFrame m #[(.long q0), (.int p1)] 9 = mkF m 0 #[oj q0, .second, oi p1, .unset, .unset, .unset, .unset, .unset, .unset] [] := by first | (simp [entryFrame, mkF, argsToLocals, Value.category]; done) | rfl
def own_f2 (q0 : Int64) (p1 : Int32) : Int64 := (((q0 * (64 : Int64)) + (6500 : Int64)) + (((p1.toInt64) * (100 : Int64)) + (p1.toInt64)))
def own_Q2 (Z : State) (q0 : Int64) (p1 : Int32) (h0 : Heap) (n0 : Nat) (v : Option Value) (h : Heap) (L : List Loc) : Prop := v = some (Value.long (own_f2 q0 p1)) ∧ Fr n0 L ∧ h = h0
set_option maxRecDepth 65536 in
set_option maxHeartbeats 40000000 in
theorem own_rm2 (l : Launch) (Z : State) (av : Array Value) (hw : ∀ d ∈ tables_1, d.before av Z = true) (ws : List Jvm.Cond) (q0 : Int64) (p1 : Int32) (h0 : Heap) (n0 : Nat) (Z0 : n0 ≤ h0.size) :
    MetFree l (⟨"com/example/trawl_tables/trawltables/Router", "parameters", "(JI)J"⟩ : MethodName) (head1 (Jvm.Cond.code (⟨"com/example/trawl_tables/trawltables/Router", "parameters", "(JI)J"⟩ : MethodName) prog_7_method_4_code 9 (some .long) :: ws) ({ frames := 0, cells := 0, slots := 0, locals := 0 } : Room)) (fun a U => a = #[(.long q0), (.int p1)] ∧ Z.Warmed39 U.vm ∧ U.heap = h0) (fun _ _ _ _ _ => True) (fun _ U o U' => ∃ v L, o = .returned v ∧ own_Q2 Z q0 p1 h0 n0 v U'.heap L ∧ FrameEnd U o U' L ({ frames := 0, cells := 0, slots := 0, locals := 0 } : Room).cells ({ frames := 0, cells := 0, slots := 0, locals := 0 } : Room).slots) := by
  refine MetFree.of_bodySF (plainFor_of_name own_pn0) hisR ?_
  intro p e s m args below meth c s₁ Bd hml0 hP hK
  obtain ⟨rfl, hZ, hh⟩ := hP
  have hx := Bd.exec
  have hby := Bd.bytes
  have hml : c.maxLocals = 9 := hml0
  have hown : s.vm.findClass "com/example/trawl_tables/trawltables/Router" = some m.cls := findClass_of_methodNamed Bd.named
  have hnm := (name_of_methodNamed Bd.named Bd.method).1
  have X0 : Stand p l e ({ frames := 0, cells := 0, slots := 0, locals := 0 } : Room) s m #[(.long q0), (.int p1)] below meth c s₁ [] 0 0 := Stand.of_body Bd
  have e0 : s₁.heap = h0 := by rw [← hh, Bd.state]; rfl
  have N0 := Fr.nil n0
  have pre0 : ∀ t, Steps p.tables e below (s₁.setTop (mkF m 0 #[oj q0, .second, oi p1, .unset, .unset, .unset, .unset, .unset, .unset] [])) t → Steps p.tables e below (s₁.setTop (entryFrame m #[(.long q0), (.int p1)] 9)) t := fun t k => castTop (own_ef2 m q0 p1) k
  obtain ⟨fs, hr, hrun, hended, hW, hsame⟩ := X0.leave (v := (some (.long (((q0 * (64 : Int64)) + (6500 : Int64)) + (((p1.toInt64) * (100 : Int64)) + (p1.toInt64)))))) (fun h => by rw [Bd.returns] at h; cases h)
  refine ⟨_, _, pre0 _ ?_, hrun, hended, _, _, rfl, ?_, ⟨_, rfl⟩, hW, hsame.mono (by decide) (by decide)⟩
  · show oS p e below s₁ m 0 #[oj q0, .second, oi p1, .unset, .unset, .unset, .unset, .unset, .unset] [] _
    refine XS.lloadN X0.here hx rfl (hb hby own_d2_0) rfl ?_
    show oS p e below s₁ m 1 #[oj q0, .second, oi p1, .unset, .unset, .unset, .unset, .unset, .unset] [(.long q0)] _
    refine X0.ldc2Long hx hown (mvT hZ (hw _ (List.mem_of_getElem? (i := 8) rfl))) (g := (mkF m 1 #[oj q0, .second, oi p1, .unset, .unset, .unset, .unset, .unset, .unset] [(.long q0)])) rfl (hb hby own_d2_1) _ ?_
    show oS p e below s₁ m 4 #[oj q0, .second, oi p1, .unset, .unset, .unset, .unset, .unset, .unset] [(.long (64 : Int64)), (.long q0)] _
    refine XS.lmul X0.here hx rfl (hb hby own_d2_4) rfl ?_
    show oS p e below s₁ m 5 #[oj q0, .second, oi p1, .unset, .unset, .unset, .unset, .unset, .unset] [(.long (q0 * (64 : Int64)))] _
    refine XS.lstoreN X0.here hx rfl (hb hby own_d2_5) rfl (l' := #[oj q0, .second, oi p1, oj (q0 * (64 : Int64)), .second, .unset, .unset, .unset, .unset]) rfl ?_
    show oS p e below s₁ m 6 #[oj q0, .second, oi p1, oj (q0 * (64 : Int64)), .second, .unset, .unset, .unset, .unset] [] _
    refine X0.ldc2Long hx hown (mvT hZ (hw _ (List.mem_of_getElem? (i := 9) rfl))) (g := (mkF m 6 #[oj q0, .second, oi p1, oj (q0 * (64 : Int64)), .second, .unset, .unset, .unset, .unset] [])) rfl (hb hby own_d2_6) _ ?_
    show oS p e below s₁ m 9 #[oj q0, .second, oi p1, oj (q0 * (64 : Int64)), .second, .unset, .unset, .unset, .unset] [(.long (6500 : Int64))] _
    refine XS.lstore X0.here hx rfl (hb hby own_d2_9) rfl (l' := #[oj q0, .second, oi p1, oj (q0 * (64 : Int64)), .second, oj (6500 : Int64), .second, .unset, .unset]) rfl ?_
    show oS p e below s₁ m 11 #[oj q0, .second, oi p1, oj (q0 * (64 : Int64)), .second, oj (6500 : Int64), .second, .unset, .unset] [] _
    refine XS.iloadN X0.here hx rfl (hb hby own_d2_11) rfl ?_
    show oS p e below s₁ m 12 #[oj q0, .second, oi p1, oj (q0 * (64 : Int64)), .second, oj (6500 : Int64), .second, .unset, .unset] [(.int p1)] _
    refine XS.i2l X0.here hx rfl (hb hby own_d2_12) rfl ?_
    show oS p e below s₁ m 13 #[oj q0, .second, oi p1, oj (q0 * (64 : Int64)), .second, oj (6500 : Int64), .second, .unset, .unset] [(.long (p1.toInt64))] _
    refine X0.ldc2Long hx hown (mvT hZ (hw _ (List.mem_of_getElem? (i := 10) rfl))) (g := (mkF m 13 #[oj q0, .second, oi p1, oj (q0 * (64 : Int64)), .second, oj (6500 : Int64), .second, .unset, .unset] [(.long (p1.toInt64))])) rfl (hb hby own_d2_13) _ ?_
    show oS p e below s₁ m 16 #[oj q0, .second, oi p1, oj (q0 * (64 : Int64)), .second, oj (6500 : Int64), .second, .unset, .unset] [(.long (100 : Int64)), (.long (p1.toInt64))] _
    refine XS.lmul X0.here hx rfl (hb hby own_d2_16) rfl ?_
    show oS p e below s₁ m 17 #[oj q0, .second, oi p1, oj (q0 * (64 : Int64)), .second, oj (6500 : Int64), .second, .unset, .unset] [(.long ((p1.toInt64) * (100 : Int64)))] _
    refine XS.iloadN X0.here hx rfl (hb hby own_d2_17) rfl ?_
    show oS p e below s₁ m 18 #[oj q0, .second, oi p1, oj (q0 * (64 : Int64)), .second, oj (6500 : Int64), .second, .unset, .unset] [(.int p1), (.long ((p1.toInt64) * (100 : Int64)))] _
    refine XS.i2l X0.here hx rfl (hb hby own_d2_18) rfl ?_
    show oS p e below s₁ m 19 #[oj q0, .second, oi p1, oj (q0 * (64 : Int64)), .second, oj (6500 : Int64), .second, .unset, .unset] [(.long (p1.toInt64)), (.long ((p1.toInt64) * (100 : Int64)))] _
    refine XS.ladd X0.here hx rfl (hb hby own_d2_19) rfl ?_
    show oS p e below s₁ m 20 #[oj q0, .second, oi p1, oj (q0 * (64 : Int64)), .second, oj (6500 : Int64), .second, .unset, .unset] [(.long (((p1.toInt64) * (100 : Int64)) + (p1.toInt64)))] _
    refine XS.lstore X0.here hx rfl (hb hby own_d2_20) rfl (l' := #[oj q0, .second, oi p1, oj (q0 * (64 : Int64)), .second, oj (6500 : Int64), .second, oj (((p1.toInt64) * (100 : Int64)) + (p1.toInt64)), .second]) rfl ?_
    show oS p e below s₁ m 22 #[oj q0, .second, oi p1, oj (q0 * (64 : Int64)), .second, oj (6500 : Int64), .second, oj (((p1.toInt64) * (100 : Int64)) + (p1.toInt64)), .second] [] _
    refine XS.lloadN X0.here hx rfl (hb hby own_d2_22) rfl ?_
    show oS p e below s₁ m 23 #[oj q0, .second, oi p1, oj (q0 * (64 : Int64)), .second, oj (6500 : Int64), .second, oj (((p1.toInt64) * (100 : Int64)) + (p1.toInt64)), .second] [(.long (q0 * (64 : Int64)))] _
    refine XS.lload X0.here hx rfl (hb hby own_d2_23) rfl ?_
    show oS p e below s₁ m 25 #[oj q0, .second, oi p1, oj (q0 * (64 : Int64)), .second, oj (6500 : Int64), .second, oj (((p1.toInt64) * (100 : Int64)) + (p1.toInt64)), .second] [(.long (6500 : Int64)), (.long (q0 * (64 : Int64)))] _
    refine XS.ladd X0.here hx rfl (hb hby own_d2_25) rfl ?_
    show oS p e below s₁ m 26 #[oj q0, .second, oi p1, oj (q0 * (64 : Int64)), .second, oj (6500 : Int64), .second, oj (((p1.toInt64) * (100 : Int64)) + (p1.toInt64)), .second] [(.long ((q0 * (64 : Int64)) + (6500 : Int64)))] _
    refine XS.lload X0.here hx rfl (hb hby own_d2_26) rfl ?_
    show oS p e below s₁ m 28 #[oj q0, .second, oi p1, oj (q0 * (64 : Int64)), .second, oj (6500 : Int64), .second, oj (((p1.toInt64) * (100 : Int64)) + (p1.toInt64)), .second] [(.long (((p1.toInt64) * (100 : Int64)) + (p1.toInt64))), (.long ((q0 * (64 : Int64)) + (6500 : Int64)))] _
    refine XS.ladd X0.here hx rfl (hb hby own_d2_28) rfl ?_
    show oS p e below s₁ m 29 #[oj q0, .second, oi p1, oj (q0 * (64 : Int64)), .second, oj (6500 : Int64), .second, oj (((p1.toInt64) * (100 : Int64)) + (p1.toInt64)), .second] [(.long (((q0 * (64 : Int64)) + (6500 : Int64)) + (((p1.toInt64) * (100 : Int64)) + (p1.toInt64))))] _
    exact retOut X0 hx Bd.returns rfl (Or.inr (Or.inl ⟨rfl, rfl, _, rfl⟩)) (hb hby own_d2_29) hr
  · show own_Q2 Z q0 p1 h0 n0 _ s₁.heap _
    rw [e0]
    exact ⟨congrArg (fun z => some (Value.long z)) (by rw [own_f2]), N0, rfl⟩
theorem own_d4_0 : decode jdk_29_method_49_code 0 = .ok (.lload_n 0, 1) := by decide +kernel
theorem own_d4_1 : decode jdk_29_method_49_code 1 = .ok (.lload_n 2, 1) := by decide +kernel
theorem own_d4_2 : decode jdk_29_method_49_code 2 = .ok (.ldiv, 1) := by decide +kernel
theorem own_d4_3 : decode jdk_29_method_49_code 3 = .ok (.lstore 4, 2) := by decide +kernel
theorem own_d4_5 : decode jdk_29_method_49_code 5 = .ok (.lload_n 0, 1) := by decide +kernel
theorem own_d4_6 : decode jdk_29_method_49_code 6 = .ok (.lload_n 2, 1) := by decide +kernel
theorem own_d4_7 : decode jdk_29_method_49_code 7 = .ok (.lxor, 1) := by decide +kernel
theorem own_d4_8 : decode jdk_29_method_49_code 8 = .ok (.lconst 0, 1) := by decide +kernel
theorem own_d4_9 : decode jdk_29_method_49_code 9 = .ok (.lcmp, 1) := by decide +kernel
theorem own_d4_10 : decode jdk_29_method_49_code 10 = .ok (.ifCond .ge 17, 3) := by decide +kernel
theorem own_d4_13 : decode jdk_29_method_49_code 13 = .ok (.lload 4, 2) := by decide +kernel
theorem own_d4_15 : decode jdk_29_method_49_code 15 = .ok (.lload_n 2, 1) := by decide +kernel
theorem own_d4_16 : decode jdk_29_method_49_code 16 = .ok (.lmul, 1) := by decide +kernel
theorem own_d4_17 : decode jdk_29_method_49_code 17 = .ok (.lload_n 0, 1) := by decide +kernel
theorem own_d4_18 : decode jdk_29_method_49_code 18 = .ok (.lcmp, 1) := by decide +kernel
theorem own_d4_19 : decode jdk_29_method_49_code 19 = .ok (.ifCond .eq 8, 3) := by decide +kernel
theorem own_d4_22 : decode jdk_29_method_49_code 22 = .ok (.lload 4, 2) := by decide +kernel
theorem own_d4_24 : decode jdk_29_method_49_code 24 = .ok (.lconst 1, 1) := by decide +kernel
theorem own_d4_25 : decode jdk_29_method_49_code 25 = .ok (.lsub, 1) := by decide +kernel
theorem own_d4_26 : decode jdk_29_method_49_code 26 = .ok (.lreturn, 1) := by decide +kernel
theorem own_d4_27 : decode jdk_29_method_49_code 27 = .ok (.lload 4, 2) := by decide +kernel
theorem own_d4_29 : decode jdk_29_method_49_code 29 = .ok (.lreturn, 1) := by decide +kernel
theorem own_ef4 (m : MethodId) (q0 : Int64) (q1 : Int64) : entryFrame m #[(.long q0), (.long q1)] 6 = mkF m 0 #[oj q0, .second, oj q1, .second, .unset, .unset] [] := by first | (simp [entryFrame, mkF, argsToLocals, Value.category]; done) | rfl
def own_f4 (q0 : Int64) (q1 : Int64) : Int64 := (if (q0 ^^^ q1) < (0 : Int64) then (if ((q0 / q1) * q1) = q0 then (q0 / q1) else ((q0 / q1) - (1 : Int64))) else (q0 / q1))
def own_Q4 (Z : State) (q0 : Int64) (q1 : Int64) (h0 : Heap) (n0 : Nat) (v : Option Value) (h : Heap) (L : List Loc) : Prop := v = some (Value.long (own_f4 q0 q1)) ∧ Fr n0 L ∧ h = h0
set_option maxRecDepth 65536 in
set_option maxHeartbeats 40000000 in
theorem own_rm4 (l : Launch) (Z : State) (av : Array Value) (hw : ∀ d ∈ tables_1, d.before av Z = true) (ws : List Jvm.Cond) (q0 : Int64) (q1 : Int64) (h0 : Heap) (n0 : Nat) (Z0 : n0 ≤ h0.size) (hnz : q1 ≠ 0) :
    MetFree l (⟨"java/lang/Math", "floorDiv", "(JJ)J"⟩ : MethodName) (head1 (Jvm.Cond.code (⟨"java/lang/Math", "floorDiv", "(JJ)J"⟩ : MethodName) jdk_29_method_49_code 6 (some .long) :: ws) ({ frames := 0, cells := 0, slots := 0, locals := 0 } : Room)) (fun a U => a = #[(.long q0), (.long q1)] ∧ Z.Warmed39 U.vm ∧ U.heap = h0) (fun _ _ _ _ _ => True) (fun _ U o U' => ∃ v L, o = .returned v ∧ own_Q4 Z q0 q1 h0 n0 v U'.heap L ∧ FrameEnd U o U' L ({ frames := 0, cells := 0, slots := 0, locals := 0 } : Room).cells ({ frames := 0, cells := 0, slots := 0, locals := 0 } : Room).slots) := by
  refine MetFree.of_bodySF (Jvm.Free.JP.mathPlain rfl (by decide +kernel)) hisR ?_
  intro p e s m args below meth c s₁ Bd hml0 hP hK
  obtain ⟨rfl, hZ, hh⟩ := hP
  have hx := Bd.exec
  have hby := Bd.bytes
  have hml : c.maxLocals = 6 := hml0
  have hown : s.vm.findClass "java/lang/Math" = some m.cls := findClass_of_methodNamed Bd.named
  have hnm := (name_of_methodNamed Bd.named Bd.method).1
  have X0 : Stand p l e ({ frames := 0, cells := 0, slots := 0, locals := 0 } : Room) s m #[(.long q0), (.long q1)] below meth c s₁ [] 0 0 := Stand.of_body Bd
  have e0 : s₁.heap = h0 := by rw [← hh, Bd.state]; rfl
  have N0 := Fr.nil n0
  have pre0 : ∀ t, Steps p.tables e below (s₁.setTop (mkF m 0 #[oj q0, .second, oj q1, .second, .unset, .unset] [])) t → Steps p.tables e below (s₁.setTop (entryFrame m #[(.long q0), (.long q1)] 6)) t := fun t k => castTop (own_ef4 m q0 q1) k
  have pre1 : ∀ t, Steps p.tables e below (s₁.setTop (mkF m 10 #[oj q0, .second, oj q1, .second, oj (q0 / q1), .second] [(.int (lcmpW (q0 ^^^ q1) (0 : Int64)))])) t → Steps p.tables e below (s₁.setTop (entryFrame m #[(.long q0), (.long q1)] 6)) t := by
    intro t k
    refine pre0 t ?_
    show oS p e below s₁ m 0 #[oj q0, .second, oj q1, .second, .unset, .unset] [] _
    refine XS.lloadN X0.here hx rfl (hb hby own_d4_0) rfl ?_
    show oS p e below s₁ m 1 #[oj q0, .second, oj q1, .second, .unset, .unset] [(.long q0)] _
    refine XS.lloadN X0.here hx rfl (hb hby own_d4_1) rfl ?_
    show oS p e below s₁ m 2 #[oj q0, .second, oj q1, .second, .unset, .unset] [(.long q1), (.long q0)] _
    refine XS.ldiv X0.here hx rfl (hb hby own_d4_2) rfl hnz ?_
    show oS p e below s₁ m 3 #[oj q0, .second, oj q1, .second, .unset, .unset] [(.long (q0 / q1))] _
    refine XS.lstore X0.here hx rfl (hb hby own_d4_3) rfl (l' := #[oj q0, .second, oj q1, .second, oj (q0 / q1), .second]) rfl ?_
    show oS p e below s₁ m 5 #[oj q0, .second, oj q1, .second, oj (q0 / q1), .second] [] _
    refine XS.lloadN X0.here hx rfl (hb hby own_d4_5) rfl ?_
    show oS p e below s₁ m 6 #[oj q0, .second, oj q1, .second, oj (q0 / q1), .second] [(.long q0)] _
    refine XS.lloadN X0.here hx rfl (hb hby own_d4_6) rfl ?_
    show oS p e below s₁ m 7 #[oj q0, .second, oj q1, .second, oj (q0 / q1), .second] [(.long q1), (.long q0)] _
    refine XS.lxor X0.here hx rfl (hb hby own_d4_7) rfl ?_
    show oS p e below s₁ m 8 #[oj q0, .second, oj q1, .second, oj (q0 / q1), .second] [(.long (q0 ^^^ q1))] _
    refine XS.lconst X0.here hx rfl (hb hby own_d4_8) ?_
    show oS p e below s₁ m 9 #[oj q0, .second, oj q1, .second, oj (q0 / q1), .second] [(.long (0 : Int64)), (.long (q0 ^^^ q1))] _
    refine XS.lcmp X0.here hx rfl (hb hby own_d4_9) rfl ?_
    exact k
  by_cases c2 : (q0 ^^^ q1) < (0 : Int64)
  · skip
    have pre3 : ∀ t, Steps p.tables e below (s₁.setTop (mkF m 19 #[oj q0, .second, oj q1, .second, oj (q0 / q1), .second] [(.int (lcmpW ((q0 / q1) * q1) q0))])) t → Steps p.tables e below (s₁.setTop (entryFrame m #[(.long q0), (.long q1)] 6)) t := by
      intro t k
      refine pre1 t ?_
      show oS p e below s₁ m 10 #[oj q0, .second, oj q1, .second, oj (q0 / q1), .second] [(.int (lcmpW (q0 ^^^ q1) (0 : Int64)))] _
      refine XS.ifNo X0.here hx rfl (hb hby own_d4_10) rfl ((if0 _ _).trans (tlt ((lw_lt (q0 ^^^ q1) (0 : Int64)).mpr c2)).2.1) ?_
      show oS p e below s₁ m 13 #[oj q0, .second, oj q1, .second, oj (q0 / q1), .second] [] _
      refine XS.lload X0.here hx rfl (hb hby own_d4_13) rfl ?_
      show oS p e below s₁ m 15 #[oj q0, .second, oj q1, .second, oj (q0 / q1), .second] [(.long (q0 / q1))] _
      refine XS.lloadN X0.here hx rfl (hb hby own_d4_15) rfl ?_
      show oS p e below s₁ m 16 #[oj q0, .second, oj q1, .second, oj (q0 / q1), .second] [(.long q1), (.long (q0 / q1))] _
      refine XS.lmul X0.here hx rfl (hb hby own_d4_16) rfl ?_
      show oS p e below s₁ m 17 #[oj q0, .second, oj q1, .second, oj (q0 / q1), .second] [(.long ((q0 / q1) * q1))] _
      refine XS.lloadN X0.here hx rfl (hb hby own_d4_17) rfl ?_
      show oS p e below s₁ m 18 #[oj q0, .second, oj q1, .second, oj (q0 / q1), .second] [(.long q0), (.long ((q0 / q1) * q1))] _
      refine XS.lcmp X0.here hx rfl (hb hby own_d4_18) rfl ?_
      exact k
    by_cases c4 : ((q0 / q1) * q1) = q0
    · skip
      obtain ⟨fs, hr, hrun, hended, hW, hsame⟩ := X0.leave (v := (some (.long (q0 / q1)))) (fun h => by rw [Bd.returns] at h; cases h)
      refine ⟨_, _, pre3 _ ?_, hrun, hended, _, _, rfl, ?_, ⟨_, rfl⟩, hW, hsame.mono (by decide) (by decide)⟩
      · show oS p e below s₁ m 19 #[oj q0, .second, oj q1, .second, oj (q0 / q1), .second] [(.int (lcmpW ((q0 / q1) * q1) q0))] _
        refine XS.ifYes X0.here hx rfl (pc0 := 19) (pc' := 27) rfl (hb hby own_d4_19) rfl ((if0 _ _).trans (teq ((lw_eq ((q0 / q1) * q1) q0).mpr c4)).1) (by decide) (by decide) ?_
        show oS p e below s₁ m 27 #[oj q0, .second, oj q1, .second, oj (q0 / q1), .second] [] _
        refine XS.lload X0.here hx rfl (hb hby own_d4_27) rfl ?_
        show oS p e below s₁ m 29 #[oj q0, .second, oj q1, .second, oj (q0 / q1), .second] [(.long (q0 / q1))] _
        exact retOut X0 hx Bd.returns rfl (Or.inr (Or.inl ⟨rfl, rfl, _, rfl⟩)) (hb hby own_d4_29) hr
      · show own_Q4 Z q0 q1 h0 n0 _ s₁.heap _
        rw [e0]
        exact ⟨congrArg (fun z => some (Value.long z)) (by rw [own_f4, if_pos c2, if_pos c4]), N0, rfl⟩
    · skip
      obtain ⟨fs, hr, hrun, hended, hW, hsame⟩ := X0.leave (v := (some (.long ((q0 / q1) - (1 : Int64))))) (fun h => by rw [Bd.returns] at h; cases h)
      refine ⟨_, _, pre3 _ ?_, hrun, hended, _, _, rfl, ?_, ⟨_, rfl⟩, hW, hsame.mono (by decide) (by decide)⟩
      · show oS p e below s₁ m 19 #[oj q0, .second, oj q1, .second, oj (q0 / q1), .second] [(.int (lcmpW ((q0 / q1) * q1) q0))] _
        refine XS.ifNo X0.here hx rfl (hb hby own_d4_19) rfl ((if0 _ _).trans (feq (fun q => c4 ((lw_eq ((q0 / q1) * q1) q0).mp q))).1) ?_
        show oS p e below s₁ m 22 #[oj q0, .second, oj q1, .second, oj (q0 / q1), .second] [] _
        refine XS.lload X0.here hx rfl (hb hby own_d4_22) rfl ?_
        show oS p e below s₁ m 24 #[oj q0, .second, oj q1, .second, oj (q0 / q1), .second] [(.long (q0 / q1))] _
        refine XS.lconst X0.here hx rfl (hb hby own_d4_24) ?_
        show oS p e below s₁ m 25 #[oj q0, .second, oj q1, .second, oj (q0 / q1), .second] [(.long (1 : Int64)), (.long (q0 / q1))] _
        refine XS.lsub X0.here hx rfl (hb hby own_d4_25) rfl ?_
        show oS p e below s₁ m 26 #[oj q0, .second, oj q1, .second, oj (q0 / q1), .second] [(.long ((q0 / q1) - (1 : Int64)))] _
        exact retOut X0 hx Bd.returns rfl (Or.inr (Or.inl ⟨rfl, rfl, _, rfl⟩)) (hb hby own_d4_26) hr
      · show own_Q4 Z q0 q1 h0 n0 _ s₁.heap _
        rw [e0]
        exact ⟨congrArg (fun z => some (Value.long z)) (by rw [own_f4, if_pos c2, if_neg c4]), N0, rfl⟩
  · skip
    obtain ⟨fs, hr, hrun, hended, hW, hsame⟩ := X0.leave (v := (some (.long (q0 / q1)))) (fun h => by rw [Bd.returns] at h; cases h)
    refine ⟨_, _, pre1 _ ?_, hrun, hended, _, _, rfl, ?_, ⟨_, rfl⟩, hW, hsame.mono (by decide) (by decide)⟩
    · show oS p e below s₁ m 10 #[oj q0, .second, oj q1, .second, oj (q0 / q1), .second] [(.int (lcmpW (q0 ^^^ q1) (0 : Int64)))] _
      refine XS.ifYes X0.here hx rfl (pc0 := 10) (pc' := 27) rfl (hb hby own_d4_10) rfl ((if0 _ _).trans (flt (fun q => c2 ((lw_lt (q0 ^^^ q1) (0 : Int64)).mp q))).2.1) (by decide) (by decide) ?_
      show oS p e below s₁ m 27 #[oj q0, .second, oj q1, .second, oj (q0 / q1), .second] [] _
      refine XS.lload X0.here hx rfl (hb hby own_d4_27) rfl ?_
      show oS p e below s₁ m 29 #[oj q0, .second, oj q1, .second, oj (q0 / q1), .second] [(.long (q0 / q1))] _
      exact retOut X0 hx Bd.returns rfl (Or.inr (Or.inl ⟨rfl, rfl, _, rfl⟩)) (hb hby own_d4_29) hr
    · show own_Q4 Z q0 q1 h0 n0 _ s₁.heap _
      rw [e0]
      exact ⟨congrArg (fun z => some (Value.long z)) (by rw [own_f4, if_neg c2]), N0, rfl⟩
theorem own_pd0 : parseMethodDescriptor "(JJ)J" = some ⟨[.long, .long], some .long⟩ := by decide +kernel
theorem own_d3_0 : decode jdk_29_method_48_code 0 = .ok (.lload_n 0, 1) := by decide +kernel
theorem own_d3_1 : decode jdk_29_method_48_code 1 = .ok (.iload_n 2, 1) := by decide +kernel
theorem own_d3_2 : decode jdk_29_method_48_code 2 = .ok (.i2l, 1) := by decide +kernel
theorem own_d3_3 : decode jdk_29_method_48_code 3 = .ok (.invokestatic 143, 3) := by decide +kernel
theorem own_d3_6 : decode jdk_29_method_48_code 6 = .ok (.lreturn, 1) := by decide +kernel
theorem own_ef3 (m : MethodId) (q0 : Int64) (p1 : Int32) : entryFrame m #[(.long q0), (.int p1)] 3 = mkF m 0 #[oj q0, .second, oi p1] [] := by first | (simp [entryFrame, mkF, argsToLocals, Value.category]; done) | rfl
def own_f3 (q0 : Int64) (p1 : Int32) : Int64 := (own_f4 q0 (p1.toInt64))
def own_Q3 (Z : State) (q0 : Int64) (p1 : Int32) (h0 : Heap) (n0 : Nat) (v : Option Value) (h : Heap) (L : List Loc) : Prop := v = some (Value.long (own_f3 q0 p1)) ∧ Fr n0 L ∧ h = h0
set_option maxRecDepth 65536 in
set_option maxHeartbeats 40000000 in
theorem own_rm3 (l : Launch) (Z : State) (av : Array Value) (hw : ∀ d ∈ tables_1, d.before av Z = true) (ws : List Jvm.Cond) (q0 : Int64) (p1 : Int32) (h0 : Heap) (n0 : Nat) (Z0 : n0 ≤ h0.size) (hnz : p1.toInt64 ≠ 0) :
    MetFree l (⟨"java/lang/Math", "floorDiv", "(JI)J"⟩ : MethodName) (head1 (Jvm.Cond.code (⟨"java/lang/Math", "floorDiv", "(JI)J"⟩ : MethodName) jdk_29_method_48_code 3 (some .long) :: ws) ({ frames := 1, cells := 0, slots := 0, locals := 17 } : Room)) (fun a U => a = #[(.long q0), (.int p1)] ∧ Z.Warmed39 U.vm ∧ U.heap = h0) (fun _ _ _ _ _ => True) (fun _ U o U' => ∃ v L, o = .returned v ∧ own_Q3 Z q0 p1 h0 n0 v U'.heap L ∧ FrameEnd U o U' L ({ frames := 1, cells := 0, slots := 0, locals := 17 } : Room).cells ({ frames := 1, cells := 0, slots := 0, locals := 17 } : Room).slots) := by
  refine MetFree.of_bodySF (Jvm.Free.JP.mathPlain rfl (by decide +kernel)) hisR ?_
  intro p e s m args below meth c s₁ Bd hml0 hP hK
  obtain ⟨rfl, hZ, hh⟩ := hP
  have hx := Bd.exec
  have hby := Bd.bytes
  have hml : c.maxLocals = 3 := hml0
  have hown : s.vm.findClass "java/lang/Math" = some m.cls := findClass_of_methodNamed Bd.named
  have hnm := (name_of_methodNamed Bd.named Bd.method).1
  have X0 : Stand p l e ({ frames := 1, cells := 0, slots := 0, locals := 17 } : Room) s m #[(.long q0), (.int p1)] below meth c s₁ [] 0 0 := Stand.of_body Bd
  have e0 : s₁.heap = h0 := by rw [← hh, Bd.state]; rfl
  have N0 := Fr.nil n0
  have pre0 : ∀ t, Steps p.tables e below (s₁.setTop (mkF m 0 #[oj q0, .second, oi p1] [])) t → Steps p.tables e below (s₁.setTop (entryFrame m #[(.long q0), (.int p1)] 3)) t := fun t k => castTop (own_ef3 m q0 p1) k
  obtain ⟨_, _, ⟨T1, L1, k1, n1⟩, -, X1, ⟨Lc1, hQ1, l1, y1, z1⟩, st1⟩ := Jvm.LawKit.callS X0 hx (y := (⟨"java/lang/Math", "floorDiv", "(JJ)J"⟩ : MethodName)) hown (mvT hZ (hw _ (List.mem_of_getElem? (i := 15) rfl))) (mvT hZ (hw _ (List.mem_of_getElem? (i := 16) rfl))) (mvT hZ (hw _ (List.mem_of_getElem? (i := 13) rfl))) (mvT hZ (hw _ (List.mem_of_getElem? (i := 17) rfl))) (by decide) (backOf (W := 0) (own_rm4 l Z av hw [] q0 (p1.toInt64) h0 n0 Z0 (hnz)) hZ (hw _ (List.mem_of_getElem? (i := 17) rfl)) (hw _ (List.mem_of_getElem? (i := 13) rfl)) (by decide) (by decide)) (g := (mkF m 3 #[oj q0, .second, oi p1] [(.long (p1.toInt64)), (.long q0)])) rfl (by rw [hml]; rfl) (argsL := [(.long q0), (.long (p1.toInt64))]) (rest := []) (lenOf own_pd0 rfl) rfl (by show 2 * 0 + _ ≤ _; exact Nat.le_of_eq rfl) (hb hby own_d3_3) (fun _ _ => ⟨rfl, e0, (by decide : 0 + 0 ≤ _), (by decide : 0 + 0 ≤ _)⟩)
  dsimp only [Pt.U, Pt.locs, Pt.cells, Pt.slots] at X1 l1 y1 z1 st1 hQ1
  subst l1 y1 z1
  obtain ⟨rfl, Nq1, eq1⟩ := hQ1
  have N1 := Fr.app N0 Nq1
  obtain ⟨fs, hr, hrun, hended, hW, hsame⟩ := X1.leave (v := (some (.long (own_f4 q0 (p1.toInt64))))) (fun h => by rw [Bd.returns] at h; cases h)
  refine ⟨_, _, pre0 _ ?_, hrun, hended, _, _, rfl, ?_, ⟨_, rfl⟩, hW, hsame.mono (by decide) (by decide)⟩
  · show oS p e below s₁ m 0 #[oj q0, .second, oi p1] [] _
    refine XS.lloadN X0.here hx rfl (hb hby own_d3_0) rfl ?_
    show oS p e below s₁ m 1 #[oj q0, .second, oi p1] [(.long q0)] _
    refine XS.iloadN X0.here hx rfl (hb hby own_d3_1) rfl ?_
    show oS p e below s₁ m 2 #[oj q0, .second, oi p1] [(.int p1), (.long q0)] _
    refine XS.i2l X0.here hx rfl (hb hby own_d3_2) rfl ?_
    show oS p e below s₁ m 3 #[oj q0, .second, oi p1] [(.long (p1.toInt64)), (.long q0)] _
    refine st1 _ ?_
    show oS p e below T1 m 6 #[oj q0, .second, oi p1] [(.long (own_f4 q0 (p1.toInt64)))] _
    exact retOut X1 hx Bd.returns rfl (Or.inr (Or.inl ⟨rfl, rfl, _, rfl⟩)) (hb hby own_d3_6) hr
  · show own_Q3 Z q0 p1 h0 n0 _ T1.heap _
    rw [eq1]
    exact ⟨congrArg (fun z => some (Value.long z)) (by rw [own_f3]), N1, rfl⟩
theorem own_pd1 : parseMethodDescriptor "(JI)J" = some ⟨[.long, .int], some .long⟩ := by decide +kernel
theorem own_d1_0 : decode prog_7_method_2_code 0 = .ok (.ldc2_w 87, 3) := by decide +kernel
theorem own_d1_3 : decode prog_7_method_2_code 3 = .ok (.lconst 0, 1) := by decide +kernel
theorem own_d1_4 : decode prog_7_method_2_code 4 = .ok (.iload_n 0, 1) := by decide +kernel
theorem own_d1_5 : decode prog_7_method_2_code 5 = .ok (.invokestatic 89, 3) := by decide +kernel
theorem own_d1_8 : decode prog_7_method_2_code 8 = .ok (.lsub, 1) := by decide +kernel
theorem own_d1_9 : decode prog_7_method_2_code 9 = .ok (.lstore_n 1, 1) := by decide +kernel
theorem own_d1_10 : decode prog_7_method_2_code 10 = .ok (.lload_n 1, 1) := by decide +kernel
theorem own_d1_11 : decode prog_7_method_2_code 11 = .ok (.bipush 64, 2) := by decide +kernel
theorem own_d1_13 : decode prog_7_method_2_code 13 = .ok (.invokestatic 93, 3) := by decide +kernel
theorem own_d1_16 : decode prog_7_method_2_code 16 = .ok (.lreturn, 1) := by decide +kernel
theorem own_ef1 (m : MethodId) (p0 : Int32) : entryFrame m #[(.int p0)] 3 = mkF m 0 #[oi p0, .unset, .unset] [] := by first | (simp [entryFrame, mkF, argsToLocals, Value.category]; done) | rfl
def own_f1 (p0 : Int32) : Int64 := (own_f3 ((3020000 : Int64) - (own_f2 (0 : Int64) p0)) (64 : Int32))
def own_Q1 (Z : State) (p0 : Int32) (h0 : Heap) (n0 : Nat) (v : Option Value) (h : Heap) (L : List Loc) : Prop := v = some (Value.long (own_f1 p0)) ∧ Fr n0 L ∧ h = h0
set_option maxRecDepth 65536 in
set_option maxHeartbeats 40000000 in
theorem own_rm1 (l : Launch) (Z : State) (av : Array Value) (hw : ∀ d ∈ tables_1, d.before av Z = true) (ws : List Jvm.Cond) (p0 : Int32) (h0 : Heap) (n0 : Nat) (Z0 : n0 ≤ h0.size) :
    MetFree l (⟨"com/example/trawl_tables/trawltables/Router", "vocabularyBound", "(I)J"⟩ : MethodName) (head1 (Jvm.Cond.code (⟨"com/example/trawl_tables/trawltables/Router", "vocabularyBound", "(I)J"⟩ : MethodName) prog_7_method_2_code 3 (some .long) :: ws) ({ frames := 2, cells := 0, slots := 0, locals := 31 } : Room)) (fun a U => a = #[(.int p0)] ∧ Z.Warmed39 U.vm ∧ U.heap = h0) (fun _ _ _ _ _ => True) (fun _ U o U' => ∃ v L, o = .returned v ∧ own_Q1 Z p0 h0 n0 v U'.heap L ∧ FrameEnd U o U' L ({ frames := 2, cells := 0, slots := 0, locals := 31 } : Room).cells ({ frames := 2, cells := 0, slots := 0, locals := 31 } : Room).slots) := by
  refine MetFree.of_bodySF (plainFor_of_name own_pn0) hisR ?_
  intro p e s m args below meth c s₁ Bd hml0 hP hK
  obtain ⟨rfl, hZ, hh⟩ := hP
  have hx := Bd.exec
  have hby := Bd.bytes
  have hml : c.maxLocals = 3 := hml0
  have hown : s.vm.findClass "com/example/trawl_tables/trawltables/Router" = some m.cls := findClass_of_methodNamed Bd.named
  have hnm := (name_of_methodNamed Bd.named Bd.method).1
  have X0 : Stand p l e ({ frames := 2, cells := 0, slots := 0, locals := 31 } : Room) s m #[(.int p0)] below meth c s₁ [] 0 0 := Stand.of_body Bd
  have e0 : s₁.heap = h0 := by rw [← hh, Bd.state]; rfl
  have N0 := Fr.nil n0
  have pre0 : ∀ t, Steps p.tables e below (s₁.setTop (mkF m 0 #[oi p0, .unset, .unset] [])) t → Steps p.tables e below (s₁.setTop (entryFrame m #[(.int p0)] 3)) t := fun t k => castTop (own_ef1 m p0) k
  obtain ⟨_, _, ⟨T1, L1, k1, n1⟩, -, X1, ⟨Lc1, hQ1, l1, y1, z1⟩, st1⟩ := Jvm.LawKit.callS X0 hx (y := (⟨"com/example/trawl_tables/trawltables/Router", "parameters", "(JI)J"⟩ : MethodName)) hown (mvT hZ (hw _ (List.mem_of_getElem? (i := 5) rfl))) (mvT hZ (hw _ (List.mem_of_getElem? (i := 6) rfl))) (mvT hZ (hw _ (List.mem_of_getElem? (i := 2) rfl))) (mvT hZ (hw _ (List.mem_of_getElem? (i := 7) rfl))) (by decide) (backOf (W := 2) (own_rm2 l Z av hw [] (0 : Int64) p0 h0 n0 Z0 ) hZ (hw _ (List.mem_of_getElem? (i := 7) rfl)) (hw _ (List.mem_of_getElem? (i := 2) rfl)) (by decide) (by decide)) (g := (mkF m 5 #[oi p0, .unset, .unset] [(.int p0), (.long (0 : Int64)), (.long (3020000 : Int64))])) rfl (by rw [hml]; rfl) (argsL := [(.long (0 : Int64)), (.int p0)]) (rest := [(.long (3020000 : Int64))]) (lenOf own_pd1 rfl) rfl (by show 2 * 0 + _ ≤ _; exact Nat.le_of_eq rfl) (hb hby own_d1_5) (fun _ _ => ⟨rfl, e0, (by decide : 0 + 0 ≤ _), (by decide : 0 + 0 ≤ _)⟩)
  dsimp only [Pt.U, Pt.locs, Pt.cells, Pt.slots] at X1 l1 y1 z1 st1 hQ1
  subst l1 y1 z1
  obtain ⟨rfl, Nq1, eq1⟩ := hQ1
  have N1 := Fr.app N0 Nq1
  obtain ⟨_, _, ⟨T2, L2, k2, n2⟩, -, X2, ⟨Lc2, hQ2, l2, y2, z2⟩, st2⟩ := Jvm.LawKit.callS X1 hx (y := (⟨"java/lang/Math", "floorDiv", "(JI)J"⟩ : MethodName)) hown (mvT hZ (hw _ (List.mem_of_getElem? (i := 11) rfl))) (mvT hZ (hw _ (List.mem_of_getElem? (i := 12) rfl))) (mvT hZ (hw _ (List.mem_of_getElem? (i := 13) rfl))) (mvT hZ (hw _ (List.mem_of_getElem? (i := 14) rfl))) (by decide) (backOf (W := 0) (own_rm3 l Z av hw [] ((3020000 : Int64) - (own_f2 (0 : Int64) p0)) (64 : Int32) h0 n0 Z0 (by decide)) hZ (hw _ (List.mem_of_getElem? (i := 14) rfl)) (hw _ (List.mem_of_getElem? (i := 13) rfl)) (by decide) (by decide)) (g := (mkF m 13 #[oi p0, oj ((3020000 : Int64) - (own_f2 (0 : Int64) p0)), .second] [(.int (64 : Int32)), (.long ((3020000 : Int64) - (own_f2 (0 : Int64) p0)))])) rfl (by rw [hml]; rfl) (argsL := [(.long ((3020000 : Int64) - (own_f2 (0 : Int64) p0))), (.int (64 : Int32))]) (rest := []) (lenOf own_pd1 rfl) rfl (by show 2 * 0 + _ ≤ _; exact Nat.le_of_eq rfl) (hb hby own_d1_13) (fun _ _ => ⟨rfl, eq1, (by decide : 0 + 0 ≤ _), (by decide : 0 + 0 ≤ _)⟩)
  dsimp only [Pt.U, Pt.locs, Pt.cells, Pt.slots] at X2 l2 y2 z2 st2 hQ2
  subst l2 y2 z2
  obtain ⟨rfl, Nq2, eq2⟩ := hQ2
  have N2 := Fr.app N1 Nq2
  obtain ⟨fs, hr, hrun, hended, hW, hsame⟩ := X2.leave (v := (some (.long (own_f3 ((3020000 : Int64) - (own_f2 (0 : Int64) p0)) (64 : Int32))))) (fun h => by rw [Bd.returns] at h; cases h)
  refine ⟨_, _, pre0 _ ?_, hrun, hended, _, _, rfl, ?_, ⟨_, rfl⟩, hW, hsame.mono (by decide) (by decide)⟩
  · show oS p e below s₁ m 0 #[oi p0, .unset, .unset] [] _
    refine X0.ldc2Long hx hown (mvT hZ (hw _ (List.mem_of_getElem? (i := 4) rfl))) (g := (mkF m 0 #[oi p0, .unset, .unset] [])) rfl (hb hby own_d1_0) _ ?_
    show oS p e below s₁ m 3 #[oi p0, .unset, .unset] [(.long (3020000 : Int64))] _
    refine XS.lconst X0.here hx rfl (hb hby own_d1_3) ?_
    show oS p e below s₁ m 4 #[oi p0, .unset, .unset] [(.long (0 : Int64)), (.long (3020000 : Int64))] _
    refine XS.iloadN X0.here hx rfl (hb hby own_d1_4) rfl ?_
    show oS p e below s₁ m 5 #[oi p0, .unset, .unset] [(.int p0), (.long (0 : Int64)), (.long (3020000 : Int64))] _
    refine st1 _ ?_
    show oS p e below T1 m 8 #[oi p0, .unset, .unset] [(.long (own_f2 (0 : Int64) p0)), (.long (3020000 : Int64))] _
    refine XS.lsub X1.here hx rfl (hb hby own_d1_8) rfl ?_
    show oS p e below T1 m 9 #[oi p0, .unset, .unset] [(.long ((3020000 : Int64) - (own_f2 (0 : Int64) p0)))] _
    refine XS.lstoreN X1.here hx rfl (hb hby own_d1_9) rfl (l' := #[oi p0, oj ((3020000 : Int64) - (own_f2 (0 : Int64) p0)), .second]) rfl ?_
    show oS p e below T1 m 10 #[oi p0, oj ((3020000 : Int64) - (own_f2 (0 : Int64) p0)), .second] [] _
    refine XS.lloadN X1.here hx rfl (hb hby own_d1_10) rfl ?_
    show oS p e below T1 m 11 #[oi p0, oj ((3020000 : Int64) - (own_f2 (0 : Int64) p0)), .second] [(.long ((3020000 : Int64) - (own_f2 (0 : Int64) p0)))] _
    refine XS.bipush X1.here hx rfl (hb hby own_d1_11) ?_
    show oS p e below T1 m 13 #[oi p0, oj ((3020000 : Int64) - (own_f2 (0 : Int64) p0)), .second] [(.int (64 : Int32)), (.long ((3020000 : Int64) - (own_f2 (0 : Int64) p0)))] _
    refine st2 _ ?_
    show oS p e below T2 m 16 #[oi p0, oj ((3020000 : Int64) - (own_f2 (0 : Int64) p0)), .second] [(.long (own_f3 ((3020000 : Int64) - (own_f2 (0 : Int64) p0)) (64 : Int32)))] _
    exact retOut X2 hx Bd.returns rfl (Or.inr (Or.inl ⟨rfl, rfl, _, rfl⟩)) (hb hby own_d1_16) hr
  · show own_Q1 Z p0 h0 n0 _ T2.heap _
    rw [eq2]
    exact ⟨congrArg (fun z => some (Value.long z)) (by rw [own_f1]), N2, rfl⟩
theorem own_pn1 : plainName "com/example/trawl_tables/trawltables/RouterVocabularyBoundPinLaw" = true := by first | (simp [plainName, overriddenIn]; done) | decide +kernel
theorem own_d5_0 : decode method_2_code 0 = .ok (.lload_n 0, 1) := by decide +kernel
theorem own_d5_1 : decode method_2_code 1 = .ok (.ldc2_w 7, 3) := by decide +kernel
theorem own_d5_4 : decode method_2_code 4 = .ok (.lmul, 1) := by decide +kernel
theorem own_d5_5 : decode method_2_code 5 = .ok (.lstore 4, 2) := by decide +kernel
theorem own_d5_7 : decode method_2_code 7 = .ok (.ldc2_w 9, 3) := by decide +kernel
theorem own_d5_10 : decode method_2_code 10 = .ok (.lstore 6, 2) := by decide +kernel
theorem own_d5_12 : decode method_2_code 12 = .ok (.lload_n 2, 1) := by decide +kernel
theorem own_d5_13 : decode method_2_code 13 = .ok (.ldc2_w 11, 3) := by decide +kernel
theorem own_d5_16 : decode method_2_code 16 = .ok (.lmul, 1) := by decide +kernel
theorem own_d5_17 : decode method_2_code 17 = .ok (.lload_n 2, 1) := by decide +kernel
theorem own_d5_18 : decode method_2_code 18 = .ok (.ladd, 1) := by decide +kernel
theorem own_d5_19 : decode method_2_code 19 = .ok (.lstore 8, 2) := by decide +kernel
theorem own_d5_21 : decode method_2_code 21 = .ok (.lload 4, 2) := by decide +kernel
theorem own_d5_23 : decode method_2_code 23 = .ok (.lload 6, 2) := by decide +kernel
theorem own_d5_25 : decode method_2_code 25 = .ok (.ladd, 1) := by decide +kernel
theorem own_d5_26 : decode method_2_code 26 = .ok (.lload 8, 2) := by decide +kernel
theorem own_d5_28 : decode method_2_code 28 = .ok (.ladd, 1) := by decide +kernel
theorem own_d5_29 : decode method_2_code 29 = .ok (.lreturn, 1) := by decide +kernel
theorem own_ef5 (m : MethodId) (q0 : Int64) (q1 : Int64) : entryFrame m #[(.long q0), (.long q1)] 10 = mkF m 0 #[oj q0, .second, oj q1, .second, .unset, .unset, .unset, .unset, .unset, .unset] [] := by first | (simp [entryFrame, mkF, argsToLocals, Value.category]; done) | rfl
def own_f5 (q0 : Int64) (q1 : Int64) : Int64 := (((q0 * (64 : Int64)) + (6500 : Int64)) + ((q1 * (100 : Int64)) + q1))
def own_Q5 (Z : State) (q0 : Int64) (q1 : Int64) (h0 : Heap) (n0 : Nat) (v : Option Value) (h : Heap) (L : List Loc) : Prop := v = some (Value.long (own_f5 q0 q1)) ∧ Fr n0 L ∧ h = h0
set_option maxRecDepth 65536 in
set_option maxHeartbeats 40000000 in
theorem own_rm5 (l : Launch) (Z : State) (av : Array Value) (hw : ∀ d ∈ tables_1, d.before av Z = true) (ws : List Jvm.Cond) (q0 : Int64) (q1 : Int64) (h0 : Heap) (n0 : Nat) (Z0 : n0 ≤ h0.size) :
    MetFree l (⟨"com/example/trawl_tables/trawltables/RouterVocabularyBoundPinLaw", "count", "(JJ)J"⟩ : MethodName) (head1 (Jvm.Cond.code (⟨"com/example/trawl_tables/trawltables/RouterVocabularyBoundPinLaw", "count", "(JJ)J"⟩ : MethodName) method_2_code 10 (some .long) :: ws) ({ frames := 0, cells := 0, slots := 0, locals := 0 } : Room)) (fun a U => a = #[(.long q0), (.long q1)] ∧ Z.Warmed39 U.vm ∧ U.heap = h0) (fun _ _ _ _ _ => True) (fun _ U o U' => ∃ v L, o = .returned v ∧ own_Q5 Z q0 q1 h0 n0 v U'.heap L ∧ FrameEnd U o U' L ({ frames := 0, cells := 0, slots := 0, locals := 0 } : Room).cells ({ frames := 0, cells := 0, slots := 0, locals := 0 } : Room).slots) := by
  refine MetFree.of_bodySF (plainFor_of_name own_pn1) hisR ?_
  intro p e s m args below meth c s₁ Bd hml0 hP hK
  obtain ⟨rfl, hZ, hh⟩ := hP
  have hx := Bd.exec
  have hby := Bd.bytes
  have hml : c.maxLocals = 10 := hml0
  have hown : s.vm.findClass "com/example/trawl_tables/trawltables/RouterVocabularyBoundPinLaw" = some m.cls := findClass_of_methodNamed Bd.named
  have hnm := (name_of_methodNamed Bd.named Bd.method).1
  have X0 : Stand p l e ({ frames := 0, cells := 0, slots := 0, locals := 0 } : Room) s m #[(.long q0), (.long q1)] below meth c s₁ [] 0 0 := Stand.of_body Bd
  have e0 : s₁.heap = h0 := by rw [← hh, Bd.state]; rfl
  have N0 := Fr.nil n0
  have pre0 : ∀ t, Steps p.tables e below (s₁.setTop (mkF m 0 #[oj q0, .second, oj q1, .second, .unset, .unset, .unset, .unset, .unset, .unset] [])) t → Steps p.tables e below (s₁.setTop (entryFrame m #[(.long q0), (.long q1)] 10)) t := fun t k => castTop (own_ef5 m q0 q1) k
  obtain ⟨fs, hr, hrun, hended, hW, hsame⟩ := X0.leave (v := (some (.long (((q0 * (64 : Int64)) + (6500 : Int64)) + ((q1 * (100 : Int64)) + q1))))) (fun h => by rw [Bd.returns] at h; cases h)
  refine ⟨_, _, pre0 _ ?_, hrun, hended, _, _, rfl, ?_, ⟨_, rfl⟩, hW, hsame.mono (by decide) (by decide)⟩
  · show oS p e below s₁ m 0 #[oj q0, .second, oj q1, .second, .unset, .unset, .unset, .unset, .unset, .unset] [] _
    refine XS.lloadN X0.here hx rfl (hb hby own_d5_0) rfl ?_
    show oS p e below s₁ m 1 #[oj q0, .second, oj q1, .second, .unset, .unset, .unset, .unset, .unset, .unset] [(.long q0)] _
    refine X0.ldc2Long hx hown (mvT hZ (hw _ (List.mem_of_getElem? (i := 22) rfl))) (g := (mkF m 1 #[oj q0, .second, oj q1, .second, .unset, .unset, .unset, .unset, .unset, .unset] [(.long q0)])) rfl (hb hby own_d5_1) _ ?_
    show oS p e below s₁ m 4 #[oj q0, .second, oj q1, .second, .unset, .unset, .unset, .unset, .unset, .unset] [(.long (64 : Int64)), (.long q0)] _
    refine XS.lmul X0.here hx rfl (hb hby own_d5_4) rfl ?_
    show oS p e below s₁ m 5 #[oj q0, .second, oj q1, .second, .unset, .unset, .unset, .unset, .unset, .unset] [(.long (q0 * (64 : Int64)))] _
    refine XS.lstore X0.here hx rfl (hb hby own_d5_5) rfl (l' := #[oj q0, .second, oj q1, .second, oj (q0 * (64 : Int64)), .second, .unset, .unset, .unset, .unset]) rfl ?_
    show oS p e below s₁ m 7 #[oj q0, .second, oj q1, .second, oj (q0 * (64 : Int64)), .second, .unset, .unset, .unset, .unset] [] _
    refine X0.ldc2Long hx hown (mvT hZ (hw _ (List.mem_of_getElem? (i := 23) rfl))) (g := (mkF m 7 #[oj q0, .second, oj q1, .second, oj (q0 * (64 : Int64)), .second, .unset, .unset, .unset, .unset] [])) rfl (hb hby own_d5_7) _ ?_
    show oS p e below s₁ m 10 #[oj q0, .second, oj q1, .second, oj (q0 * (64 : Int64)), .second, .unset, .unset, .unset, .unset] [(.long (6500 : Int64))] _
    refine XS.lstore X0.here hx rfl (hb hby own_d5_10) rfl (l' := #[oj q0, .second, oj q1, .second, oj (q0 * (64 : Int64)), .second, oj (6500 : Int64), .second, .unset, .unset]) rfl ?_
    show oS p e below s₁ m 12 #[oj q0, .second, oj q1, .second, oj (q0 * (64 : Int64)), .second, oj (6500 : Int64), .second, .unset, .unset] [] _
    refine XS.lloadN X0.here hx rfl (hb hby own_d5_12) rfl ?_
    show oS p e below s₁ m 13 #[oj q0, .second, oj q1, .second, oj (q0 * (64 : Int64)), .second, oj (6500 : Int64), .second, .unset, .unset] [(.long q1)] _
    refine X0.ldc2Long hx hown (mvT hZ (hw _ (List.mem_of_getElem? (i := 24) rfl))) (g := (mkF m 13 #[oj q0, .second, oj q1, .second, oj (q0 * (64 : Int64)), .second, oj (6500 : Int64), .second, .unset, .unset] [(.long q1)])) rfl (hb hby own_d5_13) _ ?_
    show oS p e below s₁ m 16 #[oj q0, .second, oj q1, .second, oj (q0 * (64 : Int64)), .second, oj (6500 : Int64), .second, .unset, .unset] [(.long (100 : Int64)), (.long q1)] _
    refine XS.lmul X0.here hx rfl (hb hby own_d5_16) rfl ?_
    show oS p e below s₁ m 17 #[oj q0, .second, oj q1, .second, oj (q0 * (64 : Int64)), .second, oj (6500 : Int64), .second, .unset, .unset] [(.long (q1 * (100 : Int64)))] _
    refine XS.lloadN X0.here hx rfl (hb hby own_d5_17) rfl ?_
    show oS p e below s₁ m 18 #[oj q0, .second, oj q1, .second, oj (q0 * (64 : Int64)), .second, oj (6500 : Int64), .second, .unset, .unset] [(.long q1), (.long (q1 * (100 : Int64)))] _
    refine XS.ladd X0.here hx rfl (hb hby own_d5_18) rfl ?_
    show oS p e below s₁ m 19 #[oj q0, .second, oj q1, .second, oj (q0 * (64 : Int64)), .second, oj (6500 : Int64), .second, .unset, .unset] [(.long ((q1 * (100 : Int64)) + q1))] _
    refine XS.lstore X0.here hx rfl (hb hby own_d5_19) rfl (l' := #[oj q0, .second, oj q1, .second, oj (q0 * (64 : Int64)), .second, oj (6500 : Int64), .second, oj ((q1 * (100 : Int64)) + q1), .second]) rfl ?_
    show oS p e below s₁ m 21 #[oj q0, .second, oj q1, .second, oj (q0 * (64 : Int64)), .second, oj (6500 : Int64), .second, oj ((q1 * (100 : Int64)) + q1), .second] [] _
    refine XS.lload X0.here hx rfl (hb hby own_d5_21) rfl ?_
    show oS p e below s₁ m 23 #[oj q0, .second, oj q1, .second, oj (q0 * (64 : Int64)), .second, oj (6500 : Int64), .second, oj ((q1 * (100 : Int64)) + q1), .second] [(.long (q0 * (64 : Int64)))] _
    refine XS.lload X0.here hx rfl (hb hby own_d5_23) rfl ?_
    show oS p e below s₁ m 25 #[oj q0, .second, oj q1, .second, oj (q0 * (64 : Int64)), .second, oj (6500 : Int64), .second, oj ((q1 * (100 : Int64)) + q1), .second] [(.long (6500 : Int64)), (.long (q0 * (64 : Int64)))] _
    refine XS.ladd X0.here hx rfl (hb hby own_d5_25) rfl ?_
    show oS p e below s₁ m 26 #[oj q0, .second, oj q1, .second, oj (q0 * (64 : Int64)), .second, oj (6500 : Int64), .second, oj ((q1 * (100 : Int64)) + q1), .second] [(.long ((q0 * (64 : Int64)) + (6500 : Int64)))] _
    refine XS.lload X0.here hx rfl (hb hby own_d5_26) rfl ?_
    show oS p e below s₁ m 28 #[oj q0, .second, oj q1, .second, oj (q0 * (64 : Int64)), .second, oj (6500 : Int64), .second, oj ((q1 * (100 : Int64)) + q1), .second] [(.long ((q1 * (100 : Int64)) + q1)), (.long ((q0 * (64 : Int64)) + (6500 : Int64)))] _
    refine XS.ladd X0.here hx rfl (hb hby own_d5_28) rfl ?_
    show oS p e below s₁ m 29 #[oj q0, .second, oj q1, .second, oj (q0 * (64 : Int64)), .second, oj (6500 : Int64), .second, oj ((q1 * (100 : Int64)) + q1), .second] [(.long (((q0 * (64 : Int64)) + (6500 : Int64)) + ((q1 * (100 : Int64)) + q1)))] _
    exact retOut X0 hx Bd.returns rfl (Or.inr (Or.inl ⟨rfl, rfl, _, rfl⟩)) (hb hby own_d5_29) hr
  · show own_Q5 Z q0 q1 h0 n0 _ s₁.heap _
    rw [e0]
    exact ⟨congrArg (fun z => some (Value.long z)) (by rw [own_f5]), N0, rfl⟩
theorem own_par (v : Int64) (r : Int32) (hv : v.toInt = 0) : (own_f2 v r).toInt = 6500 + 101 * r.toInt := by
  have h1 := c_lmul v 64
  have h2 := c_lmul r.toInt64 100
  have h3 := c_ladd (r.toInt64 * 100) r.toInt64
  have h4 := c_ladd (v * 64) 6500
  have h5 := c_ladd (v * 64 + 6500) (r.toInt64 * 100 + r.toInt64)
  have h6 := c_i2l r
  have r0 := rng32 r
  have r1 := rng64 (v * 64)
  have r2 := rng64 (r.toInt64 * 100)
  have r3 := rng64 (r.toInt64 * 100 + r.toInt64)
  have r4 := rng64 (v * 64 + 6500)
  have r5 := rng64 (v * 64 + 6500 + (r.toInt64 * 100 + r.toInt64))
  unfold own_f2
  simp only [Int64.reduceToInt, h6, hv] at h1 h2 h3 h4 h5 ⊢
  omega
theorem own_div (x : Int64) (hx : -9223372036854775000 < x.toInt) : (own_f4 x (64 : Int64)).toInt = x.toInt / 64 := by
  have h1 := c_ldiv x 64 64 (by decide) (by decide)
  have h2 := c_xorSL x 64
  have h3 := c_lmul (x / 64) 64
  have h4 := c_lsub (x / 64) 1
  have r1 := rng64 x
  have r2 := rng64 (x / 64)
  have r3 := rng64 (x / 64 * 64)
  have r4 := rng64 (x / 64 - 1)
  unfold own_f4
  simp only [own_ltpL, own_eqpL, Int64.reduceToInt] at h1 h2 h3 h4 ⊢
  repeat' split
  all_goals omega
theorem own_voc (r : Int32) : (own_f1 r).toInt = (3013500 - 101 * r.toInt) / 64 := by
  have h1 := own_par (0 : Int64) r (by decide)
  have h2 := c_lsub 3020000 (own_f2 0 r)
  have r0 := rng32 r
  have r1 := rng64 (3020000 - own_f2 0 r)
  have h3 := own_div (3020000 - own_f2 0 r)
  have h4 : (own_f1 r) = own_f4 (3020000 - own_f2 0 r) (64 : Int64) := rfl
  simp only [Int64.reduceToInt, h1] at h2
  have g : (3020000 - own_f2 0 r).toInt = 3013500 - 101 * r.toInt := by omega
  rw [h4, h3 (by omega), g]
theorem own_cnt (v : Int64) (r : Int32) (hv : -2147483648000 < v.toInt) (hv' : v.toInt < 2147483648000) : (own_f5 v r.toInt64).toInt = 64 * v.toInt + 6500 + 101 * r.toInt := by
  have h1 := c_lmul v 64
  have h2 := c_lmul r.toInt64 100
  have h3 := c_ladd (r.toInt64 * 100) r.toInt64
  have h4 := c_ladd (v * 64) 6500
  have h5 := c_ladd (v * 64 + 6500) (r.toInt64 * 100 + r.toInt64)
  have h6 := c_i2l r
  have r0 := rng32 r
  have r1 := rng64 (v * 64)
  have r2 := rng64 (r.toInt64 * 100)
  have r3 := rng64 (r.toInt64 * 100 + r.toInt64)
  have r4 := rng64 (v * 64 + 6500)
  have r5 := rng64 (v * 64 + 6500 + (r.toInt64 * 100 + r.toInt64))
  unfold own_f5
  simp only [Int64.reduceToInt, h6] at h1 h2 h3 h4 h5 ⊢
  omega
theorem own_fit (r : Int32) : ¬ ((3020000 : Int64) < own_f5 (own_f1 r) r.toInt64) := by
  have h1 := own_voc r
  have r0 := rng32 r
  have h2 := own_cnt (own_f1 r) r (by omega) (by omega)
  simp only [own_ltpL, Int64.reduceToInt]
  omega
theorem own_next (r : Int32) : (3020000 : Int64) < own_f5 (own_f1 r + (1 : Int64)) r.toInt64 := by
  have h1 := own_voc r
  have r0 := rng32 r
  have h3 := c_ladd (own_f1 r) 1
  have r1 := rng64 (own_f1 r + 1)
  simp only [Int64.reduceToInt] at h3
  have h4 : (own_f1 r + 1).toInt = (own_f1 r).toInt + 1 := by omega
  have h2 := own_cnt (own_f1 r + 1) r (by omega) (by omega)
  simp only [own_ltpL, Int64.reduceToInt]
  omega
theorem own_sign (r : Int32) : (if own_f1 r < (0 : Int64) then (1 : Int32) else (0 : Int32)) = (if (3020000 : Int64) < own_f5 (0 : Int64) r.toInt64 then (1 : Int32) else (0 : Int32)) := by
  have h1 := own_voc r
  have r0 := rng32 r
  have h2 := own_cnt (0 : Int64) r (by decide) (by decide)
  simp only [own_ltpL, Int64.reduceToInt] at h2 ⊢
  repeat' split
  all_goals first | rfl | (exfalso; omega)
theorem own_pd2 : parseMethodDescriptor "(I)J" = some ⟨[.int], some .long⟩ := by decide +kernel
theorem own_ef0 (m : MethodId) (p0 : Int32) : entryFrame m #[(.int p0)] maxLocals = mkF m 0 #[oi p0, .unset, .unset, .unset, .unset, .unset, .unset, .unset] [] := by first | (simp [entryFrame, mkF, argsToLocals, Value.category, maxLocals]; done) | rfl
def own_Q0 (Z : State) (p0 : Int32) (h0 : Heap) (n0 : Nat) (v : Option Value) (h : Heap) (L : List Loc) : Prop := v = some (Value.int (1 : Int32)) ∧ Fr n0 L
set_option maxRecDepth 65536 in
set_option maxHeartbeats 40000000 in
theorem own_rm0 (l : Launch) (Z : State) (av : Array Value) (hw : ∀ d ∈ tables_1, d.before av Z = true) (ws : List Jvm.Cond) (p0 : Int32) (h0 : Heap) (n0 : Nat) (Z0 : n0 ≤ h0.size) :
    MetFree l x (head1 (Jvm.Cond.code x code maxLocals ret :: ws) room_1) (fun a U => a = #[(.int p0)] ∧ Z.Warmed39 U.vm ∧ U.heap = h0) (fun _ _ _ _ _ => True) (fun _ U o U' => ∃ v L, o = .returned v ∧ own_Q0 Z p0 h0 n0 v U'.heap L ∧ FrameEnd U o U' L room_1.cells room_1.slots) := by
  refine MetFree.of_bodySF (plainFor_of_name own_pn1) hisR ?_
  intro p e s m args below meth c s₁ Bd hml0 hP hK
  obtain ⟨rfl, hZ, hh⟩ := hP
  have hx := Bd.exec
  have hby := Bd.bytes
  have hml : c.maxLocals = 8 := hml0
  have hown : s.vm.findClass "com/example/trawl_tables/trawltables/RouterVocabularyBoundPinLaw" = some m.cls := findClass_of_methodNamed Bd.named
  have hnm := (name_of_methodNamed Bd.named Bd.method).1
  have X0 : Stand p l e room_1 s m #[(.int p0)] below meth c s₁ [] 0 0 := Stand.of_body Bd
  have e0 : s₁.heap = h0 := by rw [← hh, Bd.state]; rfl
  have N0 := Fr.nil n0
  have pre0 : ∀ t, Steps p.tables e below (s₁.setTop (mkF m 0 #[oi p0, .unset, .unset, .unset, .unset, .unset, .unset, .unset] [])) t → Steps p.tables e below (s₁.setTop (entryFrame m #[(.int p0)] maxLocals)) t := fun t k => castTop (own_ef0 m p0) k
  obtain ⟨_, _, ⟨T1, L1, k1, n1⟩, -, X1, ⟨Lc1, hQ1, l1, y1, z1⟩, st1⟩ := Jvm.LawKit.callS X0 hx (y := (⟨"com/example/trawl_tables/trawltables/Router", "vocabularyBound", "(I)J"⟩ : MethodName)) hown (mvT hZ (hw _ (List.mem_of_getElem? (i := 0) rfl))) (mvT hZ (hw _ (List.mem_of_getElem? (i := 1) rfl))) (mvT hZ (hw _ (List.mem_of_getElem? (i := 2) rfl))) (mvT hZ (hw _ (List.mem_of_getElem? (i := 3) rfl))) (by decide) (backOf (W := 0) (own_rm1 l Z av hw [] p0 h0 n0 Z0 ) hZ (hw _ (List.mem_of_getElem? (i := 3) rfl)) (hw _ (List.mem_of_getElem? (i := 2) rfl)) (by decide) (by decide)) (g := (mkF m 1 #[oi p0, .unset, .unset, .unset, .unset, .unset, .unset, .unset] [(.int p0)])) rfl (by rw [hml]; rfl) (argsL := [(.int p0)]) (rest := []) (lenOf own_pd2 rfl) rfl (by show 2 * 0 + _ ≤ _; exact Nat.le_of_eq rfl) (hb hby at_1) (fun _ _ => ⟨rfl, e0, (by decide : 0 + 0 ≤ _), (by decide : 0 + 0 ≤ _)⟩)
  dsimp only [Pt.U, Pt.locs, Pt.cells, Pt.slots] at X1 l1 y1 z1 st1 hQ1
  subst l1 y1 z1
  obtain ⟨rfl, Nq1, eq1⟩ := hQ1
  have N1 := Fr.app N0 Nq1
  obtain ⟨_, _, ⟨T2, L2, k2, n2⟩, -, X2, ⟨Lc2, hQ2, l2, y2, z2⟩, st2⟩ := Jvm.LawKit.callS X1 hx (y := (⟨"com/example/trawl_tables/trawltables/RouterVocabularyBoundPinLaw", "count", "(JJ)J"⟩ : MethodName)) hown (mvT hZ (hw _ (List.mem_of_getElem? (i := 18) rfl))) (mvT hZ (hw _ (List.mem_of_getElem? (i := 19) rfl))) (mvT hZ (hw _ (List.mem_of_getElem? (i := 20) rfl))) (mvT hZ (hw _ (List.mem_of_getElem? (i := 21) rfl))) (by decide) (backOf (W := 0) (own_rm5 l Z av hw [] (own_f1 p0) (p0.toInt64) h0 n0 Z0 ) hZ (hw _ (List.mem_of_getElem? (i := 21) rfl)) (hw _ (List.mem_of_getElem? (i := 20) rfl)) (by decide) (by decide)) (g := (mkF m 10 #[oi p0, oj (own_f1 p0), .second, oj (p0.toInt64), .second, .unset, .unset, .unset] [(.long (p0.toInt64)), (.long (own_f1 p0))])) rfl (by rw [hml]; rfl) (argsL := [(.long (own_f1 p0)), (.long (p0.toInt64))]) (rest := []) (lenOf own_pd0 rfl) rfl (by show 2 * 0 + _ ≤ _; exact Nat.le_of_eq rfl) (hb hby at_10) (fun _ _ => ⟨rfl, eq1, (by decide : 0 + 0 ≤ _), (by decide : 0 + 0 ≤ _)⟩)
  dsimp only [Pt.U, Pt.locs, Pt.cells, Pt.slots] at X2 l2 y2 z2 st2 hQ2
  subst l2 y2 z2
  obtain ⟨rfl, Nq2, eq2⟩ := hQ2
  have N2 := Fr.app N1 Nq2
  have b3 : ¬ ((3020000 : Int64) < (own_f5 (own_f1 p0) (p0.toInt64))) := own_fit _
  obtain ⟨_, _, ⟨T4, L4, k4, n4⟩, -, X4, ⟨Lc4, hQ4, l4, y4, z4⟩, st4⟩ := Jvm.LawKit.callS X2 hx (y := (⟨"com/example/trawl_tables/trawltables/RouterVocabularyBoundPinLaw", "count", "(JJ)J"⟩ : MethodName)) hown (mvT hZ (hw _ (List.mem_of_getElem? (i := 18) rfl))) (mvT hZ (hw _ (List.mem_of_getElem? (i := 19) rfl))) (mvT hZ (hw _ (List.mem_of_getElem? (i := 20) rfl))) (mvT hZ (hw _ (List.mem_of_getElem? (i := 21) rfl))) (by decide) (backOf (W := 0) (own_rm5 l Z av hw [] ((own_f1 p0) + (1 : Int64)) (p0.toInt64) h0 n0 Z0 ) hZ (hw _ (List.mem_of_getElem? (i := 21) rfl)) (hw _ (List.mem_of_getElem? (i := 20) rfl)) (by decide) (by decide)) (g := (mkF m 31 #[oi p0, oj (own_f1 p0), .second, oj (p0.toInt64), .second, oi (1 : Int32), .unset, .unset] [(.long (p0.toInt64)), (.long ((own_f1 p0) + (1 : Int64)))])) rfl (by rw [hml]; rfl) (argsL := [(.long ((own_f1 p0) + (1 : Int64))), (.long (p0.toInt64))]) (rest := []) (lenOf own_pd0 rfl) rfl (by show 2 * 0 + _ ≤ _; exact Nat.le_of_eq rfl) (hb hby at_31) (fun _ _ => ⟨rfl, eq2, (by decide : 0 + 0 ≤ _), (by decide : 0 + 0 ≤ _)⟩)
  dsimp only [Pt.U, Pt.locs, Pt.cells, Pt.slots] at X4 l4 y4 z4 st4 hQ4
  subst l4 y4 z4
  obtain ⟨rfl, Nq4, eq4⟩ := hQ4
  have N4 := Fr.app N2 Nq4
  have b5 : (3020000 : Int64) < (own_f5 ((own_f1 p0) + (1 : Int64)) (p0.toInt64)) := own_next _
  have pre6 : ∀ t, Steps p.tables e below (T4.setTop (mkF m 51 #[oi p0, oj (own_f1 p0), .second, oj (p0.toInt64), .second, oi (1 : Int32), oi (1 : Int32), .unset] [(.int (lcmpW (own_f1 p0) (0 : Int64)))])) t → Steps p.tables e below (s₁.setTop (entryFrame m #[(.int p0)] maxLocals)) t := by
    intro t k
    refine pre0 t ?_
    show oS p e below s₁ m 0 #[oi p0, .unset, .unset, .unset, .unset, .unset, .unset, .unset] [] _
    refine XS.iloadN X0.here hx rfl (hb hby at_0) rfl ?_
    show oS p e below s₁ m 1 #[oi p0, .unset, .unset, .unset, .unset, .unset, .unset, .unset] [(.int p0)] _
    refine st1 _ ?_
    show oS p e below T1 m 4 #[oi p0, .unset, .unset, .unset, .unset, .unset, .unset, .unset] [(.long (own_f1 p0))] _
    refine XS.lstoreN X1.here hx rfl (hb hby at_4) rfl (l' := #[oi p0, oj (own_f1 p0), .second, .unset, .unset, .unset, .unset, .unset]) rfl ?_
    show oS p e below T1 m 5 #[oi p0, oj (own_f1 p0), .second, .unset, .unset, .unset, .unset, .unset] [] _
    refine XS.iloadN X1.here hx rfl (hb hby at_5) rfl ?_
    show oS p e below T1 m 6 #[oi p0, oj (own_f1 p0), .second, .unset, .unset, .unset, .unset, .unset] [(.int p0)] _
    refine XS.i2l X1.here hx rfl (hb hby at_6) rfl ?_
    show oS p e below T1 m 7 #[oi p0, oj (own_f1 p0), .second, .unset, .unset, .unset, .unset, .unset] [(.long (p0.toInt64))] _
    refine XS.lstoreN X1.here hx rfl (hb hby at_7) rfl (l' := #[oi p0, oj (own_f1 p0), .second, oj (p0.toInt64), .second, .unset, .unset, .unset]) rfl ?_
    show oS p e below T1 m 8 #[oi p0, oj (own_f1 p0), .second, oj (p0.toInt64), .second, .unset, .unset, .unset] [] _
    refine XS.lloadN X1.here hx rfl (hb hby at_8) rfl ?_
    show oS p e below T1 m 9 #[oi p0, oj (own_f1 p0), .second, oj (p0.toInt64), .second, .unset, .unset, .unset] [(.long (own_f1 p0))] _
    refine XS.lloadN X1.here hx rfl (hb hby at_9) rfl ?_
    show oS p e below T1 m 10 #[oi p0, oj (own_f1 p0), .second, oj (p0.toInt64), .second, .unset, .unset, .unset] [(.long (p0.toInt64)), (.long (own_f1 p0))] _
    refine st2 _ ?_
    show oS p e below T2 m 13 #[oi p0, oj (own_f1 p0), .second, oj (p0.toInt64), .second, .unset, .unset, .unset] [(.long (own_f5 (own_f1 p0) (p0.toInt64)))] _
    refine X2.ldc2Long hx hown (mvT hZ (hw _ (List.mem_of_getElem? (i := 25) rfl))) (g := (mkF m 13 #[oi p0, oj (own_f1 p0), .second, oj (p0.toInt64), .second, .unset, .unset, .unset] [(.long (own_f5 (own_f1 p0) (p0.toInt64)))])) rfl (hb hby at_13) _ ?_
    show oS p e below T2 m 16 #[oi p0, oj (own_f1 p0), .second, oj (p0.toInt64), .second, .unset, .unset, .unset] [(.long (3020000 : Int64)), (.long (own_f5 (own_f1 p0) (p0.toInt64)))] _
    refine XS.lcmp X2.here hx rfl (hb hby at_16) rfl ?_
    show oS p e below T2 m 17 #[oi p0, oj (own_f1 p0), .second, oj (p0.toInt64), .second, .unset, .unset, .unset] [(.int (lcmpW (own_f5 (own_f1 p0) (p0.toInt64)) (3020000 : Int64)))] _
    refine XS.ifNo X2.here hx rfl (hb hby at_17) rfl ((if0 _ _).trans (flt (fun q => b3 ((lw_gt (own_f5 (own_f1 p0) (p0.toInt64)) (3020000 : Int64)).mp q))).2.2.1) ?_
    show oS p e below T2 m 20 #[oi p0, oj (own_f1 p0), .second, oj (p0.toInt64), .second, .unset, .unset, .unset] [] _
    refine XS.iconst X2.here hx rfl (hb hby at_20) ?_
    show oS p e below T2 m 21 #[oi p0, oj (own_f1 p0), .second, oj (p0.toInt64), .second, .unset, .unset, .unset] [(.int (1 : Int32))] _
    refine XS.goto X2.here hx rfl (pc0 := 21) (pc' := 25) rfl (hb hby at_21) (by decide) (by decide) ?_
    show oS p e below T2 m 25 #[oi p0, oj (own_f1 p0), .second, oj (p0.toInt64), .second, .unset, .unset, .unset] [(.int (1 : Int32))] _
    refine XS.istore X2.here hx rfl (hb hby at_25) rfl (l' := #[oi p0, oj (own_f1 p0), .second, oj (p0.toInt64), .second, oi (1 : Int32), .unset, .unset]) rfl ?_
    show oS p e below T2 m 27 #[oi p0, oj (own_f1 p0), .second, oj (p0.toInt64), .second, oi (1 : Int32), .unset, .unset] [] _
    refine XS.lloadN X2.here hx rfl (hb hby at_27) rfl ?_
    show oS p e below T2 m 28 #[oi p0, oj (own_f1 p0), .second, oj (p0.toInt64), .second, oi (1 : Int32), .unset, .unset] [(.long (own_f1 p0))] _
    refine XS.lconst X2.here hx rfl (hb hby at_28) ?_
    show oS p e below T2 m 29 #[oi p0, oj (own_f1 p0), .second, oj (p0.toInt64), .second, oi (1 : Int32), .unset, .unset] [(.long (1 : Int64)), (.long (own_f1 p0))] _
    refine XS.ladd X2.here hx rfl (hb hby at_29) rfl ?_
    show oS p e below T2 m 30 #[oi p0, oj (own_f1 p0), .second, oj (p0.toInt64), .second, oi (1 : Int32), .unset, .unset] [(.long ((own_f1 p0) + (1 : Int64)))] _
    refine XS.lloadN X2.here hx rfl (hb hby at_30) rfl ?_
    show oS p e below T2 m 31 #[oi p0, oj (own_f1 p0), .second, oj (p0.toInt64), .second, oi (1 : Int32), .unset, .unset] [(.long (p0.toInt64)), (.long ((own_f1 p0) + (1 : Int64)))] _
    refine st4 _ ?_
    show oS p e below T4 m 34 #[oi p0, oj (own_f1 p0), .second, oj (p0.toInt64), .second, oi (1 : Int32), .unset, .unset] [(.long (own_f5 ((own_f1 p0) + (1 : Int64)) (p0.toInt64)))] _
    refine X4.ldc2Long hx hown (mvT hZ (hw _ (List.mem_of_getElem? (i := 25) rfl))) (g := (mkF m 34 #[oi p0, oj (own_f1 p0), .second, oj (p0.toInt64), .second, oi (1 : Int32), .unset, .unset] [(.long (own_f5 ((own_f1 p0) + (1 : Int64)) (p0.toInt64)))])) rfl (hb hby at_34) _ ?_
    show oS p e below T4 m 37 #[oi p0, oj (own_f1 p0), .second, oj (p0.toInt64), .second, oi (1 : Int32), .unset, .unset] [(.long (3020000 : Int64)), (.long (own_f5 ((own_f1 p0) + (1 : Int64)) (p0.toInt64)))] _
    refine XS.lcmp X4.here hx rfl (hb hby at_37) rfl ?_
    show oS p e below T4 m 38 #[oi p0, oj (own_f1 p0), .second, oj (p0.toInt64), .second, oi (1 : Int32), .unset, .unset] [(.int (lcmpW (own_f5 ((own_f1 p0) + (1 : Int64)) (p0.toInt64)) (3020000 : Int64)))] _
    refine XS.ifNo X4.here hx rfl (hb hby at_38) rfl ((if0 _ _).trans (tlt ((lw_gt (own_f5 ((own_f1 p0) + (1 : Int64)) (p0.toInt64)) (3020000 : Int64)).mpr b5)).2.2.2) ?_
    show oS p e below T4 m 41 #[oi p0, oj (own_f1 p0), .second, oj (p0.toInt64), .second, oi (1 : Int32), .unset, .unset] [] _
    refine XS.iconst X4.here hx rfl (hb hby at_41) ?_
    show oS p e below T4 m 42 #[oi p0, oj (own_f1 p0), .second, oj (p0.toInt64), .second, oi (1 : Int32), .unset, .unset] [(.int (1 : Int32))] _
    refine XS.goto X4.here hx rfl (pc0 := 42) (pc' := 46) rfl (hb hby at_42) (by decide) (by decide) ?_
    show oS p e below T4 m 46 #[oi p0, oj (own_f1 p0), .second, oj (p0.toInt64), .second, oi (1 : Int32), .unset, .unset] [(.int (1 : Int32))] _
    refine XS.istore X4.here hx rfl (hb hby at_46) rfl (l' := #[oi p0, oj (own_f1 p0), .second, oj (p0.toInt64), .second, oi (1 : Int32), oi (1 : Int32), .unset]) rfl ?_
    show oS p e below T4 m 48 #[oi p0, oj (own_f1 p0), .second, oj (p0.toInt64), .second, oi (1 : Int32), oi (1 : Int32), .unset] [] _
    refine XS.lloadN X4.here hx rfl (hb hby at_48) rfl ?_
    show oS p e below T4 m 49 #[oi p0, oj (own_f1 p0), .second, oj (p0.toInt64), .second, oi (1 : Int32), oi (1 : Int32), .unset] [(.long (own_f1 p0))] _
    refine XS.lconst X4.here hx rfl (hb hby at_49) ?_
    show oS p e below T4 m 50 #[oi p0, oj (own_f1 p0), .second, oj (p0.toInt64), .second, oi (1 : Int32), oi (1 : Int32), .unset] [(.long (0 : Int64)), (.long (own_f1 p0))] _
    refine XS.lcmp X4.here hx rfl (hb hby at_50) rfl ?_
    exact k
  obtain ⟨v8, hv8⟩ : ∃ z : Int32, z = (if (own_f1 p0) < (0 : Int64) then (1 : Int32) else (0 : Int32)) := ⟨_, rfl⟩
  have pre9 : ∀ t, Steps p.tables e below (T4.setTop (mkF m 59 #[oi p0, oj (own_f1 p0), .second, oj (p0.toInt64), .second, oi (1 : Int32), oi (1 : Int32), .unset] [(.int v8)])) t → Steps p.tables e below (s₁.setTop (entryFrame m #[(.int p0)] maxLocals)) t := by
    intro t k
    by_cases c7 : (own_f1 p0) < (0 : Int64)
    · skip
      rw [show v8 = (1 : Int32) from hv8.trans (by rw [if_pos c7])] at k
      refine pre6 t ?_
      show oS p e below T4 m 51 #[oi p0, oj (own_f1 p0), .second, oj (p0.toInt64), .second, oi (1 : Int32), oi (1 : Int32), .unset] [(.int (lcmpW (own_f1 p0) (0 : Int64)))] _
      refine XS.ifNo X4.here hx rfl (hb hby at_51) rfl ((if0 _ _).trans (tlt ((lw_lt (own_f1 p0) (0 : Int64)).mpr c7)).2.1) ?_
      show oS p e below T4 m 54 #[oi p0, oj (own_f1 p0), .second, oj (p0.toInt64), .second, oi (1 : Int32), oi (1 : Int32), .unset] [] _
      refine XS.iconst X4.here hx rfl (hb hby at_54) ?_
      show oS p e below T4 m 55 #[oi p0, oj (own_f1 p0), .second, oj (p0.toInt64), .second, oi (1 : Int32), oi (1 : Int32), .unset] [(.int (1 : Int32))] _
      refine XS.goto X4.here hx rfl (pc0 := 55) (pc' := 59) rfl (hb hby at_55) (by decide) (by decide) ?_
      exact k
    · skip
      rw [show v8 = (0 : Int32) from hv8.trans (by rw [if_neg c7])] at k
      refine pre6 t ?_
      show oS p e below T4 m 51 #[oi p0, oj (own_f1 p0), .second, oj (p0.toInt64), .second, oi (1 : Int32), oi (1 : Int32), .unset] [(.int (lcmpW (own_f1 p0) (0 : Int64)))] _
      refine XS.ifYes X4.here hx rfl (pc0 := 51) (pc' := 58) rfl (hb hby at_51) rfl ((if0 _ _).trans (flt (fun q => c7 ((lw_lt (own_f1 p0) (0 : Int64)).mp q))).2.1) (by decide) (by decide) ?_
      show oS p e below T4 m 58 #[oi p0, oj (own_f1 p0), .second, oj (p0.toInt64), .second, oi (1 : Int32), oi (1 : Int32), .unset] [] _
      refine XS.iconst X4.here hx rfl (hb hby at_58) ?_
      exact k
  obtain ⟨_, _, ⟨T10, L10, k10, n10⟩, -, X10, ⟨Lc10, hQ10, l10, y10, z10⟩, st10⟩ := Jvm.LawKit.callS X4 hx (y := (⟨"com/example/trawl_tables/trawltables/RouterVocabularyBoundPinLaw", "count", "(JJ)J"⟩ : MethodName)) hown (mvT hZ (hw _ (List.mem_of_getElem? (i := 18) rfl))) (mvT hZ (hw _ (List.mem_of_getElem? (i := 19) rfl))) (mvT hZ (hw _ (List.mem_of_getElem? (i := 20) rfl))) (mvT hZ (hw _ (List.mem_of_getElem? (i := 21) rfl))) (by decide) (backOf (W := 1) (own_rm5 l Z av hw [] (0 : Int64) (p0.toInt64) h0 n0 Z0 ) hZ (hw _ (List.mem_of_getElem? (i := 21) rfl)) (hw _ (List.mem_of_getElem? (i := 20) rfl)) (by decide) (by decide)) (g := (mkF m 61 #[oi p0, oj (own_f1 p0), .second, oj (p0.toInt64), .second, oi (1 : Int32), oi (1 : Int32), .unset] [(.long (p0.toInt64)), (.long (0 : Int64)), (.int v8)])) rfl (by rw [hml]; rfl) (argsL := [(.long (0 : Int64)), (.long (p0.toInt64))]) (rest := [(.int v8)]) (lenOf own_pd0 rfl) rfl (by show 2 * 0 + _ ≤ _; exact Nat.le_of_eq rfl) (hb hby at_61) (fun _ _ => ⟨rfl, eq4, (by decide : 0 + 0 ≤ _), (by decide : 0 + 0 ≤ _)⟩)
  dsimp only [Pt.U, Pt.locs, Pt.cells, Pt.slots] at X10 l10 y10 z10 st10 hQ10
  subst l10 y10 z10
  obtain ⟨rfl, Nq10, eq10⟩ := hQ10
  have N10 := Fr.app N4 Nq10
  have pre11 : ∀ t, Steps p.tables e below (T10.setTop (mkF m 68 #[oi p0, oj (own_f1 p0), .second, oj (p0.toInt64), .second, oi (1 : Int32), oi (1 : Int32), .unset] [(.int (lcmpW (own_f5 (0 : Int64) (p0.toInt64)) (3020000 : Int64))), (.int v8)])) t → Steps p.tables e below (s₁.setTop (entryFrame m #[(.int p0)] maxLocals)) t := by
    intro t k
    refine pre9 t ?_
    show oS p e below T4 m 59 #[oi p0, oj (own_f1 p0), .second, oj (p0.toInt64), .second, oi (1 : Int32), oi (1 : Int32), .unset] [(.int v8)] _
    refine XS.lconst X4.here hx rfl (hb hby at_59) ?_
    show oS p e below T4 m 60 #[oi p0, oj (own_f1 p0), .second, oj (p0.toInt64), .second, oi (1 : Int32), oi (1 : Int32), .unset] [(.long (0 : Int64)), (.int v8)] _
    refine XS.lloadN X4.here hx rfl (hb hby at_60) rfl ?_
    show oS p e below T4 m 61 #[oi p0, oj (own_f1 p0), .second, oj (p0.toInt64), .second, oi (1 : Int32), oi (1 : Int32), .unset] [(.long (p0.toInt64)), (.long (0 : Int64)), (.int v8)] _
    refine st10 _ ?_
    show oS p e below T10 m 64 #[oi p0, oj (own_f1 p0), .second, oj (p0.toInt64), .second, oi (1 : Int32), oi (1 : Int32), .unset] [(.long (own_f5 (0 : Int64) (p0.toInt64))), (.int v8)] _
    refine X10.ldc2Long hx hown (mvT hZ (hw _ (List.mem_of_getElem? (i := 25) rfl))) (g := (mkF m 64 #[oi p0, oj (own_f1 p0), .second, oj (p0.toInt64), .second, oi (1 : Int32), oi (1 : Int32), .unset] [(.long (own_f5 (0 : Int64) (p0.toInt64))), (.int v8)])) rfl (hb hby at_64) _ ?_
    show oS p e below T10 m 67 #[oi p0, oj (own_f1 p0), .second, oj (p0.toInt64), .second, oi (1 : Int32), oi (1 : Int32), .unset] [(.long (3020000 : Int64)), (.long (own_f5 (0 : Int64) (p0.toInt64))), (.int v8)] _
    refine XS.lcmp X10.here hx rfl (hb hby at_67) rfl ?_
    exact k
  obtain ⟨v13, hv13⟩ : ∃ z : Int32, z = (if (3020000 : Int64) < (own_f5 (0 : Int64) (p0.toInt64)) then (1 : Int32) else (0 : Int32)) := ⟨_, rfl⟩
  have pre14 : ∀ t, Steps p.tables e below (T10.setTop (mkF m 76 #[oi p0, oj (own_f1 p0), .second, oj (p0.toInt64), .second, oi (1 : Int32), oi (1 : Int32), .unset] [(.int v13), (.int v8)])) t → Steps p.tables e below (s₁.setTop (entryFrame m #[(.int p0)] maxLocals)) t := by
    intro t k
    by_cases c12 : (3020000 : Int64) < (own_f5 (0 : Int64) (p0.toInt64))
    · skip
      rw [show v13 = (1 : Int32) from hv13.trans (by rw [if_pos c12])] at k
      refine pre11 t ?_
      show oS p e below T10 m 68 #[oi p0, oj (own_f1 p0), .second, oj (p0.toInt64), .second, oi (1 : Int32), oi (1 : Int32), .unset] [(.int (lcmpW (own_f5 (0 : Int64) (p0.toInt64)) (3020000 : Int64))), (.int v8)] _
      refine XS.ifNo X10.here hx rfl (hb hby at_68) rfl ((if0 _ _).trans (tlt ((lw_gt (own_f5 (0 : Int64) (p0.toInt64)) (3020000 : Int64)).mpr c12)).2.2.2) ?_
      show oS p e below T10 m 71 #[oi p0, oj (own_f1 p0), .second, oj (p0.toInt64), .second, oi (1 : Int32), oi (1 : Int32), .unset] [(.int v8)] _
      refine XS.iconst X10.here hx rfl (hb hby at_71) ?_
      show oS p e below T10 m 72 #[oi p0, oj (own_f1 p0), .second, oj (p0.toInt64), .second, oi (1 : Int32), oi (1 : Int32), .unset] [(.int (1 : Int32)), (.int v8)] _
      refine XS.goto X10.here hx rfl (pc0 := 72) (pc' := 76) rfl (hb hby at_72) (by decide) (by decide) ?_
      exact k
    · skip
      rw [show v13 = (0 : Int32) from hv13.trans (by rw [if_neg c12])] at k
      refine pre11 t ?_
      show oS p e below T10 m 68 #[oi p0, oj (own_f1 p0), .second, oj (p0.toInt64), .second, oi (1 : Int32), oi (1 : Int32), .unset] [(.int (lcmpW (own_f5 (0 : Int64) (p0.toInt64)) (3020000 : Int64))), (.int v8)] _
      refine XS.ifYes X10.here hx rfl (pc0 := 68) (pc' := 75) rfl (hb hby at_68) rfl ((if0 _ _).trans (flt (fun q => c12 ((lw_gt (own_f5 (0 : Int64) (p0.toInt64)) (3020000 : Int64)).mp q))).2.2.2) (by decide) (by decide) ?_
      show oS p e below T10 m 75 #[oi p0, oj (own_f1 p0), .second, oj (p0.toInt64), .second, oi (1 : Int32), oi (1 : Int32), .unset] [(.int v8)] _
      refine XS.iconst X10.here hx rfl (hb hby at_75) ?_
      exact k
  have b15 : v8 = v13 := by rw [hv8, hv13]; exact own_sign _
  have b16 : ¬ ((1 : Int32) = (0 : Int32)) := (by decide)
  have b17 : ¬ ((1 : Int32) = (0 : Int32)) := (by decide)
  have b18 : ¬ ((1 : Int32) = (0 : Int32)) := (by decide)
  obtain ⟨fs, hr, hrun, hended, hW, hsame⟩ := X10.leave (v := (some (.int (1 : Int32)))) (fun h => by rw [Bd.returns] at h; cases h)
  refine ⟨_, _, pre14 _ ?_, hrun, hended, _, _, rfl, ?_, ⟨_, rfl⟩, hW, hsame.mono (by decide) (by decide)⟩
  · show oS p e below T10 m 76 #[oi p0, oj (own_f1 p0), .second, oj (p0.toInt64), .second, oi (1 : Int32), oi (1 : Int32), .unset] [(.int v13), (.int v8)] _
    refine XS.icmpNo X10.here hx rfl (hb hby at_76) rfl (teq b15).2 ?_
    show oS p e below T10 m 79 #[oi p0, oj (own_f1 p0), .second, oj (p0.toInt64), .second, oi (1 : Int32), oi (1 : Int32), .unset] [] _
    refine XS.iconst X10.here hx rfl (hb hby at_79) ?_
    show oS p e below T10 m 80 #[oi p0, oj (own_f1 p0), .second, oj (p0.toInt64), .second, oi (1 : Int32), oi (1 : Int32), .unset] [(.int (1 : Int32))] _
    refine XS.goto X10.here hx rfl (pc0 := 80) (pc' := 84) rfl (hb hby at_80) (by decide) (by decide) ?_
    show oS p e below T10 m 84 #[oi p0, oj (own_f1 p0), .second, oj (p0.toInt64), .second, oi (1 : Int32), oi (1 : Int32), .unset] [(.int (1 : Int32))] _
    refine XS.istore X10.here hx rfl (hb hby at_84) rfl (l' := #[oi p0, oj (own_f1 p0), .second, oj (p0.toInt64), .second, oi (1 : Int32), oi (1 : Int32), oi (1 : Int32)]) rfl ?_
    show oS p e below T10 m 86 #[oi p0, oj (own_f1 p0), .second, oj (p0.toInt64), .second, oi (1 : Int32), oi (1 : Int32), oi (1 : Int32)] [] _
    refine XS.iload X10.here hx rfl (hb hby at_86) rfl ?_
    show oS p e below T10 m 88 #[oi p0, oj (own_f1 p0), .second, oj (p0.toInt64), .second, oi (1 : Int32), oi (1 : Int32), oi (1 : Int32)] [(.int (1 : Int32))] _
    refine XS.ifNo X10.here hx rfl (hb hby at_88) rfl ((if0 _ _).trans (feq b16).1) ?_
    show oS p e below T10 m 91 #[oi p0, oj (own_f1 p0), .second, oj (p0.toInt64), .second, oi (1 : Int32), oi (1 : Int32), oi (1 : Int32)] [] _
    refine XS.iload X10.here hx rfl (hb hby at_91) rfl ?_
    show oS p e below T10 m 93 #[oi p0, oj (own_f1 p0), .second, oj (p0.toInt64), .second, oi (1 : Int32), oi (1 : Int32), oi (1 : Int32)] [(.int (1 : Int32))] _
    refine XS.ifNo X10.here hx rfl (hb hby at_93) rfl ((if0 _ _).trans (feq b17).1) ?_
    show oS p e below T10 m 96 #[oi p0, oj (own_f1 p0), .second, oj (p0.toInt64), .second, oi (1 : Int32), oi (1 : Int32), oi (1 : Int32)] [] _
    refine XS.iload X10.here hx rfl (hb hby at_96) rfl ?_
    show oS p e below T10 m 98 #[oi p0, oj (own_f1 p0), .second, oj (p0.toInt64), .second, oi (1 : Int32), oi (1 : Int32), oi (1 : Int32)] [(.int (1 : Int32))] _
    refine XS.ifNo X10.here hx rfl (hb hby at_98) rfl ((if0 _ _).trans (feq b18).1) ?_
    show oS p e below T10 m 101 #[oi p0, oj (own_f1 p0), .second, oj (p0.toInt64), .second, oi (1 : Int32), oi (1 : Int32), oi (1 : Int32)] [] _
    refine XS.iconst X10.here hx rfl (hb hby at_101) ?_
    show oS p e below T10 m 102 #[oi p0, oj (own_f1 p0), .second, oj (p0.toInt64), .second, oi (1 : Int32), oi (1 : Int32), oi (1 : Int32)] [(.int (1 : Int32))] _
    refine XS.goto X10.here hx rfl (pc0 := 102) (pc' := 106) rfl (hb hby at_102) (by decide) (by decide) ?_
    show oS p e below T10 m 106 #[oi p0, oj (own_f1 p0), .second, oj (p0.toInt64), .second, oi (1 : Int32), oi (1 : Int32), oi (1 : Int32)] [(.int (1 : Int32))] _
    exact retN X10 hx (t := .boolean) Bd.returns (by simp) (hb hby at_106) hr
  · show own_Q0 Z p0 h0 n0 _ T10.heap _
    rw [eq10]
    exact ⟨rfl, N10⟩
set_option maxRecDepth 65536 in
set_option maxHeartbeats 40000000 in
theorem own_comes {Post : Tables → Env → Array Value → State → Outcome → State → Prop} (hpost : ∀ tb e args s v u, (limb_1_1.after args s (.returned v) u = true ∧ limb_1_2.after args s (.returned v) u = true ∧ True) → FrameEnd s (.returned v) u (Jvm.fieldLocs frame_1_writes args s ++ Jvm.arrayLocs frame_1_arrays args s ++ Jvm.staticLocs frame_1_statics s) 0 0 → Post tb e args s (.returned v) u) :
    ArmFor flags0 classFile x code maxLocals ret World_1 tables_1 room_1 Calls_1 rest_1 Pre_1 Post := by
  intro l hfl _ _ p e ha hc hk s m args below hf hA hF happ hP
  obtain ⟨hcalls, hrest, hpre⟩ := hP
  obtain ⟨-, -, -, hnamed, -, -, -, hat⟩ := (Spec.applies_iff hf).mp happ
  obtain ⟨hg, hn⟩ := and_e (Cond.before_iff.mp (show (Jvm.Cond.and given_1 narrow_1).before args s = true from hpre))
  obtain ⟨gv1, gv2⟩ := and_e hg
  obtain ⟨w0, rfl⟩ : ∃ w0 : Value, args = #[w0] := by
    have hs : args.size = 1 := by simpa [Cond.value, given_1] using gv1
    obtain ⟨L⟩ := args
    match L, hs with
    | [w0], _ => exact ⟨w0, rfl⟩
  have hw := fun d (hd : d ∈ tables_1) => atoms_spec (ws := Jvm.Cond.code x code maxLocals ret :: tables_1) hat d (List.mem_cons_of_mem _ hd)
  have hfit : Fit s := fun {y c} hc i hi => by
    obtain ⟨ha, rfl⟩ := Array.getElem?_eq_some_iff.mp hc
    have q := List.all_eq_true.mp ((Array.all_eq_true_iff_forall_mem.mp hF) _ (Array.getElem_mem ha)) i (List.mem_range.mpr hi)
    simpa [Array.getElem?_eq_getElem hi] using q
  obtain ⟨i0, ei0⟩ := is_v gv2
  obtain rfl : w0 = (.int i0) := Option.some.inj ei0
  obtain ⟨n, o, h1, h2, h3, _, L, rfl, ⟨rfl, N⟩, hq⟩ := own_rm0 l s _ hw tables_1 i0  s.heap s.heap.size (Nat.le_refl _)  p e ha hc hk s m _ below hf ((Spec.applies_iff_loose hf).mp happ).1 ⟨rfl, State.Warmed39.refl s, rfl⟩ trivial
  refine ⟨n, _, h1, h2, h3, hpost _ _ _ _ _ _ ⟨Cond.after_iff.mpr rfl, Cond.after_iff.mpr (eq_i res_at (Term.int_eval (1)) rfl), trivial⟩ ⟨hq.1, hq.2.1, (hq.2.2.sift fun y hy => Or.inr (N y hy)).mono (by decide) (by decide)⟩⟩
theorem main_1_1 : Claimed_1_1 := own_comes fun _ _ _ _ _ _ h hF => ⟨h.1, hF⟩
theorem main_1_2 : Claimed_1_2 := own_comes fun _ _ _ _ _ _ h hF => ⟨h.2.1, hF⟩
end Jvm.Pilot.@@N@@
namespace Jvm.Pilot.@@N@@
open Jvm Jvm.ClassFile Sem Op Lib Jvm.Free Jvm.Stand Jvm.Pilot.@@N@@.Jvm.D
/-! MADE BY PROGRAM (witnessworld.py) out of the Statement's table words and the real class files: 10 classes; the members and pool entries that the words name. The judged class is class 1, her method 2. -/
namespace start1
open Jvm.ClassFile
def u (s : String) : CpInfo := .utf8 (stringToUtf16 s)
/-- a pool by its gaps: so many unusable entries, then the entry; so many at the end -/
def gap : Nat → List CpInfo → List CpInfo
  | 0, r => r
  | n + 1, r => .unusable :: gap n r
def poolList (es : List (Nat × CpInfo)) (last : Nat) : List CpInfo := es.foldr (fun e r => gap e.1 (e.2 :: r)) (gap last [])
def pool (es : List (Nat × CpInfo)) (last : Nat) : Array CpInfo := ⟨poolList es last⟩
def fileOf (pool : Array CpInfo) (this : Nat) (attrs : Array Attribute := #[]) (ms : Array MethodInfo := #[]) (fl : Nat := 33) (sup : Nat := 0) (ifs : Array Nat := #[]) (fds : Array FieldInfo := #[]) : ClassFile where
  minorVersion := 0
  majorVersion := 65
  constantPool := pool
  accessFlags := fl
  thisClass := this
  superClass := sup
  interfaces := ifs
  fields := fds
  methods := ms
  attributes := attrs
def plain (name : String) (sup : Option ClassId) : Class where
  name := name
  kind := .ordinary
  loader := none
  accessFlags := 33
  super := sup
  interfaces := #[]
  cf := none
  fields := #[]
  methods := #[]
  instanceTypes := #[]
  staticTypes := #[]
  resolved := #[]
  callSites := []
  init := .initialized
  statics := none
  mirror := none

def pool0 : Array CpInfo := pool [(5, u "<init>"), (0, u "()V"), (1, .class_ 10), (1, u "java/lang/Object")] 113

def k0m0 : Method := { name := "<init>", desc := "()V", sig := { parameters := [], returnType := none }, accessFlags := 1, code := none }
/-- java/lang/Object -/
def k0 : Class := { plain "java/lang/Object" none with
  accessFlags := 33
  interfaces := #[]
  cf := some (fileOf pool0 8 #[] #[{ accessFlags := 1, nameIndex := 5, descriptorIndex := 6, attributes := #[] }] 33 0 #[] #[])
  fields := #[]
  methods := #[k0m0]
  instanceTypes := #[]
  staticTypes := #[]
  resolved := Array.replicate 124 none
  statics := none }

def pool1 : Array CpInfo := pool [(2, .class_ 4), (1, u "java/lang/Object"), (0, u "<init>"), (0, u "()V"), (0, .long 64), (1, .long 6500), (1, .long 100), (1, .methodref 14 15), (0, .class_ 16), (0, .nameAndType 17 18), (0, u "com/example/trawl_tables/trawltables/Router"), (0, u "vocabularyBound"), (0, u "(I)J"), (0, .methodref 20 21), (0, .class_ 22), (0, .nameAndType 23 24), (0, u "com/example/trawl_tables/trawltables/RouterVocabularyBoundPinLaw"), (0, u "count"), (0, u "(JJ)J"), (0, .long 3020000), (3, u "law"), (0, u "(I)Z")] 3

def k1m0 : Method := { name := "<init>", desc := "()V", sig := { parameters := [], returnType := none }, accessFlags := 2, code := none }
def k1c1 : Code := { maxStack := 4, maxLocals := 10, code := method_2_code, exceptionTable := #[], attributes := #[] }
def k1m1 : Method := { name := "count", desc := "(JJ)J", sig := { parameters := [.long, .long], returnType := some .long }, accessFlags := 10, code := some k1c1 }
def k1c2 : Code := { maxStack := 5, maxLocals := 8, code := code, exceptionTable := #[], attributes := #[] }
def k1m2 : Method := { name := "law", desc := "(I)Z", sig := { parameters := [.int], returnType := some .boolean }, accessFlags := 9, code := some k1c2 }
/-- com/example/trawl_tables/trawltables/RouterVocabularyBoundPinLaw -/
def k1 : Class := { plain "com/example/trawl_tables/trawltables/RouterVocabularyBoundPinLaw" (some 0) with
  accessFlags := 49
  interfaces := #[]
  cf := some (fileOf pool1 20 #[] #[{ accessFlags := 2, nameIndex := 5, descriptorIndex := 6, attributes := #[] }, { accessFlags := 10, nameIndex := 23, descriptorIndex := 24, attributes := #[] }, { accessFlags := 9, nameIndex := 29, descriptorIndex := 30, attributes := #[] }] 49 2 #[] #[])
  fields := #[]
  methods := #[k1m0, k1m1, k1m2]
  instanceTypes := #[]
  staticTypes := #[]
  resolved := Array.replicate 34 none
  statics := none }

def pool2 : Array CpInfo := pool [(2, .class_ 4), (1, u "java/lang/Object"), (9, .class_ 16), (1, u "com/example/trawl_tables/trawltables/Router"), (0, u "vocabulary"), (0, u "Ljava/util/List;"), (5, u "ids"), (0, u "Ljava/util/Map;"), (43, u "relations"), (0, u "I"), (2, u "embeddings"), (0, u "[F"), (2, u "hiddenWeights"), (2, u "hiddenBiases"), (2, u "outputWeights"), (2, u "outputBiases"), (0, .long 3020000), (1, .methodref 14 90), (0, .nameAndType 91 92), (0, u "parameters"), (0, u "(JI)J"), (0, .methodref 94 95), (0, .class_ 96), (0, .nameAndType 97 92), (0, u "java/lang/Math"), (0, u "floorDiv"), (2, .long 64), (1, .long 6500), (1, .long 100), (4, u "vocabularyBound"), (0, u "(I)J"), (83, .class_ 195), (0, u "com/example/trawl_tables/trawltables/Router$Workspace"), (225, u "DIMENSIONS"), (2, u "HIDDEN"), (1, u "MAX_PARAMETERS"), (0, u "J"), (0, u "MAGIC"), (0, u "FORMAT"), (1, u "HEADER_INTS")] 86

def k2c0 : Code := { maxStack := 5, maxLocals := 3, code := prog_7_method_2_code, exceptionTable := #[], attributes := #[] }
def k2m0 : Method := { name := "vocabularyBound", desc := "(I)J", sig := { parameters := [.int], returnType := some .long }, accessFlags := 8, code := some k2c0 }
def k2c1 : Code := { maxStack := 4, maxLocals := 9, code := prog_7_method_4_code, exceptionTable := #[], attributes := #[] }
def k2m1 : Method := { name := "parameters", desc := "(JI)J", sig := { parameters := [.long, .int], returnType := some .long }, accessFlags := 10, code := some k2c1 }
/-- com/example/trawl_tables/trawltables/Router -/
def k2 : Class := { plain "com/example/trawl_tables/trawltables/Router" (some 0) with
  accessFlags := 32
  interfaces := #[]
  cf := some (fileOf pool2 14 #[.nestMembers #[194]] #[{ accessFlags := 8, nameIndex := 109, descriptorIndex := 110, attributes := #[] }, { accessFlags := 10, nameIndex := 91, descriptorIndex := 92, attributes := #[] }] 32 2 #[] #[{ accessFlags := 24, nameIndex := 421, descriptorIndex := 70, attributes := #[] }, { accessFlags := 24, nameIndex := 424, descriptorIndex := 70, attributes := #[] }, { accessFlags := 24, nameIndex := 426, descriptorIndex := 427, attributes := #[] }, { accessFlags := 26, nameIndex := 428, descriptorIndex := 70, attributes := #[] }, { accessFlags := 26, nameIndex := 429, descriptorIndex := 70, attributes := #[] }, { accessFlags := 26, nameIndex := 431, descriptorIndex := 70, attributes := #[] }, { accessFlags := 18, nameIndex := 17, descriptorIndex := 18, attributes := #[] }, { accessFlags := 18, nameIndex := 24, descriptorIndex := 25, attributes := #[] }, { accessFlags := 18, nameIndex := 69, descriptorIndex := 70, attributes := #[] }, { accessFlags := 18, nameIndex := 73, descriptorIndex := 74, attributes := #[] }, { accessFlags := 18, nameIndex := 77, descriptorIndex := 74, attributes := #[] }, { accessFlags := 18, nameIndex := 80, descriptorIndex := 74, attributes := #[] }, { accessFlags := 18, nameIndex := 83, descriptorIndex := 74, attributes := #[] }, { accessFlags := 18, nameIndex := 86, descriptorIndex := 74, attributes := #[] }])
  fields := #[{ name := "DIMENSIONS", type := .int, accessFlags := 24, slot := 0, constantValue := 0 }, { name := "HIDDEN", type := .int, accessFlags := 24, slot := 1, constantValue := 0 }, { name := "MAX_PARAMETERS", type := .long, accessFlags := 24, slot := 2, constantValue := 0 }, { name := "MAGIC", type := .int, accessFlags := 26, slot := 3, constantValue := 0 }, { name := "FORMAT", type := .int, accessFlags := 26, slot := 4, constantValue := 0 }, { name := "HEADER_INTS", type := .int, accessFlags := 26, slot := 5, constantValue := 0 }, { name := "vocabulary", type := (.object "java/util/List"), accessFlags := 18, slot := 0, constantValue := 0 }, { name := "ids", type := (.object "java/util/Map"), accessFlags := 18, slot := 1, constantValue := 0 }, { name := "relations", type := .int, accessFlags := 18, slot := 2, constantValue := 0 }, { name := "embeddings", type := (.array .float), accessFlags := 18, slot := 3, constantValue := 0 }, { name := "hiddenWeights", type := (.array .float), accessFlags := 18, slot := 4, constantValue := 0 }, { name := "hiddenBiases", type := (.array .float), accessFlags := 18, slot := 5, constantValue := 0 }, { name := "outputWeights", type := (.array .float), accessFlags := 18, slot := 6, constantValue := 0 }, { name := "outputBiases", type := (.array .float), accessFlags := 18, slot := 7, constantValue := 0 }]
  methods := #[k2m0, k2m1]
  instanceTypes := #[(.object "java/util/List"), (.object "java/util/Map"), .int, (.array .float), (.array .float), (.array .float), (.array .float), (.array .float)]
  staticTypes := #[.int, .int, .long, .int, .int, .int]
  resolved := Array.replicate 518 none
  statics := none }

def pool3 : Array CpInfo := pool [(1, .class_ 2), (0, u "java/lang/Math"), (1, .class_ 6), (1, u "java/lang/Object"), (0, u "<init>"), (0, u "()V"), (89, .class_ 100), (1, u "java/lang/Math$RandomNumberGeneratorHolder"), (20, u "(JJ)J"), (21, .methodref 1 144), (0, .nameAndType 145 121), (0, u "floorDiv"), (26, u "negativeZeroFloatBits"), (0, u "J"), (2, u "negativeZeroDoubleBits"), (68, u "$assertionsDisabled"), (0, u "Z"), (91, u "twoToTheDoubleScaleDown"), (0, u "D"), (4, u "twoToTheDoubleScaleUp"), (9, u "E"), (3, u "PI"), (2, u "TAU"), (2, u "DEGREES_TO_RADIANS"), (0, u "RADIANS_TO_DEGREES"), (29, u "(JI)J")] 64

def k3m0 : Method := { name := "<init>", desc := "()V", sig := { parameters := [], returnType := none }, accessFlags := 2, code := none }
def k3c1 : Code := { maxStack := 4, maxLocals := 3, code := jdk_29_method_48_code, exceptionTable := #[], attributes := #[] }
def k3m1 : Method := { name := "floorDiv", desc := "(JI)J", sig := { parameters := [.long, .int], returnType := some .long }, accessFlags := 9, code := some k3c1 }
def k3c2 : Code := { maxStack := 4, maxLocals := 6, code := jdk_29_method_49_code, exceptionTable := #[], attributes := #[] }
def k3m2 : Method := { name := "floorDiv", desc := "(JJ)J", sig := { parameters := [.long, .long], returnType := some .long }, accessFlags := 9, code := some k3c2 }
/-- java/lang/Math -/
def k3 : Class := { plain "java/lang/Math" (some 0) with
  accessFlags := 49
  interfaces := #[]
  cf := some (fileOf pool3 1 #[.nestMembers #[98]] #[{ accessFlags := 2, nameIndex := 7, descriptorIndex := 8, attributes := #[] }, { accessFlags := 9, nameIndex := 145, descriptorIndex := 395, attributes := #[] }, { accessFlags := 9, nameIndex := 145, descriptorIndex := 121, attributes := #[] }] 49 4 #[] #[{ accessFlags := 25, nameIndex := 354, descriptorIndex := 339, attributes := #[] }, { accessFlags := 25, nameIndex := 358, descriptorIndex := 339, attributes := #[] }, { accessFlags := 25, nameIndex := 361, descriptorIndex := 339, attributes := #[] }, { accessFlags := 26, nameIndex := 364, descriptorIndex := 339, attributes := #[] }, { accessFlags := 26, nameIndex := 365, descriptorIndex := 339, attributes := #[] }, { accessFlags := 26, nameIndex := 172, descriptorIndex := 173, attributes := #[] }, { accessFlags := 26, nameIndex := 176, descriptorIndex := 173, attributes := #[] }, { accessFlags := 8, nameIndex := 344, descriptorIndex := 339, attributes := #[] }, { accessFlags := 8, nameIndex := 338, descriptorIndex := 339, attributes := #[] }, { accessFlags := 4120, nameIndex := 245, descriptorIndex := 246, attributes := #[] }])
  fields := #[{ name := "E", type := .double, accessFlags := 25, slot := 0, constantValue := 0 }, { name := "PI", type := .double, accessFlags := 25, slot := 1, constantValue := 0 }, { name := "TAU", type := .double, accessFlags := 25, slot := 2, constantValue := 0 }, { name := "DEGREES_TO_RADIANS", type := .double, accessFlags := 26, slot := 3, constantValue := 0 }, { name := "RADIANS_TO_DEGREES", type := .double, accessFlags := 26, slot := 4, constantValue := 0 }, { name := "negativeZeroFloatBits", type := .long, accessFlags := 26, slot := 5, constantValue := 0 }, { name := "negativeZeroDoubleBits", type := .long, accessFlags := 26, slot := 6, constantValue := 0 }, { name := "twoToTheDoubleScaleUp", type := .double, accessFlags := 8, slot := 7, constantValue := 0 }, { name := "twoToTheDoubleScaleDown", type := .double, accessFlags := 8, slot := 8, constantValue := 0 }, { name := "$assertionsDisabled", type := .boolean, accessFlags := 4120, slot := 9, constantValue := 0 }]
  methods := #[k3m0, k3m1, k3m2]
  instanceTypes := #[]
  staticTypes := #[.double, .double, .double, .double, .double, .long, .long, .double, .double, .boolean]
  resolved := Array.replicate 460 none
  statics := none }

def pool4 : Array CpInfo := pool [(1, u "java/lang/Cloneable"), (0, .class_ 1), (0, u "java/lang/Object"), (0, .class_ 3)] 3

/-- java/lang/Cloneable -/
def k4 : Class := { plain "java/lang/Cloneable" (some 0) with
  accessFlags := 1537
  interfaces := #[]
  cf := some (fileOf pool4 2 #[] #[] 1537 4 #[] #[])
  fields := #[]
  methods := #[]
  instanceTypes := #[]
  staticTypes := #[]
  resolved := Array.replicate 8 none
  statics := none }

def pool5 : Array CpInfo := pool [(1, u "java/io/Serializable"), (0, .class_ 1), (0, u "java/lang/Object"), (0, .class_ 3)] 3

/-- java/io/Serializable -/
def k5 : Class := { plain "java/io/Serializable" (some 0) with
  accessFlags := 1537
  interfaces := #[]
  cf := some (fileOf pool5 2 #[] #[] 1537 4 #[] #[])
  fields := #[]
  methods := #[]
  instanceTypes := #[]
  staticTypes := #[]
  resolved := Array.replicate 8 none
  statics := none }

/-- the primitive byte -/
def k6 : Class := { plain "byte" none with kind := .primitive 'B', accessFlags := 0x411 }
/-- [B -/
def k7 : Class := { plain "[B" (some 0) with kind := .array 6 .byte, interfaces := #[4, 5], accessFlags := 1041 }

/-- the primitive int -/
def k8 : Class := { plain "int" none with kind := .primitive 'I', accessFlags := 0x411 }
/-- [I -/
def k9 : Class := { plain "[I" (some 0) with kind := .array 8 .int, interfaces := #[4, 5], accessFlags := 1041 }

def heap : Heap := #[]
def classes : Array Class := #[k0, k1, k2, k3, k4, k5, k6, k7, k8, k9]
def interned : List (Array UInt16 × Addr) := []
def slotsUsed : Nat := 0
def theMethod : MethodId := ⟨1, 2⟩
def args0 : Array Value := #[.int 5]
def aboutOver (below : List Frame) : State where
  vm := { classes := classes, interned := interned.toArray }
  heap := heap
  slotsUsed := slotsUsed
  threads := #[{ frames := .invoking theMethod args0 :: below }]
def below0 : List Frame := [.native { method := ⟨0, 0⟩, args := #[] }]
def about1 : State := aboutOver below0
def p0 : Program := .bare "" "" ""
def e0 : Env := launch0.env 0 0 0
theorem w_frames : about1.frames = Frame.invoking theMethod args0 :: below0 := rfl
set_option maxRecDepth 65536 in
theorem w_args : argsFit about1.vm theMethod args0 = true := by decide +kernel
set_option maxRecDepth 65536 in
theorem w_heap : heapFits about1 = true := by decide +kernel
set_option maxRecDepth 65536 in
theorem w_runnable : about1.curStatus? = some .runnable := by decide +kernel
set_option maxRecDepth 65536 in
theorem w_alone : about1.alone = true := by decide +kernel
set_option maxRecDepth 65536 in
theorem w_named : about1.methodNamed? x = some theMethod := by decide +kernel
set_option maxRecDepth 65536 in
theorem w_hears : about1.hears theMethod below0 = true := by decide +kernel
set_option maxRecDepth 65536 in
theorem w_ripe : about1.ripe theMethod args0 below0 = true := by decide +kernel
theorem w_running : about1.status = .running := rfl
set_option maxRecDepth 65536 in
theorem w_room : about1.hasRoom e0.platform room_1 = true :=
  launch0.hasRoom_least _ room_1 (by decide +kernel) (by decide +kernel) (by decide +kernel) (by decide +kernel) (by decide +kernel) (by decide +kernel)
theorem allAtoms_all (ts : List Jvm.Cond) (a : Array Jvm.Value) (st : Jvm.State) : (allAtoms ts).before a st = ts.all (fun c => c.before a st) := by
  induction ts with
  | nil => rfl
  | cons c t ih =>
    show (Jvm.Cond.and c (allAtoms t)).before a st = _
    rw [Jvm.Cond.before_and, ih, List.all_cons]
def words1 : List Jvm.Cond := Jvm.Cond.code x code maxLocals ret :: tables_1
/-- a 'code' word, met by the world's own term for the bytes: nothing is compared byte by byte -/
theorem code_word {y : MethodName} {bytes : ByteArray} {mx : Nat} {rt : Option FieldType} {a : Array Value} {s : State} {m : MethodId} {meth : Method} {c : Code} (h1 : s.methodNamed? y = some m) (h2 : s.vm.method? m = some meth) (h3 : meth.code = some c) (h4 : c.code = bytes)
    (h5 : (c.maxLocals == mx && c.exceptionTable.isEmpty && decide (c.maxStack ≤ mostOperands) && decide (meth.sig.returnType = rt) && !meth.locks && decide (parseMethodDescriptor y.desc = some meth.sig)) = true) : (Jvm.Cond.code y bytes mx rt).before a s = true := by
  simp only [Bool.and_eq_true, beq_iff_eq, Bool.not_eq_true', decide_eq_true_eq] at h5
  obtain ⟨⟨⟨⟨⟨g1, g2⟩, g3⟩, g4⟩, g5⟩, g6⟩ := h5
  simp [Cond.before, Cond.holds, Cond.value, h1, h2, h3, h4, g1, g2, g3, g4, g5, g6]
def isCode : Jvm.Cond → Bool
  | .code _ _ _ _ => true
  | _ => false
theorem all_split {L : List Jvm.Cond} {P : Jvm.Cond → Bool} (h1 : L.all (fun c => isCode c || P c) = true) (h2 : ∀ c ∈ L.filter isCode, P c = true) : L.all P = true := by
  refine List.all_eq_true.mpr fun c hc => ?_
  have h := List.all_eq_true.mp h1 c hc
  rcases Bool.eq_false_or_eq_true (isCode c) with hi | hi
  · exact h2 c (List.mem_filter.mpr ⟨hc, hi⟩)
  · simpa [hi] using h
set_option maxRecDepth 65536 in
theorem w_c0 : (Jvm.Cond.code x code maxLocals ret).before args0 about1 = true := code_word (m := ⟨1, 2⟩) (meth := k1m2) (c := k1c2) (by decide +kernel) rfl rfl rfl (by decide +kernel)
set_option maxRecDepth 65536 in
theorem w_c1 : (Jvm.Cond.code ({ cls := "com/example/trawl_tables/trawltables/Router", name := "vocabularyBound", desc := "(I)J" } : Jvm.MethodName) prog_7_method_2_code (3 : Nat) (Option.some Jvm.ClassFile.FieldType.long)).before args0 about1 = true := code_word (m := ⟨2, 0⟩) (meth := k2m0) (c := k2c0) (by decide +kernel) rfl rfl rfl (by decide +kernel)
set_option maxRecDepth 65536 in
theorem w_c2 : (Jvm.Cond.code ({ cls := "com/example/trawl_tables/trawltables/Router", name := "parameters", desc := "(JI)J" } : Jvm.MethodName) prog_7_method_4_code (9 : Nat) (Option.some Jvm.ClassFile.FieldType.long)).before args0 about1 = true := code_word (m := ⟨2, 1⟩) (meth := k2m1) (c := k2c1) (by decide +kernel) rfl rfl rfl (by decide +kernel)
set_option maxRecDepth 65536 in
theorem w_c3 : (Jvm.Cond.code ({ cls := "java/lang/Math", name := "floorDiv", desc := "(JI)J" } : Jvm.MethodName) jdk_29_method_48_code (3 : Nat) (Option.some Jvm.ClassFile.FieldType.long)).before args0 about1 = true := code_word (m := ⟨3, 1⟩) (meth := k3m1) (c := k3c1) (by decide +kernel) rfl rfl rfl (by decide +kernel)
set_option maxRecDepth 65536 in
theorem w_c4 : (Jvm.Cond.code ({ cls := "java/lang/Math", name := "floorDiv", desc := "(JJ)J" } : Jvm.MethodName) jdk_29_method_49_code (6 : Nat) (Option.some Jvm.ClassFile.FieldType.long)).before args0 about1 = true := code_word (m := ⟨3, 2⟩) (meth := k3m2) (c := k3c2) (by decide +kernel) rfl rfl rfl (by decide +kernel)
set_option maxRecDepth 65536 in
theorem w_c5 : (Jvm.Cond.code ({ cls := "com/example/trawl_tables/trawltables/RouterVocabularyBoundPinLaw", name := "count", desc := "(JJ)J" } : Jvm.MethodName) method_2_code (10 : Nat) (Option.some Jvm.ClassFile.FieldType.long)).before args0 about1 = true := code_word (m := ⟨1, 1⟩) (meth := k1m1) (c := k1c1) (by decide +kernel) rfl rfl rfl (by decide +kernel)
def codes1 : List Jvm.Cond := [Jvm.Cond.code x code maxLocals ret, Jvm.Cond.code ({ cls := "com/example/trawl_tables/trawltables/Router", name := "vocabularyBound", desc := "(I)J" } : Jvm.MethodName) prog_7_method_2_code (3 : Nat) (Option.some Jvm.ClassFile.FieldType.long), Jvm.Cond.code ({ cls := "com/example/trawl_tables/trawltables/Router", name := "parameters", desc := "(JI)J" } : Jvm.MethodName) prog_7_method_4_code (9 : Nat) (Option.some Jvm.ClassFile.FieldType.long), Jvm.Cond.code ({ cls := "java/lang/Math", name := "floorDiv", desc := "(JI)J" } : Jvm.MethodName) jdk_29_method_48_code (3 : Nat) (Option.some Jvm.ClassFile.FieldType.long), Jvm.Cond.code ({ cls := "java/lang/Math", name := "floorDiv", desc := "(JJ)J" } : Jvm.MethodName) jdk_29_method_49_code (6 : Nat) (Option.some Jvm.ClassFile.FieldType.long), Jvm.Cond.code ({ cls := "com/example/trawl_tables/trawltables/RouterVocabularyBoundPinLaw", name := "count", desc := "(JJ)J" } : Jvm.MethodName) method_2_code (10 : Nat) (Option.some Jvm.ClassFile.FieldType.long)]
set_option maxRecDepth 65536 in
theorem codes_eq : words1.filter isCode = codes1 := rfl
theorem w_codes : ∀ c ∈ words1.filter isCode, c.before args0 about1 = true := by
  rw [codes_eq]
  intro c hc
  simp only [codes1, List.mem_cons, List.not_mem_nil, or_false] at hc
  rcases hc with rfl | rfl | rfl | rfl | rfl | rfl
  · exact w_c0
  · exact w_c1
  · exact w_c2
  · exact w_c3
  · exact w_c4
  · exact w_c5
set_option maxRecDepth 65536 in
theorem w_t1 : (words1.take 24).all (fun c => isCode c || c.before args0 about1) = true := by decide +kernel
set_option maxRecDepth 65536 in
theorem w_t2 : (words1.drop 24).all (fun c => isCode c || c.before args0 about1) = true := by decide +kernel
theorem w_tables : (allAtoms (Jvm.Cond.code x code maxLocals ret :: tables_1)).before args0 about1 = true := by
  rw [allAtoms_all]
  show words1.all (fun c => c.before args0 about1) = true
  refine all_split ?_ w_codes
  rw [← List.take_append_drop 24 words1, List.all_append, w_t1, w_t2]
  rfl
set_option maxRecDepth 65536 in
theorem w_case : (Jvm.Cond.and given_1 narrow_1).before args0 about1 = true := by decide +kernel
theorem w_applies : (headSpec (Jvm.Cond.code x code maxLocals ret :: tables_1) room_1).applies x e0.platform about1 = true :=
  (Spec.applies_iff w_frames).mpr ⟨w_running, w_runnable, w_alone, w_named, w_hears, w_ripe, w_room, w_tables⟩
theorem atStart : AtStart classFile x code maxLocals ret World_1 tables_1 room_1 Calls_1 rest_1 Pre_1 launch0 p0 e0 about1 theMethod args0 below0 :=
  ⟨lists_1, trivial, launch0.admits_env _ _ _, launch0.least_env, fairChoices_fair.cas, fairChoices_fair.clock, w_frames, w_args, w_heap, w_applies, trivial, trivial, w_case⟩
end start1
theorem witness_1 : WitnessClaimed_1 := ⟨start1.p0, start1.e0, start1.about1, start1.theMethod, start1.args0, start1.below0, start1.atStart⟩
end Jvm.Pilot.@@N@@
