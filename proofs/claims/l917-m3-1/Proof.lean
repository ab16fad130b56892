import JvmDerived
import JvmDerived.Pilot.@@N@@Statement
import JvmDerived.Pilot.@@N@@Code
set_option linter.unusedVariables false
set_option linter.unusedSimpArgs false
namespace Jvm.Pilot.@@N@@
open Jvm Jvm.ClassFile Sem Op Lib Jvm.Free Jvm.Stand Jvm.LawKit Jvm.RoadKit Bundle Jvm.Pilot.@@N@@.Jvm.D
section OwnKit
variable {p : Program} {l : Launch} {e : Env} {R : Room} {s : State} {m : MethodId} {args : Array Value} {below : List Frame} {meth : Method} {c : Code} {T : State} {locs : List Loc} {cells slots : Nat} {Z : State} {h : Heap} {a : Addr} {k : ClassId} {z : Int32} {vs : List Value} {dv : Value}
theorem oLen (X : Stand p l e R s m args below meth c T locs cells slots) (hx : p.tables.exec = Jvm.exec) (hZ : Z.Warmed39 s.vm) (eT : T.heap = h) {ty : FieldType} (F : Arv Z h a k ty z vs dv) {pc : Nat} {Ls : Array Slot} {rest : List Value} (hd : decode c.code pc = .ok (.arraylength, 1)) {target : State}
    (hr : Steps p.tables e below (T.setTop (mkF m (pc + 1) Ls (.int z :: rest))) target) : Steps p.tables e below (T.setTop (mkF m pc Ls (.ref a :: rest))) target := by
  obtain ⟨cl, A, -, S, M, -, -⟩ := F
  refine X.arraylength hx (by rw [eT]; exact A.1) (State.isArrayOf_alike hZ.alike A.2.1) (g := mkF m pc Ls (.ref a :: rest)) rfl rfl hd target ?_
  rw [len_of S M]
  exact hr
theorem oLdI (X : Stand p l e R s m args below meth c T locs cells slots) (hx : p.tables.exec = Jvm.exec) (hZ : Z.Warmed39 s.vm) (eT : T.heap = h) (F : Arv Z h a k .int z vs dv) {j : Int32} {v : Value} (hj : ¬ j < 0 ∧ j < z) (hv : vs.getD j.toNatClampNeg dv = v) {pc : Nat} {Ls : Array Slot} {rest : List Value} (hd : decode c.code pc = .ok (.iaload, 1)) {target : State}
    (hr : Steps p.tables e below (T.setTop (mkF m (pc + 1) Ls (v :: rest))) target) : Steps p.tables e below (T.setTop (mkF m pc Ls (.int j :: .ref a :: rest))) target := by
  obtain ⟨cl, A, -, S, -, H, -⟩ := F
  have hin := inb_of S hj
  exact X.iaload hx (by rw [eT]; exact A.1) (State.isArrayOf_alike hZ.alike A.2.1) A.2.2 hin (Has.at H hin hv) (g := mkF m pc Ls (.int j :: .ref a :: rest)) rfl rfl hd target hr
theorem oLdB (X : Stand p l e R s m args below meth c T locs cells slots) (hx : p.tables.exec = Jvm.exec) (hZ : Z.Warmed39 s.vm) (eT : T.heap = h) (F : Arv Z h a k .byte z vs dv) {j : Int32} {v : Value} (hj : ¬ j < 0 ∧ j < z) (hv : vs.getD j.toNatClampNeg dv = v) {pc : Nat} {Ls : Array Slot} {rest : List Value} (hd : decode c.code pc = .ok (.baload, 1)) {target : State}
    (hr : Steps p.tables e below (T.setTop (mkF m (pc + 1) Ls (v :: rest))) target) : Steps p.tables e below (T.setTop (mkF m pc Ls (.int j :: .ref a :: rest))) target := by
  obtain ⟨cl, A, -, S, -, H, -⟩ := F
  have hin := inb_of S hj
  exact X.baloadBytes hx (by rw [eT]; exact A.1) (State.isArrayOf_alike hZ.alike A.2.1) A.2.2 hin (Has.at H hin hv) (g := mkF m pc Ls (.int j :: .ref a :: rest)) rfl rfl hd target hr
theorem oLdJ (X : Stand p l e R s m args below meth c T locs cells slots) (hx : p.tables.exec = Jvm.exec) (hZ : Z.Warmed39 s.vm) (eT : T.heap = h) (F : Arv Z h a k .long z vs dv) {j : Int32} {v : Value} (hj : ¬ j < 0 ∧ j < z) (hv : vs.getD j.toNatClampNeg dv = v) {pc : Nat} {Ls : Array Slot} {rest : List Value} (hd : decode c.code pc = .ok (.laload, 1)) {target : State}
    (hr : Steps p.tables e below (T.setTop (mkF m (pc + 1) Ls (v :: rest))) target) : Steps p.tables e below (T.setTop (mkF m pc Ls (.int j :: .ref a :: rest))) target := by
  obtain ⟨cl, A, -, S, -, H, -⟩ := F
  have hin := inb_of S hj
  exact X.laload hx (by rw [eT]; exact A.1) (State.isArrayOf_alike hZ.alike A.2.1) A.2.2 hin (Has.at H hin hv) (g := mkF m pc Ls (.int j :: .ref a :: rest)) rfl rfl hd target hr
theorem oLdD (X : Stand p l e R s m args below meth c T locs cells slots) (hx : p.tables.exec = Jvm.exec) (hZ : Z.Warmed39 s.vm) (eT : T.heap = h) (F : Arv Z h a k .double z vs dv) {j : Int32} {v : Value} (hj : ¬ j < 0 ∧ j < z) (hv : vs.getD j.toNatClampNeg dv = v) {pc : Nat} {Ls : Array Slot} {rest : List Value} (hd : decode c.code pc = .ok (.daload, 1)) {target : State}
    (hr : Steps p.tables e below (T.setTop (mkF m (pc + 1) Ls (v :: rest))) target) : Steps p.tables e below (T.setTop (mkF m pc Ls (.int j :: .ref a :: rest))) target := by
  obtain ⟨cl, A, -, S, -, H, -⟩ := F
  have hin := inb_of S hj
  exact X.daload hx (by rw [eT]; exact A.1) (State.isArrayOf_alike hZ.alike A.2.1) A.2.2 hin (Has.at H hin hv) (g := mkF m pc Ls (.int j :: .ref a :: rest)) rfl rfl hd target hr
theorem oStI (X : Stand p l e R s m args below meth c T locs cells slots) (hx : p.tables.exec = Jvm.exec) (hZ : Z.Warmed39 s.vm) (eT : T.heap = h) (F : Arv Z h a k .int z vs dv) {j : Int32} {x : Int32} (hj : ¬ j < 0 ∧ j < z) (i : Nat) (hi : j.toNatClampNeg = i) (hl : i < vs.length) {g : JFrame} (hg : g.method = m) {rest : List Value} (hs : g.stack = .int x :: .int j :: .ref a :: rest) (hd : decode c.code g.pc = .ok (.iastore, 1)) :
    ∃ T' h', Stand p l e R s m args below meth c T' (locs ++ [⟨a, j.toNatClampNeg⟩]) cells slots ∧ T'.heap = h' ∧ Wr h h' a j.toNatClampNeg (.int x) ∧ Arv Z h' a k .int z (vs.set i (.int x)) dv ∧ ∀ target, Steps p.tables e below (T'.setTop { g with pc := g.pc + 1, stack := rest }) target → Steps p.tables e below (T.setTop g) target := by
  obtain ⟨cl, A, q1, S, M, H, G⟩ := F
  obtain ⟨T', h', X', e', W, st⟩ := stI X hx hZ eT A (j := j) (inb_of S hj) hg hs hd
  exact ⟨T', h', X', e', W, Arv.set A q1 S M H G rfl W i hi hl, st⟩
theorem oStB (X : Stand p l e R s m args below meth c T locs cells slots) (hx : p.tables.exec = Jvm.exec) (hZ : Z.Warmed39 s.vm) (eT : T.heap = h) (F : Arv Z h a k .byte z vs dv) {j : Int32} {x : Int32} (hj : ¬ j < 0 ∧ j < z) (i : Nat) (hi : j.toNatClampNeg = i) (hl : i < vs.length) {g : JFrame} (hg : g.method = m) {rest : List Value} (hs : g.stack = .int x :: .int j :: .ref a :: rest) (hd : decode c.code g.pc = .ok (.bastore, 1)) :
    ∃ T' h', Stand p l e R s m args below meth c T' (locs ++ [⟨a, j.toNatClampNeg⟩]) cells slots ∧ T'.heap = h' ∧ Wr h h' a j.toNatClampNeg (.int (nar .byte x)) ∧ Arv Z h' a k .byte z (vs.set i (.int (nar .byte x))) dv ∧ ∀ target, Steps p.tables e below (T'.setTop { g with pc := g.pc + 1, stack := rest }) target → Steps p.tables e below (T.setTop g) target := by
  obtain ⟨cl, A, q1, S, M, H, G⟩ := F
  obtain ⟨T', h', X', e', W, st⟩ := stB X hx hZ eT A (j := j) (inb_of S hj) hg hs hd
  exact ⟨T', h', X', e', W, Arv.set A q1 S M H G (fits_nar_byte x) W i hi hl, st⟩
theorem oStJ (X : Stand p l e R s m args below meth c T locs cells slots) (hx : p.tables.exec = Jvm.exec) (hZ : Z.Warmed39 s.vm) (eT : T.heap = h) (F : Arv Z h a k .long z vs dv) {j : Int32} {x : Int64} (hj : ¬ j < 0 ∧ j < z) (i : Nat) (hi : j.toNatClampNeg = i) (hl : i < vs.length) {g : JFrame} (hg : g.method = m) {rest : List Value} (hs : g.stack = .long x :: .int j :: .ref a :: rest) (hd : decode c.code g.pc = .ok (.lastore, 1)) :
    ∃ T' h', Stand p l e R s m args below meth c T' (locs ++ [⟨a, j.toNatClampNeg⟩]) cells slots ∧ T'.heap = h' ∧ Wr h h' a j.toNatClampNeg (.long x) ∧ Arv Z h' a k .long z (vs.set i (.long x)) dv ∧ ∀ target, Steps p.tables e below (T'.setTop { g with pc := g.pc + 1, stack := rest }) target → Steps p.tables e below (T.setTop g) target := by
  obtain ⟨cl, A, q1, S, M, H, G⟩ := F
  obtain ⟨T', h', X', e', W, st⟩ := stJ X hx hZ eT A (j := j) (inb_of S hj) hg hs hd
  exact ⟨T', h', X', e', W, Arv.set A q1 S M H G rfl W i hi hl, st⟩
theorem oStD (X : Stand p l e R s m args below meth c T locs cells slots) (hx : p.tables.exec = Jvm.exec) (hZ : Z.Warmed39 s.vm) (eT : T.heap = h) (F : Arv Z h a k .double z vs dv) {j : Int32} {x : UInt64} (hj : ¬ j < 0 ∧ j < z) (i : Nat) (hi : j.toNatClampNeg = i) (hl : i < vs.length) {g : JFrame} (hg : g.method = m) {rest : List Value} (hs : g.stack = .double x :: .int j :: .ref a :: rest) (hd : decode c.code g.pc = .ok (.dastore, 1)) :
    ∃ T' h', Stand p l e R s m args below meth c T' (locs ++ [⟨a, j.toNatClampNeg⟩]) cells slots ∧ T'.heap = h' ∧ Wr h h' a j.toNatClampNeg (.double x) ∧ Arv Z h' a k .double z (vs.set i (.double x)) dv ∧ ∀ target, Steps p.tables e below (T'.setTop { g with pc := g.pc + 1, stack := rest }) target → Steps p.tables e below (T.setTop g) target := by
  obtain ⟨cl, A, q1, S, M, H, G⟩ := F
  obtain ⟨T', h', X', e', W, st⟩ := stD X hx hZ eT A (j := j) (inb_of S hj) hg hs hd
  exact ⟨T', h', X', e', W, Arv.set A q1 S M H G rfl W i hi hl, st⟩
end OwnKit
abbrev oi (x : Int32) : Slot := .val (.int x)
abbrev oj (x : Int64) : Slot := .val (.long x)
abbrev oa (x : Addr) : Slot := .val (.ref x)
abbrev od (x : UInt64) : Slot := .val (.double x)
abbrev oS (p : Program) (e : Env) (below : List Frame) (T : State) (m : MethodId) (pc : Nat) (L : Array Slot) (S : List Value) (t : State) : Prop := Steps p.tables e below (T.setTop (mkF m pc L S)) t
theorem own_ltp (x k : Int32) : (x < k) = (x.toInt < k.toInt) := propext Int32.lt_iff_toInt_lt
theorem own_eqp (x k : Int32) : (x = k) = (x.toInt = k.toInt) := propext Int32.toInt_inj.symm
theorem own_ltpL (x k : Int64) : (x < k) = (x.toInt < k.toInt) := propext Int64.lt_iff_toInt_lt
theorem own_eqpL (x k : Int64) : (x = k) = (x.toInt = k.toInt) := propext Int64.toInt_inj.symm
theorem own_of_range {P : Int32 → Prop} (n : Nat) (h : ∀ i : Fin n, P (Int32.ofNat i.1)) (x : Int32) (h0 : 0 ≤ x.toInt) (h1 : x.toInt < (n : Int)) : P x := by
  have e : Int32.ofNat x.toInt.toNat = x := by
    rw [← Int32.ofInt_eq_ofNat, Int.toNat_of_nonneg h0, Int32.ofInt_toInt]
  have q := h ⟨x.toInt.toNat, by omega⟩
  rwa [e] at q
theorem own_getD (ws : List Int32) (n : Nat) : (ws.map Value.int).getD n (.int (0 : Int32)) = .int (ws.getD n 0) := by
  simp only [List.getD_eq_getElem?_getD, List.getElem?_map]
  cases ws[n]? <;> rfl

theorem own_b53 (x : Int32) : B53 x.toInt64 := by
  have h := rng32 x
  have e := c_i2l x
  unfold B53
  omega
theorem own_dc (x y : Int32) (o : CmpOp) : cmpValue (FP.dcmp (FP.i2d x) (FP.i2d y)) o = lcmpW x.toInt64 y.toInt64 := by
  rw [i2d_w, i2d_w]; exact dcmpV_w (own_b53 x) (own_b53 y) o
theorem own_d0 : FP.dconst0 = FP.l2d 0 := by decide +kernel
theorem own_dz (x : Int32) (o : CmpOp) : cmpValue (FP.dcmp (FP.i2d x) FP.dconst0) o = lcmpW x.toInt64 (0 : Int64) := by
  rw [i2d_w, own_d0]; exact dcmpV_w (own_b53 x) (by unfold B53; decide) o
def own_W (w y0 y1 y2 : Int32) : Prop := (w = 0 ∧ y0.toInt ≤ y1.toInt ∧ y0.toInt ≤ y2.toInt) ∨ (w = 1 ∧ y1.toInt ≤ y0.toInt ∧ y1.toInt ≤ y2.toInt) ∨ (w = 2 ∧ y2.toInt ≤ y0.toInt ∧ y2.toInt ≤ y1.toInt)
theorem own_lt64 (x y : Int32) : (x.toInt64 < y.toInt64) = (x.toInt < y.toInt) := by
  rw [own_ltpL, c_i2l, c_i2l]
theorem own_pn0 : plainName "com/example/penstock/penstock/Evaluation" = true := by first | (simp [plainName, overriddenIn]; done) | decide +kernel
theorem own_d1_0 : decode prog_12_method_1_code 0 = .ok (.aload_n 0, 1) := by decide +kernel
theorem own_d1_1 : decode prog_12_method_1_code 1 = .ok (.invokespecial 1, 3) := by decide +kernel
theorem own_d1_4 : decode prog_12_method_1_code 4 = .ok (.aload_n 0, 1) := by decide +kernel
theorem own_d1_5 : decode prog_12_method_1_code 5 = .ok (.dload_n 1, 1) := by decide +kernel
theorem own_d1_6 : decode prog_12_method_1_code 6 = .ok (.putfield 7, 3) := by decide +kernel
theorem own_d1_9 : decode prog_12_method_1_code 9 = .ok (.aload_n 0, 1) := by decide +kernel
theorem own_d1_10 : decode prog_12_method_1_code 10 = .ok (.aload_n 3, 1) := by decide +kernel
theorem own_d1_11 : decode prog_12_method_1_code 11 = .ok (.invokevirtual 13, 3) := by decide +kernel
theorem own_d1_14 : decode prog_12_method_1_code 14 = .ok (.checkcast 14, 3) := by decide +kernel
theorem own_d1_17 : decode prog_12_method_1_code 17 = .ok (.putfield 19, 3) := by decide +kernel
theorem own_d1_20 : decode prog_12_method_1_code 20 = .ok (.aload_n 0, 1) := by decide +kernel
theorem own_d1_21 : decode prog_12_method_1_code 21 = .ok (.aload 4, 2) := by decide +kernel
theorem own_d1_23 : decode prog_12_method_1_code 23 = .ok (.invokevirtual 13, 3) := by decide +kernel
theorem own_d1_26 : decode prog_12_method_1_code 26 = .ok (.checkcast 14, 3) := by decide +kernel
theorem own_d1_29 : decode prog_12_method_1_code 29 = .ok (.putfield 22, 3) := by decide +kernel
theorem own_d1_32 : decode prog_12_method_1_code 32 = .ok (.aload_n 0, 1) := by decide +kernel
theorem own_d1_33 : decode prog_12_method_1_code 33 = .ok (.aload 5, 2) := by decide +kernel
theorem own_d1_35 : decode prog_12_method_1_code 35 = .ok (.invokevirtual 13, 3) := by decide +kernel
theorem own_d1_38 : decode prog_12_method_1_code 38 = .ok (.checkcast 14, 3) := by decide +kernel
theorem own_d1_41 : decode prog_12_method_1_code 41 = .ok (.putfield 25, 3) := by decide +kernel
theorem own_d1_44 : decode prog_12_method_1_code 44 = .ok (.aload_n 0, 1) := by decide +kernel
theorem own_d1_45 : decode prog_12_method_1_code 45 = .ok (.aload 6, 2) := by decide +kernel
theorem own_d1_47 : decode prog_12_method_1_code 47 = .ok (.invokevirtual 13, 3) := by decide +kernel
theorem own_d1_50 : decode prog_12_method_1_code 50 = .ok (.checkcast 14, 3) := by decide +kernel
theorem own_d1_53 : decode prog_12_method_1_code 53 = .ok (.putfield 28, 3) := by decide +kernel
theorem own_d1_56 : decode prog_12_method_1_code 56 = .ok (.iconst 0, 1) := by decide +kernel
theorem own_d1_57 : decode prog_12_method_1_code 57 = .ok (.istore 7, 2) := by decide +kernel
theorem own_d1_59 : decode prog_12_method_1_code 59 = .ok (.iconst 1, 1) := by decide +kernel
theorem own_d1_60 : decode prog_12_method_1_code 60 = .ok (.istore 8, 2) := by decide +kernel
theorem own_d1_62 : decode prog_12_method_1_code 62 = .ok (.iload 8, 2) := by decide +kernel
theorem own_d1_64 : decode prog_12_method_1_code 64 = .ok (.aload 4, 2) := by decide +kernel
theorem own_d1_66 : decode prog_12_method_1_code 66 = .ok (.arraylength, 1) := by decide +kernel
theorem own_d1_67 : decode prog_12_method_1_code 67 = .ok (.if_icmp .ge 27, 3) := by decide +kernel
theorem own_d1_70 : decode prog_12_method_1_code 70 = .ok (.aload 4, 2) := by decide +kernel
theorem own_d1_72 : decode prog_12_method_1_code 72 = .ok (.iload 8, 2) := by decide +kernel
theorem own_d1_74 : decode prog_12_method_1_code 74 = .ok (.daload, 1) := by decide +kernel
theorem own_d1_75 : decode prog_12_method_1_code 75 = .ok (.aload 4, 2) := by decide +kernel
theorem own_d1_77 : decode prog_12_method_1_code 77 = .ok (.iload 7, 2) := by decide +kernel
theorem own_d1_79 : decode prog_12_method_1_code 79 = .ok (.daload, 1) := by decide +kernel
theorem own_d1_80 : decode prog_12_method_1_code 80 = .ok (.dcmp .g, 1) := by decide +kernel
theorem own_d1_81 : decode prog_12_method_1_code 81 = .ok (.ifCond .ge 7, 3) := by decide +kernel
theorem own_d1_84 : decode prog_12_method_1_code 84 = .ok (.iload 8, 2) := by decide +kernel
theorem own_d1_86 : decode prog_12_method_1_code 86 = .ok (.istore 7, 2) := by decide +kernel
theorem own_d1_88 : decode prog_12_method_1_code 88 = .ok (.iinc 8 1, 3) := by decide +kernel
theorem own_d1_91 : decode prog_12_method_1_code 91 = .ok (.goto (-29), 3) := by decide +kernel
theorem own_d1_94 : decode prog_12_method_1_code 94 = .ok (.aload_n 0, 1) := by decide +kernel
theorem own_d1_95 : decode prog_12_method_1_code 95 = .ok (.iload 7, 2) := by decide +kernel
theorem own_d1_97 : decode prog_12_method_1_code 97 = .ok (.putfield 31, 3) := by decide +kernel
theorem own_d1_100 : decode prog_12_method_1_code 100 = .ok (.return_, 1) := by decide +kernel
theorem own_ef1 (m : MethodId) (a0 : Addr) (d1 : UInt64) (a2 : Addr) (a3 : Addr) (a4 : Addr) (a5 : Addr) : entryFrame m #[(.ref a0), (.double d1), (.ref a2), (.ref a3), (.ref a4), (.ref a5)] 9 = mkF m 0 #[oa a0, od d1, .second, oa a2, oa a3, oa a4, oa a5, .unset, .unset] [] := by first | (simp [entryFrame, mkF, argsToLocals, Value.category]; done) | rfl
def own_Q1 (Z : State) (a0 : Addr) (d1 : UInt64) (a2 : Addr) (a3 : Addr) (a4 : Addr) (a5 : Addr) (y0 : Int32) (y1 : Int32) (y2 : Int32) (k_a2 : ClassId) (k_a3 : ClassId) (k_a4 : ClassId) (k_a5 : ClassId) (h0 : Heap) (n0 : Nat) (v : Option Value) (h : Heap) (L : List Loc) : Prop := ∃ (b : Addr) (k_b : ClassId) (w : Int32), v = none ∧ Fr n0 L ∧ Keep h0 h [a0] ∧ h0.size ≤ b ∧ Exa Z h a0 "com/example/penstock/penstock/Evaluation" ∧ Fld Z h a0 "com/example/penstock/penstock/Evaluation" "margins" "[D" (.ref b) ∧ Fld Z h a0 "com/example/penstock/penstock/Evaluation" "worst" "I" (.int w) ∧ Arv Z h b k_b .double (3 : Int32) [(.double (FP.i2d y0)), (.double (FP.i2d y1)), (.double (FP.i2d y2))] (.double 0) ∧ own_W w y0 y1 y2
set_option maxRecDepth 65536 in
set_option maxHeartbeats 40000000 in
theorem own_rm1 (l : Launch) (Z : State) (av : Array Value) (hw : ∀ d ∈ tables_1, d.before av Z = true) (ws : List Jvm.Cond) (a0 : Addr) (d1 : UInt64) (a2 : Addr) (a3 : Addr) (a4 : Addr) (a5 : Addr) (y0 : Int32) (y1 : Int32) (y2 : Int32) (k_a2 : ClassId) (k_a3 : ClassId) (k_a4 : ClassId) (k_a5 : ClassId) (h0 : Heap) (n0 : Nat) (Z0 : n0 ≤ h0.size) (E_a0 : Exa Z h0 a0 "com/example/penstock/penstock/Evaluation") (F_cost_a0 : Fld Z h0 a0 "com/example/penstock/penstock/Evaluation" "cost" "D" (.double 0)) (F_heads_a0 : Fld Z h0 a0 "com/example/penstock/penstock/Evaluation" "heads" "[D" .null) (F_margins_a0 : Fld Z h0 a0 "com/example/penstock/penstock/Evaluation" "margins" "[D" .null) (F_pipeFlows_a0 : Fld Z h0 a0 "com/example/penstock/penstock/Evaluation" "pipeFlows" "[D" .null) (F_flows_a0 : Fld Z h0 a0 "com/example/penstock/penstock/Evaluation" "flows" "[D" .null) (F_worst_a0 : Fld Z h0 a0 "com/example/penstock/penstock/Evaluation" "worst" "I" (.int (0 : Int32))) (g_a0 : n0 ≤ a0) (V_a2 : Arv Z h0 a2 k_a2 .double (3 : Int32) [(.double 0), (.double 0), (.double 0)] (.double 0)) (V_a3 : Arv Z h0 a3 k_a3 .double (3 : Int32) [(.double (FP.i2d y0)), (.double (FP.i2d y1)), (.double (FP.i2d y2))] (.double 0)) (V_a4 : Arv Z h0 a4 k_a4 .double (0 : Int32) [] (.double 0)) (V_a5 : Arv Z h0 a5 k_a5 .double (0 : Int32) [] (.double 0)) (E_a2 : Exa Z h0 a2 "[D") (E_a3 : Exa Z h0 a3 "[D") (E_a4 : Exa Z h0 a4 "[D") (E_a5 : Exa Z h0 a5 "[D") (na2 : a2 ≠ a0) (na3 : a3 ≠ a0) (na4 : a4 ≠ a0) (na5 : a5 ≠ a0) :
    MetFree l (⟨"com/example/penstock/penstock/Evaluation", "<init>", "(D[D[D[D[D)V"⟩ : MethodName) (head1 (Jvm.Cond.code (⟨"com/example/penstock/penstock/Evaluation", "<init>", "(D[D[D[D[D)V"⟩ : MethodName) prog_12_method_1_code 9 none :: ws) ({ frames := 1, cells := 4, slots := 6, locals := 15 } : Room)) (fun a U => a = #[(.ref a0), (.double d1), (.ref a2), (.ref a3), (.ref a4), (.ref a5)] ∧ Z.Warmed39 U.vm ∧ U.heap = h0) (fun _ _ _ _ _ => True) (fun _ U o U' => ∃ v L, o = .returned v ∧ own_Q1 Z a0 d1 a2 a3 a4 a5 y0 y1 y2 k_a2 k_a3 k_a4 k_a5 h0 n0 v U'.heap L ∧ FrameEnd U o U' L ({ frames := 1, cells := 4, slots := 6, locals := 15 } : Room).cells ({ frames := 1, cells := 4, slots := 6, locals := 15 } : Room).slots) := by
  refine MetFree.of_bodySF (plainFor_of_name own_pn0) hisR ?_
  intro p e s m args below meth c s₁ Bd hml0 hP hK
  obtain ⟨rfl, hZ, hh⟩ := hP
  have hx := Bd.exec
  have hby := Bd.bytes
  have hml : c.maxLocals = 9 := hml0
  have hown : s.vm.findClass "com/example/penstock/penstock/Evaluation" = some m.cls := findClass_of_methodNamed Bd.named
  have hnm := (name_of_methodNamed Bd.named Bd.method).1
  have X0 : Stand p l e ({ frames := 1, cells := 4, slots := 6, locals := 15 } : Room) s m #[(.ref a0), (.double d1), (.ref a2), (.ref a3), (.ref a4), (.ref a5)] below meth c s₁ [] 0 0 := Stand.of_body Bd
  have e0 : s₁.heap = h0 := by rw [← hh, Bd.state]; rfl
  have N0 := Fr.nil n0
  have pre0 : ∀ t, Steps p.tables e below (s₁.setTop (mkF m 0 #[oa a0, od d1, .second, oa a2, oa a3, oa a4, oa a5, .unset, .unset] [])) t → Steps p.tables e below (s₁.setTop (entryFrame m #[(.ref a0), (.double d1), (.ref a2), (.ref a3), (.ref a4), (.ref a5)] 9)) t := fun t k => castTop (own_ef1 m a0 d1 a2 a3 a4 a5) k
  obtain ⟨T1, X1, e1, st1⟩ := initO X0 hx hZ hown (hw _ (List.mem_of_getElem? (i := 7) rfl)) (hw _ (List.mem_of_getElem? (i := 8) rfl)) (hw _ (List.mem_of_getElem? (i := 9) rfl)) e0 (g := (mkF m 1 #[oa a0, od d1, .second, oa a2, oa a3, oa a4, oa a5, .unset, .unset] [(.ref a0)])) rfl (by rw [hml]; rfl) rfl (hb hby own_d1_1) (by decide) (W := 0) (by show 2 * 0 + _ ≤ _; exact Nat.le_of_eq rfl) (by decide)
  obtain ⟨T2, h2, X2, e2, W2, st2⟩ := putF X1 hx hZ hown (host := "") (Or.inl (hw _ (List.mem_of_getElem? (i := 10) rfl))) Via.refl e1 F_cost_a0 E_a0 (Or.inr ⟨(hw _ (List.mem_of_getElem? (i := 11) rfl)), rfl, hnm⟩) (hw _ (List.mem_of_getElem? (i := 2) rfl)) (ty := .double) (by decide) rfl rfl (g := (mkF m 6 #[oa a0, od d1, .second, oa a2, oa a3, oa a4, oa a5, .unset, .unset] [(.double d1), (.ref a0)])) rfl rfl (hb hby own_d1_6)
  have N2 := Fr.snoc X2 N0 g_a0
  have Z2 : n0 ≤ h2.size := Nat.le_trans Z0 (Keep.of_wr W2).1
  have F3 := E_a0.wr W2
  have F4 := F_heads_a0.other W2 (Or.inr (slot_ne (Or.inr (hw _ (List.mem_of_getElem? (i := 22) rfl))) (Or.inr (hw _ (List.mem_of_getElem? (i := 11) rfl))) (by decide) (t := (.array .double)) (t' := .double) (by decide) (by decide)))
  have F5 := F_margins_a0.other W2 (Or.inr (slot_ne (Or.inr (hw _ (List.mem_of_getElem? (i := 24) rfl))) (Or.inr (hw _ (List.mem_of_getElem? (i := 11) rfl))) (by decide) (t := (.array .double)) (t' := .double) (by decide) (by decide)))
  have F6 := F_pipeFlows_a0.other W2 (Or.inr (slot_ne (Or.inr (hw _ (List.mem_of_getElem? (i := 26) rfl))) (Or.inr (hw _ (List.mem_of_getElem? (i := 11) rfl))) (by decide) (t := (.array .double)) (t' := .double) (by decide) (by decide)))
  have F7 := F_flows_a0.other W2 (Or.inr (slot_ne (Or.inr (hw _ (List.mem_of_getElem? (i := 28) rfl))) (Or.inr (hw _ (List.mem_of_getElem? (i := 11) rfl))) (by decide) (t := (.array .double)) (t' := .double) (by decide) (by decide)))
  have F8 := F_worst_a0.other W2 (Or.inr (slot_ne (Or.inr (hw _ (List.mem_of_getElem? (i := 30) rfl))) (Or.inr (hw _ (List.mem_of_getElem? (i := 11) rfl))) (by decide) (t := .int) (t' := .double) (by decide) (by decide)))
  have F9 := V_a2.other W2 na2
  have F10 := V_a3.other W2 na3
  have F11 := V_a4.other W2 na4
  have F12 := V_a5.other W2 na5
  have F13 := E_a2.wr W2
  have F14 := E_a3.wr W2
  have F15 := E_a4.wr W2
  have F16 := E_a5.wr W2
  have F_17 : Fld Z h2 a0 "com/example/penstock/penstock/Evaluation" "cost" "D" (.double d1) := F_cost_a0.same W2
  have K_18 : Keep h0 h2 [a0] := (Keep.refl h0 [a0]).wr W2 (Or.inl (List.mem_of_getElem? (i := 0) rfl))
  obtain ⟨T19, h19, X19, e19, E19, A19, B19, st19⟩ := cloneH X2 hx hZ hown (hw _ (List.mem_of_getElem? (i := 12) rfl)) (hw _ (List.mem_of_getElem? (i := 13) rfl)) (hw _ (List.mem_of_getElem? (i := 17) rfl)) (hw _ (List.mem_of_getElem? (i := 15) rfl)) (hw _ (List.mem_of_getElem? (i := 16) rfl)) (hw _ (List.mem_of_getElem? (i := 18) rfl)) e2 (Arv.arh F9) F13 (g := (mkF m 11 #[oa a0, od d1, .second, oa a2, oa a3, oa a4, oa a5, .unset, .unset] [(.ref a2), (.ref a0)])) rfl (by rw [hml]; rfl) rfl (hb hby own_d1_11) (by decide) (W := 1) (by show 2 * 0 + _ ≤ _; exact Nat.le_of_eq rfl) (by decide) (cap := 3) (by decide) (by decide) (by decide)
  obtain ⟨b19, g19⟩ : ∃ z, z = h2.size := ⟨_, rfl⟩
  rw [← g19] at A19 B19 st19
  have g_b19 : n0 ≤ b19 := Nat.le_trans Z2 (Nat.le_of_eq g19.symm)
  have ne20 : a0 ≠ b19 := Nat.ne_of_lt (Nat.lt_of_lt_of_le F3.lt (Nat.le_of_eq g19.symm))
  have ne21 : a2 ≠ b19 := Nat.ne_of_lt (Nat.lt_of_lt_of_le F9.lt (Nat.le_of_eq g19.symm))
  have ne22 : a3 ≠ b19 := Nat.ne_of_lt (Nat.lt_of_lt_of_le F10.lt (Nat.le_of_eq g19.symm))
  have ne23 : a4 ≠ b19 := Nat.ne_of_lt (Nat.lt_of_lt_of_le F11.lt (Nat.le_of_eq g19.symm))
  have ne24 : a5 ≠ b19 := Nat.ne_of_lt (Nat.lt_of_lt_of_le F12.lt (Nat.le_of_eq g19.symm))
  have Z19 : n0 ≤ h19.size := Nat.le_trans Z2 E19.1
  have sz_b19 : h0.size ≤ b19 := Nat.le_trans K_18.1 (Nat.le_of_eq g19.symm)
  have K_25 : Keep h0 h19 [a0] := K_18.ext E19
  have F26 := F3.ext E19
  have F27 := F_17.ext E19
  have F28 := F4.ext E19
  have F29 := F5.ext E19
  have F30 := F6.ext E19
  have F31 := F7.ext E19
  have F32 := F8.ext E19
  have F33 := F9.ext E19
  have F34 := F10.ext E19
  have F35 := F11.ext E19
  have F36 := F12.ext E19
  have F37 := F13.ext E19
  have F38 := F14.ext E19
  have F39 := F15.ext E19
  have F40 := F16.ext E19
  have V_41 : Arv Z h19 b19 k_a2 .double (3 : Int32) [(.double 0), (.double 0), (.double 0)] (.double 0) := A19
  obtain ⟨T42, X42, e42, st42⟩ := castY X19 hx hZ hown (hw _ (List.mem_of_getElem? (i := 19) rfl)) e19 (Ins.self B19) (g := (mkF m 14 #[oa a0, od d1, .second, oa a2, oa a3, oa a4, oa a5, .unset, .unset] [(.ref b19), (.ref a0)])) rfl rfl (hb hby own_d1_14)
  obtain ⟨T43, h43, X43, e43, W43, st43⟩ := putF X42 hx hZ hown (host := "") (Or.inl (hw _ (List.mem_of_getElem? (i := 21) rfl))) Via.refl e42 F28 F26 (Or.inr ⟨(hw _ (List.mem_of_getElem? (i := 22) rfl)), rfl, hnm⟩) (hw _ (List.mem_of_getElem? (i := 2) rfl)) (ty := (.array .double)) (by decide) rfl rfl (g := (mkF m 17 #[oa a0, od d1, .second, oa a2, oa a3, oa a4, oa a5, .unset, .unset] [(.ref b19), (.ref a0)])) rfl rfl (hb hby own_d1_17)
  have N43 := Fr.snoc X43 N2 g_a0
  have Z43 : n0 ≤ h43.size := Nat.le_trans Z19 (Keep.of_wr W43).1
  have F44 := F26.wr W43
  have F45 := F27.other W43 (Or.inr (slot_ne (Or.inr (hw _ (List.mem_of_getElem? (i := 11) rfl))) (Or.inr (hw _ (List.mem_of_getElem? (i := 22) rfl))) (by decide) (t := .double) (t' := (.array .double)) (by decide) (by decide)))
  have F46 := F29.other W43 (Or.inr (slot_ne (Or.inr (hw _ (List.mem_of_getElem? (i := 24) rfl))) (Or.inr (hw _ (List.mem_of_getElem? (i := 22) rfl))) (by decide) (t := (.array .double)) (t' := (.array .double)) (by decide) (by decide)))
  have F47 := F30.other W43 (Or.inr (slot_ne (Or.inr (hw _ (List.mem_of_getElem? (i := 26) rfl))) (Or.inr (hw _ (List.mem_of_getElem? (i := 22) rfl))) (by decide) (t := (.array .double)) (t' := (.array .double)) (by decide) (by decide)))
  have F48 := F31.other W43 (Or.inr (slot_ne (Or.inr (hw _ (List.mem_of_getElem? (i := 28) rfl))) (Or.inr (hw _ (List.mem_of_getElem? (i := 22) rfl))) (by decide) (t := (.array .double)) (t' := (.array .double)) (by decide) (by decide)))
  have F49 := F32.other W43 (Or.inr (slot_ne (Or.inr (hw _ (List.mem_of_getElem? (i := 30) rfl))) (Or.inr (hw _ (List.mem_of_getElem? (i := 22) rfl))) (by decide) (t := .int) (t' := (.array .double)) (by decide) (by decide)))
  have F50 := F33.other W43 na2
  have F51 := F34.other W43 na3
  have F52 := F35.other W43 na4
  have F53 := F36.other W43 na5
  have F54 := F37.wr W43
  have F55 := F38.wr W43
  have F56 := F39.wr W43
  have F57 := F40.wr W43
  have F58 := V_41.other W43 (Ne.symm ne20)
  have F59 := B19.wr W43
  have F_60 : Fld Z h43 a0 "com/example/penstock/penstock/Evaluation" "heads" "[D" (.ref b19) := F28.same W43
  have K_61 : Keep h0 h43 [a0] := K_25.wr W43 (Or.inl (List.mem_of_getElem? (i := 0) rfl))
  obtain ⟨T62, h62, X62, e62, E62, A62, B62, st62⟩ := cloneH X43 hx hZ hown (hw _ (List.mem_of_getElem? (i := 12) rfl)) (hw _ (List.mem_of_getElem? (i := 13) rfl)) (hw _ (List.mem_of_getElem? (i := 17) rfl)) (hw _ (List.mem_of_getElem? (i := 15) rfl)) (hw _ (List.mem_of_getElem? (i := 16) rfl)) (hw _ (List.mem_of_getElem? (i := 18) rfl)) e43 (Arv.arh F51) F55 (g := (mkF m 23 #[oa a0, od d1, .second, oa a2, oa a3, oa a4, oa a5, .unset, .unset] [(.ref a3), (.ref a0)])) rfl (by rw [hml]; rfl) rfl (hb hby own_d1_23) (by decide) (W := 1) (by show 2 * 0 + _ ≤ _; exact Nat.le_of_eq rfl) (by decide) (cap := 3) (by decide) (by decide) (by decide)
  obtain ⟨b62, g62⟩ : ∃ z, z = h43.size := ⟨_, rfl⟩
  rw [← g62] at A62 B62 st62
  have g_b62 : n0 ≤ b62 := Nat.le_trans Z43 (Nat.le_of_eq g62.symm)
  have ne63 : a0 ≠ b62 := Nat.ne_of_lt (Nat.lt_of_lt_of_le F44.lt (Nat.le_of_eq g62.symm))
  have ne64 : a2 ≠ b62 := Nat.ne_of_lt (Nat.lt_of_lt_of_le F50.lt (Nat.le_of_eq g62.symm))
  have ne65 : a3 ≠ b62 := Nat.ne_of_lt (Nat.lt_of_lt_of_le F51.lt (Nat.le_of_eq g62.symm))
  have ne66 : a4 ≠ b62 := Nat.ne_of_lt (Nat.lt_of_lt_of_le F52.lt (Nat.le_of_eq g62.symm))
  have ne67 : a5 ≠ b62 := Nat.ne_of_lt (Nat.lt_of_lt_of_le F53.lt (Nat.le_of_eq g62.symm))
  have ne68 : b19 ≠ b62 := Nat.ne_of_lt (Nat.lt_of_lt_of_le F58.lt (Nat.le_of_eq g62.symm))
  have Z62 : n0 ≤ h62.size := Nat.le_trans Z43 E62.1
  have sz_b62 : h0.size ≤ b62 := Nat.le_trans K_61.1 (Nat.le_of_eq g62.symm)
  have K_69 : Keep h0 h62 [a0] := K_61.ext E62
  have F70 := F44.ext E62
  have F71 := F45.ext E62
  have F72 := F_60.ext E62
  have F73 := F46.ext E62
  have F74 := F47.ext E62
  have F75 := F48.ext E62
  have F76 := F49.ext E62
  have F77 := F50.ext E62
  have F78 := F51.ext E62
  have F79 := F52.ext E62
  have F80 := F53.ext E62
  have F81 := F54.ext E62
  have F82 := F55.ext E62
  have F83 := F56.ext E62
  have F84 := F57.ext E62
  have F85 := F58.ext E62
  have F86 := F59.ext E62
  have V_87 : Arv Z h62 b62 k_a3 .double (3 : Int32) [(.double (FP.i2d y0)), (.double (FP.i2d y1)), (.double (FP.i2d y2))] (.double 0) := A62
  obtain ⟨T88, X88, e88, st88⟩ := castY X62 hx hZ hown (hw _ (List.mem_of_getElem? (i := 19) rfl)) e62 (Ins.self B62) (g := (mkF m 26 #[oa a0, od d1, .second, oa a2, oa a3, oa a4, oa a5, .unset, .unset] [(.ref b62), (.ref a0)])) rfl rfl (hb hby own_d1_26)
  obtain ⟨T89, h89, X89, e89, W89, st89⟩ := putF X88 hx hZ hown (host := "") (Or.inl (hw _ (List.mem_of_getElem? (i := 23) rfl))) Via.refl e88 F73 F70 (Or.inr ⟨(hw _ (List.mem_of_getElem? (i := 24) rfl)), rfl, hnm⟩) (hw _ (List.mem_of_getElem? (i := 2) rfl)) (ty := (.array .double)) (by decide) rfl rfl (g := (mkF m 29 #[oa a0, od d1, .second, oa a2, oa a3, oa a4, oa a5, .unset, .unset] [(.ref b62), (.ref a0)])) rfl rfl (hb hby own_d1_29)
  have N89 := Fr.snoc X89 N43 g_a0
  have Z89 : n0 ≤ h89.size := Nat.le_trans Z62 (Keep.of_wr W89).1
  have F90 := F70.wr W89
  have F91 := F71.other W89 (Or.inr (slot_ne (Or.inr (hw _ (List.mem_of_getElem? (i := 11) rfl))) (Or.inr (hw _ (List.mem_of_getElem? (i := 24) rfl))) (by decide) (t := .double) (t' := (.array .double)) (by decide) (by decide)))
  have F92 := F72.other W89 (Or.inr (slot_ne (Or.inr (hw _ (List.mem_of_getElem? (i := 22) rfl))) (Or.inr (hw _ (List.mem_of_getElem? (i := 24) rfl))) (by decide) (t := (.array .double)) (t' := (.array .double)) (by decide) (by decide)))
  have F93 := F74.other W89 (Or.inr (slot_ne (Or.inr (hw _ (List.mem_of_getElem? (i := 26) rfl))) (Or.inr (hw _ (List.mem_of_getElem? (i := 24) rfl))) (by decide) (t := (.array .double)) (t' := (.array .double)) (by decide) (by decide)))
  have F94 := F75.other W89 (Or.inr (slot_ne (Or.inr (hw _ (List.mem_of_getElem? (i := 28) rfl))) (Or.inr (hw _ (List.mem_of_getElem? (i := 24) rfl))) (by decide) (t := (.array .double)) (t' := (.array .double)) (by decide) (by decide)))
  have F95 := F76.other W89 (Or.inr (slot_ne (Or.inr (hw _ (List.mem_of_getElem? (i := 30) rfl))) (Or.inr (hw _ (List.mem_of_getElem? (i := 24) rfl))) (by decide) (t := .int) (t' := (.array .double)) (by decide) (by decide)))
  have F96 := F77.other W89 na2
  have F97 := F78.other W89 na3
  have F98 := F79.other W89 na4
  have F99 := F80.other W89 na5
  have F100 := F81.wr W89
  have F101 := F82.wr W89
  have F102 := F83.wr W89
  have F103 := F84.wr W89
  have F104 := F85.other W89 (Ne.symm ne20)
  have F105 := F86.wr W89
  have F106 := V_87.other W89 (Ne.symm ne63)
  have F107 := B62.wr W89
  have F_108 : Fld Z h89 a0 "com/example/penstock/penstock/Evaluation" "margins" "[D" (.ref b62) := F73.same W89
  have K_109 : Keep h0 h89 [a0] := K_69.wr W89 (Or.inl (List.mem_of_getElem? (i := 0) rfl))
  obtain ⟨T110, h110, X110, e110, E110, A110, B110, st110⟩ := cloneH X89 hx hZ hown (hw _ (List.mem_of_getElem? (i := 12) rfl)) (hw _ (List.mem_of_getElem? (i := 13) rfl)) (hw _ (List.mem_of_getElem? (i := 17) rfl)) (hw _ (List.mem_of_getElem? (i := 15) rfl)) (hw _ (List.mem_of_getElem? (i := 16) rfl)) (hw _ (List.mem_of_getElem? (i := 18) rfl)) e89 (Arv.arh F98) F102 (g := (mkF m 35 #[oa a0, od d1, .second, oa a2, oa a3, oa a4, oa a5, .unset, .unset] [(.ref a4), (.ref a0)])) rfl (by rw [hml]; rfl) rfl (hb hby own_d1_35) (by decide) (W := 1) (by show 2 * 0 + _ ≤ _; exact Nat.le_of_eq rfl) (by decide) (cap := 0) (by decide) (by decide) (by decide)
  obtain ⟨b110, g110⟩ : ∃ z, z = h89.size := ⟨_, rfl⟩
  rw [← g110] at A110 B110 st110
  have g_b110 : n0 ≤ b110 := Nat.le_trans Z89 (Nat.le_of_eq g110.symm)
  have ne111 : a0 ≠ b110 := Nat.ne_of_lt (Nat.lt_of_lt_of_le F90.lt (Nat.le_of_eq g110.symm))
  have ne112 : a2 ≠ b110 := Nat.ne_of_lt (Nat.lt_of_lt_of_le F96.lt (Nat.le_of_eq g110.symm))
  have ne113 : a3 ≠ b110 := Nat.ne_of_lt (Nat.lt_of_lt_of_le F97.lt (Nat.le_of_eq g110.symm))
  have ne114 : a4 ≠ b110 := Nat.ne_of_lt (Nat.lt_of_lt_of_le F98.lt (Nat.le_of_eq g110.symm))
  have ne115 : a5 ≠ b110 := Nat.ne_of_lt (Nat.lt_of_lt_of_le F99.lt (Nat.le_of_eq g110.symm))
  have ne116 : b19 ≠ b110 := Nat.ne_of_lt (Nat.lt_of_lt_of_le F104.lt (Nat.le_of_eq g110.symm))
  have ne117 : b62 ≠ b110 := Nat.ne_of_lt (Nat.lt_of_lt_of_le F106.lt (Nat.le_of_eq g110.symm))
  have Z110 : n0 ≤ h110.size := Nat.le_trans Z89 E110.1
  have sz_b110 : h0.size ≤ b110 := Nat.le_trans K_109.1 (Nat.le_of_eq g110.symm)
  have K_118 : Keep h0 h110 [a0] := K_109.ext E110
  have F119 := F90.ext E110
  have F120 := F91.ext E110
  have F121 := F92.ext E110
  have F122 := F_108.ext E110
  have F123 := F93.ext E110
  have F124 := F94.ext E110
  have F125 := F95.ext E110
  have F126 := F96.ext E110
  have F127 := F97.ext E110
  have F128 := F98.ext E110
  have F129 := F99.ext E110
  have F130 := F100.ext E110
  have F131 := F101.ext E110
  have F132 := F102.ext E110
  have F133 := F103.ext E110
  have F134 := F104.ext E110
  have F135 := F105.ext E110
  have F136 := F106.ext E110
  have F137 := F107.ext E110
  have V_138 : Arv Z h110 b110 k_a4 .double (0 : Int32) [] (.double 0) := A110
  obtain ⟨T139, X139, e139, st139⟩ := castY X110 hx hZ hown (hw _ (List.mem_of_getElem? (i := 19) rfl)) e110 (Ins.self B110) (g := (mkF m 38 #[oa a0, od d1, .second, oa a2, oa a3, oa a4, oa a5, .unset, .unset] [(.ref b110), (.ref a0)])) rfl rfl (hb hby own_d1_38)
  obtain ⟨T140, h140, X140, e140, W140, st140⟩ := putF X139 hx hZ hown (host := "") (Or.inl (hw _ (List.mem_of_getElem? (i := 25) rfl))) Via.refl e139 F123 F119 (Or.inr ⟨(hw _ (List.mem_of_getElem? (i := 26) rfl)), rfl, hnm⟩) (hw _ (List.mem_of_getElem? (i := 2) rfl)) (ty := (.array .double)) (by decide) rfl rfl (g := (mkF m 41 #[oa a0, od d1, .second, oa a2, oa a3, oa a4, oa a5, .unset, .unset] [(.ref b110), (.ref a0)])) rfl rfl (hb hby own_d1_41)
  have N140 := Fr.snoc X140 N89 g_a0
  have Z140 : n0 ≤ h140.size := Nat.le_trans Z110 (Keep.of_wr W140).1
  have F141 := F119.wr W140
  have F142 := F120.other W140 (Or.inr (slot_ne (Or.inr (hw _ (List.mem_of_getElem? (i := 11) rfl))) (Or.inr (hw _ (List.mem_of_getElem? (i := 26) rfl))) (by decide) (t := .double) (t' := (.array .double)) (by decide) (by decide)))
  have F143 := F121.other W140 (Or.inr (slot_ne (Or.inr (hw _ (List.mem_of_getElem? (i := 22) rfl))) (Or.inr (hw _ (List.mem_of_getElem? (i := 26) rfl))) (by decide) (t := (.array .double)) (t' := (.array .double)) (by decide) (by decide)))
  have F144 := F122.other W140 (Or.inr (slot_ne (Or.inr (hw _ (List.mem_of_getElem? (i := 24) rfl))) (Or.inr (hw _ (List.mem_of_getElem? (i := 26) rfl))) (by decide) (t := (.array .double)) (t' := (.array .double)) (by decide) (by decide)))
  have F145 := F124.other W140 (Or.inr (slot_ne (Or.inr (hw _ (List.mem_of_getElem? (i := 28) rfl))) (Or.inr (hw _ (List.mem_of_getElem? (i := 26) rfl))) (by decide) (t := (.array .double)) (t' := (.array .double)) (by decide) (by decide)))
  have F146 := F125.other W140 (Or.inr (slot_ne (Or.inr (hw _ (List.mem_of_getElem? (i := 30) rfl))) (Or.inr (hw _ (List.mem_of_getElem? (i := 26) rfl))) (by decide) (t := .int) (t' := (.array .double)) (by decide) (by decide)))
  have F147 := F126.other W140 na2
  have F148 := F127.other W140 na3
  have F149 := F128.other W140 na4
  have F150 := F129.other W140 na5
  have F151 := F130.wr W140
  have F152 := F131.wr W140
  have F153 := F132.wr W140
  have F154 := F133.wr W140
  have F155 := F134.other W140 (Ne.symm ne20)
  have F156 := F135.wr W140
  have F157 := F136.other W140 (Ne.symm ne63)
  have F158 := F137.wr W140
  have F159 := V_138.other W140 (Ne.symm ne111)
  have F160 := B110.wr W140
  have F_161 : Fld Z h140 a0 "com/example/penstock/penstock/Evaluation" "pipeFlows" "[D" (.ref b110) := F123.same W140
  have K_162 : Keep h0 h140 [a0] := K_118.wr W140 (Or.inl (List.mem_of_getElem? (i := 0) rfl))
  obtain ⟨T163, h163, X163, e163, E163, A163, B163, st163⟩ := cloneH X140 hx hZ hown (hw _ (List.mem_of_getElem? (i := 12) rfl)) (hw _ (List.mem_of_getElem? (i := 13) rfl)) (hw _ (List.mem_of_getElem? (i := 17) rfl)) (hw _ (List.mem_of_getElem? (i := 15) rfl)) (hw _ (List.mem_of_getElem? (i := 16) rfl)) (hw _ (List.mem_of_getElem? (i := 18) rfl)) e140 (Arv.arh F150) F154 (g := (mkF m 47 #[oa a0, od d1, .second, oa a2, oa a3, oa a4, oa a5, .unset, .unset] [(.ref a5), (.ref a0)])) rfl (by rw [hml]; rfl) rfl (hb hby own_d1_47) (by decide) (W := 1) (by show 2 * 0 + _ ≤ _; exact Nat.le_of_eq rfl) (by decide) (cap := 0) (by decide) (by decide) (by decide)
  obtain ⟨b163, g163⟩ : ∃ z, z = h140.size := ⟨_, rfl⟩
  rw [← g163] at A163 B163 st163
  have g_b163 : n0 ≤ b163 := Nat.le_trans Z140 (Nat.le_of_eq g163.symm)
  have ne164 : a0 ≠ b163 := Nat.ne_of_lt (Nat.lt_of_lt_of_le F141.lt (Nat.le_of_eq g163.symm))
  have ne165 : a2 ≠ b163 := Nat.ne_of_lt (Nat.lt_of_lt_of_le F147.lt (Nat.le_of_eq g163.symm))
  have ne166 : a3 ≠ b163 := Nat.ne_of_lt (Nat.lt_of_lt_of_le F148.lt (Nat.le_of_eq g163.symm))
  have ne167 : a4 ≠ b163 := Nat.ne_of_lt (Nat.lt_of_lt_of_le F149.lt (Nat.le_of_eq g163.symm))
  have ne168 : a5 ≠ b163 := Nat.ne_of_lt (Nat.lt_of_lt_of_le F150.lt (Nat.le_of_eq g163.symm))
  have ne169 : b19 ≠ b163 := Nat.ne_of_lt (Nat.lt_of_lt_of_le F155.lt (Nat.le_of_eq g163.symm))
  have ne170 : b62 ≠ b163 := Nat.ne_of_lt (Nat.lt_of_lt_of_le F157.lt (Nat.le_of_eq g163.symm))
  have ne171 : b110 ≠ b163 := Nat.ne_of_lt (Nat.lt_of_lt_of_le F159.lt (Nat.le_of_eq g163.symm))
  have Z163 : n0 ≤ h163.size := Nat.le_trans Z140 E163.1
  have sz_b163 : h0.size ≤ b163 := Nat.le_trans K_162.1 (Nat.le_of_eq g163.symm)
  have K_172 : Keep h0 h163 [a0] := K_162.ext E163
  have F173 := F141.ext E163
  have F174 := F142.ext E163
  have F175 := F143.ext E163
  have F176 := F144.ext E163
  have F177 := F_161.ext E163
  have F178 := F145.ext E163
  have F179 := F146.ext E163
  have F180 := F147.ext E163
  have F181 := F148.ext E163
  have F182 := F149.ext E163
  have F183 := F150.ext E163
  have F184 := F151.ext E163
  have F185 := F152.ext E163
  have F186 := F153.ext E163
  have F187 := F154.ext E163
  have F188 := F155.ext E163
  have F189 := F156.ext E163
  have F190 := F157.ext E163
  have F191 := F158.ext E163
  have F192 := F159.ext E163
  have F193 := F160.ext E163
  have V_194 : Arv Z h163 b163 k_a5 .double (0 : Int32) [] (.double 0) := A163
  obtain ⟨T195, X195, e195, st195⟩ := castY X163 hx hZ hown (hw _ (List.mem_of_getElem? (i := 19) rfl)) e163 (Ins.self B163) (g := (mkF m 50 #[oa a0, od d1, .second, oa a2, oa a3, oa a4, oa a5, .unset, .unset] [(.ref b163), (.ref a0)])) rfl rfl (hb hby own_d1_50)
  obtain ⟨T196, h196, X196, e196, W196, st196⟩ := putF X195 hx hZ hown (host := "") (Or.inl (hw _ (List.mem_of_getElem? (i := 27) rfl))) Via.refl e195 F178 F173 (Or.inr ⟨(hw _ (List.mem_of_getElem? (i := 28) rfl)), rfl, hnm⟩) (hw _ (List.mem_of_getElem? (i := 2) rfl)) (ty := (.array .double)) (by decide) rfl rfl (g := (mkF m 53 #[oa a0, od d1, .second, oa a2, oa a3, oa a4, oa a5, .unset, .unset] [(.ref b163), (.ref a0)])) rfl rfl (hb hby own_d1_53)
  have N196 := Fr.snoc X196 N140 g_a0
  have Z196 : n0 ≤ h196.size := Nat.le_trans Z163 (Keep.of_wr W196).1
  have F197 := F173.wr W196
  have F198 := F174.other W196 (Or.inr (slot_ne (Or.inr (hw _ (List.mem_of_getElem? (i := 11) rfl))) (Or.inr (hw _ (List.mem_of_getElem? (i := 28) rfl))) (by decide) (t := .double) (t' := (.array .double)) (by decide) (by decide)))
  have F199 := F175.other W196 (Or.inr (slot_ne (Or.inr (hw _ (List.mem_of_getElem? (i := 22) rfl))) (Or.inr (hw _ (List.mem_of_getElem? (i := 28) rfl))) (by decide) (t := (.array .double)) (t' := (.array .double)) (by decide) (by decide)))
  have F200 := F176.other W196 (Or.inr (slot_ne (Or.inr (hw _ (List.mem_of_getElem? (i := 24) rfl))) (Or.inr (hw _ (List.mem_of_getElem? (i := 28) rfl))) (by decide) (t := (.array .double)) (t' := (.array .double)) (by decide) (by decide)))
  have F201 := F177.other W196 (Or.inr (slot_ne (Or.inr (hw _ (List.mem_of_getElem? (i := 26) rfl))) (Or.inr (hw _ (List.mem_of_getElem? (i := 28) rfl))) (by decide) (t := (.array .double)) (t' := (.array .double)) (by decide) (by decide)))
  have F202 := F179.other W196 (Or.inr (slot_ne (Or.inr (hw _ (List.mem_of_getElem? (i := 30) rfl))) (Or.inr (hw _ (List.mem_of_getElem? (i := 28) rfl))) (by decide) (t := .int) (t' := (.array .double)) (by decide) (by decide)))
  have F203 := F180.other W196 na2
  have F204 := F181.other W196 na3
  have F205 := F182.other W196 na4
  have F206 := F183.other W196 na5
  have F207 := F184.wr W196
  have F208 := F185.wr W196
  have F209 := F186.wr W196
  have F210 := F187.wr W196
  have F211 := F188.other W196 (Ne.symm ne20)
  have F212 := F189.wr W196
  have F213 := F190.other W196 (Ne.symm ne63)
  have F214 := F191.wr W196
  have F215 := F192.other W196 (Ne.symm ne111)
  have F216 := F193.wr W196
  have F217 := V_194.other W196 (Ne.symm ne164)
  have F218 := B163.wr W196
  have F_219 : Fld Z h196 a0 "com/example/penstock/penstock/Evaluation" "flows" "[D" (.ref b163) := F178.same W196
  have K_220 : Keep h0 h196 [a0] := K_172.wr W196 (Or.inl (List.mem_of_getElem? (i := 0) rfl))
  have b221 : (1 : Int32) < (3 : Int32) := (by decide)
  have pre222 : ∀ t, Steps p.tables e below (T196.setTop (mkF m 81 #[oa a0, od d1, .second, oa a2, oa a3, oa a4, oa a5, oi (0 : Int32), oi (1 : Int32)] [(.int (lcmpW y1.toInt64 y0.toInt64))])) t → Steps p.tables e below (s₁.setTop (entryFrame m #[(.ref a0), (.double d1), (.ref a2), (.ref a3), (.ref a4), (.ref a5)] 9)) t := by
    intro t k
    refine pre0 t ?_
    show oS p e below s₁ m 0 #[oa a0, od d1, .second, oa a2, oa a3, oa a4, oa a5, .unset, .unset] [] _
    refine XS.aloadN X0.here hx rfl (hb hby own_d1_0) rfl rfl ?_
    show oS p e below s₁ m 1 #[oa a0, od d1, .second, oa a2, oa a3, oa a4, oa a5, .unset, .unset] [(.ref a0)] _
    refine st1 _ ?_
    show oS p e below T1 m 4 #[oa a0, od d1, .second, oa a2, oa a3, oa a4, oa a5, .unset, .unset] [] _
    refine XS.aloadN X1.here hx rfl (hb hby own_d1_4) rfl rfl ?_
    show oS p e below T1 m 5 #[oa a0, od d1, .second, oa a2, oa a3, oa a4, oa a5, .unset, .unset] [(.ref a0)] _
    refine XS.dloadN X1.here hx rfl (hb hby own_d1_5) rfl ?_
    show oS p e below T1 m 6 #[oa a0, od d1, .second, oa a2, oa a3, oa a4, oa a5, .unset, .unset] [(.double d1), (.ref a0)] _
    refine st2 _ ?_
    show oS p e below T2 m 9 #[oa a0, od d1, .second, oa a2, oa a3, oa a4, oa a5, .unset, .unset] [] _
    refine XS.aloadN X2.here hx rfl (hb hby own_d1_9) rfl rfl ?_
    show oS p e below T2 m 10 #[oa a0, od d1, .second, oa a2, oa a3, oa a4, oa a5, .unset, .unset] [(.ref a0)] _
    refine XS.aloadN X2.here hx rfl (hb hby own_d1_10) rfl rfl ?_
    show oS p e below T2 m 11 #[oa a0, od d1, .second, oa a2, oa a3, oa a4, oa a5, .unset, .unset] [(.ref a2), (.ref a0)] _
    refine st19 _ ?_
    show oS p e below T19 m 14 #[oa a0, od d1, .second, oa a2, oa a3, oa a4, oa a5, .unset, .unset] [(.ref b19), (.ref a0)] _
    refine st42 _ ?_
    show oS p e below T42 m 17 #[oa a0, od d1, .second, oa a2, oa a3, oa a4, oa a5, .unset, .unset] [(.ref b19), (.ref a0)] _
    refine st43 _ ?_
    show oS p e below T43 m 20 #[oa a0, od d1, .second, oa a2, oa a3, oa a4, oa a5, .unset, .unset] [] _
    refine XS.aloadN X43.here hx rfl (hb hby own_d1_20) rfl rfl ?_
    show oS p e below T43 m 21 #[oa a0, od d1, .second, oa a2, oa a3, oa a4, oa a5, .unset, .unset] [(.ref a0)] _
    refine XS.aload X43.here hx rfl (hb hby own_d1_21) rfl rfl ?_
    show oS p e below T43 m 23 #[oa a0, od d1, .second, oa a2, oa a3, oa a4, oa a5, .unset, .unset] [(.ref a3), (.ref a0)] _
    refine st62 _ ?_
    show oS p e below T62 m 26 #[oa a0, od d1, .second, oa a2, oa a3, oa a4, oa a5, .unset, .unset] [(.ref b62), (.ref a0)] _
    refine st88 _ ?_
    show oS p e below T88 m 29 #[oa a0, od d1, .second, oa a2, oa a3, oa a4, oa a5, .unset, .unset] [(.ref b62), (.ref a0)] _
    refine st89 _ ?_
    show oS p e below T89 m 32 #[oa a0, od d1, .second, oa a2, oa a3, oa a4, oa a5, .unset, .unset] [] _
    refine XS.aloadN X89.here hx rfl (hb hby own_d1_32) rfl rfl ?_
    show oS p e below T89 m 33 #[oa a0, od d1, .second, oa a2, oa a3, oa a4, oa a5, .unset, .unset] [(.ref a0)] _
    refine XS.aload X89.here hx rfl (hb hby own_d1_33) rfl rfl ?_
    show oS p e below T89 m 35 #[oa a0, od d1, .second, oa a2, oa a3, oa a4, oa a5, .unset, .unset] [(.ref a4), (.ref a0)] _
    refine st110 _ ?_
    show oS p e below T110 m 38 #[oa a0, od d1, .second, oa a2, oa a3, oa a4, oa a5, .unset, .unset] [(.ref b110), (.ref a0)] _
    refine st139 _ ?_
    show oS p e below T139 m 41 #[oa a0, od d1, .second, oa a2, oa a3, oa a4, oa a5, .unset, .unset] [(.ref b110), (.ref a0)] _
    refine st140 _ ?_
    show oS p e below T140 m 44 #[oa a0, od d1, .second, oa a2, oa a3, oa a4, oa a5, .unset, .unset] [] _
    refine XS.aloadN X140.here hx rfl (hb hby own_d1_44) rfl rfl ?_
    show oS p e below T140 m 45 #[oa a0, od d1, .second, oa a2, oa a3, oa a4, oa a5, .unset, .unset] [(.ref a0)] _
    refine XS.aload X140.here hx rfl (hb hby own_d1_45) rfl rfl ?_
    show oS p e below T140 m 47 #[oa a0, od d1, .second, oa a2, oa a3, oa a4, oa a5, .unset, .unset] [(.ref a5), (.ref a0)] _
    refine st163 _ ?_
    show oS p e below T163 m 50 #[oa a0, od d1, .second, oa a2, oa a3, oa a4, oa a5, .unset, .unset] [(.ref b163), (.ref a0)] _
    refine st195 _ ?_
    show oS p e below T195 m 53 #[oa a0, od d1, .second, oa a2, oa a3, oa a4, oa a5, .unset, .unset] [(.ref b163), (.ref a0)] _
    refine st196 _ ?_
    show oS p e below T196 m 56 #[oa a0, od d1, .second, oa a2, oa a3, oa a4, oa a5, .unset, .unset] [] _
    refine XS.iconst X196.here hx rfl (hb hby own_d1_56) ?_
    show oS p e below T196 m 57 #[oa a0, od d1, .second, oa a2, oa a3, oa a4, oa a5, .unset, .unset] [(.int (0 : Int32))] _
    refine XS.istore X196.here hx rfl (hb hby own_d1_57) rfl (l' := #[oa a0, od d1, .second, oa a2, oa a3, oa a4, oa a5, oi (0 : Int32), .unset]) rfl ?_
    show oS p e below T196 m 59 #[oa a0, od d1, .second, oa a2, oa a3, oa a4, oa a5, oi (0 : Int32), .unset] [] _
    refine XS.iconst X196.here hx rfl (hb hby own_d1_59) ?_
    show oS p e below T196 m 60 #[oa a0, od d1, .second, oa a2, oa a3, oa a4, oa a5, oi (0 : Int32), .unset] [(.int (1 : Int32))] _
    refine XS.istore X196.here hx rfl (hb hby own_d1_60) rfl (l' := #[oa a0, od d1, .second, oa a2, oa a3, oa a4, oa a5, oi (0 : Int32), oi (1 : Int32)]) rfl ?_
    show oS p e below T196 m 62 #[oa a0, od d1, .second, oa a2, oa a3, oa a4, oa a5, oi (0 : Int32), oi (1 : Int32)] [] _
    refine XS.iload X196.here hx rfl (hb hby own_d1_62) rfl ?_
    show oS p e below T196 m 64 #[oa a0, od d1, .second, oa a2, oa a3, oa a4, oa a5, oi (0 : Int32), oi (1 : Int32)] [(.int (1 : Int32))] _
    refine XS.aload X196.here hx rfl (hb hby own_d1_64) rfl rfl ?_
    show oS p e below T196 m 66 #[oa a0, od d1, .second, oa a2, oa a3, oa a4, oa a5, oi (0 : Int32), oi (1 : Int32)] [(.ref a3), (.int (1 : Int32))] _
    refine oLen X196 hx hZ e196 F204 (hb hby own_d1_66) ?_
    show oS p e below T196 m 67 #[oa a0, od d1, .second, oa a2, oa a3, oa a4, oa a5, oi (0 : Int32), oi (1 : Int32)] [(.int (3 : Int32)), (.int (1 : Int32))] _
    refine XS.icmpNo X196.here hx rfl (hb hby own_d1_67) rfl (tlt b221).2.1 ?_
    show oS p e below T196 m 70 #[oa a0, od d1, .second, oa a2, oa a3, oa a4, oa a5, oi (0 : Int32), oi (1 : Int32)] [] _
    refine XS.aload X196.here hx rfl (hb hby own_d1_70) rfl rfl ?_
    show oS p e below T196 m 72 #[oa a0, od d1, .second, oa a2, oa a3, oa a4, oa a5, oi (0 : Int32), oi (1 : Int32)] [(.ref a3)] _
    refine XS.iload X196.here hx rfl (hb hby own_d1_72) rfl ?_
    show oS p e below T196 m 74 #[oa a0, od d1, .second, oa a2, oa a3, oa a4, oa a5, oi (0 : Int32), oi (1 : Int32)] [(.int (1 : Int32)), (.ref a3)] _
    refine oLdD X196 hx hZ e196 F204 (v := (.double (FP.i2d y1))) ⟨by decide, by decide⟩ rfl (hb hby own_d1_74) ?_
    show oS p e below T196 m 75 #[oa a0, od d1, .second, oa a2, oa a3, oa a4, oa a5, oi (0 : Int32), oi (1 : Int32)] [(.double (FP.i2d y1))] _
    refine XS.aload X196.here hx rfl (hb hby own_d1_75) rfl rfl ?_
    show oS p e below T196 m 77 #[oa a0, od d1, .second, oa a2, oa a3, oa a4, oa a5, oi (0 : Int32), oi (1 : Int32)] [(.ref a3), (.double (FP.i2d y1))] _
    refine XS.iload X196.here hx rfl (hb hby own_d1_77) rfl ?_
    show oS p e below T196 m 79 #[oa a0, od d1, .second, oa a2, oa a3, oa a4, oa a5, oi (0 : Int32), oi (1 : Int32)] [(.int (0 : Int32)), (.ref a3), (.double (FP.i2d y1))] _
    refine oLdD X196 hx hZ e196 F204 (v := (.double (FP.i2d y0))) ⟨by decide, by decide⟩ rfl (hb hby own_d1_79) ?_
    show oS p e below T196 m 80 #[oa a0, od d1, .second, oa a2, oa a3, oa a4, oa a5, oi (0 : Int32), oi (1 : Int32)] [(.double (FP.i2d y0)), (.double (FP.i2d y1))] _
    refine XS.dcmpS X196.here hx rfl (hb hby own_d1_80) rfl (own_dc _ _ _) ?_
    exact k
  by_cases c223 : y1.toInt64 < y0.toInt64
  · skip
    have b224 : (2 : Int32) < (3 : Int32) := (by decide)
    have pre225 : ∀ t, Steps p.tables e below (T196.setTop (mkF m 81 #[oa a0, od d1, .second, oa a2, oa a3, oa a4, oa a5, oi (1 : Int32), oi (2 : Int32)] [(.int (lcmpW y2.toInt64 y1.toInt64))])) t → Steps p.tables e below (s₁.setTop (entryFrame m #[(.ref a0), (.double d1), (.ref a2), (.ref a3), (.ref a4), (.ref a5)] 9)) t := by
      intro t k
      refine pre222 t ?_
      show oS p e below T196 m 81 #[oa a0, od d1, .second, oa a2, oa a3, oa a4, oa a5, oi (0 : Int32), oi (1 : Int32)] [(.int (lcmpW y1.toInt64 y0.toInt64))] _
      refine XS.ifNo X196.here hx rfl (hb hby own_d1_81) rfl ((if0 _ _).trans (tlt ((lw_lt y1.toInt64 y0.toInt64).mpr c223)).2.1) ?_
      show oS p e below T196 m 84 #[oa a0, od d1, .second, oa a2, oa a3, oa a4, oa a5, oi (0 : Int32), oi (1 : Int32)] [] _
      refine XS.iload X196.here hx rfl (hb hby own_d1_84) rfl ?_
      show oS p e below T196 m 86 #[oa a0, od d1, .second, oa a2, oa a3, oa a4, oa a5, oi (0 : Int32), oi (1 : Int32)] [(.int (1 : Int32))] _
      refine XS.istore X196.here hx rfl (hb hby own_d1_86) rfl (l' := #[oa a0, od d1, .second, oa a2, oa a3, oa a4, oa a5, oi (1 : Int32), oi (1 : Int32)]) rfl ?_
      show oS p e below T196 m 88 #[oa a0, od d1, .second, oa a2, oa a3, oa a4, oa a5, oi (1 : Int32), oi (1 : Int32)] [] _
      refine XS.iinc X196.here hx rfl (hb hby own_d1_88) rfl (l' := #[oa a0, od d1, .second, oa a2, oa a3, oa a4, oa a5, oi (1 : Int32), oi (2 : Int32)]) rfl ?_
      show oS p e below T196 m 91 #[oa a0, od d1, .second, oa a2, oa a3, oa a4, oa a5, oi (1 : Int32), oi (2 : Int32)] [] _
      refine XS.goto X196.here hx rfl (pc0 := 91) (pc' := 62) rfl (hb hby own_d1_91) (by decide) (by decide) ?_
      show oS p e below T196 m 62 #[oa a0, od d1, .second, oa a2, oa a3, oa a4, oa a5, oi (1 : Int32), oi (2 : Int32)] [] _
      refine XS.iload X196.here hx rfl (hb hby own_d1_62) rfl ?_
      show oS p e below T196 m 64 #[oa a0, od d1, .second, oa a2, oa a3, oa a4, oa a5, oi (1 : Int32), oi (2 : Int32)] [(.int (2 : Int32))] _
      refine XS.aload X196.here hx rfl (hb hby own_d1_64) rfl rfl ?_
      show oS p e below T196 m 66 #[oa a0, od d1, .second, oa a2, oa a3, oa a4, oa a5, oi (1 : Int32), oi (2 : Int32)] [(.ref a3), (.int (2 : Int32))] _
      refine oLen X196 hx hZ e196 F204 (hb hby own_d1_66) ?_
      show oS p e below T196 m 67 #[oa a0, od d1, .second, oa a2, oa a3, oa a4, oa a5, oi (1 : Int32), oi (2 : Int32)] [(.int (3 : Int32)), (.int (2 : Int32))] _
      refine XS.icmpNo X196.here hx rfl (hb hby own_d1_67) rfl (tlt b224).2.1 ?_
      show oS p e below T196 m 70 #[oa a0, od d1, .second, oa a2, oa a3, oa a4, oa a5, oi (1 : Int32), oi (2 : Int32)] [] _
      refine XS.aload X196.here hx rfl (hb hby own_d1_70) rfl rfl ?_
      show oS p e below T196 m 72 #[oa a0, od d1, .second, oa a2, oa a3, oa a4, oa a5, oi (1 : Int32), oi (2 : Int32)] [(.ref a3)] _
      refine XS.iload X196.here hx rfl (hb hby own_d1_72) rfl ?_
      show oS p e below T196 m 74 #[oa a0, od d1, .second, oa a2, oa a3, oa a4, oa a5, oi (1 : Int32), oi (2 : Int32)] [(.int (2 : Int32)), (.ref a3)] _
      refine oLdD X196 hx hZ e196 F204 (v := (.double (FP.i2d y2))) ⟨by decide, by decide⟩ rfl (hb hby own_d1_74) ?_
      show oS p e below T196 m 75 #[oa a0, od d1, .second, oa a2, oa a3, oa a4, oa a5, oi (1 : Int32), oi (2 : Int32)] [(.double (FP.i2d y2))] _
      refine XS.aload X196.here hx rfl (hb hby own_d1_75) rfl rfl ?_
      show oS p e below T196 m 77 #[oa a0, od d1, .second, oa a2, oa a3, oa a4, oa a5, oi (1 : Int32), oi (2 : Int32)] [(.ref a3), (.double (FP.i2d y2))] _
      refine XS.iload X196.here hx rfl (hb hby own_d1_77) rfl ?_
      show oS p e below T196 m 79 #[oa a0, od d1, .second, oa a2, oa a3, oa a4, oa a5, oi (1 : Int32), oi (2 : Int32)] [(.int (1 : Int32)), (.ref a3), (.double (FP.i2d y2))] _
      refine oLdD X196 hx hZ e196 F204 (v := (.double (FP.i2d y1))) ⟨by decide, by decide⟩ rfl (hb hby own_d1_79) ?_
      show oS p e below T196 m 80 #[oa a0, od d1, .second, oa a2, oa a3, oa a4, oa a5, oi (1 : Int32), oi (2 : Int32)] [(.double (FP.i2d y1)), (.double (FP.i2d y2))] _
      refine XS.dcmpS X196.here hx rfl (hb hby own_d1_80) rfl (own_dc _ _ _) ?_
      exact k
    by_cases c226 : y2.toInt64 < y1.toInt64
    · skip
      have b227 : ¬ ((3 : Int32) < (3 : Int32)) := (by decide)
      obtain ⟨T228, h228, X228, e228, W228, st228⟩ := putF X196 hx hZ hown (host := "") (Or.inl (hw _ (List.mem_of_getElem? (i := 29) rfl))) Via.refl e196 F202 F197 (Or.inr ⟨(hw _ (List.mem_of_getElem? (i := 30) rfl)), rfl, hnm⟩) (hw _ (List.mem_of_getElem? (i := 2) rfl)) (ty := .int) (by decide) rfl rfl (g := (mkF m 97 #[oa a0, od d1, .second, oa a2, oa a3, oa a4, oa a5, oi (2 : Int32), oi (3 : Int32)] [(.int (2 : Int32)), (.ref a0)])) rfl rfl (hb hby own_d1_97)
      have N228 := Fr.snoc X228 N196 g_a0
      have Z228 : n0 ≤ h228.size := Nat.le_trans Z196 (Keep.of_wr W228).1
      have F229 := F197.wr W228
      have F230 := F198.other W228 (Or.inr (slot_ne (Or.inr (hw _ (List.mem_of_getElem? (i := 11) rfl))) (Or.inr (hw _ (List.mem_of_getElem? (i := 30) rfl))) (by decide) (t := .double) (t' := .int) (by decide) (by decide)))
      have F231 := F199.other W228 (Or.inr (slot_ne (Or.inr (hw _ (List.mem_of_getElem? (i := 22) rfl))) (Or.inr (hw _ (List.mem_of_getElem? (i := 30) rfl))) (by decide) (t := (.array .double)) (t' := .int) (by decide) (by decide)))
      have F232 := F200.other W228 (Or.inr (slot_ne (Or.inr (hw _ (List.mem_of_getElem? (i := 24) rfl))) (Or.inr (hw _ (List.mem_of_getElem? (i := 30) rfl))) (by decide) (t := (.array .double)) (t' := .int) (by decide) (by decide)))
      have F233 := F201.other W228 (Or.inr (slot_ne (Or.inr (hw _ (List.mem_of_getElem? (i := 26) rfl))) (Or.inr (hw _ (List.mem_of_getElem? (i := 30) rfl))) (by decide) (t := (.array .double)) (t' := .int) (by decide) (by decide)))
      have F234 := F_219.other W228 (Or.inr (slot_ne (Or.inr (hw _ (List.mem_of_getElem? (i := 28) rfl))) (Or.inr (hw _ (List.mem_of_getElem? (i := 30) rfl))) (by decide) (t := (.array .double)) (t' := .int) (by decide) (by decide)))
      have F235 := F203.other W228 na2
      have F236 := F204.other W228 na3
      have F237 := F205.other W228 na4
      have F238 := F206.other W228 na5
      have F239 := F207.wr W228
      have F240 := F208.wr W228
      have F241 := F209.wr W228
      have F242 := F210.wr W228
      have F243 := F211.other W228 (Ne.symm ne20)
      have F244 := F212.wr W228
      have F245 := F213.other W228 (Ne.symm ne63)
      have F246 := F214.wr W228
      have F247 := F215.other W228 (Ne.symm ne111)
      have F248 := F216.wr W228
      have F249 := F217.other W228 (Ne.symm ne164)
      have F250 := F218.wr W228
      have F_251 : Fld Z h228 a0 "com/example/penstock/penstock/Evaluation" "worst" "I" (.int (2 : Int32)) := F202.same W228
      have K_252 : Keep h0 h228 [a0] := K_220.wr W228 (Or.inl (List.mem_of_getElem? (i := 0) rfl))
      obtain ⟨fs, hr, hrun, hended, hW, hsame⟩ := X228.leave (v := none) (fun _ => rfl)
      refine ⟨_, _, pre225 _ ?_, hrun, hended, _, _, rfl, ?_, ⟨_, rfl⟩, hW, hsame.mono (by decide) (by decide)⟩
      · show oS p e below T196 m 81 #[oa a0, od d1, .second, oa a2, oa a3, oa a4, oa a5, oi (1 : Int32), oi (2 : Int32)] [(.int (lcmpW y2.toInt64 y1.toInt64))] _
        refine XS.ifNo X196.here hx rfl (hb hby own_d1_81) rfl ((if0 _ _).trans (tlt ((lw_lt y2.toInt64 y1.toInt64).mpr c226)).2.1) ?_
        show oS p e below T196 m 84 #[oa a0, od d1, .second, oa a2, oa a3, oa a4, oa a5, oi (1 : Int32), oi (2 : Int32)] [] _
        refine XS.iload X196.here hx rfl (hb hby own_d1_84) rfl ?_
        show oS p e below T196 m 86 #[oa a0, od d1, .second, oa a2, oa a3, oa a4, oa a5, oi (1 : Int32), oi (2 : Int32)] [(.int (2 : Int32))] _
        refine XS.istore X196.here hx rfl (hb hby own_d1_86) rfl (l' := #[oa a0, od d1, .second, oa a2, oa a3, oa a4, oa a5, oi (2 : Int32), oi (2 : Int32)]) rfl ?_
        show oS p e below T196 m 88 #[oa a0, od d1, .second, oa a2, oa a3, oa a4, oa a5, oi (2 : Int32), oi (2 : Int32)] [] _
        refine XS.iinc X196.here hx rfl (hb hby own_d1_88) rfl (l' := #[oa a0, od d1, .second, oa a2, oa a3, oa a4, oa a5, oi (2 : Int32), oi (3 : Int32)]) rfl ?_
        show oS p e below T196 m 91 #[oa a0, od d1, .second, oa a2, oa a3, oa a4, oa a5, oi (2 : Int32), oi (3 : Int32)] [] _
        refine XS.goto X196.here hx rfl (pc0 := 91) (pc' := 62) rfl (hb hby own_d1_91) (by decide) (by decide) ?_
        show oS p e below T196 m 62 #[oa a0, od d1, .second, oa a2, oa a3, oa a4, oa a5, oi (2 : Int32), oi (3 : Int32)] [] _
        refine XS.iload X196.here hx rfl (hb hby own_d1_62) rfl ?_
        show oS p e below T196 m 64 #[oa a0, od d1, .second, oa a2, oa a3, oa a4, oa a5, oi (2 : Int32), oi (3 : Int32)] [(.int (3 : Int32))] _
        refine XS.aload X196.here hx rfl (hb hby own_d1_64) rfl rfl ?_
        show oS p e below T196 m 66 #[oa a0, od d1, .second, oa a2, oa a3, oa a4, oa a5, oi (2 : Int32), oi (3 : Int32)] [(.ref a3), (.int (3 : Int32))] _
        refine oLen X196 hx hZ e196 F204 (hb hby own_d1_66) ?_
        show oS p e below T196 m 67 #[oa a0, od d1, .second, oa a2, oa a3, oa a4, oa a5, oi (2 : Int32), oi (3 : Int32)] [(.int (3 : Int32)), (.int (3 : Int32))] _
        refine XS.icmpYes X196.here hx rfl (pc0 := 67) (pc' := 94) rfl (hb hby own_d1_67) rfl (flt b227).2.1 (by decide) (by decide) ?_
        show oS p e below T196 m 94 #[oa a0, od d1, .second, oa a2, oa a3, oa a4, oa a5, oi (2 : Int32), oi (3 : Int32)] [] _
        refine XS.aloadN X196.here hx rfl (hb hby own_d1_94) rfl rfl ?_
        show oS p e below T196 m 95 #[oa a0, od d1, .second, oa a2, oa a3, oa a4, oa a5, oi (2 : Int32), oi (3 : Int32)] [(.ref a0)] _
        refine XS.iload X196.here hx rfl (hb hby own_d1_95) rfl ?_
        show oS p e below T196 m 97 #[oa a0, od d1, .second, oa a2, oa a3, oa a4, oa a5, oi (2 : Int32), oi (3 : Int32)] [(.int (2 : Int32)), (.ref a0)] _
        refine st228 _ ?_
        show oS p e below T228 m 100 #[oa a0, od d1, .second, oa a2, oa a3, oa a4, oa a5, oi (2 : Int32), oi (3 : Int32)] [] _
        exact X228.returnOut hx Bd.returns (hb hby own_d1_100) hr
      · show own_Q1 Z a0 d1 a2 a3 a4 a5 y0 y1 y2 k_a2 k_a3 k_a4 k_a5 h0 n0 _ T228.heap _
        rw [e228]
        rw [own_lt64] at c223 c226
        exact ⟨b62, k_a3, _, rfl, N228, K_252, sz_b62, F229, F232, F_251, F245, Or.inr (Or.inr ⟨rfl, by omega, by omega⟩)⟩
    · skip
      have b253 : ¬ ((3 : Int32) < (3 : Int32)) := (by decide)
      obtain ⟨T254, h254, X254, e254, W254, st254⟩ := putF X196 hx hZ hown (host := "") (Or.inl (hw _ (List.mem_of_getElem? (i := 29) rfl))) Via.refl e196 F202 F197 (Or.inr ⟨(hw _ (List.mem_of_getElem? (i := 30) rfl)), rfl, hnm⟩) (hw _ (List.mem_of_getElem? (i := 2) rfl)) (ty := .int) (by decide) rfl rfl (g := (mkF m 97 #[oa a0, od d1, .second, oa a2, oa a3, oa a4, oa a5, oi (1 : Int32), oi (3 : Int32)] [(.int (1 : Int32)), (.ref a0)])) rfl rfl (hb hby own_d1_97)
      have N254 := Fr.snoc X254 N196 g_a0
      have Z254 : n0 ≤ h254.size := Nat.le_trans Z196 (Keep.of_wr W254).1
      have F255 := F197.wr W254
      have F256 := F198.other W254 (Or.inr (slot_ne (Or.inr (hw _ (List.mem_of_getElem? (i := 11) rfl))) (Or.inr (hw _ (List.mem_of_getElem? (i := 30) rfl))) (by decide) (t := .double) (t' := .int) (by decide) (by decide)))
      have F257 := F199.other W254 (Or.inr (slot_ne (Or.inr (hw _ (List.mem_of_getElem? (i := 22) rfl))) (Or.inr (hw _ (List.mem_of_getElem? (i := 30) rfl))) (by decide) (t := (.array .double)) (t' := .int) (by decide) (by decide)))
      have F258 := F200.other W254 (Or.inr (slot_ne (Or.inr (hw _ (List.mem_of_getElem? (i := 24) rfl))) (Or.inr (hw _ (List.mem_of_getElem? (i := 30) rfl))) (by decide) (t := (.array .double)) (t' := .int) (by decide) (by decide)))
      have F259 := F201.other W254 (Or.inr (slot_ne (Or.inr (hw _ (List.mem_of_getElem? (i := 26) rfl))) (Or.inr (hw _ (List.mem_of_getElem? (i := 30) rfl))) (by decide) (t := (.array .double)) (t' := .int) (by decide) (by decide)))
      have F260 := F_219.other W254 (Or.inr (slot_ne (Or.inr (hw _ (List.mem_of_getElem? (i := 28) rfl))) (Or.inr (hw _ (List.mem_of_getElem? (i := 30) rfl))) (by decide) (t := (.array .double)) (t' := .int) (by decide) (by decide)))
      have F261 := F203.other W254 na2
      have F262 := F204.other W254 na3
      have F263 := F205.other W254 na4
      have F264 := F206.other W254 na5
      have F265 := F207.wr W254
      have F266 := F208.wr W254
      have F267 := F209.wr W254
      have F268 := F210.wr W254
      have F269 := F211.other W254 (Ne.symm ne20)
      have F270 := F212.wr W254
      have F271 := F213.other W254 (Ne.symm ne63)
      have F272 := F214.wr W254
      have F273 := F215.other W254 (Ne.symm ne111)
      have F274 := F216.wr W254
      have F275 := F217.other W254 (Ne.symm ne164)
      have F276 := F218.wr W254
      have F_277 : Fld Z h254 a0 "com/example/penstock/penstock/Evaluation" "worst" "I" (.int (1 : Int32)) := F202.same W254
      have K_278 : Keep h0 h254 [a0] := K_220.wr W254 (Or.inl (List.mem_of_getElem? (i := 0) rfl))
      obtain ⟨fs, hr, hrun, hended, hW, hsame⟩ := X254.leave (v := none) (fun _ => rfl)
      refine ⟨_, _, pre225 _ ?_, hrun, hended, _, _, rfl, ?_, ⟨_, rfl⟩, hW, hsame.mono (by decide) (by decide)⟩
      · show oS p e below T196 m 81 #[oa a0, od d1, .second, oa a2, oa a3, oa a4, oa a5, oi (1 : Int32), oi (2 : Int32)] [(.int (lcmpW y2.toInt64 y1.toInt64))] _
        refine XS.ifYes X196.here hx rfl (pc0 := 81) (pc' := 88) rfl (hb hby own_d1_81) rfl ((if0 _ _).trans (flt (fun q => c226 ((lw_lt y2.toInt64 y1.toInt64).mp q))).2.1) (by decide) (by decide) ?_
        show oS p e below T196 m 88 #[oa a0, od d1, .second, oa a2, oa a3, oa a4, oa a5, oi (1 : Int32), oi (2 : Int32)] [] _
        refine XS.iinc X196.here hx rfl (hb hby own_d1_88) rfl (l' := #[oa a0, od d1, .second, oa a2, oa a3, oa a4, oa a5, oi (1 : Int32), oi (3 : Int32)]) rfl ?_
        show oS p e below T196 m 91 #[oa a0, od d1, .second, oa a2, oa a3, oa a4, oa a5, oi (1 : Int32), oi (3 : Int32)] [] _
        refine XS.goto X196.here hx rfl (pc0 := 91) (pc' := 62) rfl (hb hby own_d1_91) (by decide) (by decide) ?_
        show oS p e below T196 m 62 #[oa a0, od d1, .second, oa a2, oa a3, oa a4, oa a5, oi (1 : Int32), oi (3 : Int32)] [] _
        refine XS.iload X196.here hx rfl (hb hby own_d1_62) rfl ?_
        show oS p e below T196 m 64 #[oa a0, od d1, .second, oa a2, oa a3, oa a4, oa a5, oi (1 : Int32), oi (3 : Int32)] [(.int (3 : Int32))] _
        refine XS.aload X196.here hx rfl (hb hby own_d1_64) rfl rfl ?_
        show oS p e below T196 m 66 #[oa a0, od d1, .second, oa a2, oa a3, oa a4, oa a5, oi (1 : Int32), oi (3 : Int32)] [(.ref a3), (.int (3 : Int32))] _
        refine oLen X196 hx hZ e196 F204 (hb hby own_d1_66) ?_
        show oS p e below T196 m 67 #[oa a0, od d1, .second, oa a2, oa a3, oa a4, oa a5, oi (1 : Int32), oi (3 : Int32)] [(.int (3 : Int32)), (.int (3 : Int32))] _
        refine XS.icmpYes X196.here hx rfl (pc0 := 67) (pc' := 94) rfl (hb hby own_d1_67) rfl (flt b253).2.1 (by decide) (by decide) ?_
        show oS p e below T196 m 94 #[oa a0, od d1, .second, oa a2, oa a3, oa a4, oa a5, oi (1 : Int32), oi (3 : Int32)] [] _
        refine XS.aloadN X196.here hx rfl (hb hby own_d1_94) rfl rfl ?_
        show oS p e below T196 m 95 #[oa a0, od d1, .second, oa a2, oa a3, oa a4, oa a5, oi (1 : Int32), oi (3 : Int32)] [(.ref a0)] _
        refine XS.iload X196.here hx rfl (hb hby own_d1_95) rfl ?_
        show oS p e below T196 m 97 #[oa a0, od d1, .second, oa a2, oa a3, oa a4, oa a5, oi (1 : Int32), oi (3 : Int32)] [(.int (1 : Int32)), (.ref a0)] _
        refine st254 _ ?_
        show oS p e below T254 m 100 #[oa a0, od d1, .second, oa a2, oa a3, oa a4, oa a5, oi (1 : Int32), oi (3 : Int32)] [] _
        exact X254.returnOut hx Bd.returns (hb hby own_d1_100) hr
      · show own_Q1 Z a0 d1 a2 a3 a4 a5 y0 y1 y2 k_a2 k_a3 k_a4 k_a5 h0 n0 _ T254.heap _
        rw [e254]
        rw [own_lt64] at c223 c226
        exact ⟨b62, k_a3, _, rfl, N254, K_278, sz_b62, F255, F258, F_277, F271, Or.inr (Or.inl ⟨rfl, by omega, by omega⟩)⟩
  · skip
    have b279 : (2 : Int32) < (3 : Int32) := (by decide)
    have pre280 : ∀ t, Steps p.tables e below (T196.setTop (mkF m 81 #[oa a0, od d1, .second, oa a2, oa a3, oa a4, oa a5, oi (0 : Int32), oi (2 : Int32)] [(.int (lcmpW y2.toInt64 y0.toInt64))])) t → Steps p.tables e below (s₁.setTop (entryFrame m #[(.ref a0), (.double d1), (.ref a2), (.ref a3), (.ref a4), (.ref a5)] 9)) t := by
      intro t k
      refine pre222 t ?_
      show oS p e below T196 m 81 #[oa a0, od d1, .second, oa a2, oa a3, oa a4, oa a5, oi (0 : Int32), oi (1 : Int32)] [(.int (lcmpW y1.toInt64 y0.toInt64))] _
      refine XS.ifYes X196.here hx rfl (pc0 := 81) (pc' := 88) rfl (hb hby own_d1_81) rfl ((if0 _ _).trans (flt (fun q => c223 ((lw_lt y1.toInt64 y0.toInt64).mp q))).2.1) (by decide) (by decide) ?_
      show oS p e below T196 m 88 #[oa a0, od d1, .second, oa a2, oa a3, oa a4, oa a5, oi (0 : Int32), oi (1 : Int32)] [] _
      refine XS.iinc X196.here hx rfl (hb hby own_d1_88) rfl (l' := #[oa a0, od d1, .second, oa a2, oa a3, oa a4, oa a5, oi (0 : Int32), oi (2 : Int32)]) rfl ?_
      show oS p e below T196 m 91 #[oa a0, od d1, .second, oa a2, oa a3, oa a4, oa a5, oi (0 : Int32), oi (2 : Int32)] [] _
      refine XS.goto X196.here hx rfl (pc0 := 91) (pc' := 62) rfl (hb hby own_d1_91) (by decide) (by decide) ?_
      show oS p e below T196 m 62 #[oa a0, od d1, .second, oa a2, oa a3, oa a4, oa a5, oi (0 : Int32), oi (2 : Int32)] [] _
      refine XS.iload X196.here hx rfl (hb hby own_d1_62) rfl ?_
      show oS p e below T196 m 64 #[oa a0, od d1, .second, oa a2, oa a3, oa a4, oa a5, oi (0 : Int32), oi (2 : Int32)] [(.int (2 : Int32))] _
      refine XS.aload X196.here hx rfl (hb hby own_d1_64) rfl rfl ?_
      show oS p e below T196 m 66 #[oa a0, od d1, .second, oa a2, oa a3, oa a4, oa a5, oi (0 : Int32), oi (2 : Int32)] [(.ref a3), (.int (2 : Int32))] _
      refine oLen X196 hx hZ e196 F204 (hb hby own_d1_66) ?_
      show oS p e below T196 m 67 #[oa a0, od d1, .second, oa a2, oa a3, oa a4, oa a5, oi (0 : Int32), oi (2 : Int32)] [(.int (3 : Int32)), (.int (2 : Int32))] _
      refine XS.icmpNo X196.here hx rfl (hb hby own_d1_67) rfl (tlt b279).2.1 ?_
      show oS p e below T196 m 70 #[oa a0, od d1, .second, oa a2, oa a3, oa a4, oa a5, oi (0 : Int32), oi (2 : Int32)] [] _
      refine XS.aload X196.here hx rfl (hb hby own_d1_70) rfl rfl ?_
      show oS p e below T196 m 72 #[oa a0, od d1, .second, oa a2, oa a3, oa a4, oa a5, oi (0 : Int32), oi (2 : Int32)] [(.ref a3)] _
      refine XS.iload X196.here hx rfl (hb hby own_d1_72) rfl ?_
      show oS p e below T196 m 74 #[oa a0, od d1, .second, oa a2, oa a3, oa a4, oa a5, oi (0 : Int32), oi (2 : Int32)] [(.int (2 : Int32)), (.ref a3)] _
      refine oLdD X196 hx hZ e196 F204 (v := (.double (FP.i2d y2))) ⟨by decide, by decide⟩ rfl (hb hby own_d1_74) ?_
      show oS p e below T196 m 75 #[oa a0, od d1, .second, oa a2, oa a3, oa a4, oa a5, oi (0 : Int32), oi (2 : Int32)] [(.double (FP.i2d y2))] _
      refine XS.aload X196.here hx rfl (hb hby own_d1_75) rfl rfl ?_
      show oS p e below T196 m 77 #[oa a0, od d1, .second, oa a2, oa a3, oa a4, oa a5, oi (0 : Int32), oi (2 : Int32)] [(.ref a3), (.double (FP.i2d y2))] _
      refine XS.iload X196.here hx rfl (hb hby own_d1_77) rfl ?_
      show oS p e below T196 m 79 #[oa a0, od d1, .second, oa a2, oa a3, oa a4, oa a5, oi (0 : Int32), oi (2 : Int32)] [(.int (0 : Int32)), (.ref a3), (.double (FP.i2d y2))] _
      refine oLdD X196 hx hZ e196 F204 (v := (.double (FP.i2d y0))) ⟨by decide, by decide⟩ rfl (hb hby own_d1_79) ?_
      show oS p e below T196 m 80 #[oa a0, od d1, .second, oa a2, oa a3, oa a4, oa a5, oi (0 : Int32), oi (2 : Int32)] [(.double (FP.i2d y0)), (.double (FP.i2d y2))] _
      refine XS.dcmpS X196.here hx rfl (hb hby own_d1_80) rfl (own_dc _ _ _) ?_
      exact k
    by_cases c281 : y2.toInt64 < y0.toInt64
    · skip
      have b282 : ¬ ((3 : Int32) < (3 : Int32)) := (by decide)
      obtain ⟨T283, h283, X283, e283, W283, st283⟩ := putF X196 hx hZ hown (host := "") (Or.inl (hw _ (List.mem_of_getElem? (i := 29) rfl))) Via.refl e196 F202 F197 (Or.inr ⟨(hw _ (List.mem_of_getElem? (i := 30) rfl)), rfl, hnm⟩) (hw _ (List.mem_of_getElem? (i := 2) rfl)) (ty := .int) (by decide) rfl rfl (g := (mkF m 97 #[oa a0, od d1, .second, oa a2, oa a3, oa a4, oa a5, oi (2 : Int32), oi (3 : Int32)] [(.int (2 : Int32)), (.ref a0)])) rfl rfl (hb hby own_d1_97)
      have N283 := Fr.snoc X283 N196 g_a0
      have Z283 : n0 ≤ h283.size := Nat.le_trans Z196 (Keep.of_wr W283).1
      have F284 := F197.wr W283
      have F285 := F198.other W283 (Or.inr (slot_ne (Or.inr (hw _ (List.mem_of_getElem? (i := 11) rfl))) (Or.inr (hw _ (List.mem_of_getElem? (i := 30) rfl))) (by decide) (t := .double) (t' := .int) (by decide) (by decide)))
      have F286 := F199.other W283 (Or.inr (slot_ne (Or.inr (hw _ (List.mem_of_getElem? (i := 22) rfl))) (Or.inr (hw _ (List.mem_of_getElem? (i := 30) rfl))) (by decide) (t := (.array .double)) (t' := .int) (by decide) (by decide)))
      have F287 := F200.other W283 (Or.inr (slot_ne (Or.inr (hw _ (List.mem_of_getElem? (i := 24) rfl))) (Or.inr (hw _ (List.mem_of_getElem? (i := 30) rfl))) (by decide) (t := (.array .double)) (t' := .int) (by decide) (by decide)))
      have F288 := F201.other W283 (Or.inr (slot_ne (Or.inr (hw _ (List.mem_of_getElem? (i := 26) rfl))) (Or.inr (hw _ (List.mem_of_getElem? (i := 30) rfl))) (by decide) (t := (.array .double)) (t' := .int) (by decide) (by decide)))
      have F289 := F_219.other W283 (Or.inr (slot_ne (Or.inr (hw _ (List.mem_of_getElem? (i := 28) rfl))) (Or.inr (hw _ (List.mem_of_getElem? (i := 30) rfl))) (by decide) (t := (.array .double)) (t' := .int) (by decide) (by decide)))
      have F290 := F203.other W283 na2
      have F291 := F204.other W283 na3
      have F292 := F205.other W283 na4
      have F293 := F206.other W283 na5
      have F294 := F207.wr W283
      have F295 := F208.wr W283
      have F296 := F209.wr W283
      have F297 := F210.wr W283
      have F298 := F211.other W283 (Ne.symm ne20)
      have F299 := F212.wr W283
      have F300 := F213.other W283 (Ne.symm ne63)
      have F301 := F214.wr W283
      have F302 := F215.other W283 (Ne.symm ne111)
      have F303 := F216.wr W283
      have F304 := F217.other W283 (Ne.symm ne164)
      have F305 := F218.wr W283
      have F_306 : Fld Z h283 a0 "com/example/penstock/penstock/Evaluation" "worst" "I" (.int (2 : Int32)) := F202.same W283
      have K_307 : Keep h0 h283 [a0] := K_220.wr W283 (Or.inl (List.mem_of_getElem? (i := 0) rfl))
      obtain ⟨fs, hr, hrun, hended, hW, hsame⟩ := X283.leave (v := none) (fun _ => rfl)
      refine ⟨_, _, pre280 _ ?_, hrun, hended, _, _, rfl, ?_, ⟨_, rfl⟩, hW, hsame.mono (by decide) (by decide)⟩
      · show oS p e below T196 m 81 #[oa a0, od d1, .second, oa a2, oa a3, oa a4, oa a5, oi (0 : Int32), oi (2 : Int32)] [(.int (lcmpW y2.toInt64 y0.toInt64))] _
        refine XS.ifNo X196.here hx rfl (hb hby own_d1_81) rfl ((if0 _ _).trans (tlt ((lw_lt y2.toInt64 y0.toInt64).mpr c281)).2.1) ?_
        show oS p e below T196 m 84 #[oa a0, od d1, .second, oa a2, oa a3, oa a4, oa a5, oi (0 : Int32), oi (2 : Int32)] [] _
        refine XS.iload X196.here hx rfl (hb hby own_d1_84) rfl ?_
        show oS p e below T196 m 86 #[oa a0, od d1, .second, oa a2, oa a3, oa a4, oa a5, oi (0 : Int32), oi (2 : Int32)] [(.int (2 : Int32))] _
        refine XS.istore X196.here hx rfl (hb hby own_d1_86) rfl (l' := #[oa a0, od d1, .second, oa a2, oa a3, oa a4, oa a5, oi (2 : Int32), oi (2 : Int32)]) rfl ?_
        show oS p e below T196 m 88 #[oa a0, od d1, .second, oa a2, oa a3, oa a4, oa a5, oi (2 : Int32), oi (2 : Int32)] [] _
        refine XS.iinc X196.here hx rfl (hb hby own_d1_88) rfl (l' := #[oa a0, od d1, .second, oa a2, oa a3, oa a4, oa a5, oi (2 : Int32), oi (3 : Int32)]) rfl ?_
        show oS p e below T196 m 91 #[oa a0, od d1, .second, oa a2, oa a3, oa a4, oa a5, oi (2 : Int32), oi (3 : Int32)] [] _
        refine XS.goto X196.here hx rfl (pc0 := 91) (pc' := 62) rfl (hb hby own_d1_91) (by decide) (by decide) ?_
        show oS p e below T196 m 62 #[oa a0, od d1, .second, oa a2, oa a3, oa a4, oa a5, oi (2 : Int32), oi (3 : Int32)] [] _
        refine XS.iload X196.here hx rfl (hb hby own_d1_62) rfl ?_
        show oS p e below T196 m 64 #[oa a0, od d1, .second, oa a2, oa a3, oa a4, oa a5, oi (2 : Int32), oi (3 : Int32)] [(.int (3 : Int32))] _
        refine XS.aload X196.here hx rfl (hb hby own_d1_64) rfl rfl ?_
        show oS p e below T196 m 66 #[oa a0, od d1, .second, oa a2, oa a3, oa a4, oa a5, oi (2 : Int32), oi (3 : Int32)] [(.ref a3), (.int (3 : Int32))] _
        refine oLen X196 hx hZ e196 F204 (hb hby own_d1_66) ?_
        show oS p e below T196 m 67 #[oa a0, od d1, .second, oa a2, oa a3, oa a4, oa a5, oi (2 : Int32), oi (3 : Int32)] [(.int (3 : Int32)), (.int (3 : Int32))] _
        refine XS.icmpYes X196.here hx rfl (pc0 := 67) (pc' := 94) rfl (hb hby own_d1_67) rfl (flt b282).2.1 (by decide) (by decide) ?_
        show oS p e below T196 m 94 #[oa a0, od d1, .second, oa a2, oa a3, oa a4, oa a5, oi (2 : Int32), oi (3 : Int32)] [] _
        refine XS.aloadN X196.here hx rfl (hb hby own_d1_94) rfl rfl ?_
        show oS p e below T196 m 95 #[oa a0, od d1, .second, oa a2, oa a3, oa a4, oa a5, oi (2 : Int32), oi (3 : Int32)] [(.ref a0)] _
        refine XS.iload X196.here hx rfl (hb hby own_d1_95) rfl ?_
        show oS p e below T196 m 97 #[oa a0, od d1, .second, oa a2, oa a3, oa a4, oa a5, oi (2 : Int32), oi (3 : Int32)] [(.int (2 : Int32)), (.ref a0)] _
        refine st283 _ ?_
        show oS p e below T283 m 100 #[oa a0, od d1, .second, oa a2, oa a3, oa a4, oa a5, oi (2 : Int32), oi (3 : Int32)] [] _
        exact X283.returnOut hx Bd.returns (hb hby own_d1_100) hr
      · show own_Q1 Z a0 d1 a2 a3 a4 a5 y0 y1 y2 k_a2 k_a3 k_a4 k_a5 h0 n0 _ T283.heap _
        rw [e283]
        rw [own_lt64] at c223 c281
        exact ⟨b62, k_a3, _, rfl, N283, K_307, sz_b62, F284, F287, F_306, F300, Or.inr (Or.inr ⟨rfl, by omega, by omega⟩)⟩
    · skip
      have b308 : ¬ ((3 : Int32) < (3 : Int32)) := (by decide)
      obtain ⟨T309, h309, X309, e309, W309, st309⟩ := putF X196 hx hZ hown (host := "") (Or.inl (hw _ (List.mem_of_getElem? (i := 29) rfl))) Via.refl e196 F202 F197 (Or.inr ⟨(hw _ (List.mem_of_getElem? (i := 30) rfl)), rfl, hnm⟩) (hw _ (List.mem_of_getElem? (i := 2) rfl)) (ty := .int) (by decide) rfl rfl (g := (mkF m 97 #[oa a0, od d1, .second, oa a2, oa a3, oa a4, oa a5, oi (0 : Int32), oi (3 : Int32)] [(.int (0 : Int32)), (.ref a0)])) rfl rfl (hb hby own_d1_97)
      have N309 := Fr.snoc X309 N196 g_a0
      have Z309 : n0 ≤ h309.size := Nat.le_trans Z196 (Keep.of_wr W309).1
      have F310 := F197.wr W309
      have F311 := F198.other W309 (Or.inr (slot_ne (Or.inr (hw _ (List.mem_of_getElem? (i := 11) rfl))) (Or.inr (hw _ (List.mem_of_getElem? (i := 30) rfl))) (by decide) (t := .double) (t' := .int) (by decide) (by decide)))
      have F312 := F199.other W309 (Or.inr (slot_ne (Or.inr (hw _ (List.mem_of_getElem? (i := 22) rfl))) (Or.inr (hw _ (List.mem_of_getElem? (i := 30) rfl))) (by decide) (t := (.array .double)) (t' := .int) (by decide) (by decide)))
      have F313 := F200.other W309 (Or.inr (slot_ne (Or.inr (hw _ (List.mem_of_getElem? (i := 24) rfl))) (Or.inr (hw _ (List.mem_of_getElem? (i := 30) rfl))) (by decide) (t := (.array .double)) (t' := .int) (by decide) (by decide)))
      have F314 := F201.other W309 (Or.inr (slot_ne (Or.inr (hw _ (List.mem_of_getElem? (i := 26) rfl))) (Or.inr (hw _ (List.mem_of_getElem? (i := 30) rfl))) (by decide) (t := (.array .double)) (t' := .int) (by decide) (by decide)))
      have F315 := F_219.other W309 (Or.inr (slot_ne (Or.inr (hw _ (List.mem_of_getElem? (i := 28) rfl))) (Or.inr (hw _ (List.mem_of_getElem? (i := 30) rfl))) (by decide) (t := (.array .double)) (t' := .int) (by decide) (by decide)))
      have F316 := F203.other W309 na2
      have F317 := F204.other W309 na3
      have F318 := F205.other W309 na4
      have F319 := F206.other W309 na5
      have F320 := F207.wr W309
      have F321 := F208.wr W309
      have F322 := F209.wr W309
      have F323 := F210.wr W309
      have F324 := F211.other W309 (Ne.symm ne20)
      have F325 := F212.wr W309
      have F326 := F213.other W309 (Ne.symm ne63)
      have F327 := F214.wr W309
      have F328 := F215.other W309 (Ne.symm ne111)
      have F329 := F216.wr W309
      have F330 := F217.other W309 (Ne.symm ne164)
      have F331 := F218.wr W309
      have F_332 : Fld Z h309 a0 "com/example/penstock/penstock/Evaluation" "worst" "I" (.int (0 : Int32)) := F202.same W309
      have K_333 : Keep h0 h309 [a0] := K_220.wr W309 (Or.inl (List.mem_of_getElem? (i := 0) rfl))
      obtain ⟨fs, hr, hrun, hended, hW, hsame⟩ := X309.leave (v := none) (fun _ => rfl)
      refine ⟨_, _, pre280 _ ?_, hrun, hended, _, _, rfl, ?_, ⟨_, rfl⟩, hW, hsame.mono (by decide) (by decide)⟩
      · show oS p e below T196 m 81 #[oa a0, od d1, .second, oa a2, oa a3, oa a4, oa a5, oi (0 : Int32), oi (2 : Int32)] [(.int (lcmpW y2.toInt64 y0.toInt64))] _
        refine XS.ifYes X196.here hx rfl (pc0 := 81) (pc' := 88) rfl (hb hby own_d1_81) rfl ((if0 _ _).trans (flt (fun q => c281 ((lw_lt y2.toInt64 y0.toInt64).mp q))).2.1) (by decide) (by decide) ?_
        show oS p e below T196 m 88 #[oa a0, od d1, .second, oa a2, oa a3, oa a4, oa a5, oi (0 : Int32), oi (2 : Int32)] [] _
        refine XS.iinc X196.here hx rfl (hb hby own_d1_88) rfl (l' := #[oa a0, od d1, .second, oa a2, oa a3, oa a4, oa a5, oi (0 : Int32), oi (3 : Int32)]) rfl ?_
        show oS p e below T196 m 91 #[oa a0, od d1, .second, oa a2, oa a3, oa a4, oa a5, oi (0 : Int32), oi (3 : Int32)] [] _
        refine XS.goto X196.here hx rfl (pc0 := 91) (pc' := 62) rfl (hb hby own_d1_91) (by decide) (by decide) ?_
        show oS p e below T196 m 62 #[oa a0, od d1, .second, oa a2, oa a3, oa a4, oa a5, oi (0 : Int32), oi (3 : Int32)] [] _
        refine XS.iload X196.here hx rfl (hb hby own_d1_62) rfl ?_
        show oS p e below T196 m 64 #[oa a0, od d1, .second, oa a2, oa a3, oa a4, oa a5, oi (0 : Int32), oi (3 : Int32)] [(.int (3 : Int32))] _
        refine XS.aload X196.here hx rfl (hb hby own_d1_64) rfl rfl ?_
        show oS p e below T196 m 66 #[oa a0, od d1, .second, oa a2, oa a3, oa a4, oa a5, oi (0 : Int32), oi (3 : Int32)] [(.ref a3), (.int (3 : Int32))] _
        refine oLen X196 hx hZ e196 F204 (hb hby own_d1_66) ?_
        show oS p e below T196 m 67 #[oa a0, od d1, .second, oa a2, oa a3, oa a4, oa a5, oi (0 : Int32), oi (3 : Int32)] [(.int (3 : Int32)), (.int (3 : Int32))] _
        refine XS.icmpYes X196.here hx rfl (pc0 := 67) (pc' := 94) rfl (hb hby own_d1_67) rfl (flt b308).2.1 (by decide) (by decide) ?_
        show oS p e below T196 m 94 #[oa a0, od d1, .second, oa a2, oa a3, oa a4, oa a5, oi (0 : Int32), oi (3 : Int32)] [] _
        refine XS.aloadN X196.here hx rfl (hb hby own_d1_94) rfl rfl ?_
        show oS p e below T196 m 95 #[oa a0, od d1, .second, oa a2, oa a3, oa a4, oa a5, oi (0 : Int32), oi (3 : Int32)] [(.ref a0)] _
        refine XS.iload X196.here hx rfl (hb hby own_d1_95) rfl ?_
        show oS p e below T196 m 97 #[oa a0, od d1, .second, oa a2, oa a3, oa a4, oa a5, oi (0 : Int32), oi (3 : Int32)] [(.int (0 : Int32)), (.ref a0)] _
        refine st309 _ ?_
        show oS p e below T309 m 100 #[oa a0, od d1, .second, oa a2, oa a3, oa a4, oa a5, oi (0 : Int32), oi (3 : Int32)] [] _
        exact X309.returnOut hx Bd.returns (hb hby own_d1_100) hr
      · show own_Q1 Z a0 d1 a2 a3 a4 a5 y0 y1 y2 k_a2 k_a3 k_a4 k_a5 h0 n0 _ T309.heap _
        rw [e309]
        rw [own_lt64] at c223 c281
        exact ⟨b62, k_a3, _, rfl, N309, K_333, sz_b62, F310, F313, F_332, F326, Or.inl ⟨rfl, by omega, by omega⟩⟩
theorem own_d3_0 : decode prog_12_method_8_code 0 = .ok (.aload_n 0, 1) := by decide +kernel
theorem own_d3_1 : decode prog_12_method_8_code 1 = .ok (.getfield 22, 3) := by decide +kernel
theorem own_d3_4 : decode prog_12_method_8_code 4 = .ok (.aload_n 0, 1) := by decide +kernel
theorem own_d3_5 : decode prog_12_method_8_code 5 = .ok (.getfield 31, 3) := by decide +kernel
theorem own_d3_8 : decode prog_12_method_8_code 8 = .ok (.daload, 1) := by decide +kernel
theorem own_d3_9 : decode prog_12_method_8_code 9 = .ok (.dconst 0, 1) := by decide +kernel
theorem own_d3_10 : decode prog_12_method_8_code 10 = .ok (.dcmp .l, 1) := by decide +kernel
theorem own_d3_11 : decode prog_12_method_8_code 11 = .ok (.ifCond .lt 7, 3) := by decide +kernel
theorem own_d3_14 : decode prog_12_method_8_code 14 = .ok (.iconst 1, 1) := by decide +kernel
theorem own_d3_15 : decode prog_12_method_8_code 15 = .ok (.goto 4, 3) := by decide +kernel
theorem own_d3_18 : decode prog_12_method_8_code 18 = .ok (.iconst 0, 1) := by decide +kernel
theorem own_d3_19 : decode prog_12_method_8_code 19 = .ok (.ireturn, 1) := by decide +kernel
theorem own_ef3_0 (m : MethodId) (a0 : Addr) : entryFrame m #[(.ref a0)] 1 = mkF m 0 #[oa a0] [] := by first | (simp [entryFrame, mkF, argsToLocals, Value.category]; done) | rfl
def own_f3_0 (y0 : Int32) : Int32 := (if y0.toInt64 < (0 : Int64) then (0 : Int32) else (1 : Int32))
def own_Q3_0 (Z : State) (a0 : Addr) (b : Addr) (y0 : Int32) (y1 : Int32) (y2 : Int32) (k_b : ClassId) (h0 : Heap) (n0 : Nat) (v : Option Value) (h : Heap) (L : List Loc) : Prop := v = some (Value.int (own_f3_0 y0)) ∧ Fr n0 L ∧ h = h0
set_option maxRecDepth 65536 in
set_option maxHeartbeats 40000000 in
theorem own_rm3_0 (l : Launch) (Z : State) (av : Array Value) (hw : ∀ d ∈ tables_1, d.before av Z = true) (ws : List Jvm.Cond) (a0 : Addr) (b : Addr) (y0 : Int32) (y1 : Int32) (y2 : Int32) (k_b : ClassId) (h0 : Heap) (n0 : Nat) (Z0 : n0 ≤ h0.size) (F_margins_a0 : Fld Z h0 a0 "com/example/penstock/penstock/Evaluation" "margins" "[D" (.ref b)) (F_worst_a0 : Fld Z h0 a0 "com/example/penstock/penstock/Evaluation" "worst" "I" (.int (0 : Int32))) (V_b : Arv Z h0 b k_b .double (3 : Int32) [(.double (FP.i2d y0)), (.double (FP.i2d y1)), (.double (FP.i2d y2))] (.double 0)) :
    MetFree l (⟨"com/example/penstock/penstock/Evaluation", "isFeasible", "()Z"⟩ : MethodName) (head1 (Jvm.Cond.code (⟨"com/example/penstock/penstock/Evaluation", "isFeasible", "()Z"⟩ : MethodName) prog_12_method_8_code 1 (some .boolean) :: ws) ({ frames := 0, cells := 0, slots := 0, locals := 0 } : Room)) (fun a U => a = #[(.ref a0)] ∧ Z.Warmed39 U.vm ∧ U.heap = h0) (fun _ _ _ _ _ => True) (fun _ U o U' => ∃ v L, o = .returned v ∧ own_Q3_0 Z a0 b y0 y1 y2 k_b h0 n0 v U'.heap L ∧ FrameEnd U o U' L ({ frames := 0, cells := 0, slots := 0, locals := 0 } : Room).cells ({ frames := 0, cells := 0, slots := 0, locals := 0 } : Room).slots) := by
  refine MetFree.of_bodySF (plainFor_of_name own_pn0) hisR ?_
  intro p e s m args below meth c s₁ Bd hml0 hP hK
  obtain ⟨rfl, hZ, hh⟩ := hP
  have hx := Bd.exec
  have hby := Bd.bytes
  have hml : c.maxLocals = 1 := hml0
  have hown : s.vm.findClass "com/example/penstock/penstock/Evaluation" = some m.cls := findClass_of_methodNamed Bd.named
  have hnm := (name_of_methodNamed Bd.named Bd.method).1
  have X0 : Stand p l e ({ frames := 0, cells := 0, slots := 0, locals := 0 } : Room) s m #[(.ref a0)] below meth c s₁ [] 0 0 := Stand.of_body Bd
  have e0 : s₁.heap = h0 := by rw [← hh, Bd.state]; rfl
  have N0 := Fr.nil n0
  have pre0 : ∀ t, Steps p.tables e below (s₁.setTop (mkF m 0 #[oa a0] [])) t → Steps p.tables e below (s₁.setTop (entryFrame m #[(.ref a0)] 1)) t := fun t k => castTop (own_ef3_0 m a0) k
  obtain ⟨T1, X1, e1, st1⟩ := getF X0 hx hZ hown (host := "") (Or.inl (hw _ (List.mem_of_getElem? (i := 23) rfl))) Via.refl e0 F_margins_a0 (g := (mkF m 1 #[oa a0] [(.ref a0)])) rfl rfl (hb hby own_d3_1)
  obtain ⟨T2, X2, e2, st2⟩ := getF X1 hx hZ hown (host := "") (Or.inl (hw _ (List.mem_of_getElem? (i := 29) rfl))) Via.refl e1 F_worst_a0 (g := (mkF m 5 #[oa a0] [(.ref a0), (.ref b)])) rfl rfl (hb hby own_d3_5)
  have pre3 : ∀ t, Steps p.tables e below (T2.setTop (mkF m 11 #[oa a0] [(.int (lcmpW y0.toInt64 (0 : Int64)))])) t → Steps p.tables e below (s₁.setTop (entryFrame m #[(.ref a0)] 1)) t := by
    intro t k
    refine pre0 t ?_
    show oS p e below s₁ m 0 #[oa a0] [] _
    refine XS.aloadN X0.here hx rfl (hb hby own_d3_0) rfl rfl ?_
    show oS p e below s₁ m 1 #[oa a0] [(.ref a0)] _
    refine st1 _ ?_
    show oS p e below T1 m 4 #[oa a0] [(.ref b)] _
    refine XS.aloadN X1.here hx rfl (hb hby own_d3_4) rfl rfl ?_
    show oS p e below T1 m 5 #[oa a0] [(.ref a0), (.ref b)] _
    refine st2 _ ?_
    show oS p e below T2 m 8 #[oa a0] [(.int (0 : Int32)), (.ref b)] _
    refine oLdD X2 hx hZ e2 V_b (v := (.double (FP.i2d y0))) ⟨by decide, by decide⟩ rfl (hb hby own_d3_8) ?_
    show oS p e below T2 m 9 #[oa a0] [(.double (FP.i2d y0))] _
    refine XS.dconst0 X2.here hx rfl (hb hby own_d3_9) rfl ?_
    show oS p e below T2 m 10 #[oa a0] [(.double FP.dconst0), (.double (FP.i2d y0))] _
    refine XS.dcmpS X2.here hx rfl (hb hby own_d3_10) rfl (own_dz _ _) ?_
    exact k
  by_cases c4 : y0.toInt64 < (0 : Int64)
  · skip
    obtain ⟨fs, hr, hrun, hended, hW, hsame⟩ := X2.leave (v := (some (.int (0 : Int32)))) (fun h => by rw [Bd.returns] at h; cases h)
    refine ⟨_, _, pre3 _ ?_, hrun, hended, _, _, rfl, ?_, ⟨_, rfl⟩, hW, hsame.mono (by decide) (by decide)⟩
    · show oS p e below T2 m 11 #[oa a0] [(.int (lcmpW y0.toInt64 (0 : Int64)))] _
      refine XS.ifYes X2.here hx rfl (pc0 := 11) (pc' := 18) rfl (hb hby own_d3_11) rfl ((if0 _ _).trans (tlt ((lw_lt y0.toInt64 (0 : Int64)).mpr c4)).1) (by decide) (by decide) ?_
      show oS p e below T2 m 18 #[oa a0] [] _
      refine XS.iconst X2.here hx rfl (hb hby own_d3_18) ?_
      show oS p e below T2 m 19 #[oa a0] [(.int (0 : Int32))] _
      exact retN X2 hx (t := .boolean) Bd.returns (by simp) (hb hby own_d3_19) hr
    · show own_Q3_0 Z a0 b y0 y1 y2 k_b h0 n0 _ T2.heap _
      rw [e2]
      exact ⟨congrArg (fun z => some (Value.int z)) (by rw [own_f3_0, if_pos c4]), N0, rfl⟩
  · skip
    obtain ⟨fs, hr, hrun, hended, hW, hsame⟩ := X2.leave (v := (some (.int (1 : Int32)))) (fun h => by rw [Bd.returns] at h; cases h)
    refine ⟨_, _, pre3 _ ?_, hrun, hended, _, _, rfl, ?_, ⟨_, rfl⟩, hW, hsame.mono (by decide) (by decide)⟩
    · show oS p e below T2 m 11 #[oa a0] [(.int (lcmpW y0.toInt64 (0 : Int64)))] _
      refine XS.ifNo X2.here hx rfl (hb hby own_d3_11) rfl ((if0 _ _).trans (flt (fun q => c4 ((lw_lt y0.toInt64 (0 : Int64)).mp q))).1) ?_
      show oS p e below T2 m 14 #[oa a0] [] _
      refine XS.iconst X2.here hx rfl (hb hby own_d3_14) ?_
      show oS p e below T2 m 15 #[oa a0] [(.int (1 : Int32))] _
      refine XS.goto X2.here hx rfl (pc0 := 15) (pc' := 19) rfl (hb hby own_d3_15) (by decide) (by decide) ?_
      show oS p e below T2 m 19 #[oa a0] [(.int (1 : Int32))] _
      exact retN X2 hx (t := .boolean) Bd.returns (by simp) (hb hby own_d3_19) hr
    · show own_Q3_0 Z a0 b y0 y1 y2 k_b h0 n0 _ T2.heap _
      rw [e2]
      exact ⟨congrArg (fun z => some (Value.int z)) (by rw [own_f3_0, if_neg c4]), N0, rfl⟩
theorem own_ef3_1 (m : MethodId) (a0 : Addr) : entryFrame m #[(.ref a0)] 1 = mkF m 0 #[oa a0] [] := by first | (simp [entryFrame, mkF, argsToLocals, Value.category]; done) | rfl
def own_f3_1 (y1 : Int32) : Int32 := (if y1.toInt64 < (0 : Int64) then (0 : Int32) else (1 : Int32))
def own_Q3_1 (Z : State) (a0 : Addr) (b : Addr) (y0 : Int32) (y1 : Int32) (y2 : Int32) (k_b : ClassId) (h0 : Heap) (n0 : Nat) (v : Option Value) (h : Heap) (L : List Loc) : Prop := v = some (Value.int (own_f3_1 y1)) ∧ Fr n0 L ∧ h = h0
set_option maxRecDepth 65536 in
set_option maxHeartbeats 40000000 in
theorem own_rm3_1 (l : Launch) (Z : State) (av : Array Value) (hw : ∀ d ∈ tables_1, d.before av Z = true) (ws : List Jvm.Cond) (a0 : Addr) (b : Addr) (y0 : Int32) (y1 : Int32) (y2 : Int32) (k_b : ClassId) (h0 : Heap) (n0 : Nat) (Z0 : n0 ≤ h0.size) (F_margins_a0 : Fld Z h0 a0 "com/example/penstock/penstock/Evaluation" "margins" "[D" (.ref b)) (F_worst_a0 : Fld Z h0 a0 "com/example/penstock/penstock/Evaluation" "worst" "I" (.int (1 : Int32))) (V_b : Arv Z h0 b k_b .double (3 : Int32) [(.double (FP.i2d y0)), (.double (FP.i2d y1)), (.double (FP.i2d y2))] (.double 0)) :
    MetFree l (⟨"com/example/penstock/penstock/Evaluation", "isFeasible", "()Z"⟩ : MethodName) (head1 (Jvm.Cond.code (⟨"com/example/penstock/penstock/Evaluation", "isFeasible", "()Z"⟩ : MethodName) prog_12_method_8_code 1 (some .boolean) :: ws) ({ frames := 0, cells := 0, slots := 0, locals := 0 } : Room)) (fun a U => a = #[(.ref a0)] ∧ Z.Warmed39 U.vm ∧ U.heap = h0) (fun _ _ _ _ _ => True) (fun _ U o U' => ∃ v L, o = .returned v ∧ own_Q3_1 Z a0 b y0 y1 y2 k_b h0 n0 v U'.heap L ∧ FrameEnd U o U' L ({ frames := 0, cells := 0, slots := 0, locals := 0 } : Room).cells ({ frames := 0, cells := 0, slots := 0, locals := 0 } : Room).slots) := by
  refine MetFree.of_bodySF (plainFor_of_name own_pn0) hisR ?_
  intro p e s m args below meth c s₁ Bd hml0 hP hK
  obtain ⟨rfl, hZ, hh⟩ := hP
  have hx := Bd.exec
  have hby := Bd.bytes
  have hml : c.maxLocals = 1 := hml0
  have hown : s.vm.findClass "com/example/penstock/penstock/Evaluation" = some m.cls := findClass_of_methodNamed Bd.named
  have hnm := (name_of_methodNamed Bd.named Bd.method).1
  have X0 : Stand p l e ({ frames := 0, cells := 0, slots := 0, locals := 0 } : Room) s m #[(.ref a0)] below meth c s₁ [] 0 0 := Stand.of_body Bd
  have e0 : s₁.heap = h0 := by rw [← hh, Bd.state]; rfl
  have N0 := Fr.nil n0
  have pre0 : ∀ t, Steps p.tables e below (s₁.setTop (mkF m 0 #[oa a0] [])) t → Steps p.tables e below (s₁.setTop (entryFrame m #[(.ref a0)] 1)) t := fun t k => castTop (own_ef3_1 m a0) k
  obtain ⟨T1, X1, e1, st1⟩ := getF X0 hx hZ hown (host := "") (Or.inl (hw _ (List.mem_of_getElem? (i := 23) rfl))) Via.refl e0 F_margins_a0 (g := (mkF m 1 #[oa a0] [(.ref a0)])) rfl rfl (hb hby own_d3_1)
  obtain ⟨T2, X2, e2, st2⟩ := getF X1 hx hZ hown (host := "") (Or.inl (hw _ (List.mem_of_getElem? (i := 29) rfl))) Via.refl e1 F_worst_a0 (g := (mkF m 5 #[oa a0] [(.ref a0), (.ref b)])) rfl rfl (hb hby own_d3_5)
  have pre3 : ∀ t, Steps p.tables e below (T2.setTop (mkF m 11 #[oa a0] [(.int (lcmpW y1.toInt64 (0 : Int64)))])) t → Steps p.tables e below (s₁.setTop (entryFrame m #[(.ref a0)] 1)) t := by
    intro t k
    refine pre0 t ?_
    show oS p e below s₁ m 0 #[oa a0] [] _
    refine XS.aloadN X0.here hx rfl (hb hby own_d3_0) rfl rfl ?_
    show oS p e below s₁ m 1 #[oa a0] [(.ref a0)] _
    refine st1 _ ?_
    show oS p e below T1 m 4 #[oa a0] [(.ref b)] _
    refine XS.aloadN X1.here hx rfl (hb hby own_d3_4) rfl rfl ?_
    show oS p e below T1 m 5 #[oa a0] [(.ref a0), (.ref b)] _
    refine st2 _ ?_
    show oS p e below T2 m 8 #[oa a0] [(.int (1 : Int32)), (.ref b)] _
    refine oLdD X2 hx hZ e2 V_b (v := (.double (FP.i2d y1))) ⟨by decide, by decide⟩ rfl (hb hby own_d3_8) ?_
    show oS p e below T2 m 9 #[oa a0] [(.double (FP.i2d y1))] _
    refine XS.dconst0 X2.here hx rfl (hb hby own_d3_9) rfl ?_
    show oS p e below T2 m 10 #[oa a0] [(.double FP.dconst0), (.double (FP.i2d y1))] _
    refine XS.dcmpS X2.here hx rfl (hb hby own_d3_10) rfl (own_dz _ _) ?_
    exact k
  by_cases c4 : y1.toInt64 < (0 : Int64)
  · skip
    obtain ⟨fs, hr, hrun, hended, hW, hsame⟩ := X2.leave (v := (some (.int (0 : Int32)))) (fun h => by rw [Bd.returns] at h; cases h)
    refine ⟨_, _, pre3 _ ?_, hrun, hended, _, _, rfl, ?_, ⟨_, rfl⟩, hW, hsame.mono (by decide) (by decide)⟩
    · show oS p e below T2 m 11 #[oa a0] [(.int (lcmpW y1.toInt64 (0 : Int64)))] _
      refine XS.ifYes X2.here hx rfl (pc0 := 11) (pc' := 18) rfl (hb hby own_d3_11) rfl ((if0 _ _).trans (tlt ((lw_lt y1.toInt64 (0 : Int64)).mpr c4)).1) (by decide) (by decide) ?_
      show oS p e below T2 m 18 #[oa a0] [] _
      refine XS.iconst X2.here hx rfl (hb hby own_d3_18) ?_
      show oS p e below T2 m 19 #[oa a0] [(.int (0 : Int32))] _
      exact retN X2 hx (t := .boolean) Bd.returns (by simp) (hb hby own_d3_19) hr
    · show own_Q3_1 Z a0 b y0 y1 y2 k_b h0 n0 _ T2.heap _
      rw [e2]
      exact ⟨congrArg (fun z => some (Value.int z)) (by rw [own_f3_1, if_pos c4]), N0, rfl⟩
  · skip
    obtain ⟨fs, hr, hrun, hended, hW, hsame⟩ := X2.leave (v := (some (.int (1 : Int32)))) (fun h => by rw [Bd.returns] at h; cases h)
    refine ⟨_, _, pre3 _ ?_, hrun, hended, _, _, rfl, ?_, ⟨_, rfl⟩, hW, hsame.mono (by decide) (by decide)⟩
    · show oS p e below T2 m 11 #[oa a0] [(.int (lcmpW y1.toInt64 (0 : Int64)))] _
      refine XS.ifNo X2.here hx rfl (hb hby own_d3_11) rfl ((if0 _ _).trans (flt (fun q => c4 ((lw_lt y1.toInt64 (0 : Int64)).mp q))).1) ?_
      show oS p e below T2 m 14 #[oa a0] [] _
      refine XS.iconst X2.here hx rfl (hb hby own_d3_14) ?_
      show oS p e below T2 m 15 #[oa a0] [(.int (1 : Int32))] _
      refine XS.goto X2.here hx rfl (pc0 := 15) (pc' := 19) rfl (hb hby own_d3_15) (by decide) (by decide) ?_
      show oS p e below T2 m 19 #[oa a0] [(.int (1 : Int32))] _
      exact retN X2 hx (t := .boolean) Bd.returns (by simp) (hb hby own_d3_19) hr
    · show own_Q3_1 Z a0 b y0 y1 y2 k_b h0 n0 _ T2.heap _
      rw [e2]
      exact ⟨congrArg (fun z => some (Value.int z)) (by rw [own_f3_1, if_neg c4]), N0, rfl⟩
theorem own_ef3_2 (m : MethodId) (a0 : Addr) : entryFrame m #[(.ref a0)] 1 = mkF m 0 #[oa a0] [] := by first | (simp [entryFrame, mkF, argsToLocals, Value.category]; done) | rfl
def own_f3_2 (y2 : Int32) : Int32 := (if y2.toInt64 < (0 : Int64) then (0 : Int32) else (1 : Int32))
def own_Q3_2 (Z : State) (a0 : Addr) (b : Addr) (y0 : Int32) (y1 : Int32) (y2 : Int32) (k_b : ClassId) (h0 : Heap) (n0 : Nat) (v : Option Value) (h : Heap) (L : List Loc) : Prop := v = some (Value.int (own_f3_2 y2)) ∧ Fr n0 L ∧ h = h0
set_option maxRecDepth 65536 in
set_option maxHeartbeats 40000000 in
theorem own_rm3_2 (l : Launch) (Z : State) (av : Array Value) (hw : ∀ d ∈ tables_1, d.before av Z = true) (ws : List Jvm.Cond) (a0 : Addr) (b : Addr) (y0 : Int32) (y1 : Int32) (y2 : Int32) (k_b : ClassId) (h0 : Heap) (n0 : Nat) (Z0 : n0 ≤ h0.size) (F_margins_a0 : Fld Z h0 a0 "com/example/penstock/penstock/Evaluation" "margins" "[D" (.ref b)) (F_worst_a0 : Fld Z h0 a0 "com/example/penstock/penstock/Evaluation" "worst" "I" (.int (2 : Int32))) (V_b : Arv Z h0 b k_b .double (3 : Int32) [(.double (FP.i2d y0)), (.double (FP.i2d y1)), (.double (FP.i2d y2))] (.double 0)) :
    MetFree l (⟨"com/example/penstock/penstock/Evaluation", "isFeasible", "()Z"⟩ : MethodName) (head1 (Jvm.Cond.code (⟨"com/example/penstock/penstock/Evaluation", "isFeasible", "()Z"⟩ : MethodName) prog_12_method_8_code 1 (some .boolean) :: ws) ({ frames := 0, cells := 0, slots := 0, locals := 0 } : Room)) (fun a U => a = #[(.ref a0)] ∧ Z.Warmed39 U.vm ∧ U.heap = h0) (fun _ _ _ _ _ => True) (fun _ U o U' => ∃ v L, o = .returned v ∧ own_Q3_2 Z a0 b y0 y1 y2 k_b h0 n0 v U'.heap L ∧ FrameEnd U o U' L ({ frames := 0, cells := 0, slots := 0, locals := 0 } : Room).cells ({ frames := 0, cells := 0, slots := 0, locals := 0 } : Room).slots) := by
  refine MetFree.of_bodySF (plainFor_of_name own_pn0) hisR ?_
  intro p e s m args below meth c s₁ Bd hml0 hP hK
  obtain ⟨rfl, hZ, hh⟩ := hP
  have hx := Bd.exec
  have hby := Bd.bytes
  have hml : c.maxLocals = 1 := hml0
  have hown : s.vm.findClass "com/example/penstock/penstock/Evaluation" = some m.cls := findClass_of_methodNamed Bd.named
  have hnm := (name_of_methodNamed Bd.named Bd.method).1
  have X0 : Stand p l e ({ frames := 0, cells := 0, slots := 0, locals := 0 } : Room) s m #[(.ref a0)] below meth c s₁ [] 0 0 := Stand.of_body Bd
  have e0 : s₁.heap = h0 := by rw [← hh, Bd.state]; rfl
  have N0 := Fr.nil n0
  have pre0 : ∀ t, Steps p.tables e below (s₁.setTop (mkF m 0 #[oa a0] [])) t → Steps p.tables e below (s₁.setTop (entryFrame m #[(.ref a0)] 1)) t := fun t k => castTop (own_ef3_2 m a0) k
  obtain ⟨T1, X1, e1, st1⟩ := getF X0 hx hZ hown (host := "") (Or.inl (hw _ (List.mem_of_getElem? (i := 23) rfl))) Via.refl e0 F_margins_a0 (g := (mkF m 1 #[oa a0] [(.ref a0)])) rfl rfl (hb hby own_d3_1)
  obtain ⟨T2, X2, e2, st2⟩ := getF X1 hx hZ hown (host := "") (Or.inl (hw _ (List.mem_of_getElem? (i := 29) rfl))) Via.refl e1 F_worst_a0 (g := (mkF m 5 #[oa a0] [(.ref a0), (.ref b)])) rfl rfl (hb hby own_d3_5)
  have pre3 : ∀ t, Steps p.tables e below (T2.setTop (mkF m 11 #[oa a0] [(.int (lcmpW y2.toInt64 (0 : Int64)))])) t → Steps p.tables e below (s₁.setTop (entryFrame m #[(.ref a0)] 1)) t := by
    intro t k
    refine pre0 t ?_
    show oS p e below s₁ m 0 #[oa a0] [] _
    refine XS.aloadN X0.here hx rfl (hb hby own_d3_0) rfl rfl ?_
    show oS p e below s₁ m 1 #[oa a0] [(.ref a0)] _
    refine st1 _ ?_
    show oS p e below T1 m 4 #[oa a0] [(.ref b)] _
    refine XS.aloadN X1.here hx rfl (hb hby own_d3_4) rfl rfl ?_
    show oS p e below T1 m 5 #[oa a0] [(.ref a0), (.ref b)] _
    refine st2 _ ?_
    show oS p e below T2 m 8 #[oa a0] [(.int (2 : Int32)), (.ref b)] _
    refine oLdD X2 hx hZ e2 V_b (v := (.double (FP.i2d y2))) ⟨by decide, by decide⟩ rfl (hb hby own_d3_8) ?_
    show oS p e below T2 m 9 #[oa a0] [(.double (FP.i2d y2))] _
    refine XS.dconst0 X2.here hx rfl (hb hby own_d3_9) rfl ?_
    show oS p e below T2 m 10 #[oa a0] [(.double FP.dconst0), (.double (FP.i2d y2))] _
    refine XS.dcmpS X2.here hx rfl (hb hby own_d3_10) rfl (own_dz _ _) ?_
    exact k
  by_cases c4 : y2.toInt64 < (0 : Int64)
  · skip
    obtain ⟨fs, hr, hrun, hended, hW, hsame⟩ := X2.leave (v := (some (.int (0 : Int32)))) (fun h => by rw [Bd.returns] at h; cases h)
    refine ⟨_, _, pre3 _ ?_, hrun, hended, _, _, rfl, ?_, ⟨_, rfl⟩, hW, hsame.mono (by decide) (by decide)⟩
    · show oS p e below T2 m 11 #[oa a0] [(.int (lcmpW y2.toInt64 (0 : Int64)))] _
      refine XS.ifYes X2.here hx rfl (pc0 := 11) (pc' := 18) rfl (hb hby own_d3_11) rfl ((if0 _ _).trans (tlt ((lw_lt y2.toInt64 (0 : Int64)).mpr c4)).1) (by decide) (by decide) ?_
      show oS p e below T2 m 18 #[oa a0] [] _
      refine XS.iconst X2.here hx rfl (hb hby own_d3_18) ?_
      show oS p e below T2 m 19 #[oa a0] [(.int (0 : Int32))] _
      exact retN X2 hx (t := .boolean) Bd.returns (by simp) (hb hby own_d3_19) hr
    · show own_Q3_2 Z a0 b y0 y1 y2 k_b h0 n0 _ T2.heap _
      rw [e2]
      exact ⟨congrArg (fun z => some (Value.int z)) (by rw [own_f3_2, if_pos c4]), N0, rfl⟩
  · skip
    obtain ⟨fs, hr, hrun, hended, hW, hsame⟩ := X2.leave (v := (some (.int (1 : Int32)))) (fun h => by rw [Bd.returns] at h; cases h)
    refine ⟨_, _, pre3 _ ?_, hrun, hended, _, _, rfl, ?_, ⟨_, rfl⟩, hW, hsame.mono (by decide) (by decide)⟩
    · show oS p e below T2 m 11 #[oa a0] [(.int (lcmpW y2.toInt64 (0 : Int64)))] _
      refine XS.ifNo X2.here hx rfl (hb hby own_d3_11) rfl ((if0 _ _).trans (flt (fun q => c4 ((lw_lt y2.toInt64 (0 : Int64)).mp q))).1) ?_
      show oS p e below T2 m 14 #[oa a0] [] _
      refine XS.iconst X2.here hx rfl (hb hby own_d3_14) ?_
      show oS p e below T2 m 15 #[oa a0] [(.int (1 : Int32))] _
      refine XS.goto X2.here hx rfl (pc0 := 15) (pc' := 19) rfl (hb hby own_d3_15) (by decide) (by decide) ?_
      show oS p e below T2 m 19 #[oa a0] [(.int (1 : Int32))] _
      exact retN X2 hx (t := .boolean) Bd.returns (by simp) (hb hby own_d3_19) hr
    · show own_Q3_2 Z a0 b y0 y1 y2 k_b h0 n0 _ T2.heap _
      rw [e2]
      exact ⟨congrArg (fun z => some (Value.int z)) (by rw [own_f3_2, if_neg c4]), N0, rfl⟩
def own_e (a b c : Int32) : Int32 := (if a < (0 : Int32) then (0 : Int32) else (if b < (0 : Int32) then (0 : Int32) else (if c < (0 : Int32) then (0 : Int32) else (1 : Int32))))
theorem own_fin (a b c y : Int32) (h : y.toInt ≤ a.toInt ∧ y.toInt ≤ b.toInt ∧ y.toInt ≤ c.toInt) (h' : y = a ∨ y = b ∨ y = c) : (if y.toInt64 < (0 : Int64) then (0 : Int32) else (1 : Int32)) = own_e a b c := by
  have e := c_i2l y
  unfold own_e
  simp only [own_ltpL, own_ltp, Int32.reduceToInt, Int64.reduceToInt, e]
  rcases h' with rfl | rfl | rfl
  all_goals
    repeat' split
    all_goals first | rfl | (exfalso; omega)
theorem own_pd0 : parseMethodDescriptor "(D[D[D[D[D)V" = some ⟨[.double, (.array .double), (.array .double), (.array .double), (.array .double)], none⟩ := by decide +kernel
theorem own_pd1 : parseMethodDescriptor "()Z" = some ⟨[], some .boolean⟩ := by decide +kernel
theorem own_pn1 : plainName "com/example/penstock/penstock/EvaluationIsFeasiblePinLaw" = true := by first | (simp [plainName, overriddenIn]; done) | decide +kernel
theorem own_ef0 (m : MethodId) (p0 : Int32) (p1 : Int32) (p2 : Int32) : entryFrame m #[(.int p0), (.int p1), (.int p2)] maxLocals = mkF m 0 #[oi p0, oi p1, oi p2, .unset, .unset, .unset] [] := by first | (simp [entryFrame, mkF, argsToLocals, Value.category, maxLocals]; done) | rfl
def own_Q0 (Z : State) (p0 : Int32) (p1 : Int32) (p2 : Int32) (h0 : Heap) (n0 : Nat) (v : Option Value) (h : Heap) (L : List Loc) : Prop := v = some (Value.int (1 : Int32)) ∧ Fr n0 L
set_option maxRecDepth 65536 in
set_option maxHeartbeats 40000000 in
theorem own_rm0 (l : Launch) (Z : State) (av : Array Value) (hw : ∀ d ∈ tables_1, d.before av Z = true) (ws : List Jvm.Cond) (p0 : Int32) (p1 : Int32) (p2 : Int32) (h0 : Heap) (n0 : Nat) (Z0 : n0 ≤ h0.size) :
    MetFree l x (head1 (Jvm.Cond.code x code maxLocals ret :: ws) room_1) (fun a U => a = #[(.int p0), (.int p1), (.int p2)] ∧ Z.Warmed39 U.vm ∧ U.heap = h0) (fun _ _ _ _ _ => True) (fun _ U o U' => ∃ v L, o = .returned v ∧ own_Q0 Z p0 p1 p2 h0 n0 v U'.heap L ∧ FrameEnd U o U' L room_1.cells room_1.slots) := by
  refine MetFree.of_bodySF (plainFor_of_name own_pn1) hisR ?_
  intro p e s m args below meth c s₁ Bd hml0 hP hK
  obtain ⟨rfl, hZ, hh⟩ := hP
  have hx := Bd.exec
  have hby := Bd.bytes
  have hml : c.maxLocals = 6 := hml0
  have hown : s.vm.findClass "com/example/penstock/penstock/EvaluationIsFeasiblePinLaw" = some m.cls := findClass_of_methodNamed Bd.named
  have hnm := (name_of_methodNamed Bd.named Bd.method).1
  have X0 : Stand p l e room_1 s m #[(.int p0), (.int p1), (.int p2)] below meth c s₁ [] 0 0 := Stand.of_body Bd
  have e0 : s₁.heap = h0 := by rw [← hh, Bd.state]; rfl
  have N0 := Fr.nil n0
  have pre0 : ∀ t, Steps p.tables e below (s₁.setTop (mkF m 0 #[oi p0, oi p1, oi p2, .unset, .unset, .unset] [])) t → Steps p.tables e below (s₁.setTop (entryFrame m #[(.int p0), (.int p1), (.int p2)] maxLocals)) t := fun t k => castTop (own_ef0 m p0 p1 p2) k
  obtain ⟨T1, h1, k1, X1, e1, E1, A1, B1, st1⟩ := newPE X0 hx hZ (hw _ (List.mem_of_getElem? (i := 0) rfl)) e0 (g := (mkF m 1 #[oi p0, oi p1, oi p2, .unset, .unset, .unset] [(.int (3 : Int32))])) rfl (hb hby at_1) rfl (by decide) (cap := 3) (by decide) (by decide) (by decide) (by decide) (ad := "[D") rfl
  obtain ⟨b1, g1⟩ : ∃ z, z = h0.size := ⟨_, rfl⟩
  rw [← g1] at A1 st1 B1
  have g_b1 : n0 ≤ b1 := Nat.le_trans Z0 (Nat.le_of_eq g1.symm)
  have Z1 : n0 ≤ h1.size := Nat.le_trans Z0 E1.1
  have V_2 : Arv Z h1 b1 k1 .double (3 : Int32) [(.double 0), (.double 0), (.double 0)] (.double 0) := (Arv.new A1 (by decide)).pad (pad_rep [] (.double 0) 3)
  obtain ⟨T3, h3, X3, e3, W3, V3, st3⟩ := oStD X1 hx hZ e1 V_2 (j := (0 : Int32)) ⟨by decide, by decide⟩ 0 rfl (Nat.le_of_ble_eq_true rfl) (g := (mkF m 7 #[oi p0, oi p1, oi p2, .unset, .unset, .unset] [(.double (FP.i2d p0)), (.int (0 : Int32)), (.ref b1), (.ref b1)])) rfl rfl (hb hby at_7)
  have N3 := Fr.snoc X3 N0 g_b1
  have Z3 := Nat.le_trans Z1 (Keep.of_wr W3).1
  have F4 := B1.wr W3
  have V_5 : Arv Z h3 b1 k1 .double (3 : Int32) [(.double (FP.i2d p0)), (.double 0), (.double 0)] (.double 0) := V3
  obtain ⟨T6, h6, X6, e6, W6, V6, st6⟩ := oStD X3 hx hZ e3 V_5 (j := (1 : Int32)) ⟨by decide, by decide⟩ 1 rfl (Nat.le_of_ble_eq_true rfl) (g := (mkF m 12 #[oi p0, oi p1, oi p2, .unset, .unset, .unset] [(.double (FP.i2d p1)), (.int (1 : Int32)), (.ref b1), (.ref b1)])) rfl rfl (hb hby at_12)
  have N6 := Fr.snoc X6 N3 g_b1
  have Z6 := Nat.le_trans Z3 (Keep.of_wr W6).1
  have F7 := F4.wr W6
  have V_8 : Arv Z h6 b1 k1 .double (3 : Int32) [(.double (FP.i2d p0)), (.double (FP.i2d p1)), (.double 0)] (.double 0) := V6
  obtain ⟨T9, h9, X9, e9, W9, V9, st9⟩ := oStD X6 hx hZ e6 V_8 (j := (2 : Int32)) ⟨by decide, by decide⟩ 2 rfl (Nat.le_of_ble_eq_true rfl) (g := (mkF m 17 #[oi p0, oi p1, oi p2, .unset, .unset, .unset] [(.double (FP.i2d p2)), (.int (2 : Int32)), (.ref b1), (.ref b1)])) rfl rfl (hb hby at_17)
  have N9 := Fr.snoc X9 N6 g_b1
  have Z9 := Nat.le_trans Z6 (Keep.of_wr W9).1
  have F10 := F7.wr W9
  have V_11 : Arv Z h9 b1 k1 .double (3 : Int32) [(.double (FP.i2d p0)), (.double (FP.i2d p1)), (.double (FP.i2d p2))] (.double 0) := V9
  obtain ⟨T12, h12, X12, e12, E12, A12, D12, -, st12⟩ := newO X9 hx hZ hown (hw _ (List.mem_of_getElem? (i := 1) rfl)) (hw _ (List.mem_of_getElem? (i := 2) rfl)) (hw _ (List.mem_of_getElem? (i := 3) rfl)) e9 (g := (mkF m 19 #[oi p0, oi p1, oi p2, oa b1, .unset, .unset] [])) rfl (hb hby at_19) (by decide) (by decide)
  obtain ⟨b12, g12⟩ : ∃ z, z = h9.size := ⟨_, rfl⟩
  rw [← g12] at A12 D12 st12
  have g_b12 : n0 ≤ b12 := Nat.le_trans Z9 (Nat.le_of_eq g12.symm)
  have ne13 : b1 ≠ b12 := Nat.ne_of_lt (Nat.lt_of_lt_of_le V_11.lt (Nat.le_of_eq g12.symm))
  have Z12 : n0 ≤ h12.size := Nat.le_trans Z9 E12.1
  have F14 := V_11.ext E12
  have F15 := F10.ext E12
  have F_16 : Fld Z h12 b12 "com/example/penstock/penstock/Evaluation" "cost" "D" (.double 0) := D12 (Or.inr (hw _ (List.mem_of_getElem? (i := 11) rfl))) (ty := .double) (by decide)
  have F_17 : Fld Z h12 b12 "com/example/penstock/penstock/Evaluation" "heads" "[D" .null := D12 (Or.inr (hw _ (List.mem_of_getElem? (i := 22) rfl))) (ty := (.array .double)) (by decide)
  have F_18 : Fld Z h12 b12 "com/example/penstock/penstock/Evaluation" "margins" "[D" .null := D12 (Or.inr (hw _ (List.mem_of_getElem? (i := 24) rfl))) (ty := (.array .double)) (by decide)
  have F_19 : Fld Z h12 b12 "com/example/penstock/penstock/Evaluation" "pipeFlows" "[D" .null := D12 (Or.inr (hw _ (List.mem_of_getElem? (i := 26) rfl))) (ty := (.array .double)) (by decide)
  have F_20 : Fld Z h12 b12 "com/example/penstock/penstock/Evaluation" "flows" "[D" .null := D12 (Or.inr (hw _ (List.mem_of_getElem? (i := 28) rfl))) (ty := (.array .double)) (by decide)
  have F_21 : Fld Z h12 b12 "com/example/penstock/penstock/Evaluation" "worst" "I" (.int (0 : Int32)) := D12 (Or.inr (hw _ (List.mem_of_getElem? (i := 30) rfl))) (ty := .int) (by decide)
  obtain ⟨T22, h22, k22, X22, e22, E22, A22, B22, st22⟩ := newPE X12 hx hZ (hw _ (List.mem_of_getElem? (i := 0) rfl)) e12 (g := (mkF m 25 #[oi p0, oi p1, oi p2, oa b1, .unset, .unset] [(.int (3 : Int32)), (.double FP.dconst0), (.ref b12), (.ref b12)])) rfl (hb hby at_25) rfl (by decide) (cap := 3) (by decide) (by decide) (by decide) (by decide) (ad := "[D") rfl
  obtain ⟨b22, g22⟩ : ∃ z, z = h12.size := ⟨_, rfl⟩
  rw [← g22] at A22 st22 B22
  have g_b22 : n0 ≤ b22 := Nat.le_trans Z12 (Nat.le_of_eq g22.symm)
  have ne23 : b1 ≠ b22 := Nat.ne_of_lt (Nat.lt_of_lt_of_le F14.lt (Nat.le_of_eq g22.symm))
  have ne24 : b12 ≠ b22 := Nat.ne_of_lt (Nat.lt_of_lt_of_le A12.lt (Nat.le_of_eq g22.symm))
  have Z22 : n0 ≤ h22.size := Nat.le_trans Z12 E22.1
  have F25 := F14.ext E22
  have F26 := F15.ext E22
  have F27 := A12.ext E22
  have F28 := F_16.ext E22
  have F29 := F_17.ext E22
  have F30 := F_18.ext E22
  have F31 := F_19.ext E22
  have F32 := F_20.ext E22
  have F33 := F_21.ext E22
  have V_34 : Arv Z h22 b22 k22 .double (3 : Int32) [(.double 0), (.double 0), (.double 0)] (.double 0) := (Arv.new A22 (by decide)).pad (pad_rep [] (.double 0) 3)
  obtain ⟨T35, h35, k35, X35, e35, E35, A35, B35, st35⟩ := newPE X22 hx hZ (hw _ (List.mem_of_getElem? (i := 0) rfl)) e22 (g := (mkF m 29 #[oi p0, oi p1, oi p2, oa b1, .unset, .unset] [(.int (0 : Int32)), (.ref b1), (.ref b22), (.double FP.dconst0), (.ref b12), (.ref b12)])) rfl (hb hby at_29) rfl (by decide) (cap := 0) (by decide) (by decide) (by decide) (by decide) (ad := "[D") rfl
  obtain ⟨b35, g35⟩ : ∃ z, z = h22.size := ⟨_, rfl⟩
  rw [← g35] at A35 st35 B35
  have g_b35 : n0 ≤ b35 := Nat.le_trans Z22 (Nat.le_of_eq g35.symm)
  have ne36 : b1 ≠ b35 := Nat.ne_of_lt (Nat.lt_of_lt_of_le F25.lt (Nat.le_of_eq g35.symm))
  have ne37 : b12 ≠ b35 := Nat.ne_of_lt (Nat.lt_of_lt_of_le F27.lt (Nat.le_of_eq g35.symm))
  have ne38 : b22 ≠ b35 := Nat.ne_of_lt (Nat.lt_of_lt_of_le V_34.lt (Nat.le_of_eq g35.symm))
  have Z35 : n0 ≤ h35.size := Nat.le_trans Z22 E35.1
  have F39 := F25.ext E35
  have F40 := F26.ext E35
  have F41 := F27.ext E35
  have F42 := F28.ext E35
  have F43 := F29.ext E35
  have F44 := F30.ext E35
  have F45 := F31.ext E35
  have F46 := F32.ext E35
  have F47 := F33.ext E35
  have F48 := V_34.ext E35
  have F49 := B22.ext E35
  have V_50 : Arv Z h35 b35 k35 .double (0 : Int32) [] (.double 0) := (Arv.new A35 (by decide))
  obtain ⟨T51, h51, k51, X51, e51, E51, A51, B51, st51⟩ := newPE X35 hx hZ (hw _ (List.mem_of_getElem? (i := 0) rfl)) e35 (g := (mkF m 32 #[oi p0, oi p1, oi p2, oa b1, .unset, .unset] [(.int (0 : Int32)), (.ref b35), (.ref b1), (.ref b22), (.double FP.dconst0), (.ref b12), (.ref b12)])) rfl (hb hby at_32) rfl (by decide) (cap := 0) (by decide) (by decide) (by decide) (by decide) (ad := "[D") rfl
  obtain ⟨b51, g51⟩ : ∃ z, z = h35.size := ⟨_, rfl⟩
  rw [← g51] at A51 st51 B51
  have g_b51 : n0 ≤ b51 := Nat.le_trans Z35 (Nat.le_of_eq g51.symm)
  have ne52 : b1 ≠ b51 := Nat.ne_of_lt (Nat.lt_of_lt_of_le F39.lt (Nat.le_of_eq g51.symm))
  have ne53 : b12 ≠ b51 := Nat.ne_of_lt (Nat.lt_of_lt_of_le F41.lt (Nat.le_of_eq g51.symm))
  have ne54 : b22 ≠ b51 := Nat.ne_of_lt (Nat.lt_of_lt_of_le F48.lt (Nat.le_of_eq g51.symm))
  have ne55 : b35 ≠ b51 := Nat.ne_of_lt (Nat.lt_of_lt_of_le V_50.lt (Nat.le_of_eq g51.symm))
  have Z51 : n0 ≤ h51.size := Nat.le_trans Z35 E51.1
  have F56 := F39.ext E51
  have F57 := F40.ext E51
  have F58 := F41.ext E51
  have F59 := F42.ext E51
  have F60 := F43.ext E51
  have F61 := F44.ext E51
  have F62 := F45.ext E51
  have F63 := F46.ext E51
  have F64 := F47.ext E51
  have F65 := F48.ext E51
  have F66 := F49.ext E51
  have F67 := V_50.ext E51
  have F68 := B35.ext E51
  have V_69 : Arv Z h51 b51 k51 .double (0 : Int32) [] (.double 0) := (Arv.new A51 (by decide))
  obtain ⟨_, _, ⟨T70, L70, k70, n70⟩, -, X70, ⟨Lc70, hQ70, l70, y70, z70⟩, st70⟩ := X51.specialBack hx (y := (⟨"com/example/penstock/penstock/Evaluation", "<init>", "(D[D[D[D[D)V"⟩ : MethodName)) rfl hown (mvT hZ (hw _ (List.mem_of_getElem? (i := 4) rfl))) (mvT hZ (hw _ (List.mem_of_getElem? (i := 5) rfl))) (mvT hZ (hw _ (List.mem_of_getElem? (i := 6) rfl))) (by decide) (backOf (W := 1) (own_rm1 l Z av hw [] b12 FP.dconst0 b22 b1 b35 b51 p0 p1 p2 k22 k1 k35 k51 h51 n0 Z51 F58 F59 F60 F61 F62 F63 F64 g_b12 F65 F56 F67 V_69 F66 F57 F68 B51 ((Ne.symm ne24)) (ne13) ((Ne.symm ne37)) ((Ne.symm ne53))) hZ (hw _ (List.mem_of_getElem? (i := 6) rfl)) (hw _ (List.mem_of_getElem? (i := 3) rfl)) (by decide) (by decide)) (g := (mkF m 34 #[oi p0, oi p1, oi p2, oa b1, .unset, .unset] [(.ref b51), (.ref b35), (.ref b1), (.ref b22), (.double FP.dconst0), (.ref b12), (.ref b12)])) rfl (by rw [hml]; rfl) (Steps.refl _) (a := b12) (argsL := [(.double FP.dconst0), (.ref b22), (.ref b1), (.ref b35), (.ref b51)]) (rest := [(.ref b12)]) (lenOf own_pd0 rfl) rfl (by show 2 * 0 + _ ≤ _; exact Nat.le_of_eq rfl) (hb hby at_34) (fun _ _ => ⟨rfl, e51, (by decide : 5 + 4 ≤ _), (by decide : 12 + 6 ≤ _)⟩)
  dsimp only [Pt.U, Pt.locs, Pt.cells, Pt.slots] at X70 l70 y70 z70 st70 hQ70
  subst l70 y70 z70
  obtain ⟨b_70, k_b_70, w_70, rfl, Nq70, Kq70, gq70_b, Oq70_0, Oq70_1, Oq70_2, Oq70_3, Oq70_4⟩ := hQ70
  have N70 := Fr.app N9 Nq70
  have Z70 : n0 ≤ T70.heap.size := Nat.le_trans Z51 Kq70.1
  have g_b_70 : n0 ≤ b_70 := Nat.le_trans Z51 gq70_b
  have ne71 : b1 ≠ b_70 := Nat.ne_of_lt (Nat.lt_of_lt_of_le F56.lt gq70_b)
  have ne72 : b12 ≠ b_70 := Nat.ne_of_lt (Nat.lt_of_lt_of_le F58.lt gq70_b)
  have ne73 : b22 ≠ b_70 := Nat.ne_of_lt (Nat.lt_of_lt_of_le F65.lt gq70_b)
  have ne74 : b35 ≠ b_70 := Nat.ne_of_lt (Nat.lt_of_lt_of_le F67.lt gq70_b)
  have ne75 : b51 ≠ b_70 := Nat.ne_of_lt (Nat.lt_of_lt_of_le V_69.lt gq70_b)
  have F76 := F56.keep Kq70 (ninS ne13 nin0)
  have F77 := F57.keep Kq70
  have F78 := F58.keep Kq70
  have F79 := F65.keep Kq70 (ninS (Ne.symm ne24) nin0)
  have F80 := F66.keep Kq70
  have F81 := F67.keep Kq70 (ninS (Ne.symm ne37) nin0)
  have F82 := F68.keep Kq70
  have F83 := V_69.keep Kq70 (ninS (Ne.symm ne53) nin0)
  have F84 := B51.keep Kq70
  have hW := Oq70_4
  have pre85 : ∀ t, Steps p.tables e below (T70.setTop (mkF m 37 #[oi p0, oi p1, oi p2, oa b1, .unset, .unset] [(.ref b12)])) t → Steps p.tables e below (s₁.setTop (entryFrame m #[(.int p0), (.int p1), (.int p2)] maxLocals)) t := by
    intro t k
    refine pre0 t ?_
    show oS p e below s₁ m 0 #[oi p0, oi p1, oi p2, .unset, .unset, .unset] [] _
    refine XS.iconst X0.here hx rfl (hb hby at_0) ?_
    show oS p e below s₁ m 1 #[oi p0, oi p1, oi p2, .unset, .unset, .unset] [(.int (3 : Int32))] _
    refine st1 _ ?_
    show oS p e below T1 m 3 #[oi p0, oi p1, oi p2, .unset, .unset, .unset] [(.ref b1)] _
    refine XS.dup X1.here hx rfl (hb hby at_3) rfl rfl ?_
    show oS p e below T1 m 4 #[oi p0, oi p1, oi p2, .unset, .unset, .unset] [(.ref b1), (.ref b1)] _
    refine XS.iconst X1.here hx rfl (hb hby at_4) ?_
    show oS p e below T1 m 5 #[oi p0, oi p1, oi p2, .unset, .unset, .unset] [(.int (0 : Int32)), (.ref b1), (.ref b1)] _
    refine XS.iloadN X1.here hx rfl (hb hby at_5) rfl ?_
    show oS p e below T1 m 6 #[oi p0, oi p1, oi p2, .unset, .unset, .unset] [(.int p0), (.int (0 : Int32)), (.ref b1), (.ref b1)] _
    refine XS.i2dS X1.here hx rfl (hb hby at_6) rfl rfl ?_
    show oS p e below T1 m 7 #[oi p0, oi p1, oi p2, .unset, .unset, .unset] [(.double (FP.i2d p0)), (.int (0 : Int32)), (.ref b1), (.ref b1)] _
    refine st3 _ ?_
    show oS p e below T3 m 8 #[oi p0, oi p1, oi p2, .unset, .unset, .unset] [(.ref b1)] _
    refine XS.dup X3.here hx rfl (hb hby at_8) rfl rfl ?_
    show oS p e below T3 m 9 #[oi p0, oi p1, oi p2, .unset, .unset, .unset] [(.ref b1), (.ref b1)] _
    refine XS.iconst X3.here hx rfl (hb hby at_9) ?_
    show oS p e below T3 m 10 #[oi p0, oi p1, oi p2, .unset, .unset, .unset] [(.int (1 : Int32)), (.ref b1), (.ref b1)] _
    refine XS.iloadN X3.here hx rfl (hb hby at_10) rfl ?_
    show oS p e below T3 m 11 #[oi p0, oi p1, oi p2, .unset, .unset, .unset] [(.int p1), (.int (1 : Int32)), (.ref b1), (.ref b1)] _
    refine XS.i2dS X3.here hx rfl (hb hby at_11) rfl rfl ?_
    show oS p e below T3 m 12 #[oi p0, oi p1, oi p2, .unset, .unset, .unset] [(.double (FP.i2d p1)), (.int (1 : Int32)), (.ref b1), (.ref b1)] _
    refine st6 _ ?_
    show oS p e below T6 m 13 #[oi p0, oi p1, oi p2, .unset, .unset, .unset] [(.ref b1)] _
    refine XS.dup X6.here hx rfl (hb hby at_13) rfl rfl ?_
    show oS p e below T6 m 14 #[oi p0, oi p1, oi p2, .unset, .unset, .unset] [(.ref b1), (.ref b1)] _
    refine XS.iconst X6.here hx rfl (hb hby at_14) ?_
    show oS p e below T6 m 15 #[oi p0, oi p1, oi p2, .unset, .unset, .unset] [(.int (2 : Int32)), (.ref b1), (.ref b1)] _
    refine XS.iloadN X6.here hx rfl (hb hby at_15) rfl ?_
    show oS p e below T6 m 16 #[oi p0, oi p1, oi p2, .unset, .unset, .unset] [(.int p2), (.int (2 : Int32)), (.ref b1), (.ref b1)] _
    refine XS.i2dS X6.here hx rfl (hb hby at_16) rfl rfl ?_
    show oS p e below T6 m 17 #[oi p0, oi p1, oi p2, .unset, .unset, .unset] [(.double (FP.i2d p2)), (.int (2 : Int32)), (.ref b1), (.ref b1)] _
    refine st9 _ ?_
    show oS p e below T9 m 18 #[oi p0, oi p1, oi p2, .unset, .unset, .unset] [(.ref b1)] _
    refine XS.astoreN X9.here hx rfl (hb hby at_18) rfl rfl (l' := #[oi p0, oi p1, oi p2, oa b1, .unset, .unset]) rfl ?_
    show oS p e below T9 m 19 #[oi p0, oi p1, oi p2, oa b1, .unset, .unset] [] _
    refine st12 _ ?_
    show oS p e below T12 m 22 #[oi p0, oi p1, oi p2, oa b1, .unset, .unset] [(.ref b12)] _
    refine XS.dup X12.here hx rfl (hb hby at_22) rfl rfl ?_
    show oS p e below T12 m 23 #[oi p0, oi p1, oi p2, oa b1, .unset, .unset] [(.ref b12), (.ref b12)] _
    refine XS.dconst0 X12.here hx rfl (hb hby at_23) rfl ?_
    show oS p e below T12 m 24 #[oi p0, oi p1, oi p2, oa b1, .unset, .unset] [(.double FP.dconst0), (.ref b12), (.ref b12)] _
    refine XS.iconst X12.here hx rfl (hb hby at_24) ?_
    show oS p e below T12 m 25 #[oi p0, oi p1, oi p2, oa b1, .unset, .unset] [(.int (3 : Int32)), (.double FP.dconst0), (.ref b12), (.ref b12)] _
    refine st22 _ ?_
    show oS p e below T22 m 27 #[oi p0, oi p1, oi p2, oa b1, .unset, .unset] [(.ref b22), (.double FP.dconst0), (.ref b12), (.ref b12)] _
    refine XS.aloadN X22.here hx rfl (hb hby at_27) rfl rfl ?_
    show oS p e below T22 m 28 #[oi p0, oi p1, oi p2, oa b1, .unset, .unset] [(.ref b1), (.ref b22), (.double FP.dconst0), (.ref b12), (.ref b12)] _
    refine XS.iconst X22.here hx rfl (hb hby at_28) ?_
    show oS p e below T22 m 29 #[oi p0, oi p1, oi p2, oa b1, .unset, .unset] [(.int (0 : Int32)), (.ref b1), (.ref b22), (.double FP.dconst0), (.ref b12), (.ref b12)] _
    refine st35 _ ?_
    show oS p e below T35 m 31 #[oi p0, oi p1, oi p2, oa b1, .unset, .unset] [(.ref b35), (.ref b1), (.ref b22), (.double FP.dconst0), (.ref b12), (.ref b12)] _
    refine XS.iconst X35.here hx rfl (hb hby at_31) ?_
    show oS p e below T35 m 32 #[oi p0, oi p1, oi p2, oa b1, .unset, .unset] [(.int (0 : Int32)), (.ref b35), (.ref b1), (.ref b22), (.double FP.dconst0), (.ref b12), (.ref b12)] _
    refine st51 _ ?_
    show oS p e below T51 m 34 #[oi p0, oi p1, oi p2, oa b1, .unset, .unset] [(.ref b51), (.ref b35), (.ref b1), (.ref b22), (.double FP.dconst0), (.ref b12), (.ref b12)] _
    refine st70.trans ?_
    exact k
  rcases hW with ⟨hw0, hy1, hy2⟩ | ⟨hw0, hy1, hy2⟩ | ⟨hw0, hy1, hy2⟩
  · skip
    have F_86 : Fld Z T70.heap b12 "com/example/penstock/penstock/Evaluation" "worst" "I" (.int (0 : Int32)) := by rw [← hw0]; exact Oq70_2
    have pre87 : ∀ t, Steps p.tables e below (T70.setTop (mkF m 40 #[oi p0, oi p1, oi p2, oa b1, oa b12, .unset] [(.int p0)])) t → Steps p.tables e below (s₁.setTop (entryFrame m #[(.int p0), (.int p1), (.int p2)] maxLocals)) t := by
      intro t k
      refine pre85 t ?_
      show oS p e below T70 m 37 #[oi p0, oi p1, oi p2, oa b1, .unset, .unset] [(.ref b12)] _
      refine XS.astore X70.here hx rfl (hb hby at_37) rfl rfl (l' := #[oi p0, oi p1, oi p2, oa b1, oa b12, .unset]) rfl ?_
      show oS p e below T70 m 39 #[oi p0, oi p1, oi p2, oa b1, oa b12, .unset] [] _
      refine XS.iloadN X70.here hx rfl (hb hby at_39) rfl ?_
      exact k
    obtain ⟨v91, hv91⟩ : ∃ z : Int32, z = (if p0 < (0 : Int32) then (0 : Int32) else (if p1 < (0 : Int32) then (0 : Int32) else (if p2 < (0 : Int32) then (0 : Int32) else (1 : Int32)))) := ⟨_, rfl⟩
    have pre92 : ∀ t, Steps p.tables e below (T70.setTop (mkF m 56 #[oi p0, oi p1, oi p2, oa b1, oa b12, .unset] [(.int v91)])) t → Steps p.tables e below (s₁.setTop (entryFrame m #[(.int p0), (.int p1), (.int p2)] maxLocals)) t := by
      intro t k
      by_cases c88 : p0 < (0 : Int32)
      · skip
        rw [show v91 = (0 : Int32) from hv91.trans (by rw [if_pos c88])] at k
        refine pre87 t ?_
        show oS p e below T70 m 40 #[oi p0, oi p1, oi p2, oa b1, oa b12, .unset] [(.int p0)] _
        refine XS.ifYes X70.here hx rfl (pc0 := 40) (pc' := 55) rfl (hb hby at_40) rfl ((if0 _ _).trans (tlt c88).1) (by decide) (by decide) ?_
        show oS p e below T70 m 55 #[oi p0, oi p1, oi p2, oa b1, oa b12, .unset] [] _
        refine XS.iconst X70.here hx rfl (hb hby at_55) ?_
        exact k
      · skip
        by_cases c89 : p1 < (0 : Int32)
        · skip
          rw [show v91 = (0 : Int32) from hv91.trans (by rw [if_neg c88, if_pos c89])] at k
          refine pre87 t ?_
          show oS p e below T70 m 40 #[oi p0, oi p1, oi p2, oa b1, oa b12, .unset] [(.int p0)] _
          refine XS.ifNo X70.here hx rfl (hb hby at_40) rfl ((if0 _ _).trans (flt c88).1) ?_
          show oS p e below T70 m 43 #[oi p0, oi p1, oi p2, oa b1, oa b12, .unset] [] _
          refine XS.iloadN X70.here hx rfl (hb hby at_43) rfl ?_
          show oS p e below T70 m 44 #[oi p0, oi p1, oi p2, oa b1, oa b12, .unset] [(.int p1)] _
          refine XS.ifYes X70.here hx rfl (pc0 := 44) (pc' := 55) rfl (hb hby at_44) rfl ((if0 _ _).trans (tlt c89).1) (by decide) (by decide) ?_
          show oS p e below T70 m 55 #[oi p0, oi p1, oi p2, oa b1, oa b12, .unset] [] _
          refine XS.iconst X70.here hx rfl (hb hby at_55) ?_
          exact k
        · skip
          by_cases c90 : p2 < (0 : Int32)
          · skip
            rw [show v91 = (0 : Int32) from hv91.trans (by rw [if_neg c88, if_neg c89, if_pos c90])] at k
            refine pre87 t ?_
            show oS p e below T70 m 40 #[oi p0, oi p1, oi p2, oa b1, oa b12, .unset] [(.int p0)] _
            refine XS.ifNo X70.here hx rfl (hb hby at_40) rfl ((if0 _ _).trans (flt c88).1) ?_
            show oS p e below T70 m 43 #[oi p0, oi p1, oi p2, oa b1, oa b12, .unset] [] _
            refine XS.iloadN X70.here hx rfl (hb hby at_43) rfl ?_
            show oS p e below T70 m 44 #[oi p0, oi p1, oi p2, oa b1, oa b12, .unset] [(.int p1)] _
            refine XS.ifNo X70.here hx rfl (hb hby at_44) rfl ((if0 _ _).trans (flt c89).1) ?_
            show oS p e below T70 m 47 #[oi p0, oi p1, oi p2, oa b1, oa b12, .unset] [] _
            refine XS.iloadN X70.here hx rfl (hb hby at_47) rfl ?_
            show oS p e below T70 m 48 #[oi p0, oi p1, oi p2, oa b1, oa b12, .unset] [(.int p2)] _
            refine XS.ifYes X70.here hx rfl (pc0 := 48) (pc' := 55) rfl (hb hby at_48) rfl ((if0 _ _).trans (tlt c90).1) (by decide) (by decide) ?_
            show oS p e below T70 m 55 #[oi p0, oi p1, oi p2, oa b1, oa b12, .unset] [] _
            refine XS.iconst X70.here hx rfl (hb hby at_55) ?_
            exact k
          · skip
            rw [show v91 = (1 : Int32) from hv91.trans (by rw [if_neg c88, if_neg c89, if_neg c90])] at k
            refine pre87 t ?_
            show oS p e below T70 m 40 #[oi p0, oi p1, oi p2, oa b1, oa b12, .unset] [(.int p0)] _
            refine XS.ifNo X70.here hx rfl (hb hby at_40) rfl ((if0 _ _).trans (flt c88).1) ?_
            show oS p e below T70 m 43 #[oi p0, oi p1, oi p2, oa b1, oa b12, .unset] [] _
            refine XS.iloadN X70.here hx rfl (hb hby at_43) rfl ?_
            show oS p e below T70 m 44 #[oi p0, oi p1, oi p2, oa b1, oa b12, .unset] [(.int p1)] _
            refine XS.ifNo X70.here hx rfl (hb hby at_44) rfl ((if0 _ _).trans (flt c89).1) ?_
            show oS p e below T70 m 47 #[oi p0, oi p1, oi p2, oa b1, oa b12, .unset] [] _
            refine XS.iloadN X70.here hx rfl (hb hby at_47) rfl ?_
            show oS p e below T70 m 48 #[oi p0, oi p1, oi p2, oa b1, oa b12, .unset] [(.int p2)] _
            refine XS.ifNo X70.here hx rfl (hb hby at_48) rfl ((if0 _ _).trans (flt c90).1) ?_
            show oS p e below T70 m 51 #[oi p0, oi p1, oi p2, oa b1, oa b12, .unset] [] _
            refine XS.iconst X70.here hx rfl (hb hby at_51) ?_
            show oS p e below T70 m 52 #[oi p0, oi p1, oi p2, oa b1, oa b12, .unset] [(.int (1 : Int32))] _
            refine XS.goto X70.here hx rfl (pc0 := 52) (pc' := 56) rfl (hb hby at_52) (by decide) (by decide) ?_
            exact k
    obtain ⟨cq93, kq93, q93a, q93b, q93c⟩ := isOf hZ rfl Oq70_0
    obtain ⟨_, _, ⟨T93, L93, k93, n93⟩, -, X93, ⟨Lc93, hQ93, l93, y93, z93⟩, st93⟩ := X70.virtualBack hx (y := (⟨"com/example/penstock/penstock/Evaluation", "isFeasible", "()Z"⟩ : MethodName)) (z := (⟨"com/example/penstock/penstock/Evaluation", "isFeasible", "()Z"⟩ : MethodName)) hown (mvT hZ (hw _ (List.mem_of_getElem? (i := 31) rfl))) (mvT hZ (hw _ (List.mem_of_getElem? (i := 32) rfl))) (notFace_of_selects (args := #[]) (mvT hZ (hw _ (List.mem_of_getElem? (i := 34) rfl)))) (mvT hZ (hw _ (List.mem_of_getElem? (i := 34) rfl))) (mvT hZ (hw _ (List.mem_of_getElem? (i := 33) rfl))) (by decide) (backOf (W := 0) (own_rm3_0 l Z av hw [] b12 b_70 p0 p1 p2 k_b_70 T70.heap n0 Z70 Oq70_1 F_86 Oq70_3) hZ (hw _ (List.mem_of_getElem? (i := 35) rfl)) (hw _ (List.mem_of_getElem? (i := 3) rfl)) (by decide) (by decide)) q93a q93c (g := (mkF m 60 #[oi p0, oi p1, oi p2, oa b1, oa b12, oi v91] [(.ref b12)])) rfl (by rw [hml]; rfl) (Steps.refl _) (argsL := []) (rest := []) (lenOf own_pd1 rfl) rfl (by show 2 * 0 + _ ≤ _; exact Nat.le_of_eq rfl) (hb hby at_60) (fun _ _ => ⟨rfl, rfl, (by decide : 9 + 0 ≤ _), (by decide : 18 + 0 ≤ _)⟩)
    dsimp only [Pt.U, Pt.locs, Pt.cells, Pt.slots] at X93 l93 y93 z93 st93 hQ93
    subst l93 y93 z93
    obtain ⟨rfl, Nq93, eq93⟩ := hQ93
    have N93 := Fr.app N70 Nq93
    have b94 : (own_f3_0 p0) = v91 := by rw [hv91]; exact own_fin p0 p1 p2 p0 ⟨Int.le_refl _, hy1, hy2⟩ (Or.inl rfl)
    obtain ⟨fs, hr, hrun, hended, hW, hsame⟩ := X93.leave (v := (some (.int (1 : Int32)))) (fun h => by rw [Bd.returns] at h; cases h)
    refine ⟨_, _, pre92 _ ?_, hrun, hended, _, _, rfl, ?_, ⟨_, rfl⟩, hW, hsame.mono (by decide) (by decide)⟩
    · show oS p e below T70 m 56 #[oi p0, oi p1, oi p2, oa b1, oa b12, .unset] [(.int v91)] _
      refine XS.istore X70.here hx rfl (hb hby at_56) rfl (l' := #[oi p0, oi p1, oi p2, oa b1, oa b12, oi v91]) rfl ?_
      show oS p e below T70 m 58 #[oi p0, oi p1, oi p2, oa b1, oa b12, oi v91] [] _
      refine XS.aload X70.here hx rfl (hb hby at_58) rfl rfl ?_
      show oS p e below T70 m 60 #[oi p0, oi p1, oi p2, oa b1, oa b12, oi v91] [(.ref b12)] _
      refine st93.trans ?_
      show oS p e below T93 m 63 #[oi p0, oi p1, oi p2, oa b1, oa b12, oi v91] [(.int (own_f3_0 p0))] _
      refine XS.iload X93.here hx rfl (hb hby at_63) rfl ?_
      show oS p e below T93 m 65 #[oi p0, oi p1, oi p2, oa b1, oa b12, oi v91] [(.int v91), (.int (own_f3_0 p0))] _
      refine XS.icmpNo X93.here hx rfl (hb hby at_65) rfl (teq b94).2 ?_
      show oS p e below T93 m 68 #[oi p0, oi p1, oi p2, oa b1, oa b12, oi v91] [] _
      refine XS.iconst X93.here hx rfl (hb hby at_68) ?_
      show oS p e below T93 m 69 #[oi p0, oi p1, oi p2, oa b1, oa b12, oi v91] [(.int (1 : Int32))] _
      refine XS.goto X93.here hx rfl (pc0 := 69) (pc' := 73) rfl (hb hby at_69) (by decide) (by decide) ?_
      show oS p e below T93 m 73 #[oi p0, oi p1, oi p2, oa b1, oa b12, oi v91] [(.int (1 : Int32))] _
      exact retN X93 hx (t := .boolean) Bd.returns (by simp) (hb hby at_73) hr
    · show own_Q0 Z p0 p1 p2 h0 n0 _ T93.heap _
      rw [eq93]
      exact ⟨rfl, N93⟩
  · skip
    have F_95 : Fld Z T70.heap b12 "com/example/penstock/penstock/Evaluation" "worst" "I" (.int (1 : Int32)) := by rw [← hw0]; exact Oq70_2
    have pre96 : ∀ t, Steps p.tables e below (T70.setTop (mkF m 40 #[oi p0, oi p1, oi p2, oa b1, oa b12, .unset] [(.int p0)])) t → Steps p.tables e below (s₁.setTop (entryFrame m #[(.int p0), (.int p1), (.int p2)] maxLocals)) t := by
      intro t k
      refine pre85 t ?_
      show oS p e below T70 m 37 #[oi p0, oi p1, oi p2, oa b1, .unset, .unset] [(.ref b12)] _
      refine XS.astore X70.here hx rfl (hb hby at_37) rfl rfl (l' := #[oi p0, oi p1, oi p2, oa b1, oa b12, .unset]) rfl ?_
      show oS p e below T70 m 39 #[oi p0, oi p1, oi p2, oa b1, oa b12, .unset] [] _
      refine XS.iloadN X70.here hx rfl (hb hby at_39) rfl ?_
      exact k
    obtain ⟨v100, hv100⟩ : ∃ z : Int32, z = (if p0 < (0 : Int32) then (0 : Int32) else (if p1 < (0 : Int32) then (0 : Int32) else (if p2 < (0 : Int32) then (0 : Int32) else (1 : Int32)))) := ⟨_, rfl⟩
    have pre101 : ∀ t, Steps p.tables e below (T70.setTop (mkF m 56 #[oi p0, oi p1, oi p2, oa b1, oa b12, .unset] [(.int v100)])) t → Steps p.tables e below (s₁.setTop (entryFrame m #[(.int p0), (.int p1), (.int p2)] maxLocals)) t := by
      intro t k
      by_cases c97 : p0 < (0 : Int32)
      · skip
        rw [show v100 = (0 : Int32) from hv100.trans (by rw [if_pos c97])] at k
        refine pre96 t ?_
        show oS p e below T70 m 40 #[oi p0, oi p1, oi p2, oa b1, oa b12, .unset] [(.int p0)] _
        refine XS.ifYes X70.here hx rfl (pc0 := 40) (pc' := 55) rfl (hb hby at_40) rfl ((if0 _ _).trans (tlt c97).1) (by decide) (by decide) ?_
        show oS p e below T70 m 55 #[oi p0, oi p1, oi p2, oa b1, oa b12, .unset] [] _
        refine XS.iconst X70.here hx rfl (hb hby at_55) ?_
        exact k
      · skip
        by_cases c98 : p1 < (0 : Int32)
        · skip
          rw [show v100 = (0 : Int32) from hv100.trans (by rw [if_neg c97, if_pos c98])] at k
          refine pre96 t ?_
          show oS p e below T70 m 40 #[oi p0, oi p1, oi p2, oa b1, oa b12, .unset] [(.int p0)] _
          refine XS.ifNo X70.here hx rfl (hb hby at_40) rfl ((if0 _ _).trans (flt c97).1) ?_
          show oS p e below T70 m 43 #[oi p0, oi p1, oi p2, oa b1, oa b12, .unset] [] _
          refine XS.iloadN X70.here hx rfl (hb hby at_43) rfl ?_
          show oS p e below T70 m 44 #[oi p0, oi p1, oi p2, oa b1, oa b12, .unset] [(.int p1)] _
          refine XS.ifYes X70.here hx rfl (pc0 := 44) (pc' := 55) rfl (hb hby at_44) rfl ((if0 _ _).trans (tlt c98).1) (by decide) (by decide) ?_
          show oS p e below T70 m 55 #[oi p0, oi p1, oi p2, oa b1, oa b12, .unset] [] _
          refine XS.iconst X70.here hx rfl (hb hby at_55) ?_
          exact k
        · skip
          by_cases c99 : p2 < (0 : Int32)
          · skip
            rw [show v100 = (0 : Int32) from hv100.trans (by rw [if_neg c97, if_neg c98, if_pos c99])] at k
            refine pre96 t ?_
            show oS p e below T70 m 40 #[oi p0, oi p1, oi p2, oa b1, oa b12, .unset] [(.int p0)] _
            refine XS.ifNo X70.here hx rfl (hb hby at_40) rfl ((if0 _ _).trans (flt c97).1) ?_
            show oS p e below T70 m 43 #[oi p0, oi p1, oi p2, oa b1, oa b12, .unset] [] _
            refine XS.iloadN X70.here hx rfl (hb hby at_43) rfl ?_
            show oS p e below T70 m 44 #[oi p0, oi p1, oi p2, oa b1, oa b12, .unset] [(.int p1)] _
            refine XS.ifNo X70.here hx rfl (hb hby at_44) rfl ((if0 _ _).trans (flt c98).1) ?_
            show oS p e below T70 m 47 #[oi p0, oi p1, oi p2, oa b1, oa b12, .unset] [] _
            refine XS.iloadN X70.here hx rfl (hb hby at_47) rfl ?_
            show oS p e below T70 m 48 #[oi p0, oi p1, oi p2, oa b1, oa b12, .unset] [(.int p2)] _
            refine XS.ifYes X70.here hx rfl (pc0 := 48) (pc' := 55) rfl (hb hby at_48) rfl ((if0 _ _).trans (tlt c99).1) (by decide) (by decide) ?_
            show oS p e below T70 m 55 #[oi p0, oi p1, oi p2, oa b1, oa b12, .unset] [] _
            refine XS.iconst X70.here hx rfl (hb hby at_55) ?_
            exact k
          · skip
            rw [show v100 = (1 : Int32) from hv100.trans (by rw [if_neg c97, if_neg c98, if_neg c99])] at k
            refine pre96 t ?_
            show oS p e below T70 m 40 #[oi p0, oi p1, oi p2, oa b1, oa b12, .unset] [(.int p0)] _
            refine XS.ifNo X70.here hx rfl (hb hby at_40) rfl ((if0 _ _).trans (flt c97).1) ?_
            show oS p e below T70 m 43 #[oi p0, oi p1, oi p2, oa b1, oa b12, .unset] [] _
            refine XS.iloadN X70.here hx rfl (hb hby at_43) rfl ?_
            show oS p e below T70 m 44 #[oi p0, oi p1, oi p2, oa b1, oa b12, .unset] [(.int p1)] _
            refine XS.ifNo X70.here hx rfl (hb hby at_44) rfl ((if0 _ _).trans (flt c98).1) ?_
            show oS p e below T70 m 47 #[oi p0, oi p1, oi p2, oa b1, oa b12, .unset] [] _
            refine XS.iloadN X70.here hx rfl (hb hby at_47) rfl ?_
            show oS p e below T70 m 48 #[oi p0, oi p1, oi p2, oa b1, oa b12, .unset] [(.int p2)] _
            refine XS.ifNo X70.here hx rfl (hb hby at_48) rfl ((if0 _ _).trans (flt c99).1) ?_
            show oS p e below T70 m 51 #[oi p0, oi p1, oi p2, oa b1, oa b12, .unset] [] _
            refine XS.iconst X70.here hx rfl (hb hby at_51) ?_
            show oS p e below T70 m 52 #[oi p0, oi p1, oi p2, oa b1, oa b12, .unset] [(.int (1 : Int32))] _
            refine XS.goto X70.here hx rfl (pc0 := 52) (pc' := 56) rfl (hb hby at_52) (by decide) (by decide) ?_
            exact k
    obtain ⟨cq102, kq102, q102a, q102b, q102c⟩ := isOf hZ rfl Oq70_0
    obtain ⟨_, _, ⟨T102, L102, k102, n102⟩, -, X102, ⟨Lc102, hQ102, l102, y102, z102⟩, st102⟩ := X70.virtualBack hx (y := (⟨"com/example/penstock/penstock/Evaluation", "isFeasible", "()Z"⟩ : MethodName)) (z := (⟨"com/example/penstock/penstock/Evaluation", "isFeasible", "()Z"⟩ : MethodName)) hown (mvT hZ (hw _ (List.mem_of_getElem? (i := 31) rfl))) (mvT hZ (hw _ (List.mem_of_getElem? (i := 32) rfl))) (notFace_of_selects (args := #[]) (mvT hZ (hw _ (List.mem_of_getElem? (i := 34) rfl)))) (mvT hZ (hw _ (List.mem_of_getElem? (i := 34) rfl))) (mvT hZ (hw _ (List.mem_of_getElem? (i := 33) rfl))) (by decide) (backOf (W := 0) (own_rm3_1 l Z av hw [] b12 b_70 p0 p1 p2 k_b_70 T70.heap n0 Z70 Oq70_1 F_95 Oq70_3) hZ (hw _ (List.mem_of_getElem? (i := 35) rfl)) (hw _ (List.mem_of_getElem? (i := 3) rfl)) (by decide) (by decide)) q102a q102c (g := (mkF m 60 #[oi p0, oi p1, oi p2, oa b1, oa b12, oi v100] [(.ref b12)])) rfl (by rw [hml]; rfl) (Steps.refl _) (argsL := []) (rest := []) (lenOf own_pd1 rfl) rfl (by show 2 * 0 + _ ≤ _; exact Nat.le_of_eq rfl) (hb hby at_60) (fun _ _ => ⟨rfl, rfl, (by decide : 9 + 0 ≤ _), (by decide : 18 + 0 ≤ _)⟩)
    dsimp only [Pt.U, Pt.locs, Pt.cells, Pt.slots] at X102 l102 y102 z102 st102 hQ102
    subst l102 y102 z102
    obtain ⟨rfl, Nq102, eq102⟩ := hQ102
    have N102 := Fr.app N70 Nq102
    have b103 : (own_f3_1 p1) = v100 := by rw [hv100]; exact own_fin p0 p1 p2 p1 ⟨hy1, Int.le_refl _, hy2⟩ (Or.inr (Or.inl rfl))
    obtain ⟨fs, hr, hrun, hended, hW, hsame⟩ := X102.leave (v := (some (.int (1 : Int32)))) (fun h => by rw [Bd.returns] at h; cases h)
    refine ⟨_, _, pre101 _ ?_, hrun, hended, _, _, rfl, ?_, ⟨_, rfl⟩, hW, hsame.mono (by decide) (by decide)⟩
    · show oS p e below T70 m 56 #[oi p0, oi p1, oi p2, oa b1, oa b12, .unset] [(.int v100)] _
      refine XS.istore X70.here hx rfl (hb hby at_56) rfl (l' := #[oi p0, oi p1, oi p2, oa b1, oa b12, oi v100]) rfl ?_
      show oS p e below T70 m 58 #[oi p0, oi p1, oi p2, oa b1, oa b12, oi v100] [] _
      refine XS.aload X70.here hx rfl (hb hby at_58) rfl rfl ?_
      show oS p e below T70 m 60 #[oi p0, oi p1, oi p2, oa b1, oa b12, oi v100] [(.ref b12)] _
      refine st102.trans ?_
      show oS p e below T102 m 63 #[oi p0, oi p1, oi p2, oa b1, oa b12, oi v100] [(.int (own_f3_1 p1))] _
      refine XS.iload X102.here hx rfl (hb hby at_63) rfl ?_
      show oS p e below T102 m 65 #[oi p0, oi p1, oi p2, oa b1, oa b12, oi v100] [(.int v100), (.int (own_f3_1 p1))] _
      refine XS.icmpNo X102.here hx rfl (hb hby at_65) rfl (teq b103).2 ?_
      show oS p e below T102 m 68 #[oi p0, oi p1, oi p2, oa b1, oa b12, oi v100] [] _
      refine XS.iconst X102.here hx rfl (hb hby at_68) ?_
      show oS p e below T102 m 69 #[oi p0, oi p1, oi p2, oa b1, oa b12, oi v100] [(.int (1 : Int32))] _
      refine XS.goto X102.here hx rfl (pc0 := 69) (pc' := 73) rfl (hb hby at_69) (by decide) (by decide) ?_
      show oS p e below T102 m 73 #[oi p0, oi p1, oi p2, oa b1, oa b12, oi v100] [(.int (1 : Int32))] _
      exact retN X102 hx (t := .boolean) Bd.returns (by simp) (hb hby at_73) hr
    · show own_Q0 Z p0 p1 p2 h0 n0 _ T102.heap _
      rw [eq102]
      exact ⟨rfl, N102⟩
  · skip
    have F_104 : Fld Z T70.heap b12 "com/example/penstock/penstock/Evaluation" "worst" "I" (.int (2 : Int32)) := by rw [← hw0]; exact Oq70_2
    have pre105 : ∀ t, Steps p.tables e below (T70.setTop (mkF m 40 #[oi p0, oi p1, oi p2, oa b1, oa b12, .unset] [(.int p0)])) t → Steps p.tables e below (s₁.setTop (entryFrame m #[(.int p0), (.int p1), (.int p2)] maxLocals)) t := by
      intro t k
      refine pre85 t ?_
      show oS p e below T70 m 37 #[oi p0, oi p1, oi p2, oa b1, .unset, .unset] [(.ref b12)] _
      refine XS.astore X70.here hx rfl (hb hby at_37) rfl rfl (l' := #[oi p0, oi p1, oi p2, oa b1, oa b12, .unset]) rfl ?_
      show oS p e below T70 m 39 #[oi p0, oi p1, oi p2, oa b1, oa b12, .unset] [] _
      refine XS.iloadN X70.here hx rfl (hb hby at_39) rfl ?_
      exact k
    obtain ⟨v109, hv109⟩ : ∃ z : Int32, z = (if p0 < (0 : Int32) then (0 : Int32) else (if p1 < (0 : Int32) then (0 : Int32) else (if p2 < (0 : Int32) then (0 : Int32) else (1 : Int32)))) := ⟨_, rfl⟩
    have pre110 : ∀ t, Steps p.tables e below (T70.setTop (mkF m 56 #[oi p0, oi p1, oi p2, oa b1, oa b12, .unset] [(.int v109)])) t → Steps p.tables e below (s₁.setTop (entryFrame m #[(.int p0), (.int p1), (.int p2)] maxLocals)) t := by
      intro t k
      by_cases c106 : p0 < (0 : Int32)
      · skip
        rw [show v109 = (0 : Int32) from hv109.trans (by rw [if_pos c106])] at k
        refine pre105 t ?_
        show oS p e below T70 m 40 #[oi p0, oi p1, oi p2, oa b1, oa b12, .unset] [(.int p0)] _
        refine XS.ifYes X70.here hx rfl (pc0 := 40) (pc' := 55) rfl (hb hby at_40) rfl ((if0 _ _).trans (tlt c106).1) (by decide) (by decide) ?_
        show oS p e below T70 m 55 #[oi p0, oi p1, oi p2, oa b1, oa b12, .unset] [] _
        refine XS.iconst X70.here hx rfl (hb hby at_55) ?_
        exact k
      · skip
        by_cases c107 : p1 < (0 : Int32)
        · skip
          rw [show v109 = (0 : Int32) from hv109.trans (by rw [if_neg c106, if_pos c107])] at k
          refine pre105 t ?_
          show oS p e below T70 m 40 #[oi p0, oi p1, oi p2, oa b1, oa b12, .unset] [(.int p0)] _
          refine XS.ifNo X70.here hx rfl (hb hby at_40) rfl ((if0 _ _).trans (flt c106).1) ?_
          show oS p e below T70 m 43 #[oi p0, oi p1, oi p2, oa b1, oa b12, .unset] [] _
          refine XS.iloadN X70.here hx rfl (hb hby at_43) rfl ?_
          show oS p e below T70 m 44 #[oi p0, oi p1, oi p2, oa b1, oa b12, .unset] [(.int p1)] _
          refine XS.ifYes X70.here hx rfl (pc0 := 44) (pc' := 55) rfl (hb hby at_44) rfl ((if0 _ _).trans (tlt c107).1) (by decide) (by decide) ?_
          show oS p e below T70 m 55 #[oi p0, oi p1, oi p2, oa b1, oa b12, .unset] [] _
          refine XS.iconst X70.here hx rfl (hb hby at_55) ?_
          exact k
        · skip
          by_cases c108 : p2 < (0 : Int32)
          · skip
            rw [show v109 = (0 : Int32) from hv109.trans (by rw [if_neg c106, if_neg c107, if_pos c108])] at k
            refine pre105 t ?_
            show oS p e below T70 m 40 #[oi p0, oi p1, oi p2, oa b1, oa b12, .unset] [(.int p0)] _
            refine XS.ifNo X70.here hx rfl (hb hby at_40) rfl ((if0 _ _).trans (flt c106).1) ?_
            show oS p e below T70 m 43 #[oi p0, oi p1, oi p2, oa b1, oa b12, .unset] [] _
            refine XS.iloadN X70.here hx rfl (hb hby at_43) rfl ?_
            show oS p e below T70 m 44 #[oi p0, oi p1, oi p2, oa b1, oa b12, .unset] [(.int p1)] _
            refine XS.ifNo X70.here hx rfl (hb hby at_44) rfl ((if0 _ _).trans (flt c107).1) ?_
            show oS p e below T70 m 47 #[oi p0, oi p1, oi p2, oa b1, oa b12, .unset] [] _
            refine XS.iloadN X70.here hx rfl (hb hby at_47) rfl ?_
            show oS p e below T70 m 48 #[oi p0, oi p1, oi p2, oa b1, oa b12, .unset] [(.int p2)] _
            refine XS.ifYes X70.here hx rfl (pc0 := 48) (pc' := 55) rfl (hb hby at_48) rfl ((if0 _ _).trans (tlt c108).1) (by decide) (by decide) ?_
            show oS p e below T70 m 55 #[oi p0, oi p1, oi p2, oa b1, oa b12, .unset] [] _
            refine XS.iconst X70.here hx rfl (hb hby at_55) ?_
            exact k
          · skip
            rw [show v109 = (1 : Int32) from hv109.trans (by rw [if_neg c106, if_neg c107, if_neg c108])] at k
            refine pre105 t ?_
            show oS p e below T70 m 40 #[oi p0, oi p1, oi p2, oa b1, oa b12, .unset] [(.int p0)] _
            refine XS.ifNo X70.here hx rfl (hb hby at_40) rfl ((if0 _ _).trans (flt c106).1) ?_
            show oS p e below T70 m 43 #[oi p0, oi p1, oi p2, oa b1, oa b12, .unset] [] _
            refine XS.iloadN X70.here hx rfl (hb hby at_43) rfl ?_
            show oS p e below T70 m 44 #[oi p0, oi p1, oi p2, oa b1, oa b12, .unset] [(.int p1)] _
            refine XS.ifNo X70.here hx rfl (hb hby at_44) rfl ((if0 _ _).trans (flt c107).1) ?_
            show oS p e below T70 m 47 #[oi p0, oi p1, oi p2, oa b1, oa b12, .unset] [] _
            refine XS.iloadN X70.here hx rfl (hb hby at_47) rfl ?_
            show oS p e below T70 m 48 #[oi p0, oi p1, oi p2, oa b1, oa b12, .unset] [(.int p2)] _
            refine XS.ifNo X70.here hx rfl (hb hby at_48) rfl ((if0 _ _).trans (flt c108).1) ?_
            show oS p e below T70 m 51 #[oi p0, oi p1, oi p2, oa b1, oa b12, .unset] [] _
            refine XS.iconst X70.here hx rfl (hb hby at_51) ?_
            show oS p e below T70 m 52 #[oi p0, oi p1, oi p2, oa b1, oa b12, .unset] [(.int (1 : Int32))] _
            refine XS.goto X70.here hx rfl (pc0 := 52) (pc' := 56) rfl (hb hby at_52) (by decide) (by decide) ?_
            exact k
    obtain ⟨cq111, kq111, q111a, q111b, q111c⟩ := isOf hZ rfl Oq70_0
    obtain ⟨_, _, ⟨T111, L111, k111, n111⟩, -, X111, ⟨Lc111, hQ111, l111, y111, z111⟩, st111⟩ := X70.virtualBack hx (y := (⟨"com/example/penstock/penstock/Evaluation", "isFeasible", "()Z"⟩ : MethodName)) (z := (⟨"com/example/penstock/penstock/Evaluation", "isFeasible", "()Z"⟩ : MethodName)) hown (mvT hZ (hw _ (List.mem_of_getElem? (i := 31) rfl))) (mvT hZ (hw _ (List.mem_of_getElem? (i := 32) rfl))) (notFace_of_selects (args := #[]) (mvT hZ (hw _ (List.mem_of_getElem? (i := 34) rfl)))) (mvT hZ (hw _ (List.mem_of_getElem? (i := 34) rfl))) (mvT hZ (hw _ (List.mem_of_getElem? (i := 33) rfl))) (by decide) (backOf (W := 0) (own_rm3_2 l Z av hw [] b12 b_70 p0 p1 p2 k_b_70 T70.heap n0 Z70 Oq70_1 F_104 Oq70_3) hZ (hw _ (List.mem_of_getElem? (i := 35) rfl)) (hw _ (List.mem_of_getElem? (i := 3) rfl)) (by decide) (by decide)) q111a q111c (g := (mkF m 60 #[oi p0, oi p1, oi p2, oa b1, oa b12, oi v109] [(.ref b12)])) rfl (by rw [hml]; rfl) (Steps.refl _) (argsL := []) (rest := []) (lenOf own_pd1 rfl) rfl (by show 2 * 0 + _ ≤ _; exact Nat.le_of_eq rfl) (hb hby at_60) (fun _ _ => ⟨rfl, rfl, (by decide : 9 + 0 ≤ _), (by decide : 18 + 0 ≤ _)⟩)
    dsimp only [Pt.U, Pt.locs, Pt.cells, Pt.slots] at X111 l111 y111 z111 st111 hQ111
    subst l111 y111 z111
    obtain ⟨rfl, Nq111, eq111⟩ := hQ111
    have N111 := Fr.app N70 Nq111
    have b112 : (own_f3_2 p2) = v109 := by rw [hv109]; exact own_fin p0 p1 p2 p2 ⟨hy1, hy2, Int.le_refl _⟩ (Or.inr (Or.inr rfl))
    obtain ⟨fs, hr, hrun, hended, hW, hsame⟩ := X111.leave (v := (some (.int (1 : Int32)))) (fun h => by rw [Bd.returns] at h; cases h)
    refine ⟨_, _, pre110 _ ?_, hrun, hended, _, _, rfl, ?_, ⟨_, rfl⟩, hW, hsame.mono (by decide) (by decide)⟩
    · show oS p e below T70 m 56 #[oi p0, oi p1, oi p2, oa b1, oa b12, .unset] [(.int v109)] _
      refine XS.istore X70.here hx rfl (hb hby at_56) rfl (l' := #[oi p0, oi p1, oi p2, oa b1, oa b12, oi v109]) rfl ?_
      show oS p e below T70 m 58 #[oi p0, oi p1, oi p2, oa b1, oa b12, oi v109] [] _
      refine XS.aload X70.here hx rfl (hb hby at_58) rfl rfl ?_
      show oS p e below T70 m 60 #[oi p0, oi p1, oi p2, oa b1, oa b12, oi v109] [(.ref b12)] _
      refine st111.trans ?_
      show oS p e below T111 m 63 #[oi p0, oi p1, oi p2, oa b1, oa b12, oi v109] [(.int (own_f3_2 p2))] _
      refine XS.iload X111.here hx rfl (hb hby at_63) rfl ?_
      show oS p e below T111 m 65 #[oi p0, oi p1, oi p2, oa b1, oa b12, oi v109] [(.int v109), (.int (own_f3_2 p2))] _
      refine XS.icmpNo X111.here hx rfl (hb hby at_65) rfl (teq b112).2 ?_
      show oS p e below T111 m 68 #[oi p0, oi p1, oi p2, oa b1, oa b12, oi v109] [] _
      refine XS.iconst X111.here hx rfl (hb hby at_68) ?_
      show oS p e below T111 m 69 #[oi p0, oi p1, oi p2, oa b1, oa b12, oi v109] [(.int (1 : Int32))] _
      refine XS.goto X111.here hx rfl (pc0 := 69) (pc' := 73) rfl (hb hby at_69) (by decide) (by decide) ?_
      show oS p e below T111 m 73 #[oi p0, oi p1, oi p2, oa b1, oa b12, oi v109] [(.int (1 : Int32))] _
      exact retN X111 hx (t := .boolean) Bd.returns (by simp) (hb hby at_73) hr
    · show own_Q0 Z p0 p1 p2 h0 n0 _ T111.heap _
      rw [eq111]
      exact ⟨rfl, N111⟩
set_option maxRecDepth 65536 in
set_option maxHeartbeats 40000000 in
theorem own_comes {Post : Tables → Env → Array Value → State → Outcome → State → Prop} (hpost : ∀ tb e args s v u, (limb_1_1.after args s (.returned v) u = true ∧ limb_1_2.after args s (.returned v) u = true ∧ True) → FrameEnd s (.returned v) u (Jvm.fieldLocs frame_1_writes args s ++ Jvm.arrayLocs frame_1_arrays args s ++ Jvm.staticLocs frame_1_statics s) 32 128 → Post tb e args s (.returned v) u) :
    ArmFor flags0 classFile x code maxLocals ret World_1 tables_1 room_1 Calls_1 rest_1 Pre_1 Post := by
  intro l hfl _ _ p e ha hc hk s m args below hf hA hF happ hP
  obtain ⟨hcalls, hrest, hpre⟩ := hP
  obtain ⟨-, -, -, hnamed, -, -, -, hat⟩ := (Spec.applies_iff hf).mp happ
  obtain ⟨hg, hn⟩ := and_e (Cond.before_iff.mp (show (Jvm.Cond.and given_1 narrow_1).before args s = true from hpre))
  obtain ⟨gv1, gv2⟩ := and_e hg
  obtain ⟨gv3, gv4⟩ := and_e gv2
  obtain ⟨gv5, gv6⟩ := and_e gv4
  obtain ⟨w0, w1, w2, rfl⟩ : ∃ w0 w1 w2 : Value, args = #[w0, w1, w2] := by
    have hs : args.size = 3 := by simpa [Cond.value, given_1] using gv1
    obtain ⟨L⟩ := args
    match L, hs with
    | [w0, w1, w2], _ => exact ⟨w0, w1, w2, rfl⟩
  have hw := fun d (hd : d ∈ tables_1) => atoms_spec (ws := Jvm.Cond.code x code maxLocals ret :: tables_1) hat d (List.mem_cons_of_mem _ hd)
  have hfit : Fit s := fun {y c} hc i hi => by
    obtain ⟨ha, rfl⟩ := Array.getElem?_eq_some_iff.mp hc
    have q := List.all_eq_true.mp ((Array.all_eq_true_iff_forall_mem.mp hF) _ (Array.getElem_mem ha)) i (List.mem_range.mpr hi)
    simpa [Array.getElem?_eq_getElem hi] using q
  obtain ⟨i0, ei0⟩ := is_v gv3
  obtain rfl : w0 = (.int i0) := Option.some.inj ei0
  obtain ⟨i1, ei1⟩ := is_v gv5
  obtain rfl : w1 = (.int i1) := Option.some.inj ei1
  obtain ⟨i2, ei2⟩ := is_v gv6
  obtain rfl : w2 = (.int i2) := Option.some.inj ei2
  obtain ⟨n, o, h1, h2, h3, _, L, rfl, ⟨rfl, N⟩, hq⟩ := own_rm0 l s _ hw tables_1 i0 i1 i2  s.heap s.heap.size (Nat.le_refl _)  p e ha hc hk s m _ below hf ((Spec.applies_iff_loose hf).mp happ).1 ⟨rfl, State.Warmed39.refl s, rfl⟩ trivial
  refine ⟨n, _, h1, h2, h3, hpost _ _ _ _ _ _ ⟨Cond.after_iff.mpr rfl, Cond.after_iff.mpr (eq_i res_at (Term.int_eval (1)) rfl), trivial⟩ ⟨hq.1, hq.2.1, (hq.2.2.sift fun y hy => Or.inr (N y hy)).mono (by decide) (by decide)⟩⟩
theorem main_1_1 : Claimed_1_1 := own_comes fun _ _ _ _ _ _ h hF => ⟨h.1, hF⟩
theorem main_1_2 : Claimed_1_2 := own_comes fun _ _ _ _ _ _ h hF => ⟨h.2.1, hF⟩
end Jvm.Pilot.@@N@@
namespace Jvm.Pilot.@@N@@
open Jvm Jvm.ClassFile Sem Op Lib Jvm.Free Jvm.Stand Jvm.Pilot.@@N@@.Jvm.D
/-! MADE BY PROGRAM (witnessworld.py) out of the Statement's table words and the real class files: 9 classes; the members and pool entries that the words name. The judged class is class 1, her method 1. -/
namespace start1
open Jvm.ClassFile
def u (s : String) : CpInfo := .utf8 (stringToUtf16 s)
/-- a pool by its gaps: so many unusable entries, then the entry; so many at the end -/
def gap : Nat → List CpInfo → List CpInfo
  | 0, r => r
  | n + 1, r => .unusable :: gap n r
def poolList (es : List (Nat × CpInfo)) (last : Nat) : List CpInfo := es.foldr (fun e r => gap e.1 (e.2 :: r)) (gap last [])
def pool (es : List (Nat × CpInfo)) (last : Nat) : Array CpInfo := ⟨poolList es last⟩
def fileOf (pool : Array CpInfo) (this : Nat) (attrs : Array Attribute := #[]) (ms : Array MethodInfo := #[]) (fl : Nat := 33) (sup : Nat := 0) (ifs : Array Nat := #[]) (fds : Array FieldInfo := #[]) : ClassFile where
  minorVersion := 0
  majorVersion := 65
  constantPool := pool
  accessFlags := fl
  thisClass := this
  superClass := sup
  interfaces := ifs
  fields := fds
  methods := ms
  attributes := attrs
def plain (name : String) (sup : Option ClassId) : Class where
  name := name
  kind := .ordinary
  loader := none
  accessFlags := 33
  super := sup
  interfaces := #[]
  cf := none
  fields := #[]
  methods := #[]
  instanceTypes := #[]
  staticTypes := #[]
  resolved := #[]
  callSites := []
  init := .initialized
  statics := none
  mirror := none

def pool0 : Array CpInfo := pool [(5, u "<init>"), (0, u "()V"), (1, .class_ 10), (1, u "java/lang/Object"), (85, u "clone"), (0, u "()Ljava/lang/Object;")] 26

def k0c0 : Code := { maxStack := 0, maxLocals := 1, code := object_method_1_code, exceptionTable := #[], attributes := #[] }
def k0m0 : Method := { name := "<init>", desc := "()V", sig := { parameters := [], returnType := none }, accessFlags := 1, code := some k0c0 }
def k0m1 : Method := { name := "clone", desc := "()Ljava/lang/Object;", sig := { parameters := [], returnType := some (.object "java/lang/Object") }, accessFlags := 260, code := none }
/-- java/lang/Object -/
def k0 : Class := { plain "java/lang/Object" none with
  accessFlags := 33
  interfaces := #[]
  cf := some (fileOf pool0 8 #[] #[{ accessFlags := 1, nameIndex := 5, descriptorIndex := 6, attributes := #[] }, { accessFlags := 260, nameIndex := 96, descriptorIndex := 97, attributes := #[] }] 33 0 #[] #[])
  fields := #[]
  methods := #[k0m0, k0m1]
  instanceTypes := #[]
  staticTypes := #[]
  resolved := Array.replicate 124 none
  statics := none }

def pool1 : Array CpInfo := pool [(2, .class_ 4), (1, u "java/lang/Object"), (0, u "<init>"), (0, u "()V"), (0, .class_ 8), (0, u "com/example/penstock/penstock/Evaluation"), (0, .methodref 7 10), (0, .nameAndType 5 11), (0, u "(D[D[D[D[D)V"), (0, .methodref 7 13), (0, .nameAndType 14 15), (0, u "isFeasible"), (0, u "()Z"), (0, .class_ 17), (0, u "com/example/penstock/penstock/EvaluationIsFeasiblePinLaw"), (2, u "law"), (0, u "(III)Z")] 5

def k1m0 : Method := { name := "<init>", desc := "()V", sig := { parameters := [], returnType := none }, accessFlags := 1, code := none }
def k1c1 : Code := { maxStack := 8, maxLocals := 6, code := code, exceptionTable := #[], attributes := #[] }
def k1m1 : Method := { name := "law", desc := "(III)Z", sig := { parameters := [.int, .int, .int], returnType := some .boolean }, accessFlags := 9, code := some k1c1 }
/-- com/example/penstock/penstock/EvaluationIsFeasiblePinLaw -/
def k1 : Class := { plain "com/example/penstock/penstock/EvaluationIsFeasiblePinLaw" (some 0) with
  accessFlags := 49
  interfaces := #[]
  cf := some (fileOf pool1 16 #[] #[{ accessFlags := 1, nameIndex := 5, descriptorIndex := 6, attributes := #[] }, { accessFlags := 9, nameIndex := 20, descriptorIndex := 21, attributes := #[] }] 49 2 #[] #[])
  fields := #[]
  methods := #[k1m0, k1m1]
  instanceTypes := #[]
  staticTypes := #[]
  resolved := Array.replicate 27 none
  statics := none }

def pool2 : Array CpInfo := pool [(1, .methodref 2 3), (0, .class_ 4), (0, .nameAndType 5 6), (0, u "java/lang/Object"), (0, u "<init>"), (0, u "()V"), (0, .fieldref 8 9), (0, .class_ 10), (0, .nameAndType 11 12), (0, u "com/example/penstock/penstock/Evaluation"), (0, u "cost"), (0, u "D"), (0, .methodref 14 15), (0, .class_ 16), (0, .nameAndType 17 18), (0, u "[D"), (0, u "clone"), (0, u "()Ljava/lang/Object;"), (0, .fieldref 8 20), (0, .nameAndType 21 16), (0, u "heads"), (0, .fieldref 8 23), (0, .nameAndType 24 16), (0, u "margins"), (0, .fieldref 8 26), (0, .nameAndType 27 16), (0, u "pipeFlows"), (0, .fieldref 8 29), (0, .nameAndType 30 16), (0, u "flows"), (0, .fieldref 8 32), (0, .nameAndType 33 34), (0, u "worst"), (0, u "I"), (10, u "(D[D[D[D[D)V"), (11, u "isFeasible"), (0, u "()Z")] 2

def k2c0 : Code := { maxStack := 4, maxLocals := 9, code := prog_12_method_1_code, exceptionTable := #[], attributes := #[] }
def k2m0 : Method := { name := "<init>", desc := "(D[D[D[D[D)V", sig := { parameters := [.double, (.array .double), (.array .double), (.array .double), (.array .double)], returnType := none }, accessFlags := 0, code := some k2c0 }
def k2c1 : Code := { maxStack := 4, maxLocals := 1, code := prog_12_method_8_code, exceptionTable := #[], attributes := #[] }
def k2m1 : Method := { name := "isFeasible", desc := "()Z", sig := { parameters := [], returnType := some .boolean }, accessFlags := 0, code := some k2c1 }
/-- com/example/penstock/penstock/Evaluation -/
def k2 : Class := { plain "com/example/penstock/penstock/Evaluation" (some 0) with
  accessFlags := 48
  interfaces := #[]
  cf := some (fileOf pool2 8 #[] #[{ accessFlags := 0, nameIndex := 5, descriptorIndex := 45, attributes := #[] }, { accessFlags := 0, nameIndex := 57, descriptorIndex := 58, attributes := #[] }] 48 2 #[] #[{ accessFlags := 18, nameIndex := 11, descriptorIndex := 12, attributes := #[] }, { accessFlags := 18, nameIndex := 21, descriptorIndex := 16, attributes := #[] }, { accessFlags := 18, nameIndex := 24, descriptorIndex := 16, attributes := #[] }, { accessFlags := 18, nameIndex := 27, descriptorIndex := 16, attributes := #[] }, { accessFlags := 18, nameIndex := 30, descriptorIndex := 16, attributes := #[] }, { accessFlags := 18, nameIndex := 33, descriptorIndex := 34, attributes := #[] }])
  fields := #[{ name := "cost", type := .double, accessFlags := 18, slot := 0, constantValue := 0 }, { name := "heads", type := (.array .double), accessFlags := 18, slot := 1, constantValue := 0 }, { name := "margins", type := (.array .double), accessFlags := 18, slot := 2, constantValue := 0 }, { name := "pipeFlows", type := (.array .double), accessFlags := 18, slot := 3, constantValue := 0 }, { name := "flows", type := (.array .double), accessFlags := 18, slot := 4, constantValue := 0 }, { name := "worst", type := .int, accessFlags := 18, slot := 5, constantValue := 0 }]
  methods := #[k2m0, k2m1]
  instanceTypes := #[.double, (.array .double), (.array .double), (.array .double), (.array .double), .int]
  staticTypes := #[]
  resolved := Array.replicate 61 none
  statics := none }

def pool3 : Array CpInfo := pool [(1, .class_ 2), (0, u "java/lang/Cloneable"), (0, .class_ 4), (0, u "java/lang/Object")] 2

/-- java/lang/Cloneable -/
def k3 : Class := { plain "java/lang/Cloneable" (some 0) with
  accessFlags := 1537
  interfaces := #[]
  cf := some (fileOf pool3 1 #[] #[] 1537 3 #[] #[])
  fields := #[]
  methods := #[]
  instanceTypes := #[]
  staticTypes := #[]
  resolved := Array.replicate 7 none
  statics := none }

def pool4 : Array CpInfo := pool [(1, u "java/io/Serializable"), (0, .class_ 1), (0, u "java/lang/Object"), (0, .class_ 3)] 3

/-- java/io/Serializable -/
def k4 : Class := { plain "java/io/Serializable" (some 0) with
  accessFlags := 1537
  interfaces := #[]
  cf := some (fileOf pool4 2 #[] #[] 1537 4 #[] #[])
  fields := #[]
  methods := #[]
  instanceTypes := #[]
  staticTypes := #[]
  resolved := Array.replicate 8 none
  statics := none }

/-- the primitive byte -/
def k5 : Class := { plain "byte" none with kind := .primitive 'B', accessFlags := 0x411 }
/-- [B -/
def k6 : Class := { plain "[B" (some 0) with kind := .array 5 .byte, interfaces := #[3, 4], accessFlags := 1041 }

/-- the primitive int -/
def k7 : Class := { plain "int" none with kind := .primitive 'I', accessFlags := 0x411 }
/-- [I -/
def k8 : Class := { plain "[I" (some 0) with kind := .array 7 .int, interfaces := #[3, 4], accessFlags := 1041 }

/-- the primitive double -/
def k9 : Class := { plain "double" none with kind := .primitive 'D', accessFlags := 0x411 }
/-- [D -/
def k10 : Class := { plain "[D" (some 0) with kind := .array 9 .double, interfaces := #[3, 4], accessFlags := 1041 }

def heap : Heap := #[]
def classes : Array Class := #[k0, k1, k2, k3, k4, k5, k6, k7, k8, k9, k10]
def interned : List (Array UInt16 × Addr) := []
def slotsUsed : Nat := 0
def theMethod : MethodId := ⟨1, 1⟩
def args0 : Array Value := #[.int 2, .int 6, .int 7]
def aboutOver (below : List Frame) : State where
  vm := { classes := classes, interned := interned.toArray }
  heap := heap
  slotsUsed := slotsUsed
  threads := #[{ frames := .invoking theMethod args0 :: below }]
def below0 : List Frame := [.native { method := ⟨0, 0⟩, args := #[] }]
def about1 : State := aboutOver below0
def p0 : Program := .bare "" "" ""
def e0 : Env := launch0.env 0 0 0
theorem w_frames : about1.frames = Frame.invoking theMethod args0 :: below0 := rfl
set_option maxRecDepth 65536 in
theorem w_args : argsFit about1.vm theMethod args0 = true := by decide +kernel
set_option maxRecDepth 65536 in
theorem w_heap : heapFits about1 = true := by decide +kernel
set_option maxRecDepth 65536 in
theorem w_runnable : about1.curStatus? = some .runnable := by decide +kernel
set_option maxRecDepth 65536 in
theorem w_alone : about1.alone = true := by decide +kernel
set_option maxRecDepth 65536 in
theorem w_named : about1.methodNamed? x = some theMethod := by decide +kernel
set_option maxRecDepth 65536 in
theorem w_hears : about1.hears theMethod below0 = true := by decide +kernel
set_option maxRecDepth 65536 in
theorem w_ripe : about1.ripe theMethod args0 below0 = true := by decide +kernel
theorem w_running : about1.status = .running := rfl
set_option maxRecDepth 65536 in
theorem w_room : about1.hasRoom e0.platform room_1 = true :=
  launch0.hasRoom_least _ room_1 (by decide +kernel) (by decide +kernel) (by decide +kernel) (by decide +kernel) (by decide +kernel) (by decide +kernel)
theorem allAtoms_all (ts : List Jvm.Cond) (a : Array Jvm.Value) (st : Jvm.State) : (allAtoms ts).before a st = ts.all (fun c => c.before a st) := by
  induction ts with
  | nil => rfl
  | cons c t ih =>
    show (Jvm.Cond.and c (allAtoms t)).before a st = _
    rw [Jvm.Cond.before_and, ih, List.all_cons]
def words1 : List Jvm.Cond := Jvm.Cond.code x code maxLocals ret :: tables_1
/-- a 'code' word, met by the world's own term for the bytes: nothing is compared byte by byte -/
theorem code_word {y : MethodName} {bytes : ByteArray} {mx : Nat} {rt : Option FieldType} {a : Array Value} {s : State} {m : MethodId} {meth : Method} {c : Code} (h1 : s.methodNamed? y = some m) (h2 : s.vm.method? m = some meth) (h3 : meth.code = some c) (h4 : c.code = bytes)
    (h5 : (c.maxLocals == mx && c.exceptionTable.isEmpty && decide (c.maxStack ≤ mostOperands) && decide (meth.sig.returnType = rt) && !meth.locks && decide (parseMethodDescriptor y.desc = some meth.sig)) = true) : (Jvm.Cond.code y bytes mx rt).before a s = true := by
  simp only [Bool.and_eq_true, beq_iff_eq, Bool.not_eq_true', decide_eq_true_eq] at h5
  obtain ⟨⟨⟨⟨⟨g1, g2⟩, g3⟩, g4⟩, g5⟩, g6⟩ := h5
  simp [Cond.before, Cond.holds, Cond.value, h1, h2, h3, h4, g1, g2, g3, g4, g5, g6]
def isCode : Jvm.Cond → Bool
  | .code _ _ _ _ => true
  | _ => false
theorem all_split {L : List Jvm.Cond} {P : Jvm.Cond → Bool} (h1 : L.all (fun c => isCode c || P c) = true) (h2 : ∀ c ∈ L.filter isCode, P c = true) : L.all P = true := by
  refine List.all_eq_true.mpr fun c hc => ?_
  have h := List.all_eq_true.mp h1 c hc
  rcases Bool.eq_false_or_eq_true (isCode c) with hi | hi
  · exact h2 c (List.mem_filter.mpr ⟨hc, hi⟩)
  · simpa [hi] using h
set_option maxRecDepth 65536 in
theorem w_c0 : (Jvm.Cond.code x code maxLocals ret).before args0 about1 = true := code_word (m := ⟨1, 1⟩) (meth := k1m1) (c := k1c1) (by decide +kernel) rfl rfl rfl (by decide +kernel)
set_option maxRecDepth 65536 in
theorem w_c1 : (Jvm.Cond.code ({ cls := "com/example/penstock/penstock/Evaluation", name := "<init>", desc := "(D[D[D[D[D)V" } : Jvm.MethodName) prog_12_method_1_code (9 : Nat) (Option.none : Option Jvm.ClassFile.FieldType)).before args0 about1 = true := code_word (m := ⟨2, 0⟩) (meth := k2m0) (c := k2c0) (by decide +kernel) rfl rfl rfl (by decide +kernel)
set_option maxRecDepth 65536 in
theorem w_c2 : (Jvm.Cond.code ({ cls := "java/lang/Object", name := "<init>", desc := "()V" } : Jvm.MethodName) object_method_1_code (1 : Nat) (Option.none : Option Jvm.ClassFile.FieldType)).before args0 about1 = true := code_word (m := ⟨0, 0⟩) (meth := k0m0) (c := k0c0) (by decide +kernel) rfl rfl rfl (by decide +kernel)
set_option maxRecDepth 65536 in
theorem w_c3 : (Jvm.Cond.code ({ cls := "com/example/penstock/penstock/Evaluation", name := "isFeasible", desc := "()Z" } : Jvm.MethodName) prog_12_method_8_code (1 : Nat) (Option.some Jvm.ClassFile.FieldType.boolean)).before args0 about1 = true := code_word (m := ⟨2, 1⟩) (meth := k2m1) (c := k2c1) (by decide +kernel) rfl rfl rfl (by decide +kernel)
def codes1 : List Jvm.Cond := [Jvm.Cond.code x code maxLocals ret, Jvm.Cond.code ({ cls := "com/example/penstock/penstock/Evaluation", name := "<init>", desc := "(D[D[D[D[D)V" } : Jvm.MethodName) prog_12_method_1_code (9 : Nat) (Option.none : Option Jvm.ClassFile.FieldType), Jvm.Cond.code ({ cls := "java/lang/Object", name := "<init>", desc := "()V" } : Jvm.MethodName) object_method_1_code (1 : Nat) (Option.none : Option Jvm.ClassFile.FieldType), Jvm.Cond.code ({ cls := "com/example/penstock/penstock/Evaluation", name := "isFeasible", desc := "()Z" } : Jvm.MethodName) prog_12_method_8_code (1 : Nat) (Option.some Jvm.ClassFile.FieldType.boolean)]
set_option maxRecDepth 65536 in
theorem codes_eq : words1.filter isCode = codes1 := rfl
theorem w_codes : ∀ c ∈ words1.filter isCode, c.before args0 about1 = true := by
  rw [codes_eq]
  intro c hc
  simp only [codes1, List.mem_cons, List.not_mem_nil, or_false] at hc
  rcases hc with rfl | rfl | rfl | rfl
  · exact w_c0
  · exact w_c1
  · exact w_c2
  · exact w_c3
set_option maxRecDepth 65536 in
theorem w_t1 : (words1.take 24).all (fun c => isCode c || c.before args0 about1) = true := by decide +kernel
set_option maxRecDepth 65536 in
theorem w_t2 : (words1.drop 24).all (fun c => isCode c || c.before args0 about1) = true := by decide +kernel
theorem w_tables : (allAtoms (Jvm.Cond.code x code maxLocals ret :: tables_1)).before args0 about1 = true := by
  rw [allAtoms_all]
  show words1.all (fun c => c.before args0 about1) = true
  refine all_split ?_ w_codes
  rw [← List.take_append_drop 24 words1, List.all_append, w_t1, w_t2]
  rfl
set_option maxRecDepth 65536 in
theorem w_case : (Jvm.Cond.and given_1 narrow_1).before args0 about1 = true := by decide +kernel
theorem w_applies : (headSpec (Jvm.Cond.code x code maxLocals ret :: tables_1) room_1).applies x e0.platform about1 = true :=
  (Spec.applies_iff w_frames).mpr ⟨w_running, w_runnable, w_alone, w_named, w_hears, w_ripe, w_room, w_tables⟩
theorem atStart : AtStart classFile x code maxLocals ret World_1 tables_1 room_1 Calls_1 rest_1 Pre_1 launch0 p0 e0 about1 theMethod args0 below0 :=
  ⟨lists_1, trivial, launch0.admits_env _ _ _, launch0.least_env, fairChoices_fair.cas, fairChoices_fair.clock, w_frames, w_args, w_heap, w_applies, trivial, trivial, w_case⟩
end start1
theorem witness_1 : WitnessClaimed_1 := ⟨start1.p0, start1.e0, start1.about1, start1.theMethod, start1.args0, start1.below0, start1.atStart⟩
end Jvm.Pilot.@@N@@
