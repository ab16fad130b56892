import JvmDerived
import JvmDerived.Pilot.@@N@@Statement
import JvmDerived.Pilot.@@N@@Code
set_option linter.unusedVariables false
set_option linter.unusedSimpArgs false
namespace Jvm.Pilot.@@N@@
open Jvm Jvm.ClassFile Sem Op Lib Jvm.Free Jvm.Stand Jvm.LawKit Jvm.RoadKit Bundle Jvm.Pilot.@@N@@.Jvm.D
section OwnKit
variable {p : Program} {l : Launch} {e : Env} {R : Room} {s : State} {m : MethodId} {args : Array Value} {below : List Frame} {meth : Method} {c : Code} {T : State} {locs : List Loc} {cells slots : Nat} {Z : State} {h : Heap} {a : Addr} {k : ClassId} {z : Int32} {vs : List Value} {dv : Value}
theorem oLen (X : Stand p l e R s m args below meth c T locs cells slots) (hx : p.tables.exec = Jvm.exec) (hZ : Z.Warmed39 s.vm) (eT : T.heap = h) {ty : FieldType} (F : Arv Z h a k ty z vs dv) {pc : Nat} {Ls : Array Slot} {rest : List Value} (hd : decode c.code pc = .ok (.arraylength, 1)) {target : State}
    (hr : Steps p.tables e below (T.setTop (mkF m (pc + 1) Ls (.int z :: rest))) target) : Steps p.tables e below (T.setTop (mkF m pc Ls (.ref a :: rest))) target := by
  obtain ⟨cl, A, -, S, M, -, -⟩ := F
  refine X.arraylength hx (by rw [eT]; exact A.1) (State.isArrayOf_alike hZ.alike A.2.1) (g := mkF m pc Ls (.ref a :: rest)) rfl rfl hd target ?_
  rw [len_of S M]
  exact hr
theorem oLdI (X : Stand p l e R s m args below meth c T locs cells slots) (hx : p.tables.exec = Jvm.exec) (hZ : Z.Warmed39 s.vm) (eT : T.heap = h) (F : Arv Z h a k .int z vs dv) {j : Int32} {v : Value} (hj : ¬ j < 0 ∧ j < z) (hv : vs.getD j.toNatClampNeg dv = v) {pc : Nat} {Ls : Array Slot} {rest : List Value} (hd : decode c.code pc = .ok (.iaload, 1)) {target : State}
    (hr : Steps p.tables e below (T.setTop (mkF m (pc + 1) Ls (v :: rest))) target) : Steps p.tables e below (T.setTop (mkF m pc Ls (.int j :: .ref a :: rest))) target := by
  obtain ⟨cl, A, -, S, -, H, -⟩ := F
  have hin := inb_of S hj
  exact X.iaload hx (by rw [eT]; exact A.1) (State.isArrayOf_alike hZ.alike A.2.1) A.2.2 hin (Has.at H hin hv) (g := mkF m pc Ls (.int j :: .ref a :: rest)) rfl rfl hd target hr
theorem oLdB (X : Stand p l e R s m args below meth c T locs cells slots) (hx : p.tables.exec = Jvm.exec) (hZ : Z.Warmed39 s.vm) (eT : T.heap = h) (F : Arv Z h a k .byte z vs dv) {j : Int32} {v : Value} (hj : ¬ j < 0 ∧ j < z) (hv : vs.getD j.toNatClampNeg dv = v) {pc : Nat} {Ls : Array Slot} {rest : List Value} (hd : decode c.code pc = .ok (.baload, 1)) {target : State}
    (hr : Steps p.tables e below (T.setTop (mkF m (pc + 1) Ls (v :: rest))) target) : Steps p.tables e below (T.setTop (mkF m pc Ls (.int j :: .ref a :: rest))) target := by
  obtain ⟨cl, A, -, S, -, H, -⟩ := F
  have hin := inb_of S hj
  exact X.baloadBytes hx (by rw [eT]; exact A.1) (State.isArrayOf_alike hZ.alike A.2.1) A.2.2 hin (Has.at H hin hv) (g := mkF m pc Ls (.int j :: .ref a :: rest)) rfl rfl hd target hr
theorem oLdJ (X : Stand p l e R s m args below meth c T locs cells slots) (hx : p.tables.exec = Jvm.exec) (hZ : Z.Warmed39 s.vm) (eT : T.heap = h) (F : Arv Z h a k .long z vs dv) {j : Int32} {v : Value} (hj : ¬ j < 0 ∧ j < z) (hv : vs.getD j.toNatClampNeg dv = v) {pc : Nat} {Ls : Array Slot} {rest : List Value} (hd : decode c.code pc = .ok (.laload, 1)) {target : State}
    (hr : Steps p.tables e below (T.setTop (mkF m (pc + 1) Ls (v :: rest))) target) : Steps p.tables e below (T.setTop (mkF m pc Ls (.int j :: .ref a :: rest))) target := by
  obtain ⟨cl, A, -, S, -, H, -⟩ := F
  have hin := inb_of S hj
  exact X.laload hx (by rw [eT]; exact A.1) (State.isArrayOf_alike hZ.alike A.2.1) A.2.2 hin (Has.at H hin hv) (g := mkF m pc Ls (.int j :: .ref a :: rest)) rfl rfl hd target hr
theorem oLdD (X : Stand p l e R s m args below meth c T locs cells slots) (hx : p.tables.exec = Jvm.exec) (hZ : Z.Warmed39 s.vm) (eT : T.heap = h) (F : Arv Z h a k .double z vs dv) {j : Int32} {v : Value} (hj : ¬ j < 0 ∧ j < z) (hv : vs.getD j.toNatClampNeg dv = v) {pc : Nat} {Ls : Array Slot} {rest : List Value} (hd : decode c.code pc = .ok (.daload, 1)) {target : State}
    (hr : Steps p.tables e below (T.setTop (mkF m (pc + 1) Ls (v :: rest))) target) : Steps p.tables e below (T.setTop (mkF m pc Ls (.int j :: .ref a :: rest))) target := by
  obtain ⟨cl, A, -, S, -, H, -⟩ := F
  have hin := inb_of S hj
  exact X.daload hx (by rw [eT]; exact A.1) (State.isArrayOf_alike hZ.alike A.2.1) A.2.2 hin (Has.at H hin hv) (g := mkF m pc Ls (.int j :: .ref a :: rest)) rfl rfl hd target hr
theorem oStI (X : Stand p l e R s m args below meth c T locs cells slots) (hx : p.tables.exec = Jvm.exec) (hZ : Z.Warmed39 s.vm) (eT : T.heap = h) (F : Arv Z h a k .int z vs dv) {j : Int32} {x : Int32} (hj : ¬ j < 0 ∧ j < z) (i : Nat) (hi : j.toNatClampNeg = i) (hl : i < vs.length) {g : JFrame} (hg : g.method = m) {rest : List Value} (hs : g.stack = .int x :: .int j :: .ref a :: rest) (hd : decode c.code g.pc = .ok (.iastore, 1)) :
    ∃ T' h', Stand p l e R s m args below meth c T' (locs ++ [⟨a, j.toNatClampNeg⟩]) cells slots ∧ T'.heap = h' ∧ Wr h h' a j.toNatClampNeg (.int x) ∧ Arv Z h' a k .int z (vs.set i (.int x)) dv ∧ ∀ target, Steps p.tables e below (T'.setTop { g with pc := g.pc + 1, stack := rest }) target → Steps p.tables e below (T.setTop g) target := by
  obtain ⟨cl, A, q1, S, M, H, G⟩ := F
  obtain ⟨T', h', X', e', W, st⟩ := stI X hx hZ eT A (j := j) (inb_of S hj) hg hs hd
  exact ⟨T', h', X', e', W, Arv.set A q1 S M H G rfl W i hi hl, st⟩
theorem oStB (X : Stand p l e R s m args below meth c T locs cells slots) (hx : p.tables.exec = Jvm.exec) (hZ : Z.Warmed39 s.vm) (eT : T.heap = h) (F : Arv Z h a k .byte z vs dv) {j : Int32} {x : Int32} (hj : ¬ j < 0 ∧ j < z) (i : Nat) (hi : j.toNatClampNeg = i) (hl : i < vs.length) {g : JFrame} (hg : g.method = m) {rest : List Value} (hs : g.stack = .int x :: .int j :: .ref a :: rest) (hd : decode c.code g.pc = .ok (.bastore, 1)) :
    ∃ T' h', Stand p l e R s m args below meth c T' (locs ++ [⟨a, j.toNatClampNeg⟩]) cells slots ∧ T'.heap = h' ∧ Wr h h' a j.toNatClampNeg (.int (nar .byte x)) ∧ Arv Z h' a k .byte z (vs.set i (.int (nar .byte x))) dv ∧ ∀ target, Steps p.tables e below (T'.setTop { g with pc := g.pc + 1, stack := rest }) target → Steps p.tables e below (T.setTop g) target := by
  obtain ⟨cl, A, q1, S, M, H, G⟩ := F
  obtain ⟨T', h', X', e', W, st⟩ := stB X hx hZ eT A (j := j) (inb_of S hj) hg hs hd
  exact ⟨T', h', X', e', W, Arv.set A q1 S M H G (fits_nar_byte x) W i hi hl, st⟩
theorem oStJ (X : Stand p l e R s m args below meth c T locs cells slots) (hx : p.tables.exec = Jvm.exec) (hZ : Z.Warmed39 s.vm) (eT : T.heap = h) (F : Arv Z h a k .long z vs dv) {j : Int32} {x : Int64} (hj : ¬ j < 0 ∧ j < z) (i : Nat) (hi : j.toNatClampNeg = i) (hl : i < vs.length) {g : JFrame} (hg : g.method = m) {rest : List Value} (hs : g.stack = .long x :: .int j :: .ref a :: rest) (hd : decode c.code g.pc = .ok (.lastore, 1)) :
    ∃ T' h', Stand p l e R s m args below meth c T' (locs ++ [⟨a, j.toNatClampNeg⟩]) cells slots ∧ T'.heap = h' ∧ Wr h h' a j.toNatClampNeg (.long x) ∧ Arv Z h' a k .long z (vs.set i (.long x)) dv ∧ ∀ target, Steps p.tables e below (T'.setTop { g with pc := g.pc + 1, stack := rest }) target → Steps p.tables e below (T.setTop g) target := by
  obtain ⟨cl, A, q1, S, M, H, G⟩ := F
  obtain ⟨T', h', X', e', W, st⟩ := stJ X hx hZ eT A (j := j) (inb_of S hj) hg hs hd
  exact ⟨T', h', X', e', W, Arv.set A q1 S M H G rfl W i hi hl, st⟩
theorem oStD (X : Stand p l e R s m args below meth c T locs cells slots) (hx : p.tables.exec = Jvm.exec) (hZ : Z.Warmed39 s.vm) (eT : T.heap = h) (F : Arv Z h a k .double z vs dv) {j : Int32} {x : UInt64} (hj : ¬ j < 0 ∧ j < z) (i : Nat) (hi : j.toNatClampNeg = i) (hl : i < vs.length) {g : JFrame} (hg : g.method = m) {rest : List Value} (hs : g.stack = .double x :: .int j :: .ref a :: rest) (hd : decode c.code g.pc = .ok (.dastore, 1)) :
    ∃ T' h', Stand p l e R s m args below meth c T' (locs ++ [⟨a, j.toNatClampNeg⟩]) cells slots ∧ T'.heap = h' ∧ Wr h h' a j.toNatClampNeg (.double x) ∧ Arv Z h' a k .double z (vs.set i (.double x)) dv ∧ ∀ target, Steps p.tables e below (T'.setTop { g with pc := g.pc + 1, stack := rest }) target → Steps p.tables e below (T.setTop g) target := by
  obtain ⟨cl, A, q1, S, M, H, G⟩ := F
  obtain ⟨T', h', X', e', W, st⟩ := stD X hx hZ eT A (j := j) (inb_of S hj) hg hs hd
  exact ⟨T', h', X', e', W, Arv.set A q1 S M H G rfl W i hi hl, st⟩
theorem oOpq {n0 : Nat} (X : Stand p l e R s m args below meth c T locs cells slots) (N : Fr n0 locs) : ∃ L, Stand p l e R s m args below meth c T L cells slots ∧ Fr n0 L := ⟨_, X, N⟩
end OwnKit
abbrev oi (x : Int32) : Slot := .val (.int x)
abbrev oj (x : Int64) : Slot := .val (.long x)
abbrev oa (x : Addr) : Slot := .val (.ref x)
abbrev od (x : UInt64) : Slot := .val (.double x)
abbrev oS (p : Program) (e : Env) (below : List Frame) (T : State) (m : MethodId) (pc : Nat) (L : Array Slot) (S : List Value) (t : State) : Prop := Steps p.tables e below (T.setTop (mkF m pc L S)) t
theorem own_ltp (x k : Int32) : (x < k) = (x.toInt < k.toInt) := propext Int32.lt_iff_toInt_lt
theorem own_eqp (x k : Int32) : (x = k) = (x.toInt = k.toInt) := propext Int32.toInt_inj.symm
theorem own_ltpL (x k : Int64) : (x < k) = (x.toInt < k.toInt) := propext Int64.lt_iff_toInt_lt
theorem own_eqpL (x k : Int64) : (x = k) = (x.toInt = k.toInt) := propext Int64.toInt_inj.symm
theorem own_of_range {P : Int32 → Prop} (n : Nat) (h : ∀ i : Fin n, P (Int32.ofNat i.1)) (x : Int32) (h0 : 0 ≤ x.toInt) (h1 : x.toInt < (n : Int)) : P x := by
  have e : Int32.ofNat x.toInt.toNat = x := by
    rw [← Int32.ofInt_eq_ofNat, Int.toNat_of_nonneg h0, Int32.ofInt_toInt]
  have q := h ⟨x.toInt.toNat, by omega⟩
  rwa [e] at q
theorem own_getD (ws : List Int32) (n : Nat) : (ws.map Value.int).getD n (.int (0 : Int32)) = .int (ws.getD n 0) := by
  simp only [List.getD_eq_getElem?_getD, List.getElem?_map]
  cases ws[n]? <;> rfl

theorem own_narb (x : Int32) : nar .byte (x.toInt8.toInt32) = x.toInt8.toInt32 := by
  show (x.toInt8.toInt32).toInt8.toInt32 = x.toInt8.toInt32
  simp

def own_g (x : Int32) : Int32 := (if x < (0 : Int32) then (0 : Int32) else (if (255 : Int32) < x then (0 : Int32) else (1 : Int32)))
theorem own_gk (x : Int32) : own_g x = 0 ∨ (own_g x = 1 ∧ ¬ (x < (0 : Int32)) ∧ ¬ ((255 : Int32) < x)) := by
  unfold own_g
  by_cases h : x < (0 : Int32)
  · rw [if_pos h]; exact Or.inl rfl
  · rw [if_neg h]
    by_cases h' : (255 : Int32) < x
    · rw [if_pos h']; exact Or.inl rfl
    · rw [if_neg h']; exact Or.inr ⟨rfl, h, h'⟩
theorem own_all1 {a : Int32} (h : ¬ ((1 : Int32) &&& own_g a) = (0 : Int32)) : ¬ (a < (0 : Int32)) ∧ ¬ ((255 : Int32) < a) := by
  rcases own_gk a with ha | ⟨-, ha⟩
  · rw [ha] at h; exact absurd (by decide) h
  · exact ha
theorem own_all2 {a b : Int32} (h : ¬ (((1 : Int32) &&& own_g a) &&& own_g b) = (0 : Int32)) : (¬ (a < (0 : Int32)) ∧ ¬ ((255 : Int32) < a)) ∧ (¬ (b < (0 : Int32)) ∧ ¬ ((255 : Int32) < b)) := by
  rcases own_gk a with ha | ⟨ea, ha⟩
  · rw [ha] at h; exact absurd (by rw [Int32.and_zero, Int32.zero_and]) h
  · rcases own_gk b with hb | ⟨eb, hb⟩
    · rw [hb] at h; exact absurd (by rw [Int32.and_zero]) h
    · exact ⟨ha, hb⟩
theorem own_all3 {a b c : Int32} (h : ¬ ((((1 : Int32) &&& own_g a) &&& own_g b) &&& own_g c) = (0 : Int32)) : (¬ (a < (0 : Int32)) ∧ ¬ ((255 : Int32) < a)) ∧ (¬ (b < (0 : Int32)) ∧ ¬ ((255 : Int32) < b)) ∧ (¬ (c < (0 : Int32)) ∧ ¬ ((255 : Int32) < c)) := by
  rcases own_gk a with ha | ⟨ea, ha⟩
  · rw [ha] at h; exact absurd (by rw [Int32.and_zero, Int32.zero_and, Int32.zero_and]) h
  · rcases own_gk b with hb | ⟨eb, hb⟩
    · rw [hb] at h; exact absurd (by rw [Int32.and_zero, Int32.zero_and]) h
    · rcases own_gk c with hc | ⟨ec, hc⟩
      · rw [hc] at h; exact absurd (by rw [Int32.and_zero]) h
      · exact ⟨ha, hb, hc⟩
theorem own_bb {x : Int32} (h : ¬ (x < (0 : Int32)) ∧ ¬ ((255 : Int32) < x)) : ((x.toInt8.toInt32) &&& (255 : Int32)) = x := by
  have e : ((x.toInt8.toInt32) &&& (255 : Int32)).toInt = (x.toInt8.toInt32).toInt % 256 := c_mask _ 255 8 (by decide) (by decide)
  have e2 := c_i2b x
  obtain ⟨h1, h2⟩ := h
  simp only [own_ltp, Int32.reduceToInt] at h1 h2
  refine Int32.toInt_inj.mp ?_
  omega
theorem own_pn0 : plainName "java/util/Arrays" = true := by first | (simp [plainName, overriddenIn]; done) | decide +kernel
theorem own_d3_0 : decode jdk_65_method_150_code 0 = .ok (.aload_n 0, 1) := by decide +kernel
theorem own_d3_1 : decode jdk_65_method_150_code 1 = .ok (.ifnonnull 5, 3) := by decide +kernel
theorem own_d3_6 : decode jdk_65_method_150_code 6 = .ok (.aload_n 0, 1) := by decide +kernel
theorem own_d3_7 : decode jdk_65_method_150_code 7 = .ok (.arraylength, 1) := by decide +kernel
theorem own_d3_8 : decode jdk_65_method_150_code 8 = .ok (.lookupswitch 41 #[(0, 28), (1, 32)], 28) := by decide +kernel
theorem own_d3_36 : decode jdk_65_method_150_code 36 = .ok (.iconst 1, 1) := by decide +kernel
theorem own_d3_37 : decode jdk_65_method_150_code 37 = .ok (.goto 22, 3) := by decide +kernel
theorem own_d3_59 : decode jdk_65_method_150_code 59 = .ok (.ireturn, 1) := by decide +kernel
theorem own_ef3_0 (m : MethodId) (a0 : Addr) : entryFrame m #[(.ref a0)] 1 = mkF m 0 #[oa a0] [] := by first | (simp [entryFrame, mkF, argsToLocals, Value.category]; done) | rfl
def own_f3_0  : Int32 := (1 : Int32)
def own_Q3_0 (Z : State) (a0 : Addr) (k_a0 : ClassId) (h0 : Heap) (n0 : Nat) (v : Option Value) (h : Heap) (L : List Loc) : Prop := v = some (Value.int own_f3_0) ∧ Fr n0 L ∧ h = h0
set_option maxRecDepth 65536 in
set_option maxHeartbeats 40000000 in
theorem own_rm3_0 (l : Launch) (Z : State) (av : Array Value) (hw : ∀ d ∈ tables_1, d.before av Z = true) (ws : List Jvm.Cond) (a0 : Addr) (k_a0 : ClassId) (h0 : Heap) (n0 : Nat) (Z0 : n0 ≤ h0.size) (V_a0 : Arv Z h0 a0 k_a0 .int (0 : Int32) [] (.int (0 : Int32))) (E_a0 : Exa Z h0 a0 "[I") :
    MetFree l (⟨"java/util/Arrays", "hashCode", "([I)I"⟩ : MethodName) (head1 (Jvm.Cond.code (⟨"java/util/Arrays", "hashCode", "([I)I"⟩ : MethodName) jdk_65_method_150_code 1 (some .int) :: ws) ({ frames := 0, cells := 0, slots := 0, locals := 0 } : Room)) (fun a U => a = #[(.ref a0)] ∧ Z.Warmed39 U.vm ∧ U.heap = h0) (fun _ _ _ _ _ => True) (fun _ U o U' => ∃ v L, o = .returned v ∧ own_Q3_0 Z a0 k_a0 h0 n0 v U'.heap L ∧ FrameEnd U o U' L ({ frames := 0, cells := 0, slots := 0, locals := 0 } : Room).cells ({ frames := 0, cells := 0, slots := 0, locals := 0 } : Room).slots) := by
  refine MetFree.of_bodySF (plainFor_of_name own_pn0) hisR ?_
  intro p e s m args below meth c s₁ Bd hml0 hP hK
  obtain ⟨rfl, hZ, hh⟩ := hP
  have hx := Bd.exec
  have hby := Bd.bytes
  have hml : c.maxLocals = 1 := hml0
  have hown : s.vm.findClass "java/util/Arrays" = some m.cls := findClass_of_methodNamed Bd.named
  have hnm := (name_of_methodNamed Bd.named Bd.method).1
  have X0 : Stand p l e ({ frames := 0, cells := 0, slots := 0, locals := 0 } : Room) s m #[(.ref a0)] below meth c s₁ [] 0 0 := Stand.of_body Bd
  have e0 : s₁.heap = h0 := by rw [← hh, Bd.state]; rfl
  have N0 := Fr.nil n0
  have pre0 : ∀ t, Steps p.tables e below (s₁.setTop (mkF m 0 #[oa a0] [])) t → Steps p.tables e below (s₁.setTop (entryFrame m #[(.ref a0)] 1)) t := fun t k => castTop (own_ef3_0 m a0) k
  obtain ⟨fs, hr, hrun, hended, hW, hsame⟩ := X0.leave (v := (some (.int (1 : Int32)))) (fun h => by rw [Bd.returns] at h; cases h)
  refine ⟨_, _, pre0 _ ?_, hrun, hended, _, _, rfl, ?_, ⟨_, rfl⟩, hW, hsame.mono (by decide) (by decide)⟩
  · show oS p e below s₁ m 0 #[oa a0] [] _
    refine XS.aloadN X0.here hx rfl (hb hby own_d3_0) rfl rfl ?_
    show oS p e below s₁ m 1 #[oa a0] [(.ref a0)] _
    refine XS.ifnonnullYes X0.here hx rfl (pc0 := 1) (pc' := 6) rfl (hb hby own_d3_1) rfl (by decide) (by decide) ?_
    show oS p e below s₁ m 6 #[oa a0] [] _
    refine XS.aloadN X0.here hx rfl (hb hby own_d3_6) rfl rfl ?_
    show oS p e below s₁ m 7 #[oa a0] [(.ref a0)] _
    refine oLen X0 hx hZ e0 V_a0 (hb hby own_d3_7) ?_
    show oS p e below s₁ m 8 #[oa a0] [(.int (0 : Int32))] _
    jvm_step X0.here [X0.here.top, hx, (hb hby own_d3_8), show ((0 : Int32).toInt) = 0 from by decide]
    show oS p e below s₁ m 36 #[oa a0] [] _
    refine XS.iconst X0.here hx rfl (hb hby own_d3_36) ?_
    show oS p e below s₁ m 37 #[oa a0] [(.int (1 : Int32))] _
    refine XS.goto X0.here hx rfl (pc0 := 37) (pc' := 59) rfl (hb hby own_d3_37) (by decide) (by decide) ?_
    show oS p e below s₁ m 59 #[oa a0] [(.int (1 : Int32))] _
    exact retOut X0 hx Bd.returns rfl (Or.inl ⟨rfl, Or.inl rfl, _, rfl⟩) (hb hby own_d3_59) hr
  · show own_Q3_0 Z a0 k_a0 h0 n0 _ s₁.heap _
    rw [e0]
    exact ⟨congrArg (fun z => some (Value.int z)) (by rw [own_f3_0]), N0, rfl⟩
theorem own_pd0 : parseMethodDescriptor "([I)I" = some ⟨[(.array .int)], some .int⟩ := by decide +kernel
theorem own_pn1 : plainName "com/example/penstock/penstock/Design" = true := by first | (simp [plainName, overriddenIn]; done) | decide +kernel
theorem own_d1_0 : decode prog_9_method_1_code 0 = .ok (.aload_n 0, 1) := by decide +kernel
theorem own_d1_1 : decode prog_9_method_1_code 1 = .ok (.invokespecial 1, 3) := by decide +kernel
theorem own_d1_4 : decode prog_9_method_1_code 4 = .ok (.iconst 1, 1) := by decide +kernel
theorem own_d1_5 : decode prog_9_method_1_code 5 = .ok (.istore_n 2, 1) := by decide +kernel
theorem own_d1_6 : decode prog_9_method_1_code 6 = .ok (.aload_n 1, 1) := by decide +kernel
theorem own_d1_7 : decode prog_9_method_1_code 7 = .ok (.astore_n 3, 1) := by decide +kernel
theorem own_d1_8 : decode prog_9_method_1_code 8 = .ok (.aload_n 3, 1) := by decide +kernel
theorem own_d1_9 : decode prog_9_method_1_code 9 = .ok (.arraylength, 1) := by decide +kernel
theorem own_d1_10 : decode prog_9_method_1_code 10 = .ok (.istore 4, 2) := by decide +kernel
theorem own_d1_12 : decode prog_9_method_1_code 12 = .ok (.iconst 0, 1) := by decide +kernel
theorem own_d1_13 : decode prog_9_method_1_code 13 = .ok (.istore 5, 2) := by decide +kernel
theorem own_d1_15 : decode prog_9_method_1_code 15 = .ok (.iload 5, 2) := by decide +kernel
theorem own_d1_17 : decode prog_9_method_1_code 17 = .ok (.iload 4, 2) := by decide +kernel
theorem own_d1_19 : decode prog_9_method_1_code 19 = .ok (.if_icmp .ge 36, 3) := by decide +kernel
theorem own_d1_55 : decode prog_9_method_1_code 55 = .ok (.iload_n 2, 1) := by decide +kernel
theorem own_d1_56 : decode prog_9_method_1_code 56 = .ok (.ifCond .eq 43, 3) := by decide +kernel
theorem own_d1_59 : decode prog_9_method_1_code 59 = .ok (.aload_n 0, 1) := by decide +kernel
theorem own_d1_60 : decode prog_9_method_1_code 60 = .ok (.aload_n 1, 1) := by decide +kernel
theorem own_d1_61 : decode prog_9_method_1_code 61 = .ok (.arraylength, 1) := by decide +kernel
theorem own_d1_62 : decode prog_9_method_1_code 62 = .ok (.newarray .byte, 2) := by decide +kernel
theorem own_d1_64 : decode prog_9_method_1_code 64 = .ok (.putfield 9, 3) := by decide +kernel
theorem own_d1_67 : decode prog_9_method_1_code 67 = .ok (.iconst 0, 1) := by decide +kernel
theorem own_d1_68 : decode prog_9_method_1_code 68 = .ok (.istore_n 3, 1) := by decide +kernel
theorem own_d1_69 : decode prog_9_method_1_code 69 = .ok (.iload_n 3, 1) := by decide +kernel
theorem own_d1_70 : decode prog_9_method_1_code 70 = .ok (.aload_n 1, 1) := by decide +kernel
theorem own_d1_71 : decode prog_9_method_1_code 71 = .ok (.arraylength, 1) := by decide +kernel
theorem own_d1_72 : decode prog_9_method_1_code 72 = .ok (.if_icmp .ge 19, 3) := by decide +kernel
theorem own_d1_91 : decode prog_9_method_1_code 91 = .ok (.aload_n 0, 1) := by decide +kernel
theorem own_d1_92 : decode prog_9_method_1_code 92 = .ok (.aconst_null, 1) := by decide +kernel
theorem own_d1_93 : decode prog_9_method_1_code 93 = .ok (.putfield 13, 3) := by decide +kernel
theorem own_d1_96 : decode prog_9_method_1_code 96 = .ok (.goto 19, 3) := by decide +kernel
theorem own_d1_115 : decode prog_9_method_1_code 115 = .ok (.aload_n 0, 1) := by decide +kernel
theorem own_d1_116 : decode prog_9_method_1_code 116 = .ok (.aload_n 1, 1) := by decide +kernel
theorem own_d1_117 : decode prog_9_method_1_code 117 = .ok (.invokestatic 22, 3) := by decide +kernel
theorem own_d1_120 : decode prog_9_method_1_code 120 = .ok (.putfield 28, 3) := by decide +kernel
theorem own_d1_123 : decode prog_9_method_1_code 123 = .ok (.return_, 1) := by decide +kernel
theorem own_ef1b0 (m : MethodId) (a0 : Addr) (a1 : Addr) : entryFrame m #[(.ref a0), (.ref a1)] 7 = mkF m 0 #[oa a0, oa a1, .unset, .unset, .unset, .unset, .unset] [] := by first | (simp [entryFrame, mkF, argsToLocals, Value.category]; done) | rfl
def own_Q1b0 (Z : State) (a0 : Addr) (a1 : Addr) (k_a1 : ClassId) (h0 : Heap) (n0 : Nat) (v : Option Value) (h : Heap) (L : List Loc) : Prop := ∃ (b : Addr) (k_b : ClassId), v = none ∧ Fr n0 L ∧ Keep h0 h [a0] ∧ h0.size ≤ b ∧ Exa Z h a0 "com/example/penstock/penstock/Design" ∧ Fld Z h a0 "com/example/penstock/penstock/Design" "byteIndices" "[B" (.ref b) ∧ Fld Z h a0 "com/example/penstock/penstock/Design" "intIndices" "[I" .null ∧ Arv Z h b k_b .byte (0 : Int32) [] (.int (0 : Int32))
set_option maxRecDepth 65536 in
set_option maxHeartbeats 40000000 in
theorem own_rm1b0 (l : Launch) (Z : State) (av : Array Value) (hw : ∀ d ∈ tables_1, d.before av Z = true) (ws : List Jvm.Cond) (a0 : Addr) (a1 : Addr) (k_a1 : ClassId) (h0 : Heap) (n0 : Nat) (Z0 : n0 ≤ h0.size) (E_a0 : Exa Z h0 a0 "com/example/penstock/penstock/Design") (F_byteIndices_a0 : Fld Z h0 a0 "com/example/penstock/penstock/Design" "byteIndices" "[B" .null) (F_intIndices_a0 : Fld Z h0 a0 "com/example/penstock/penstock/Design" "intIndices" "[I" .null) (F_hash_a0 : Fld Z h0 a0 "com/example/penstock/penstock/Design" "hash" "I" (.int (0 : Int32))) (g_a0 : n0 ≤ a0) (V_a1 : Arv Z h0 a1 k_a1 .int (0 : Int32) [] (.int (0 : Int32))) (E_a1 : Exa Z h0 a1 "[I") (n10 : a1 ≠ a0) :
    MetFree l (⟨"com/example/penstock/penstock/Design", "<init>", "([I)V"⟩ : MethodName) (head1 (Jvm.Cond.code (⟨"com/example/penstock/penstock/Design", "<init>", "([I)V"⟩ : MethodName) prog_9_method_1_code 7 none :: ws) ({ frames := 1, cells := 1, slots := 0, locals := 13 } : Room)) (fun a U => a = #[(.ref a0), (.ref a1)] ∧ Z.Warmed39 U.vm ∧ U.heap = h0) (fun _ _ _ _ _ => True) (fun _ U o U' => ∃ v L, o = .returned v ∧ own_Q1b0 Z a0 a1 k_a1 h0 n0 v U'.heap L ∧ FrameEnd U o U' L ({ frames := 1, cells := 1, slots := 0, locals := 13 } : Room).cells ({ frames := 1, cells := 1, slots := 0, locals := 13 } : Room).slots) := by
  refine MetFree.of_bodySF (plainFor_of_name own_pn1) hisR ?_
  intro p e s m args below meth c s₁ Bd hml0 hP hK
  obtain ⟨rfl, hZ, hh⟩ := hP
  have hx := Bd.exec
  have hby := Bd.bytes
  have hml : c.maxLocals = 7 := hml0
  have hown : s.vm.findClass "com/example/penstock/penstock/Design" = some m.cls := findClass_of_methodNamed Bd.named
  have hnm := (name_of_methodNamed Bd.named Bd.method).1
  have X0 : Stand p l e ({ frames := 1, cells := 1, slots := 0, locals := 13 } : Room) s m #[(.ref a0), (.ref a1)] below meth c s₁ [] 0 0 := Stand.of_body Bd
  have e0 : s₁.heap = h0 := by rw [← hh, Bd.state]; rfl
  have N0 := Fr.nil n0
  have pre0 : ∀ t, Steps p.tables e below (s₁.setTop (mkF m 0 #[oa a0, oa a1, .unset, .unset, .unset, .unset, .unset] [])) t → Steps p.tables e below (s₁.setTop (entryFrame m #[(.ref a0), (.ref a1)] 7)) t := fun t k => castTop (own_ef1b0 m a0 a1) k
  obtain ⟨T1, X1, e1, st1⟩ := initO X0 hx hZ hown (hw _ (List.mem_of_getElem? (i := 7) rfl)) (hw _ (List.mem_of_getElem? (i := 8) rfl)) (hw _ (List.mem_of_getElem? (i := 9) rfl)) e0 (g := (mkF m 1 #[oa a0, oa a1, .unset, .unset, .unset, .unset, .unset] [(.ref a0)])) rfl (by rw [hml]; rfl) rfl (hb hby own_d1_1) (by decide) (W := 0) (by show 2 * 0 + _ ≤ _; exact Nat.le_of_eq rfl) (by decide)
  have b2 : ¬ ((0 : Int32) < (0 : Int32)) := (by decide)
  have b3 : ¬ ((1 : Int32) = (0 : Int32)) := (by decide)
  obtain ⟨T4, h4, k4, X4, e4, E4, A4, B4, st4⟩ := newPE X1 hx hZ (hw _ (List.mem_of_getElem? (i := 10) rfl)) e1 (g := (mkF m 62 #[oa a0, oa a1, oi (1 : Int32), oa a1, oi (0 : Int32), oi (0 : Int32), .unset] [(.int (0 : Int32)), (.ref a0)])) rfl (hb hby own_d1_62) rfl (by decide) (cap := 0) (by decide) (by decide) (by decide) (by decide) (ad := "[B") rfl
  obtain ⟨b4, g4⟩ : ∃ z, z = h0.size := ⟨_, rfl⟩
  rw [← g4] at A4 st4 B4
  have g_b4 : n0 ≤ b4 := Nat.le_trans Z0 (Nat.le_of_eq g4.symm)
  have ne5 : a0 ≠ b4 := Nat.ne_of_lt (Nat.lt_of_lt_of_le E_a0.lt (Nat.le_of_eq g4.symm))
  have ne6 : a1 ≠ b4 := Nat.ne_of_lt (Nat.lt_of_lt_of_le V_a1.lt (Nat.le_of_eq g4.symm))
  have Z4 : n0 ≤ h4.size := Nat.le_trans Z0 E4.1
  have sz_b4 : h0.size ≤ b4 := Nat.le_trans (Keep.refl h0 [a0]).1 (Nat.le_of_eq g4.symm)
  have K_7 : Keep h0 h4 [a0] := (Keep.refl h0 [a0]).ext E4
  have F8 := E_a0.ext E4
  have F9 := F_byteIndices_a0.ext E4
  have F10 := F_intIndices_a0.ext E4
  have F11 := F_hash_a0.ext E4
  have F12 := V_a1.ext E4
  have F13 := E_a1.ext E4
  have V_14 : Arv Z h4 b4 k4 .byte (0 : Int32) [] (.int (0 : Int32)) := (Arv.new A4 (by decide))
  obtain ⟨T15, h15, X15, e15, W15, st15⟩ := putF X4 hx hZ hown (host := "") (Or.inl (hw _ (List.mem_of_getElem? (i := 11) rfl))) Via.refl e4 F9 F8 (Or.inr ⟨(hw _ (List.mem_of_getElem? (i := 12) rfl)), rfl, hnm⟩) (hw _ (List.mem_of_getElem? (i := 2) rfl)) (ty := (.array .byte)) (by decide) rfl rfl (g := (mkF m 64 #[oa a0, oa a1, oi (1 : Int32), oa a1, oi (0 : Int32), oi (0 : Int32), .unset] [(.ref b4), (.ref a0)])) rfl rfl (hb hby own_d1_64)
  obtain ⟨Lo15, X15, N15⟩ := oOpq X15 (Fr.snoc X15 N0 g_a0)
  have Z15 : n0 ≤ h15.size := Nat.le_trans Z4 (Keep.of_wr W15).1
  have F16 := F8.wr W15
  have F17 := F10.other W15 (Or.inr (slot_ne (Or.inr (hw _ (List.mem_of_getElem? (i := 14) rfl))) (Or.inr (hw _ (List.mem_of_getElem? (i := 12) rfl))) (by decide) (t := (.array .int)) (t' := (.array .byte)) (by decide) (by decide)))
  have F18 := F11.other W15 (Or.inr (slot_ne (Or.inr (hw _ (List.mem_of_getElem? (i := 20) rfl))) (Or.inr (hw _ (List.mem_of_getElem? (i := 12) rfl))) (by decide) (t := .int) (t' := (.array .byte)) (by decide) (by decide)))
  have F19 := F12.other W15 n10
  have F20 := F13.wr W15
  have F21 := V_14.other W15 (Ne.symm ne5)
  have F22 := B4.wr W15
  have F_23 : Fld Z h15 a0 "com/example/penstock/penstock/Design" "byteIndices" "[B" (.ref b4) := F9.same W15
  have K_24 : Keep h0 h15 [a0] := K_7.wr W15 (Or.inl (List.mem_of_getElem? (i := 0) rfl))
  have b25 : ¬ ((0 : Int32) < (0 : Int32)) := (by decide)
  obtain ⟨T26, h26, X26, e26, W26, st26⟩ := putF X15 hx hZ hown (host := "") (Or.inl (hw _ (List.mem_of_getElem? (i := 13) rfl))) Via.refl e15 F17 F16 (Or.inr ⟨(hw _ (List.mem_of_getElem? (i := 14) rfl)), rfl, hnm⟩) (hw _ (List.mem_of_getElem? (i := 2) rfl)) (ty := (.array .int)) (by decide) rfl rfl (g := (mkF m 93 #[oa a0, oa a1, oi (1 : Int32), oi (0 : Int32), oi (0 : Int32), oi (0 : Int32), .unset] [.null, (.ref a0)])) rfl rfl (hb hby own_d1_93)
  obtain ⟨Lo26, X26, N26⟩ := oOpq X26 (Fr.snoc X26 N15 g_a0)
  have Z26 : n0 ≤ h26.size := Nat.le_trans Z15 (Keep.of_wr W26).1
  have F27 := F16.wr W26
  have F28 := F_23.other W26 (Or.inr (slot_ne (Or.inr (hw _ (List.mem_of_getElem? (i := 12) rfl))) (Or.inr (hw _ (List.mem_of_getElem? (i := 14) rfl))) (by decide) (t := (.array .byte)) (t' := (.array .int)) (by decide) (by decide)))
  have F29 := F18.other W26 (Or.inr (slot_ne (Or.inr (hw _ (List.mem_of_getElem? (i := 20) rfl))) (Or.inr (hw _ (List.mem_of_getElem? (i := 14) rfl))) (by decide) (t := .int) (t' := (.array .int)) (by decide) (by decide)))
  have F30 := F19.other W26 n10
  have F31 := F20.wr W26
  have F32 := F21.other W26 (Ne.symm ne5)
  have F33 := F22.wr W26
  have F_34 : Fld Z h26 a0 "com/example/penstock/penstock/Design" "intIndices" "[I" .null := F17.same W26
  have K_35 : Keep h0 h26 [a0] := K_24.wr W26 (Or.inl (List.mem_of_getElem? (i := 0) rfl))
  obtain ⟨_, _, ⟨T36, L36, k36, n36⟩, -, X36, ⟨Lc36, hQ36, l36, y36, z36⟩, st36⟩ := Jvm.LawKit.callS X26 hx (y := (⟨"java/util/Arrays", "hashCode", "([I)I"⟩ : MethodName)) hown (mvT hZ (hw _ (List.mem_of_getElem? (i := 15) rfl))) (mvT hZ (hw _ (List.mem_of_getElem? (i := 16) rfl))) (mvT hZ (hw _ (List.mem_of_getElem? (i := 17) rfl))) (mvT hZ (hw _ (List.mem_of_getElem? (i := 18) rfl))) (by decide) (backOf (W := 1) (own_rm3_0 l Z av hw [] a1 k_a1 h26 n0 Z26 F30 F31) hZ (hw _ (List.mem_of_getElem? (i := 18) rfl)) (hw _ (List.mem_of_getElem? (i := 17) rfl)) (by decide) (by decide)) (g := (mkF m 117 #[oa a0, oa a1, oi (1 : Int32), oi (0 : Int32), oi (0 : Int32), oi (0 : Int32), .unset] [(.ref a1), (.ref a0)])) rfl (by rw [hml]; rfl) (argsL := [(.ref a1)]) (rest := [(.ref a0)]) (lenOf own_pd0 rfl) rfl (by show 2 * 0 + _ ≤ _; exact Nat.le_of_eq rfl) (hb hby own_d1_117) (fun _ _ => ⟨rfl, e26, (by decide : 1 + 0 ≤ _), (by decide : 0 + 0 ≤ _)⟩)
  dsimp only [Pt.U, Pt.locs, Pt.cells, Pt.slots] at X36 l36 y36 z36 st36 hQ36
  have yq36 : k36 = 1 := y36
  have zq36 : n36 = 0 := z36
  subst yq36 zq36
  obtain ⟨rfl, Nq36, eq36⟩ := hQ36
  have N36 : Fr n0 L36 := by rw [l36]; exact Fr.app N26 Nq36
  obtain ⟨T37, h37, X37, e37, W37, st37⟩ := putF X36 hx hZ hown (host := "") (Or.inl (hw _ (List.mem_of_getElem? (i := 19) rfl))) Via.refl eq36 F29 F27 (Or.inr ⟨(hw _ (List.mem_of_getElem? (i := 20) rfl)), rfl, hnm⟩) (hw _ (List.mem_of_getElem? (i := 2) rfl)) (ty := .int) (by decide) rfl rfl (g := (mkF m 120 #[oa a0, oa a1, oi (1 : Int32), oi (0 : Int32), oi (0 : Int32), oi (0 : Int32), .unset] [(.int (own_f3_0 )), (.ref a0)])) rfl rfl (hb hby own_d1_120)
  obtain ⟨Lo37, X37, N37⟩ := oOpq X37 (Fr.snoc X37 N36 g_a0)
  have Z37 : n0 ≤ h37.size := Nat.le_trans Z26 (Keep.of_wr W37).1
  have F38 := F27.wr W37
  have F39 := F28.other W37 (Or.inr (slot_ne (Or.inr (hw _ (List.mem_of_getElem? (i := 12) rfl))) (Or.inr (hw _ (List.mem_of_getElem? (i := 20) rfl))) (by decide) (t := (.array .byte)) (t' := .int) (by decide) (by decide)))
  have F40 := F_34.other W37 (Or.inr (slot_ne (Or.inr (hw _ (List.mem_of_getElem? (i := 14) rfl))) (Or.inr (hw _ (List.mem_of_getElem? (i := 20) rfl))) (by decide) (t := (.array .int)) (t' := .int) (by decide) (by decide)))
  have F41 := F30.other W37 n10
  have F42 := F31.wr W37
  have F43 := F32.other W37 (Ne.symm ne5)
  have F44 := F33.wr W37
  have F_45 : Fld Z h37 a0 "com/example/penstock/penstock/Design" "hash" "I" (.int (own_f3_0 )) := F29.same W37
  have K_46 : Keep h0 h37 [a0] := K_35.wr W37 (Or.inl (List.mem_of_getElem? (i := 0) rfl))
  obtain ⟨fs, hr, hrun, hended, hW, hsame⟩ := X37.leave (v := none) (fun _ => rfl)
  refine ⟨_, _, pre0 _ ?_, hrun, hended, _, _, rfl, ?_, ⟨_, rfl⟩, hW, hsame.mono (by decide) (by decide)⟩
  · show oS p e below s₁ m 0 #[oa a0, oa a1, .unset, .unset, .unset, .unset, .unset] [] _
    refine XS.aloadN X0.here hx rfl (hb hby own_d1_0) rfl rfl ?_
    show oS p e below s₁ m 1 #[oa a0, oa a1, .unset, .unset, .unset, .unset, .unset] [(.ref a0)] _
    refine st1 _ ?_
    show oS p e below T1 m 4 #[oa a0, oa a1, .unset, .unset, .unset, .unset, .unset] [] _
    refine XS.iconst X1.here hx rfl (hb hby own_d1_4) ?_
    show oS p e below T1 m 5 #[oa a0, oa a1, .unset, .unset, .unset, .unset, .unset] [(.int (1 : Int32))] _
    refine XS.istoreN X1.here hx rfl (hb hby own_d1_5) rfl (l' := #[oa a0, oa a1, oi (1 : Int32), .unset, .unset, .unset, .unset]) rfl ?_
    show oS p e below T1 m 6 #[oa a0, oa a1, oi (1 : Int32), .unset, .unset, .unset, .unset] [] _
    refine XS.aloadN X1.here hx rfl (hb hby own_d1_6) rfl rfl ?_
    show oS p e below T1 m 7 #[oa a0, oa a1, oi (1 : Int32), .unset, .unset, .unset, .unset] [(.ref a1)] _
    refine XS.astoreN X1.here hx rfl (hb hby own_d1_7) rfl rfl (l' := #[oa a0, oa a1, oi (1 : Int32), oa a1, .unset, .unset, .unset]) rfl ?_
    show oS p e below T1 m 8 #[oa a0, oa a1, oi (1 : Int32), oa a1, .unset, .unset, .unset] [] _
    refine XS.aloadN X1.here hx rfl (hb hby own_d1_8) rfl rfl ?_
    show oS p e below T1 m 9 #[oa a0, oa a1, oi (1 : Int32), oa a1, .unset, .unset, .unset] [(.ref a1)] _
    refine oLen X1 hx hZ e1 V_a1 (hb hby own_d1_9) ?_
    show oS p e below T1 m 10 #[oa a0, oa a1, oi (1 : Int32), oa a1, .unset, .unset, .unset] [(.int (0 : Int32))] _
    refine XS.istore X1.here hx rfl (hb hby own_d1_10) rfl (l' := #[oa a0, oa a1, oi (1 : Int32), oa a1, oi (0 : Int32), .unset, .unset]) rfl ?_
    show oS p e below T1 m 12 #[oa a0, oa a1, oi (1 : Int32), oa a1, oi (0 : Int32), .unset, .unset] [] _
    refine XS.iconst X1.here hx rfl (hb hby own_d1_12) ?_
    show oS p e below T1 m 13 #[oa a0, oa a1, oi (1 : Int32), oa a1, oi (0 : Int32), .unset, .unset] [(.int (0 : Int32))] _
    refine XS.istore X1.here hx rfl (hb hby own_d1_13) rfl (l' := #[oa a0, oa a1, oi (1 : Int32), oa a1, oi (0 : Int32), oi (0 : Int32), .unset]) rfl ?_
    show oS p e below T1 m 15 #[oa a0, oa a1, oi (1 : Int32), oa a1, oi (0 : Int32), oi (0 : Int32), .unset] [] _
    refine XS.iload X1.here hx rfl (hb hby own_d1_15) rfl ?_
    show oS p e below T1 m 17 #[oa a0, oa a1, oi (1 : Int32), oa a1, oi (0 : Int32), oi (0 : Int32), .unset] [(.int (0 : Int32))] _
    refine XS.iload X1.here hx rfl (hb hby own_d1_17) rfl ?_
    show oS p e below T1 m 19 #[oa a0, oa a1, oi (1 : Int32), oa a1, oi (0 : Int32), oi (0 : Int32), .unset] [(.int (0 : Int32)), (.int (0 : Int32))] _
    refine XS.icmpYes X1.here hx rfl (pc0 := 19) (pc' := 55) rfl (hb hby own_d1_19) rfl (flt b2).2.1 (by decide) (by decide) ?_
    show oS p e below T1 m 55 #[oa a0, oa a1, oi (1 : Int32), oa a1, oi (0 : Int32), oi (0 : Int32), .unset] [] _
    refine XS.iloadN X1.here hx rfl (hb hby own_d1_55) rfl ?_
    show oS p e below T1 m 56 #[oa a0, oa a1, oi (1 : Int32), oa a1, oi (0 : Int32), oi (0 : Int32), .unset] [(.int (1 : Int32))] _
    refine XS.ifNo X1.here hx rfl (hb hby own_d1_56) rfl ((if0 _ _).trans (feq b3).1) ?_
    show oS p e below T1 m 59 #[oa a0, oa a1, oi (1 : Int32), oa a1, oi (0 : Int32), oi (0 : Int32), .unset] [] _
    refine XS.aloadN X1.here hx rfl (hb hby own_d1_59) rfl rfl ?_
    show oS p e below T1 m 60 #[oa a0, oa a1, oi (1 : Int32), oa a1, oi (0 : Int32), oi (0 : Int32), .unset] [(.ref a0)] _
    refine XS.aloadN X1.here hx rfl (hb hby own_d1_60) rfl rfl ?_
    show oS p e below T1 m 61 #[oa a0, oa a1, oi (1 : Int32), oa a1, oi (0 : Int32), oi (0 : Int32), .unset] [(.ref a1), (.ref a0)] _
    refine oLen X1 hx hZ e1 V_a1 (hb hby own_d1_61) ?_
    show oS p e below T1 m 62 #[oa a0, oa a1, oi (1 : Int32), oa a1, oi (0 : Int32), oi (0 : Int32), .unset] [(.int (0 : Int32)), (.ref a0)] _
    refine st4 _ ?_
    show oS p e below T4 m 64 #[oa a0, oa a1, oi (1 : Int32), oa a1, oi (0 : Int32), oi (0 : Int32), .unset] [(.ref b4), (.ref a0)] _
    refine st15 _ ?_
    show oS p e below T15 m 67 #[oa a0, oa a1, oi (1 : Int32), oa a1, oi (0 : Int32), oi (0 : Int32), .unset] [] _
    refine XS.iconst X15.here hx rfl (hb hby own_d1_67) ?_
    show oS p e below T15 m 68 #[oa a0, oa a1, oi (1 : Int32), oa a1, oi (0 : Int32), oi (0 : Int32), .unset] [(.int (0 : Int32))] _
    refine XS.istoreN X15.here hx rfl (hb hby own_d1_68) rfl (l' := #[oa a0, oa a1, oi (1 : Int32), oi (0 : Int32), oi (0 : Int32), oi (0 : Int32), .unset]) rfl ?_
    show oS p e below T15 m 69 #[oa a0, oa a1, oi (1 : Int32), oi (0 : Int32), oi (0 : Int32), oi (0 : Int32), .unset] [] _
    refine XS.iloadN X15.here hx rfl (hb hby own_d1_69) rfl ?_
    show oS p e below T15 m 70 #[oa a0, oa a1, oi (1 : Int32), oi (0 : Int32), oi (0 : Int32), oi (0 : Int32), .unset] [(.int (0 : Int32))] _
    refine XS.aloadN X15.here hx rfl (hb hby own_d1_70) rfl rfl ?_
    show oS p e below T15 m 71 #[oa a0, oa a1, oi (1 : Int32), oi (0 : Int32), oi (0 : Int32), oi (0 : Int32), .unset] [(.ref a1), (.int (0 : Int32))] _
    refine oLen X15 hx hZ e15 F19 (hb hby own_d1_71) ?_
    show oS p e below T15 m 72 #[oa a0, oa a1, oi (1 : Int32), oi (0 : Int32), oi (0 : Int32), oi (0 : Int32), .unset] [(.int (0 : Int32)), (.int (0 : Int32))] _
    refine XS.icmpYes X15.here hx rfl (pc0 := 72) (pc' := 91) rfl (hb hby own_d1_72) rfl (flt b25).2.1 (by decide) (by decide) ?_
    show oS p e below T15 m 91 #[oa a0, oa a1, oi (1 : Int32), oi (0 : Int32), oi (0 : Int32), oi (0 : Int32), .unset] [] _
    refine XS.aloadN X15.here hx rfl (hb hby own_d1_91) rfl rfl ?_
    show oS p e below T15 m 92 #[oa a0, oa a1, oi (1 : Int32), oi (0 : Int32), oi (0 : Int32), oi (0 : Int32), .unset] [(.ref a0)] _
    refine XS.aconstNull X15.here hx rfl (hb hby own_d1_92) ?_
    show oS p e below T15 m 93 #[oa a0, oa a1, oi (1 : Int32), oi (0 : Int32), oi (0 : Int32), oi (0 : Int32), .unset] [.null, (.ref a0)] _
    refine st26 _ ?_
    show oS p e below T26 m 96 #[oa a0, oa a1, oi (1 : Int32), oi (0 : Int32), oi (0 : Int32), oi (0 : Int32), .unset] [] _
    refine XS.goto X26.here hx rfl (pc0 := 96) (pc' := 115) rfl (hb hby own_d1_96) (by decide) (by decide) ?_
    show oS p e below T26 m 115 #[oa a0, oa a1, oi (1 : Int32), oi (0 : Int32), oi (0 : Int32), oi (0 : Int32), .unset] [] _
    refine XS.aloadN X26.here hx rfl (hb hby own_d1_115) rfl rfl ?_
    show oS p e below T26 m 116 #[oa a0, oa a1, oi (1 : Int32), oi (0 : Int32), oi (0 : Int32), oi (0 : Int32), .unset] [(.ref a0)] _
    refine XS.aloadN X26.here hx rfl (hb hby own_d1_116) rfl rfl ?_
    show oS p e below T26 m 117 #[oa a0, oa a1, oi (1 : Int32), oi (0 : Int32), oi (0 : Int32), oi (0 : Int32), .unset] [(.ref a1), (.ref a0)] _
    refine st36 _ ?_
    show oS p e below T36 m 120 #[oa a0, oa a1, oi (1 : Int32), oi (0 : Int32), oi (0 : Int32), oi (0 : Int32), .unset] [(.int (own_f3_0 )), (.ref a0)] _
    refine st37 _ ?_
    show oS p e below T37 m 123 #[oa a0, oa a1, oi (1 : Int32), oi (0 : Int32), oi (0 : Int32), oi (0 : Int32), .unset] [] _
    exact X37.returnOut hx Bd.returns (hb hby own_d1_123) hr
  · show own_Q1b0 Z a0 a1 k_a1 h0 n0 _ T37.heap _
    rw [e37]
    exact ⟨b4, k4, rfl, N37, K_46, sz_b4, F38, F39, F40, F43⟩
theorem own_d3_40 : decode jdk_65_method_150_code 40 = .ok (.bipush 31, 2) := by decide +kernel
theorem own_d3_42 : decode jdk_65_method_150_code 42 = .ok (.aload_n 0, 1) := by decide +kernel
theorem own_d3_43 : decode jdk_65_method_150_code 43 = .ok (.iconst 0, 1) := by decide +kernel
theorem own_d3_44 : decode jdk_65_method_150_code 44 = .ok (.iaload, 1) := by decide +kernel
theorem own_d3_45 : decode jdk_65_method_150_code 45 = .ok (.iadd, 1) := by decide +kernel
theorem own_d3_46 : decode jdk_65_method_150_code 46 = .ok (.goto 13, 3) := by decide +kernel
theorem own_ef3_1 (m : MethodId) (a0 : Addr) : entryFrame m #[(.ref a0)] 1 = mkF m 0 #[oa a0] [] := by first | (simp [entryFrame, mkF, argsToLocals, Value.category]; done) | rfl
def own_f3_1 (x0 : Int32) : Int32 := ((31 : Int32) + x0)
def own_Q3_1 (Z : State) (a0 : Addr) (k_a0 : ClassId) (x0 : Int32) (h0 : Heap) (n0 : Nat) (v : Option Value) (h : Heap) (L : List Loc) : Prop := v = some (Value.int (own_f3_1 x0)) ∧ Fr n0 L ∧ h = h0
set_option maxRecDepth 65536 in
set_option maxHeartbeats 40000000 in
theorem own_rm3_1 (l : Launch) (Z : State) (av : Array Value) (hw : ∀ d ∈ tables_1, d.before av Z = true) (ws : List Jvm.Cond) (a0 : Addr) (k_a0 : ClassId) (x0 : Int32) (h0 : Heap) (n0 : Nat) (Z0 : n0 ≤ h0.size) (V_a0 : Arv Z h0 a0 k_a0 .int (1 : Int32) [(.int x0)] (.int (0 : Int32))) (E_a0 : Exa Z h0 a0 "[I") :
    MetFree l (⟨"java/util/Arrays", "hashCode", "([I)I"⟩ : MethodName) (head1 (Jvm.Cond.code (⟨"java/util/Arrays", "hashCode", "([I)I"⟩ : MethodName) jdk_65_method_150_code 1 (some .int) :: ws) ({ frames := 0, cells := 0, slots := 0, locals := 0 } : Room)) (fun a U => a = #[(.ref a0)] ∧ Z.Warmed39 U.vm ∧ U.heap = h0) (fun _ _ _ _ _ => True) (fun _ U o U' => ∃ v L, o = .returned v ∧ own_Q3_1 Z a0 k_a0 x0 h0 n0 v U'.heap L ∧ FrameEnd U o U' L ({ frames := 0, cells := 0, slots := 0, locals := 0 } : Room).cells ({ frames := 0, cells := 0, slots := 0, locals := 0 } : Room).slots) := by
  refine MetFree.of_bodySF (plainFor_of_name own_pn0) hisR ?_
  intro p e s m args below meth c s₁ Bd hml0 hP hK
  obtain ⟨rfl, hZ, hh⟩ := hP
  have hx := Bd.exec
  have hby := Bd.bytes
  have hml : c.maxLocals = 1 := hml0
  have hown : s.vm.findClass "java/util/Arrays" = some m.cls := findClass_of_methodNamed Bd.named
  have hnm := (name_of_methodNamed Bd.named Bd.method).1
  have X0 : Stand p l e ({ frames := 0, cells := 0, slots := 0, locals := 0 } : Room) s m #[(.ref a0)] below meth c s₁ [] 0 0 := Stand.of_body Bd
  have e0 : s₁.heap = h0 := by rw [← hh, Bd.state]; rfl
  have N0 := Fr.nil n0
  have pre0 : ∀ t, Steps p.tables e below (s₁.setTop (mkF m 0 #[oa a0] [])) t → Steps p.tables e below (s₁.setTop (entryFrame m #[(.ref a0)] 1)) t := fun t k => castTop (own_ef3_1 m a0) k
  obtain ⟨fs, hr, hrun, hended, hW, hsame⟩ := X0.leave (v := (some (.int ((31 : Int32) + x0)))) (fun h => by rw [Bd.returns] at h; cases h)
  refine ⟨_, _, pre0 _ ?_, hrun, hended, _, _, rfl, ?_, ⟨_, rfl⟩, hW, hsame.mono (by decide) (by decide)⟩
  · show oS p e below s₁ m 0 #[oa a0] [] _
    refine XS.aloadN X0.here hx rfl (hb hby own_d3_0) rfl rfl ?_
    show oS p e below s₁ m 1 #[oa a0] [(.ref a0)] _
    refine XS.ifnonnullYes X0.here hx rfl (pc0 := 1) (pc' := 6) rfl (hb hby own_d3_1) rfl (by decide) (by decide) ?_
    show oS p e below s₁ m 6 #[oa a0] [] _
    refine XS.aloadN X0.here hx rfl (hb hby own_d3_6) rfl rfl ?_
    show oS p e below s₁ m 7 #[oa a0] [(.ref a0)] _
    refine oLen X0 hx hZ e0 V_a0 (hb hby own_d3_7) ?_
    show oS p e below s₁ m 8 #[oa a0] [(.int (1 : Int32))] _
    jvm_step X0.here [X0.here.top, hx, (hb hby own_d3_8), show ((1 : Int32).toInt) = 1 from by decide]
    show oS p e below s₁ m 40 #[oa a0] [] _
    refine XS.bipush X0.here hx rfl (hb hby own_d3_40) ?_
    show oS p e below s₁ m 42 #[oa a0] [(.int (31 : Int32))] _
    refine XS.aloadN X0.here hx rfl (hb hby own_d3_42) rfl rfl ?_
    show oS p e below s₁ m 43 #[oa a0] [(.ref a0), (.int (31 : Int32))] _
    refine XS.iconst X0.here hx rfl (hb hby own_d3_43) ?_
    show oS p e below s₁ m 44 #[oa a0] [(.int (0 : Int32)), (.ref a0), (.int (31 : Int32))] _
    refine oLdI X0 hx hZ e0 V_a0 (v := (.int x0)) ⟨by decide, by decide⟩ rfl (hb hby own_d3_44) ?_
    show oS p e below s₁ m 45 #[oa a0] [(.int x0), (.int (31 : Int32))] _
    refine XS.iadd X0.here hx rfl (hb hby own_d3_45) rfl ?_
    show oS p e below s₁ m 46 #[oa a0] [(.int ((31 : Int32) + x0))] _
    refine XS.goto X0.here hx rfl (pc0 := 46) (pc' := 59) rfl (hb hby own_d3_46) (by decide) (by decide) ?_
    show oS p e below s₁ m 59 #[oa a0] [(.int ((31 : Int32) + x0))] _
    exact retOut X0 hx Bd.returns rfl (Or.inl ⟨rfl, Or.inl rfl, _, rfl⟩) (hb hby own_d3_59) hr
  · show own_Q3_1 Z a0 k_a0 x0 h0 n0 _ s₁.heap _
    rw [e0]
    exact ⟨congrArg (fun z => some (Value.int z)) (by rw [own_f3_1]), N0, rfl⟩
theorem own_d1_22 : decode prog_9_method_1_code 22 = .ok (.aload_n 3, 1) := by decide +kernel
theorem own_d1_23 : decode prog_9_method_1_code 23 = .ok (.iload 5, 2) := by decide +kernel
theorem own_d1_25 : decode prog_9_method_1_code 25 = .ok (.iaload, 1) := by decide +kernel
theorem own_d1_26 : decode prog_9_method_1_code 26 = .ok (.istore 6, 2) := by decide +kernel
theorem own_d1_28 : decode prog_9_method_1_code 28 = .ok (.iload_n 2, 1) := by decide +kernel
theorem own_d1_29 : decode prog_9_method_1_code 29 = .ok (.iload 6, 2) := by decide +kernel
theorem own_d1_31 : decode prog_9_method_1_code 31 = .ok (.ifCond .lt 15, 3) := by decide +kernel
theorem own_d1_34 : decode prog_9_method_1_code 34 = .ok (.iload 6, 2) := by decide +kernel
theorem own_d1_36 : decode prog_9_method_1_code 36 = .ok (.sipush 255, 3) := by decide +kernel
theorem own_d1_39 : decode prog_9_method_1_code 39 = .ok (.if_icmp .gt 7, 3) := by decide +kernel
theorem own_d1_42 : decode prog_9_method_1_code 42 = .ok (.iconst 1, 1) := by decide +kernel
theorem own_d1_43 : decode prog_9_method_1_code 43 = .ok (.goto 4, 3) := by decide +kernel
theorem own_d1_47 : decode prog_9_method_1_code 47 = .ok (.iand, 1) := by decide +kernel
theorem own_d1_48 : decode prog_9_method_1_code 48 = .ok (.istore_n 2, 1) := by decide +kernel
theorem own_d1_49 : decode prog_9_method_1_code 49 = .ok (.iinc 5 1, 3) := by decide +kernel
theorem own_d1_52 : decode prog_9_method_1_code 52 = .ok (.goto (-37), 3) := by decide +kernel
theorem own_d1_75 : decode prog_9_method_1_code 75 = .ok (.aload_n 0, 1) := by decide +kernel
theorem own_d1_76 : decode prog_9_method_1_code 76 = .ok (.getfield 9, 3) := by decide +kernel
theorem own_d1_79 : decode prog_9_method_1_code 79 = .ok (.iload_n 3, 1) := by decide +kernel
theorem own_d1_80 : decode prog_9_method_1_code 80 = .ok (.aload_n 1, 1) := by decide +kernel
theorem own_d1_81 : decode prog_9_method_1_code 81 = .ok (.iload_n 3, 1) := by decide +kernel
theorem own_d1_82 : decode prog_9_method_1_code 82 = .ok (.iaload, 1) := by decide +kernel
theorem own_d1_83 : decode prog_9_method_1_code 83 = .ok (.i2b, 1) := by decide +kernel
theorem own_d1_84 : decode prog_9_method_1_code 84 = .ok (.bastore, 1) := by decide +kernel
theorem own_d1_85 : decode prog_9_method_1_code 85 = .ok (.iinc 3 1, 3) := by decide +kernel
theorem own_d1_88 : decode prog_9_method_1_code 88 = .ok (.goto (-19), 3) := by decide +kernel
theorem own_ef1b1 (m : MethodId) (a0 : Addr) (a1 : Addr) : entryFrame m #[(.ref a0), (.ref a1)] 7 = mkF m 0 #[oa a0, oa a1, .unset, .unset, .unset, .unset, .unset] [] := by first | (simp [entryFrame, mkF, argsToLocals, Value.category]; done) | rfl
def own_Q1b1 (Z : State) (a0 : Addr) (a1 : Addr) (k_a1 : ClassId) (x0 : Int32) (h0 : Heap) (n0 : Nat) (v : Option Value) (h : Heap) (L : List Loc) : Prop := ∃ (b : Addr) (k_b : ClassId), v = none ∧ Fr n0 L ∧ Keep h0 h [a0] ∧ h0.size ≤ b ∧ Exa Z h a0 "com/example/penstock/penstock/Design" ∧ Fld Z h a0 "com/example/penstock/penstock/Design" "byteIndices" "[B" (.ref b) ∧ Fld Z h a0 "com/example/penstock/penstock/Design" "intIndices" "[I" .null ∧ Arv Z h b k_b .byte (1 : Int32) [(.int (x0.toInt8.toInt32))] (.int (0 : Int32))
set_option maxRecDepth 65536 in
set_option maxHeartbeats 40000000 in
theorem own_rm1b1 (l : Launch) (Z : State) (av : Array Value) (hw : ∀ d ∈ tables_1, d.before av Z = true) (ws : List Jvm.Cond) (a0 : Addr) (a1 : Addr) (k_a1 : ClassId) (x0 : Int32) (h0 : Heap) (n0 : Nat) (Z0 : n0 ≤ h0.size) (E_a0 : Exa Z h0 a0 "com/example/penstock/penstock/Design") (F_byteIndices_a0 : Fld Z h0 a0 "com/example/penstock/penstock/Design" "byteIndices" "[B" .null) (F_intIndices_a0 : Fld Z h0 a0 "com/example/penstock/penstock/Design" "intIndices" "[I" .null) (F_hash_a0 : Fld Z h0 a0 "com/example/penstock/penstock/Design" "hash" "I" (.int (0 : Int32))) (g_a0 : n0 ≤ a0) (V_a1 : Arv Z h0 a1 k_a1 .int (1 : Int32) [(.int x0)] (.int (0 : Int32))) (E_a1 : Exa Z h0 a1 "[I") (n10 : a1 ≠ a0) (l0 : ¬ (x0 < (0 : Int32))) (u0 : ¬ ((255 : Int32) < x0)) :
    MetFree l (⟨"com/example/penstock/penstock/Design", "<init>", "([I)V"⟩ : MethodName) (head1 (Jvm.Cond.code (⟨"com/example/penstock/penstock/Design", "<init>", "([I)V"⟩ : MethodName) prog_9_method_1_code 7 none :: ws) ({ frames := 1, cells := 1, slots := 1, locals := 13 } : Room)) (fun a U => a = #[(.ref a0), (.ref a1)] ∧ Z.Warmed39 U.vm ∧ U.heap = h0) (fun _ _ _ _ _ => True) (fun _ U o U' => ∃ v L, o = .returned v ∧ own_Q1b1 Z a0 a1 k_a1 x0 h0 n0 v U'.heap L ∧ FrameEnd U o U' L ({ frames := 1, cells := 1, slots := 1, locals := 13 } : Room).cells ({ frames := 1, cells := 1, slots := 1, locals := 13 } : Room).slots) := by
  refine MetFree.of_bodySF (plainFor_of_name own_pn1) hisR ?_
  intro p e s m args below meth c s₁ Bd hml0 hP hK
  obtain ⟨rfl, hZ, hh⟩ := hP
  have hx := Bd.exec
  have hby := Bd.bytes
  have hml : c.maxLocals = 7 := hml0
  have hown : s.vm.findClass "com/example/penstock/penstock/Design" = some m.cls := findClass_of_methodNamed Bd.named
  have hnm := (name_of_methodNamed Bd.named Bd.method).1
  have X0 : Stand p l e ({ frames := 1, cells := 1, slots := 1, locals := 13 } : Room) s m #[(.ref a0), (.ref a1)] below meth c s₁ [] 0 0 := Stand.of_body Bd
  have e0 : s₁.heap = h0 := by rw [← hh, Bd.state]; rfl
  have N0 := Fr.nil n0
  have pre0 : ∀ t, Steps p.tables e below (s₁.setTop (mkF m 0 #[oa a0, oa a1, .unset, .unset, .unset, .unset, .unset] [])) t → Steps p.tables e below (s₁.setTop (entryFrame m #[(.ref a0), (.ref a1)] 7)) t := fun t k => castTop (own_ef1b1 m a0 a1) k
  obtain ⟨T1, X1, e1, st1⟩ := initO X0 hx hZ hown (hw _ (List.mem_of_getElem? (i := 7) rfl)) (hw _ (List.mem_of_getElem? (i := 8) rfl)) (hw _ (List.mem_of_getElem? (i := 9) rfl)) e0 (g := (mkF m 1 #[oa a0, oa a1, .unset, .unset, .unset, .unset, .unset] [(.ref a0)])) rfl (by rw [hml]; rfl) rfl (hb hby own_d1_1) (by decide) (W := 0) (by show 2 * 0 + _ ≤ _; exact Nat.le_of_eq rfl) (by decide)
  have b2 : (0 : Int32) < (1 : Int32) := (by decide)
  have b3 : ¬ (x0 < (0 : Int32)) := l0
  have b4 : ¬ ((255 : Int32) < x0) := u0
  have b5 : ¬ ((1 : Int32) < (1 : Int32)) := (by decide)
  have b6 : ¬ ((1 : Int32) = (0 : Int32)) := (by decide)
  obtain ⟨T7, h7, k7, X7, e7, E7, A7, B7, st7⟩ := newPE X1 hx hZ (hw _ (List.mem_of_getElem? (i := 10) rfl)) e1 (g := (mkF m 62 #[oa a0, oa a1, oi (1 : Int32), oa a1, oi (1 : Int32), oi (1 : Int32), oi x0] [(.int (1 : Int32)), (.ref a0)])) rfl (hb hby own_d1_62) rfl (by decide) (cap := 1) (by decide) (by decide) (by decide) (by decide) (ad := "[B") rfl
  obtain ⟨b7, g7⟩ : ∃ z, z = h0.size := ⟨_, rfl⟩
  rw [← g7] at A7 st7 B7
  have g_b7 : n0 ≤ b7 := Nat.le_trans Z0 (Nat.le_of_eq g7.symm)
  have ne8 : a0 ≠ b7 := Nat.ne_of_lt (Nat.lt_of_lt_of_le E_a0.lt (Nat.le_of_eq g7.symm))
  have ne9 : a1 ≠ b7 := Nat.ne_of_lt (Nat.lt_of_lt_of_le V_a1.lt (Nat.le_of_eq g7.symm))
  have Z7 : n0 ≤ h7.size := Nat.le_trans Z0 E7.1
  have sz_b7 : h0.size ≤ b7 := Nat.le_trans (Keep.refl h0 [a0]).1 (Nat.le_of_eq g7.symm)
  have K_10 : Keep h0 h7 [a0] := (Keep.refl h0 [a0]).ext E7
  have F11 := E_a0.ext E7
  have F12 := F_byteIndices_a0.ext E7
  have F13 := F_intIndices_a0.ext E7
  have F14 := F_hash_a0.ext E7
  have F15 := V_a1.ext E7
  have F16 := E_a1.ext E7
  have V_17 : Arv Z h7 b7 k7 .byte (1 : Int32) [(.int (0 : Int32))] (.int (0 : Int32)) := (Arv.new A7 (by decide)).pad (pad_rep [] (.int (0 : Int32)) 1)
  obtain ⟨T18, h18, X18, e18, W18, st18⟩ := putF X7 hx hZ hown (host := "") (Or.inl (hw _ (List.mem_of_getElem? (i := 11) rfl))) Via.refl e7 F12 F11 (Or.inr ⟨(hw _ (List.mem_of_getElem? (i := 12) rfl)), rfl, hnm⟩) (hw _ (List.mem_of_getElem? (i := 2) rfl)) (ty := (.array .byte)) (by decide) rfl rfl (g := (mkF m 64 #[oa a0, oa a1, oi (1 : Int32), oa a1, oi (1 : Int32), oi (1 : Int32), oi x0] [(.ref b7), (.ref a0)])) rfl rfl (hb hby own_d1_64)
  obtain ⟨Lo18, X18, N18⟩ := oOpq X18 (Fr.snoc X18 N0 g_a0)
  have Z18 : n0 ≤ h18.size := Nat.le_trans Z7 (Keep.of_wr W18).1
  have F19 := F11.wr W18
  have F20 := F13.other W18 (Or.inr (slot_ne (Or.inr (hw _ (List.mem_of_getElem? (i := 14) rfl))) (Or.inr (hw _ (List.mem_of_getElem? (i := 12) rfl))) (by decide) (t := (.array .int)) (t' := (.array .byte)) (by decide) (by decide)))
  have F21 := F14.other W18 (Or.inr (slot_ne (Or.inr (hw _ (List.mem_of_getElem? (i := 20) rfl))) (Or.inr (hw _ (List.mem_of_getElem? (i := 12) rfl))) (by decide) (t := .int) (t' := (.array .byte)) (by decide) (by decide)))
  have F22 := F15.other W18 n10
  have F23 := F16.wr W18
  have F24 := V_17.other W18 (Ne.symm ne8)
  have F25 := B7.wr W18
  have F_26 : Fld Z h18 a0 "com/example/penstock/penstock/Design" "byteIndices" "[B" (.ref b7) := F12.same W18
  have K_27 : Keep h0 h18 [a0] := K_10.wr W18 (Or.inl (List.mem_of_getElem? (i := 0) rfl))
  have b28 : (0 : Int32) < (1 : Int32) := (by decide)
  obtain ⟨T29, X29, e29, st29⟩ := getF X18 hx hZ hown (host := "") (Or.inl (hw _ (List.mem_of_getElem? (i := 11) rfl))) Via.refl e18 F_26 (g := (mkF m 76 #[oa a0, oa a1, oi (1 : Int32), oi (0 : Int32), oi (1 : Int32), oi (1 : Int32), oi x0] [(.ref a0)])) rfl rfl (hb hby own_d1_76)
  obtain ⟨T30, h30, X30, e30, W30, V30, st30⟩ := oStB X29 hx hZ e29 F24 (j := (0 : Int32)) ⟨by decide, by decide⟩ 0 rfl (Nat.le_of_ble_eq_true rfl) (g := (mkF m 84 #[oa a0, oa a1, oi (1 : Int32), oi (0 : Int32), oi (1 : Int32), oi (1 : Int32), oi x0] [(.int (x0.toInt8.toInt32)), (.int (0 : Int32)), (.ref b7)])) rfl rfl (hb hby own_d1_84)
  rw [own_narb] at V30
  obtain ⟨Lo30, X30, N30⟩ := oOpq X30 (Fr.snoc X30 N18 g_b7)
  have Z30 := Nat.le_trans Z18 (Keep.of_wr W30).1
  have F31 := F19.wr W30
  have F32 := F_26.other W30 (Or.inl ne8)
  have F33 := F20.other W30 (Or.inl ne8)
  have F34 := F21.other W30 (Or.inl ne8)
  have F35 := F22.other W30 ne9
  have F36 := F23.wr W30
  have F37 := F25.wr W30
  have V_38 : Arv Z h30 b7 k7 .byte (1 : Int32) [(.int (x0.toInt8.toInt32))] (.int (0 : Int32)) := V30
  have K_39 : Keep h0 h30 [a0] := K_27.wr W30 (Or.inr sz_b7)
  have b40 : ¬ ((1 : Int32) < (1 : Int32)) := (by decide)
  obtain ⟨T41, h41, X41, e41, W41, st41⟩ := putF X30 hx hZ hown (host := "") (Or.inl (hw _ (List.mem_of_getElem? (i := 13) rfl))) Via.refl e30 F33 F31 (Or.inr ⟨(hw _ (List.mem_of_getElem? (i := 14) rfl)), rfl, hnm⟩) (hw _ (List.mem_of_getElem? (i := 2) rfl)) (ty := (.array .int)) (by decide) rfl rfl (g := (mkF m 93 #[oa a0, oa a1, oi (1 : Int32), oi (1 : Int32), oi (1 : Int32), oi (1 : Int32), oi x0] [.null, (.ref a0)])) rfl rfl (hb hby own_d1_93)
  obtain ⟨Lo41, X41, N41⟩ := oOpq X41 (Fr.snoc X41 N30 g_a0)
  have Z41 : n0 ≤ h41.size := Nat.le_trans Z30 (Keep.of_wr W41).1
  have F42 := F31.wr W41
  have F43 := F32.other W41 (Or.inr (slot_ne (Or.inr (hw _ (List.mem_of_getElem? (i := 12) rfl))) (Or.inr (hw _ (List.mem_of_getElem? (i := 14) rfl))) (by decide) (t := (.array .byte)) (t' := (.array .int)) (by decide) (by decide)))
  have F44 := F34.other W41 (Or.inr (slot_ne (Or.inr (hw _ (List.mem_of_getElem? (i := 20) rfl))) (Or.inr (hw _ (List.mem_of_getElem? (i := 14) rfl))) (by decide) (t := .int) (t' := (.array .int)) (by decide) (by decide)))
  have F45 := F35.other W41 n10
  have F46 := F36.wr W41
  have F47 := V_38.other W41 (Ne.symm ne8)
  have F48 := F37.wr W41
  have F_49 : Fld Z h41 a0 "com/example/penstock/penstock/Design" "intIndices" "[I" .null := F33.same W41
  have K_50 : Keep h0 h41 [a0] := K_39.wr W41 (Or.inl (List.mem_of_getElem? (i := 0) rfl))
  obtain ⟨_, _, ⟨T51, L51, k51, n51⟩, -, X51, ⟨Lc51, hQ51, l51, y51, z51⟩, st51⟩ := Jvm.LawKit.callS X41 hx (y := (⟨"java/util/Arrays", "hashCode", "([I)I"⟩ : MethodName)) hown (mvT hZ (hw _ (List.mem_of_getElem? (i := 15) rfl))) (mvT hZ (hw _ (List.mem_of_getElem? (i := 16) rfl))) (mvT hZ (hw _ (List.mem_of_getElem? (i := 17) rfl))) (mvT hZ (hw _ (List.mem_of_getElem? (i := 18) rfl))) (by decide) (backOf (W := 1) (own_rm3_1 l Z av hw [] a1 k_a1 x0 h41 n0 Z41 F45 F46) hZ (hw _ (List.mem_of_getElem? (i := 18) rfl)) (hw _ (List.mem_of_getElem? (i := 17) rfl)) (by decide) (by decide)) (g := (mkF m 117 #[oa a0, oa a1, oi (1 : Int32), oi (1 : Int32), oi (1 : Int32), oi (1 : Int32), oi x0] [(.ref a1), (.ref a0)])) rfl (by rw [hml]; rfl) (argsL := [(.ref a1)]) (rest := [(.ref a0)]) (lenOf own_pd0 rfl) rfl (by show 2 * 0 + _ ≤ _; exact Nat.le_of_eq rfl) (hb hby own_d1_117) (fun _ _ => ⟨rfl, e41, (by decide : 1 + 0 ≤ _), (by decide : 1 + 0 ≤ _)⟩)
  dsimp only [Pt.U, Pt.locs, Pt.cells, Pt.slots] at X51 l51 y51 z51 st51 hQ51
  have yq51 : k51 = 1 := y51
  have zq51 : n51 = 1 := z51
  subst yq51 zq51
  obtain ⟨rfl, Nq51, eq51⟩ := hQ51
  have N51 : Fr n0 L51 := by rw [l51]; exact Fr.app N41 Nq51
  obtain ⟨T52, h52, X52, e52, W52, st52⟩ := putF X51 hx hZ hown (host := "") (Or.inl (hw _ (List.mem_of_getElem? (i := 19) rfl))) Via.refl eq51 F44 F42 (Or.inr ⟨(hw _ (List.mem_of_getElem? (i := 20) rfl)), rfl, hnm⟩) (hw _ (List.mem_of_getElem? (i := 2) rfl)) (ty := .int) (by decide) rfl rfl (g := (mkF m 120 #[oa a0, oa a1, oi (1 : Int32), oi (1 : Int32), oi (1 : Int32), oi (1 : Int32), oi x0] [(.int (own_f3_1 x0)), (.ref a0)])) rfl rfl (hb hby own_d1_120)
  obtain ⟨Lo52, X52, N52⟩ := oOpq X52 (Fr.snoc X52 N51 g_a0)
  have Z52 : n0 ≤ h52.size := Nat.le_trans Z41 (Keep.of_wr W52).1
  have F53 := F42.wr W52
  have F54 := F43.other W52 (Or.inr (slot_ne (Or.inr (hw _ (List.mem_of_getElem? (i := 12) rfl))) (Or.inr (hw _ (List.mem_of_getElem? (i := 20) rfl))) (by decide) (t := (.array .byte)) (t' := .int) (by decide) (by decide)))
  have F55 := F_49.other W52 (Or.inr (slot_ne (Or.inr (hw _ (List.mem_of_getElem? (i := 14) rfl))) (Or.inr (hw _ (List.mem_of_getElem? (i := 20) rfl))) (by decide) (t := (.array .int)) (t' := .int) (by decide) (by decide)))
  have F56 := F45.other W52 n10
  have F57 := F46.wr W52
  have F58 := F47.other W52 (Ne.symm ne8)
  have F59 := F48.wr W52
  have F_60 : Fld Z h52 a0 "com/example/penstock/penstock/Design" "hash" "I" (.int (own_f3_1 x0)) := F44.same W52
  have K_61 : Keep h0 h52 [a0] := K_50.wr W52 (Or.inl (List.mem_of_getElem? (i := 0) rfl))
  obtain ⟨fs, hr, hrun, hended, hW, hsame⟩ := X52.leave (v := none) (fun _ => rfl)
  refine ⟨_, _, pre0 _ ?_, hrun, hended, _, _, rfl, ?_, ⟨_, rfl⟩, hW, hsame.mono (by decide) (by decide)⟩
  · show oS p e below s₁ m 0 #[oa a0, oa a1, .unset, .unset, .unset, .unset, .unset] [] _
    refine XS.aloadN X0.here hx rfl (hb hby own_d1_0) rfl rfl ?_
    show oS p e below s₁ m 1 #[oa a0, oa a1, .unset, .unset, .unset, .unset, .unset] [(.ref a0)] _
    refine st1 _ ?_
    show oS p e below T1 m 4 #[oa a0, oa a1, .unset, .unset, .unset, .unset, .unset] [] _
    refine XS.iconst X1.here hx rfl (hb hby own_d1_4) ?_
    show oS p e below T1 m 5 #[oa a0, oa a1, .unset, .unset, .unset, .unset, .unset] [(.int (1 : Int32))] _
    refine XS.istoreN X1.here hx rfl (hb hby own_d1_5) rfl (l' := #[oa a0, oa a1, oi (1 : Int32), .unset, .unset, .unset, .unset]) rfl ?_
    show oS p e below T1 m 6 #[oa a0, oa a1, oi (1 : Int32), .unset, .unset, .unset, .unset] [] _
    refine XS.aloadN X1.here hx rfl (hb hby own_d1_6) rfl rfl ?_
    show oS p e below T1 m 7 #[oa a0, oa a1, oi (1 : Int32), .unset, .unset, .unset, .unset] [(.ref a1)] _
    refine XS.astoreN X1.here hx rfl (hb hby own_d1_7) rfl rfl (l' := #[oa a0, oa a1, oi (1 : Int32), oa a1, .unset, .unset, .unset]) rfl ?_
    show oS p e below T1 m 8 #[oa a0, oa a1, oi (1 : Int32), oa a1, .unset, .unset, .unset] [] _
    refine XS.aloadN X1.here hx rfl (hb hby own_d1_8) rfl rfl ?_
    show oS p e below T1 m 9 #[oa a0, oa a1, oi (1 : Int32), oa a1, .unset, .unset, .unset] [(.ref a1)] _
    refine oLen X1 hx hZ e1 V_a1 (hb hby own_d1_9) ?_
    show oS p e below T1 m 10 #[oa a0, oa a1, oi (1 : Int32), oa a1, .unset, .unset, .unset] [(.int (1 : Int32))] _
    refine XS.istore X1.here hx rfl (hb hby own_d1_10) rfl (l' := #[oa a0, oa a1, oi (1 : Int32), oa a1, oi (1 : Int32), .unset, .unset]) rfl ?_
    show oS p e below T1 m 12 #[oa a0, oa a1, oi (1 : Int32), oa a1, oi (1 : Int32), .unset, .unset] [] _
    refine XS.iconst X1.here hx rfl (hb hby own_d1_12) ?_
    show oS p e below T1 m 13 #[oa a0, oa a1, oi (1 : Int32), oa a1, oi (1 : Int32), .unset, .unset] [(.int (0 : Int32))] _
    refine XS.istore X1.here hx rfl (hb hby own_d1_13) rfl (l' := #[oa a0, oa a1, oi (1 : Int32), oa a1, oi (1 : Int32), oi (0 : Int32), .unset]) rfl ?_
    show oS p e below T1 m 15 #[oa a0, oa a1, oi (1 : Int32), oa a1, oi (1 : Int32), oi (0 : Int32), .unset] [] _
    refine XS.iload X1.here hx rfl (hb hby own_d1_15) rfl ?_
    show oS p e below T1 m 17 #[oa a0, oa a1, oi (1 : Int32), oa a1, oi (1 : Int32), oi (0 : Int32), .unset] [(.int (0 : Int32))] _
    refine XS.iload X1.here hx rfl (hb hby own_d1_17) rfl ?_
    show oS p e below T1 m 19 #[oa a0, oa a1, oi (1 : Int32), oa a1, oi (1 : Int32), oi (0 : Int32), .unset] [(.int (1 : Int32)), (.int (0 : Int32))] _
    refine XS.icmpNo X1.here hx rfl (hb hby own_d1_19) rfl (tlt b2).2.1 ?_
    show oS p e below T1 m 22 #[oa a0, oa a1, oi (1 : Int32), oa a1, oi (1 : Int32), oi (0 : Int32), .unset] [] _
    refine XS.aloadN X1.here hx rfl (hb hby own_d1_22) rfl rfl ?_
    show oS p e below T1 m 23 #[oa a0, oa a1, oi (1 : Int32), oa a1, oi (1 : Int32), oi (0 : Int32), .unset] [(.ref a1)] _
    refine XS.iload X1.here hx rfl (hb hby own_d1_23) rfl ?_
    show oS p e below T1 m 25 #[oa a0, oa a1, oi (1 : Int32), oa a1, oi (1 : Int32), oi (0 : Int32), .unset] [(.int (0 : Int32)), (.ref a1)] _
    refine oLdI X1 hx hZ e1 V_a1 (v := (.int x0)) ⟨by decide, by decide⟩ rfl (hb hby own_d1_25) ?_
    show oS p e below T1 m 26 #[oa a0, oa a1, oi (1 : Int32), oa a1, oi (1 : Int32), oi (0 : Int32), .unset] [(.int x0)] _
    refine XS.istore X1.here hx rfl (hb hby own_d1_26) rfl (l' := #[oa a0, oa a1, oi (1 : Int32), oa a1, oi (1 : Int32), oi (0 : Int32), oi x0]) rfl ?_
    show oS p e below T1 m 28 #[oa a0, oa a1, oi (1 : Int32), oa a1, oi (1 : Int32), oi (0 : Int32), oi x0] [] _
    refine XS.iloadN X1.here hx rfl (hb hby own_d1_28) rfl ?_
    show oS p e below T1 m 29 #[oa a0, oa a1, oi (1 : Int32), oa a1, oi (1 : Int32), oi (0 : Int32), oi x0] [(.int (1 : Int32))] _
    refine XS.iload X1.here hx rfl (hb hby own_d1_29) rfl ?_
    show oS p e below T1 m 31 #[oa a0, oa a1, oi (1 : Int32), oa a1, oi (1 : Int32), oi (0 : Int32), oi x0] [(.int x0), (.int (1 : Int32))] _
    refine XS.ifNo X1.here hx rfl (hb hby own_d1_31) rfl ((if0 _ _).trans (flt b3).1) ?_
    show oS p e below T1 m 34 #[oa a0, oa a1, oi (1 : Int32), oa a1, oi (1 : Int32), oi (0 : Int32), oi x0] [(.int (1 : Int32))] _
    refine XS.iload X1.here hx rfl (hb hby own_d1_34) rfl ?_
    show oS p e below T1 m 36 #[oa a0, oa a1, oi (1 : Int32), oa a1, oi (1 : Int32), oi (0 : Int32), oi x0] [(.int x0), (.int (1 : Int32))] _
    refine XS.sipush X1.here hx rfl (hb hby own_d1_36) ?_
    show oS p e below T1 m 39 #[oa a0, oa a1, oi (1 : Int32), oa a1, oi (1 : Int32), oi (0 : Int32), oi x0] [(.int (255 : Int32)), (.int x0), (.int (1 : Int32))] _
    refine XS.icmpNo X1.here hx rfl (hb hby own_d1_39) rfl (flt b4).2.2.1 ?_
    show oS p e below T1 m 42 #[oa a0, oa a1, oi (1 : Int32), oa a1, oi (1 : Int32), oi (0 : Int32), oi x0] [(.int (1 : Int32))] _
    refine XS.iconst X1.here hx rfl (hb hby own_d1_42) ?_
    show oS p e below T1 m 43 #[oa a0, oa a1, oi (1 : Int32), oa a1, oi (1 : Int32), oi (0 : Int32), oi x0] [(.int (1 : Int32)), (.int (1 : Int32))] _
    refine XS.goto X1.here hx rfl (pc0 := 43) (pc' := 47) rfl (hb hby own_d1_43) (by decide) (by decide) ?_
    show oS p e below T1 m 47 #[oa a0, oa a1, oi (1 : Int32), oa a1, oi (1 : Int32), oi (0 : Int32), oi x0] [(.int (1 : Int32)), (.int (1 : Int32))] _
    refine XS.iand X1.here hx rfl (hb hby own_d1_47) rfl ?_
    show oS p e below T1 m 48 #[oa a0, oa a1, oi (1 : Int32), oa a1, oi (1 : Int32), oi (0 : Int32), oi x0] [(.int (1 : Int32))] _
    refine XS.istoreN X1.here hx rfl (hb hby own_d1_48) rfl (l' := #[oa a0, oa a1, oi (1 : Int32), oa a1, oi (1 : Int32), oi (0 : Int32), oi x0]) rfl ?_
    show oS p e below T1 m 49 #[oa a0, oa a1, oi (1 : Int32), oa a1, oi (1 : Int32), oi (0 : Int32), oi x0] [] _
    refine XS.iinc X1.here hx rfl (hb hby own_d1_49) rfl (l' := #[oa a0, oa a1, oi (1 : Int32), oa a1, oi (1 : Int32), oi (1 : Int32), oi x0]) rfl ?_
    show oS p e below T1 m 52 #[oa a0, oa a1, oi (1 : Int32), oa a1, oi (1 : Int32), oi (1 : Int32), oi x0] [] _
    refine XS.goto X1.here hx rfl (pc0 := 52) (pc' := 15) rfl (hb hby own_d1_52) (by decide) (by decide) ?_
    show oS p e below T1 m 15 #[oa a0, oa a1, oi (1 : Int32), oa a1, oi (1 : Int32), oi (1 : Int32), oi x0] [] _
    refine XS.iload X1.here hx rfl (hb hby own_d1_15) rfl ?_
    show oS p e below T1 m 17 #[oa a0, oa a1, oi (1 : Int32), oa a1, oi (1 : Int32), oi (1 : Int32), oi x0] [(.int (1 : Int32))] _
    refine XS.iload X1.here hx rfl (hb hby own_d1_17) rfl ?_
    show oS p e below T1 m 19 #[oa a0, oa a1, oi (1 : Int32), oa a1, oi (1 : Int32), oi (1 : Int32), oi x0] [(.int (1 : Int32)), (.int (1 : Int32))] _
    refine XS.icmpYes X1.here hx rfl (pc0 := 19) (pc' := 55) rfl (hb hby own_d1_19) rfl (flt b5).2.1 (by decide) (by decide) ?_
    show oS p e below T1 m 55 #[oa a0, oa a1, oi (1 : Int32), oa a1, oi (1 : Int32), oi (1 : Int32), oi x0] [] _
    refine XS.iloadN X1.here hx rfl (hb hby own_d1_55) rfl ?_
    show oS p e below T1 m 56 #[oa a0, oa a1, oi (1 : Int32), oa a1, oi (1 : Int32), oi (1 : Int32), oi x0] [(.int (1 : Int32))] _
    refine XS.ifNo X1.here hx rfl (hb hby own_d1_56) rfl ((if0 _ _).trans (feq b6).1) ?_
    show oS p e below T1 m 59 #[oa a0, oa a1, oi (1 : Int32), oa a1, oi (1 : Int32), oi (1 : Int32), oi x0] [] _
    refine XS.aloadN X1.here hx rfl (hb hby own_d1_59) rfl rfl ?_
    show oS p e below T1 m 60 #[oa a0, oa a1, oi (1 : Int32), oa a1, oi (1 : Int32), oi (1 : Int32), oi x0] [(.ref a0)] _
    refine XS.aloadN X1.here hx rfl (hb hby own_d1_60) rfl rfl ?_
    show oS p e below T1 m 61 #[oa a0, oa a1, oi (1 : Int32), oa a1, oi (1 : Int32), oi (1 : Int32), oi x0] [(.ref a1), (.ref a0)] _
    refine oLen X1 hx hZ e1 V_a1 (hb hby own_d1_61) ?_
    show oS p e below T1 m 62 #[oa a0, oa a1, oi (1 : Int32), oa a1, oi (1 : Int32), oi (1 : Int32), oi x0] [(.int (1 : Int32)), (.ref a0)] _
    refine st7 _ ?_
    show oS p e below T7 m 64 #[oa a0, oa a1, oi (1 : Int32), oa a1, oi (1 : Int32), oi (1 : Int32), oi x0] [(.ref b7), (.ref a0)] _
    refine st18 _ ?_
    show oS p e below T18 m 67 #[oa a0, oa a1, oi (1 : Int32), oa a1, oi (1 : Int32), oi (1 : Int32), oi x0] [] _
    refine XS.iconst X18.here hx rfl (hb hby own_d1_67) ?_
    show oS p e below T18 m 68 #[oa a0, oa a1, oi (1 : Int32), oa a1, oi (1 : Int32), oi (1 : Int32), oi x0] [(.int (0 : Int32))] _
    refine XS.istoreN X18.here hx rfl (hb hby own_d1_68) rfl (l' := #[oa a0, oa a1, oi (1 : Int32), oi (0 : Int32), oi (1 : Int32), oi (1 : Int32), oi x0]) rfl ?_
    show oS p e below T18 m 69 #[oa a0, oa a1, oi (1 : Int32), oi (0 : Int32), oi (1 : Int32), oi (1 : Int32), oi x0] [] _
    refine XS.iloadN X18.here hx rfl (hb hby own_d1_69) rfl ?_
    show oS p e below T18 m 70 #[oa a0, oa a1, oi (1 : Int32), oi (0 : Int32), oi (1 : Int32), oi (1 : Int32), oi x0] [(.int (0 : Int32))] _
    refine XS.aloadN X18.here hx rfl (hb hby own_d1_70) rfl rfl ?_
    show oS p e below T18 m 71 #[oa a0, oa a1, oi (1 : Int32), oi (0 : Int32), oi (1 : Int32), oi (1 : Int32), oi x0] [(.ref a1), (.int (0 : Int32))] _
    refine oLen X18 hx hZ e18 F22 (hb hby own_d1_71) ?_
    show oS p e below T18 m 72 #[oa a0, oa a1, oi (1 : Int32), oi (0 : Int32), oi (1 : Int32), oi (1 : Int32), oi x0] [(.int (1 : Int32)), (.int (0 : Int32))] _
    refine XS.icmpNo X18.here hx rfl (hb hby own_d1_72) rfl (tlt b28).2.1 ?_
    show oS p e below T18 m 75 #[oa a0, oa a1, oi (1 : Int32), oi (0 : Int32), oi (1 : Int32), oi (1 : Int32), oi x0] [] _
    refine XS.aloadN X18.here hx rfl (hb hby own_d1_75) rfl rfl ?_
    show oS p e below T18 m 76 #[oa a0, oa a1, oi (1 : Int32), oi (0 : Int32), oi (1 : Int32), oi (1 : Int32), oi x0] [(.ref a0)] _
    refine st29 _ ?_
    show oS p e below T29 m 79 #[oa a0, oa a1, oi (1 : Int32), oi (0 : Int32), oi (1 : Int32), oi (1 : Int32), oi x0] [(.ref b7)] _
    refine XS.iloadN X29.here hx rfl (hb hby own_d1_79) rfl ?_
    show oS p e below T29 m 80 #[oa a0, oa a1, oi (1 : Int32), oi (0 : Int32), oi (1 : Int32), oi (1 : Int32), oi x0] [(.int (0 : Int32)), (.ref b7)] _
    refine XS.aloadN X29.here hx rfl (hb hby own_d1_80) rfl rfl ?_
    show oS p e below T29 m 81 #[oa a0, oa a1, oi (1 : Int32), oi (0 : Int32), oi (1 : Int32), oi (1 : Int32), oi x0] [(.ref a1), (.int (0 : Int32)), (.ref b7)] _
    refine XS.iloadN X29.here hx rfl (hb hby own_d1_81) rfl ?_
    show oS p e below T29 m 82 #[oa a0, oa a1, oi (1 : Int32), oi (0 : Int32), oi (1 : Int32), oi (1 : Int32), oi x0] [(.int (0 : Int32)), (.ref a1), (.int (0 : Int32)), (.ref b7)] _
    refine oLdI X29 hx hZ e29 F22 (v := (.int x0)) ⟨by decide, by decide⟩ rfl (hb hby own_d1_82) ?_
    show oS p e below T29 m 83 #[oa a0, oa a1, oi (1 : Int32), oi (0 : Int32), oi (1 : Int32), oi (1 : Int32), oi x0] [(.int x0), (.int (0 : Int32)), (.ref b7)] _
    refine XS.i2b X29.here hx rfl (hb hby own_d1_83) rfl ?_
    show oS p e below T29 m 84 #[oa a0, oa a1, oi (1 : Int32), oi (0 : Int32), oi (1 : Int32), oi (1 : Int32), oi x0] [(.int (x0.toInt8.toInt32)), (.int (0 : Int32)), (.ref b7)] _
    refine st30 _ ?_
    show oS p e below T30 m 85 #[oa a0, oa a1, oi (1 : Int32), oi (0 : Int32), oi (1 : Int32), oi (1 : Int32), oi x0] [] _
    refine XS.iinc X30.here hx rfl (hb hby own_d1_85) rfl (l' := #[oa a0, oa a1, oi (1 : Int32), oi (1 : Int32), oi (1 : Int32), oi (1 : Int32), oi x0]) rfl ?_
    show oS p e below T30 m 88 #[oa a0, oa a1, oi (1 : Int32), oi (1 : Int32), oi (1 : Int32), oi (1 : Int32), oi x0] [] _
    refine XS.goto X30.here hx rfl (pc0 := 88) (pc' := 69) rfl (hb hby own_d1_88) (by decide) (by decide) ?_
    show oS p e below T30 m 69 #[oa a0, oa a1, oi (1 : Int32), oi (1 : Int32), oi (1 : Int32), oi (1 : Int32), oi x0] [] _
    refine XS.iloadN X30.here hx rfl (hb hby own_d1_69) rfl ?_
    show oS p e below T30 m 70 #[oa a0, oa a1, oi (1 : Int32), oi (1 : Int32), oi (1 : Int32), oi (1 : Int32), oi x0] [(.int (1 : Int32))] _
    refine XS.aloadN X30.here hx rfl (hb hby own_d1_70) rfl rfl ?_
    show oS p e below T30 m 71 #[oa a0, oa a1, oi (1 : Int32), oi (1 : Int32), oi (1 : Int32), oi (1 : Int32), oi x0] [(.ref a1), (.int (1 : Int32))] _
    refine oLen X30 hx hZ e30 F35 (hb hby own_d1_71) ?_
    show oS p e below T30 m 72 #[oa a0, oa a1, oi (1 : Int32), oi (1 : Int32), oi (1 : Int32), oi (1 : Int32), oi x0] [(.int (1 : Int32)), (.int (1 : Int32))] _
    refine XS.icmpYes X30.here hx rfl (pc0 := 72) (pc' := 91) rfl (hb hby own_d1_72) rfl (flt b40).2.1 (by decide) (by decide) ?_
    show oS p e below T30 m 91 #[oa a0, oa a1, oi (1 : Int32), oi (1 : Int32), oi (1 : Int32), oi (1 : Int32), oi x0] [] _
    refine XS.aloadN X30.here hx rfl (hb hby own_d1_91) rfl rfl ?_
    show oS p e below T30 m 92 #[oa a0, oa a1, oi (1 : Int32), oi (1 : Int32), oi (1 : Int32), oi (1 : Int32), oi x0] [(.ref a0)] _
    refine XS.aconstNull X30.here hx rfl (hb hby own_d1_92) ?_
    show oS p e below T30 m 93 #[oa a0, oa a1, oi (1 : Int32), oi (1 : Int32), oi (1 : Int32), oi (1 : Int32), oi x0] [.null, (.ref a0)] _
    refine st41 _ ?_
    show oS p e below T41 m 96 #[oa a0, oa a1, oi (1 : Int32), oi (1 : Int32), oi (1 : Int32), oi (1 : Int32), oi x0] [] _
    refine XS.goto X41.here hx rfl (pc0 := 96) (pc' := 115) rfl (hb hby own_d1_96) (by decide) (by decide) ?_
    show oS p e below T41 m 115 #[oa a0, oa a1, oi (1 : Int32), oi (1 : Int32), oi (1 : Int32), oi (1 : Int32), oi x0] [] _
    refine XS.aloadN X41.here hx rfl (hb hby own_d1_115) rfl rfl ?_
    show oS p e below T41 m 116 #[oa a0, oa a1, oi (1 : Int32), oi (1 : Int32), oi (1 : Int32), oi (1 : Int32), oi x0] [(.ref a0)] _
    refine XS.aloadN X41.here hx rfl (hb hby own_d1_116) rfl rfl ?_
    show oS p e below T41 m 117 #[oa a0, oa a1, oi (1 : Int32), oi (1 : Int32), oi (1 : Int32), oi (1 : Int32), oi x0] [(.ref a1), (.ref a0)] _
    refine st51 _ ?_
    show oS p e below T51 m 120 #[oa a0, oa a1, oi (1 : Int32), oi (1 : Int32), oi (1 : Int32), oi (1 : Int32), oi x0] [(.int (own_f3_1 x0)), (.ref a0)] _
    refine st52 _ ?_
    show oS p e below T52 m 123 #[oa a0, oa a1, oi (1 : Int32), oi (1 : Int32), oi (1 : Int32), oi (1 : Int32), oi x0] [] _
    exact X52.returnOut hx Bd.returns (hb hby own_d1_123) hr
  · show own_Q1b1 Z a0 a1 k_a1 x0 h0 n0 _ T52.heap _
    rw [e52]
    exact ⟨b7, k7, rfl, N52, K_61, sz_b7, F53, F54, F55, F58⟩
theorem own_d1_46 : decode prog_9_method_1_code 46 = .ok (.iconst 0, 1) := by decide +kernel
theorem own_d1_99 : decode prog_9_method_1_code 99 = .ok (.aload_n 0, 1) := by decide +kernel
theorem own_d1_100 : decode prog_9_method_1_code 100 = .ok (.aconst_null, 1) := by decide +kernel
theorem own_d1_101 : decode prog_9_method_1_code 101 = .ok (.putfield 9, 3) := by decide +kernel
theorem own_d1_104 : decode prog_9_method_1_code 104 = .ok (.aload_n 0, 1) := by decide +kernel
theorem own_d1_105 : decode prog_9_method_1_code 105 = .ok (.aload_n 1, 1) := by decide +kernel
theorem own_d1_106 : decode prog_9_method_1_code 106 = .ok (.invokevirtual 17, 3) := by decide +kernel
theorem own_d1_109 : decode prog_9_method_1_code 109 = .ok (.checkcast 18, 3) := by decide +kernel
theorem own_d1_112 : decode prog_9_method_1_code 112 = .ok (.putfield 13, 3) := by decide +kernel
theorem own_ef1i1 (m : MethodId) (a0 : Addr) (a1 : Addr) : entryFrame m #[(.ref a0), (.ref a1)] 7 = mkF m 0 #[oa a0, oa a1, .unset, .unset, .unset, .unset, .unset] [] := by first | (simp [entryFrame, mkF, argsToLocals, Value.category]; done) | rfl
def own_Q1i1 (Z : State) (a0 : Addr) (a1 : Addr) (k_a1 : ClassId) (x0 : Int32) (h0 : Heap) (n0 : Nat) (v : Option Value) (h : Heap) (L : List Loc) : Prop := ∃ (b : Addr) (k_b : ClassId), v = none ∧ Fr n0 L ∧ Keep h0 h [a0] ∧ h0.size ≤ b ∧ Exa Z h a0 "com/example/penstock/penstock/Design" ∧ Fld Z h a0 "com/example/penstock/penstock/Design" "byteIndices" "[B" .null ∧ Fld Z h a0 "com/example/penstock/penstock/Design" "intIndices" "[I" (.ref b) ∧ Exa Z h b "[I" ∧ Arv Z h b k_b .int (1 : Int32) [(.int x0)] (.int (0 : Int32))
set_option maxRecDepth 65536 in
set_option maxHeartbeats 40000000 in
theorem own_rm1i1 (l : Launch) (Z : State) (av : Array Value) (hw : ∀ d ∈ tables_1, d.before av Z = true) (ws : List Jvm.Cond) (a0 : Addr) (a1 : Addr) (k_a1 : ClassId) (x0 : Int32) (h0 : Heap) (n0 : Nat) (Z0 : n0 ≤ h0.size) (E_a0 : Exa Z h0 a0 "com/example/penstock/penstock/Design") (F_byteIndices_a0 : Fld Z h0 a0 "com/example/penstock/penstock/Design" "byteIndices" "[B" .null) (F_intIndices_a0 : Fld Z h0 a0 "com/example/penstock/penstock/Design" "intIndices" "[I" .null) (F_hash_a0 : Fld Z h0 a0 "com/example/penstock/penstock/Design" "hash" "I" (.int (0 : Int32))) (g_a0 : n0 ≤ a0) (V_a1 : Arv Z h0 a1 k_a1 .int (1 : Int32) [(.int x0)] (.int (0 : Int32))) (E_a1 : Exa Z h0 a1 "[I") (n10 : a1 ≠ a0) (hbad : ((1 : Int32) &&& own_g x0) = (0 : Int32)) :
    MetFree l (⟨"com/example/penstock/penstock/Design", "<init>", "([I)V"⟩ : MethodName) (head1 (Jvm.Cond.code (⟨"com/example/penstock/penstock/Design", "<init>", "([I)V"⟩ : MethodName) prog_9_method_1_code 7 none :: ws) ({ frames := 1, cells := 1, slots := 1, locals := 15 } : Room)) (fun a U => a = #[(.ref a0), (.ref a1)] ∧ Z.Warmed39 U.vm ∧ U.heap = h0) (fun _ _ _ _ _ => True) (fun _ U o U' => ∃ v L, o = .returned v ∧ own_Q1i1 Z a0 a1 k_a1 x0 h0 n0 v U'.heap L ∧ FrameEnd U o U' L ({ frames := 1, cells := 1, slots := 1, locals := 15 } : Room).cells ({ frames := 1, cells := 1, slots := 1, locals := 15 } : Room).slots) := by
  refine MetFree.of_bodySF (plainFor_of_name own_pn1) hisR ?_
  intro p e s m args below meth c s₁ Bd hml0 hP hK
  obtain ⟨rfl, hZ, hh⟩ := hP
  have hx := Bd.exec
  have hby := Bd.bytes
  have hml : c.maxLocals = 7 := hml0
  have hown : s.vm.findClass "com/example/penstock/penstock/Design" = some m.cls := findClass_of_methodNamed Bd.named
  have hnm := (name_of_methodNamed Bd.named Bd.method).1
  have X0 : Stand p l e ({ frames := 1, cells := 1, slots := 1, locals := 15 } : Room) s m #[(.ref a0), (.ref a1)] below meth c s₁ [] 0 0 := Stand.of_body Bd
  have e0 : s₁.heap = h0 := by rw [← hh, Bd.state]; rfl
  have N0 := Fr.nil n0
  have pre0 : ∀ t, Steps p.tables e below (s₁.setTop (mkF m 0 #[oa a0, oa a1, .unset, .unset, .unset, .unset, .unset] [])) t → Steps p.tables e below (s₁.setTop (entryFrame m #[(.ref a0), (.ref a1)] 7)) t := fun t k => castTop (own_ef1i1 m a0 a1) k
  obtain ⟨T1, X1, e1, st1⟩ := initO X0 hx hZ hown (hw _ (List.mem_of_getElem? (i := 7) rfl)) (hw _ (List.mem_of_getElem? (i := 8) rfl)) (hw _ (List.mem_of_getElem? (i := 9) rfl)) e0 (g := (mkF m 1 #[oa a0, oa a1, .unset, .unset, .unset, .unset, .unset] [(.ref a0)])) rfl (by rw [hml]; rfl) rfl (hb hby own_d1_1) (by decide) (W := 0) (by show 2 * 0 + _ ≤ _; exact Nat.le_of_eq rfl) (by decide)
  have b2 : (0 : Int32) < (1 : Int32) := (by decide)
  have pre3 : ∀ t, Steps p.tables e below (T1.setTop (mkF m 31 #[oa a0, oa a1, oi (1 : Int32), oa a1, oi (1 : Int32), oi (0 : Int32), oi x0] [(.int x0), (.int (1 : Int32))])) t → Steps p.tables e below (s₁.setTop (entryFrame m #[(.ref a0), (.ref a1)] 7)) t := by
    intro t k
    refine pre0 t ?_
    show oS p e below s₁ m 0 #[oa a0, oa a1, .unset, .unset, .unset, .unset, .unset] [] _
    refine XS.aloadN X0.here hx rfl (hb hby own_d1_0) rfl rfl ?_
    show oS p e below s₁ m 1 #[oa a0, oa a1, .unset, .unset, .unset, .unset, .unset] [(.ref a0)] _
    refine st1 _ ?_
    show oS p e below T1 m 4 #[oa a0, oa a1, .unset, .unset, .unset, .unset, .unset] [] _
    refine XS.iconst X1.here hx rfl (hb hby own_d1_4) ?_
    show oS p e below T1 m 5 #[oa a0, oa a1, .unset, .unset, .unset, .unset, .unset] [(.int (1 : Int32))] _
    refine XS.istoreN X1.here hx rfl (hb hby own_d1_5) rfl (l' := #[oa a0, oa a1, oi (1 : Int32), .unset, .unset, .unset, .unset]) rfl ?_
    show oS p e below T1 m 6 #[oa a0, oa a1, oi (1 : Int32), .unset, .unset, .unset, .unset] [] _
    refine XS.aloadN X1.here hx rfl (hb hby own_d1_6) rfl rfl ?_
    show oS p e below T1 m 7 #[oa a0, oa a1, oi (1 : Int32), .unset, .unset, .unset, .unset] [(.ref a1)] _
    refine XS.astoreN X1.here hx rfl (hb hby own_d1_7) rfl rfl (l' := #[oa a0, oa a1, oi (1 : Int32), oa a1, .unset, .unset, .unset]) rfl ?_
    show oS p e below T1 m 8 #[oa a0, oa a1, oi (1 : Int32), oa a1, .unset, .unset, .unset] [] _
    refine XS.aloadN X1.here hx rfl (hb hby own_d1_8) rfl rfl ?_
    show oS p e below T1 m 9 #[oa a0, oa a1, oi (1 : Int32), oa a1, .unset, .unset, .unset] [(.ref a1)] _
    refine oLen X1 hx hZ e1 V_a1 (hb hby own_d1_9) ?_
    show oS p e below T1 m 10 #[oa a0, oa a1, oi (1 : Int32), oa a1, .unset, .unset, .unset] [(.int (1 : Int32))] _
    refine XS.istore X1.here hx rfl (hb hby own_d1_10) rfl (l' := #[oa a0, oa a1, oi (1 : Int32), oa a1, oi (1 : Int32), .unset, .unset]) rfl ?_
    show oS p e below T1 m 12 #[oa a0, oa a1, oi (1 : Int32), oa a1, oi (1 : Int32), .unset, .unset] [] _
    refine XS.iconst X1.here hx rfl (hb hby own_d1_12) ?_
    show oS p e below T1 m 13 #[oa a0, oa a1, oi (1 : Int32), oa a1, oi (1 : Int32), .unset, .unset] [(.int (0 : Int32))] _
    refine XS.istore X1.here hx rfl (hb hby own_d1_13) rfl (l' := #[oa a0, oa a1, oi (1 : Int32), oa a1, oi (1 : Int32), oi (0 : Int32), .unset]) rfl ?_
    show oS p e below T1 m 15 #[oa a0, oa a1, oi (1 : Int32), oa a1, oi (1 : Int32), oi (0 : Int32), .unset] [] _
    refine XS.iload X1.here hx rfl (hb hby own_d1_15) rfl ?_
    show oS p e below T1 m 17 #[oa a0, oa a1, oi (1 : Int32), oa a1, oi (1 : Int32), oi (0 : Int32), .unset] [(.int (0 : Int32))] _
    refine XS.iload X1.here hx rfl (hb hby own_d1_17) rfl ?_
    show oS p e below T1 m 19 #[oa a0, oa a1, oi (1 : Int32), oa a1, oi (1 : Int32), oi (0 : Int32), .unset] [(.int (1 : Int32)), (.int (0 : Int32))] _
    refine XS.icmpNo X1.here hx rfl (hb hby own_d1_19) rfl (tlt b2).2.1 ?_
    show oS p e below T1 m 22 #[oa a0, oa a1, oi (1 : Int32), oa a1, oi (1 : Int32), oi (0 : Int32), .unset] [] _
    refine XS.aloadN X1.here hx rfl (hb hby own_d1_22) rfl rfl ?_
    show oS p e below T1 m 23 #[oa a0, oa a1, oi (1 : Int32), oa a1, oi (1 : Int32), oi (0 : Int32), .unset] [(.ref a1)] _
    refine XS.iload X1.here hx rfl (hb hby own_d1_23) rfl ?_
    show oS p e below T1 m 25 #[oa a0, oa a1, oi (1 : Int32), oa a1, oi (1 : Int32), oi (0 : Int32), .unset] [(.int (0 : Int32)), (.ref a1)] _
    refine oLdI X1 hx hZ e1 V_a1 (v := (.int x0)) ⟨by decide, by decide⟩ rfl (hb hby own_d1_25) ?_
    show oS p e below T1 m 26 #[oa a0, oa a1, oi (1 : Int32), oa a1, oi (1 : Int32), oi (0 : Int32), .unset] [(.int x0)] _
    refine XS.istore X1.here hx rfl (hb hby own_d1_26) rfl (l' := #[oa a0, oa a1, oi (1 : Int32), oa a1, oi (1 : Int32), oi (0 : Int32), oi x0]) rfl ?_
    show oS p e below T1 m 28 #[oa a0, oa a1, oi (1 : Int32), oa a1, oi (1 : Int32), oi (0 : Int32), oi x0] [] _
    refine XS.iloadN X1.here hx rfl (hb hby own_d1_28) rfl ?_
    show oS p e below T1 m 29 #[oa a0, oa a1, oi (1 : Int32), oa a1, oi (1 : Int32), oi (0 : Int32), oi x0] [(.int (1 : Int32))] _
    refine XS.iload X1.here hx rfl (hb hby own_d1_29) rfl ?_
    exact k
  obtain ⟨v6, hv6⟩ : ∃ z : Int32, z = (if x0 < (0 : Int32) then (0 : Int32) else (if (255 : Int32) < x0 then (0 : Int32) else (1 : Int32))) := ⟨_, rfl⟩
  have pre7 : ∀ t, Steps p.tables e below (T1.setTop (mkF m 47 #[oa a0, oa a1, oi (1 : Int32), oa a1, oi (1 : Int32), oi (0 : Int32), oi x0] [(.int v6), (.int (1 : Int32))])) t → Steps p.tables e below (s₁.setTop (entryFrame m #[(.ref a0), (.ref a1)] 7)) t := by
    intro t k
    by_cases c4 : x0 < (0 : Int32)
    · skip
      rw [show v6 = (0 : Int32) from hv6.trans (by rw [if_pos c4])] at k
      refine pre3 t ?_
      show oS p e below T1 m 31 #[oa a0, oa a1, oi (1 : Int32), oa a1, oi (1 : Int32), oi (0 : Int32), oi x0] [(.int x0), (.int (1 : Int32))] _
      refine XS.ifYes X1.here hx rfl (pc0 := 31) (pc' := 46) rfl (hb hby own_d1_31) rfl ((if0 _ _).trans (tlt c4).1) (by decide) (by decide) ?_
      show oS p e below T1 m 46 #[oa a0, oa a1, oi (1 : Int32), oa a1, oi (1 : Int32), oi (0 : Int32), oi x0] [(.int (1 : Int32))] _
      refine XS.iconst X1.here hx rfl (hb hby own_d1_46) ?_
      exact k
    · skip
      by_cases c5 : (255 : Int32) < x0
      · skip
        rw [show v6 = (0 : Int32) from hv6.trans (by rw [if_neg c4, if_pos c5])] at k
        refine pre3 t ?_
        show oS p e below T1 m 31 #[oa a0, oa a1, oi (1 : Int32), oa a1, oi (1 : Int32), oi (0 : Int32), oi x0] [(.int x0), (.int (1 : Int32))] _
        refine XS.ifNo X1.here hx rfl (hb hby own_d1_31) rfl ((if0 _ _).trans (flt c4).1) ?_
        show oS p e below T1 m 34 #[oa a0, oa a1, oi (1 : Int32), oa a1, oi (1 : Int32), oi (0 : Int32), oi x0] [(.int (1 : Int32))] _
        refine XS.iload X1.here hx rfl (hb hby own_d1_34) rfl ?_
        show oS p e below T1 m 36 #[oa a0, oa a1, oi (1 : Int32), oa a1, oi (1 : Int32), oi (0 : Int32), oi x0] [(.int x0), (.int (1 : Int32))] _
        refine XS.sipush X1.here hx rfl (hb hby own_d1_36) ?_
        show oS p e below T1 m 39 #[oa a0, oa a1, oi (1 : Int32), oa a1, oi (1 : Int32), oi (0 : Int32), oi x0] [(.int (255 : Int32)), (.int x0), (.int (1 : Int32))] _
        refine XS.icmpYes X1.here hx rfl (pc0 := 39) (pc' := 46) rfl (hb hby own_d1_39) rfl (tlt c5).2.2.1 (by decide) (by decide) ?_
        show oS p e below T1 m 46 #[oa a0, oa a1, oi (1 : Int32), oa a1, oi (1 : Int32), oi (0 : Int32), oi x0] [(.int (1 : Int32))] _
        refine XS.iconst X1.here hx rfl (hb hby own_d1_46) ?_
        exact k
      · skip
        rw [show v6 = (1 : Int32) from hv6.trans (by rw [if_neg c4, if_neg c5])] at k
        refine pre3 t ?_
        show oS p e below T1 m 31 #[oa a0, oa a1, oi (1 : Int32), oa a1, oi (1 : Int32), oi (0 : Int32), oi x0] [(.int x0), (.int (1 : Int32))] _
        refine XS.ifNo X1.here hx rfl (hb hby own_d1_31) rfl ((if0 _ _).trans (flt c4).1) ?_
        show oS p e below T1 m 34 #[oa a0, oa a1, oi (1 : Int32), oa a1, oi (1 : Int32), oi (0 : Int32), oi x0] [(.int (1 : Int32))] _
        refine XS.iload X1.here hx rfl (hb hby own_d1_34) rfl ?_
        show oS p e below T1 m 36 #[oa a0, oa a1, oi (1 : Int32), oa a1, oi (1 : Int32), oi (0 : Int32), oi x0] [(.int x0), (.int (1 : Int32))] _
        refine XS.sipush X1.here hx rfl (hb hby own_d1_36) ?_
        show oS p e below T1 m 39 #[oa a0, oa a1, oi (1 : Int32), oa a1, oi (1 : Int32), oi (0 : Int32), oi x0] [(.int (255 : Int32)), (.int x0), (.int (1 : Int32))] _
        refine XS.icmpNo X1.here hx rfl (hb hby own_d1_39) rfl (flt c5).2.2.1 ?_
        show oS p e below T1 m 42 #[oa a0, oa a1, oi (1 : Int32), oa a1, oi (1 : Int32), oi (0 : Int32), oi x0] [(.int (1 : Int32))] _
        refine XS.iconst X1.here hx rfl (hb hby own_d1_42) ?_
        show oS p e below T1 m 43 #[oa a0, oa a1, oi (1 : Int32), oa a1, oi (1 : Int32), oi (0 : Int32), oi x0] [(.int (1 : Int32)), (.int (1 : Int32))] _
        refine XS.goto X1.here hx rfl (pc0 := 43) (pc' := 47) rfl (hb hby own_d1_43) (by decide) (by decide) ?_
        exact k
  have b8 : ¬ ((1 : Int32) < (1 : Int32)) := (by decide)
  have b9 : ((1 : Int32) &&& v6) = (0 : Int32) := by rw [hv6]; exact hbad
  obtain ⟨T10, h10, X10, e10, W10, st10⟩ := putF X1 hx hZ hown (host := "") (Or.inl (hw _ (List.mem_of_getElem? (i := 11) rfl))) Via.refl e1 F_byteIndices_a0 E_a0 (Or.inr ⟨(hw _ (List.mem_of_getElem? (i := 12) rfl)), rfl, hnm⟩) (hw _ (List.mem_of_getElem? (i := 2) rfl)) (ty := (.array .byte)) (by decide) rfl rfl (g := (mkF m 101 #[oa a0, oa a1, oi ((1 : Int32) &&& v6), oa a1, oi (1 : Int32), oi (1 : Int32), oi x0] [.null, (.ref a0)])) rfl rfl (hb hby own_d1_101)
  obtain ⟨Lo10, X10, N10⟩ := oOpq X10 (Fr.snoc X10 N0 g_a0)
  have Z10 : n0 ≤ h10.size := Nat.le_trans Z0 (Keep.of_wr W10).1
  have F11 := E_a0.wr W10
  have F12 := F_intIndices_a0.other W10 (Or.inr (slot_ne (Or.inr (hw _ (List.mem_of_getElem? (i := 14) rfl))) (Or.inr (hw _ (List.mem_of_getElem? (i := 12) rfl))) (by decide) (t := (.array .int)) (t' := (.array .byte)) (by decide) (by decide)))
  have F13 := F_hash_a0.other W10 (Or.inr (slot_ne (Or.inr (hw _ (List.mem_of_getElem? (i := 20) rfl))) (Or.inr (hw _ (List.mem_of_getElem? (i := 12) rfl))) (by decide) (t := .int) (t' := (.array .byte)) (by decide) (by decide)))
  have F14 := V_a1.other W10 n10
  have F15 := E_a1.wr W10
  have F_16 : Fld Z h10 a0 "com/example/penstock/penstock/Design" "byteIndices" "[B" .null := F_byteIndices_a0.same W10
  have K_17 : Keep h0 h10 [a0] := (Keep.refl h0 [a0]).wr W10 (Or.inl (List.mem_of_getElem? (i := 0) rfl))
  obtain ⟨T18, h18, X18, e18, E18, A18, B18, st18⟩ := cloneH X10 hx hZ hown (hw _ (List.mem_of_getElem? (i := 35) rfl)) (hw _ (List.mem_of_getElem? (i := 36) rfl)) (hw _ (List.mem_of_getElem? (i := 40) rfl)) (hw _ (List.mem_of_getElem? (i := 38) rfl)) (hw _ (List.mem_of_getElem? (i := 39) rfl)) (hw _ (List.mem_of_getElem? (i := 41) rfl)) e10 (Arv.arh F14) F15 (g := (mkF m 106 #[oa a0, oa a1, oi ((1 : Int32) &&& v6), oa a1, oi (1 : Int32), oi (1 : Int32), oi x0] [(.ref a1), (.ref a0)])) rfl (by rw [hml]; rfl) rfl (hb hby own_d1_106) (by decide) (W := 1) (by show 2 * 0 + _ ≤ _; exact Nat.le_of_eq rfl) (by decide) (cap := 1) (by decide) (by decide) (by decide)
  obtain ⟨b18, g18⟩ : ∃ z, z = h10.size := ⟨_, rfl⟩
  rw [← g18] at A18 B18 st18
  have g_b18 : n0 ≤ b18 := Nat.le_trans Z10 (Nat.le_of_eq g18.symm)
  have ne19 : a0 ≠ b18 := Nat.ne_of_lt (Nat.lt_of_lt_of_le F11.lt (Nat.le_of_eq g18.symm))
  have ne20 : a1 ≠ b18 := Nat.ne_of_lt (Nat.lt_of_lt_of_le F14.lt (Nat.le_of_eq g18.symm))
  have Z18 : n0 ≤ h18.size := Nat.le_trans Z10 E18.1
  have sz_b18 : h0.size ≤ b18 := Nat.le_trans K_17.1 (Nat.le_of_eq g18.symm)
  have K_21 : Keep h0 h18 [a0] := K_17.ext E18
  have F22 := F11.ext E18
  have F23 := F_16.ext E18
  have F24 := F12.ext E18
  have F25 := F13.ext E18
  have F26 := F14.ext E18
  have F27 := F15.ext E18
  have V_28 : Arv Z h18 b18 k_a1 .int (1 : Int32) [(.int x0)] (.int (0 : Int32)) := A18
  obtain ⟨T29, X29, e29, st29⟩ := castY X18 hx hZ hown (hw _ (List.mem_of_getElem? (i := 42) rfl)) e18 (Ins.self B18) (g := (mkF m 109 #[oa a0, oa a1, oi ((1 : Int32) &&& v6), oa a1, oi (1 : Int32), oi (1 : Int32), oi x0] [(.ref b18), (.ref a0)])) rfl rfl (hb hby own_d1_109)
  obtain ⟨T30, h30, X30, e30, W30, st30⟩ := putF X29 hx hZ hown (host := "") (Or.inl (hw _ (List.mem_of_getElem? (i := 13) rfl))) Via.refl e29 F24 F22 (Or.inr ⟨(hw _ (List.mem_of_getElem? (i := 14) rfl)), rfl, hnm⟩) (hw _ (List.mem_of_getElem? (i := 2) rfl)) (ty := (.array .int)) (by decide) rfl rfl (g := (mkF m 112 #[oa a0, oa a1, oi ((1 : Int32) &&& v6), oa a1, oi (1 : Int32), oi (1 : Int32), oi x0] [(.ref b18), (.ref a0)])) rfl rfl (hb hby own_d1_112)
  obtain ⟨Lo30, X30, N30⟩ := oOpq X30 (Fr.snoc X30 N10 g_a0)
  have Z30 : n0 ≤ h30.size := Nat.le_trans Z18 (Keep.of_wr W30).1
  have F31 := F22.wr W30
  have F32 := F23.other W30 (Or.inr (slot_ne (Or.inr (hw _ (List.mem_of_getElem? (i := 12) rfl))) (Or.inr (hw _ (List.mem_of_getElem? (i := 14) rfl))) (by decide) (t := (.array .byte)) (t' := (.array .int)) (by decide) (by decide)))
  have F33 := F25.other W30 (Or.inr (slot_ne (Or.inr (hw _ (List.mem_of_getElem? (i := 20) rfl))) (Or.inr (hw _ (List.mem_of_getElem? (i := 14) rfl))) (by decide) (t := .int) (t' := (.array .int)) (by decide) (by decide)))
  have F34 := F26.other W30 n10
  have F35 := F27.wr W30
  have F36 := V_28.other W30 (Ne.symm ne19)
  have F37 := B18.wr W30
  have F_38 : Fld Z h30 a0 "com/example/penstock/penstock/Design" "intIndices" "[I" (.ref b18) := F24.same W30
  have K_39 : Keep h0 h30 [a0] := K_21.wr W30 (Or.inl (List.mem_of_getElem? (i := 0) rfl))
  obtain ⟨_, _, ⟨T40, L40, k40, n40⟩, -, X40, ⟨Lc40, hQ40, l40, y40, z40⟩, st40⟩ := Jvm.LawKit.callS X30 hx (y := (⟨"java/util/Arrays", "hashCode", "([I)I"⟩ : MethodName)) hown (mvT hZ (hw _ (List.mem_of_getElem? (i := 15) rfl))) (mvT hZ (hw _ (List.mem_of_getElem? (i := 16) rfl))) (mvT hZ (hw _ (List.mem_of_getElem? (i := 17) rfl))) (mvT hZ (hw _ (List.mem_of_getElem? (i := 18) rfl))) (by decide) (backOf (W := 1) (own_rm3_1 l Z av hw [] a1 k_a1 x0 h30 n0 Z30 F34 F35) hZ (hw _ (List.mem_of_getElem? (i := 18) rfl)) (hw _ (List.mem_of_getElem? (i := 17) rfl)) (by decide) (by decide)) (g := (mkF m 117 #[oa a0, oa a1, oi ((1 : Int32) &&& v6), oa a1, oi (1 : Int32), oi (1 : Int32), oi x0] [(.ref a1), (.ref a0)])) rfl (by rw [hml]; rfl) (argsL := [(.ref a1)]) (rest := [(.ref a0)]) (lenOf own_pd0 rfl) rfl (by show 2 * 0 + _ ≤ _; exact Nat.le_of_eq rfl) (hb hby own_d1_117) (fun _ _ => ⟨rfl, e30, (by decide : 1 + 0 ≤ _), (by decide : 1 + 0 ≤ _)⟩)
  dsimp only [Pt.U, Pt.locs, Pt.cells, Pt.slots] at X40 l40 y40 z40 st40 hQ40
  have yq40 : k40 = 1 := y40
  have zq40 : n40 = 1 := z40
  subst yq40 zq40
  obtain ⟨rfl, Nq40, eq40⟩ := hQ40
  have N40 : Fr n0 L40 := by rw [l40]; exact Fr.app N30 Nq40
  obtain ⟨T41, h41, X41, e41, W41, st41⟩ := putF X40 hx hZ hown (host := "") (Or.inl (hw _ (List.mem_of_getElem? (i := 19) rfl))) Via.refl eq40 F33 F31 (Or.inr ⟨(hw _ (List.mem_of_getElem? (i := 20) rfl)), rfl, hnm⟩) (hw _ (List.mem_of_getElem? (i := 2) rfl)) (ty := .int) (by decide) rfl rfl (g := (mkF m 120 #[oa a0, oa a1, oi ((1 : Int32) &&& v6), oa a1, oi (1 : Int32), oi (1 : Int32), oi x0] [(.int (own_f3_1 x0)), (.ref a0)])) rfl rfl (hb hby own_d1_120)
  obtain ⟨Lo41, X41, N41⟩ := oOpq X41 (Fr.snoc X41 N40 g_a0)
  have Z41 : n0 ≤ h41.size := Nat.le_trans Z30 (Keep.of_wr W41).1
  have F42 := F31.wr W41
  have F43 := F32.other W41 (Or.inr (slot_ne (Or.inr (hw _ (List.mem_of_getElem? (i := 12) rfl))) (Or.inr (hw _ (List.mem_of_getElem? (i := 20) rfl))) (by decide) (t := (.array .byte)) (t' := .int) (by decide) (by decide)))
  have F44 := F_38.other W41 (Or.inr (slot_ne (Or.inr (hw _ (List.mem_of_getElem? (i := 14) rfl))) (Or.inr (hw _ (List.mem_of_getElem? (i := 20) rfl))) (by decide) (t := (.array .int)) (t' := .int) (by decide) (by decide)))
  have F45 := F34.other W41 n10
  have F46 := F35.wr W41
  have F47 := F36.other W41 (Ne.symm ne19)
  have F48 := F37.wr W41
  have F_49 : Fld Z h41 a0 "com/example/penstock/penstock/Design" "hash" "I" (.int (own_f3_1 x0)) := F33.same W41
  have K_50 : Keep h0 h41 [a0] := K_39.wr W41 (Or.inl (List.mem_of_getElem? (i := 0) rfl))
  obtain ⟨fs, hr, hrun, hended, hW, hsame⟩ := X41.leave (v := none) (fun _ => rfl)
  refine ⟨_, _, pre7 _ ?_, hrun, hended, _, _, rfl, ?_, ⟨_, rfl⟩, hW, hsame.mono (by decide) (by decide)⟩
  · show oS p e below T1 m 47 #[oa a0, oa a1, oi (1 : Int32), oa a1, oi (1 : Int32), oi (0 : Int32), oi x0] [(.int v6), (.int (1 : Int32))] _
    refine XS.iand X1.here hx rfl (hb hby own_d1_47) rfl ?_
    show oS p e below T1 m 48 #[oa a0, oa a1, oi (1 : Int32), oa a1, oi (1 : Int32), oi (0 : Int32), oi x0] [(.int ((1 : Int32) &&& v6))] _
    refine XS.istoreN X1.here hx rfl (hb hby own_d1_48) rfl (l' := #[oa a0, oa a1, oi ((1 : Int32) &&& v6), oa a1, oi (1 : Int32), oi (0 : Int32), oi x0]) rfl ?_
    show oS p e below T1 m 49 #[oa a0, oa a1, oi ((1 : Int32) &&& v6), oa a1, oi (1 : Int32), oi (0 : Int32), oi x0] [] _
    refine XS.iinc X1.here hx rfl (hb hby own_d1_49) rfl (l' := #[oa a0, oa a1, oi ((1 : Int32) &&& v6), oa a1, oi (1 : Int32), oi (1 : Int32), oi x0]) rfl ?_
    show oS p e below T1 m 52 #[oa a0, oa a1, oi ((1 : Int32) &&& v6), oa a1, oi (1 : Int32), oi (1 : Int32), oi x0] [] _
    refine XS.goto X1.here hx rfl (pc0 := 52) (pc' := 15) rfl (hb hby own_d1_52) (by decide) (by decide) ?_
    show oS p e below T1 m 15 #[oa a0, oa a1, oi ((1 : Int32) &&& v6), oa a1, oi (1 : Int32), oi (1 : Int32), oi x0] [] _
    refine XS.iload X1.here hx rfl (hb hby own_d1_15) rfl ?_
    show oS p e below T1 m 17 #[oa a0, oa a1, oi ((1 : Int32) &&& v6), oa a1, oi (1 : Int32), oi (1 : Int32), oi x0] [(.int (1 : Int32))] _
    refine XS.iload X1.here hx rfl (hb hby own_d1_17) rfl ?_
    show oS p e below T1 m 19 #[oa a0, oa a1, oi ((1 : Int32) &&& v6), oa a1, oi (1 : Int32), oi (1 : Int32), oi x0] [(.int (1 : Int32)), (.int (1 : Int32))] _
    refine XS.icmpYes X1.here hx rfl (pc0 := 19) (pc' := 55) rfl (hb hby own_d1_19) rfl (flt b8).2.1 (by decide) (by decide) ?_
    show oS p e below T1 m 55 #[oa a0, oa a1, oi ((1 : Int32) &&& v6), oa a1, oi (1 : Int32), oi (1 : Int32), oi x0] [] _
    refine XS.iloadN X1.here hx rfl (hb hby own_d1_55) rfl ?_
    show oS p e below T1 m 56 #[oa a0, oa a1, oi ((1 : Int32) &&& v6), oa a1, oi (1 : Int32), oi (1 : Int32), oi x0] [(.int ((1 : Int32) &&& v6))] _
    refine XS.ifYes X1.here hx rfl (pc0 := 56) (pc' := 99) rfl (hb hby own_d1_56) rfl ((if0 _ _).trans (teq b9).1) (by decide) (by decide) ?_
    show oS p e below T1 m 99 #[oa a0, oa a1, oi ((1 : Int32) &&& v6), oa a1, oi (1 : Int32), oi (1 : Int32), oi x0] [] _
    refine XS.aloadN X1.here hx rfl (hb hby own_d1_99) rfl rfl ?_
    show oS p e below T1 m 100 #[oa a0, oa a1, oi ((1 : Int32) &&& v6), oa a1, oi (1 : Int32), oi (1 : Int32), oi x0] [(.ref a0)] _
    refine XS.aconstNull X1.here hx rfl (hb hby own_d1_100) ?_
    show oS p e below T1 m 101 #[oa a0, oa a1, oi ((1 : Int32) &&& v6), oa a1, oi (1 : Int32), oi (1 : Int32), oi x0] [.null, (.ref a0)] _
    refine st10 _ ?_
    show oS p e below T10 m 104 #[oa a0, oa a1, oi ((1 : Int32) &&& v6), oa a1, oi (1 : Int32), oi (1 : Int32), oi x0] [] _
    refine XS.aloadN X10.here hx rfl (hb hby own_d1_104) rfl rfl ?_
    show oS p e below T10 m 105 #[oa a0, oa a1, oi ((1 : Int32) &&& v6), oa a1, oi (1 : Int32), oi (1 : Int32), oi x0] [(.ref a0)] _
    refine XS.aloadN X10.here hx rfl (hb hby own_d1_105) rfl rfl ?_
    show oS p e below T10 m 106 #[oa a0, oa a1, oi ((1 : Int32) &&& v6), oa a1, oi (1 : Int32), oi (1 : Int32), oi x0] [(.ref a1), (.ref a0)] _
    refine st18 _ ?_
    show oS p e below T18 m 109 #[oa a0, oa a1, oi ((1 : Int32) &&& v6), oa a1, oi (1 : Int32), oi (1 : Int32), oi x0] [(.ref b18), (.ref a0)] _
    refine st29 _ ?_
    show oS p e below T29 m 112 #[oa a0, oa a1, oi ((1 : Int32) &&& v6), oa a1, oi (1 : Int32), oi (1 : Int32), oi x0] [(.ref b18), (.ref a0)] _
    refine st30 _ ?_
    show oS p e below T30 m 115 #[oa a0, oa a1, oi ((1 : Int32) &&& v6), oa a1, oi (1 : Int32), oi (1 : Int32), oi x0] [] _
    refine XS.aloadN X30.here hx rfl (hb hby own_d1_115) rfl rfl ?_
    show oS p e below T30 m 116 #[oa a0, oa a1, oi ((1 : Int32) &&& v6), oa a1, oi (1 : Int32), oi (1 : Int32), oi x0] [(.ref a0)] _
    refine XS.aloadN X30.here hx rfl (hb hby own_d1_116) rfl rfl ?_
    show oS p e below T30 m 117 #[oa a0, oa a1, oi ((1 : Int32) &&& v6), oa a1, oi (1 : Int32), oi (1 : Int32), oi x0] [(.ref a1), (.ref a0)] _
    refine st40 _ ?_
    show oS p e below T40 m 120 #[oa a0, oa a1, oi ((1 : Int32) &&& v6), oa a1, oi (1 : Int32), oi (1 : Int32), oi x0] [(.int (own_f3_1 x0)), (.ref a0)] _
    refine st41 _ ?_
    show oS p e below T41 m 123 #[oa a0, oa a1, oi ((1 : Int32) &&& v6), oa a1, oi (1 : Int32), oi (1 : Int32), oi x0] [] _
    exact X41.returnOut hx Bd.returns (hb hby own_d1_123) hr
  · show own_Q1i1 Z a0 a1 k_a1 x0 h0 n0 _ T41.heap _
    rw [e41]
    exact ⟨b18, k_a1, rfl, N41, K_50, sz_b18, F42, F43, F44, F48, F47⟩
theorem own_pn2 : plainName "jdk/internal/util/ArraysSupport" = true := by first | (simp [plainName, overriddenIn]; done) | decide +kernel
theorem own_d6_0 : decode jdk_48_method_9_code 0 = .ok (.iload_n 2, 1) := by decide +kernel
theorem own_d6_1 : decode jdk_48_method_9_code 1 = .ok (.iload_n 3, 1) := by decide +kernel
theorem own_d6_2 : decode jdk_48_method_9_code 2 = .ok (.iadd, 1) := by decide +kernel
theorem own_d6_3 : decode jdk_48_method_9_code 3 = .ok (.istore 4, 2) := by decide +kernel
theorem own_d6_5 : decode jdk_48_method_9_code 5 = .ok (.iload_n 2, 1) := by decide +kernel
theorem own_d6_6 : decode jdk_48_method_9_code 6 = .ok (.istore 5, 2) := by decide +kernel
theorem own_d6_8 : decode jdk_48_method_9_code 8 = .ok (.iload 5, 2) := by decide +kernel
theorem own_d6_10 : decode jdk_48_method_9_code 10 = .ok (.iload 4, 2) := by decide +kernel
theorem own_d6_12 : decode jdk_48_method_9_code 12 = .ok (.if_icmp .ge 19, 3) := by decide +kernel
theorem own_d6_15 : decode jdk_48_method_9_code 15 = .ok (.bipush 31, 2) := by decide +kernel
theorem own_d6_17 : decode jdk_48_method_9_code 17 = .ok (.iload_n 0, 1) := by decide +kernel
theorem own_d6_18 : decode jdk_48_method_9_code 18 = .ok (.imul, 1) := by decide +kernel
theorem own_d6_19 : decode jdk_48_method_9_code 19 = .ok (.aload_n 1, 1) := by decide +kernel
theorem own_d6_20 : decode jdk_48_method_9_code 20 = .ok (.iload 5, 2) := by decide +kernel
theorem own_d6_22 : decode jdk_48_method_9_code 22 = .ok (.iaload, 1) := by decide +kernel
theorem own_d6_23 : decode jdk_48_method_9_code 23 = .ok (.iadd, 1) := by decide +kernel
theorem own_d6_24 : decode jdk_48_method_9_code 24 = .ok (.istore_n 0, 1) := by decide +kernel
theorem own_d6_25 : decode jdk_48_method_9_code 25 = .ok (.iinc 5 1, 3) := by decide +kernel
theorem own_d6_28 : decode jdk_48_method_9_code 28 = .ok (.goto (-20), 3) := by decide +kernel
theorem own_d6_31 : decode jdk_48_method_9_code 31 = .ok (.iload_n 0, 1) := by decide +kernel
theorem own_d6_32 : decode jdk_48_method_9_code 32 = .ok (.ireturn, 1) := by decide +kernel
theorem own_ef6_2 (m : MethodId) (a1 : Addr) : entryFrame m #[(.int (1 : Int32)), (.ref a1), (.int (0 : Int32)), (.int (2 : Int32))] 6 = mkF m 0 #[oi (1 : Int32), oa a1, oi (0 : Int32), oi (2 : Int32), .unset, .unset] [] := by first | (simp [entryFrame, mkF, argsToLocals, Value.category]; done) | rfl
def own_f6_2 (x0 : Int32) (x1 : Int32) : Int32 := (((31 : Int32) * ((31 : Int32) + x0)) + x1)
def own_Q6_2 (Z : State) (a1 : Addr) (k_a1 : ClassId) (x0 : Int32) (x1 : Int32) (h0 : Heap) (n0 : Nat) (v : Option Value) (h : Heap) (L : List Loc) : Prop := v = some (Value.int (own_f6_2 x0 x1)) ∧ Fr n0 L ∧ h = h0
set_option maxRecDepth 65536 in
set_option maxHeartbeats 40000000 in
theorem own_rm6_2 (l : Launch) (Z : State) (av : Array Value) (hw : ∀ d ∈ tables_1, d.before av Z = true) (ws : List Jvm.Cond) (a1 : Addr) (k_a1 : ClassId) (x0 : Int32) (x1 : Int32) (h0 : Heap) (n0 : Nat) (Z0 : n0 ≤ h0.size) (V_a1 : Arv Z h0 a1 k_a1 .int (2 : Int32) [(.int x0), (.int x1)] (.int (0 : Int32))) :
    MetFree l (⟨"jdk/internal/util/ArraysSupport", "hashCode", "(I[III)I"⟩ : MethodName) (head1 (Jvm.Cond.code (⟨"jdk/internal/util/ArraysSupport", "hashCode", "(I[III)I"⟩ : MethodName) jdk_48_method_9_code 6 (some .int) :: ws) ({ frames := 0, cells := 0, slots := 0, locals := 0 } : Room)) (fun a U => a = #[(.int (1 : Int32)), (.ref a1), (.int (0 : Int32)), (.int (2 : Int32))] ∧ Z.Warmed39 U.vm ∧ U.heap = h0) (fun _ _ _ _ _ => True) (fun _ U o U' => ∃ v L, o = .returned v ∧ own_Q6_2 Z a1 k_a1 x0 x1 h0 n0 v U'.heap L ∧ FrameEnd U o U' L ({ frames := 0, cells := 0, slots := 0, locals := 0 } : Room).cells ({ frames := 0, cells := 0, slots := 0, locals := 0 } : Room).slots) := by
  refine MetFree.of_bodySF (plainFor_of_name own_pn2) hisR ?_
  intro p e s m args below meth c s₁ Bd hml0 hP hK
  obtain ⟨rfl, hZ, hh⟩ := hP
  have hx := Bd.exec
  have hby := Bd.bytes
  have hml : c.maxLocals = 6 := hml0
  have hown : s.vm.findClass "jdk/internal/util/ArraysSupport" = some m.cls := findClass_of_methodNamed Bd.named
  have hnm := (name_of_methodNamed Bd.named Bd.method).1
  have X0 : Stand p l e ({ frames := 0, cells := 0, slots := 0, locals := 0 } : Room) s m #[(.int (1 : Int32)), (.ref a1), (.int (0 : Int32)), (.int (2 : Int32))] below meth c s₁ [] 0 0 := Stand.of_body Bd
  have e0 : s₁.heap = h0 := by rw [← hh, Bd.state]; rfl
  have N0 := Fr.nil n0
  have pre0 : ∀ t, Steps p.tables e below (s₁.setTop (mkF m 0 #[oi (1 : Int32), oa a1, oi (0 : Int32), oi (2 : Int32), .unset, .unset] [])) t → Steps p.tables e below (s₁.setTop (entryFrame m #[(.int (1 : Int32)), (.ref a1), (.int (0 : Int32)), (.int (2 : Int32))] 6)) t := fun t k => castTop (own_ef6_2 m a1) k
  have b1 : (0 : Int32) < (2 : Int32) := (by decide)
  have b2 : (1 : Int32) < (2 : Int32) := (by decide)
  have b3 : ¬ ((2 : Int32) < (2 : Int32)) := (by decide)
  obtain ⟨fs, hr, hrun, hended, hW, hsame⟩ := X0.leave (v := (some (.int (((31 : Int32) * ((31 : Int32) + x0)) + x1)))) (fun h => by rw [Bd.returns] at h; cases h)
  refine ⟨_, _, pre0 _ ?_, hrun, hended, _, _, rfl, ?_, ⟨_, rfl⟩, hW, hsame.mono (by decide) (by decide)⟩
  · show oS p e below s₁ m 0 #[oi (1 : Int32), oa a1, oi (0 : Int32), oi (2 : Int32), .unset, .unset] [] _
    refine XS.iloadN X0.here hx rfl (hb hby own_d6_0) rfl ?_
    show oS p e below s₁ m 1 #[oi (1 : Int32), oa a1, oi (0 : Int32), oi (2 : Int32), .unset, .unset] [(.int (0 : Int32))] _
    refine XS.iloadN X0.here hx rfl (hb hby own_d6_1) rfl ?_
    show oS p e below s₁ m 2 #[oi (1 : Int32), oa a1, oi (0 : Int32), oi (2 : Int32), .unset, .unset] [(.int (2 : Int32)), (.int (0 : Int32))] _
    refine XS.iadd X0.here hx rfl (hb hby own_d6_2) rfl ?_
    show oS p e below s₁ m 3 #[oi (1 : Int32), oa a1, oi (0 : Int32), oi (2 : Int32), .unset, .unset] [(.int (2 : Int32))] _
    refine XS.istore X0.here hx rfl (hb hby own_d6_3) rfl (l' := #[oi (1 : Int32), oa a1, oi (0 : Int32), oi (2 : Int32), oi (2 : Int32), .unset]) rfl ?_
    show oS p e below s₁ m 5 #[oi (1 : Int32), oa a1, oi (0 : Int32), oi (2 : Int32), oi (2 : Int32), .unset] [] _
    refine XS.iloadN X0.here hx rfl (hb hby own_d6_5) rfl ?_
    show oS p e below s₁ m 6 #[oi (1 : Int32), oa a1, oi (0 : Int32), oi (2 : Int32), oi (2 : Int32), .unset] [(.int (0 : Int32))] _
    refine XS.istore X0.here hx rfl (hb hby own_d6_6) rfl (l' := #[oi (1 : Int32), oa a1, oi (0 : Int32), oi (2 : Int32), oi (2 : Int32), oi (0 : Int32)]) rfl ?_
    show oS p e below s₁ m 8 #[oi (1 : Int32), oa a1, oi (0 : Int32), oi (2 : Int32), oi (2 : Int32), oi (0 : Int32)] [] _
    refine XS.iload X0.here hx rfl (hb hby own_d6_8) rfl ?_
    show oS p e below s₁ m 10 #[oi (1 : Int32), oa a1, oi (0 : Int32), oi (2 : Int32), oi (2 : Int32), oi (0 : Int32)] [(.int (0 : Int32))] _
    refine XS.iload X0.here hx rfl (hb hby own_d6_10) rfl ?_
    show oS p e below s₁ m 12 #[oi (1 : Int32), oa a1, oi (0 : Int32), oi (2 : Int32), oi (2 : Int32), oi (0 : Int32)] [(.int (2 : Int32)), (.int (0 : Int32))] _
    refine XS.icmpNo X0.here hx rfl (hb hby own_d6_12) rfl (tlt b1).2.1 ?_
    show oS p e below s₁ m 15 #[oi (1 : Int32), oa a1, oi (0 : Int32), oi (2 : Int32), oi (2 : Int32), oi (0 : Int32)] [] _
    refine XS.bipush X0.here hx rfl (hb hby own_d6_15) ?_
    show oS p e below s₁ m 17 #[oi (1 : Int32), oa a1, oi (0 : Int32), oi (2 : Int32), oi (2 : Int32), oi (0 : Int32)] [(.int (31 : Int32))] _
    refine XS.iloadN X0.here hx rfl (hb hby own_d6_17) rfl ?_
    show oS p e below s₁ m 18 #[oi (1 : Int32), oa a1, oi (0 : Int32), oi (2 : Int32), oi (2 : Int32), oi (0 : Int32)] [(.int (1 : Int32)), (.int (31 : Int32))] _
    refine XS.imul X0.here hx rfl (hb hby own_d6_18) rfl ?_
    show oS p e below s₁ m 19 #[oi (1 : Int32), oa a1, oi (0 : Int32), oi (2 : Int32), oi (2 : Int32), oi (0 : Int32)] [(.int (31 : Int32))] _
    refine XS.aloadN X0.here hx rfl (hb hby own_d6_19) rfl rfl ?_
    show oS p e below s₁ m 20 #[oi (1 : Int32), oa a1, oi (0 : Int32), oi (2 : Int32), oi (2 : Int32), oi (0 : Int32)] [(.ref a1), (.int (31 : Int32))] _
    refine XS.iload X0.here hx rfl (hb hby own_d6_20) rfl ?_
    show oS p e below s₁ m 22 #[oi (1 : Int32), oa a1, oi (0 : Int32), oi (2 : Int32), oi (2 : Int32), oi (0 : Int32)] [(.int (0 : Int32)), (.ref a1), (.int (31 : Int32))] _
    refine oLdI X0 hx hZ e0 V_a1 (v := (.int x0)) ⟨by decide, by decide⟩ rfl (hb hby own_d6_22) ?_
    show oS p e below s₁ m 23 #[oi (1 : Int32), oa a1, oi (0 : Int32), oi (2 : Int32), oi (2 : Int32), oi (0 : Int32)] [(.int x0), (.int (31 : Int32))] _
    refine XS.iadd X0.here hx rfl (hb hby own_d6_23) rfl ?_
    show oS p e below s₁ m 24 #[oi (1 : Int32), oa a1, oi (0 : Int32), oi (2 : Int32), oi (2 : Int32), oi (0 : Int32)] [(.int ((31 : Int32) + x0))] _
    refine XS.istoreN X0.here hx rfl (hb hby own_d6_24) rfl (l' := #[oi ((31 : Int32) + x0), oa a1, oi (0 : Int32), oi (2 : Int32), oi (2 : Int32), oi (0 : Int32)]) rfl ?_
    show oS p e below s₁ m 25 #[oi ((31 : Int32) + x0), oa a1, oi (0 : Int32), oi (2 : Int32), oi (2 : Int32), oi (0 : Int32)] [] _
    refine XS.iinc X0.here hx rfl (hb hby own_d6_25) rfl (l' := #[oi ((31 : Int32) + x0), oa a1, oi (0 : Int32), oi (2 : Int32), oi (2 : Int32), oi (1 : Int32)]) rfl ?_
    show oS p e below s₁ m 28 #[oi ((31 : Int32) + x0), oa a1, oi (0 : Int32), oi (2 : Int32), oi (2 : Int32), oi (1 : Int32)] [] _
    refine XS.goto X0.here hx rfl (pc0 := 28) (pc' := 8) rfl (hb hby own_d6_28) (by decide) (by decide) ?_
    show oS p e below s₁ m 8 #[oi ((31 : Int32) + x0), oa a1, oi (0 : Int32), oi (2 : Int32), oi (2 : Int32), oi (1 : Int32)] [] _
    refine XS.iload X0.here hx rfl (hb hby own_d6_8) rfl ?_
    show oS p e below s₁ m 10 #[oi ((31 : Int32) + x0), oa a1, oi (0 : Int32), oi (2 : Int32), oi (2 : Int32), oi (1 : Int32)] [(.int (1 : Int32))] _
    refine XS.iload X0.here hx rfl (hb hby own_d6_10) rfl ?_
    show oS p e below s₁ m 12 #[oi ((31 : Int32) + x0), oa a1, oi (0 : Int32), oi (2 : Int32), oi (2 : Int32), oi (1 : Int32)] [(.int (2 : Int32)), (.int (1 : Int32))] _
    refine XS.icmpNo X0.here hx rfl (hb hby own_d6_12) rfl (tlt b2).2.1 ?_
    show oS p e below s₁ m 15 #[oi ((31 : Int32) + x0), oa a1, oi (0 : Int32), oi (2 : Int32), oi (2 : Int32), oi (1 : Int32)] [] _
    refine XS.bipush X0.here hx rfl (hb hby own_d6_15) ?_
    show oS p e below s₁ m 17 #[oi ((31 : Int32) + x0), oa a1, oi (0 : Int32), oi (2 : Int32), oi (2 : Int32), oi (1 : Int32)] [(.int (31 : Int32))] _
    refine XS.iloadN X0.here hx rfl (hb hby own_d6_17) rfl ?_
    show oS p e below s₁ m 18 #[oi ((31 : Int32) + x0), oa a1, oi (0 : Int32), oi (2 : Int32), oi (2 : Int32), oi (1 : Int32)] [(.int ((31 : Int32) + x0)), (.int (31 : Int32))] _
    refine XS.imul X0.here hx rfl (hb hby own_d6_18) rfl ?_
    show oS p e below s₁ m 19 #[oi ((31 : Int32) + x0), oa a1, oi (0 : Int32), oi (2 : Int32), oi (2 : Int32), oi (1 : Int32)] [(.int ((31 : Int32) * ((31 : Int32) + x0)))] _
    refine XS.aloadN X0.here hx rfl (hb hby own_d6_19) rfl rfl ?_
    show oS p e below s₁ m 20 #[oi ((31 : Int32) + x0), oa a1, oi (0 : Int32), oi (2 : Int32), oi (2 : Int32), oi (1 : Int32)] [(.ref a1), (.int ((31 : Int32) * ((31 : Int32) + x0)))] _
    refine XS.iload X0.here hx rfl (hb hby own_d6_20) rfl ?_
    show oS p e below s₁ m 22 #[oi ((31 : Int32) + x0), oa a1, oi (0 : Int32), oi (2 : Int32), oi (2 : Int32), oi (1 : Int32)] [(.int (1 : Int32)), (.ref a1), (.int ((31 : Int32) * ((31 : Int32) + x0)))] _
    refine oLdI X0 hx hZ e0 V_a1 (v := (.int x1)) ⟨by decide, by decide⟩ rfl (hb hby own_d6_22) ?_
    show oS p e below s₁ m 23 #[oi ((31 : Int32) + x0), oa a1, oi (0 : Int32), oi (2 : Int32), oi (2 : Int32), oi (1 : Int32)] [(.int x1), (.int ((31 : Int32) * ((31 : Int32) + x0)))] _
    refine XS.iadd X0.here hx rfl (hb hby own_d6_23) rfl ?_
    show oS p e below s₁ m 24 #[oi ((31 : Int32) + x0), oa a1, oi (0 : Int32), oi (2 : Int32), oi (2 : Int32), oi (1 : Int32)] [(.int (((31 : Int32) * ((31 : Int32) + x0)) + x1))] _
    refine XS.istoreN X0.here hx rfl (hb hby own_d6_24) rfl (l' := #[oi (((31 : Int32) * ((31 : Int32) + x0)) + x1), oa a1, oi (0 : Int32), oi (2 : Int32), oi (2 : Int32), oi (1 : Int32)]) rfl ?_
    show oS p e below s₁ m 25 #[oi (((31 : Int32) * ((31 : Int32) + x0)) + x1), oa a1, oi (0 : Int32), oi (2 : Int32), oi (2 : Int32), oi (1 : Int32)] [] _
    refine XS.iinc X0.here hx rfl (hb hby own_d6_25) rfl (l' := #[oi (((31 : Int32) * ((31 : Int32) + x0)) + x1), oa a1, oi (0 : Int32), oi (2 : Int32), oi (2 : Int32), oi (2 : Int32)]) rfl ?_
    show oS p e below s₁ m 28 #[oi (((31 : Int32) * ((31 : Int32) + x0)) + x1), oa a1, oi (0 : Int32), oi (2 : Int32), oi (2 : Int32), oi (2 : Int32)] [] _
    refine XS.goto X0.here hx rfl (pc0 := 28) (pc' := 8) rfl (hb hby own_d6_28) (by decide) (by decide) ?_
    show oS p e below s₁ m 8 #[oi (((31 : Int32) * ((31 : Int32) + x0)) + x1), oa a1, oi (0 : Int32), oi (2 : Int32), oi (2 : Int32), oi (2 : Int32)] [] _
    refine XS.iload X0.here hx rfl (hb hby own_d6_8) rfl ?_
    show oS p e below s₁ m 10 #[oi (((31 : Int32) * ((31 : Int32) + x0)) + x1), oa a1, oi (0 : Int32), oi (2 : Int32), oi (2 : Int32), oi (2 : Int32)] [(.int (2 : Int32))] _
    refine XS.iload X0.here hx rfl (hb hby own_d6_10) rfl ?_
    show oS p e below s₁ m 12 #[oi (((31 : Int32) * ((31 : Int32) + x0)) + x1), oa a1, oi (0 : Int32), oi (2 : Int32), oi (2 : Int32), oi (2 : Int32)] [(.int (2 : Int32)), (.int (2 : Int32))] _
    refine XS.icmpYes X0.here hx rfl (pc0 := 12) (pc' := 31) rfl (hb hby own_d6_12) rfl (flt b3).2.1 (by decide) (by decide) ?_
    show oS p e below s₁ m 31 #[oi (((31 : Int32) * ((31 : Int32) + x0)) + x1), oa a1, oi (0 : Int32), oi (2 : Int32), oi (2 : Int32), oi (2 : Int32)] [] _
    refine XS.iloadN X0.here hx rfl (hb hby own_d6_31) rfl ?_
    show oS p e below s₁ m 32 #[oi (((31 : Int32) * ((31 : Int32) + x0)) + x1), oa a1, oi (0 : Int32), oi (2 : Int32), oi (2 : Int32), oi (2 : Int32)] [(.int (((31 : Int32) * ((31 : Int32) + x0)) + x1))] _
    exact retOut X0 hx Bd.returns rfl (Or.inl ⟨rfl, Or.inl rfl, _, rfl⟩) (hb hby own_d6_32) hr
  · show own_Q6_2 Z a1 k_a1 x0 x1 h0 n0 _ s₁.heap _
    rw [e0]
    exact ⟨congrArg (fun z => some (Value.int z)) (by rw [own_f6_2]), N0, rfl⟩
theorem own_pd1 : parseMethodDescriptor "(I[III)I" = some ⟨[.int, (.array .int), .int, .int], some .int⟩ := by decide +kernel
theorem own_d5_0 : decode jdk_48_method_4_code 0 = .ok (.iload 4, 2) := by decide +kernel
theorem own_d5_2 : decode jdk_48_method_4_code 2 = .ok (.tableswitch 127 4 10 #[42, 55, 127, 127, 88, 101, 114], 42) := by decide +kernel
theorem own_d5_116 : decode jdk_48_method_4_code 116 = .ok (.iload_n 3, 1) := by decide +kernel
theorem own_d5_117 : decode jdk_48_method_4_code 117 = .ok (.aload_n 0, 1) := by decide +kernel
theorem own_d5_118 : decode jdk_48_method_4_code 118 = .ok (.checkcast 82, 3) := by decide +kernel
theorem own_d5_121 : decode jdk_48_method_4_code 121 = .ok (.iload_n 1, 1) := by decide +kernel
theorem own_d5_122 : decode jdk_48_method_4_code 122 = .ok (.iload_n 2, 1) := by decide +kernel
theorem own_d5_123 : decode jdk_48_method_4_code 123 = .ok (.invokestatic 84, 3) := by decide +kernel
theorem own_d5_126 : decode jdk_48_method_4_code 126 = .ok (.goto 31, 3) := by decide +kernel
theorem own_d5_157 : decode jdk_48_method_4_code 157 = .ok (.ireturn, 1) := by decide +kernel
theorem own_ef5_2 (m : MethodId) (a0 : Addr) : entryFrame m #[(.ref a0), (.int (0 : Int32)), (.int (2 : Int32)), (.int (1 : Int32)), (.int (10 : Int32))] 5 = mkF m 0 #[oa a0, oi (0 : Int32), oi (2 : Int32), oi (1 : Int32), oi (10 : Int32)] [] := by first | (simp [entryFrame, mkF, argsToLocals, Value.category]; done) | rfl
def own_f5_2 (x0 : Int32) (x1 : Int32) : Int32 := (own_f6_2 x0 x1)
def own_Q5_2 (Z : State) (a0 : Addr) (k_a0 : ClassId) (x0 : Int32) (x1 : Int32) (h0 : Heap) (n0 : Nat) (v : Option Value) (h : Heap) (L : List Loc) : Prop := v = some (Value.int (own_f5_2 x0 x1)) ∧ Fr n0 L ∧ h = h0
set_option maxRecDepth 65536 in
set_option maxHeartbeats 40000000 in
theorem own_rm5_2 (l : Launch) (Z : State) (av : Array Value) (hw : ∀ d ∈ tables_1, d.before av Z = true) (ws : List Jvm.Cond) (a0 : Addr) (k_a0 : ClassId) (x0 : Int32) (x1 : Int32) (h0 : Heap) (n0 : Nat) (Z0 : n0 ≤ h0.size) (V_a0 : Arv Z h0 a0 k_a0 .int (2 : Int32) [(.int x0), (.int x1)] (.int (0 : Int32))) (E_a0 : Exa Z h0 a0 "[I") :
    MetFree l (⟨"jdk/internal/util/ArraysSupport", "vectorizedHashCode", "(Ljava/lang/Object;IIII)I"⟩ : MethodName) (head1 (Jvm.Cond.code (⟨"jdk/internal/util/ArraysSupport", "vectorizedHashCode", "(Ljava/lang/Object;IIII)I"⟩ : MethodName) jdk_48_method_4_code 5 (some .int) :: ws) ({ frames := 1, cells := 0, slots := 0, locals := 17 } : Room)) (fun a U => a = #[(.ref a0), (.int (0 : Int32)), (.int (2 : Int32)), (.int (1 : Int32)), (.int (10 : Int32))] ∧ Z.Warmed39 U.vm ∧ U.heap = h0) (fun _ _ _ _ _ => True) (fun _ U o U' => ∃ v L, o = .returned v ∧ own_Q5_2 Z a0 k_a0 x0 x1 h0 n0 v U'.heap L ∧ FrameEnd U o U' L ({ frames := 1, cells := 0, slots := 0, locals := 17 } : Room).cells ({ frames := 1, cells := 0, slots := 0, locals := 17 } : Room).slots) := by
  refine MetFree.of_bodySF (plainFor_of_name own_pn2) hisR ?_
  intro p e s m args below meth c s₁ Bd hml0 hP hK
  obtain ⟨rfl, hZ, hh⟩ := hP
  have hx := Bd.exec
  have hby := Bd.bytes
  have hml : c.maxLocals = 5 := hml0
  have hown : s.vm.findClass "jdk/internal/util/ArraysSupport" = some m.cls := findClass_of_methodNamed Bd.named
  have hnm := (name_of_methodNamed Bd.named Bd.method).1
  have X0 : Stand p l e ({ frames := 1, cells := 0, slots := 0, locals := 17 } : Room) s m #[(.ref a0), (.int (0 : Int32)), (.int (2 : Int32)), (.int (1 : Int32)), (.int (10 : Int32))] below meth c s₁ [] 0 0 := Stand.of_body Bd
  have e0 : s₁.heap = h0 := by rw [← hh, Bd.state]; rfl
  have N0 := Fr.nil n0
  have pre0 : ∀ t, Steps p.tables e below (s₁.setTop (mkF m 0 #[oa a0, oi (0 : Int32), oi (2 : Int32), oi (1 : Int32), oi (10 : Int32)] [])) t → Steps p.tables e below (s₁.setTop (entryFrame m #[(.ref a0), (.int (0 : Int32)), (.int (2 : Int32)), (.int (1 : Int32)), (.int (10 : Int32))] 5)) t := fun t k => castTop (own_ef5_2 m a0) k
  have pre1 : ∀ t, Steps p.tables e below (s₁.setTop (mkF m 2 #[oa a0, oi (0 : Int32), oi (2 : Int32), oi (1 : Int32), oi (10 : Int32)] [(.int (10 : Int32))])) t → Steps p.tables e below (s₁.setTop (entryFrame m #[(.ref a0), (.int (0 : Int32)), (.int (2 : Int32)), (.int (1 : Int32)), (.int (10 : Int32))] 5)) t := by
    intro t k
    refine pre0 t ?_
    show oS p e below s₁ m 0 #[oa a0, oi (0 : Int32), oi (2 : Int32), oi (1 : Int32), oi (10 : Int32)] [] _
    refine XS.iload X0.here hx rfl (hb hby own_d5_0) rfl ?_
    exact k
  have k2 : (10 : Int32).toInt = 10 := (by decide)
  have c3 : ¬ ((10 : Int32).toInt < 4 ∨ (10 : Int32).toInt > 10) := by omega
  obtain ⟨T4, X4, e4, st4⟩ := castY X0 hx hZ hown (hw _ (List.mem_of_getElem? (i := 30) rfl)) e0 (Ins.self E_a0) (g := (mkF m 118 #[oa a0, oi (0 : Int32), oi (2 : Int32), oi (1 : Int32), oi (10 : Int32)] [(.ref a0), (.int (1 : Int32))])) rfl rfl (hb hby own_d5_118)
  obtain ⟨_, _, ⟨T5, L5, k5, n5⟩, -, X5, ⟨Lc5, hQ5, l5, y5, z5⟩, st5⟩ := Jvm.LawKit.callS X4 hx (y := (⟨"jdk/internal/util/ArraysSupport", "hashCode", "(I[III)I"⟩ : MethodName)) hown (mvT hZ (hw _ (List.mem_of_getElem? (i := 32) rfl))) (mvT hZ (hw _ (List.mem_of_getElem? (i := 33) rfl))) (mvT hZ (hw _ (List.mem_of_getElem? (i := 28) rfl))) (mvT hZ (hw _ (List.mem_of_getElem? (i := 34) rfl))) (by decide) (backOf (W := 0) (own_rm6_2 l Z av hw [] a0 k_a0 x0 x1 h0 n0 Z0 V_a0) hZ (hw _ (List.mem_of_getElem? (i := 34) rfl)) (hw _ (List.mem_of_getElem? (i := 28) rfl)) (by decide) (by decide)) (g := (mkF m 123 #[oa a0, oi (0 : Int32), oi (2 : Int32), oi (1 : Int32), oi (10 : Int32)] [(.int (2 : Int32)), (.int (0 : Int32)), (.ref a0), (.int (1 : Int32))])) rfl (by rw [hml]; rfl) (argsL := [(.int (1 : Int32)), (.ref a0), (.int (0 : Int32)), (.int (2 : Int32))]) (rest := []) (lenOf own_pd1 rfl) rfl (by show 2 * 0 + _ ≤ _; exact Nat.le_of_eq rfl) (hb hby own_d5_123) (fun _ _ => ⟨rfl, e4, (by decide : 0 + 0 ≤ _), (by decide : 0 + 0 ≤ _)⟩)
  dsimp only [Pt.U, Pt.locs, Pt.cells, Pt.slots] at X5 l5 y5 z5 st5 hQ5
  have yq5 : k5 = 0 := y5
  have zq5 : n5 = 0 := z5
  subst yq5 zq5
  obtain ⟨rfl, Nq5, eq5⟩ := hQ5
  have N5 : Fr n0 L5 := by rw [l5]; exact Fr.app N0 Nq5
  obtain ⟨fs, hr, hrun, hended, hW, hsame⟩ := X5.leave (v := (some (.int (own_f6_2 x0 x1)))) (fun h => by rw [Bd.returns] at h; cases h)
  refine ⟨_, _, pre1 _ ?_, hrun, hended, _, _, rfl, ?_, ⟨_, rfl⟩, hW, hsame.mono (by decide) (by decide)⟩
  · show oS p e below s₁ m 2 #[oa a0, oi (0 : Int32), oi (2 : Int32), oi (1 : Int32), oi (10 : Int32)] [(.int (10 : Int32))] _
    refine XS.tswIn X0.here hx rfl (o := 114) (pc0 := 2) (pc' := 116) rfl (hb hby own_d5_2) rfl c3 (by rw [show (10 : Int32).toInt = 10 from k2]; rfl) (by decide) (by decide) ?_
    show oS p e below s₁ m 116 #[oa a0, oi (0 : Int32), oi (2 : Int32), oi (1 : Int32), oi (10 : Int32)] [] _
    refine XS.iloadN X0.here hx rfl (hb hby own_d5_116) rfl ?_
    show oS p e below s₁ m 117 #[oa a0, oi (0 : Int32), oi (2 : Int32), oi (1 : Int32), oi (10 : Int32)] [(.int (1 : Int32))] _
    refine XS.aloadN X0.here hx rfl (hb hby own_d5_117) rfl rfl ?_
    show oS p e below s₁ m 118 #[oa a0, oi (0 : Int32), oi (2 : Int32), oi (1 : Int32), oi (10 : Int32)] [(.ref a0), (.int (1 : Int32))] _
    refine st4 _ ?_
    show oS p e below T4 m 121 #[oa a0, oi (0 : Int32), oi (2 : Int32), oi (1 : Int32), oi (10 : Int32)] [(.ref a0), (.int (1 : Int32))] _
    refine XS.iloadN X4.here hx rfl (hb hby own_d5_121) rfl ?_
    show oS p e below T4 m 122 #[oa a0, oi (0 : Int32), oi (2 : Int32), oi (1 : Int32), oi (10 : Int32)] [(.int (0 : Int32)), (.ref a0), (.int (1 : Int32))] _
    refine XS.iloadN X4.here hx rfl (hb hby own_d5_122) rfl ?_
    show oS p e below T4 m 123 #[oa a0, oi (0 : Int32), oi (2 : Int32), oi (1 : Int32), oi (10 : Int32)] [(.int (2 : Int32)), (.int (0 : Int32)), (.ref a0), (.int (1 : Int32))] _
    refine st5 _ ?_
    show oS p e below T5 m 126 #[oa a0, oi (0 : Int32), oi (2 : Int32), oi (1 : Int32), oi (10 : Int32)] [(.int (own_f6_2 x0 x1))] _
    refine XS.goto X5.here hx rfl (pc0 := 126) (pc' := 157) rfl (hb hby own_d5_126) (by decide) (by decide) ?_
    show oS p e below T5 m 157 #[oa a0, oi (0 : Int32), oi (2 : Int32), oi (1 : Int32), oi (10 : Int32)] [(.int (own_f6_2 x0 x1))] _
    exact retOut X5 hx Bd.returns rfl (Or.inl ⟨rfl, Or.inl rfl, _, rfl⟩) (hb hby own_d5_157) hr
  · show own_Q5_2 Z a0 k_a0 x0 x1 h0 n0 _ T5.heap _
    rw [eq5]
    exact ⟨congrArg (fun z => some (Value.int z)) (by rw [own_f5_2]), N5, rfl⟩
theorem own_pd2 : parseMethodDescriptor "(Ljava/lang/Object;IIII)I" = some ⟨[(.object "java/lang/Object"), .int, .int, .int, .int], some .int⟩ := by decide +kernel
theorem own_d3_49 : decode jdk_65_method_150_code 49 = .ok (.aload_n 0, 1) := by decide +kernel
theorem own_d3_50 : decode jdk_65_method_150_code 50 = .ok (.iconst 0, 1) := by decide +kernel
theorem own_d3_51 : decode jdk_65_method_150_code 51 = .ok (.aload_n 0, 1) := by decide +kernel
theorem own_d3_52 : decode jdk_65_method_150_code 52 = .ok (.arraylength, 1) := by decide +kernel
theorem own_d3_53 : decode jdk_65_method_150_code 53 = .ok (.iconst 1, 1) := by decide +kernel
theorem own_d3_54 : decode jdk_65_method_150_code 54 = .ok (.bipush 10, 2) := by decide +kernel
theorem own_d3_56 : decode jdk_65_method_150_code 56 = .ok (.invokestatic 379, 3) := by decide +kernel
theorem own_ef3_2 (m : MethodId) (a0 : Addr) : entryFrame m #[(.ref a0)] 1 = mkF m 0 #[oa a0] [] := by first | (simp [entryFrame, mkF, argsToLocals, Value.category]; done) | rfl
def own_f3_2 (x0 : Int32) (x1 : Int32) : Int32 := (own_f5_2 x0 x1)
def own_Q3_2 (Z : State) (a0 : Addr) (k_a0 : ClassId) (x0 : Int32) (x1 : Int32) (h0 : Heap) (n0 : Nat) (v : Option Value) (h : Heap) (L : List Loc) : Prop := v = some (Value.int (own_f3_2 x0 x1)) ∧ Fr n0 L ∧ h = h0
set_option maxRecDepth 65536 in
set_option maxHeartbeats 40000000 in
theorem own_rm3_2 (l : Launch) (Z : State) (av : Array Value) (hw : ∀ d ∈ tables_1, d.before av Z = true) (ws : List Jvm.Cond) (a0 : Addr) (k_a0 : ClassId) (x0 : Int32) (x1 : Int32) (h0 : Heap) (n0 : Nat) (Z0 : n0 ≤ h0.size) (V_a0 : Arv Z h0 a0 k_a0 .int (2 : Int32) [(.int x0), (.int x1)] (.int (0 : Int32))) (E_a0 : Exa Z h0 a0 "[I") :
    MetFree l (⟨"java/util/Arrays", "hashCode", "([I)I"⟩ : MethodName) (head1 (Jvm.Cond.code (⟨"java/util/Arrays", "hashCode", "([I)I"⟩ : MethodName) jdk_65_method_150_code 1 (some .int) :: ws) ({ frames := 2, cells := 0, slots := 0, locals := 33 } : Room)) (fun a U => a = #[(.ref a0)] ∧ Z.Warmed39 U.vm ∧ U.heap = h0) (fun _ _ _ _ _ => True) (fun _ U o U' => ∃ v L, o = .returned v ∧ own_Q3_2 Z a0 k_a0 x0 x1 h0 n0 v U'.heap L ∧ FrameEnd U o U' L ({ frames := 2, cells := 0, slots := 0, locals := 33 } : Room).cells ({ frames := 2, cells := 0, slots := 0, locals := 33 } : Room).slots) := by
  refine MetFree.of_bodySF (plainFor_of_name own_pn0) hisR ?_
  intro p e s m args below meth c s₁ Bd hml0 hP hK
  obtain ⟨rfl, hZ, hh⟩ := hP
  have hx := Bd.exec
  have hby := Bd.bytes
  have hml : c.maxLocals = 1 := hml0
  have hown : s.vm.findClass "java/util/Arrays" = some m.cls := findClass_of_methodNamed Bd.named
  have hnm := (name_of_methodNamed Bd.named Bd.method).1
  have X0 : Stand p l e ({ frames := 2, cells := 0, slots := 0, locals := 33 } : Room) s m #[(.ref a0)] below meth c s₁ [] 0 0 := Stand.of_body Bd
  have e0 : s₁.heap = h0 := by rw [← hh, Bd.state]; rfl
  have N0 := Fr.nil n0
  have pre0 : ∀ t, Steps p.tables e below (s₁.setTop (mkF m 0 #[oa a0] [])) t → Steps p.tables e below (s₁.setTop (entryFrame m #[(.ref a0)] 1)) t := fun t k => castTop (own_ef3_2 m a0) k
  obtain ⟨_, _, ⟨T1, L1, k1, n1⟩, -, X1, ⟨Lc1, hQ1, l1, y1, z1⟩, st1⟩ := Jvm.LawKit.callS X0 hx (y := (⟨"jdk/internal/util/ArraysSupport", "vectorizedHashCode", "(Ljava/lang/Object;IIII)I"⟩ : MethodName)) hown (mvT hZ (hw _ (List.mem_of_getElem? (i := 26) rfl))) (mvT hZ (hw _ (List.mem_of_getElem? (i := 27) rfl))) (mvT hZ (hw _ (List.mem_of_getElem? (i := 28) rfl))) (mvT hZ (hw _ (List.mem_of_getElem? (i := 29) rfl))) (by decide) (backOf (W := 0) (own_rm5_2 l Z av hw [] a0 k_a0 x0 x1 h0 n0 Z0 V_a0 E_a0) hZ (hw _ (List.mem_of_getElem? (i := 29) rfl)) (hw _ (List.mem_of_getElem? (i := 28) rfl)) (by decide) (by decide)) (g := (mkF m 56 #[oa a0] [(.int (10 : Int32)), (.int (1 : Int32)), (.int (2 : Int32)), (.int (0 : Int32)), (.ref a0)])) rfl (by rw [hml]; rfl) (argsL := [(.ref a0), (.int (0 : Int32)), (.int (2 : Int32)), (.int (1 : Int32)), (.int (10 : Int32))]) (rest := []) (lenOf own_pd2 rfl) rfl (by show 2 * 0 + _ ≤ _; exact Nat.le_of_eq rfl) (hb hby own_d3_56) (fun _ _ => ⟨rfl, e0, (by decide : 0 + 0 ≤ _), (by decide : 0 + 0 ≤ _)⟩)
  dsimp only [Pt.U, Pt.locs, Pt.cells, Pt.slots] at X1 l1 y1 z1 st1 hQ1
  have yq1 : k1 = 0 := y1
  have zq1 : n1 = 0 := z1
  subst yq1 zq1
  obtain ⟨rfl, Nq1, eq1⟩ := hQ1
  have N1 : Fr n0 L1 := by rw [l1]; exact Fr.app N0 Nq1
  obtain ⟨fs, hr, hrun, hended, hW, hsame⟩ := X1.leave (v := (some (.int (own_f5_2 x0 x1)))) (fun h => by rw [Bd.returns] at h; cases h)
  refine ⟨_, _, pre0 _ ?_, hrun, hended, _, _, rfl, ?_, ⟨_, rfl⟩, hW, hsame.mono (by decide) (by decide)⟩
  · show oS p e below s₁ m 0 #[oa a0] [] _
    refine XS.aloadN X0.here hx rfl (hb hby own_d3_0) rfl rfl ?_
    show oS p e below s₁ m 1 #[oa a0] [(.ref a0)] _
    refine XS.ifnonnullYes X0.here hx rfl (pc0 := 1) (pc' := 6) rfl (hb hby own_d3_1) rfl (by decide) (by decide) ?_
    show oS p e below s₁ m 6 #[oa a0] [] _
    refine XS.aloadN X0.here hx rfl (hb hby own_d3_6) rfl rfl ?_
    show oS p e below s₁ m 7 #[oa a0] [(.ref a0)] _
    refine oLen X0 hx hZ e0 V_a0 (hb hby own_d3_7) ?_
    show oS p e below s₁ m 8 #[oa a0] [(.int (2 : Int32))] _
    jvm_step X0.here [X0.here.top, hx, (hb hby own_d3_8), show ((2 : Int32).toInt) = 2 from by decide]
    show oS p e below s₁ m 49 #[oa a0] [] _
    refine XS.aloadN X0.here hx rfl (hb hby own_d3_49) rfl rfl ?_
    show oS p e below s₁ m 50 #[oa a0] [(.ref a0)] _
    refine XS.iconst X0.here hx rfl (hb hby own_d3_50) ?_
    show oS p e below s₁ m 51 #[oa a0] [(.int (0 : Int32)), (.ref a0)] _
    refine XS.aloadN X0.here hx rfl (hb hby own_d3_51) rfl rfl ?_
    show oS p e below s₁ m 52 #[oa a0] [(.ref a0), (.int (0 : Int32)), (.ref a0)] _
    refine oLen X0 hx hZ e0 V_a0 (hb hby own_d3_52) ?_
    show oS p e below s₁ m 53 #[oa a0] [(.int (2 : Int32)), (.int (0 : Int32)), (.ref a0)] _
    refine XS.iconst X0.here hx rfl (hb hby own_d3_53) ?_
    show oS p e below s₁ m 54 #[oa a0] [(.int (1 : Int32)), (.int (2 : Int32)), (.int (0 : Int32)), (.ref a0)] _
    refine XS.bipush X0.here hx rfl (hb hby own_d3_54) ?_
    show oS p e below s₁ m 56 #[oa a0] [(.int (10 : Int32)), (.int (1 : Int32)), (.int (2 : Int32)), (.int (0 : Int32)), (.ref a0)] _
    refine st1 _ ?_
    show oS p e below T1 m 59 #[oa a0] [(.int (own_f5_2 x0 x1))] _
    exact retOut X1 hx Bd.returns rfl (Or.inl ⟨rfl, Or.inl rfl, _, rfl⟩) (hb hby own_d3_59) hr
  · show own_Q3_2 Z a0 k_a0 x0 x1 h0 n0 _ T1.heap _
    rw [eq1]
    exact ⟨congrArg (fun z => some (Value.int z)) (by rw [own_f3_2]), N1, rfl⟩
theorem own_ef1b2 (m : MethodId) (a0 : Addr) (a1 : Addr) : entryFrame m #[(.ref a0), (.ref a1)] 7 = mkF m 0 #[oa a0, oa a1, .unset, .unset, .unset, .unset, .unset] [] := by first | (simp [entryFrame, mkF, argsToLocals, Value.category]; done) | rfl
def own_Q1b2 (Z : State) (a0 : Addr) (a1 : Addr) (k_a1 : ClassId) (x0 : Int32) (x1 : Int32) (h0 : Heap) (n0 : Nat) (v : Option Value) (h : Heap) (L : List Loc) : Prop := ∃ (b : Addr) (k_b : ClassId), v = none ∧ Fr n0 L ∧ Keep h0 h [a0] ∧ h0.size ≤ b ∧ Exa Z h a0 "com/example/penstock/penstock/Design" ∧ Fld Z h a0 "com/example/penstock/penstock/Design" "byteIndices" "[B" (.ref b) ∧ Fld Z h a0 "com/example/penstock/penstock/Design" "intIndices" "[I" .null ∧ Arv Z h b k_b .byte (2 : Int32) [(.int (x0.toInt8.toInt32)), (.int (x1.toInt8.toInt32))] (.int (0 : Int32))
set_option maxRecDepth 65536 in
set_option maxHeartbeats 40000000 in
theorem own_rm1b2 (l : Launch) (Z : State) (av : Array Value) (hw : ∀ d ∈ tables_1, d.before av Z = true) (ws : List Jvm.Cond) (a0 : Addr) (a1 : Addr) (k_a1 : ClassId) (x0 : Int32) (x1 : Int32) (h0 : Heap) (n0 : Nat) (Z0 : n0 ≤ h0.size) (E_a0 : Exa Z h0 a0 "com/example/penstock/penstock/Design") (F_byteIndices_a0 : Fld Z h0 a0 "com/example/penstock/penstock/Design" "byteIndices" "[B" .null) (F_intIndices_a0 : Fld Z h0 a0 "com/example/penstock/penstock/Design" "intIndices" "[I" .null) (F_hash_a0 : Fld Z h0 a0 "com/example/penstock/penstock/Design" "hash" "I" (.int (0 : Int32))) (g_a0 : n0 ≤ a0) (V_a1 : Arv Z h0 a1 k_a1 .int (2 : Int32) [(.int x0), (.int x1)] (.int (0 : Int32))) (E_a1 : Exa Z h0 a1 "[I") (n10 : a1 ≠ a0) (l0 : ¬ (x0 < (0 : Int32))) (l1 : ¬ (x1 < (0 : Int32))) (u0 : ¬ ((255 : Int32) < x0)) (u1 : ¬ ((255 : Int32) < x1)) :
    MetFree l (⟨"com/example/penstock/penstock/Design", "<init>", "([I)V"⟩ : MethodName) (head1 (Jvm.Cond.code (⟨"com/example/penstock/penstock/Design", "<init>", "([I)V"⟩ : MethodName) prog_9_method_1_code 7 none :: ws) ({ frames := 3, cells := 1, slots := 2, locals := 46 } : Room)) (fun a U => a = #[(.ref a0), (.ref a1)] ∧ Z.Warmed39 U.vm ∧ U.heap = h0) (fun _ _ _ _ _ => True) (fun _ U o U' => ∃ v L, o = .returned v ∧ own_Q1b2 Z a0 a1 k_a1 x0 x1 h0 n0 v U'.heap L ∧ FrameEnd U o U' L ({ frames := 3, cells := 1, slots := 2, locals := 46 } : Room).cells ({ frames := 3, cells := 1, slots := 2, locals := 46 } : Room).slots) := by
  refine MetFree.of_bodySF (plainFor_of_name own_pn1) hisR ?_
  intro p e s m args below meth c s₁ Bd hml0 hP hK
  obtain ⟨rfl, hZ, hh⟩ := hP
  have hx := Bd.exec
  have hby := Bd.bytes
  have hml : c.maxLocals = 7 := hml0
  have hown : s.vm.findClass "com/example/penstock/penstock/Design" = some m.cls := findClass_of_methodNamed Bd.named
  have hnm := (name_of_methodNamed Bd.named Bd.method).1
  have X0 : Stand p l e ({ frames := 3, cells := 1, slots := 2, locals := 46 } : Room) s m #[(.ref a0), (.ref a1)] below meth c s₁ [] 0 0 := Stand.of_body Bd
  have e0 : s₁.heap = h0 := by rw [← hh, Bd.state]; rfl
  have N0 := Fr.nil n0
  have pre0 : ∀ t, Steps p.tables e below (s₁.setTop (mkF m 0 #[oa a0, oa a1, .unset, .unset, .unset, .unset, .unset] [])) t → Steps p.tables e below (s₁.setTop (entryFrame m #[(.ref a0), (.ref a1)] 7)) t := fun t k => castTop (own_ef1b2 m a0 a1) k
  obtain ⟨T1, X1, e1, st1⟩ := initO X0 hx hZ hown (hw _ (List.mem_of_getElem? (i := 7) rfl)) (hw _ (List.mem_of_getElem? (i := 8) rfl)) (hw _ (List.mem_of_getElem? (i := 9) rfl)) e0 (g := (mkF m 1 #[oa a0, oa a1, .unset, .unset, .unset, .unset, .unset] [(.ref a0)])) rfl (by rw [hml]; rfl) rfl (hb hby own_d1_1) (by decide) (W := 0) (by show 2 * 0 + _ ≤ _; exact Nat.le_of_eq rfl) (by decide)
  have b2 : (0 : Int32) < (2 : Int32) := (by decide)
  have b3 : ¬ (x0 < (0 : Int32)) := l0
  have b4 : ¬ ((255 : Int32) < x0) := u0
  have b5 : (1 : Int32) < (2 : Int32) := (by decide)
  have b6 : ¬ (x1 < (0 : Int32)) := l1
  have b7 : ¬ ((255 : Int32) < x1) := u1
  have b8 : ¬ ((2 : Int32) < (2 : Int32)) := (by decide)
  have b9 : ¬ ((1 : Int32) = (0 : Int32)) := (by decide)
  obtain ⟨T10, h10, k10, X10, e10, E10, A10, B10, st10⟩ := newPE X1 hx hZ (hw _ (List.mem_of_getElem? (i := 10) rfl)) e1 (g := (mkF m 62 #[oa a0, oa a1, oi (1 : Int32), oa a1, oi (2 : Int32), oi (2 : Int32), oi x1] [(.int (2 : Int32)), (.ref a0)])) rfl (hb hby own_d1_62) rfl (by decide) (cap := 2) (by decide) (by decide) (by decide) (by decide) (ad := "[B") rfl
  obtain ⟨b10, g10⟩ : ∃ z, z = h0.size := ⟨_, rfl⟩
  rw [← g10] at A10 st10 B10
  have g_b10 : n0 ≤ b10 := Nat.le_trans Z0 (Nat.le_of_eq g10.symm)
  have ne11 : a0 ≠ b10 := Nat.ne_of_lt (Nat.lt_of_lt_of_le E_a0.lt (Nat.le_of_eq g10.symm))
  have ne12 : a1 ≠ b10 := Nat.ne_of_lt (Nat.lt_of_lt_of_le V_a1.lt (Nat.le_of_eq g10.symm))
  have Z10 : n0 ≤ h10.size := Nat.le_trans Z0 E10.1
  have sz_b10 : h0.size ≤ b10 := Nat.le_trans (Keep.refl h0 [a0]).1 (Nat.le_of_eq g10.symm)
  have K_13 : Keep h0 h10 [a0] := (Keep.refl h0 [a0]).ext E10
  have F14 := E_a0.ext E10
  have F15 := F_byteIndices_a0.ext E10
  have F16 := F_intIndices_a0.ext E10
  have F17 := F_hash_a0.ext E10
  have F18 := V_a1.ext E10
  have F19 := E_a1.ext E10
  have V_20 : Arv Z h10 b10 k10 .byte (2 : Int32) [(.int (0 : Int32)), (.int (0 : Int32))] (.int (0 : Int32)) := (Arv.new A10 (by decide)).pad (pad_rep [] (.int (0 : Int32)) 2)
  obtain ⟨T21, h21, X21, e21, W21, st21⟩ := putF X10 hx hZ hown (host := "") (Or.inl (hw _ (List.mem_of_getElem? (i := 11) rfl))) Via.refl e10 F15 F14 (Or.inr ⟨(hw _ (List.mem_of_getElem? (i := 12) rfl)), rfl, hnm⟩) (hw _ (List.mem_of_getElem? (i := 2) rfl)) (ty := (.array .byte)) (by decide) rfl rfl (g := (mkF m 64 #[oa a0, oa a1, oi (1 : Int32), oa a1, oi (2 : Int32), oi (2 : Int32), oi x1] [(.ref b10), (.ref a0)])) rfl rfl (hb hby own_d1_64)
  obtain ⟨Lo21, X21, N21⟩ := oOpq X21 (Fr.snoc X21 N0 g_a0)
  have Z21 : n0 ≤ h21.size := Nat.le_trans Z10 (Keep.of_wr W21).1
  have F22 := F14.wr W21
  have F23 := F16.other W21 (Or.inr (slot_ne (Or.inr (hw _ (List.mem_of_getElem? (i := 14) rfl))) (Or.inr (hw _ (List.mem_of_getElem? (i := 12) rfl))) (by decide) (t := (.array .int)) (t' := (.array .byte)) (by decide) (by decide)))
  have F24 := F17.other W21 (Or.inr (slot_ne (Or.inr (hw _ (List.mem_of_getElem? (i := 20) rfl))) (Or.inr (hw _ (List.mem_of_getElem? (i := 12) rfl))) (by decide) (t := .int) (t' := (.array .byte)) (by decide) (by decide)))
  have F25 := F18.other W21 n10
  have F26 := F19.wr W21
  have F27 := V_20.other W21 (Ne.symm ne11)
  have F28 := B10.wr W21
  have F_29 : Fld Z h21 a0 "com/example/penstock/penstock/Design" "byteIndices" "[B" (.ref b10) := F15.same W21
  have K_30 : Keep h0 h21 [a0] := K_13.wr W21 (Or.inl (List.mem_of_getElem? (i := 0) rfl))
  have b31 : (0 : Int32) < (2 : Int32) := (by decide)
  obtain ⟨T32, X32, e32, st32⟩ := getF X21 hx hZ hown (host := "") (Or.inl (hw _ (List.mem_of_getElem? (i := 11) rfl))) Via.refl e21 F_29 (g := (mkF m 76 #[oa a0, oa a1, oi (1 : Int32), oi (0 : Int32), oi (2 : Int32), oi (2 : Int32), oi x1] [(.ref a0)])) rfl rfl (hb hby own_d1_76)
  obtain ⟨T33, h33, X33, e33, W33, V33, st33⟩ := oStB X32 hx hZ e32 F27 (j := (0 : Int32)) ⟨by decide, by decide⟩ 0 rfl (Nat.le_of_ble_eq_true rfl) (g := (mkF m 84 #[oa a0, oa a1, oi (1 : Int32), oi (0 : Int32), oi (2 : Int32), oi (2 : Int32), oi x1] [(.int (x0.toInt8.toInt32)), (.int (0 : Int32)), (.ref b10)])) rfl rfl (hb hby own_d1_84)
  rw [own_narb] at V33
  obtain ⟨Lo33, X33, N33⟩ := oOpq X33 (Fr.snoc X33 N21 g_b10)
  have Z33 := Nat.le_trans Z21 (Keep.of_wr W33).1
  have F34 := F22.wr W33
  have F35 := F_29.other W33 (Or.inl ne11)
  have F36 := F23.other W33 (Or.inl ne11)
  have F37 := F24.other W33 (Or.inl ne11)
  have F38 := F25.other W33 ne12
  have F39 := F26.wr W33
  have F40 := F28.wr W33
  have V_41 : Arv Z h33 b10 k10 .byte (2 : Int32) [(.int (x0.toInt8.toInt32)), (.int (0 : Int32))] (.int (0 : Int32)) := V33
  have K_42 : Keep h0 h33 [a0] := K_30.wr W33 (Or.inr sz_b10)
  have b43 : (1 : Int32) < (2 : Int32) := (by decide)
  obtain ⟨T44, X44, e44, st44⟩ := getF X33 hx hZ hown (host := "") (Or.inl (hw _ (List.mem_of_getElem? (i := 11) rfl))) Via.refl e33 F35 (g := (mkF m 76 #[oa a0, oa a1, oi (1 : Int32), oi (1 : Int32), oi (2 : Int32), oi (2 : Int32), oi x1] [(.ref a0)])) rfl rfl (hb hby own_d1_76)
  obtain ⟨T45, h45, X45, e45, W45, V45, st45⟩ := oStB X44 hx hZ e44 V_41 (j := (1 : Int32)) ⟨by decide, by decide⟩ 1 rfl (Nat.le_of_ble_eq_true rfl) (g := (mkF m 84 #[oa a0, oa a1, oi (1 : Int32), oi (1 : Int32), oi (2 : Int32), oi (2 : Int32), oi x1] [(.int (x1.toInt8.toInt32)), (.int (1 : Int32)), (.ref b10)])) rfl rfl (hb hby own_d1_84)
  rw [own_narb] at V45
  obtain ⟨Lo45, X45, N45⟩ := oOpq X45 (Fr.snoc X45 N33 g_b10)
  have Z45 := Nat.le_trans Z33 (Keep.of_wr W45).1
  have F46 := F34.wr W45
  have F47 := F35.other W45 (Or.inl ne11)
  have F48 := F36.other W45 (Or.inl ne11)
  have F49 := F37.other W45 (Or.inl ne11)
  have F50 := F38.other W45 ne12
  have F51 := F39.wr W45
  have F52 := F40.wr W45
  have V_53 : Arv Z h45 b10 k10 .byte (2 : Int32) [(.int (x0.toInt8.toInt32)), (.int (x1.toInt8.toInt32))] (.int (0 : Int32)) := V45
  have K_54 : Keep h0 h45 [a0] := K_42.wr W45 (Or.inr sz_b10)
  have b55 : ¬ ((2 : Int32) < (2 : Int32)) := (by decide)
  obtain ⟨T56, h56, X56, e56, W56, st56⟩ := putF X45 hx hZ hown (host := "") (Or.inl (hw _ (List.mem_of_getElem? (i := 13) rfl))) Via.refl e45 F48 F46 (Or.inr ⟨(hw _ (List.mem_of_getElem? (i := 14) rfl)), rfl, hnm⟩) (hw _ (List.mem_of_getElem? (i := 2) rfl)) (ty := (.array .int)) (by decide) rfl rfl (g := (mkF m 93 #[oa a0, oa a1, oi (1 : Int32), oi (2 : Int32), oi (2 : Int32), oi (2 : Int32), oi x1] [.null, (.ref a0)])) rfl rfl (hb hby own_d1_93)
  obtain ⟨Lo56, X56, N56⟩ := oOpq X56 (Fr.snoc X56 N45 g_a0)
  have Z56 : n0 ≤ h56.size := Nat.le_trans Z45 (Keep.of_wr W56).1
  have F57 := F46.wr W56
  have F58 := F47.other W56 (Or.inr (slot_ne (Or.inr (hw _ (List.mem_of_getElem? (i := 12) rfl))) (Or.inr (hw _ (List.mem_of_getElem? (i := 14) rfl))) (by decide) (t := (.array .byte)) (t' := (.array .int)) (by decide) (by decide)))
  have F59 := F49.other W56 (Or.inr (slot_ne (Or.inr (hw _ (List.mem_of_getElem? (i := 20) rfl))) (Or.inr (hw _ (List.mem_of_getElem? (i := 14) rfl))) (by decide) (t := .int) (t' := (.array .int)) (by decide) (by decide)))
  have F60 := F50.other W56 n10
  have F61 := F51.wr W56
  have F62 := V_53.other W56 (Ne.symm ne11)
  have F63 := F52.wr W56
  have F_64 : Fld Z h56 a0 "com/example/penstock/penstock/Design" "intIndices" "[I" .null := F48.same W56
  have K_65 : Keep h0 h56 [a0] := K_54.wr W56 (Or.inl (List.mem_of_getElem? (i := 0) rfl))
  obtain ⟨_, _, ⟨T66, L66, k66, n66⟩, -, X66, ⟨Lc66, hQ66, l66, y66, z66⟩, st66⟩ := Jvm.LawKit.callS X56 hx (y := (⟨"java/util/Arrays", "hashCode", "([I)I"⟩ : MethodName)) hown (mvT hZ (hw _ (List.mem_of_getElem? (i := 15) rfl))) (mvT hZ (hw _ (List.mem_of_getElem? (i := 16) rfl))) (mvT hZ (hw _ (List.mem_of_getElem? (i := 17) rfl))) (mvT hZ (hw _ (List.mem_of_getElem? (i := 18) rfl))) (by decide) (backOf (W := 1) (own_rm3_2 l Z av hw [] a1 k_a1 x0 x1 h56 n0 Z56 F60 F61) hZ (hw _ (List.mem_of_getElem? (i := 18) rfl)) (hw _ (List.mem_of_getElem? (i := 17) rfl)) (by decide) (by decide)) (g := (mkF m 117 #[oa a0, oa a1, oi (1 : Int32), oi (2 : Int32), oi (2 : Int32), oi (2 : Int32), oi x1] [(.ref a1), (.ref a0)])) rfl (by rw [hml]; rfl) (argsL := [(.ref a1)]) (rest := [(.ref a0)]) (lenOf own_pd0 rfl) rfl (by show 2 * 0 + _ ≤ _; exact Nat.le_of_eq rfl) (hb hby own_d1_117) (fun _ _ => ⟨rfl, e56, (by decide : 1 + 0 ≤ _), (by decide : 2 + 0 ≤ _)⟩)
  dsimp only [Pt.U, Pt.locs, Pt.cells, Pt.slots] at X66 l66 y66 z66 st66 hQ66
  have yq66 : k66 = 1 := y66
  have zq66 : n66 = 2 := z66
  subst yq66 zq66
  obtain ⟨rfl, Nq66, eq66⟩ := hQ66
  have N66 : Fr n0 L66 := by rw [l66]; exact Fr.app N56 Nq66
  obtain ⟨T67, h67, X67, e67, W67, st67⟩ := putF X66 hx hZ hown (host := "") (Or.inl (hw _ (List.mem_of_getElem? (i := 19) rfl))) Via.refl eq66 F59 F57 (Or.inr ⟨(hw _ (List.mem_of_getElem? (i := 20) rfl)), rfl, hnm⟩) (hw _ (List.mem_of_getElem? (i := 2) rfl)) (ty := .int) (by decide) rfl rfl (g := (mkF m 120 #[oa a0, oa a1, oi (1 : Int32), oi (2 : Int32), oi (2 : Int32), oi (2 : Int32), oi x1] [(.int (own_f3_2 x0 x1)), (.ref a0)])) rfl rfl (hb hby own_d1_120)
  obtain ⟨Lo67, X67, N67⟩ := oOpq X67 (Fr.snoc X67 N66 g_a0)
  have Z67 : n0 ≤ h67.size := Nat.le_trans Z56 (Keep.of_wr W67).1
  have F68 := F57.wr W67
  have F69 := F58.other W67 (Or.inr (slot_ne (Or.inr (hw _ (List.mem_of_getElem? (i := 12) rfl))) (Or.inr (hw _ (List.mem_of_getElem? (i := 20) rfl))) (by decide) (t := (.array .byte)) (t' := .int) (by decide) (by decide)))
  have F70 := F_64.other W67 (Or.inr (slot_ne (Or.inr (hw _ (List.mem_of_getElem? (i := 14) rfl))) (Or.inr (hw _ (List.mem_of_getElem? (i := 20) rfl))) (by decide) (t := (.array .int)) (t' := .int) (by decide) (by decide)))
  have F71 := F60.other W67 n10
  have F72 := F61.wr W67
  have F73 := F62.other W67 (Ne.symm ne11)
  have F74 := F63.wr W67
  have F_75 : Fld Z h67 a0 "com/example/penstock/penstock/Design" "hash" "I" (.int (own_f3_2 x0 x1)) := F59.same W67
  have K_76 : Keep h0 h67 [a0] := K_65.wr W67 (Or.inl (List.mem_of_getElem? (i := 0) rfl))
  obtain ⟨fs, hr, hrun, hended, hW, hsame⟩ := X67.leave (v := none) (fun _ => rfl)
  refine ⟨_, _, pre0 _ ?_, hrun, hended, _, _, rfl, ?_, ⟨_, rfl⟩, hW, hsame.mono (by decide) (by decide)⟩
  · show oS p e below s₁ m 0 #[oa a0, oa a1, .unset, .unset, .unset, .unset, .unset] [] _
    refine XS.aloadN X0.here hx rfl (hb hby own_d1_0) rfl rfl ?_
    show oS p e below s₁ m 1 #[oa a0, oa a1, .unset, .unset, .unset, .unset, .unset] [(.ref a0)] _
    refine st1 _ ?_
    show oS p e below T1 m 4 #[oa a0, oa a1, .unset, .unset, .unset, .unset, .unset] [] _
    refine XS.iconst X1.here hx rfl (hb hby own_d1_4) ?_
    show oS p e below T1 m 5 #[oa a0, oa a1, .unset, .unset, .unset, .unset, .unset] [(.int (1 : Int32))] _
    refine XS.istoreN X1.here hx rfl (hb hby own_d1_5) rfl (l' := #[oa a0, oa a1, oi (1 : Int32), .unset, .unset, .unset, .unset]) rfl ?_
    show oS p e below T1 m 6 #[oa a0, oa a1, oi (1 : Int32), .unset, .unset, .unset, .unset] [] _
    refine XS.aloadN X1.here hx rfl (hb hby own_d1_6) rfl rfl ?_
    show oS p e below T1 m 7 #[oa a0, oa a1, oi (1 : Int32), .unset, .unset, .unset, .unset] [(.ref a1)] _
    refine XS.astoreN X1.here hx rfl (hb hby own_d1_7) rfl rfl (l' := #[oa a0, oa a1, oi (1 : Int32), oa a1, .unset, .unset, .unset]) rfl ?_
    show oS p e below T1 m 8 #[oa a0, oa a1, oi (1 : Int32), oa a1, .unset, .unset, .unset] [] _
    refine XS.aloadN X1.here hx rfl (hb hby own_d1_8) rfl rfl ?_
    show oS p e below T1 m 9 #[oa a0, oa a1, oi (1 : Int32), oa a1, .unset, .unset, .unset] [(.ref a1)] _
    refine oLen X1 hx hZ e1 V_a1 (hb hby own_d1_9) ?_
    show oS p e below T1 m 10 #[oa a0, oa a1, oi (1 : Int32), oa a1, .unset, .unset, .unset] [(.int (2 : Int32))] _
    refine XS.istore X1.here hx rfl (hb hby own_d1_10) rfl (l' := #[oa a0, oa a1, oi (1 : Int32), oa a1, oi (2 : Int32), .unset, .unset]) rfl ?_
    show oS p e below T1 m 12 #[oa a0, oa a1, oi (1 : Int32), oa a1, oi (2 : Int32), .unset, .unset] [] _
    refine XS.iconst X1.here hx rfl (hb hby own_d1_12) ?_
    show oS p e below T1 m 13 #[oa a0, oa a1, oi (1 : Int32), oa a1, oi (2 : Int32), .unset, .unset] [(.int (0 : Int32))] _
    refine XS.istore X1.here hx rfl (hb hby own_d1_13) rfl (l' := #[oa a0, oa a1, oi (1 : Int32), oa a1, oi (2 : Int32), oi (0 : Int32), .unset]) rfl ?_
    show oS p e below T1 m 15 #[oa a0, oa a1, oi (1 : Int32), oa a1, oi (2 : Int32), oi (0 : Int32), .unset] [] _
    refine XS.iload X1.here hx rfl (hb hby own_d1_15) rfl ?_
    show oS p e below T1 m 17 #[oa a0, oa a1, oi (1 : Int32), oa a1, oi (2 : Int32), oi (0 : Int32), .unset] [(.int (0 : Int32))] _
    refine XS.iload X1.here hx rfl (hb hby own_d1_17) rfl ?_
    show oS p e below T1 m 19 #[oa a0, oa a1, oi (1 : Int32), oa a1, oi (2 : Int32), oi (0 : Int32), .unset] [(.int (2 : Int32)), (.int (0 : Int32))] _
    refine XS.icmpNo X1.here hx rfl (hb hby own_d1_19) rfl (tlt b2).2.1 ?_
    show oS p e below T1 m 22 #[oa a0, oa a1, oi (1 : Int32), oa a1, oi (2 : Int32), oi (0 : Int32), .unset] [] _
    refine XS.aloadN X1.here hx rfl (hb hby own_d1_22) rfl rfl ?_
    show oS p e below T1 m 23 #[oa a0, oa a1, oi (1 : Int32), oa a1, oi (2 : Int32), oi (0 : Int32), .unset] [(.ref a1)] _
    refine XS.iload X1.here hx rfl (hb hby own_d1_23) rfl ?_
    show oS p e below T1 m 25 #[oa a0, oa a1, oi (1 : Int32), oa a1, oi (2 : Int32), oi (0 : Int32), .unset] [(.int (0 : Int32)), (.ref a1)] _
    refine oLdI X1 hx hZ e1 V_a1 (v := (.int x0)) ⟨by decide, by decide⟩ rfl (hb hby own_d1_25) ?_
    show oS p e below T1 m 26 #[oa a0, oa a1, oi (1 : Int32), oa a1, oi (2 : Int32), oi (0 : Int32), .unset] [(.int x0)] _
    refine XS.istore X1.here hx rfl (hb hby own_d1_26) rfl (l' := #[oa a0, oa a1, oi (1 : Int32), oa a1, oi (2 : Int32), oi (0 : Int32), oi x0]) rfl ?_
    show oS p e below T1 m 28 #[oa a0, oa a1, oi (1 : Int32), oa a1, oi (2 : Int32), oi (0 : Int32), oi x0] [] _
    refine XS.iloadN X1.here hx rfl (hb hby own_d1_28) rfl ?_
    show oS p e below T1 m 29 #[oa a0, oa a1, oi (1 : Int32), oa a1, oi (2 : Int32), oi (0 : Int32), oi x0] [(.int (1 : Int32))] _
    refine XS.iload X1.here hx rfl (hb hby own_d1_29) rfl ?_
    show oS p e below T1 m 31 #[oa a0, oa a1, oi (1 : Int32), oa a1, oi (2 : Int32), oi (0 : Int32), oi x0] [(.int x0), (.int (1 : Int32))] _
    refine XS.ifNo X1.here hx rfl (hb hby own_d1_31) rfl ((if0 _ _).trans (flt b3).1) ?_
    show oS p e below T1 m 34 #[oa a0, oa a1, oi (1 : Int32), oa a1, oi (2 : Int32), oi (0 : Int32), oi x0] [(.int (1 : Int32))] _
    refine XS.iload X1.here hx rfl (hb hby own_d1_34) rfl ?_
    show oS p e below T1 m 36 #[oa a0, oa a1, oi (1 : Int32), oa a1, oi (2 : Int32), oi (0 : Int32), oi x0] [(.int x0), (.int (1 : Int32))] _
    refine XS.sipush X1.here hx rfl (hb hby own_d1_36) ?_
    show oS p e below T1 m 39 #[oa a0, oa a1, oi (1 : Int32), oa a1, oi (2 : Int32), oi (0 : Int32), oi x0] [(.int (255 : Int32)), (.int x0), (.int (1 : Int32))] _
    refine XS.icmpNo X1.here hx rfl (hb hby own_d1_39) rfl (flt b4).2.2.1 ?_
    show oS p e below T1 m 42 #[oa a0, oa a1, oi (1 : Int32), oa a1, oi (2 : Int32), oi (0 : Int32), oi x0] [(.int (1 : Int32))] _
    refine XS.iconst X1.here hx rfl (hb hby own_d1_42) ?_
    show oS p e below T1 m 43 #[oa a0, oa a1, oi (1 : Int32), oa a1, oi (2 : Int32), oi (0 : Int32), oi x0] [(.int (1 : Int32)), (.int (1 : Int32))] _
    refine XS.goto X1.here hx rfl (pc0 := 43) (pc' := 47) rfl (hb hby own_d1_43) (by decide) (by decide) ?_
    show oS p e below T1 m 47 #[oa a0, oa a1, oi (1 : Int32), oa a1, oi (2 : Int32), oi (0 : Int32), oi x0] [(.int (1 : Int32)), (.int (1 : Int32))] _
    refine XS.iand X1.here hx rfl (hb hby own_d1_47) rfl ?_
    show oS p e below T1 m 48 #[oa a0, oa a1, oi (1 : Int32), oa a1, oi (2 : Int32), oi (0 : Int32), oi x0] [(.int (1 : Int32))] _
    refine XS.istoreN X1.here hx rfl (hb hby own_d1_48) rfl (l' := #[oa a0, oa a1, oi (1 : Int32), oa a1, oi (2 : Int32), oi (0 : Int32), oi x0]) rfl ?_
    show oS p e below T1 m 49 #[oa a0, oa a1, oi (1 : Int32), oa a1, oi (2 : Int32), oi (0 : Int32), oi x0] [] _
    refine XS.iinc X1.here hx rfl (hb hby own_d1_49) rfl (l' := #[oa a0, oa a1, oi (1 : Int32), oa a1, oi (2 : Int32), oi (1 : Int32), oi x0]) rfl ?_
    show oS p e below T1 m 52 #[oa a0, oa a1, oi (1 : Int32), oa a1, oi (2 : Int32), oi (1 : Int32), oi x0] [] _
    refine XS.goto X1.here hx rfl (pc0 := 52) (pc' := 15) rfl (hb hby own_d1_52) (by decide) (by decide) ?_
    show oS p e below T1 m 15 #[oa a0, oa a1, oi (1 : Int32), oa a1, oi (2 : Int32), oi (1 : Int32), oi x0] [] _
    refine XS.iload X1.here hx rfl (hb hby own_d1_15) rfl ?_
    show oS p e below T1 m 17 #[oa a0, oa a1, oi (1 : Int32), oa a1, oi (2 : Int32), oi (1 : Int32), oi x0] [(.int (1 : Int32))] _
    refine XS.iload X1.here hx rfl (hb hby own_d1_17) rfl ?_
    show oS p e below T1 m 19 #[oa a0, oa a1, oi (1 : Int32), oa a1, oi (2 : Int32), oi (1 : Int32), oi x0] [(.int (2 : Int32)), (.int (1 : Int32))] _
    refine XS.icmpNo X1.here hx rfl (hb hby own_d1_19) rfl (tlt b5).2.1 ?_
    show oS p e below T1 m 22 #[oa a0, oa a1, oi (1 : Int32), oa a1, oi (2 : Int32), oi (1 : Int32), oi x0] [] _
    refine XS.aloadN X1.here hx rfl (hb hby own_d1_22) rfl rfl ?_
    show oS p e below T1 m 23 #[oa a0, oa a1, oi (1 : Int32), oa a1, oi (2 : Int32), oi (1 : Int32), oi x0] [(.ref a1)] _
    refine XS.iload X1.here hx rfl (hb hby own_d1_23) rfl ?_
    show oS p e below T1 m 25 #[oa a0, oa a1, oi (1 : Int32), oa a1, oi (2 : Int32), oi (1 : Int32), oi x0] [(.int (1 : Int32)), (.ref a1)] _
    refine oLdI X1 hx hZ e1 V_a1 (v := (.int x1)) ⟨by decide, by decide⟩ rfl (hb hby own_d1_25) ?_
    show oS p e below T1 m 26 #[oa a0, oa a1, oi (1 : Int32), oa a1, oi (2 : Int32), oi (1 : Int32), oi x0] [(.int x1)] _
    refine XS.istore X1.here hx rfl (hb hby own_d1_26) rfl (l' := #[oa a0, oa a1, oi (1 : Int32), oa a1, oi (2 : Int32), oi (1 : Int32), oi x1]) rfl ?_
    show oS p e below T1 m 28 #[oa a0, oa a1, oi (1 : Int32), oa a1, oi (2 : Int32), oi (1 : Int32), oi x1] [] _
    refine XS.iloadN X1.here hx rfl (hb hby own_d1_28) rfl ?_
    show oS p e below T1 m 29 #[oa a0, oa a1, oi (1 : Int32), oa a1, oi (2 : Int32), oi (1 : Int32), oi x1] [(.int (1 : Int32))] _
    refine XS.iload X1.here hx rfl (hb hby own_d1_29) rfl ?_
    show oS p e below T1 m 31 #[oa a0, oa a1, oi (1 : Int32), oa a1, oi (2 : Int32), oi (1 : Int32), oi x1] [(.int x1), (.int (1 : Int32))] _
    refine XS.ifNo X1.here hx rfl (hb hby own_d1_31) rfl ((if0 _ _).trans (flt b6).1) ?_
    show oS p e below T1 m 34 #[oa a0, oa a1, oi (1 : Int32), oa a1, oi (2 : Int32), oi (1 : Int32), oi x1] [(.int (1 : Int32))] _
    refine XS.iload X1.here hx rfl (hb hby own_d1_34) rfl ?_
    show oS p e below T1 m 36 #[oa a0, oa a1, oi (1 : Int32), oa a1, oi (2 : Int32), oi (1 : Int32), oi x1] [(.int x1), (.int (1 : Int32))] _
    refine XS.sipush X1.here hx rfl (hb hby own_d1_36) ?_
    show oS p e below T1 m 39 #[oa a0, oa a1, oi (1 : Int32), oa a1, oi (2 : Int32), oi (1 : Int32), oi x1] [(.int (255 : Int32)), (.int x1), (.int (1 : Int32))] _
    refine XS.icmpNo X1.here hx rfl (hb hby own_d1_39) rfl (flt b7).2.2.1 ?_
    show oS p e below T1 m 42 #[oa a0, oa a1, oi (1 : Int32), oa a1, oi (2 : Int32), oi (1 : Int32), oi x1] [(.int (1 : Int32))] _
    refine XS.iconst X1.here hx rfl (hb hby own_d1_42) ?_
    show oS p e below T1 m 43 #[oa a0, oa a1, oi (1 : Int32), oa a1, oi (2 : Int32), oi (1 : Int32), oi x1] [(.int (1 : Int32)), (.int (1 : Int32))] _
    refine XS.goto X1.here hx rfl (pc0 := 43) (pc' := 47) rfl (hb hby own_d1_43) (by decide) (by decide) ?_
    show oS p e below T1 m 47 #[oa a0, oa a1, oi (1 : Int32), oa a1, oi (2 : Int32), oi (1 : Int32), oi x1] [(.int (1 : Int32)), (.int (1 : Int32))] _
    refine XS.iand X1.here hx rfl (hb hby own_d1_47) rfl ?_
    show oS p e below T1 m 48 #[oa a0, oa a1, oi (1 : Int32), oa a1, oi (2 : Int32), oi (1 : Int32), oi x1] [(.int (1 : Int32))] _
    refine XS.istoreN X1.here hx rfl (hb hby own_d1_48) rfl (l' := #[oa a0, oa a1, oi (1 : Int32), oa a1, oi (2 : Int32), oi (1 : Int32), oi x1]) rfl ?_
    show oS p e below T1 m 49 #[oa a0, oa a1, oi (1 : Int32), oa a1, oi (2 : Int32), oi (1 : Int32), oi x1] [] _
    refine XS.iinc X1.here hx rfl (hb hby own_d1_49) rfl (l' := #[oa a0, oa a1, oi (1 : Int32), oa a1, oi (2 : Int32), oi (2 : Int32), oi x1]) rfl ?_
    show oS p e below T1 m 52 #[oa a0, oa a1, oi (1 : Int32), oa a1, oi (2 : Int32), oi (2 : Int32), oi x1] [] _
    refine XS.goto X1.here hx rfl (pc0 := 52) (pc' := 15) rfl (hb hby own_d1_52) (by decide) (by decide) ?_
    show oS p e below T1 m 15 #[oa a0, oa a1, oi (1 : Int32), oa a1, oi (2 : Int32), oi (2 : Int32), oi x1] [] _
    refine XS.iload X1.here hx rfl (hb hby own_d1_15) rfl ?_
    show oS p e below T1 m 17 #[oa a0, oa a1, oi (1 : Int32), oa a1, oi (2 : Int32), oi (2 : Int32), oi x1] [(.int (2 : Int32))] _
    refine XS.iload X1.here hx rfl (hb hby own_d1_17) rfl ?_
    show oS p e below T1 m 19 #[oa a0, oa a1, oi (1 : Int32), oa a1, oi (2 : Int32), oi (2 : Int32), oi x1] [(.int (2 : Int32)), (.int (2 : Int32))] _
    refine XS.icmpYes X1.here hx rfl (pc0 := 19) (pc' := 55) rfl (hb hby own_d1_19) rfl (flt b8).2.1 (by decide) (by decide) ?_
    show oS p e below T1 m 55 #[oa a0, oa a1, oi (1 : Int32), oa a1, oi (2 : Int32), oi (2 : Int32), oi x1] [] _
    refine XS.iloadN X1.here hx rfl (hb hby own_d1_55) rfl ?_
    show oS p e below T1 m 56 #[oa a0, oa a1, oi (1 : Int32), oa a1, oi (2 : Int32), oi (2 : Int32), oi x1] [(.int (1 : Int32))] _
    refine XS.ifNo X1.here hx rfl (hb hby own_d1_56) rfl ((if0 _ _).trans (feq b9).1) ?_
    show oS p e below T1 m 59 #[oa a0, oa a1, oi (1 : Int32), oa a1, oi (2 : Int32), oi (2 : Int32), oi x1] [] _
    refine XS.aloadN X1.here hx rfl (hb hby own_d1_59) rfl rfl ?_
    show oS p e below T1 m 60 #[oa a0, oa a1, oi (1 : Int32), oa a1, oi (2 : Int32), oi (2 : Int32), oi x1] [(.ref a0)] _
    refine XS.aloadN X1.here hx rfl (hb hby own_d1_60) rfl rfl ?_
    show oS p e below T1 m 61 #[oa a0, oa a1, oi (1 : Int32), oa a1, oi (2 : Int32), oi (2 : Int32), oi x1] [(.ref a1), (.ref a0)] _
    refine oLen X1 hx hZ e1 V_a1 (hb hby own_d1_61) ?_
    show oS p e below T1 m 62 #[oa a0, oa a1, oi (1 : Int32), oa a1, oi (2 : Int32), oi (2 : Int32), oi x1] [(.int (2 : Int32)), (.ref a0)] _
    refine st10 _ ?_
    show oS p e below T10 m 64 #[oa a0, oa a1, oi (1 : Int32), oa a1, oi (2 : Int32), oi (2 : Int32), oi x1] [(.ref b10), (.ref a0)] _
    refine st21 _ ?_
    show oS p e below T21 m 67 #[oa a0, oa a1, oi (1 : Int32), oa a1, oi (2 : Int32), oi (2 : Int32), oi x1] [] _
    refine XS.iconst X21.here hx rfl (hb hby own_d1_67) ?_
    show oS p e below T21 m 68 #[oa a0, oa a1, oi (1 : Int32), oa a1, oi (2 : Int32), oi (2 : Int32), oi x1] [(.int (0 : Int32))] _
    refine XS.istoreN X21.here hx rfl (hb hby own_d1_68) rfl (l' := #[oa a0, oa a1, oi (1 : Int32), oi (0 : Int32), oi (2 : Int32), oi (2 : Int32), oi x1]) rfl ?_
    show oS p e below T21 m 69 #[oa a0, oa a1, oi (1 : Int32), oi (0 : Int32), oi (2 : Int32), oi (2 : Int32), oi x1] [] _
    refine XS.iloadN X21.here hx rfl (hb hby own_d1_69) rfl ?_
    show oS p e below T21 m 70 #[oa a0, oa a1, oi (1 : Int32), oi (0 : Int32), oi (2 : Int32), oi (2 : Int32), oi x1] [(.int (0 : Int32))] _
    refine XS.aloadN X21.here hx rfl (hb hby own_d1_70) rfl rfl ?_
    show oS p e below T21 m 71 #[oa a0, oa a1, oi (1 : Int32), oi (0 : Int32), oi (2 : Int32), oi (2 : Int32), oi x1] [(.ref a1), (.int (0 : Int32))] _
    refine oLen X21 hx hZ e21 F25 (hb hby own_d1_71) ?_
    show oS p e below T21 m 72 #[oa a0, oa a1, oi (1 : Int32), oi (0 : Int32), oi (2 : Int32), oi (2 : Int32), oi x1] [(.int (2 : Int32)), (.int (0 : Int32))] _
    refine XS.icmpNo X21.here hx rfl (hb hby own_d1_72) rfl (tlt b31).2.1 ?_
    show oS p e below T21 m 75 #[oa a0, oa a1, oi (1 : Int32), oi (0 : Int32), oi (2 : Int32), oi (2 : Int32), oi x1] [] _
    refine XS.aloadN X21.here hx rfl (hb hby own_d1_75) rfl rfl ?_
    show oS p e below T21 m 76 #[oa a0, oa a1, oi (1 : Int32), oi (0 : Int32), oi (2 : Int32), oi (2 : Int32), oi x1] [(.ref a0)] _
    refine st32 _ ?_
    show oS p e below T32 m 79 #[oa a0, oa a1, oi (1 : Int32), oi (0 : Int32), oi (2 : Int32), oi (2 : Int32), oi x1] [(.ref b10)] _
    refine XS.iloadN X32.here hx rfl (hb hby own_d1_79) rfl ?_
    show oS p e below T32 m 80 #[oa a0, oa a1, oi (1 : Int32), oi (0 : Int32), oi (2 : Int32), oi (2 : Int32), oi x1] [(.int (0 : Int32)), (.ref b10)] _
    refine XS.aloadN X32.here hx rfl (hb hby own_d1_80) rfl rfl ?_
    show oS p e below T32 m 81 #[oa a0, oa a1, oi (1 : Int32), oi (0 : Int32), oi (2 : Int32), oi (2 : Int32), oi x1] [(.ref a1), (.int (0 : Int32)), (.ref b10)] _
    refine XS.iloadN X32.here hx rfl (hb hby own_d1_81) rfl ?_
    show oS p e below T32 m 82 #[oa a0, oa a1, oi (1 : Int32), oi (0 : Int32), oi (2 : Int32), oi (2 : Int32), oi x1] [(.int (0 : Int32)), (.ref a1), (.int (0 : Int32)), (.ref b10)] _
    refine oLdI X32 hx hZ e32 F25 (v := (.int x0)) ⟨by decide, by decide⟩ rfl (hb hby own_d1_82) ?_
    show oS p e below T32 m 83 #[oa a0, oa a1, oi (1 : Int32), oi (0 : Int32), oi (2 : Int32), oi (2 : Int32), oi x1] [(.int x0), (.int (0 : Int32)), (.ref b10)] _
    refine XS.i2b X32.here hx rfl (hb hby own_d1_83) rfl ?_
    show oS p e below T32 m 84 #[oa a0, oa a1, oi (1 : Int32), oi (0 : Int32), oi (2 : Int32), oi (2 : Int32), oi x1] [(.int (x0.toInt8.toInt32)), (.int (0 : Int32)), (.ref b10)] _
    refine st33 _ ?_
    show oS p e below T33 m 85 #[oa a0, oa a1, oi (1 : Int32), oi (0 : Int32), oi (2 : Int32), oi (2 : Int32), oi x1] [] _
    refine XS.iinc X33.here hx rfl (hb hby own_d1_85) rfl (l' := #[oa a0, oa a1, oi (1 : Int32), oi (1 : Int32), oi (2 : Int32), oi (2 : Int32), oi x1]) rfl ?_
    show oS p e below T33 m 88 #[oa a0, oa a1, oi (1 : Int32), oi (1 : Int32), oi (2 : Int32), oi (2 : Int32), oi x1] [] _
    refine XS.goto X33.here hx rfl (pc0 := 88) (pc' := 69) rfl (hb hby own_d1_88) (by decide) (by decide) ?_
    show oS p e below T33 m 69 #[oa a0, oa a1, oi (1 : Int32), oi (1 : Int32), oi (2 : Int32), oi (2 : Int32), oi x1] [] _
    refine XS.iloadN X33.here hx rfl (hb hby own_d1_69) rfl ?_
    show oS p e below T33 m 70 #[oa a0, oa a1, oi (1 : Int32), oi (1 : Int32), oi (2 : Int32), oi (2 : Int32), oi x1] [(.int (1 : Int32))] _
    refine XS.aloadN X33.here hx rfl (hb hby own_d1_70) rfl rfl ?_
    show oS p e below T33 m 71 #[oa a0, oa a1, oi (1 : Int32), oi (1 : Int32), oi (2 : Int32), oi (2 : Int32), oi x1] [(.ref a1), (.int (1 : Int32))] _
    refine oLen X33 hx hZ e33 F38 (hb hby own_d1_71) ?_
    show oS p e below T33 m 72 #[oa a0, oa a1, oi (1 : Int32), oi (1 : Int32), oi (2 : Int32), oi (2 : Int32), oi x1] [(.int (2 : Int32)), (.int (1 : Int32))] _
    refine XS.icmpNo X33.here hx rfl (hb hby own_d1_72) rfl (tlt b43).2.1 ?_
    show oS p e below T33 m 75 #[oa a0, oa a1, oi (1 : Int32), oi (1 : Int32), oi (2 : Int32), oi (2 : Int32), oi x1] [] _
    refine XS.aloadN X33.here hx rfl (hb hby own_d1_75) rfl rfl ?_
    show oS p e below T33 m 76 #[oa a0, oa a1, oi (1 : Int32), oi (1 : Int32), oi (2 : Int32), oi (2 : Int32), oi x1] [(.ref a0)] _
    refine st44 _ ?_
    show oS p e below T44 m 79 #[oa a0, oa a1, oi (1 : Int32), oi (1 : Int32), oi (2 : Int32), oi (2 : Int32), oi x1] [(.ref b10)] _
    refine XS.iloadN X44.here hx rfl (hb hby own_d1_79) rfl ?_
    show oS p e below T44 m 80 #[oa a0, oa a1, oi (1 : Int32), oi (1 : Int32), oi (2 : Int32), oi (2 : Int32), oi x1] [(.int (1 : Int32)), (.ref b10)] _
    refine XS.aloadN X44.here hx rfl (hb hby own_d1_80) rfl rfl ?_
    show oS p e below T44 m 81 #[oa a0, oa a1, oi (1 : Int32), oi (1 : Int32), oi (2 : Int32), oi (2 : Int32), oi x1] [(.ref a1), (.int (1 : Int32)), (.ref b10)] _
    refine XS.iloadN X44.here hx rfl (hb hby own_d1_81) rfl ?_
    show oS p e below T44 m 82 #[oa a0, oa a1, oi (1 : Int32), oi (1 : Int32), oi (2 : Int32), oi (2 : Int32), oi x1] [(.int (1 : Int32)), (.ref a1), (.int (1 : Int32)), (.ref b10)] _
    refine oLdI X44 hx hZ e44 F38 (v := (.int x1)) ⟨by decide, by decide⟩ rfl (hb hby own_d1_82) ?_
    show oS p e below T44 m 83 #[oa a0, oa a1, oi (1 : Int32), oi (1 : Int32), oi (2 : Int32), oi (2 : Int32), oi x1] [(.int x1), (.int (1 : Int32)), (.ref b10)] _
    refine XS.i2b X44.here hx rfl (hb hby own_d1_83) rfl ?_
    show oS p e below T44 m 84 #[oa a0, oa a1, oi (1 : Int32), oi (1 : Int32), oi (2 : Int32), oi (2 : Int32), oi x1] [(.int (x1.toInt8.toInt32)), (.int (1 : Int32)), (.ref b10)] _
    refine st45 _ ?_
    show oS p e below T45 m 85 #[oa a0, oa a1, oi (1 : Int32), oi (1 : Int32), oi (2 : Int32), oi (2 : Int32), oi x1] [] _
    refine XS.iinc X45.here hx rfl (hb hby own_d1_85) rfl (l' := #[oa a0, oa a1, oi (1 : Int32), oi (2 : Int32), oi (2 : Int32), oi (2 : Int32), oi x1]) rfl ?_
    show oS p e below T45 m 88 #[oa a0, oa a1, oi (1 : Int32), oi (2 : Int32), oi (2 : Int32), oi (2 : Int32), oi x1] [] _
    refine XS.goto X45.here hx rfl (pc0 := 88) (pc' := 69) rfl (hb hby own_d1_88) (by decide) (by decide) ?_
    show oS p e below T45 m 69 #[oa a0, oa a1, oi (1 : Int32), oi (2 : Int32), oi (2 : Int32), oi (2 : Int32), oi x1] [] _
    refine XS.iloadN X45.here hx rfl (hb hby own_d1_69) rfl ?_
    show oS p e below T45 m 70 #[oa a0, oa a1, oi (1 : Int32), oi (2 : Int32), oi (2 : Int32), oi (2 : Int32), oi x1] [(.int (2 : Int32))] _
    refine XS.aloadN X45.here hx rfl (hb hby own_d1_70) rfl rfl ?_
    show oS p e below T45 m 71 #[oa a0, oa a1, oi (1 : Int32), oi (2 : Int32), oi (2 : Int32), oi (2 : Int32), oi x1] [(.ref a1), (.int (2 : Int32))] _
    refine oLen X45 hx hZ e45 F50 (hb hby own_d1_71) ?_
    show oS p e below T45 m 72 #[oa a0, oa a1, oi (1 : Int32), oi (2 : Int32), oi (2 : Int32), oi (2 : Int32), oi x1] [(.int (2 : Int32)), (.int (2 : Int32))] _
    refine XS.icmpYes X45.here hx rfl (pc0 := 72) (pc' := 91) rfl (hb hby own_d1_72) rfl (flt b55).2.1 (by decide) (by decide) ?_
    show oS p e below T45 m 91 #[oa a0, oa a1, oi (1 : Int32), oi (2 : Int32), oi (2 : Int32), oi (2 : Int32), oi x1] [] _
    refine XS.aloadN X45.here hx rfl (hb hby own_d1_91) rfl rfl ?_
    show oS p e below T45 m 92 #[oa a0, oa a1, oi (1 : Int32), oi (2 : Int32), oi (2 : Int32), oi (2 : Int32), oi x1] [(.ref a0)] _
    refine XS.aconstNull X45.here hx rfl (hb hby own_d1_92) ?_
    show oS p e below T45 m 93 #[oa a0, oa a1, oi (1 : Int32), oi (2 : Int32), oi (2 : Int32), oi (2 : Int32), oi x1] [.null, (.ref a0)] _
    refine st56 _ ?_
    show oS p e below T56 m 96 #[oa a0, oa a1, oi (1 : Int32), oi (2 : Int32), oi (2 : Int32), oi (2 : Int32), oi x1] [] _
    refine XS.goto X56.here hx rfl (pc0 := 96) (pc' := 115) rfl (hb hby own_d1_96) (by decide) (by decide) ?_
    show oS p e below T56 m 115 #[oa a0, oa a1, oi (1 : Int32), oi (2 : Int32), oi (2 : Int32), oi (2 : Int32), oi x1] [] _
    refine XS.aloadN X56.here hx rfl (hb hby own_d1_115) rfl rfl ?_
    show oS p e below T56 m 116 #[oa a0, oa a1, oi (1 : Int32), oi (2 : Int32), oi (2 : Int32), oi (2 : Int32), oi x1] [(.ref a0)] _
    refine XS.aloadN X56.here hx rfl (hb hby own_d1_116) rfl rfl ?_
    show oS p e below T56 m 117 #[oa a0, oa a1, oi (1 : Int32), oi (2 : Int32), oi (2 : Int32), oi (2 : Int32), oi x1] [(.ref a1), (.ref a0)] _
    refine st66 _ ?_
    show oS p e below T66 m 120 #[oa a0, oa a1, oi (1 : Int32), oi (2 : Int32), oi (2 : Int32), oi (2 : Int32), oi x1] [(.int (own_f3_2 x0 x1)), (.ref a0)] _
    refine st67 _ ?_
    show oS p e below T67 m 123 #[oa a0, oa a1, oi (1 : Int32), oi (2 : Int32), oi (2 : Int32), oi (2 : Int32), oi x1] [] _
    exact X67.returnOut hx Bd.returns (hb hby own_d1_123) hr
  · show own_Q1b2 Z a0 a1 k_a1 x0 x1 h0 n0 _ T67.heap _
    rw [e67]
    exact ⟨b10, k10, rfl, N67, K_76, sz_b10, F68, F69, F70, F73⟩
theorem own_ef1i2 (m : MethodId) (a0 : Addr) (a1 : Addr) : entryFrame m #[(.ref a0), (.ref a1)] 7 = mkF m 0 #[oa a0, oa a1, .unset, .unset, .unset, .unset, .unset] [] := by first | (simp [entryFrame, mkF, argsToLocals, Value.category]; done) | rfl
def own_Q1i2 (Z : State) (a0 : Addr) (a1 : Addr) (k_a1 : ClassId) (x0 : Int32) (x1 : Int32) (h0 : Heap) (n0 : Nat) (v : Option Value) (h : Heap) (L : List Loc) : Prop := ∃ (b : Addr) (k_b : ClassId), v = none ∧ Fr n0 L ∧ Keep h0 h [a0] ∧ h0.size ≤ b ∧ Exa Z h a0 "com/example/penstock/penstock/Design" ∧ Fld Z h a0 "com/example/penstock/penstock/Design" "byteIndices" "[B" .null ∧ Fld Z h a0 "com/example/penstock/penstock/Design" "intIndices" "[I" (.ref b) ∧ Exa Z h b "[I" ∧ Arv Z h b k_b .int (2 : Int32) [(.int x0), (.int x1)] (.int (0 : Int32))
set_option maxRecDepth 65536 in
set_option maxHeartbeats 40000000 in
theorem own_rm1i2 (l : Launch) (Z : State) (av : Array Value) (hw : ∀ d ∈ tables_1, d.before av Z = true) (ws : List Jvm.Cond) (a0 : Addr) (a1 : Addr) (k_a1 : ClassId) (x0 : Int32) (x1 : Int32) (h0 : Heap) (n0 : Nat) (Z0 : n0 ≤ h0.size) (E_a0 : Exa Z h0 a0 "com/example/penstock/penstock/Design") (F_byteIndices_a0 : Fld Z h0 a0 "com/example/penstock/penstock/Design" "byteIndices" "[B" .null) (F_intIndices_a0 : Fld Z h0 a0 "com/example/penstock/penstock/Design" "intIndices" "[I" .null) (F_hash_a0 : Fld Z h0 a0 "com/example/penstock/penstock/Design" "hash" "I" (.int (0 : Int32))) (g_a0 : n0 ≤ a0) (V_a1 : Arv Z h0 a1 k_a1 .int (2 : Int32) [(.int x0), (.int x1)] (.int (0 : Int32))) (E_a1 : Exa Z h0 a1 "[I") (n10 : a1 ≠ a0) (hbad : (((1 : Int32) &&& own_g x0) &&& own_g x1) = (0 : Int32)) :
    MetFree l (⟨"com/example/penstock/penstock/Design", "<init>", "([I)V"⟩ : MethodName) (head1 (Jvm.Cond.code (⟨"com/example/penstock/penstock/Design", "<init>", "([I)V"⟩ : MethodName) prog_9_method_1_code 7 none :: ws) ({ frames := 3, cells := 1, slots := 2, locals := 46 } : Room)) (fun a U => a = #[(.ref a0), (.ref a1)] ∧ Z.Warmed39 U.vm ∧ U.heap = h0) (fun _ _ _ _ _ => True) (fun _ U o U' => ∃ v L, o = .returned v ∧ own_Q1i2 Z a0 a1 k_a1 x0 x1 h0 n0 v U'.heap L ∧ FrameEnd U o U' L ({ frames := 3, cells := 1, slots := 2, locals := 46 } : Room).cells ({ frames := 3, cells := 1, slots := 2, locals := 46 } : Room).slots) := by
  refine MetFree.of_bodySF (plainFor_of_name own_pn1) hisR ?_
  intro p e s m args below meth c s₁ Bd hml0 hP hK
  obtain ⟨rfl, hZ, hh⟩ := hP
  have hx := Bd.exec
  have hby := Bd.bytes
  have hml : c.maxLocals = 7 := hml0
  have hown : s.vm.findClass "com/example/penstock/penstock/Design" = some m.cls := findClass_of_methodNamed Bd.named
  have hnm := (name_of_methodNamed Bd.named Bd.method).1
  have X0 : Stand p l e ({ frames := 3, cells := 1, slots := 2, locals := 46 } : Room) s m #[(.ref a0), (.ref a1)] below meth c s₁ [] 0 0 := Stand.of_body Bd
  have e0 : s₁.heap = h0 := by rw [← hh, Bd.state]; rfl
  have N0 := Fr.nil n0
  have pre0 : ∀ t, Steps p.tables e below (s₁.setTop (mkF m 0 #[oa a0, oa a1, .unset, .unset, .unset, .unset, .unset] [])) t → Steps p.tables e below (s₁.setTop (entryFrame m #[(.ref a0), (.ref a1)] 7)) t := fun t k => castTop (own_ef1i2 m a0 a1) k
  obtain ⟨T1, X1, e1, st1⟩ := initO X0 hx hZ hown (hw _ (List.mem_of_getElem? (i := 7) rfl)) (hw _ (List.mem_of_getElem? (i := 8) rfl)) (hw _ (List.mem_of_getElem? (i := 9) rfl)) e0 (g := (mkF m 1 #[oa a0, oa a1, .unset, .unset, .unset, .unset, .unset] [(.ref a0)])) rfl (by rw [hml]; rfl) rfl (hb hby own_d1_1) (by decide) (W := 0) (by show 2 * 0 + _ ≤ _; exact Nat.le_of_eq rfl) (by decide)
  have b2 : (0 : Int32) < (2 : Int32) := (by decide)
  have pre3 : ∀ t, Steps p.tables e below (T1.setTop (mkF m 31 #[oa a0, oa a1, oi (1 : Int32), oa a1, oi (2 : Int32), oi (0 : Int32), oi x0] [(.int x0), (.int (1 : Int32))])) t → Steps p.tables e below (s₁.setTop (entryFrame m #[(.ref a0), (.ref a1)] 7)) t := by
    intro t k
    refine pre0 t ?_
    show oS p e below s₁ m 0 #[oa a0, oa a1, .unset, .unset, .unset, .unset, .unset] [] _
    refine XS.aloadN X0.here hx rfl (hb hby own_d1_0) rfl rfl ?_
    show oS p e below s₁ m 1 #[oa a0, oa a1, .unset, .unset, .unset, .unset, .unset] [(.ref a0)] _
    refine st1 _ ?_
    show oS p e below T1 m 4 #[oa a0, oa a1, .unset, .unset, .unset, .unset, .unset] [] _
    refine XS.iconst X1.here hx rfl (hb hby own_d1_4) ?_
    show oS p e below T1 m 5 #[oa a0, oa a1, .unset, .unset, .unset, .unset, .unset] [(.int (1 : Int32))] _
    refine XS.istoreN X1.here hx rfl (hb hby own_d1_5) rfl (l' := #[oa a0, oa a1, oi (1 : Int32), .unset, .unset, .unset, .unset]) rfl ?_
    show oS p e below T1 m 6 #[oa a0, oa a1, oi (1 : Int32), .unset, .unset, .unset, .unset] [] _
    refine XS.aloadN X1.here hx rfl (hb hby own_d1_6) rfl rfl ?_
    show oS p e below T1 m 7 #[oa a0, oa a1, oi (1 : Int32), .unset, .unset, .unset, .unset] [(.ref a1)] _
    refine XS.astoreN X1.here hx rfl (hb hby own_d1_7) rfl rfl (l' := #[oa a0, oa a1, oi (1 : Int32), oa a1, .unset, .unset, .unset]) rfl ?_
    show oS p e below T1 m 8 #[oa a0, oa a1, oi (1 : Int32), oa a1, .unset, .unset, .unset] [] _
    refine XS.aloadN X1.here hx rfl (hb hby own_d1_8) rfl rfl ?_
    show oS p e below T1 m 9 #[oa a0, oa a1, oi (1 : Int32), oa a1, .unset, .unset, .unset] [(.ref a1)] _
    refine oLen X1 hx hZ e1 V_a1 (hb hby own_d1_9) ?_
    show oS p e below T1 m 10 #[oa a0, oa a1, oi (1 : Int32), oa a1, .unset, .unset, .unset] [(.int (2 : Int32))] _
    refine XS.istore X1.here hx rfl (hb hby own_d1_10) rfl (l' := #[oa a0, oa a1, oi (1 : Int32), oa a1, oi (2 : Int32), .unset, .unset]) rfl ?_
    show oS p e below T1 m 12 #[oa a0, oa a1, oi (1 : Int32), oa a1, oi (2 : Int32), .unset, .unset] [] _
    refine XS.iconst X1.here hx rfl (hb hby own_d1_12) ?_
    show oS p e below T1 m 13 #[oa a0, oa a1, oi (1 : Int32), oa a1, oi (2 : Int32), .unset, .unset] [(.int (0 : Int32))] _
    refine XS.istore X1.here hx rfl (hb hby own_d1_13) rfl (l' := #[oa a0, oa a1, oi (1 : Int32), oa a1, oi (2 : Int32), oi (0 : Int32), .unset]) rfl ?_
    show oS p e below T1 m 15 #[oa a0, oa a1, oi (1 : Int32), oa a1, oi (2 : Int32), oi (0 : Int32), .unset] [] _
    refine XS.iload X1.here hx rfl (hb hby own_d1_15) rfl ?_
    show oS p e below T1 m 17 #[oa a0, oa a1, oi (1 : Int32), oa a1, oi (2 : Int32), oi (0 : Int32), .unset] [(.int (0 : Int32))] _
    refine XS.iload X1.here hx rfl (hb hby own_d1_17) rfl ?_
    show oS p e below T1 m 19 #[oa a0, oa a1, oi (1 : Int32), oa a1, oi (2 : Int32), oi (0 : Int32), .unset] [(.int (2 : Int32)), (.int (0 : Int32))] _
    refine XS.icmpNo X1.here hx rfl (hb hby own_d1_19) rfl (tlt b2).2.1 ?_
    show oS p e below T1 m 22 #[oa a0, oa a1, oi (1 : Int32), oa a1, oi (2 : Int32), oi (0 : Int32), .unset] [] _
    refine XS.aloadN X1.here hx rfl (hb hby own_d1_22) rfl rfl ?_
    show oS p e below T1 m 23 #[oa a0, oa a1, oi (1 : Int32), oa a1, oi (2 : Int32), oi (0 : Int32), .unset] [(.ref a1)] _
    refine XS.iload X1.here hx rfl (hb hby own_d1_23) rfl ?_
    show oS p e below T1 m 25 #[oa a0, oa a1, oi (1 : Int32), oa a1, oi (2 : Int32), oi (0 : Int32), .unset] [(.int (0 : Int32)), (.ref a1)] _
    refine oLdI X1 hx hZ e1 V_a1 (v := (.int x0)) ⟨by decide, by decide⟩ rfl (hb hby own_d1_25) ?_
    show oS p e below T1 m 26 #[oa a0, oa a1, oi (1 : Int32), oa a1, oi (2 : Int32), oi (0 : Int32), .unset] [(.int x0)] _
    refine XS.istore X1.here hx rfl (hb hby own_d1_26) rfl (l' := #[oa a0, oa a1, oi (1 : Int32), oa a1, oi (2 : Int32), oi (0 : Int32), oi x0]) rfl ?_
    show oS p e below T1 m 28 #[oa a0, oa a1, oi (1 : Int32), oa a1, oi (2 : Int32), oi (0 : Int32), oi x0] [] _
    refine XS.iloadN X1.here hx rfl (hb hby own_d1_28) rfl ?_
    show oS p e below T1 m 29 #[oa a0, oa a1, oi (1 : Int32), oa a1, oi (2 : Int32), oi (0 : Int32), oi x0] [(.int (1 : Int32))] _
    refine XS.iload X1.here hx rfl (hb hby own_d1_29) rfl ?_
    exact k
  obtain ⟨v6, hv6⟩ : ∃ z : Int32, z = (if x0 < (0 : Int32) then (0 : Int32) else (if (255 : Int32) < x0 then (0 : Int32) else (1 : Int32))) := ⟨_, rfl⟩
  have pre7 : ∀ t, Steps p.tables e below (T1.setTop (mkF m 47 #[oa a0, oa a1, oi (1 : Int32), oa a1, oi (2 : Int32), oi (0 : Int32), oi x0] [(.int v6), (.int (1 : Int32))])) t → Steps p.tables e below (s₁.setTop (entryFrame m #[(.ref a0), (.ref a1)] 7)) t := by
    intro t k
    by_cases c4 : x0 < (0 : Int32)
    · skip
      rw [show v6 = (0 : Int32) from hv6.trans (by rw [if_pos c4])] at k
      refine pre3 t ?_
      show oS p e below T1 m 31 #[oa a0, oa a1, oi (1 : Int32), oa a1, oi (2 : Int32), oi (0 : Int32), oi x0] [(.int x0), (.int (1 : Int32))] _
      refine XS.ifYes X1.here hx rfl (pc0 := 31) (pc' := 46) rfl (hb hby own_d1_31) rfl ((if0 _ _).trans (tlt c4).1) (by decide) (by decide) ?_
      show oS p e below T1 m 46 #[oa a0, oa a1, oi (1 : Int32), oa a1, oi (2 : Int32), oi (0 : Int32), oi x0] [(.int (1 : Int32))] _
      refine XS.iconst X1.here hx rfl (hb hby own_d1_46) ?_
      exact k
    · skip
      by_cases c5 : (255 : Int32) < x0
      · skip
        rw [show v6 = (0 : Int32) from hv6.trans (by rw [if_neg c4, if_pos c5])] at k
        refine pre3 t ?_
        show oS p e below T1 m 31 #[oa a0, oa a1, oi (1 : Int32), oa a1, oi (2 : Int32), oi (0 : Int32), oi x0] [(.int x0), (.int (1 : Int32))] _
        refine XS.ifNo X1.here hx rfl (hb hby own_d1_31) rfl ((if0 _ _).trans (flt c4).1) ?_
        show oS p e below T1 m 34 #[oa a0, oa a1, oi (1 : Int32), oa a1, oi (2 : Int32), oi (0 : Int32), oi x0] [(.int (1 : Int32))] _
        refine XS.iload X1.here hx rfl (hb hby own_d1_34) rfl ?_
        show oS p e below T1 m 36 #[oa a0, oa a1, oi (1 : Int32), oa a1, oi (2 : Int32), oi (0 : Int32), oi x0] [(.int x0), (.int (1 : Int32))] _
        refine XS.sipush X1.here hx rfl (hb hby own_d1_36) ?_
        show oS p e below T1 m 39 #[oa a0, oa a1, oi (1 : Int32), oa a1, oi (2 : Int32), oi (0 : Int32), oi x0] [(.int (255 : Int32)), (.int x0), (.int (1 : Int32))] _
        refine XS.icmpYes X1.here hx rfl (pc0 := 39) (pc' := 46) rfl (hb hby own_d1_39) rfl (tlt c5).2.2.1 (by decide) (by decide) ?_
        show oS p e below T1 m 46 #[oa a0, oa a1, oi (1 : Int32), oa a1, oi (2 : Int32), oi (0 : Int32), oi x0] [(.int (1 : Int32))] _
        refine XS.iconst X1.here hx rfl (hb hby own_d1_46) ?_
        exact k
      · skip
        rw [show v6 = (1 : Int32) from hv6.trans (by rw [if_neg c4, if_neg c5])] at k
        refine pre3 t ?_
        show oS p e below T1 m 31 #[oa a0, oa a1, oi (1 : Int32), oa a1, oi (2 : Int32), oi (0 : Int32), oi x0] [(.int x0), (.int (1 : Int32))] _
        refine XS.ifNo X1.here hx rfl (hb hby own_d1_31) rfl ((if0 _ _).trans (flt c4).1) ?_
        show oS p e below T1 m 34 #[oa a0, oa a1, oi (1 : Int32), oa a1, oi (2 : Int32), oi (0 : Int32), oi x0] [(.int (1 : Int32))] _
        refine XS.iload X1.here hx rfl (hb hby own_d1_34) rfl ?_
        show oS p e below T1 m 36 #[oa a0, oa a1, oi (1 : Int32), oa a1, oi (2 : Int32), oi (0 : Int32), oi x0] [(.int x0), (.int (1 : Int32))] _
        refine XS.sipush X1.here hx rfl (hb hby own_d1_36) ?_
        show oS p e below T1 m 39 #[oa a0, oa a1, oi (1 : Int32), oa a1, oi (2 : Int32), oi (0 : Int32), oi x0] [(.int (255 : Int32)), (.int x0), (.int (1 : Int32))] _
        refine XS.icmpNo X1.here hx rfl (hb hby own_d1_39) rfl (flt c5).2.2.1 ?_
        show oS p e below T1 m 42 #[oa a0, oa a1, oi (1 : Int32), oa a1, oi (2 : Int32), oi (0 : Int32), oi x0] [(.int (1 : Int32))] _
        refine XS.iconst X1.here hx rfl (hb hby own_d1_42) ?_
        show oS p e below T1 m 43 #[oa a0, oa a1, oi (1 : Int32), oa a1, oi (2 : Int32), oi (0 : Int32), oi x0] [(.int (1 : Int32)), (.int (1 : Int32))] _
        refine XS.goto X1.here hx rfl (pc0 := 43) (pc' := 47) rfl (hb hby own_d1_43) (by decide) (by decide) ?_
        exact k
  have b8 : (1 : Int32) < (2 : Int32) := (by decide)
  have pre9 : ∀ t, Steps p.tables e below (T1.setTop (mkF m 31 #[oa a0, oa a1, oi ((1 : Int32) &&& v6), oa a1, oi (2 : Int32), oi (1 : Int32), oi x1] [(.int x1), (.int ((1 : Int32) &&& v6))])) t → Steps p.tables e below (s₁.setTop (entryFrame m #[(.ref a0), (.ref a1)] 7)) t := by
    intro t k
    refine pre7 t ?_
    show oS p e below T1 m 47 #[oa a0, oa a1, oi (1 : Int32), oa a1, oi (2 : Int32), oi (0 : Int32), oi x0] [(.int v6), (.int (1 : Int32))] _
    refine XS.iand X1.here hx rfl (hb hby own_d1_47) rfl ?_
    show oS p e below T1 m 48 #[oa a0, oa a1, oi (1 : Int32), oa a1, oi (2 : Int32), oi (0 : Int32), oi x0] [(.int ((1 : Int32) &&& v6))] _
    refine XS.istoreN X1.here hx rfl (hb hby own_d1_48) rfl (l' := #[oa a0, oa a1, oi ((1 : Int32) &&& v6), oa a1, oi (2 : Int32), oi (0 : Int32), oi x0]) rfl ?_
    show oS p e below T1 m 49 #[oa a0, oa a1, oi ((1 : Int32) &&& v6), oa a1, oi (2 : Int32), oi (0 : Int32), oi x0] [] _
    refine XS.iinc X1.here hx rfl (hb hby own_d1_49) rfl (l' := #[oa a0, oa a1, oi ((1 : Int32) &&& v6), oa a1, oi (2 : Int32), oi (1 : Int32), oi x0]) rfl ?_
    show oS p e below T1 m 52 #[oa a0, oa a1, oi ((1 : Int32) &&& v6), oa a1, oi (2 : Int32), oi (1 : Int32), oi x0] [] _
    refine XS.goto X1.here hx rfl (pc0 := 52) (pc' := 15) rfl (hb hby own_d1_52) (by decide) (by decide) ?_
    show oS p e below T1 m 15 #[oa a0, oa a1, oi ((1 : Int32) &&& v6), oa a1, oi (2 : Int32), oi (1 : Int32), oi x0] [] _
    refine XS.iload X1.here hx rfl (hb hby own_d1_15) rfl ?_
    show oS p e below T1 m 17 #[oa a0, oa a1, oi ((1 : Int32) &&& v6), oa a1, oi (2 : Int32), oi (1 : Int32), oi x0] [(.int (1 : Int32))] _
    refine XS.iload X1.here hx rfl (hb hby own_d1_17) rfl ?_
    show oS p e below T1 m 19 #[oa a0, oa a1, oi ((1 : Int32) &&& v6), oa a1, oi (2 : Int32), oi (1 : Int32), oi x0] [(.int (2 : Int32)), (.int (1 : Int32))] _
    refine XS.icmpNo X1.here hx rfl (hb hby own_d1_19) rfl (tlt b8).2.1 ?_
    show oS p e below T1 m 22 #[oa a0, oa a1, oi ((1 : Int32) &&& v6), oa a1, oi (2 : Int32), oi (1 : Int32), oi x0] [] _
    refine XS.aloadN X1.here hx rfl (hb hby own_d1_22) rfl rfl ?_
    show oS p e below T1 m 23 #[oa a0, oa a1, oi ((1 : Int32) &&& v6), oa a1, oi (2 : Int32), oi (1 : Int32), oi x0] [(.ref a1)] _
    refine XS.iload X1.here hx rfl (hb hby own_d1_23) rfl ?_
    show oS p e below T1 m 25 #[oa a0, oa a1, oi ((1 : Int32) &&& v6), oa a1, oi (2 : Int32), oi (1 : Int32), oi x0] [(.int (1 : Int32)), (.ref a1)] _
    refine oLdI X1 hx hZ e1 V_a1 (v := (.int x1)) ⟨by decide, by decide⟩ rfl (hb hby own_d1_25) ?_
    show oS p e below T1 m 26 #[oa a0, oa a1, oi ((1 : Int32) &&& v6), oa a1, oi (2 : Int32), oi (1 : Int32), oi x0] [(.int x1)] _
    refine XS.istore X1.here hx rfl (hb hby own_d1_26) rfl (l' := #[oa a0, oa a1, oi ((1 : Int32) &&& v6), oa a1, oi (2 : Int32), oi (1 : Int32), oi x1]) rfl ?_
    show oS p e below T1 m 28 #[oa a0, oa a1, oi ((1 : Int32) &&& v6), oa a1, oi (2 : Int32), oi (1 : Int32), oi x1] [] _
    refine XS.iloadN X1.here hx rfl (hb hby own_d1_28) rfl ?_
    show oS p e below T1 m 29 #[oa a0, oa a1, oi ((1 : Int32) &&& v6), oa a1, oi (2 : Int32), oi (1 : Int32), oi x1] [(.int ((1 : Int32) &&& v6))] _
    refine XS.iload X1.here hx rfl (hb hby own_d1_29) rfl ?_
    exact k
  obtain ⟨v12, hv12⟩ : ∃ z : Int32, z = (if x1 < (0 : Int32) then (0 : Int32) else (if (255 : Int32) < x1 then (0 : Int32) else (1 : Int32))) := ⟨_, rfl⟩
  have pre13 : ∀ t, Steps p.tables e below (T1.setTop (mkF m 47 #[oa a0, oa a1, oi ((1 : Int32) &&& v6), oa a1, oi (2 : Int32), oi (1 : Int32), oi x1] [(.int v12), (.int ((1 : Int32) &&& v6))])) t → Steps p.tables e below (s₁.setTop (entryFrame m #[(.ref a0), (.ref a1)] 7)) t := by
    intro t k
    by_cases c10 : x1 < (0 : Int32)
    · skip
      rw [show v12 = (0 : Int32) from hv12.trans (by rw [if_pos c10])] at k
      refine pre9 t ?_
      show oS p e below T1 m 31 #[oa a0, oa a1, oi ((1 : Int32) &&& v6), oa a1, oi (2 : Int32), oi (1 : Int32), oi x1] [(.int x1), (.int ((1 : Int32) &&& v6))] _
      refine XS.ifYes X1.here hx rfl (pc0 := 31) (pc' := 46) rfl (hb hby own_d1_31) rfl ((if0 _ _).trans (tlt c10).1) (by decide) (by decide) ?_
      show oS p e below T1 m 46 #[oa a0, oa a1, oi ((1 : Int32) &&& v6), oa a1, oi (2 : Int32), oi (1 : Int32), oi x1] [(.int ((1 : Int32) &&& v6))] _
      refine XS.iconst X1.here hx rfl (hb hby own_d1_46) ?_
      exact k
    · skip
      by_cases c11 : (255 : Int32) < x1
      · skip
        rw [show v12 = (0 : Int32) from hv12.trans (by rw [if_neg c10, if_pos c11])] at k
        refine pre9 t ?_
        show oS p e below T1 m 31 #[oa a0, oa a1, oi ((1 : Int32) &&& v6), oa a1, oi (2 : Int32), oi (1 : Int32), oi x1] [(.int x1), (.int ((1 : Int32) &&& v6))] _
        refine XS.ifNo X1.here hx rfl (hb hby own_d1_31) rfl ((if0 _ _).trans (flt c10).1) ?_
        show oS p e below T1 m 34 #[oa a0, oa a1, oi ((1 : Int32) &&& v6), oa a1, oi (2 : Int32), oi (1 : Int32), oi x1] [(.int ((1 : Int32) &&& v6))] _
        refine XS.iload X1.here hx rfl (hb hby own_d1_34) rfl ?_
        show oS p e below T1 m 36 #[oa a0, oa a1, oi ((1 : Int32) &&& v6), oa a1, oi (2 : Int32), oi (1 : Int32), oi x1] [(.int x1), (.int ((1 : Int32) &&& v6))] _
        refine XS.sipush X1.here hx rfl (hb hby own_d1_36) ?_
        show oS p e below T1 m 39 #[oa a0, oa a1, oi ((1 : Int32) &&& v6), oa a1, oi (2 : Int32), oi (1 : Int32), oi x1] [(.int (255 : Int32)), (.int x1), (.int ((1 : Int32) &&& v6))] _
        refine XS.icmpYes X1.here hx rfl (pc0 := 39) (pc' := 46) rfl (hb hby own_d1_39) rfl (tlt c11).2.2.1 (by decide) (by decide) ?_
        show oS p e below T1 m 46 #[oa a0, oa a1, oi ((1 : Int32) &&& v6), oa a1, oi (2 : Int32), oi (1 : Int32), oi x1] [(.int ((1 : Int32) &&& v6))] _
        refine XS.iconst X1.here hx rfl (hb hby own_d1_46) ?_
        exact k
      · skip
        rw [show v12 = (1 : Int32) from hv12.trans (by rw [if_neg c10, if_neg c11])] at k
        refine pre9 t ?_
        show oS p e below T1 m 31 #[oa a0, oa a1, oi ((1 : Int32) &&& v6), oa a1, oi (2 : Int32), oi (1 : Int32), oi x1] [(.int x1), (.int ((1 : Int32) &&& v6))] _
        refine XS.ifNo X1.here hx rfl (hb hby own_d1_31) rfl ((if0 _ _).trans (flt c10).1) ?_
        show oS p e below T1 m 34 #[oa a0, oa a1, oi ((1 : Int32) &&& v6), oa a1, oi (2 : Int32), oi (1 : Int32), oi x1] [(.int ((1 : Int32) &&& v6))] _
        refine XS.iload X1.here hx rfl (hb hby own_d1_34) rfl ?_
        show oS p e below T1 m 36 #[oa a0, oa a1, oi ((1 : Int32) &&& v6), oa a1, oi (2 : Int32), oi (1 : Int32), oi x1] [(.int x1), (.int ((1 : Int32) &&& v6))] _
        refine XS.sipush X1.here hx rfl (hb hby own_d1_36) ?_
        show oS p e below T1 m 39 #[oa a0, oa a1, oi ((1 : Int32) &&& v6), oa a1, oi (2 : Int32), oi (1 : Int32), oi x1] [(.int (255 : Int32)), (.int x1), (.int ((1 : Int32) &&& v6))] _
        refine XS.icmpNo X1.here hx rfl (hb hby own_d1_39) rfl (flt c11).2.2.1 ?_
        show oS p e below T1 m 42 #[oa a0, oa a1, oi ((1 : Int32) &&& v6), oa a1, oi (2 : Int32), oi (1 : Int32), oi x1] [(.int ((1 : Int32) &&& v6))] _
        refine XS.iconst X1.here hx rfl (hb hby own_d1_42) ?_
        show oS p e below T1 m 43 #[oa a0, oa a1, oi ((1 : Int32) &&& v6), oa a1, oi (2 : Int32), oi (1 : Int32), oi x1] [(.int (1 : Int32)), (.int ((1 : Int32) &&& v6))] _
        refine XS.goto X1.here hx rfl (pc0 := 43) (pc' := 47) rfl (hb hby own_d1_43) (by decide) (by decide) ?_
        exact k
  have b14 : ¬ ((2 : Int32) < (2 : Int32)) := (by decide)
  have b15 : (((1 : Int32) &&& v6) &&& v12) = (0 : Int32) := by rw [hv6, hv12]; exact hbad
  obtain ⟨T16, h16, X16, e16, W16, st16⟩ := putF X1 hx hZ hown (host := "") (Or.inl (hw _ (List.mem_of_getElem? (i := 11) rfl))) Via.refl e1 F_byteIndices_a0 E_a0 (Or.inr ⟨(hw _ (List.mem_of_getElem? (i := 12) rfl)), rfl, hnm⟩) (hw _ (List.mem_of_getElem? (i := 2) rfl)) (ty := (.array .byte)) (by decide) rfl rfl (g := (mkF m 101 #[oa a0, oa a1, oi (((1 : Int32) &&& v6) &&& v12), oa a1, oi (2 : Int32), oi (2 : Int32), oi x1] [.null, (.ref a0)])) rfl rfl (hb hby own_d1_101)
  obtain ⟨Lo16, X16, N16⟩ := oOpq X16 (Fr.snoc X16 N0 g_a0)
  have Z16 : n0 ≤ h16.size := Nat.le_trans Z0 (Keep.of_wr W16).1
  have F17 := E_a0.wr W16
  have F18 := F_intIndices_a0.other W16 (Or.inr (slot_ne (Or.inr (hw _ (List.mem_of_getElem? (i := 14) rfl))) (Or.inr (hw _ (List.mem_of_getElem? (i := 12) rfl))) (by decide) (t := (.array .int)) (t' := (.array .byte)) (by decide) (by decide)))
  have F19 := F_hash_a0.other W16 (Or.inr (slot_ne (Or.inr (hw _ (List.mem_of_getElem? (i := 20) rfl))) (Or.inr (hw _ (List.mem_of_getElem? (i := 12) rfl))) (by decide) (t := .int) (t' := (.array .byte)) (by decide) (by decide)))
  have F20 := V_a1.other W16 n10
  have F21 := E_a1.wr W16
  have F_22 : Fld Z h16 a0 "com/example/penstock/penstock/Design" "byteIndices" "[B" .null := F_byteIndices_a0.same W16
  have K_23 : Keep h0 h16 [a0] := (Keep.refl h0 [a0]).wr W16 (Or.inl (List.mem_of_getElem? (i := 0) rfl))
  obtain ⟨T24, h24, X24, e24, E24, A24, B24, st24⟩ := cloneH X16 hx hZ hown (hw _ (List.mem_of_getElem? (i := 35) rfl)) (hw _ (List.mem_of_getElem? (i := 36) rfl)) (hw _ (List.mem_of_getElem? (i := 40) rfl)) (hw _ (List.mem_of_getElem? (i := 38) rfl)) (hw _ (List.mem_of_getElem? (i := 39) rfl)) (hw _ (List.mem_of_getElem? (i := 41) rfl)) e16 (Arv.arh F20) F21 (g := (mkF m 106 #[oa a0, oa a1, oi (((1 : Int32) &&& v6) &&& v12), oa a1, oi (2 : Int32), oi (2 : Int32), oi x1] [(.ref a1), (.ref a0)])) rfl (by rw [hml]; rfl) rfl (hb hby own_d1_106) (by decide) (W := 1) (by show 2 * 0 + _ ≤ _; exact Nat.le_of_eq rfl) (by decide) (cap := 2) (by decide) (by decide) (by decide)
  obtain ⟨b24, g24⟩ : ∃ z, z = h16.size := ⟨_, rfl⟩
  rw [← g24] at A24 B24 st24
  have g_b24 : n0 ≤ b24 := Nat.le_trans Z16 (Nat.le_of_eq g24.symm)
  have ne25 : a0 ≠ b24 := Nat.ne_of_lt (Nat.lt_of_lt_of_le F17.lt (Nat.le_of_eq g24.symm))
  have ne26 : a1 ≠ b24 := Nat.ne_of_lt (Nat.lt_of_lt_of_le F20.lt (Nat.le_of_eq g24.symm))
  have Z24 : n0 ≤ h24.size := Nat.le_trans Z16 E24.1
  have sz_b24 : h0.size ≤ b24 := Nat.le_trans K_23.1 (Nat.le_of_eq g24.symm)
  have K_27 : Keep h0 h24 [a0] := K_23.ext E24
  have F28 := F17.ext E24
  have F29 := F_22.ext E24
  have F30 := F18.ext E24
  have F31 := F19.ext E24
  have F32 := F20.ext E24
  have F33 := F21.ext E24
  have V_34 : Arv Z h24 b24 k_a1 .int (2 : Int32) [(.int x0), (.int x1)] (.int (0 : Int32)) := A24
  obtain ⟨T35, X35, e35, st35⟩ := castY X24 hx hZ hown (hw _ (List.mem_of_getElem? (i := 42) rfl)) e24 (Ins.self B24) (g := (mkF m 109 #[oa a0, oa a1, oi (((1 : Int32) &&& v6) &&& v12), oa a1, oi (2 : Int32), oi (2 : Int32), oi x1] [(.ref b24), (.ref a0)])) rfl rfl (hb hby own_d1_109)
  obtain ⟨T36, h36, X36, e36, W36, st36⟩ := putF X35 hx hZ hown (host := "") (Or.inl (hw _ (List.mem_of_getElem? (i := 13) rfl))) Via.refl e35 F30 F28 (Or.inr ⟨(hw _ (List.mem_of_getElem? (i := 14) rfl)), rfl, hnm⟩) (hw _ (List.mem_of_getElem? (i := 2) rfl)) (ty := (.array .int)) (by decide) rfl rfl (g := (mkF m 112 #[oa a0, oa a1, oi (((1 : Int32) &&& v6) &&& v12), oa a1, oi (2 : Int32), oi (2 : Int32), oi x1] [(.ref b24), (.ref a0)])) rfl rfl (hb hby own_d1_112)
  obtain ⟨Lo36, X36, N36⟩ := oOpq X36 (Fr.snoc X36 N16 g_a0)
  have Z36 : n0 ≤ h36.size := Nat.le_trans Z24 (Keep.of_wr W36).1
  have F37 := F28.wr W36
  have F38 := F29.other W36 (Or.inr (slot_ne (Or.inr (hw _ (List.mem_of_getElem? (i := 12) rfl))) (Or.inr (hw _ (List.mem_of_getElem? (i := 14) rfl))) (by decide) (t := (.array .byte)) (t' := (.array .int)) (by decide) (by decide)))
  have F39 := F31.other W36 (Or.inr (slot_ne (Or.inr (hw _ (List.mem_of_getElem? (i := 20) rfl))) (Or.inr (hw _ (List.mem_of_getElem? (i := 14) rfl))) (by decide) (t := .int) (t' := (.array .int)) (by decide) (by decide)))
  have F40 := F32.other W36 n10
  have F41 := F33.wr W36
  have F42 := V_34.other W36 (Ne.symm ne25)
  have F43 := B24.wr W36
  have F_44 : Fld Z h36 a0 "com/example/penstock/penstock/Design" "intIndices" "[I" (.ref b24) := F30.same W36
  have K_45 : Keep h0 h36 [a0] := K_27.wr W36 (Or.inl (List.mem_of_getElem? (i := 0) rfl))
  obtain ⟨_, _, ⟨T46, L46, k46, n46⟩, -, X46, ⟨Lc46, hQ46, l46, y46, z46⟩, st46⟩ := Jvm.LawKit.callS X36 hx (y := (⟨"java/util/Arrays", "hashCode", "([I)I"⟩ : MethodName)) hown (mvT hZ (hw _ (List.mem_of_getElem? (i := 15) rfl))) (mvT hZ (hw _ (List.mem_of_getElem? (i := 16) rfl))) (mvT hZ (hw _ (List.mem_of_getElem? (i := 17) rfl))) (mvT hZ (hw _ (List.mem_of_getElem? (i := 18) rfl))) (by decide) (backOf (W := 1) (own_rm3_2 l Z av hw [] a1 k_a1 x0 x1 h36 n0 Z36 F40 F41) hZ (hw _ (List.mem_of_getElem? (i := 18) rfl)) (hw _ (List.mem_of_getElem? (i := 17) rfl)) (by decide) (by decide)) (g := (mkF m 117 #[oa a0, oa a1, oi (((1 : Int32) &&& v6) &&& v12), oa a1, oi (2 : Int32), oi (2 : Int32), oi x1] [(.ref a1), (.ref a0)])) rfl (by rw [hml]; rfl) (argsL := [(.ref a1)]) (rest := [(.ref a0)]) (lenOf own_pd0 rfl) rfl (by show 2 * 0 + _ ≤ _; exact Nat.le_of_eq rfl) (hb hby own_d1_117) (fun _ _ => ⟨rfl, e36, (by decide : 1 + 0 ≤ _), (by decide : 2 + 0 ≤ _)⟩)
  dsimp only [Pt.U, Pt.locs, Pt.cells, Pt.slots] at X46 l46 y46 z46 st46 hQ46
  have yq46 : k46 = 1 := y46
  have zq46 : n46 = 2 := z46
  subst yq46 zq46
  obtain ⟨rfl, Nq46, eq46⟩ := hQ46
  have N46 : Fr n0 L46 := by rw [l46]; exact Fr.app N36 Nq46
  obtain ⟨T47, h47, X47, e47, W47, st47⟩ := putF X46 hx hZ hown (host := "") (Or.inl (hw _ (List.mem_of_getElem? (i := 19) rfl))) Via.refl eq46 F39 F37 (Or.inr ⟨(hw _ (List.mem_of_getElem? (i := 20) rfl)), rfl, hnm⟩) (hw _ (List.mem_of_getElem? (i := 2) rfl)) (ty := .int) (by decide) rfl rfl (g := (mkF m 120 #[oa a0, oa a1, oi (((1 : Int32) &&& v6) &&& v12), oa a1, oi (2 : Int32), oi (2 : Int32), oi x1] [(.int (own_f3_2 x0 x1)), (.ref a0)])) rfl rfl (hb hby own_d1_120)
  obtain ⟨Lo47, X47, N47⟩ := oOpq X47 (Fr.snoc X47 N46 g_a0)
  have Z47 : n0 ≤ h47.size := Nat.le_trans Z36 (Keep.of_wr W47).1
  have F48 := F37.wr W47
  have F49 := F38.other W47 (Or.inr (slot_ne (Or.inr (hw _ (List.mem_of_getElem? (i := 12) rfl))) (Or.inr (hw _ (List.mem_of_getElem? (i := 20) rfl))) (by decide) (t := (.array .byte)) (t' := .int) (by decide) (by decide)))
  have F50 := F_44.other W47 (Or.inr (slot_ne (Or.inr (hw _ (List.mem_of_getElem? (i := 14) rfl))) (Or.inr (hw _ (List.mem_of_getElem? (i := 20) rfl))) (by decide) (t := (.array .int)) (t' := .int) (by decide) (by decide)))
  have F51 := F40.other W47 n10
  have F52 := F41.wr W47
  have F53 := F42.other W47 (Ne.symm ne25)
  have F54 := F43.wr W47
  have F_55 : Fld Z h47 a0 "com/example/penstock/penstock/Design" "hash" "I" (.int (own_f3_2 x0 x1)) := F39.same W47
  have K_56 : Keep h0 h47 [a0] := K_45.wr W47 (Or.inl (List.mem_of_getElem? (i := 0) rfl))
  obtain ⟨fs, hr, hrun, hended, hW, hsame⟩ := X47.leave (v := none) (fun _ => rfl)
  refine ⟨_, _, pre13 _ ?_, hrun, hended, _, _, rfl, ?_, ⟨_, rfl⟩, hW, hsame.mono (by decide) (by decide)⟩
  · show oS p e below T1 m 47 #[oa a0, oa a1, oi ((1 : Int32) &&& v6), oa a1, oi (2 : Int32), oi (1 : Int32), oi x1] [(.int v12), (.int ((1 : Int32) &&& v6))] _
    refine XS.iand X1.here hx rfl (hb hby own_d1_47) rfl ?_
    show oS p e below T1 m 48 #[oa a0, oa a1, oi ((1 : Int32) &&& v6), oa a1, oi (2 : Int32), oi (1 : Int32), oi x1] [(.int (((1 : Int32) &&& v6) &&& v12))] _
    refine XS.istoreN X1.here hx rfl (hb hby own_d1_48) rfl (l' := #[oa a0, oa a1, oi (((1 : Int32) &&& v6) &&& v12), oa a1, oi (2 : Int32), oi (1 : Int32), oi x1]) rfl ?_
    show oS p e below T1 m 49 #[oa a0, oa a1, oi (((1 : Int32) &&& v6) &&& v12), oa a1, oi (2 : Int32), oi (1 : Int32), oi x1] [] _
    refine XS.iinc X1.here hx rfl (hb hby own_d1_49) rfl (l' := #[oa a0, oa a1, oi (((1 : Int32) &&& v6) &&& v12), oa a1, oi (2 : Int32), oi (2 : Int32), oi x1]) rfl ?_
    show oS p e below T1 m 52 #[oa a0, oa a1, oi (((1 : Int32) &&& v6) &&& v12), oa a1, oi (2 : Int32), oi (2 : Int32), oi x1] [] _
    refine XS.goto X1.here hx rfl (pc0 := 52) (pc' := 15) rfl (hb hby own_d1_52) (by decide) (by decide) ?_
    show oS p e below T1 m 15 #[oa a0, oa a1, oi (((1 : Int32) &&& v6) &&& v12), oa a1, oi (2 : Int32), oi (2 : Int32), oi x1] [] _
    refine XS.iload X1.here hx rfl (hb hby own_d1_15) rfl ?_
    show oS p e below T1 m 17 #[oa a0, oa a1, oi (((1 : Int32) &&& v6) &&& v12), oa a1, oi (2 : Int32), oi (2 : Int32), oi x1] [(.int (2 : Int32))] _
    refine XS.iload X1.here hx rfl (hb hby own_d1_17) rfl ?_
    show oS p e below T1 m 19 #[oa a0, oa a1, oi (((1 : Int32) &&& v6) &&& v12), oa a1, oi (2 : Int32), oi (2 : Int32), oi x1] [(.int (2 : Int32)), (.int (2 : Int32))] _
    refine XS.icmpYes X1.here hx rfl (pc0 := 19) (pc' := 55) rfl (hb hby own_d1_19) rfl (flt b14).2.1 (by decide) (by decide) ?_
    show oS p e below T1 m 55 #[oa a0, oa a1, oi (((1 : Int32) &&& v6) &&& v12), oa a1, oi (2 : Int32), oi (2 : Int32), oi x1] [] _
    refine XS.iloadN X1.here hx rfl (hb hby own_d1_55) rfl ?_
    show oS p e below T1 m 56 #[oa a0, oa a1, oi (((1 : Int32) &&& v6) &&& v12), oa a1, oi (2 : Int32), oi (2 : Int32), oi x1] [(.int (((1 : Int32) &&& v6) &&& v12))] _
    refine XS.ifYes X1.here hx rfl (pc0 := 56) (pc' := 99) rfl (hb hby own_d1_56) rfl ((if0 _ _).trans (teq b15).1) (by decide) (by decide) ?_
    show oS p e below T1 m 99 #[oa a0, oa a1, oi (((1 : Int32) &&& v6) &&& v12), oa a1, oi (2 : Int32), oi (2 : Int32), oi x1] [] _
    refine XS.aloadN X1.here hx rfl (hb hby own_d1_99) rfl rfl ?_
    show oS p e below T1 m 100 #[oa a0, oa a1, oi (((1 : Int32) &&& v6) &&& v12), oa a1, oi (2 : Int32), oi (2 : Int32), oi x1] [(.ref a0)] _
    refine XS.aconstNull X1.here hx rfl (hb hby own_d1_100) ?_
    show oS p e below T1 m 101 #[oa a0, oa a1, oi (((1 : Int32) &&& v6) &&& v12), oa a1, oi (2 : Int32), oi (2 : Int32), oi x1] [.null, (.ref a0)] _
    refine st16 _ ?_
    show oS p e below T16 m 104 #[oa a0, oa a1, oi (((1 : Int32) &&& v6) &&& v12), oa a1, oi (2 : Int32), oi (2 : Int32), oi x1] [] _
    refine XS.aloadN X16.here hx rfl (hb hby own_d1_104) rfl rfl ?_
    show oS p e below T16 m 105 #[oa a0, oa a1, oi (((1 : Int32) &&& v6) &&& v12), oa a1, oi (2 : Int32), oi (2 : Int32), oi x1] [(.ref a0)] _
    refine XS.aloadN X16.here hx rfl (hb hby own_d1_105) rfl rfl ?_
    show oS p e below T16 m 106 #[oa a0, oa a1, oi (((1 : Int32) &&& v6) &&& v12), oa a1, oi (2 : Int32), oi (2 : Int32), oi x1] [(.ref a1), (.ref a0)] _
    refine st24 _ ?_
    show oS p e below T24 m 109 #[oa a0, oa a1, oi (((1 : Int32) &&& v6) &&& v12), oa a1, oi (2 : Int32), oi (2 : Int32), oi x1] [(.ref b24), (.ref a0)] _
    refine st35 _ ?_
    show oS p e below T35 m 112 #[oa a0, oa a1, oi (((1 : Int32) &&& v6) &&& v12), oa a1, oi (2 : Int32), oi (2 : Int32), oi x1] [(.ref b24), (.ref a0)] _
    refine st36 _ ?_
    show oS p e below T36 m 115 #[oa a0, oa a1, oi (((1 : Int32) &&& v6) &&& v12), oa a1, oi (2 : Int32), oi (2 : Int32), oi x1] [] _
    refine XS.aloadN X36.here hx rfl (hb hby own_d1_115) rfl rfl ?_
    show oS p e below T36 m 116 #[oa a0, oa a1, oi (((1 : Int32) &&& v6) &&& v12), oa a1, oi (2 : Int32), oi (2 : Int32), oi x1] [(.ref a0)] _
    refine XS.aloadN X36.here hx rfl (hb hby own_d1_116) rfl rfl ?_
    show oS p e below T36 m 117 #[oa a0, oa a1, oi (((1 : Int32) &&& v6) &&& v12), oa a1, oi (2 : Int32), oi (2 : Int32), oi x1] [(.ref a1), (.ref a0)] _
    refine st46 _ ?_
    show oS p e below T46 m 120 #[oa a0, oa a1, oi (((1 : Int32) &&& v6) &&& v12), oa a1, oi (2 : Int32), oi (2 : Int32), oi x1] [(.int (own_f3_2 x0 x1)), (.ref a0)] _
    refine st47 _ ?_
    show oS p e below T47 m 123 #[oa a0, oa a1, oi (((1 : Int32) &&& v6) &&& v12), oa a1, oi (2 : Int32), oi (2 : Int32), oi x1] [] _
    exact X47.returnOut hx Bd.returns (hb hby own_d1_123) hr
  · show own_Q1i2 Z a0 a1 k_a1 x0 x1 h0 n0 _ T47.heap _
    rw [e47]
    exact ⟨b24, k_a1, rfl, N47, K_56, sz_b24, F48, F49, F50, F54, F53⟩
theorem own_ef6_3 (m : MethodId) (a1 : Addr) : entryFrame m #[(.int (1 : Int32)), (.ref a1), (.int (0 : Int32)), (.int (3 : Int32))] 6 = mkF m 0 #[oi (1 : Int32), oa a1, oi (0 : Int32), oi (3 : Int32), .unset, .unset] [] := by first | (simp [entryFrame, mkF, argsToLocals, Value.category]; done) | rfl
def own_f6_3 (x0 : Int32) (x1 : Int32) (x2 : Int32) : Int32 := (((31 : Int32) * (((31 : Int32) * ((31 : Int32) + x0)) + x1)) + x2)
def own_Q6_3 (Z : State) (a1 : Addr) (k_a1 : ClassId) (x0 : Int32) (x1 : Int32) (x2 : Int32) (h0 : Heap) (n0 : Nat) (v : Option Value) (h : Heap) (L : List Loc) : Prop := v = some (Value.int (own_f6_3 x0 x1 x2)) ∧ Fr n0 L ∧ h = h0
set_option maxRecDepth 65536 in
set_option maxHeartbeats 40000000 in
theorem own_rm6_3 (l : Launch) (Z : State) (av : Array Value) (hw : ∀ d ∈ tables_1, d.before av Z = true) (ws : List Jvm.Cond) (a1 : Addr) (k_a1 : ClassId) (x0 : Int32) (x1 : Int32) (x2 : Int32) (h0 : Heap) (n0 : Nat) (Z0 : n0 ≤ h0.size) (V_a1 : Arv Z h0 a1 k_a1 .int (3 : Int32) [(.int x0), (.int x1), (.int x2)] (.int (0 : Int32))) :
    MetFree l (⟨"jdk/internal/util/ArraysSupport", "hashCode", "(I[III)I"⟩ : MethodName) (head1 (Jvm.Cond.code (⟨"jdk/internal/util/ArraysSupport", "hashCode", "(I[III)I"⟩ : MethodName) jdk_48_method_9_code 6 (some .int) :: ws) ({ frames := 0, cells := 0, slots := 0, locals := 0 } : Room)) (fun a U => a = #[(.int (1 : Int32)), (.ref a1), (.int (0 : Int32)), (.int (3 : Int32))] ∧ Z.Warmed39 U.vm ∧ U.heap = h0) (fun _ _ _ _ _ => True) (fun _ U o U' => ∃ v L, o = .returned v ∧ own_Q6_3 Z a1 k_a1 x0 x1 x2 h0 n0 v U'.heap L ∧ FrameEnd U o U' L ({ frames := 0, cells := 0, slots := 0, locals := 0 } : Room).cells ({ frames := 0, cells := 0, slots := 0, locals := 0 } : Room).slots) := by
  refine MetFree.of_bodySF (plainFor_of_name own_pn2) hisR ?_
  intro p e s m args below meth c s₁ Bd hml0 hP hK
  obtain ⟨rfl, hZ, hh⟩ := hP
  have hx := Bd.exec
  have hby := Bd.bytes
  have hml : c.maxLocals = 6 := hml0
  have hown : s.vm.findClass "jdk/internal/util/ArraysSupport" = some m.cls := findClass_of_methodNamed Bd.named
  have hnm := (name_of_methodNamed Bd.named Bd.method).1
  have X0 : Stand p l e ({ frames := 0, cells := 0, slots := 0, locals := 0 } : Room) s m #[(.int (1 : Int32)), (.ref a1), (.int (0 : Int32)), (.int (3 : Int32))] below meth c s₁ [] 0 0 := Stand.of_body Bd
  have e0 : s₁.heap = h0 := by rw [← hh, Bd.state]; rfl
  have N0 := Fr.nil n0
  have pre0 : ∀ t, Steps p.tables e below (s₁.setTop (mkF m 0 #[oi (1 : Int32), oa a1, oi (0 : Int32), oi (3 : Int32), .unset, .unset] [])) t → Steps p.tables e below (s₁.setTop (entryFrame m #[(.int (1 : Int32)), (.ref a1), (.int (0 : Int32)), (.int (3 : Int32))] 6)) t := fun t k => castTop (own_ef6_3 m a1) k
  have b1 : (0 : Int32) < (3 : Int32) := (by decide)
  have b2 : (1 : Int32) < (3 : Int32) := (by decide)
  have b3 : (2 : Int32) < (3 : Int32) := (by decide)
  have b4 : ¬ ((3 : Int32) < (3 : Int32)) := (by decide)
  obtain ⟨fs, hr, hrun, hended, hW, hsame⟩ := X0.leave (v := (some (.int (((31 : Int32) * (((31 : Int32) * ((31 : Int32) + x0)) + x1)) + x2)))) (fun h => by rw [Bd.returns] at h; cases h)
  refine ⟨_, _, pre0 _ ?_, hrun, hended, _, _, rfl, ?_, ⟨_, rfl⟩, hW, hsame.mono (by decide) (by decide)⟩
  · show oS p e below s₁ m 0 #[oi (1 : Int32), oa a1, oi (0 : Int32), oi (3 : Int32), .unset, .unset] [] _
    refine XS.iloadN X0.here hx rfl (hb hby own_d6_0) rfl ?_
    show oS p e below s₁ m 1 #[oi (1 : Int32), oa a1, oi (0 : Int32), oi (3 : Int32), .unset, .unset] [(.int (0 : Int32))] _
    refine XS.iloadN X0.here hx rfl (hb hby own_d6_1) rfl ?_
    show oS p e below s₁ m 2 #[oi (1 : Int32), oa a1, oi (0 : Int32), oi (3 : Int32), .unset, .unset] [(.int (3 : Int32)), (.int (0 : Int32))] _
    refine XS.iadd X0.here hx rfl (hb hby own_d6_2) rfl ?_
    show oS p e below s₁ m 3 #[oi (1 : Int32), oa a1, oi (0 : Int32), oi (3 : Int32), .unset, .unset] [(.int (3 : Int32))] _
    refine XS.istore X0.here hx rfl (hb hby own_d6_3) rfl (l' := #[oi (1 : Int32), oa a1, oi (0 : Int32), oi (3 : Int32), oi (3 : Int32), .unset]) rfl ?_
    show oS p e below s₁ m 5 #[oi (1 : Int32), oa a1, oi (0 : Int32), oi (3 : Int32), oi (3 : Int32), .unset] [] _
    refine XS.iloadN X0.here hx rfl (hb hby own_d6_5) rfl ?_
    show oS p e below s₁ m 6 #[oi (1 : Int32), oa a1, oi (0 : Int32), oi (3 : Int32), oi (3 : Int32), .unset] [(.int (0 : Int32))] _
    refine XS.istore X0.here hx rfl (hb hby own_d6_6) rfl (l' := #[oi (1 : Int32), oa a1, oi (0 : Int32), oi (3 : Int32), oi (3 : Int32), oi (0 : Int32)]) rfl ?_
    show oS p e below s₁ m 8 #[oi (1 : Int32), oa a1, oi (0 : Int32), oi (3 : Int32), oi (3 : Int32), oi (0 : Int32)] [] _
    refine XS.iload X0.here hx rfl (hb hby own_d6_8) rfl ?_
    show oS p e below s₁ m 10 #[oi (1 : Int32), oa a1, oi (0 : Int32), oi (3 : Int32), oi (3 : Int32), oi (0 : Int32)] [(.int (0 : Int32))] _
    refine XS.iload X0.here hx rfl (hb hby own_d6_10) rfl ?_
    show oS p e below s₁ m 12 #[oi (1 : Int32), oa a1, oi (0 : Int32), oi (3 : Int32), oi (3 : Int32), oi (0 : Int32)] [(.int (3 : Int32)), (.int (0 : Int32))] _
    refine XS.icmpNo X0.here hx rfl (hb hby own_d6_12) rfl (tlt b1).2.1 ?_
    show oS p e below s₁ m 15 #[oi (1 : Int32), oa a1, oi (0 : Int32), oi (3 : Int32), oi (3 : Int32), oi (0 : Int32)] [] _
    refine XS.bipush X0.here hx rfl (hb hby own_d6_15) ?_
    show oS p e below s₁ m 17 #[oi (1 : Int32), oa a1, oi (0 : Int32), oi (3 : Int32), oi (3 : Int32), oi (0 : Int32)] [(.int (31 : Int32))] _
    refine XS.iloadN X0.here hx rfl (hb hby own_d6_17) rfl ?_
    show oS p e below s₁ m 18 #[oi (1 : Int32), oa a1, oi (0 : Int32), oi (3 : Int32), oi (3 : Int32), oi (0 : Int32)] [(.int (1 : Int32)), (.int (31 : Int32))] _
    refine XS.imul X0.here hx rfl (hb hby own_d6_18) rfl ?_
    show oS p e below s₁ m 19 #[oi (1 : Int32), oa a1, oi (0 : Int32), oi (3 : Int32), oi (3 : Int32), oi (0 : Int32)] [(.int (31 : Int32))] _
    refine XS.aloadN X0.here hx rfl (hb hby own_d6_19) rfl rfl ?_
    show oS p e below s₁ m 20 #[oi (1 : Int32), oa a1, oi (0 : Int32), oi (3 : Int32), oi (3 : Int32), oi (0 : Int32)] [(.ref a1), (.int (31 : Int32))] _
    refine XS.iload X0.here hx rfl (hb hby own_d6_20) rfl ?_
    show oS p e below s₁ m 22 #[oi (1 : Int32), oa a1, oi (0 : Int32), oi (3 : Int32), oi (3 : Int32), oi (0 : Int32)] [(.int (0 : Int32)), (.ref a1), (.int (31 : Int32))] _
    refine oLdI X0 hx hZ e0 V_a1 (v := (.int x0)) ⟨by decide, by decide⟩ rfl (hb hby own_d6_22) ?_
    show oS p e below s₁ m 23 #[oi (1 : Int32), oa a1, oi (0 : Int32), oi (3 : Int32), oi (3 : Int32), oi (0 : Int32)] [(.int x0), (.int (31 : Int32))] _
    refine XS.iadd X0.here hx rfl (hb hby own_d6_23) rfl ?_
    show oS p e below s₁ m 24 #[oi (1 : Int32), oa a1, oi (0 : Int32), oi (3 : Int32), oi (3 : Int32), oi (0 : Int32)] [(.int ((31 : Int32) + x0))] _
    refine XS.istoreN X0.here hx rfl (hb hby own_d6_24) rfl (l' := #[oi ((31 : Int32) + x0), oa a1, oi (0 : Int32), oi (3 : Int32), oi (3 : Int32), oi (0 : Int32)]) rfl ?_
    show oS p e below s₁ m 25 #[oi ((31 : Int32) + x0), oa a1, oi (0 : Int32), oi (3 : Int32), oi (3 : Int32), oi (0 : Int32)] [] _
    refine XS.iinc X0.here hx rfl (hb hby own_d6_25) rfl (l' := #[oi ((31 : Int32) + x0), oa a1, oi (0 : Int32), oi (3 : Int32), oi (3 : Int32), oi (1 : Int32)]) rfl ?_
    show oS p e below s₁ m 28 #[oi ((31 : Int32) + x0), oa a1, oi (0 : Int32), oi (3 : Int32), oi (3 : Int32), oi (1 : Int32)] [] _
    refine XS.goto X0.here hx rfl (pc0 := 28) (pc' := 8) rfl (hb hby own_d6_28) (by decide) (by decide) ?_
    show oS p e below s₁ m 8 #[oi ((31 : Int32) + x0), oa a1, oi (0 : Int32), oi (3 : Int32), oi (3 : Int32), oi (1 : Int32)] [] _
    refine XS.iload X0.here hx rfl (hb hby own_d6_8) rfl ?_
    show oS p e below s₁ m 10 #[oi ((31 : Int32) + x0), oa a1, oi (0 : Int32), oi (3 : Int32), oi (3 : Int32), oi (1 : Int32)] [(.int (1 : Int32))] _
    refine XS.iload X0.here hx rfl (hb hby own_d6_10) rfl ?_
    show oS p e below s₁ m 12 #[oi ((31 : Int32) + x0), oa a1, oi (0 : Int32), oi (3 : Int32), oi (3 : Int32), oi (1 : Int32)] [(.int (3 : Int32)), (.int (1 : Int32))] _
    refine XS.icmpNo X0.here hx rfl (hb hby own_d6_12) rfl (tlt b2).2.1 ?_
    show oS p e below s₁ m 15 #[oi ((31 : Int32) + x0), oa a1, oi (0 : Int32), oi (3 : Int32), oi (3 : Int32), oi (1 : Int32)] [] _
    refine XS.bipush X0.here hx rfl (hb hby own_d6_15) ?_
    show oS p e below s₁ m 17 #[oi ((31 : Int32) + x0), oa a1, oi (0 : Int32), oi (3 : Int32), oi (3 : Int32), oi (1 : Int32)] [(.int (31 : Int32))] _
    refine XS.iloadN X0.here hx rfl (hb hby own_d6_17) rfl ?_
    show oS p e below s₁ m 18 #[oi ((31 : Int32) + x0), oa a1, oi (0 : Int32), oi (3 : Int32), oi (3 : Int32), oi (1 : Int32)] [(.int ((31 : Int32) + x0)), (.int (31 : Int32))] _
    refine XS.imul X0.here hx rfl (hb hby own_d6_18) rfl ?_
    show oS p e below s₁ m 19 #[oi ((31 : Int32) + x0), oa a1, oi (0 : Int32), oi (3 : Int32), oi (3 : Int32), oi (1 : Int32)] [(.int ((31 : Int32) * ((31 : Int32) + x0)))] _
    refine XS.aloadN X0.here hx rfl (hb hby own_d6_19) rfl rfl ?_
    show oS p e below s₁ m 20 #[oi ((31 : Int32) + x0), oa a1, oi (0 : Int32), oi (3 : Int32), oi (3 : Int32), oi (1 : Int32)] [(.ref a1), (.int ((31 : Int32) * ((31 : Int32) + x0)))] _
    refine XS.iload X0.here hx rfl (hb hby own_d6_20) rfl ?_
    show oS p e below s₁ m 22 #[oi ((31 : Int32) + x0), oa a1, oi (0 : Int32), oi (3 : Int32), oi (3 : Int32), oi (1 : Int32)] [(.int (1 : Int32)), (.ref a1), (.int ((31 : Int32) * ((31 : Int32) + x0)))] _
    refine oLdI X0 hx hZ e0 V_a1 (v := (.int x1)) ⟨by decide, by decide⟩ rfl (hb hby own_d6_22) ?_
    show oS p e below s₁ m 23 #[oi ((31 : Int32) + x0), oa a1, oi (0 : Int32), oi (3 : Int32), oi (3 : Int32), oi (1 : Int32)] [(.int x1), (.int ((31 : Int32) * ((31 : Int32) + x0)))] _
    refine XS.iadd X0.here hx rfl (hb hby own_d6_23) rfl ?_
    show oS p e below s₁ m 24 #[oi ((31 : Int32) + x0), oa a1, oi (0 : Int32), oi (3 : Int32), oi (3 : Int32), oi (1 : Int32)] [(.int (((31 : Int32) * ((31 : Int32) + x0)) + x1))] _
    refine XS.istoreN X0.here hx rfl (hb hby own_d6_24) rfl (l' := #[oi (((31 : Int32) * ((31 : Int32) + x0)) + x1), oa a1, oi (0 : Int32), oi (3 : Int32), oi (3 : Int32), oi (1 : Int32)]) rfl ?_
    show oS p e below s₁ m 25 #[oi (((31 : Int32) * ((31 : Int32) + x0)) + x1), oa a1, oi (0 : Int32), oi (3 : Int32), oi (3 : Int32), oi (1 : Int32)] [] _
    refine XS.iinc X0.here hx rfl (hb hby own_d6_25) rfl (l' := #[oi (((31 : Int32) * ((31 : Int32) + x0)) + x1), oa a1, oi (0 : Int32), oi (3 : Int32), oi (3 : Int32), oi (2 : Int32)]) rfl ?_
    show oS p e below s₁ m 28 #[oi (((31 : Int32) * ((31 : Int32) + x0)) + x1), oa a1, oi (0 : Int32), oi (3 : Int32), oi (3 : Int32), oi (2 : Int32)] [] _
    refine XS.goto X0.here hx rfl (pc0 := 28) (pc' := 8) rfl (hb hby own_d6_28) (by decide) (by decide) ?_
    show oS p e below s₁ m 8 #[oi (((31 : Int32) * ((31 : Int32) + x0)) + x1), oa a1, oi (0 : Int32), oi (3 : Int32), oi (3 : Int32), oi (2 : Int32)] [] _
    refine XS.iload X0.here hx rfl (hb hby own_d6_8) rfl ?_
    show oS p e below s₁ m 10 #[oi (((31 : Int32) * ((31 : Int32) + x0)) + x1), oa a1, oi (0 : Int32), oi (3 : Int32), oi (3 : Int32), oi (2 : Int32)] [(.int (2 : Int32))] _
    refine XS.iload X0.here hx rfl (hb hby own_d6_10) rfl ?_
    show oS p e below s₁ m 12 #[oi (((31 : Int32) * ((31 : Int32) + x0)) + x1), oa a1, oi (0 : Int32), oi (3 : Int32), oi (3 : Int32), oi (2 : Int32)] [(.int (3 : Int32)), (.int (2 : Int32))] _
    refine XS.icmpNo X0.here hx rfl (hb hby own_d6_12) rfl (tlt b3).2.1 ?_
    show oS p e below s₁ m 15 #[oi (((31 : Int32) * ((31 : Int32) + x0)) + x1), oa a1, oi (0 : Int32), oi (3 : Int32), oi (3 : Int32), oi (2 : Int32)] [] _
    refine XS.bipush X0.here hx rfl (hb hby own_d6_15) ?_
    show oS p e below s₁ m 17 #[oi (((31 : Int32) * ((31 : Int32) + x0)) + x1), oa a1, oi (0 : Int32), oi (3 : Int32), oi (3 : Int32), oi (2 : Int32)] [(.int (31 : Int32))] _
    refine XS.iloadN X0.here hx rfl (hb hby own_d6_17) rfl ?_
    show oS p e below s₁ m 18 #[oi (((31 : Int32) * ((31 : Int32) + x0)) + x1), oa a1, oi (0 : Int32), oi (3 : Int32), oi (3 : Int32), oi (2 : Int32)] [(.int (((31 : Int32) * ((31 : Int32) + x0)) + x1)), (.int (31 : Int32))] _
    refine XS.imul X0.here hx rfl (hb hby own_d6_18) rfl ?_
    show oS p e below s₁ m 19 #[oi (((31 : Int32) * ((31 : Int32) + x0)) + x1), oa a1, oi (0 : Int32), oi (3 : Int32), oi (3 : Int32), oi (2 : Int32)] [(.int ((31 : Int32) * (((31 : Int32) * ((31 : Int32) + x0)) + x1)))] _
    refine XS.aloadN X0.here hx rfl (hb hby own_d6_19) rfl rfl ?_
    show oS p e below s₁ m 20 #[oi (((31 : Int32) * ((31 : Int32) + x0)) + x1), oa a1, oi (0 : Int32), oi (3 : Int32), oi (3 : Int32), oi (2 : Int32)] [(.ref a1), (.int ((31 : Int32) * (((31 : Int32) * ((31 : Int32) + x0)) + x1)))] _
    refine XS.iload X0.here hx rfl (hb hby own_d6_20) rfl ?_
    show oS p e below s₁ m 22 #[oi (((31 : Int32) * ((31 : Int32) + x0)) + x1), oa a1, oi (0 : Int32), oi (3 : Int32), oi (3 : Int32), oi (2 : Int32)] [(.int (2 : Int32)), (.ref a1), (.int ((31 : Int32) * (((31 : Int32) * ((31 : Int32) + x0)) + x1)))] _
    refine oLdI X0 hx hZ e0 V_a1 (v := (.int x2)) ⟨by decide, by decide⟩ rfl (hb hby own_d6_22) ?_
    show oS p e below s₁ m 23 #[oi (((31 : Int32) * ((31 : Int32) + x0)) + x1), oa a1, oi (0 : Int32), oi (3 : Int32), oi (3 : Int32), oi (2 : Int32)] [(.int x2), (.int ((31 : Int32) * (((31 : Int32) * ((31 : Int32) + x0)) + x1)))] _
    refine XS.iadd X0.here hx rfl (hb hby own_d6_23) rfl ?_
    show oS p e below s₁ m 24 #[oi (((31 : Int32) * ((31 : Int32) + x0)) + x1), oa a1, oi (0 : Int32), oi (3 : Int32), oi (3 : Int32), oi (2 : Int32)] [(.int (((31 : Int32) * (((31 : Int32) * ((31 : Int32) + x0)) + x1)) + x2))] _
    refine XS.istoreN X0.here hx rfl (hb hby own_d6_24) rfl (l' := #[oi (((31 : Int32) * (((31 : Int32) * ((31 : Int32) + x0)) + x1)) + x2), oa a1, oi (0 : Int32), oi (3 : Int32), oi (3 : Int32), oi (2 : Int32)]) rfl ?_
    show oS p e below s₁ m 25 #[oi (((31 : Int32) * (((31 : Int32) * ((31 : Int32) + x0)) + x1)) + x2), oa a1, oi (0 : Int32), oi (3 : Int32), oi (3 : Int32), oi (2 : Int32)] [] _
    refine XS.iinc X0.here hx rfl (hb hby own_d6_25) rfl (l' := #[oi (((31 : Int32) * (((31 : Int32) * ((31 : Int32) + x0)) + x1)) + x2), oa a1, oi (0 : Int32), oi (3 : Int32), oi (3 : Int32), oi (3 : Int32)]) rfl ?_
    show oS p e below s₁ m 28 #[oi (((31 : Int32) * (((31 : Int32) * ((31 : Int32) + x0)) + x1)) + x2), oa a1, oi (0 : Int32), oi (3 : Int32), oi (3 : Int32), oi (3 : Int32)] [] _
    refine XS.goto X0.here hx rfl (pc0 := 28) (pc' := 8) rfl (hb hby own_d6_28) (by decide) (by decide) ?_
    show oS p e below s₁ m 8 #[oi (((31 : Int32) * (((31 : Int32) * ((31 : Int32) + x0)) + x1)) + x2), oa a1, oi (0 : Int32), oi (3 : Int32), oi (3 : Int32), oi (3 : Int32)] [] _
    refine XS.iload X0.here hx rfl (hb hby own_d6_8) rfl ?_
    show oS p e below s₁ m 10 #[oi (((31 : Int32) * (((31 : Int32) * ((31 : Int32) + x0)) + x1)) + x2), oa a1, oi (0 : Int32), oi (3 : Int32), oi (3 : Int32), oi (3 : Int32)] [(.int (3 : Int32))] _
    refine XS.iload X0.here hx rfl (hb hby own_d6_10) rfl ?_
    show oS p e below s₁ m 12 #[oi (((31 : Int32) * (((31 : Int32) * ((31 : Int32) + x0)) + x1)) + x2), oa a1, oi (0 : Int32), oi (3 : Int32), oi (3 : Int32), oi (3 : Int32)] [(.int (3 : Int32)), (.int (3 : Int32))] _
    refine XS.icmpYes X0.here hx rfl (pc0 := 12) (pc' := 31) rfl (hb hby own_d6_12) rfl (flt b4).2.1 (by decide) (by decide) ?_
    show oS p e below s₁ m 31 #[oi (((31 : Int32) * (((31 : Int32) * ((31 : Int32) + x0)) + x1)) + x2), oa a1, oi (0 : Int32), oi (3 : Int32), oi (3 : Int32), oi (3 : Int32)] [] _
    refine XS.iloadN X0.here hx rfl (hb hby own_d6_31) rfl ?_
    show oS p e below s₁ m 32 #[oi (((31 : Int32) * (((31 : Int32) * ((31 : Int32) + x0)) + x1)) + x2), oa a1, oi (0 : Int32), oi (3 : Int32), oi (3 : Int32), oi (3 : Int32)] [(.int (((31 : Int32) * (((31 : Int32) * ((31 : Int32) + x0)) + x1)) + x2))] _
    exact retOut X0 hx Bd.returns rfl (Or.inl ⟨rfl, Or.inl rfl, _, rfl⟩) (hb hby own_d6_32) hr
  · show own_Q6_3 Z a1 k_a1 x0 x1 x2 h0 n0 _ s₁.heap _
    rw [e0]
    exact ⟨congrArg (fun z => some (Value.int z)) (by rw [own_f6_3]), N0, rfl⟩
theorem own_ef5_3 (m : MethodId) (a0 : Addr) : entryFrame m #[(.ref a0), (.int (0 : Int32)), (.int (3 : Int32)), (.int (1 : Int32)), (.int (10 : Int32))] 5 = mkF m 0 #[oa a0, oi (0 : Int32), oi (3 : Int32), oi (1 : Int32), oi (10 : Int32)] [] := by first | (simp [entryFrame, mkF, argsToLocals, Value.category]; done) | rfl
def own_f5_3 (x0 : Int32) (x1 : Int32) (x2 : Int32) : Int32 := (own_f6_3 x0 x1 x2)
def own_Q5_3 (Z : State) (a0 : Addr) (k_a0 : ClassId) (x0 : Int32) (x1 : Int32) (x2 : Int32) (h0 : Heap) (n0 : Nat) (v : Option Value) (h : Heap) (L : List Loc) : Prop := v = some (Value.int (own_f5_3 x0 x1 x2)) ∧ Fr n0 L ∧ h = h0
set_option maxRecDepth 65536 in
set_option maxHeartbeats 40000000 in
theorem own_rm5_3 (l : Launch) (Z : State) (av : Array Value) (hw : ∀ d ∈ tables_1, d.before av Z = true) (ws : List Jvm.Cond) (a0 : Addr) (k_a0 : ClassId) (x0 : Int32) (x1 : Int32) (x2 : Int32) (h0 : Heap) (n0 : Nat) (Z0 : n0 ≤ h0.size) (V_a0 : Arv Z h0 a0 k_a0 .int (3 : Int32) [(.int x0), (.int x1), (.int x2)] (.int (0 : Int32))) (E_a0 : Exa Z h0 a0 "[I") :
    MetFree l (⟨"jdk/internal/util/ArraysSupport", "vectorizedHashCode", "(Ljava/lang/Object;IIII)I"⟩ : MethodName) (head1 (Jvm.Cond.code (⟨"jdk/internal/util/ArraysSupport", "vectorizedHashCode", "(Ljava/lang/Object;IIII)I"⟩ : MethodName) jdk_48_method_4_code 5 (some .int) :: ws) ({ frames := 1, cells := 0, slots := 0, locals := 17 } : Room)) (fun a U => a = #[(.ref a0), (.int (0 : Int32)), (.int (3 : Int32)), (.int (1 : Int32)), (.int (10 : Int32))] ∧ Z.Warmed39 U.vm ∧ U.heap = h0) (fun _ _ _ _ _ => True) (fun _ U o U' => ∃ v L, o = .returned v ∧ own_Q5_3 Z a0 k_a0 x0 x1 x2 h0 n0 v U'.heap L ∧ FrameEnd U o U' L ({ frames := 1, cells := 0, slots := 0, locals := 17 } : Room).cells ({ frames := 1, cells := 0, slots := 0, locals := 17 } : Room).slots) := by
  refine MetFree.of_bodySF (plainFor_of_name own_pn2) hisR ?_
  intro p e s m args below meth c s₁ Bd hml0 hP hK
  obtain ⟨rfl, hZ, hh⟩ := hP
  have hx := Bd.exec
  have hby := Bd.bytes
  have hml : c.maxLocals = 5 := hml0
  have hown : s.vm.findClass "jdk/internal/util/ArraysSupport" = some m.cls := findClass_of_methodNamed Bd.named
  have hnm := (name_of_methodNamed Bd.named Bd.method).1
  have X0 : Stand p l e ({ frames := 1, cells := 0, slots := 0, locals := 17 } : Room) s m #[(.ref a0), (.int (0 : Int32)), (.int (3 : Int32)), (.int (1 : Int32)), (.int (10 : Int32))] below meth c s₁ [] 0 0 := Stand.of_body Bd
  have e0 : s₁.heap = h0 := by rw [← hh, Bd.state]; rfl
  have N0 := Fr.nil n0
  have pre0 : ∀ t, Steps p.tables e below (s₁.setTop (mkF m 0 #[oa a0, oi (0 : Int32), oi (3 : Int32), oi (1 : Int32), oi (10 : Int32)] [])) t → Steps p.tables e below (s₁.setTop (entryFrame m #[(.ref a0), (.int (0 : Int32)), (.int (3 : Int32)), (.int (1 : Int32)), (.int (10 : Int32))] 5)) t := fun t k => castTop (own_ef5_3 m a0) k
  have pre1 : ∀ t, Steps p.tables e below (s₁.setTop (mkF m 2 #[oa a0, oi (0 : Int32), oi (3 : Int32), oi (1 : Int32), oi (10 : Int32)] [(.int (10 : Int32))])) t → Steps p.tables e below (s₁.setTop (entryFrame m #[(.ref a0), (.int (0 : Int32)), (.int (3 : Int32)), (.int (1 : Int32)), (.int (10 : Int32))] 5)) t := by
    intro t k
    refine pre0 t ?_
    show oS p e below s₁ m 0 #[oa a0, oi (0 : Int32), oi (3 : Int32), oi (1 : Int32), oi (10 : Int32)] [] _
    refine XS.iload X0.here hx rfl (hb hby own_d5_0) rfl ?_
    exact k
  have k2 : (10 : Int32).toInt = 10 := (by decide)
  have c3 : ¬ ((10 : Int32).toInt < 4 ∨ (10 : Int32).toInt > 10) := by omega
  obtain ⟨T4, X4, e4, st4⟩ := castY X0 hx hZ hown (hw _ (List.mem_of_getElem? (i := 30) rfl)) e0 (Ins.self E_a0) (g := (mkF m 118 #[oa a0, oi (0 : Int32), oi (3 : Int32), oi (1 : Int32), oi (10 : Int32)] [(.ref a0), (.int (1 : Int32))])) rfl rfl (hb hby own_d5_118)
  obtain ⟨_, _, ⟨T5, L5, k5, n5⟩, -, X5, ⟨Lc5, hQ5, l5, y5, z5⟩, st5⟩ := Jvm.LawKit.callS X4 hx (y := (⟨"jdk/internal/util/ArraysSupport", "hashCode", "(I[III)I"⟩ : MethodName)) hown (mvT hZ (hw _ (List.mem_of_getElem? (i := 32) rfl))) (mvT hZ (hw _ (List.mem_of_getElem? (i := 33) rfl))) (mvT hZ (hw _ (List.mem_of_getElem? (i := 28) rfl))) (mvT hZ (hw _ (List.mem_of_getElem? (i := 34) rfl))) (by decide) (backOf (W := 0) (own_rm6_3 l Z av hw [] a0 k_a0 x0 x1 x2 h0 n0 Z0 V_a0) hZ (hw _ (List.mem_of_getElem? (i := 34) rfl)) (hw _ (List.mem_of_getElem? (i := 28) rfl)) (by decide) (by decide)) (g := (mkF m 123 #[oa a0, oi (0 : Int32), oi (3 : Int32), oi (1 : Int32), oi (10 : Int32)] [(.int (3 : Int32)), (.int (0 : Int32)), (.ref a0), (.int (1 : Int32))])) rfl (by rw [hml]; rfl) (argsL := [(.int (1 : Int32)), (.ref a0), (.int (0 : Int32)), (.int (3 : Int32))]) (rest := []) (lenOf own_pd1 rfl) rfl (by show 2 * 0 + _ ≤ _; exact Nat.le_of_eq rfl) (hb hby own_d5_123) (fun _ _ => ⟨rfl, e4, (by decide : 0 + 0 ≤ _), (by decide : 0 + 0 ≤ _)⟩)
  dsimp only [Pt.U, Pt.locs, Pt.cells, Pt.slots] at X5 l5 y5 z5 st5 hQ5
  have yq5 : k5 = 0 := y5
  have zq5 : n5 = 0 := z5
  subst yq5 zq5
  obtain ⟨rfl, Nq5, eq5⟩ := hQ5
  have N5 : Fr n0 L5 := by rw [l5]; exact Fr.app N0 Nq5
  obtain ⟨fs, hr, hrun, hended, hW, hsame⟩ := X5.leave (v := (some (.int (own_f6_3 x0 x1 x2)))) (fun h => by rw [Bd.returns] at h; cases h)
  refine ⟨_, _, pre1 _ ?_, hrun, hended, _, _, rfl, ?_, ⟨_, rfl⟩, hW, hsame.mono (by decide) (by decide)⟩
  · show oS p e below s₁ m 2 #[oa a0, oi (0 : Int32), oi (3 : Int32), oi (1 : Int32), oi (10 : Int32)] [(.int (10 : Int32))] _
    refine XS.tswIn X0.here hx rfl (o := 114) (pc0 := 2) (pc' := 116) rfl (hb hby own_d5_2) rfl c3 (by rw [show (10 : Int32).toInt = 10 from k2]; rfl) (by decide) (by decide) ?_
    show oS p e below s₁ m 116 #[oa a0, oi (0 : Int32), oi (3 : Int32), oi (1 : Int32), oi (10 : Int32)] [] _
    refine XS.iloadN X0.here hx rfl (hb hby own_d5_116) rfl ?_
    show oS p e below s₁ m 117 #[oa a0, oi (0 : Int32), oi (3 : Int32), oi (1 : Int32), oi (10 : Int32)] [(.int (1 : Int32))] _
    refine XS.aloadN X0.here hx rfl (hb hby own_d5_117) rfl rfl ?_
    show oS p e below s₁ m 118 #[oa a0, oi (0 : Int32), oi (3 : Int32), oi (1 : Int32), oi (10 : Int32)] [(.ref a0), (.int (1 : Int32))] _
    refine st4 _ ?_
    show oS p e below T4 m 121 #[oa a0, oi (0 : Int32), oi (3 : Int32), oi (1 : Int32), oi (10 : Int32)] [(.ref a0), (.int (1 : Int32))] _
    refine XS.iloadN X4.here hx rfl (hb hby own_d5_121) rfl ?_
    show oS p e below T4 m 122 #[oa a0, oi (0 : Int32), oi (3 : Int32), oi (1 : Int32), oi (10 : Int32)] [(.int (0 : Int32)), (.ref a0), (.int (1 : Int32))] _
    refine XS.iloadN X4.here hx rfl (hb hby own_d5_122) rfl ?_
    show oS p e below T4 m 123 #[oa a0, oi (0 : Int32), oi (3 : Int32), oi (1 : Int32), oi (10 : Int32)] [(.int (3 : Int32)), (.int (0 : Int32)), (.ref a0), (.int (1 : Int32))] _
    refine st5 _ ?_
    show oS p e below T5 m 126 #[oa a0, oi (0 : Int32), oi (3 : Int32), oi (1 : Int32), oi (10 : Int32)] [(.int (own_f6_3 x0 x1 x2))] _
    refine XS.goto X5.here hx rfl (pc0 := 126) (pc' := 157) rfl (hb hby own_d5_126) (by decide) (by decide) ?_
    show oS p e below T5 m 157 #[oa a0, oi (0 : Int32), oi (3 : Int32), oi (1 : Int32), oi (10 : Int32)] [(.int (own_f6_3 x0 x1 x2))] _
    exact retOut X5 hx Bd.returns rfl (Or.inl ⟨rfl, Or.inl rfl, _, rfl⟩) (hb hby own_d5_157) hr
  · show own_Q5_3 Z a0 k_a0 x0 x1 x2 h0 n0 _ T5.heap _
    rw [eq5]
    exact ⟨congrArg (fun z => some (Value.int z)) (by rw [own_f5_3]), N5, rfl⟩
theorem own_ef3_3 (m : MethodId) (a0 : Addr) : entryFrame m #[(.ref a0)] 1 = mkF m 0 #[oa a0] [] := by first | (simp [entryFrame, mkF, argsToLocals, Value.category]; done) | rfl
def own_f3_3 (x0 : Int32) (x1 : Int32) (x2 : Int32) : Int32 := (own_f5_3 x0 x1 x2)
def own_Q3_3 (Z : State) (a0 : Addr) (k_a0 : ClassId) (x0 : Int32) (x1 : Int32) (x2 : Int32) (h0 : Heap) (n0 : Nat) (v : Option Value) (h : Heap) (L : List Loc) : Prop := v = some (Value.int (own_f3_3 x0 x1 x2)) ∧ Fr n0 L ∧ h = h0
set_option maxRecDepth 65536 in
set_option maxHeartbeats 40000000 in
theorem own_rm3_3 (l : Launch) (Z : State) (av : Array Value) (hw : ∀ d ∈ tables_1, d.before av Z = true) (ws : List Jvm.Cond) (a0 : Addr) (k_a0 : ClassId) (x0 : Int32) (x1 : Int32) (x2 : Int32) (h0 : Heap) (n0 : Nat) (Z0 : n0 ≤ h0.size) (V_a0 : Arv Z h0 a0 k_a0 .int (3 : Int32) [(.int x0), (.int x1), (.int x2)] (.int (0 : Int32))) (E_a0 : Exa Z h0 a0 "[I") :
    MetFree l (⟨"java/util/Arrays", "hashCode", "([I)I"⟩ : MethodName) (head1 (Jvm.Cond.code (⟨"java/util/Arrays", "hashCode", "([I)I"⟩ : MethodName) jdk_65_method_150_code 1 (some .int) :: ws) ({ frames := 2, cells := 0, slots := 0, locals := 33 } : Room)) (fun a U => a = #[(.ref a0)] ∧ Z.Warmed39 U.vm ∧ U.heap = h0) (fun _ _ _ _ _ => True) (fun _ U o U' => ∃ v L, o = .returned v ∧ own_Q3_3 Z a0 k_a0 x0 x1 x2 h0 n0 v U'.heap L ∧ FrameEnd U o U' L ({ frames := 2, cells := 0, slots := 0, locals := 33 } : Room).cells ({ frames := 2, cells := 0, slots := 0, locals := 33 } : Room).slots) := by
  refine MetFree.of_bodySF (plainFor_of_name own_pn0) hisR ?_
  intro p e s m args below meth c s₁ Bd hml0 hP hK
  obtain ⟨rfl, hZ, hh⟩ := hP
  have hx := Bd.exec
  have hby := Bd.bytes
  have hml : c.maxLocals = 1 := hml0
  have hown : s.vm.findClass "java/util/Arrays" = some m.cls := findClass_of_methodNamed Bd.named
  have hnm := (name_of_methodNamed Bd.named Bd.method).1
  have X0 : Stand p l e ({ frames := 2, cells := 0, slots := 0, locals := 33 } : Room) s m #[(.ref a0)] below meth c s₁ [] 0 0 := Stand.of_body Bd
  have e0 : s₁.heap = h0 := by rw [← hh, Bd.state]; rfl
  have N0 := Fr.nil n0
  have pre0 : ∀ t, Steps p.tables e below (s₁.setTop (mkF m 0 #[oa a0] [])) t → Steps p.tables e below (s₁.setTop (entryFrame m #[(.ref a0)] 1)) t := fun t k => castTop (own_ef3_3 m a0) k
  obtain ⟨_, _, ⟨T1, L1, k1, n1⟩, -, X1, ⟨Lc1, hQ1, l1, y1, z1⟩, st1⟩ := Jvm.LawKit.callS X0 hx (y := (⟨"jdk/internal/util/ArraysSupport", "vectorizedHashCode", "(Ljava/lang/Object;IIII)I"⟩ : MethodName)) hown (mvT hZ (hw _ (List.mem_of_getElem? (i := 26) rfl))) (mvT hZ (hw _ (List.mem_of_getElem? (i := 27) rfl))) (mvT hZ (hw _ (List.mem_of_getElem? (i := 28) rfl))) (mvT hZ (hw _ (List.mem_of_getElem? (i := 29) rfl))) (by decide) (backOf (W := 0) (own_rm5_3 l Z av hw [] a0 k_a0 x0 x1 x2 h0 n0 Z0 V_a0 E_a0) hZ (hw _ (List.mem_of_getElem? (i := 29) rfl)) (hw _ (List.mem_of_getElem? (i := 28) rfl)) (by decide) (by decide)) (g := (mkF m 56 #[oa a0] [(.int (10 : Int32)), (.int (1 : Int32)), (.int (3 : Int32)), (.int (0 : Int32)), (.ref a0)])) rfl (by rw [hml]; rfl) (argsL := [(.ref a0), (.int (0 : Int32)), (.int (3 : Int32)), (.int (1 : Int32)), (.int (10 : Int32))]) (rest := []) (lenOf own_pd2 rfl) rfl (by show 2 * 0 + _ ≤ _; exact Nat.le_of_eq rfl) (hb hby own_d3_56) (fun _ _ => ⟨rfl, e0, (by decide : 0 + 0 ≤ _), (by decide : 0 + 0 ≤ _)⟩)
  dsimp only [Pt.U, Pt.locs, Pt.cells, Pt.slots] at X1 l1 y1 z1 st1 hQ1
  have yq1 : k1 = 0 := y1
  have zq1 : n1 = 0 := z1
  subst yq1 zq1
  obtain ⟨rfl, Nq1, eq1⟩ := hQ1
  have N1 : Fr n0 L1 := by rw [l1]; exact Fr.app N0 Nq1
  obtain ⟨fs, hr, hrun, hended, hW, hsame⟩ := X1.leave (v := (some (.int (own_f5_3 x0 x1 x2)))) (fun h => by rw [Bd.returns] at h; cases h)
  refine ⟨_, _, pre0 _ ?_, hrun, hended, _, _, rfl, ?_, ⟨_, rfl⟩, hW, hsame.mono (by decide) (by decide)⟩
  · show oS p e below s₁ m 0 #[oa a0] [] _
    refine XS.aloadN X0.here hx rfl (hb hby own_d3_0) rfl rfl ?_
    show oS p e below s₁ m 1 #[oa a0] [(.ref a0)] _
    refine XS.ifnonnullYes X0.here hx rfl (pc0 := 1) (pc' := 6) rfl (hb hby own_d3_1) rfl (by decide) (by decide) ?_
    show oS p e below s₁ m 6 #[oa a0] [] _
    refine XS.aloadN X0.here hx rfl (hb hby own_d3_6) rfl rfl ?_
    show oS p e below s₁ m 7 #[oa a0] [(.ref a0)] _
    refine oLen X0 hx hZ e0 V_a0 (hb hby own_d3_7) ?_
    show oS p e below s₁ m 8 #[oa a0] [(.int (3 : Int32))] _
    jvm_step X0.here [X0.here.top, hx, (hb hby own_d3_8), show ((3 : Int32).toInt) = 3 from by decide]
    show oS p e below s₁ m 49 #[oa a0] [] _
    refine XS.aloadN X0.here hx rfl (hb hby own_d3_49) rfl rfl ?_
    show oS p e below s₁ m 50 #[oa a0] [(.ref a0)] _
    refine XS.iconst X0.here hx rfl (hb hby own_d3_50) ?_
    show oS p e below s₁ m 51 #[oa a0] [(.int (0 : Int32)), (.ref a0)] _
    refine XS.aloadN X0.here hx rfl (hb hby own_d3_51) rfl rfl ?_
    show oS p e below s₁ m 52 #[oa a0] [(.ref a0), (.int (0 : Int32)), (.ref a0)] _
    refine oLen X0 hx hZ e0 V_a0 (hb hby own_d3_52) ?_
    show oS p e below s₁ m 53 #[oa a0] [(.int (3 : Int32)), (.int (0 : Int32)), (.ref a0)] _
    refine XS.iconst X0.here hx rfl (hb hby own_d3_53) ?_
    show oS p e below s₁ m 54 #[oa a0] [(.int (1 : Int32)), (.int (3 : Int32)), (.int (0 : Int32)), (.ref a0)] _
    refine XS.bipush X0.here hx rfl (hb hby own_d3_54) ?_
    show oS p e below s₁ m 56 #[oa a0] [(.int (10 : Int32)), (.int (1 : Int32)), (.int (3 : Int32)), (.int (0 : Int32)), (.ref a0)] _
    refine st1 _ ?_
    show oS p e below T1 m 59 #[oa a0] [(.int (own_f5_3 x0 x1 x2))] _
    exact retOut X1 hx Bd.returns rfl (Or.inl ⟨rfl, Or.inl rfl, _, rfl⟩) (hb hby own_d3_59) hr
  · show own_Q3_3 Z a0 k_a0 x0 x1 x2 h0 n0 _ T1.heap _
    rw [eq1]
    exact ⟨congrArg (fun z => some (Value.int z)) (by rw [own_f3_3]), N1, rfl⟩
theorem own_ef1b3 (m : MethodId) (a0 : Addr) (a1 : Addr) : entryFrame m #[(.ref a0), (.ref a1)] 7 = mkF m 0 #[oa a0, oa a1, .unset, .unset, .unset, .unset, .unset] [] := by first | (simp [entryFrame, mkF, argsToLocals, Value.category]; done) | rfl
def own_Q1b3 (Z : State) (a0 : Addr) (a1 : Addr) (k_a1 : ClassId) (x0 : Int32) (x1 : Int32) (x2 : Int32) (h0 : Heap) (n0 : Nat) (v : Option Value) (h : Heap) (L : List Loc) : Prop := ∃ (b : Addr) (k_b : ClassId), v = none ∧ Fr n0 L ∧ Keep h0 h [a0] ∧ h0.size ≤ b ∧ Exa Z h a0 "com/example/penstock/penstock/Design" ∧ Fld Z h a0 "com/example/penstock/penstock/Design" "byteIndices" "[B" (.ref b) ∧ Fld Z h a0 "com/example/penstock/penstock/Design" "intIndices" "[I" .null ∧ Arv Z h b k_b .byte (3 : Int32) [(.int (x0.toInt8.toInt32)), (.int (x1.toInt8.toInt32)), (.int (x2.toInt8.toInt32))] (.int (0 : Int32))
set_option maxRecDepth 65536 in
set_option maxHeartbeats 40000000 in
theorem own_rm1b3 (l : Launch) (Z : State) (av : Array Value) (hw : ∀ d ∈ tables_1, d.before av Z = true) (ws : List Jvm.Cond) (a0 : Addr) (a1 : Addr) (k_a1 : ClassId) (x0 : Int32) (x1 : Int32) (x2 : Int32) (h0 : Heap) (n0 : Nat) (Z0 : n0 ≤ h0.size) (E_a0 : Exa Z h0 a0 "com/example/penstock/penstock/Design") (F_byteIndices_a0 : Fld Z h0 a0 "com/example/penstock/penstock/Design" "byteIndices" "[B" .null) (F_intIndices_a0 : Fld Z h0 a0 "com/example/penstock/penstock/Design" "intIndices" "[I" .null) (F_hash_a0 : Fld Z h0 a0 "com/example/penstock/penstock/Design" "hash" "I" (.int (0 : Int32))) (g_a0 : n0 ≤ a0) (V_a1 : Arv Z h0 a1 k_a1 .int (3 : Int32) [(.int x0), (.int x1), (.int x2)] (.int (0 : Int32))) (E_a1 : Exa Z h0 a1 "[I") (n10 : a1 ≠ a0) (l0 : ¬ (x0 < (0 : Int32))) (l1 : ¬ (x1 < (0 : Int32))) (l2 : ¬ (x2 < (0 : Int32))) (u0 : ¬ ((255 : Int32) < x0)) (u1 : ¬ ((255 : Int32) < x1)) (u2 : ¬ ((255 : Int32) < x2)) :
    MetFree l (⟨"com/example/penstock/penstock/Design", "<init>", "([I)V"⟩ : MethodName) (head1 (Jvm.Cond.code (⟨"com/example/penstock/penstock/Design", "<init>", "([I)V"⟩ : MethodName) prog_9_method_1_code 7 none :: ws) ({ frames := 3, cells := 1, slots := 3, locals := 46 } : Room)) (fun a U => a = #[(.ref a0), (.ref a1)] ∧ Z.Warmed39 U.vm ∧ U.heap = h0) (fun _ _ _ _ _ => True) (fun _ U o U' => ∃ v L, o = .returned v ∧ own_Q1b3 Z a0 a1 k_a1 x0 x1 x2 h0 n0 v U'.heap L ∧ FrameEnd U o U' L ({ frames := 3, cells := 1, slots := 3, locals := 46 } : Room).cells ({ frames := 3, cells := 1, slots := 3, locals := 46 } : Room).slots) := by
  refine MetFree.of_bodySF (plainFor_of_name own_pn1) hisR ?_
  intro p e s m args below meth c s₁ Bd hml0 hP hK
  obtain ⟨rfl, hZ, hh⟩ := hP
  have hx := Bd.exec
  have hby := Bd.bytes
  have hml : c.maxLocals = 7 := hml0
  have hown : s.vm.findClass "com/example/penstock/penstock/Design" = some m.cls := findClass_of_methodNamed Bd.named
  have hnm := (name_of_methodNamed Bd.named Bd.method).1
  have X0 : Stand p l e ({ frames := 3, cells := 1, slots := 3, locals := 46 } : Room) s m #[(.ref a0), (.ref a1)] below meth c s₁ [] 0 0 := Stand.of_body Bd
  have e0 : s₁.heap = h0 := by rw [← hh, Bd.state]; rfl
  have N0 := Fr.nil n0
  have pre0 : ∀ t, Steps p.tables e below (s₁.setTop (mkF m 0 #[oa a0, oa a1, .unset, .unset, .unset, .unset, .unset] [])) t → Steps p.tables e below (s₁.setTop (entryFrame m #[(.ref a0), (.ref a1)] 7)) t := fun t k => castTop (own_ef1b3 m a0 a1) k
  obtain ⟨T1, X1, e1, st1⟩ := initO X0 hx hZ hown (hw _ (List.mem_of_getElem? (i := 7) rfl)) (hw _ (List.mem_of_getElem? (i := 8) rfl)) (hw _ (List.mem_of_getElem? (i := 9) rfl)) e0 (g := (mkF m 1 #[oa a0, oa a1, .unset, .unset, .unset, .unset, .unset] [(.ref a0)])) rfl (by rw [hml]; rfl) rfl (hb hby own_d1_1) (by decide) (W := 0) (by show 2 * 0 + _ ≤ _; exact Nat.le_of_eq rfl) (by decide)
  have b2 : (0 : Int32) < (3 : Int32) := (by decide)
  have b3 : ¬ (x0 < (0 : Int32)) := l0
  have b4 : ¬ ((255 : Int32) < x0) := u0
  have b5 : (1 : Int32) < (3 : Int32) := (by decide)
  have b6 : ¬ (x1 < (0 : Int32)) := l1
  have b7 : ¬ ((255 : Int32) < x1) := u1
  have b8 : (2 : Int32) < (3 : Int32) := (by decide)
  have b9 : ¬ (x2 < (0 : Int32)) := l2
  have b10 : ¬ ((255 : Int32) < x2) := u2
  have b11 : ¬ ((3 : Int32) < (3 : Int32)) := (by decide)
  have b12 : ¬ ((1 : Int32) = (0 : Int32)) := (by decide)
  obtain ⟨T13, h13, k13, X13, e13, E13, A13, B13, st13⟩ := newPE X1 hx hZ (hw _ (List.mem_of_getElem? (i := 10) rfl)) e1 (g := (mkF m 62 #[oa a0, oa a1, oi (1 : Int32), oa a1, oi (3 : Int32), oi (3 : Int32), oi x2] [(.int (3 : Int32)), (.ref a0)])) rfl (hb hby own_d1_62) rfl (by decide) (cap := 3) (by decide) (by decide) (by decide) (by decide) (ad := "[B") rfl
  obtain ⟨b13, g13⟩ : ∃ z, z = h0.size := ⟨_, rfl⟩
  rw [← g13] at A13 st13 B13
  have g_b13 : n0 ≤ b13 := Nat.le_trans Z0 (Nat.le_of_eq g13.symm)
  have ne14 : a0 ≠ b13 := Nat.ne_of_lt (Nat.lt_of_lt_of_le E_a0.lt (Nat.le_of_eq g13.symm))
  have ne15 : a1 ≠ b13 := Nat.ne_of_lt (Nat.lt_of_lt_of_le V_a1.lt (Nat.le_of_eq g13.symm))
  have Z13 : n0 ≤ h13.size := Nat.le_trans Z0 E13.1
  have sz_b13 : h0.size ≤ b13 := Nat.le_trans (Keep.refl h0 [a0]).1 (Nat.le_of_eq g13.symm)
  have K_16 : Keep h0 h13 [a0] := (Keep.refl h0 [a0]).ext E13
  have F17 := E_a0.ext E13
  have F18 := F_byteIndices_a0.ext E13
  have F19 := F_intIndices_a0.ext E13
  have F20 := F_hash_a0.ext E13
  have F21 := V_a1.ext E13
  have F22 := E_a1.ext E13
  have V_23 : Arv Z h13 b13 k13 .byte (3 : Int32) [(.int (0 : Int32)), (.int (0 : Int32)), (.int (0 : Int32))] (.int (0 : Int32)) := (Arv.new A13 (by decide)).pad (pad_rep [] (.int (0 : Int32)) 3)
  obtain ⟨T24, h24, X24, e24, W24, st24⟩ := putF X13 hx hZ hown (host := "") (Or.inl (hw _ (List.mem_of_getElem? (i := 11) rfl))) Via.refl e13 F18 F17 (Or.inr ⟨(hw _ (List.mem_of_getElem? (i := 12) rfl)), rfl, hnm⟩) (hw _ (List.mem_of_getElem? (i := 2) rfl)) (ty := (.array .byte)) (by decide) rfl rfl (g := (mkF m 64 #[oa a0, oa a1, oi (1 : Int32), oa a1, oi (3 : Int32), oi (3 : Int32), oi x2] [(.ref b13), (.ref a0)])) rfl rfl (hb hby own_d1_64)
  obtain ⟨Lo24, X24, N24⟩ := oOpq X24 (Fr.snoc X24 N0 g_a0)
  have Z24 : n0 ≤ h24.size := Nat.le_trans Z13 (Keep.of_wr W24).1
  have F25 := F17.wr W24
  have F26 := F19.other W24 (Or.inr (slot_ne (Or.inr (hw _ (List.mem_of_getElem? (i := 14) rfl))) (Or.inr (hw _ (List.mem_of_getElem? (i := 12) rfl))) (by decide) (t := (.array .int)) (t' := (.array .byte)) (by decide) (by decide)))
  have F27 := F20.other W24 (Or.inr (slot_ne (Or.inr (hw _ (List.mem_of_getElem? (i := 20) rfl))) (Or.inr (hw _ (List.mem_of_getElem? (i := 12) rfl))) (by decide) (t := .int) (t' := (.array .byte)) (by decide) (by decide)))
  have F28 := F21.other W24 n10
  have F29 := F22.wr W24
  have F30 := V_23.other W24 (Ne.symm ne14)
  have F31 := B13.wr W24
  have F_32 : Fld Z h24 a0 "com/example/penstock/penstock/Design" "byteIndices" "[B" (.ref b13) := F18.same W24
  have K_33 : Keep h0 h24 [a0] := K_16.wr W24 (Or.inl (List.mem_of_getElem? (i := 0) rfl))
  have b34 : (0 : Int32) < (3 : Int32) := (by decide)
  obtain ⟨T35, X35, e35, st35⟩ := getF X24 hx hZ hown (host := "") (Or.inl (hw _ (List.mem_of_getElem? (i := 11) rfl))) Via.refl e24 F_32 (g := (mkF m 76 #[oa a0, oa a1, oi (1 : Int32), oi (0 : Int32), oi (3 : Int32), oi (3 : Int32), oi x2] [(.ref a0)])) rfl rfl (hb hby own_d1_76)
  obtain ⟨T36, h36, X36, e36, W36, V36, st36⟩ := oStB X35 hx hZ e35 F30 (j := (0 : Int32)) ⟨by decide, by decide⟩ 0 rfl (Nat.le_of_ble_eq_true rfl) (g := (mkF m 84 #[oa a0, oa a1, oi (1 : Int32), oi (0 : Int32), oi (3 : Int32), oi (3 : Int32), oi x2] [(.int (x0.toInt8.toInt32)), (.int (0 : Int32)), (.ref b13)])) rfl rfl (hb hby own_d1_84)
  rw [own_narb] at V36
  obtain ⟨Lo36, X36, N36⟩ := oOpq X36 (Fr.snoc X36 N24 g_b13)
  have Z36 := Nat.le_trans Z24 (Keep.of_wr W36).1
  have F37 := F25.wr W36
  have F38 := F_32.other W36 (Or.inl ne14)
  have F39 := F26.other W36 (Or.inl ne14)
  have F40 := F27.other W36 (Or.inl ne14)
  have F41 := F28.other W36 ne15
  have F42 := F29.wr W36
  have F43 := F31.wr W36
  have V_44 : Arv Z h36 b13 k13 .byte (3 : Int32) [(.int (x0.toInt8.toInt32)), (.int (0 : Int32)), (.int (0 : Int32))] (.int (0 : Int32)) := V36
  have K_45 : Keep h0 h36 [a0] := K_33.wr W36 (Or.inr sz_b13)
  have b46 : (1 : Int32) < (3 : Int32) := (by decide)
  obtain ⟨T47, X47, e47, st47⟩ := getF X36 hx hZ hown (host := "") (Or.inl (hw _ (List.mem_of_getElem? (i := 11) rfl))) Via.refl e36 F38 (g := (mkF m 76 #[oa a0, oa a1, oi (1 : Int32), oi (1 : Int32), oi (3 : Int32), oi (3 : Int32), oi x2] [(.ref a0)])) rfl rfl (hb hby own_d1_76)
  obtain ⟨T48, h48, X48, e48, W48, V48, st48⟩ := oStB X47 hx hZ e47 V_44 (j := (1 : Int32)) ⟨by decide, by decide⟩ 1 rfl (Nat.le_of_ble_eq_true rfl) (g := (mkF m 84 #[oa a0, oa a1, oi (1 : Int32), oi (1 : Int32), oi (3 : Int32), oi (3 : Int32), oi x2] [(.int (x1.toInt8.toInt32)), (.int (1 : Int32)), (.ref b13)])) rfl rfl (hb hby own_d1_84)
  rw [own_narb] at V48
  obtain ⟨Lo48, X48, N48⟩ := oOpq X48 (Fr.snoc X48 N36 g_b13)
  have Z48 := Nat.le_trans Z36 (Keep.of_wr W48).1
  have F49 := F37.wr W48
  have F50 := F38.other W48 (Or.inl ne14)
  have F51 := F39.other W48 (Or.inl ne14)
  have F52 := F40.other W48 (Or.inl ne14)
  have F53 := F41.other W48 ne15
  have F54 := F42.wr W48
  have F55 := F43.wr W48
  have V_56 : Arv Z h48 b13 k13 .byte (3 : Int32) [(.int (x0.toInt8.toInt32)), (.int (x1.toInt8.toInt32)), (.int (0 : Int32))] (.int (0 : Int32)) := V48
  have K_57 : Keep h0 h48 [a0] := K_45.wr W48 (Or.inr sz_b13)
  have b58 : (2 : Int32) < (3 : Int32) := (by decide)
  obtain ⟨T59, X59, e59, st59⟩ := getF X48 hx hZ hown (host := "") (Or.inl (hw _ (List.mem_of_getElem? (i := 11) rfl))) Via.refl e48 F50 (g := (mkF m 76 #[oa a0, oa a1, oi (1 : Int32), oi (2 : Int32), oi (3 : Int32), oi (3 : Int32), oi x2] [(.ref a0)])) rfl rfl (hb hby own_d1_76)
  obtain ⟨T60, h60, X60, e60, W60, V60, st60⟩ := oStB X59 hx hZ e59 V_56 (j := (2 : Int32)) ⟨by decide, by decide⟩ 2 rfl (Nat.le_of_ble_eq_true rfl) (g := (mkF m 84 #[oa a0, oa a1, oi (1 : Int32), oi (2 : Int32), oi (3 : Int32), oi (3 : Int32), oi x2] [(.int (x2.toInt8.toInt32)), (.int (2 : Int32)), (.ref b13)])) rfl rfl (hb hby own_d1_84)
  rw [own_narb] at V60
  obtain ⟨Lo60, X60, N60⟩ := oOpq X60 (Fr.snoc X60 N48 g_b13)
  have Z60 := Nat.le_trans Z48 (Keep.of_wr W60).1
  have F61 := F49.wr W60
  have F62 := F50.other W60 (Or.inl ne14)
  have F63 := F51.other W60 (Or.inl ne14)
  have F64 := F52.other W60 (Or.inl ne14)
  have F65 := F53.other W60 ne15
  have F66 := F54.wr W60
  have F67 := F55.wr W60
  have V_68 : Arv Z h60 b13 k13 .byte (3 : Int32) [(.int (x0.toInt8.toInt32)), (.int (x1.toInt8.toInt32)), (.int (x2.toInt8.toInt32))] (.int (0 : Int32)) := V60
  have K_69 : Keep h0 h60 [a0] := K_57.wr W60 (Or.inr sz_b13)
  have b70 : ¬ ((3 : Int32) < (3 : Int32)) := (by decide)
  obtain ⟨T71, h71, X71, e71, W71, st71⟩ := putF X60 hx hZ hown (host := "") (Or.inl (hw _ (List.mem_of_getElem? (i := 13) rfl))) Via.refl e60 F63 F61 (Or.inr ⟨(hw _ (List.mem_of_getElem? (i := 14) rfl)), rfl, hnm⟩) (hw _ (List.mem_of_getElem? (i := 2) rfl)) (ty := (.array .int)) (by decide) rfl rfl (g := (mkF m 93 #[oa a0, oa a1, oi (1 : Int32), oi (3 : Int32), oi (3 : Int32), oi (3 : Int32), oi x2] [.null, (.ref a0)])) rfl rfl (hb hby own_d1_93)
  obtain ⟨Lo71, X71, N71⟩ := oOpq X71 (Fr.snoc X71 N60 g_a0)
  have Z71 : n0 ≤ h71.size := Nat.le_trans Z60 (Keep.of_wr W71).1
  have F72 := F61.wr W71
  have F73 := F62.other W71 (Or.inr (slot_ne (Or.inr (hw _ (List.mem_of_getElem? (i := 12) rfl))) (Or.inr (hw _ (List.mem_of_getElem? (i := 14) rfl))) (by decide) (t := (.array .byte)) (t' := (.array .int)) (by decide) (by decide)))
  have F74 := F64.other W71 (Or.inr (slot_ne (Or.inr (hw _ (List.mem_of_getElem? (i := 20) rfl))) (Or.inr (hw _ (List.mem_of_getElem? (i := 14) rfl))) (by decide) (t := .int) (t' := (.array .int)) (by decide) (by decide)))
  have F75 := F65.other W71 n10
  have F76 := F66.wr W71
  have F77 := V_68.other W71 (Ne.symm ne14)
  have F78 := F67.wr W71
  have F_79 : Fld Z h71 a0 "com/example/penstock/penstock/Design" "intIndices" "[I" .null := F63.same W71
  have K_80 : Keep h0 h71 [a0] := K_69.wr W71 (Or.inl (List.mem_of_getElem? (i := 0) rfl))
  obtain ⟨_, _, ⟨T81, L81, k81, n81⟩, -, X81, ⟨Lc81, hQ81, l81, y81, z81⟩, st81⟩ := Jvm.LawKit.callS X71 hx (y := (⟨"java/util/Arrays", "hashCode", "([I)I"⟩ : MethodName)) hown (mvT hZ (hw _ (List.mem_of_getElem? (i := 15) rfl))) (mvT hZ (hw _ (List.mem_of_getElem? (i := 16) rfl))) (mvT hZ (hw _ (List.mem_of_getElem? (i := 17) rfl))) (mvT hZ (hw _ (List.mem_of_getElem? (i := 18) rfl))) (by decide) (backOf (W := 1) (own_rm3_3 l Z av hw [] a1 k_a1 x0 x1 x2 h71 n0 Z71 F75 F76) hZ (hw _ (List.mem_of_getElem? (i := 18) rfl)) (hw _ (List.mem_of_getElem? (i := 17) rfl)) (by decide) (by decide)) (g := (mkF m 117 #[oa a0, oa a1, oi (1 : Int32), oi (3 : Int32), oi (3 : Int32), oi (3 : Int32), oi x2] [(.ref a1), (.ref a0)])) rfl (by rw [hml]; rfl) (argsL := [(.ref a1)]) (rest := [(.ref a0)]) (lenOf own_pd0 rfl) rfl (by show 2 * 0 + _ ≤ _; exact Nat.le_of_eq rfl) (hb hby own_d1_117) (fun _ _ => ⟨rfl, e71, (by decide : 1 + 0 ≤ _), (by decide : 3 + 0 ≤ _)⟩)
  dsimp only [Pt.U, Pt.locs, Pt.cells, Pt.slots] at X81 l81 y81 z81 st81 hQ81
  have yq81 : k81 = 1 := y81
  have zq81 : n81 = 3 := z81
  subst yq81 zq81
  obtain ⟨rfl, Nq81, eq81⟩ := hQ81
  have N81 : Fr n0 L81 := by rw [l81]; exact Fr.app N71 Nq81
  obtain ⟨T82, h82, X82, e82, W82, st82⟩ := putF X81 hx hZ hown (host := "") (Or.inl (hw _ (List.mem_of_getElem? (i := 19) rfl))) Via.refl eq81 F74 F72 (Or.inr ⟨(hw _ (List.mem_of_getElem? (i := 20) rfl)), rfl, hnm⟩) (hw _ (List.mem_of_getElem? (i := 2) rfl)) (ty := .int) (by decide) rfl rfl (g := (mkF m 120 #[oa a0, oa a1, oi (1 : Int32), oi (3 : Int32), oi (3 : Int32), oi (3 : Int32), oi x2] [(.int (own_f3_3 x0 x1 x2)), (.ref a0)])) rfl rfl (hb hby own_d1_120)
  obtain ⟨Lo82, X82, N82⟩ := oOpq X82 (Fr.snoc X82 N81 g_a0)
  have Z82 : n0 ≤ h82.size := Nat.le_trans Z71 (Keep.of_wr W82).1
  have F83 := F72.wr W82
  have F84 := F73.other W82 (Or.inr (slot_ne (Or.inr (hw _ (List.mem_of_getElem? (i := 12) rfl))) (Or.inr (hw _ (List.mem_of_getElem? (i := 20) rfl))) (by decide) (t := (.array .byte)) (t' := .int) (by decide) (by decide)))
  have F85 := F_79.other W82 (Or.inr (slot_ne (Or.inr (hw _ (List.mem_of_getElem? (i := 14) rfl))) (Or.inr (hw _ (List.mem_of_getElem? (i := 20) rfl))) (by decide) (t := (.array .int)) (t' := .int) (by decide) (by decide)))
  have F86 := F75.other W82 n10
  have F87 := F76.wr W82
  have F88 := F77.other W82 (Ne.symm ne14)
  have F89 := F78.wr W82
  have F_90 : Fld Z h82 a0 "com/example/penstock/penstock/Design" "hash" "I" (.int (own_f3_3 x0 x1 x2)) := F74.same W82
  have K_91 : Keep h0 h82 [a0] := K_80.wr W82 (Or.inl (List.mem_of_getElem? (i := 0) rfl))
  obtain ⟨fs, hr, hrun, hended, hW, hsame⟩ := X82.leave (v := none) (fun _ => rfl)
  refine ⟨_, _, pre0 _ ?_, hrun, hended, _, _, rfl, ?_, ⟨_, rfl⟩, hW, hsame.mono (by decide) (by decide)⟩
  · show oS p e below s₁ m 0 #[oa a0, oa a1, .unset, .unset, .unset, .unset, .unset] [] _
    refine XS.aloadN X0.here hx rfl (hb hby own_d1_0) rfl rfl ?_
    show oS p e below s₁ m 1 #[oa a0, oa a1, .unset, .unset, .unset, .unset, .unset] [(.ref a0)] _
    refine st1 _ ?_
    show oS p e below T1 m 4 #[oa a0, oa a1, .unset, .unset, .unset, .unset, .unset] [] _
    refine XS.iconst X1.here hx rfl (hb hby own_d1_4) ?_
    show oS p e below T1 m 5 #[oa a0, oa a1, .unset, .unset, .unset, .unset, .unset] [(.int (1 : Int32))] _
    refine XS.istoreN X1.here hx rfl (hb hby own_d1_5) rfl (l' := #[oa a0, oa a1, oi (1 : Int32), .unset, .unset, .unset, .unset]) rfl ?_
    show oS p e below T1 m 6 #[oa a0, oa a1, oi (1 : Int32), .unset, .unset, .unset, .unset] [] _
    refine XS.aloadN X1.here hx rfl (hb hby own_d1_6) rfl rfl ?_
    show oS p e below T1 m 7 #[oa a0, oa a1, oi (1 : Int32), .unset, .unset, .unset, .unset] [(.ref a1)] _
    refine XS.astoreN X1.here hx rfl (hb hby own_d1_7) rfl rfl (l' := #[oa a0, oa a1, oi (1 : Int32), oa a1, .unset, .unset, .unset]) rfl ?_
    show oS p e below T1 m 8 #[oa a0, oa a1, oi (1 : Int32), oa a1, .unset, .unset, .unset] [] _
    refine XS.aloadN X1.here hx rfl (hb hby own_d1_8) rfl rfl ?_
    show oS p e below T1 m 9 #[oa a0, oa a1, oi (1 : Int32), oa a1, .unset, .unset, .unset] [(.ref a1)] _
    refine oLen X1 hx hZ e1 V_a1 (hb hby own_d1_9) ?_
    show oS p e below T1 m 10 #[oa a0, oa a1, oi (1 : Int32), oa a1, .unset, .unset, .unset] [(.int (3 : Int32))] _
    refine XS.istore X1.here hx rfl (hb hby own_d1_10) rfl (l' := #[oa a0, oa a1, oi (1 : Int32), oa a1, oi (3 : Int32), .unset, .unset]) rfl ?_
    show oS p e below T1 m 12 #[oa a0, oa a1, oi (1 : Int32), oa a1, oi (3 : Int32), .unset, .unset] [] _
    refine XS.iconst X1.here hx rfl (hb hby own_d1_12) ?_
    show oS p e below T1 m 13 #[oa a0, oa a1, oi (1 : Int32), oa a1, oi (3 : Int32), .unset, .unset] [(.int (0 : Int32))] _
    refine XS.istore X1.here hx rfl (hb hby own_d1_13) rfl (l' := #[oa a0, oa a1, oi (1 : Int32), oa a1, oi (3 : Int32), oi (0 : Int32), .unset]) rfl ?_
    show oS p e below T1 m 15 #[oa a0, oa a1, oi (1 : Int32), oa a1, oi (3 : Int32), oi (0 : Int32), .unset] [] _
    refine XS.iload X1.here hx rfl (hb hby own_d1_15) rfl ?_
    show oS p e below T1 m 17 #[oa a0, oa a1, oi (1 : Int32), oa a1, oi (3 : Int32), oi (0 : Int32), .unset] [(.int (0 : Int32))] _
    refine XS.iload X1.here hx rfl (hb hby own_d1_17) rfl ?_
    show oS p e below T1 m 19 #[oa a0, oa a1, oi (1 : Int32), oa a1, oi (3 : Int32), oi (0 : Int32), .unset] [(.int (3 : Int32)), (.int (0 : Int32))] _
    refine XS.icmpNo X1.here hx rfl (hb hby own_d1_19) rfl (tlt b2).2.1 ?_
    show oS p e below T1 m 22 #[oa a0, oa a1, oi (1 : Int32), oa a1, oi (3 : Int32), oi (0 : Int32), .unset] [] _
    refine XS.aloadN X1.here hx rfl (hb hby own_d1_22) rfl rfl ?_
    show oS p e below T1 m 23 #[oa a0, oa a1, oi (1 : Int32), oa a1, oi (3 : Int32), oi (0 : Int32), .unset] [(.ref a1)] _
    refine XS.iload X1.here hx rfl (hb hby own_d1_23) rfl ?_
    show oS p e below T1 m 25 #[oa a0, oa a1, oi (1 : Int32), oa a1, oi (3 : Int32), oi (0 : Int32), .unset] [(.int (0 : Int32)), (.ref a1)] _
    refine oLdI X1 hx hZ e1 V_a1 (v := (.int x0)) ⟨by decide, by decide⟩ rfl (hb hby own_d1_25) ?_
    show oS p e below T1 m 26 #[oa a0, oa a1, oi (1 : Int32), oa a1, oi (3 : Int32), oi (0 : Int32), .unset] [(.int x0)] _
    refine XS.istore X1.here hx rfl (hb hby own_d1_26) rfl (l' := #[oa a0, oa a1, oi (1 : Int32), oa a1, oi (3 : Int32), oi (0 : Int32), oi x0]) rfl ?_
    show oS p e below T1 m 28 #[oa a0, oa a1, oi (1 : Int32), oa a1, oi (3 : Int32), oi (0 : Int32), oi x0] [] _
    refine XS.iloadN X1.here hx rfl (hb hby own_d1_28) rfl ?_
    show oS p e below T1 m 29 #[oa a0, oa a1, oi (1 : Int32), oa a1, oi (3 : Int32), oi (0 : Int32), oi x0] [(.int (1 : Int32))] _
    refine XS.iload X1.here hx rfl (hb hby own_d1_29) rfl ?_
    show oS p e below T1 m 31 #[oa a0, oa a1, oi (1 : Int32), oa a1, oi (3 : Int32), oi (0 : Int32), oi x0] [(.int x0), (.int (1 : Int32))] _
    refine XS.ifNo X1.here hx rfl (hb hby own_d1_31) rfl ((if0 _ _).trans (flt b3).1) ?_
    show oS p e below T1 m 34 #[oa a0, oa a1, oi (1 : Int32), oa a1, oi (3 : Int32), oi (0 : Int32), oi x0] [(.int (1 : Int32))] _
    refine XS.iload X1.here hx rfl (hb hby own_d1_34) rfl ?_
    show oS p e below T1 m 36 #[oa a0, oa a1, oi (1 : Int32), oa a1, oi (3 : Int32), oi (0 : Int32), oi x0] [(.int x0), (.int (1 : Int32))] _
    refine XS.sipush X1.here hx rfl (hb hby own_d1_36) ?_
    show oS p e below T1 m 39 #[oa a0, oa a1, oi (1 : Int32), oa a1, oi (3 : Int32), oi (0 : Int32), oi x0] [(.int (255 : Int32)), (.int x0), (.int (1 : Int32))] _
    refine XS.icmpNo X1.here hx rfl (hb hby own_d1_39) rfl (flt b4).2.2.1 ?_
    show oS p e below T1 m 42 #[oa a0, oa a1, oi (1 : Int32), oa a1, oi (3 : Int32), oi (0 : Int32), oi x0] [(.int (1 : Int32))] _
    refine XS.iconst X1.here hx rfl (hb hby own_d1_42) ?_
    show oS p e below T1 m 43 #[oa a0, oa a1, oi (1 : Int32), oa a1, oi (3 : Int32), oi (0 : Int32), oi x0] [(.int (1 : Int32)), (.int (1 : Int32))] _
    refine XS.goto X1.here hx rfl (pc0 := 43) (pc' := 47) rfl (hb hby own_d1_43) (by decide) (by decide) ?_
    show oS p e below T1 m 47 #[oa a0, oa a1, oi (1 : Int32), oa a1, oi (3 : Int32), oi (0 : Int32), oi x0] [(.int (1 : Int32)), (.int (1 : Int32))] _
    refine XS.iand X1.here hx rfl (hb hby own_d1_47) rfl ?_
    show oS p e below T1 m 48 #[oa a0, oa a1, oi (1 : Int32), oa a1, oi (3 : Int32), oi (0 : Int32), oi x0] [(.int (1 : Int32))] _
    refine XS.istoreN X1.here hx rfl (hb hby own_d1_48) rfl (l' := #[oa a0, oa a1, oi (1 : Int32), oa a1, oi (3 : Int32), oi (0 : Int32), oi x0]) rfl ?_
    show oS p e below T1 m 49 #[oa a0, oa a1, oi (1 : Int32), oa a1, oi (3 : Int32), oi (0 : Int32), oi x0] [] _
    refine XS.iinc X1.here hx rfl (hb hby own_d1_49) rfl (l' := #[oa a0, oa a1, oi (1 : Int32), oa a1, oi (3 : Int32), oi (1 : Int32), oi x0]) rfl ?_
    show oS p e below T1 m 52 #[oa a0, oa a1, oi (1 : Int32), oa a1, oi (3 : Int32), oi (1 : Int32), oi x0] [] _
    refine XS.goto X1.here hx rfl (pc0 := 52) (pc' := 15) rfl (hb hby own_d1_52) (by decide) (by decide) ?_
    show oS p e below T1 m 15 #[oa a0, oa a1, oi (1 : Int32), oa a1, oi (3 : Int32), oi (1 : Int32), oi x0] [] _
    refine XS.iload X1.here hx rfl (hb hby own_d1_15) rfl ?_
    show oS p e below T1 m 17 #[oa a0, oa a1, oi (1 : Int32), oa a1, oi (3 : Int32), oi (1 : Int32), oi x0] [(.int (1 : Int32))] _
    refine XS.iload X1.here hx rfl (hb hby own_d1_17) rfl ?_
    show oS p e below T1 m 19 #[oa a0, oa a1, oi (1 : Int32), oa a1, oi (3 : Int32), oi (1 : Int32), oi x0] [(.int (3 : Int32)), (.int (1 : Int32))] _
    refine XS.icmpNo X1.here hx rfl (hb hby own_d1_19) rfl (tlt b5).2.1 ?_
    show oS p e below T1 m 22 #[oa a0, oa a1, oi (1 : Int32), oa a1, oi (3 : Int32), oi (1 : Int32), oi x0] [] _
    refine XS.aloadN X1.here hx rfl (hb hby own_d1_22) rfl rfl ?_
    show oS p e below T1 m 23 #[oa a0, oa a1, oi (1 : Int32), oa a1, oi (3 : Int32), oi (1 : Int32), oi x0] [(.ref a1)] _
    refine XS.iload X1.here hx rfl (hb hby own_d1_23) rfl ?_
    show oS p e below T1 m 25 #[oa a0, oa a1, oi (1 : Int32), oa a1, oi (3 : Int32), oi (1 : Int32), oi x0] [(.int (1 : Int32)), (.ref a1)] _
    refine oLdI X1 hx hZ e1 V_a1 (v := (.int x1)) ⟨by decide, by decide⟩ rfl (hb hby own_d1_25) ?_
    show oS p e below T1 m 26 #[oa a0, oa a1, oi (1 : Int32), oa a1, oi (3 : Int32), oi (1 : Int32), oi x0] [(.int x1)] _
    refine XS.istore X1.here hx rfl (hb hby own_d1_26) rfl (l' := #[oa a0, oa a1, oi (1 : Int32), oa a1, oi (3 : Int32), oi (1 : Int32), oi x1]) rfl ?_
    show oS p e below T1 m 28 #[oa a0, oa a1, oi (1 : Int32), oa a1, oi (3 : Int32), oi (1 : Int32), oi x1] [] _
    refine XS.iloadN X1.here hx rfl (hb hby own_d1_28) rfl ?_
    show oS p e below T1 m 29 #[oa a0, oa a1, oi (1 : Int32), oa a1, oi (3 : Int32), oi (1 : Int32), oi x1] [(.int (1 : Int32))] _
    refine XS.iload X1.here hx rfl (hb hby own_d1_29) rfl ?_
    show oS p e below T1 m 31 #[oa a0, oa a1, oi (1 : Int32), oa a1, oi (3 : Int32), oi (1 : Int32), oi x1] [(.int x1), (.int (1 : Int32))] _
    refine XS.ifNo X1.here hx rfl (hb hby own_d1_31) rfl ((if0 _ _).trans (flt b6).1) ?_
    show oS p e below T1 m 34 #[oa a0, oa a1, oi (1 : Int32), oa a1, oi (3 : Int32), oi (1 : Int32), oi x1] [(.int (1 : Int32))] _
    refine XS.iload X1.here hx rfl (hb hby own_d1_34) rfl ?_
    show oS p e below T1 m 36 #[oa a0, oa a1, oi (1 : Int32), oa a1, oi (3 : Int32), oi (1 : Int32), oi x1] [(.int x1), (.int (1 : Int32))] _
    refine XS.sipush X1.here hx rfl (hb hby own_d1_36) ?_
    show oS p e below T1 m 39 #[oa a0, oa a1, oi (1 : Int32), oa a1, oi (3 : Int32), oi (1 : Int32), oi x1] [(.int (255 : Int32)), (.int x1), (.int (1 : Int32))] _
    refine XS.icmpNo X1.here hx rfl (hb hby own_d1_39) rfl (flt b7).2.2.1 ?_
    show oS p e below T1 m 42 #[oa a0, oa a1, oi (1 : Int32), oa a1, oi (3 : Int32), oi (1 : Int32), oi x1] [(.int (1 : Int32))] _
    refine XS.iconst X1.here hx rfl (hb hby own_d1_42) ?_
    show oS p e below T1 m 43 #[oa a0, oa a1, oi (1 : Int32), oa a1, oi (3 : Int32), oi (1 : Int32), oi x1] [(.int (1 : Int32)), (.int (1 : Int32))] _
    refine XS.goto X1.here hx rfl (pc0 := 43) (pc' := 47) rfl (hb hby own_d1_43) (by decide) (by decide) ?_
    show oS p e below T1 m 47 #[oa a0, oa a1, oi (1 : Int32), oa a1, oi (3 : Int32), oi (1 : Int32), oi x1] [(.int (1 : Int32)), (.int (1 : Int32))] _
    refine XS.iand X1.here hx rfl (hb hby own_d1_47) rfl ?_
    show oS p e below T1 m 48 #[oa a0, oa a1, oi (1 : Int32), oa a1, oi (3 : Int32), oi (1 : Int32), oi x1] [(.int (1 : Int32))] _
    refine XS.istoreN X1.here hx rfl (hb hby own_d1_48) rfl (l' := #[oa a0, oa a1, oi (1 : Int32), oa a1, oi (3 : Int32), oi (1 : Int32), oi x1]) rfl ?_
    show oS p e below T1 m 49 #[oa a0, oa a1, oi (1 : Int32), oa a1, oi (3 : Int32), oi (1 : Int32), oi x1] [] _
    refine XS.iinc X1.here hx rfl (hb hby own_d1_49) rfl (l' := #[oa a0, oa a1, oi (1 : Int32), oa a1, oi (3 : Int32), oi (2 : Int32), oi x1]) rfl ?_
    show oS p e below T1 m 52 #[oa a0, oa a1, oi (1 : Int32), oa a1, oi (3 : Int32), oi (2 : Int32), oi x1] [] _
    refine XS.goto X1.here hx rfl (pc0 := 52) (pc' := 15) rfl (hb hby own_d1_52) (by decide) (by decide) ?_
    show oS p e below T1 m 15 #[oa a0, oa a1, oi (1 : Int32), oa a1, oi (3 : Int32), oi (2 : Int32), oi x1] [] _
    refine XS.iload X1.here hx rfl (hb hby own_d1_15) rfl ?_
    show oS p e below T1 m 17 #[oa a0, oa a1, oi (1 : Int32), oa a1, oi (3 : Int32), oi (2 : Int32), oi x1] [(.int (2 : Int32))] _
    refine XS.iload X1.here hx rfl (hb hby own_d1_17) rfl ?_
    show oS p e below T1 m 19 #[oa a0, oa a1, oi (1 : Int32), oa a1, oi (3 : Int32), oi (2 : Int32), oi x1] [(.int (3 : Int32)), (.int (2 : Int32))] _
    refine XS.icmpNo X1.here hx rfl (hb hby own_d1_19) rfl (tlt b8).2.1 ?_
    show oS p e below T1 m 22 #[oa a0, oa a1, oi (1 : Int32), oa a1, oi (3 : Int32), oi (2 : Int32), oi x1] [] _
    refine XS.aloadN X1.here hx rfl (hb hby own_d1_22) rfl rfl ?_
    show oS p e below T1 m 23 #[oa a0, oa a1, oi (1 : Int32), oa a1, oi (3 : Int32), oi (2 : Int32), oi x1] [(.ref a1)] _
    refine XS.iload X1.here hx rfl (hb hby own_d1_23) rfl ?_
    show oS p e below T1 m 25 #[oa a0, oa a1, oi (1 : Int32), oa a1, oi (3 : Int32), oi (2 : Int32), oi x1] [(.int (2 : Int32)), (.ref a1)] _
    refine oLdI X1 hx hZ e1 V_a1 (v := (.int x2)) ⟨by decide, by decide⟩ rfl (hb hby own_d1_25) ?_
    show oS p e below T1 m 26 #[oa a0, oa a1, oi (1 : Int32), oa a1, oi (3 : Int32), oi (2 : Int32), oi x1] [(.int x2)] _
    refine XS.istore X1.here hx rfl (hb hby own_d1_26) rfl (l' := #[oa a0, oa a1, oi (1 : Int32), oa a1, oi (3 : Int32), oi (2 : Int32), oi x2]) rfl ?_
    show oS p e below T1 m 28 #[oa a0, oa a1, oi (1 : Int32), oa a1, oi (3 : Int32), oi (2 : Int32), oi x2] [] _
    refine XS.iloadN X1.here hx rfl (hb hby own_d1_28) rfl ?_
    show oS p e below T1 m 29 #[oa a0, oa a1, oi (1 : Int32), oa a1, oi (3 : Int32), oi (2 : Int32), oi x2] [(.int (1 : Int32))] _
    refine XS.iload X1.here hx rfl (hb hby own_d1_29) rfl ?_
    show oS p e below T1 m 31 #[oa a0, oa a1, oi (1 : Int32), oa a1, oi (3 : Int32), oi (2 : Int32), oi x2] [(.int x2), (.int (1 : Int32))] _
    refine XS.ifNo X1.here hx rfl (hb hby own_d1_31) rfl ((if0 _ _).trans (flt b9).1) ?_
    show oS p e below T1 m 34 #[oa a0, oa a1, oi (1 : Int32), oa a1, oi (3 : Int32), oi (2 : Int32), oi x2] [(.int (1 : Int32))] _
    refine XS.iload X1.here hx rfl (hb hby own_d1_34) rfl ?_
    show oS p e below T1 m 36 #[oa a0, oa a1, oi (1 : Int32), oa a1, oi (3 : Int32), oi (2 : Int32), oi x2] [(.int x2), (.int (1 : Int32))] _
    refine XS.sipush X1.here hx rfl (hb hby own_d1_36) ?_
    show oS p e below T1 m 39 #[oa a0, oa a1, oi (1 : Int32), oa a1, oi (3 : Int32), oi (2 : Int32), oi x2] [(.int (255 : Int32)), (.int x2), (.int (1 : Int32))] _
    refine XS.icmpNo X1.here hx rfl (hb hby own_d1_39) rfl (flt b10).2.2.1 ?_
    show oS p e below T1 m 42 #[oa a0, oa a1, oi (1 : Int32), oa a1, oi (3 : Int32), oi (2 : Int32), oi x2] [(.int (1 : Int32))] _
    refine XS.iconst X1.here hx rfl (hb hby own_d1_42) ?_
    show oS p e below T1 m 43 #[oa a0, oa a1, oi (1 : Int32), oa a1, oi (3 : Int32), oi (2 : Int32), oi x2] [(.int (1 : Int32)), (.int (1 : Int32))] _
    refine XS.goto X1.here hx rfl (pc0 := 43) (pc' := 47) rfl (hb hby own_d1_43) (by decide) (by decide) ?_
    show oS p e below T1 m 47 #[oa a0, oa a1, oi (1 : Int32), oa a1, oi (3 : Int32), oi (2 : Int32), oi x2] [(.int (1 : Int32)), (.int (1 : Int32))] _
    refine XS.iand X1.here hx rfl (hb hby own_d1_47) rfl ?_
    show oS p e below T1 m 48 #[oa a0, oa a1, oi (1 : Int32), oa a1, oi (3 : Int32), oi (2 : Int32), oi x2] [(.int (1 : Int32))] _
    refine XS.istoreN X1.here hx rfl (hb hby own_d1_48) rfl (l' := #[oa a0, oa a1, oi (1 : Int32), oa a1, oi (3 : Int32), oi (2 : Int32), oi x2]) rfl ?_
    show oS p e below T1 m 49 #[oa a0, oa a1, oi (1 : Int32), oa a1, oi (3 : Int32), oi (2 : Int32), oi x2] [] _
    refine XS.iinc X1.here hx rfl (hb hby own_d1_49) rfl (l' := #[oa a0, oa a1, oi (1 : Int32), oa a1, oi (3 : Int32), oi (3 : Int32), oi x2]) rfl ?_
    show oS p e below T1 m 52 #[oa a0, oa a1, oi (1 : Int32), oa a1, oi (3 : Int32), oi (3 : Int32), oi x2] [] _
    refine XS.goto X1.here hx rfl (pc0 := 52) (pc' := 15) rfl (hb hby own_d1_52) (by decide) (by decide) ?_
    show oS p e below T1 m 15 #[oa a0, oa a1, oi (1 : Int32), oa a1, oi (3 : Int32), oi (3 : Int32), oi x2] [] _
    refine XS.iload X1.here hx rfl (hb hby own_d1_15) rfl ?_
    show oS p e below T1 m 17 #[oa a0, oa a1, oi (1 : Int32), oa a1, oi (3 : Int32), oi (3 : Int32), oi x2] [(.int (3 : Int32))] _
    refine XS.iload X1.here hx rfl (hb hby own_d1_17) rfl ?_
    show oS p e below T1 m 19 #[oa a0, oa a1, oi (1 : Int32), oa a1, oi (3 : Int32), oi (3 : Int32), oi x2] [(.int (3 : Int32)), (.int (3 : Int32))] _
    refine XS.icmpYes X1.here hx rfl (pc0 := 19) (pc' := 55) rfl (hb hby own_d1_19) rfl (flt b11).2.1 (by decide) (by decide) ?_
    show oS p e below T1 m 55 #[oa a0, oa a1, oi (1 : Int32), oa a1, oi (3 : Int32), oi (3 : Int32), oi x2] [] _
    refine XS.iloadN X1.here hx rfl (hb hby own_d1_55) rfl ?_
    show oS p e below T1 m 56 #[oa a0, oa a1, oi (1 : Int32), oa a1, oi (3 : Int32), oi (3 : Int32), oi x2] [(.int (1 : Int32))] _
    refine XS.ifNo X1.here hx rfl (hb hby own_d1_56) rfl ((if0 _ _).trans (feq b12).1) ?_
    show oS p e below T1 m 59 #[oa a0, oa a1, oi (1 : Int32), oa a1, oi (3 : Int32), oi (3 : Int32), oi x2] [] _
    refine XS.aloadN X1.here hx rfl (hb hby own_d1_59) rfl rfl ?_
    show oS p e below T1 m 60 #[oa a0, oa a1, oi (1 : Int32), oa a1, oi (3 : Int32), oi (3 : Int32), oi x2] [(.ref a0)] _
    refine XS.aloadN X1.here hx rfl (hb hby own_d1_60) rfl rfl ?_
    show oS p e below T1 m 61 #[oa a0, oa a1, oi (1 : Int32), oa a1, oi (3 : Int32), oi (3 : Int32), oi x2] [(.ref a1), (.ref a0)] _
    refine oLen X1 hx hZ e1 V_a1 (hb hby own_d1_61) ?_
    show oS p e below T1 m 62 #[oa a0, oa a1, oi (1 : Int32), oa a1, oi (3 : Int32), oi (3 : Int32), oi x2] [(.int (3 : Int32)), (.ref a0)] _
    refine st13 _ ?_
    show oS p e below T13 m 64 #[oa a0, oa a1, oi (1 : Int32), oa a1, oi (3 : Int32), oi (3 : Int32), oi x2] [(.ref b13), (.ref a0)] _
    refine st24 _ ?_
    show oS p e below T24 m 67 #[oa a0, oa a1, oi (1 : Int32), oa a1, oi (3 : Int32), oi (3 : Int32), oi x2] [] _
    refine XS.iconst X24.here hx rfl (hb hby own_d1_67) ?_
    show oS p e below T24 m 68 #[oa a0, oa a1, oi (1 : Int32), oa a1, oi (3 : Int32), oi (3 : Int32), oi x2] [(.int (0 : Int32))] _
    refine XS.istoreN X24.here hx rfl (hb hby own_d1_68) rfl (l' := #[oa a0, oa a1, oi (1 : Int32), oi (0 : Int32), oi (3 : Int32), oi (3 : Int32), oi x2]) rfl ?_
    show oS p e below T24 m 69 #[oa a0, oa a1, oi (1 : Int32), oi (0 : Int32), oi (3 : Int32), oi (3 : Int32), oi x2] [] _
    refine XS.iloadN X24.here hx rfl (hb hby own_d1_69) rfl ?_
    show oS p e below T24 m 70 #[oa a0, oa a1, oi (1 : Int32), oi (0 : Int32), oi (3 : Int32), oi (3 : Int32), oi x2] [(.int (0 : Int32))] _
    refine XS.aloadN X24.here hx rfl (hb hby own_d1_70) rfl rfl ?_
    show oS p e below T24 m 71 #[oa a0, oa a1, oi (1 : Int32), oi (0 : Int32), oi (3 : Int32), oi (3 : Int32), oi x2] [(.ref a1), (.int (0 : Int32))] _
    refine oLen X24 hx hZ e24 F28 (hb hby own_d1_71) ?_
    show oS p e below T24 m 72 #[oa a0, oa a1, oi (1 : Int32), oi (0 : Int32), oi (3 : Int32), oi (3 : Int32), oi x2] [(.int (3 : Int32)), (.int (0 : Int32))] _
    refine XS.icmpNo X24.here hx rfl (hb hby own_d1_72) rfl (tlt b34).2.1 ?_
    show oS p e below T24 m 75 #[oa a0, oa a1, oi (1 : Int32), oi (0 : Int32), oi (3 : Int32), oi (3 : Int32), oi x2] [] _
    refine XS.aloadN X24.here hx rfl (hb hby own_d1_75) rfl rfl ?_
    show oS p e below T24 m 76 #[oa a0, oa a1, oi (1 : Int32), oi (0 : Int32), oi (3 : Int32), oi (3 : Int32), oi x2] [(.ref a0)] _
    refine st35 _ ?_
    show oS p e below T35 m 79 #[oa a0, oa a1, oi (1 : Int32), oi (0 : Int32), oi (3 : Int32), oi (3 : Int32), oi x2] [(.ref b13)] _
    refine XS.iloadN X35.here hx rfl (hb hby own_d1_79) rfl ?_
    show oS p e below T35 m 80 #[oa a0, oa a1, oi (1 : Int32), oi (0 : Int32), oi (3 : Int32), oi (3 : Int32), oi x2] [(.int (0 : Int32)), (.ref b13)] _
    refine XS.aloadN X35.here hx rfl (hb hby own_d1_80) rfl rfl ?_
    show oS p e below T35 m 81 #[oa a0, oa a1, oi (1 : Int32), oi (0 : Int32), oi (3 : Int32), oi (3 : Int32), oi x2] [(.ref a1), (.int (0 : Int32)), (.ref b13)] _
    refine XS.iloadN X35.here hx rfl (hb hby own_d1_81) rfl ?_
    show oS p e below T35 m 82 #[oa a0, oa a1, oi (1 : Int32), oi (0 : Int32), oi (3 : Int32), oi (3 : Int32), oi x2] [(.int (0 : Int32)), (.ref a1), (.int (0 : Int32)), (.ref b13)] _
    refine oLdI X35 hx hZ e35 F28 (v := (.int x0)) ⟨by decide, by decide⟩ rfl (hb hby own_d1_82) ?_
    show oS p e below T35 m 83 #[oa a0, oa a1, oi (1 : Int32), oi (0 : Int32), oi (3 : Int32), oi (3 : Int32), oi x2] [(.int x0), (.int (0 : Int32)), (.ref b13)] _
    refine XS.i2b X35.here hx rfl (hb hby own_d1_83) rfl ?_
    show oS p e below T35 m 84 #[oa a0, oa a1, oi (1 : Int32), oi (0 : Int32), oi (3 : Int32), oi (3 : Int32), oi x2] [(.int (x0.toInt8.toInt32)), (.int (0 : Int32)), (.ref b13)] _
    refine st36 _ ?_
    show oS p e below T36 m 85 #[oa a0, oa a1, oi (1 : Int32), oi (0 : Int32), oi (3 : Int32), oi (3 : Int32), oi x2] [] _
    refine XS.iinc X36.here hx rfl (hb hby own_d1_85) rfl (l' := #[oa a0, oa a1, oi (1 : Int32), oi (1 : Int32), oi (3 : Int32), oi (3 : Int32), oi x2]) rfl ?_
    show oS p e below T36 m 88 #[oa a0, oa a1, oi (1 : Int32), oi (1 : Int32), oi (3 : Int32), oi (3 : Int32), oi x2] [] _
    refine XS.goto X36.here hx rfl (pc0 := 88) (pc' := 69) rfl (hb hby own_d1_88) (by decide) (by decide) ?_
    show oS p e below T36 m 69 #[oa a0, oa a1, oi (1 : Int32), oi (1 : Int32), oi (3 : Int32), oi (3 : Int32), oi x2] [] _
    refine XS.iloadN X36.here hx rfl (hb hby own_d1_69) rfl ?_
    show oS p e below T36 m 70 #[oa a0, oa a1, oi (1 : Int32), oi (1 : Int32), oi (3 : Int32), oi (3 : Int32), oi x2] [(.int (1 : Int32))] _
    refine XS.aloadN X36.here hx rfl (hb hby own_d1_70) rfl rfl ?_
    show oS p e below T36 m 71 #[oa a0, oa a1, oi (1 : Int32), oi (1 : Int32), oi (3 : Int32), oi (3 : Int32), oi x2] [(.ref a1), (.int (1 : Int32))] _
    refine oLen X36 hx hZ e36 F41 (hb hby own_d1_71) ?_
    show oS p e below T36 m 72 #[oa a0, oa a1, oi (1 : Int32), oi (1 : Int32), oi (3 : Int32), oi (3 : Int32), oi x2] [(.int (3 : Int32)), (.int (1 : Int32))] _
    refine XS.icmpNo X36.here hx rfl (hb hby own_d1_72) rfl (tlt b46).2.1 ?_
    show oS p e below T36 m 75 #[oa a0, oa a1, oi (1 : Int32), oi (1 : Int32), oi (3 : Int32), oi (3 : Int32), oi x2] [] _
    refine XS.aloadN X36.here hx rfl (hb hby own_d1_75) rfl rfl ?_
    show oS p e below T36 m 76 #[oa a0, oa a1, oi (1 : Int32), oi (1 : Int32), oi (3 : Int32), oi (3 : Int32), oi x2] [(.ref a0)] _
    refine st47 _ ?_
    show oS p e below T47 m 79 #[oa a0, oa a1, oi (1 : Int32), oi (1 : Int32), oi (3 : Int32), oi (3 : Int32), oi x2] [(.ref b13)] _
    refine XS.iloadN X47.here hx rfl (hb hby own_d1_79) rfl ?_
    show oS p e below T47 m 80 #[oa a0, oa a1, oi (1 : Int32), oi (1 : Int32), oi (3 : Int32), oi (3 : Int32), oi x2] [(.int (1 : Int32)), (.ref b13)] _
    refine XS.aloadN X47.here hx rfl (hb hby own_d1_80) rfl rfl ?_
    show oS p e below T47 m 81 #[oa a0, oa a1, oi (1 : Int32), oi (1 : Int32), oi (3 : Int32), oi (3 : Int32), oi x2] [(.ref a1), (.int (1 : Int32)), (.ref b13)] _
    refine XS.iloadN X47.here hx rfl (hb hby own_d1_81) rfl ?_
    show oS p e below T47 m 82 #[oa a0, oa a1, oi (1 : Int32), oi (1 : Int32), oi (3 : Int32), oi (3 : Int32), oi x2] [(.int (1 : Int32)), (.ref a1), (.int (1 : Int32)), (.ref b13)] _
    refine oLdI X47 hx hZ e47 F41 (v := (.int x1)) ⟨by decide, by decide⟩ rfl (hb hby own_d1_82) ?_
    show oS p e below T47 m 83 #[oa a0, oa a1, oi (1 : Int32), oi (1 : Int32), oi (3 : Int32), oi (3 : Int32), oi x2] [(.int x1), (.int (1 : Int32)), (.ref b13)] _
    refine XS.i2b X47.here hx rfl (hb hby own_d1_83) rfl ?_
    show oS p e below T47 m 84 #[oa a0, oa a1, oi (1 : Int32), oi (1 : Int32), oi (3 : Int32), oi (3 : Int32), oi x2] [(.int (x1.toInt8.toInt32)), (.int (1 : Int32)), (.ref b13)] _
    refine st48 _ ?_
    show oS p e below T48 m 85 #[oa a0, oa a1, oi (1 : Int32), oi (1 : Int32), oi (3 : Int32), oi (3 : Int32), oi x2] [] _
    refine XS.iinc X48.here hx rfl (hb hby own_d1_85) rfl (l' := #[oa a0, oa a1, oi (1 : Int32), oi (2 : Int32), oi (3 : Int32), oi (3 : Int32), oi x2]) rfl ?_
    show oS p e below T48 m 88 #[oa a0, oa a1, oi (1 : Int32), oi (2 : Int32), oi (3 : Int32), oi (3 : Int32), oi x2] [] _
    refine XS.goto X48.here hx rfl (pc0 := 88) (pc' := 69) rfl (hb hby own_d1_88) (by decide) (by decide) ?_
    show oS p e below T48 m 69 #[oa a0, oa a1, oi (1 : Int32), oi (2 : Int32), oi (3 : Int32), oi (3 : Int32), oi x2] [] _
    refine XS.iloadN X48.here hx rfl (hb hby own_d1_69) rfl ?_
    show oS p e below T48 m 70 #[oa a0, oa a1, oi (1 : Int32), oi (2 : Int32), oi (3 : Int32), oi (3 : Int32), oi x2] [(.int (2 : Int32))] _
    refine XS.aloadN X48.here hx rfl (hb hby own_d1_70) rfl rfl ?_
    show oS p e below T48 m 71 #[oa a0, oa a1, oi (1 : Int32), oi (2 : Int32), oi (3 : Int32), oi (3 : Int32), oi x2] [(.ref a1), (.int (2 : Int32))] _
    refine oLen X48 hx hZ e48 F53 (hb hby own_d1_71) ?_
    show oS p e below T48 m 72 #[oa a0, oa a1, oi (1 : Int32), oi (2 : Int32), oi (3 : Int32), oi (3 : Int32), oi x2] [(.int (3 : Int32)), (.int (2 : Int32))] _
    refine XS.icmpNo X48.here hx rfl (hb hby own_d1_72) rfl (tlt b58).2.1 ?_
    show oS p e below T48 m 75 #[oa a0, oa a1, oi (1 : Int32), oi (2 : Int32), oi (3 : Int32), oi (3 : Int32), oi x2] [] _
    refine XS.aloadN X48.here hx rfl (hb hby own_d1_75) rfl rfl ?_
    show oS p e below T48 m 76 #[oa a0, oa a1, oi (1 : Int32), oi (2 : Int32), oi (3 : Int32), oi (3 : Int32), oi x2] [(.ref a0)] _
    refine st59 _ ?_
    show oS p e below T59 m 79 #[oa a0, oa a1, oi (1 : Int32), oi (2 : Int32), oi (3 : Int32), oi (3 : Int32), oi x2] [(.ref b13)] _
    refine XS.iloadN X59.here hx rfl (hb hby own_d1_79) rfl ?_
    show oS p e below T59 m 80 #[oa a0, oa a1, oi (1 : Int32), oi (2 : Int32), oi (3 : Int32), oi (3 : Int32), oi x2] [(.int (2 : Int32)), (.ref b13)] _
    refine XS.aloadN X59.here hx rfl (hb hby own_d1_80) rfl rfl ?_
    show oS p e below T59 m 81 #[oa a0, oa a1, oi (1 : Int32), oi (2 : Int32), oi (3 : Int32), oi (3 : Int32), oi x2] [(.ref a1), (.int (2 : Int32)), (.ref b13)] _
    refine XS.iloadN X59.here hx rfl (hb hby own_d1_81) rfl ?_
    show oS p e below T59 m 82 #[oa a0, oa a1, oi (1 : Int32), oi (2 : Int32), oi (3 : Int32), oi (3 : Int32), oi x2] [(.int (2 : Int32)), (.ref a1), (.int (2 : Int32)), (.ref b13)] _
    refine oLdI X59 hx hZ e59 F53 (v := (.int x2)) ⟨by decide, by decide⟩ rfl (hb hby own_d1_82) ?_
    show oS p e below T59 m 83 #[oa a0, oa a1, oi (1 : Int32), oi (2 : Int32), oi (3 : Int32), oi (3 : Int32), oi x2] [(.int x2), (.int (2 : Int32)), (.ref b13)] _
    refine XS.i2b X59.here hx rfl (hb hby own_d1_83) rfl ?_
    show oS p e below T59 m 84 #[oa a0, oa a1, oi (1 : Int32), oi (2 : Int32), oi (3 : Int32), oi (3 : Int32), oi x2] [(.int (x2.toInt8.toInt32)), (.int (2 : Int32)), (.ref b13)] _
    refine st60 _ ?_
    show oS p e below T60 m 85 #[oa a0, oa a1, oi (1 : Int32), oi (2 : Int32), oi (3 : Int32), oi (3 : Int32), oi x2] [] _
    refine XS.iinc X60.here hx rfl (hb hby own_d1_85) rfl (l' := #[oa a0, oa a1, oi (1 : Int32), oi (3 : Int32), oi (3 : Int32), oi (3 : Int32), oi x2]) rfl ?_
    show oS p e below T60 m 88 #[oa a0, oa a1, oi (1 : Int32), oi (3 : Int32), oi (3 : Int32), oi (3 : Int32), oi x2] [] _
    refine XS.goto X60.here hx rfl (pc0 := 88) (pc' := 69) rfl (hb hby own_d1_88) (by decide) (by decide) ?_
    show oS p e below T60 m 69 #[oa a0, oa a1, oi (1 : Int32), oi (3 : Int32), oi (3 : Int32), oi (3 : Int32), oi x2] [] _
    refine XS.iloadN X60.here hx rfl (hb hby own_d1_69) rfl ?_
    show oS p e below T60 m 70 #[oa a0, oa a1, oi (1 : Int32), oi (3 : Int32), oi (3 : Int32), oi (3 : Int32), oi x2] [(.int (3 : Int32))] _
    refine XS.aloadN X60.here hx rfl (hb hby own_d1_70) rfl rfl ?_
    show oS p e below T60 m 71 #[oa a0, oa a1, oi (1 : Int32), oi (3 : Int32), oi (3 : Int32), oi (3 : Int32), oi x2] [(.ref a1), (.int (3 : Int32))] _
    refine oLen X60 hx hZ e60 F65 (hb hby own_d1_71) ?_
    show oS p e below T60 m 72 #[oa a0, oa a1, oi (1 : Int32), oi (3 : Int32), oi (3 : Int32), oi (3 : Int32), oi x2] [(.int (3 : Int32)), (.int (3 : Int32))] _
    refine XS.icmpYes X60.here hx rfl (pc0 := 72) (pc' := 91) rfl (hb hby own_d1_72) rfl (flt b70).2.1 (by decide) (by decide) ?_
    show oS p e below T60 m 91 #[oa a0, oa a1, oi (1 : Int32), oi (3 : Int32), oi (3 : Int32), oi (3 : Int32), oi x2] [] _
    refine XS.aloadN X60.here hx rfl (hb hby own_d1_91) rfl rfl ?_
    show oS p e below T60 m 92 #[oa a0, oa a1, oi (1 : Int32), oi (3 : Int32), oi (3 : Int32), oi (3 : Int32), oi x2] [(.ref a0)] _
    refine XS.aconstNull X60.here hx rfl (hb hby own_d1_92) ?_
    show oS p e below T60 m 93 #[oa a0, oa a1, oi (1 : Int32), oi (3 : Int32), oi (3 : Int32), oi (3 : Int32), oi x2] [.null, (.ref a0)] _
    refine st71 _ ?_
    show oS p e below T71 m 96 #[oa a0, oa a1, oi (1 : Int32), oi (3 : Int32), oi (3 : Int32), oi (3 : Int32), oi x2] [] _
    refine XS.goto X71.here hx rfl (pc0 := 96) (pc' := 115) rfl (hb hby own_d1_96) (by decide) (by decide) ?_
    show oS p e below T71 m 115 #[oa a0, oa a1, oi (1 : Int32), oi (3 : Int32), oi (3 : Int32), oi (3 : Int32), oi x2] [] _
    refine XS.aloadN X71.here hx rfl (hb hby own_d1_115) rfl rfl ?_
    show oS p e below T71 m 116 #[oa a0, oa a1, oi (1 : Int32), oi (3 : Int32), oi (3 : Int32), oi (3 : Int32), oi x2] [(.ref a0)] _
    refine XS.aloadN X71.here hx rfl (hb hby own_d1_116) rfl rfl ?_
    show oS p e below T71 m 117 #[oa a0, oa a1, oi (1 : Int32), oi (3 : Int32), oi (3 : Int32), oi (3 : Int32), oi x2] [(.ref a1), (.ref a0)] _
    refine st81 _ ?_
    show oS p e below T81 m 120 #[oa a0, oa a1, oi (1 : Int32), oi (3 : Int32), oi (3 : Int32), oi (3 : Int32), oi x2] [(.int (own_f3_3 x0 x1 x2)), (.ref a0)] _
    refine st82 _ ?_
    show oS p e below T82 m 123 #[oa a0, oa a1, oi (1 : Int32), oi (3 : Int32), oi (3 : Int32), oi (3 : Int32), oi x2] [] _
    exact X82.returnOut hx Bd.returns (hb hby own_d1_123) hr
  · show own_Q1b3 Z a0 a1 k_a1 x0 x1 x2 h0 n0 _ T82.heap _
    rw [e82]
    exact ⟨b13, k13, rfl, N82, K_91, sz_b13, F83, F84, F85, F88⟩
theorem own_ef1i3 (m : MethodId) (a0 : Addr) (a1 : Addr) : entryFrame m #[(.ref a0), (.ref a1)] 7 = mkF m 0 #[oa a0, oa a1, .unset, .unset, .unset, .unset, .unset] [] := by first | (simp [entryFrame, mkF, argsToLocals, Value.category]; done) | rfl
def own_Q1i3 (Z : State) (a0 : Addr) (a1 : Addr) (k_a1 : ClassId) (x0 : Int32) (x1 : Int32) (x2 : Int32) (h0 : Heap) (n0 : Nat) (v : Option Value) (h : Heap) (L : List Loc) : Prop := ∃ (b : Addr) (k_b : ClassId), v = none ∧ Fr n0 L ∧ Keep h0 h [a0] ∧ h0.size ≤ b ∧ Exa Z h a0 "com/example/penstock/penstock/Design" ∧ Fld Z h a0 "com/example/penstock/penstock/Design" "byteIndices" "[B" .null ∧ Fld Z h a0 "com/example/penstock/penstock/Design" "intIndices" "[I" (.ref b) ∧ Exa Z h b "[I" ∧ Arv Z h b k_b .int (3 : Int32) [(.int x0), (.int x1), (.int x2)] (.int (0 : Int32))
set_option maxRecDepth 65536 in
set_option maxHeartbeats 40000000 in
theorem own_rm1i3 (l : Launch) (Z : State) (av : Array Value) (hw : ∀ d ∈ tables_1, d.before av Z = true) (ws : List Jvm.Cond) (a0 : Addr) (a1 : Addr) (k_a1 : ClassId) (x0 : Int32) (x1 : Int32) (x2 : Int32) (h0 : Heap) (n0 : Nat) (Z0 : n0 ≤ h0.size) (E_a0 : Exa Z h0 a0 "com/example/penstock/penstock/Design") (F_byteIndices_a0 : Fld Z h0 a0 "com/example/penstock/penstock/Design" "byteIndices" "[B" .null) (F_intIndices_a0 : Fld Z h0 a0 "com/example/penstock/penstock/Design" "intIndices" "[I" .null) (F_hash_a0 : Fld Z h0 a0 "com/example/penstock/penstock/Design" "hash" "I" (.int (0 : Int32))) (g_a0 : n0 ≤ a0) (V_a1 : Arv Z h0 a1 k_a1 .int (3 : Int32) [(.int x0), (.int x1), (.int x2)] (.int (0 : Int32))) (E_a1 : Exa Z h0 a1 "[I") (n10 : a1 ≠ a0) (hbad : ((((1 : Int32) &&& own_g x0) &&& own_g x1) &&& own_g x2) = (0 : Int32)) :
    MetFree l (⟨"com/example/penstock/penstock/Design", "<init>", "([I)V"⟩ : MethodName) (head1 (Jvm.Cond.code (⟨"com/example/penstock/penstock/Design", "<init>", "([I)V"⟩ : MethodName) prog_9_method_1_code 7 none :: ws) ({ frames := 3, cells := 1, slots := 3, locals := 46 } : Room)) (fun a U => a = #[(.ref a0), (.ref a1)] ∧ Z.Warmed39 U.vm ∧ U.heap = h0) (fun _ _ _ _ _ => True) (fun _ U o U' => ∃ v L, o = .returned v ∧ own_Q1i3 Z a0 a1 k_a1 x0 x1 x2 h0 n0 v U'.heap L ∧ FrameEnd U o U' L ({ frames := 3, cells := 1, slots := 3, locals := 46 } : Room).cells ({ frames := 3, cells := 1, slots := 3, locals := 46 } : Room).slots) := by
  refine MetFree.of_bodySF (plainFor_of_name own_pn1) hisR ?_
  intro p e s m args below meth c s₁ Bd hml0 hP hK
  obtain ⟨rfl, hZ, hh⟩ := hP
  have hx := Bd.exec
  have hby := Bd.bytes
  have hml : c.maxLocals = 7 := hml0
  have hown : s.vm.findClass "com/example/penstock/penstock/Design" = some m.cls := findClass_of_methodNamed Bd.named
  have hnm := (name_of_methodNamed Bd.named Bd.method).1
  have X0 : Stand p l e ({ frames := 3, cells := 1, slots := 3, locals := 46 } : Room) s m #[(.ref a0), (.ref a1)] below meth c s₁ [] 0 0 := Stand.of_body Bd
  have e0 : s₁.heap = h0 := by rw [← hh, Bd.state]; rfl
  have N0 := Fr.nil n0
  have pre0 : ∀ t, Steps p.tables e below (s₁.setTop (mkF m 0 #[oa a0, oa a1, .unset, .unset, .unset, .unset, .unset] [])) t → Steps p.tables e below (s₁.setTop (entryFrame m #[(.ref a0), (.ref a1)] 7)) t := fun t k => castTop (own_ef1i3 m a0 a1) k
  obtain ⟨T1, X1, e1, st1⟩ := initO X0 hx hZ hown (hw _ (List.mem_of_getElem? (i := 7) rfl)) (hw _ (List.mem_of_getElem? (i := 8) rfl)) (hw _ (List.mem_of_getElem? (i := 9) rfl)) e0 (g := (mkF m 1 #[oa a0, oa a1, .unset, .unset, .unset, .unset, .unset] [(.ref a0)])) rfl (by rw [hml]; rfl) rfl (hb hby own_d1_1) (by decide) (W := 0) (by show 2 * 0 + _ ≤ _; exact Nat.le_of_eq rfl) (by decide)
  have b2 : (0 : Int32) < (3 : Int32) := (by decide)
  have pre3 : ∀ t, Steps p.tables e below (T1.setTop (mkF m 31 #[oa a0, oa a1, oi (1 : Int32), oa a1, oi (3 : Int32), oi (0 : Int32), oi x0] [(.int x0), (.int (1 : Int32))])) t → Steps p.tables e below (s₁.setTop (entryFrame m #[(.ref a0), (.ref a1)] 7)) t := by
    intro t k
    refine pre0 t ?_
    show oS p e below s₁ m 0 #[oa a0, oa a1, .unset, .unset, .unset, .unset, .unset] [] _
    refine XS.aloadN X0.here hx rfl (hb hby own_d1_0) rfl rfl ?_
    show oS p e below s₁ m 1 #[oa a0, oa a1, .unset, .unset, .unset, .unset, .unset] [(.ref a0)] _
    refine st1 _ ?_
    show oS p e below T1 m 4 #[oa a0, oa a1, .unset, .unset, .unset, .unset, .unset] [] _
    refine XS.iconst X1.here hx rfl (hb hby own_d1_4) ?_
    show oS p e below T1 m 5 #[oa a0, oa a1, .unset, .unset, .unset, .unset, .unset] [(.int (1 : Int32))] _
    refine XS.istoreN X1.here hx rfl (hb hby own_d1_5) rfl (l' := #[oa a0, oa a1, oi (1 : Int32), .unset, .unset, .unset, .unset]) rfl ?_
    show oS p e below T1 m 6 #[oa a0, oa a1, oi (1 : Int32), .unset, .unset, .unset, .unset] [] _
    refine XS.aloadN X1.here hx rfl (hb hby own_d1_6) rfl rfl ?_
    show oS p e below T1 m 7 #[oa a0, oa a1, oi (1 : Int32), .unset, .unset, .unset, .unset] [(.ref a1)] _
    refine XS.astoreN X1.here hx rfl (hb hby own_d1_7) rfl rfl (l' := #[oa a0, oa a1, oi (1 : Int32), oa a1, .unset, .unset, .unset]) rfl ?_
    show oS p e below T1 m 8 #[oa a0, oa a1, oi (1 : Int32), oa a1, .unset, .unset, .unset] [] _
    refine XS.aloadN X1.here hx rfl (hb hby own_d1_8) rfl rfl ?_
    show oS p e below T1 m 9 #[oa a0, oa a1, oi (1 : Int32), oa a1, .unset, .unset, .unset] [(.ref a1)] _
    refine oLen X1 hx hZ e1 V_a1 (hb hby own_d1_9) ?_
    show oS p e below T1 m 10 #[oa a0, oa a1, oi (1 : Int32), oa a1, .unset, .unset, .unset] [(.int (3 : Int32))] _
    refine XS.istore X1.here hx rfl (hb hby own_d1_10) rfl (l' := #[oa a0, oa a1, oi (1 : Int32), oa a1, oi (3 : Int32), .unset, .unset]) rfl ?_
    show oS p e below T1 m 12 #[oa a0, oa a1, oi (1 : Int32), oa a1, oi (3 : Int32), .unset, .unset] [] _
    refine XS.iconst X1.here hx rfl (hb hby own_d1_12) ?_
    show oS p e below T1 m 13 #[oa a0, oa a1, oi (1 : Int32), oa a1, oi (3 : Int32), .unset, .unset] [(.int (0 : Int32))] _
    refine XS.istore X1.here hx rfl (hb hby own_d1_13) rfl (l' := #[oa a0, oa a1, oi (1 : Int32), oa a1, oi (3 : Int32), oi (0 : Int32), .unset]) rfl ?_
    show oS p e below T1 m 15 #[oa a0, oa a1, oi (1 : Int32), oa a1, oi (3 : Int32), oi (0 : Int32), .unset] [] _
    refine XS.iload X1.here hx rfl (hb hby own_d1_15) rfl ?_
    show oS p e below T1 m 17 #[oa a0, oa a1, oi (1 : Int32), oa a1, oi (3 : Int32), oi (0 : Int32), .unset] [(.int (0 : Int32))] _
    refine XS.iload X1.here hx rfl (hb hby own_d1_17) rfl ?_
    show oS p e below T1 m 19 #[oa a0, oa a1, oi (1 : Int32), oa a1, oi (3 : Int32), oi (0 : Int32), .unset] [(.int (3 : Int32)), (.int (0 : Int32))] _
    refine XS.icmpNo X1.here hx rfl (hb hby own_d1_19) rfl (tlt b2).2.1 ?_
    show oS p e below T1 m 22 #[oa a0, oa a1, oi (1 : Int32), oa a1, oi (3 : Int32), oi (0 : Int32), .unset] [] _
    refine XS.aloadN X1.here hx rfl (hb hby own_d1_22) rfl rfl ?_
    show oS p e below T1 m 23 #[oa a0, oa a1, oi (1 : Int32), oa a1, oi (3 : Int32), oi (0 : Int32), .unset] [(.ref a1)] _
    refine XS.iload X1.here hx rfl (hb hby own_d1_23) rfl ?_
    show oS p e below T1 m 25 #[oa a0, oa a1, oi (1 : Int32), oa a1, oi (3 : Int32), oi (0 : Int32), .unset] [(.int (0 : Int32)), (.ref a1)] _
    refine oLdI X1 hx hZ e1 V_a1 (v := (.int x0)) ⟨by decide, by decide⟩ rfl (hb hby own_d1_25) ?_
    show oS p e below T1 m 26 #[oa a0, oa a1, oi (1 : Int32), oa a1, oi (3 : Int32), oi (0 : Int32), .unset] [(.int x0)] _
    refine XS.istore X1.here hx rfl (hb hby own_d1_26) rfl (l' := #[oa a0, oa a1, oi (1 : Int32), oa a1, oi (3 : Int32), oi (0 : Int32), oi x0]) rfl ?_
    show oS p e below T1 m 28 #[oa a0, oa a1, oi (1 : Int32), oa a1, oi (3 : Int32), oi (0 : Int32), oi x0] [] _
    refine XS.iloadN X1.here hx rfl (hb hby own_d1_28) rfl ?_
    show oS p e below T1 m 29 #[oa a0, oa a1, oi (1 : Int32), oa a1, oi (3 : Int32), oi (0 : Int32), oi x0] [(.int (1 : Int32))] _
    refine XS.iload X1.here hx rfl (hb hby own_d1_29) rfl ?_
    exact k
  obtain ⟨v6, hv6⟩ : ∃ z : Int32, z = (if x0 < (0 : Int32) then (0 : Int32) else (if (255 : Int32) < x0 then (0 : Int32) else (1 : Int32))) := ⟨_, rfl⟩
  have pre7 : ∀ t, Steps p.tables e below (T1.setTop (mkF m 47 #[oa a0, oa a1, oi (1 : Int32), oa a1, oi (3 : Int32), oi (0 : Int32), oi x0] [(.int v6), (.int (1 : Int32))])) t → Steps p.tables e below (s₁.setTop (entryFrame m #[(.ref a0), (.ref a1)] 7)) t := by
    intro t k
    by_cases c4 : x0 < (0 : Int32)
    · skip
      rw [show v6 = (0 : Int32) from hv6.trans (by rw [if_pos c4])] at k
      refine pre3 t ?_
      show oS p e below T1 m 31 #[oa a0, oa a1, oi (1 : Int32), oa a1, oi (3 : Int32), oi (0 : Int32), oi x0] [(.int x0), (.int (1 : Int32))] _
      refine XS.ifYes X1.here hx rfl (pc0 := 31) (pc' := 46) rfl (hb hby own_d1_31) rfl ((if0 _ _).trans (tlt c4).1) (by decide) (by decide) ?_
      show oS p e below T1 m 46 #[oa a0, oa a1, oi (1 : Int32), oa a1, oi (3 : Int32), oi (0 : Int32), oi x0] [(.int (1 : Int32))] _
      refine XS.iconst X1.here hx rfl (hb hby own_d1_46) ?_
      exact k
    · skip
      by_cases c5 : (255 : Int32) < x0
      · skip
        rw [show v6 = (0 : Int32) from hv6.trans (by rw [if_neg c4, if_pos c5])] at k
        refine pre3 t ?_
        show oS p e below T1 m 31 #[oa a0, oa a1, oi (1 : Int32), oa a1, oi (3 : Int32), oi (0 : Int32), oi x0] [(.int x0), (.int (1 : Int32))] _
        refine XS.ifNo X1.here hx rfl (hb hby own_d1_31) rfl ((if0 _ _).trans (flt c4).1) ?_
        show oS p e below T1 m 34 #[oa a0, oa a1, oi (1 : Int32), oa a1, oi (3 : Int32), oi (0 : Int32), oi x0] [(.int (1 : Int32))] _
        refine XS.iload X1.here hx rfl (hb hby own_d1_34) rfl ?_
        show oS p e below T1 m 36 #[oa a0, oa a1, oi (1 : Int32), oa a1, oi (3 : Int32), oi (0 : Int32), oi x0] [(.int x0), (.int (1 : Int32))] _
        refine XS.sipush X1.here hx rfl (hb hby own_d1_36) ?_
        show oS p e below T1 m 39 #[oa a0, oa a1, oi (1 : Int32), oa a1, oi (3 : Int32), oi (0 : Int32), oi x0] [(.int (255 : Int32)), (.int x0), (.int (1 : Int32))] _
        refine XS.icmpYes X1.here hx rfl (pc0 := 39) (pc' := 46) rfl (hb hby own_d1_39) rfl (tlt c5).2.2.1 (by decide) (by decide) ?_
        show oS p e below T1 m 46 #[oa a0, oa a1, oi (1 : Int32), oa a1, oi (3 : Int32), oi (0 : Int32), oi x0] [(.int (1 : Int32))] _
        refine XS.iconst X1.here hx rfl (hb hby own_d1_46) ?_
        exact k
      · skip
        rw [show v6 = (1 : Int32) from hv6.trans (by rw [if_neg c4, if_neg c5])] at k
        refine pre3 t ?_
        show oS p e below T1 m 31 #[oa a0, oa a1, oi (1 : Int32), oa a1, oi (3 : Int32), oi (0 : Int32), oi x0] [(.int x0), (.int (1 : Int32))] _
        refine XS.ifNo X1.here hx rfl (hb hby own_d1_31) rfl ((if0 _ _).trans (flt c4).1) ?_
        show oS p e below T1 m 34 #[oa a0, oa a1, oi (1 : Int32), oa a1, oi (3 : Int32), oi (0 : Int32), oi x0] [(.int (1 : Int32))] _
        refine XS.iload X1.here hx rfl (hb hby own_d1_34) rfl ?_
        show oS p e below T1 m 36 #[oa a0, oa a1, oi (1 : Int32), oa a1, oi (3 : Int32), oi (0 : Int32), oi x0] [(.int x0), (.int (1 : Int32))] _
        refine XS.sipush X1.here hx rfl (hb hby own_d1_36) ?_
        show oS p e below T1 m 39 #[oa a0, oa a1, oi (1 : Int32), oa a1, oi (3 : Int32), oi (0 : Int32), oi x0] [(.int (255 : Int32)), (.int x0), (.int (1 : Int32))] _
        refine XS.icmpNo X1.here hx rfl (hb hby own_d1_39) rfl (flt c5).2.2.1 ?_
        show oS p e below T1 m 42 #[oa a0, oa a1, oi (1 : Int32), oa a1, oi (3 : Int32), oi (0 : Int32), oi x0] [(.int (1 : Int32))] _
        refine XS.iconst X1.here hx rfl (hb hby own_d1_42) ?_
        show oS p e below T1 m 43 #[oa a0, oa a1, oi (1 : Int32), oa a1, oi (3 : Int32), oi (0 : Int32), oi x0] [(.int (1 : Int32)), (.int (1 : Int32))] _
        refine XS.goto X1.here hx rfl (pc0 := 43) (pc' := 47) rfl (hb hby own_d1_43) (by decide) (by decide) ?_
        exact k
  have b8 : (1 : Int32) < (3 : Int32) := (by decide)
  have pre9 : ∀ t, Steps p.tables e below (T1.setTop (mkF m 31 #[oa a0, oa a1, oi ((1 : Int32) &&& v6), oa a1, oi (3 : Int32), oi (1 : Int32), oi x1] [(.int x1), (.int ((1 : Int32) &&& v6))])) t → Steps p.tables e below (s₁.setTop (entryFrame m #[(.ref a0), (.ref a1)] 7)) t := by
    intro t k
    refine pre7 t ?_
    show oS p e below T1 m 47 #[oa a0, oa a1, oi (1 : Int32), oa a1, oi (3 : Int32), oi (0 : Int32), oi x0] [(.int v6), (.int (1 : Int32))] _
    refine XS.iand X1.here hx rfl (hb hby own_d1_47) rfl ?_
    show oS p e below T1 m 48 #[oa a0, oa a1, oi (1 : Int32), oa a1, oi (3 : Int32), oi (0 : Int32), oi x0] [(.int ((1 : Int32) &&& v6))] _
    refine XS.istoreN X1.here hx rfl (hb hby own_d1_48) rfl (l' := #[oa a0, oa a1, oi ((1 : Int32) &&& v6), oa a1, oi (3 : Int32), oi (0 : Int32), oi x0]) rfl ?_
    show oS p e below T1 m 49 #[oa a0, oa a1, oi ((1 : Int32) &&& v6), oa a1, oi (3 : Int32), oi (0 : Int32), oi x0] [] _
    refine XS.iinc X1.here hx rfl (hb hby own_d1_49) rfl (l' := #[oa a0, oa a1, oi ((1 : Int32) &&& v6), oa a1, oi (3 : Int32), oi (1 : Int32), oi x0]) rfl ?_
    show oS p e below T1 m 52 #[oa a0, oa a1, oi ((1 : Int32) &&& v6), oa a1, oi (3 : Int32), oi (1 : Int32), oi x0] [] _
    refine XS.goto X1.here hx rfl (pc0 := 52) (pc' := 15) rfl (hb hby own_d1_52) (by decide) (by decide) ?_
    show oS p e below T1 m 15 #[oa a0, oa a1, oi ((1 : Int32) &&& v6), oa a1, oi (3 : Int32), oi (1 : Int32), oi x0] [] _
    refine XS.iload X1.here hx rfl (hb hby own_d1_15) rfl ?_
    show oS p e below T1 m 17 #[oa a0, oa a1, oi ((1 : Int32) &&& v6), oa a1, oi (3 : Int32), oi (1 : Int32), oi x0] [(.int (1 : Int32))] _
    refine XS.iload X1.here hx rfl (hb hby own_d1_17) rfl ?_
    show oS p e below T1 m 19 #[oa a0, oa a1, oi ((1 : Int32) &&& v6), oa a1, oi (3 : Int32), oi (1 : Int32), oi x0] [(.int (3 : Int32)), (.int (1 : Int32))] _
    refine XS.icmpNo X1.here hx rfl (hb hby own_d1_19) rfl (tlt b8).2.1 ?_
    show oS p e below T1 m 22 #[oa a0, oa a1, oi ((1 : Int32) &&& v6), oa a1, oi (3 : Int32), oi (1 : Int32), oi x0] [] _
    refine XS.aloadN X1.here hx rfl (hb hby own_d1_22) rfl rfl ?_
    show oS p e below T1 m 23 #[oa a0, oa a1, oi ((1 : Int32) &&& v6), oa a1, oi (3 : Int32), oi (1 : Int32), oi x0] [(.ref a1)] _
    refine XS.iload X1.here hx rfl (hb hby own_d1_23) rfl ?_
    show oS p e below T1 m 25 #[oa a0, oa a1, oi ((1 : Int32) &&& v6), oa a1, oi (3 : Int32), oi (1 : Int32), oi x0] [(.int (1 : Int32)), (.ref a1)] _
    refine oLdI X1 hx hZ e1 V_a1 (v := (.int x1)) ⟨by decide, by decide⟩ rfl (hb hby own_d1_25) ?_
    show oS p e below T1 m 26 #[oa a0, oa a1, oi ((1 : Int32) &&& v6), oa a1, oi (3 : Int32), oi (1 : Int32), oi x0] [(.int x1)] _
    refine XS.istore X1.here hx rfl (hb hby own_d1_26) rfl (l' := #[oa a0, oa a1, oi ((1 : Int32) &&& v6), oa a1, oi (3 : Int32), oi (1 : Int32), oi x1]) rfl ?_
    show oS p e below T1 m 28 #[oa a0, oa a1, oi ((1 : Int32) &&& v6), oa a1, oi (3 : Int32), oi (1 : Int32), oi x1] [] _
    refine XS.iloadN X1.here hx rfl (hb hby own_d1_28) rfl ?_
    show oS p e below T1 m 29 #[oa a0, oa a1, oi ((1 : Int32) &&& v6), oa a1, oi (3 : Int32), oi (1 : Int32), oi x1] [(.int ((1 : Int32) &&& v6))] _
    refine XS.iload X1.here hx rfl (hb hby own_d1_29) rfl ?_
    exact k
  obtain ⟨v12, hv12⟩ : ∃ z : Int32, z = (if x1 < (0 : Int32) then (0 : Int32) else (if (255 : Int32) < x1 then (0 : Int32) else (1 : Int32))) := ⟨_, rfl⟩
  have pre13 : ∀ t, Steps p.tables e below (T1.setTop (mkF m 47 #[oa a0, oa a1, oi ((1 : Int32) &&& v6), oa a1, oi (3 : Int32), oi (1 : Int32), oi x1] [(.int v12), (.int ((1 : Int32) &&& v6))])) t → Steps p.tables e below (s₁.setTop (entryFrame m #[(.ref a0), (.ref a1)] 7)) t := by
    intro t k
    by_cases c10 : x1 < (0 : Int32)
    · skip
      rw [show v12 = (0 : Int32) from hv12.trans (by rw [if_pos c10])] at k
      refine pre9 t ?_
      show oS p e below T1 m 31 #[oa a0, oa a1, oi ((1 : Int32) &&& v6), oa a1, oi (3 : Int32), oi (1 : Int32), oi x1] [(.int x1), (.int ((1 : Int32) &&& v6))] _
      refine XS.ifYes X1.here hx rfl (pc0 := 31) (pc' := 46) rfl (hb hby own_d1_31) rfl ((if0 _ _).trans (tlt c10).1) (by decide) (by decide) ?_
      show oS p e below T1 m 46 #[oa a0, oa a1, oi ((1 : Int32) &&& v6), oa a1, oi (3 : Int32), oi (1 : Int32), oi x1] [(.int ((1 : Int32) &&& v6))] _
      refine XS.iconst X1.here hx rfl (hb hby own_d1_46) ?_
      exact k
    · skip
      by_cases c11 : (255 : Int32) < x1
      · skip
        rw [show v12 = (0 : Int32) from hv12.trans (by rw [if_neg c10, if_pos c11])] at k
        refine pre9 t ?_
        show oS p e below T1 m 31 #[oa a0, oa a1, oi ((1 : Int32) &&& v6), oa a1, oi (3 : Int32), oi (1 : Int32), oi x1] [(.int x1), (.int ((1 : Int32) &&& v6))] _
        refine XS.ifNo X1.here hx rfl (hb hby own_d1_31) rfl ((if0 _ _).trans (flt c10).1) ?_
        show oS p e below T1 m 34 #[oa a0, oa a1, oi ((1 : Int32) &&& v6), oa a1, oi (3 : Int32), oi (1 : Int32), oi x1] [(.int ((1 : Int32) &&& v6))] _
        refine XS.iload X1.here hx rfl (hb hby own_d1_34) rfl ?_
        show oS p e below T1 m 36 #[oa a0, oa a1, oi ((1 : Int32) &&& v6), oa a1, oi (3 : Int32), oi (1 : Int32), oi x1] [(.int x1), (.int ((1 : Int32) &&& v6))] _
        refine XS.sipush X1.here hx rfl (hb hby own_d1_36) ?_
        show oS p e below T1 m 39 #[oa a0, oa a1, oi ((1 : Int32) &&& v6), oa a1, oi (3 : Int32), oi (1 : Int32), oi x1] [(.int (255 : Int32)), (.int x1), (.int ((1 : Int32) &&& v6))] _
        refine XS.icmpYes X1.here hx rfl (pc0 := 39) (pc' := 46) rfl (hb hby own_d1_39) rfl (tlt c11).2.2.1 (by decide) (by decide) ?_
        show oS p e below T1 m 46 #[oa a0, oa a1, oi ((1 : Int32) &&& v6), oa a1, oi (3 : Int32), oi (1 : Int32), oi x1] [(.int ((1 : Int32) &&& v6))] _
        refine XS.iconst X1.here hx rfl (hb hby own_d1_46) ?_
        exact k
      · skip
        rw [show v12 = (1 : Int32) from hv12.trans (by rw [if_neg c10, if_neg c11])] at k
        refine pre9 t ?_
        show oS p e below T1 m 31 #[oa a0, oa a1, oi ((1 : Int32) &&& v6), oa a1, oi (3 : Int32), oi (1 : Int32), oi x1] [(.int x1), (.int ((1 : Int32) &&& v6))] _
        refine XS.ifNo X1.here hx rfl (hb hby own_d1_31) rfl ((if0 _ _).trans (flt c10).1) ?_
        show oS p e below T1 m 34 #[oa a0, oa a1, oi ((1 : Int32) &&& v6), oa a1, oi (3 : Int32), oi (1 : Int32), oi x1] [(.int ((1 : Int32) &&& v6))] _
        refine XS.iload X1.here hx rfl (hb hby own_d1_34) rfl ?_
        show oS p e below T1 m 36 #[oa a0, oa a1, oi ((1 : Int32) &&& v6), oa a1, oi (3 : Int32), oi (1 : Int32), oi x1] [(.int x1), (.int ((1 : Int32) &&& v6))] _
        refine XS.sipush X1.here hx rfl (hb hby own_d1_36) ?_
        show oS p e below T1 m 39 #[oa a0, oa a1, oi ((1 : Int32) &&& v6), oa a1, oi (3 : Int32), oi (1 : Int32), oi x1] [(.int (255 : Int32)), (.int x1), (.int ((1 : Int32) &&& v6))] _
        refine XS.icmpNo X1.here hx rfl (hb hby own_d1_39) rfl (flt c11).2.2.1 ?_
        show oS p e below T1 m 42 #[oa a0, oa a1, oi ((1 : Int32) &&& v6), oa a1, oi (3 : Int32), oi (1 : Int32), oi x1] [(.int ((1 : Int32) &&& v6))] _
        refine XS.iconst X1.here hx rfl (hb hby own_d1_42) ?_
        show oS p e below T1 m 43 #[oa a0, oa a1, oi ((1 : Int32) &&& v6), oa a1, oi (3 : Int32), oi (1 : Int32), oi x1] [(.int (1 : Int32)), (.int ((1 : Int32) &&& v6))] _
        refine XS.goto X1.here hx rfl (pc0 := 43) (pc' := 47) rfl (hb hby own_d1_43) (by decide) (by decide) ?_
        exact k
  have b14 : (2 : Int32) < (3 : Int32) := (by decide)
  have pre15 : ∀ t, Steps p.tables e below (T1.setTop (mkF m 31 #[oa a0, oa a1, oi (((1 : Int32) &&& v6) &&& v12), oa a1, oi (3 : Int32), oi (2 : Int32), oi x2] [(.int x2), (.int (((1 : Int32) &&& v6) &&& v12))])) t → Steps p.tables e below (s₁.setTop (entryFrame m #[(.ref a0), (.ref a1)] 7)) t := by
    intro t k
    refine pre13 t ?_
    show oS p e below T1 m 47 #[oa a0, oa a1, oi ((1 : Int32) &&& v6), oa a1, oi (3 : Int32), oi (1 : Int32), oi x1] [(.int v12), (.int ((1 : Int32) &&& v6))] _
    refine XS.iand X1.here hx rfl (hb hby own_d1_47) rfl ?_
    show oS p e below T1 m 48 #[oa a0, oa a1, oi ((1 : Int32) &&& v6), oa a1, oi (3 : Int32), oi (1 : Int32), oi x1] [(.int (((1 : Int32) &&& v6) &&& v12))] _
    refine XS.istoreN X1.here hx rfl (hb hby own_d1_48) rfl (l' := #[oa a0, oa a1, oi (((1 : Int32) &&& v6) &&& v12), oa a1, oi (3 : Int32), oi (1 : Int32), oi x1]) rfl ?_
    show oS p e below T1 m 49 #[oa a0, oa a1, oi (((1 : Int32) &&& v6) &&& v12), oa a1, oi (3 : Int32), oi (1 : Int32), oi x1] [] _
    refine XS.iinc X1.here hx rfl (hb hby own_d1_49) rfl (l' := #[oa a0, oa a1, oi (((1 : Int32) &&& v6) &&& v12), oa a1, oi (3 : Int32), oi (2 : Int32), oi x1]) rfl ?_
    show oS p e below T1 m 52 #[oa a0, oa a1, oi (((1 : Int32) &&& v6) &&& v12), oa a1, oi (3 : Int32), oi (2 : Int32), oi x1] [] _
    refine XS.goto X1.here hx rfl (pc0 := 52) (pc' := 15) rfl (hb hby own_d1_52) (by decide) (by decide) ?_
    show oS p e below T1 m 15 #[oa a0, oa a1, oi (((1 : Int32) &&& v6) &&& v12), oa a1, oi (3 : Int32), oi (2 : Int32), oi x1] [] _
    refine XS.iload X1.here hx rfl (hb hby own_d1_15) rfl ?_
    show oS p e below T1 m 17 #[oa a0, oa a1, oi (((1 : Int32) &&& v6) &&& v12), oa a1, oi (3 : Int32), oi (2 : Int32), oi x1] [(.int (2 : Int32))] _
    refine XS.iload X1.here hx rfl (hb hby own_d1_17) rfl ?_
    show oS p e below T1 m 19 #[oa a0, oa a1, oi (((1 : Int32) &&& v6) &&& v12), oa a1, oi (3 : Int32), oi (2 : Int32), oi x1] [(.int (3 : Int32)), (.int (2 : Int32))] _
    refine XS.icmpNo X1.here hx rfl (hb hby own_d1_19) rfl (tlt b14).2.1 ?_
    show oS p e below T1 m 22 #[oa a0, oa a1, oi (((1 : Int32) &&& v6) &&& v12), oa a1, oi (3 : Int32), oi (2 : Int32), oi x1] [] _
    refine XS.aloadN X1.here hx rfl (hb hby own_d1_22) rfl rfl ?_
    show oS p e below T1 m 23 #[oa a0, oa a1, oi (((1 : Int32) &&& v6) &&& v12), oa a1, oi (3 : Int32), oi (2 : Int32), oi x1] [(.ref a1)] _
    refine XS.iload X1.here hx rfl (hb hby own_d1_23) rfl ?_
    show oS p e below T1 m 25 #[oa a0, oa a1, oi (((1 : Int32) &&& v6) &&& v12), oa a1, oi (3 : Int32), oi (2 : Int32), oi x1] [(.int (2 : Int32)), (.ref a1)] _
    refine oLdI X1 hx hZ e1 V_a1 (v := (.int x2)) ⟨by decide, by decide⟩ rfl (hb hby own_d1_25) ?_
    show oS p e below T1 m 26 #[oa a0, oa a1, oi (((1 : Int32) &&& v6) &&& v12), oa a1, oi (3 : Int32), oi (2 : Int32), oi x1] [(.int x2)] _
    refine XS.istore X1.here hx rfl (hb hby own_d1_26) rfl (l' := #[oa a0, oa a1, oi (((1 : Int32) &&& v6) &&& v12), oa a1, oi (3 : Int32), oi (2 : Int32), oi x2]) rfl ?_
    show oS p e below T1 m 28 #[oa a0, oa a1, oi (((1 : Int32) &&& v6) &&& v12), oa a1, oi (3 : Int32), oi (2 : Int32), oi x2] [] _
    refine XS.iloadN X1.here hx rfl (hb hby own_d1_28) rfl ?_
    show oS p e below T1 m 29 #[oa a0, oa a1, oi (((1 : Int32) &&& v6) &&& v12), oa a1, oi (3 : Int32), oi (2 : Int32), oi x2] [(.int (((1 : Int32) &&& v6) &&& v12))] _
    refine XS.iload X1.here hx rfl (hb hby own_d1_29) rfl ?_
    exact k
  obtain ⟨v18, hv18⟩ : ∃ z : Int32, z = (if x2 < (0 : Int32) then (0 : Int32) else (if (255 : Int32) < x2 then (0 : Int32) else (1 : Int32))) := ⟨_, rfl⟩
  have pre19 : ∀ t, Steps p.tables e below (T1.setTop (mkF m 47 #[oa a0, oa a1, oi (((1 : Int32) &&& v6) &&& v12), oa a1, oi (3 : Int32), oi (2 : Int32), oi x2] [(.int v18), (.int (((1 : Int32) &&& v6) &&& v12))])) t → Steps p.tables e below (s₁.setTop (entryFrame m #[(.ref a0), (.ref a1)] 7)) t := by
    intro t k
    by_cases c16 : x2 < (0 : Int32)
    · skip
      rw [show v18 = (0 : Int32) from hv18.trans (by rw [if_pos c16])] at k
      refine pre15 t ?_
      show oS p e below T1 m 31 #[oa a0, oa a1, oi (((1 : Int32) &&& v6) &&& v12), oa a1, oi (3 : Int32), oi (2 : Int32), oi x2] [(.int x2), (.int (((1 : Int32) &&& v6) &&& v12))] _
      refine XS.ifYes X1.here hx rfl (pc0 := 31) (pc' := 46) rfl (hb hby own_d1_31) rfl ((if0 _ _).trans (tlt c16).1) (by decide) (by decide) ?_
      show oS p e below T1 m 46 #[oa a0, oa a1, oi (((1 : Int32) &&& v6) &&& v12), oa a1, oi (3 : Int32), oi (2 : Int32), oi x2] [(.int (((1 : Int32) &&& v6) &&& v12))] _
      refine XS.iconst X1.here hx rfl (hb hby own_d1_46) ?_
      exact k
    · skip
      by_cases c17 : (255 : Int32) < x2
      · skip
        rw [show v18 = (0 : Int32) from hv18.trans (by rw [if_neg c16, if_pos c17])] at k
        refine pre15 t ?_
        show oS p e below T1 m 31 #[oa a0, oa a1, oi (((1 : Int32) &&& v6) &&& v12), oa a1, oi (3 : Int32), oi (2 : Int32), oi x2] [(.int x2), (.int (((1 : Int32) &&& v6) &&& v12))] _
        refine XS.ifNo X1.here hx rfl (hb hby own_d1_31) rfl ((if0 _ _).trans (flt c16).1) ?_
        show oS p e below T1 m 34 #[oa a0, oa a1, oi (((1 : Int32) &&& v6) &&& v12), oa a1, oi (3 : Int32), oi (2 : Int32), oi x2] [(.int (((1 : Int32) &&& v6) &&& v12))] _
        refine XS.iload X1.here hx rfl (hb hby own_d1_34) rfl ?_
        show oS p e below T1 m 36 #[oa a0, oa a1, oi (((1 : Int32) &&& v6) &&& v12), oa a1, oi (3 : Int32), oi (2 : Int32), oi x2] [(.int x2), (.int (((1 : Int32) &&& v6) &&& v12))] _
        refine XS.sipush X1.here hx rfl (hb hby own_d1_36) ?_
        show oS p e below T1 m 39 #[oa a0, oa a1, oi (((1 : Int32) &&& v6) &&& v12), oa a1, oi (3 : Int32), oi (2 : Int32), oi x2] [(.int (255 : Int32)), (.int x2), (.int (((1 : Int32) &&& v6) &&& v12))] _
        refine XS.icmpYes X1.here hx rfl (pc0 := 39) (pc' := 46) rfl (hb hby own_d1_39) rfl (tlt c17).2.2.1 (by decide) (by decide) ?_
        show oS p e below T1 m 46 #[oa a0, oa a1, oi (((1 : Int32) &&& v6) &&& v12), oa a1, oi (3 : Int32), oi (2 : Int32), oi x2] [(.int (((1 : Int32) &&& v6) &&& v12))] _
        refine XS.iconst X1.here hx rfl (hb hby own_d1_46) ?_
        exact k
      · skip
        rw [show v18 = (1 : Int32) from hv18.trans (by rw [if_neg c16, if_neg c17])] at k
        refine pre15 t ?_
        show oS p e below T1 m 31 #[oa a0, oa a1, oi (((1 : Int32) &&& v6) &&& v12), oa a1, oi (3 : Int32), oi (2 : Int32), oi x2] [(.int x2), (.int (((1 : Int32) &&& v6) &&& v12))] _
        refine XS.ifNo X1.here hx rfl (hb hby own_d1_31) rfl ((if0 _ _).trans (flt c16).1) ?_
        show oS p e below T1 m 34 #[oa a0, oa a1, oi (((1 : Int32) &&& v6) &&& v12), oa a1, oi (3 : Int32), oi (2 : Int32), oi x2] [(.int (((1 : Int32) &&& v6) &&& v12))] _
        refine XS.iload X1.here hx rfl (hb hby own_d1_34) rfl ?_
        show oS p e below T1 m 36 #[oa a0, oa a1, oi (((1 : Int32) &&& v6) &&& v12), oa a1, oi (3 : Int32), oi (2 : Int32), oi x2] [(.int x2), (.int (((1 : Int32) &&& v6) &&& v12))] _
        refine XS.sipush X1.here hx rfl (hb hby own_d1_36) ?_
        show oS p e below T1 m 39 #[oa a0, oa a1, oi (((1 : Int32) &&& v6) &&& v12), oa a1, oi (3 : Int32), oi (2 : Int32), oi x2] [(.int (255 : Int32)), (.int x2), (.int (((1 : Int32) &&& v6) &&& v12))] _
        refine XS.icmpNo X1.here hx rfl (hb hby own_d1_39) rfl (flt c17).2.2.1 ?_
        show oS p e below T1 m 42 #[oa a0, oa a1, oi (((1 : Int32) &&& v6) &&& v12), oa a1, oi (3 : Int32), oi (2 : Int32), oi x2] [(.int (((1 : Int32) &&& v6) &&& v12))] _
        refine XS.iconst X1.here hx rfl (hb hby own_d1_42) ?_
        show oS p e below T1 m 43 #[oa a0, oa a1, oi (((1 : Int32) &&& v6) &&& v12), oa a1, oi (3 : Int32), oi (2 : Int32), oi x2] [(.int (1 : Int32)), (.int (((1 : Int32) &&& v6) &&& v12))] _
        refine XS.goto X1.here hx rfl (pc0 := 43) (pc' := 47) rfl (hb hby own_d1_43) (by decide) (by decide) ?_
        exact k
  have b20 : ¬ ((3 : Int32) < (3 : Int32)) := (by decide)
  have b21 : ((((1 : Int32) &&& v6) &&& v12) &&& v18) = (0 : Int32) := by rw [hv6, hv12, hv18]; exact hbad
  obtain ⟨T22, h22, X22, e22, W22, st22⟩ := putF X1 hx hZ hown (host := "") (Or.inl (hw _ (List.mem_of_getElem? (i := 11) rfl))) Via.refl e1 F_byteIndices_a0 E_a0 (Or.inr ⟨(hw _ (List.mem_of_getElem? (i := 12) rfl)), rfl, hnm⟩) (hw _ (List.mem_of_getElem? (i := 2) rfl)) (ty := (.array .byte)) (by decide) rfl rfl (g := (mkF m 101 #[oa a0, oa a1, oi ((((1 : Int32) &&& v6) &&& v12) &&& v18), oa a1, oi (3 : Int32), oi (3 : Int32), oi x2] [.null, (.ref a0)])) rfl rfl (hb hby own_d1_101)
  obtain ⟨Lo22, X22, N22⟩ := oOpq X22 (Fr.snoc X22 N0 g_a0)
  have Z22 : n0 ≤ h22.size := Nat.le_trans Z0 (Keep.of_wr W22).1
  have F23 := E_a0.wr W22
  have F24 := F_intIndices_a0.other W22 (Or.inr (slot_ne (Or.inr (hw _ (List.mem_of_getElem? (i := 14) rfl))) (Or.inr (hw _ (List.mem_of_getElem? (i := 12) rfl))) (by decide) (t := (.array .int)) (t' := (.array .byte)) (by decide) (by decide)))
  have F25 := F_hash_a0.other W22 (Or.inr (slot_ne (Or.inr (hw _ (List.mem_of_getElem? (i := 20) rfl))) (Or.inr (hw _ (List.mem_of_getElem? (i := 12) rfl))) (by decide) (t := .int) (t' := (.array .byte)) (by decide) (by decide)))
  have F26 := V_a1.other W22 n10
  have F27 := E_a1.wr W22
  have F_28 : Fld Z h22 a0 "com/example/penstock/penstock/Design" "byteIndices" "[B" .null := F_byteIndices_a0.same W22
  have K_29 : Keep h0 h22 [a0] := (Keep.refl h0 [a0]).wr W22 (Or.inl (List.mem_of_getElem? (i := 0) rfl))
  obtain ⟨T30, h30, X30, e30, E30, A30, B30, st30⟩ := cloneH X22 hx hZ hown (hw _ (List.mem_of_getElem? (i := 35) rfl)) (hw _ (List.mem_of_getElem? (i := 36) rfl)) (hw _ (List.mem_of_getElem? (i := 40) rfl)) (hw _ (List.mem_of_getElem? (i := 38) rfl)) (hw _ (List.mem_of_getElem? (i := 39) rfl)) (hw _ (List.mem_of_getElem? (i := 41) rfl)) e22 (Arv.arh F26) F27 (g := (mkF m 106 #[oa a0, oa a1, oi ((((1 : Int32) &&& v6) &&& v12) &&& v18), oa a1, oi (3 : Int32), oi (3 : Int32), oi x2] [(.ref a1), (.ref a0)])) rfl (by rw [hml]; rfl) rfl (hb hby own_d1_106) (by decide) (W := 1) (by show 2 * 0 + _ ≤ _; exact Nat.le_of_eq rfl) (by decide) (cap := 3) (by decide) (by decide) (by decide)
  obtain ⟨b30, g30⟩ : ∃ z, z = h22.size := ⟨_, rfl⟩
  rw [← g30] at A30 B30 st30
  have g_b30 : n0 ≤ b30 := Nat.le_trans Z22 (Nat.le_of_eq g30.symm)
  have ne31 : a0 ≠ b30 := Nat.ne_of_lt (Nat.lt_of_lt_of_le F23.lt (Nat.le_of_eq g30.symm))
  have ne32 : a1 ≠ b30 := Nat.ne_of_lt (Nat.lt_of_lt_of_le F26.lt (Nat.le_of_eq g30.symm))
  have Z30 : n0 ≤ h30.size := Nat.le_trans Z22 E30.1
  have sz_b30 : h0.size ≤ b30 := Nat.le_trans K_29.1 (Nat.le_of_eq g30.symm)
  have K_33 : Keep h0 h30 [a0] := K_29.ext E30
  have F34 := F23.ext E30
  have F35 := F_28.ext E30
  have F36 := F24.ext E30
  have F37 := F25.ext E30
  have F38 := F26.ext E30
  have F39 := F27.ext E30
  have V_40 : Arv Z h30 b30 k_a1 .int (3 : Int32) [(.int x0), (.int x1), (.int x2)] (.int (0 : Int32)) := A30
  obtain ⟨T41, X41, e41, st41⟩ := castY X30 hx hZ hown (hw _ (List.mem_of_getElem? (i := 42) rfl)) e30 (Ins.self B30) (g := (mkF m 109 #[oa a0, oa a1, oi ((((1 : Int32) &&& v6) &&& v12) &&& v18), oa a1, oi (3 : Int32), oi (3 : Int32), oi x2] [(.ref b30), (.ref a0)])) rfl rfl (hb hby own_d1_109)
  obtain ⟨T42, h42, X42, e42, W42, st42⟩ := putF X41 hx hZ hown (host := "") (Or.inl (hw _ (List.mem_of_getElem? (i := 13) rfl))) Via.refl e41 F36 F34 (Or.inr ⟨(hw _ (List.mem_of_getElem? (i := 14) rfl)), rfl, hnm⟩) (hw _ (List.mem_of_getElem? (i := 2) rfl)) (ty := (.array .int)) (by decide) rfl rfl (g := (mkF m 112 #[oa a0, oa a1, oi ((((1 : Int32) &&& v6) &&& v12) &&& v18), oa a1, oi (3 : Int32), oi (3 : Int32), oi x2] [(.ref b30), (.ref a0)])) rfl rfl (hb hby own_d1_112)
  obtain ⟨Lo42, X42, N42⟩ := oOpq X42 (Fr.snoc X42 N22 g_a0)
  have Z42 : n0 ≤ h42.size := Nat.le_trans Z30 (Keep.of_wr W42).1
  have F43 := F34.wr W42
  have F44 := F35.other W42 (Or.inr (slot_ne (Or.inr (hw _ (List.mem_of_getElem? (i := 12) rfl))) (Or.inr (hw _ (List.mem_of_getElem? (i := 14) rfl))) (by decide) (t := (.array .byte)) (t' := (.array .int)) (by decide) (by decide)))
  have F45 := F37.other W42 (Or.inr (slot_ne (Or.inr (hw _ (List.mem_of_getElem? (i := 20) rfl))) (Or.inr (hw _ (List.mem_of_getElem? (i := 14) rfl))) (by decide) (t := .int) (t' := (.array .int)) (by decide) (by decide)))
  have F46 := F38.other W42 n10
  have F47 := F39.wr W42
  have F48 := V_40.other W42 (Ne.symm ne31)
  have F49 := B30.wr W42
  have F_50 : Fld Z h42 a0 "com/example/penstock/penstock/Design" "intIndices" "[I" (.ref b30) := F36.same W42
  have K_51 : Keep h0 h42 [a0] := K_33.wr W42 (Or.inl (List.mem_of_getElem? (i := 0) rfl))
  obtain ⟨_, _, ⟨T52, L52, k52, n52⟩, -, X52, ⟨Lc52, hQ52, l52, y52, z52⟩, st52⟩ := Jvm.LawKit.callS X42 hx (y := (⟨"java/util/Arrays", "hashCode", "([I)I"⟩ : MethodName)) hown (mvT hZ (hw _ (List.mem_of_getElem? (i := 15) rfl))) (mvT hZ (hw _ (List.mem_of_getElem? (i := 16) rfl))) (mvT hZ (hw _ (List.mem_of_getElem? (i := 17) rfl))) (mvT hZ (hw _ (List.mem_of_getElem? (i := 18) rfl))) (by decide) (backOf (W := 1) (own_rm3_3 l Z av hw [] a1 k_a1 x0 x1 x2 h42 n0 Z42 F46 F47) hZ (hw _ (List.mem_of_getElem? (i := 18) rfl)) (hw _ (List.mem_of_getElem? (i := 17) rfl)) (by decide) (by decide)) (g := (mkF m 117 #[oa a0, oa a1, oi ((((1 : Int32) &&& v6) &&& v12) &&& v18), oa a1, oi (3 : Int32), oi (3 : Int32), oi x2] [(.ref a1), (.ref a0)])) rfl (by rw [hml]; rfl) (argsL := [(.ref a1)]) (rest := [(.ref a0)]) (lenOf own_pd0 rfl) rfl (by show 2 * 0 + _ ≤ _; exact Nat.le_of_eq rfl) (hb hby own_d1_117) (fun _ _ => ⟨rfl, e42, (by decide : 1 + 0 ≤ _), (by decide : 3 + 0 ≤ _)⟩)
  dsimp only [Pt.U, Pt.locs, Pt.cells, Pt.slots] at X52 l52 y52 z52 st52 hQ52
  have yq52 : k52 = 1 := y52
  have zq52 : n52 = 3 := z52
  subst yq52 zq52
  obtain ⟨rfl, Nq52, eq52⟩ := hQ52
  have N52 : Fr n0 L52 := by rw [l52]; exact Fr.app N42 Nq52
  obtain ⟨T53, h53, X53, e53, W53, st53⟩ := putF X52 hx hZ hown (host := "") (Or.inl (hw _ (List.mem_of_getElem? (i := 19) rfl))) Via.refl eq52 F45 F43 (Or.inr ⟨(hw _ (List.mem_of_getElem? (i := 20) rfl)), rfl, hnm⟩) (hw _ (List.mem_of_getElem? (i := 2) rfl)) (ty := .int) (by decide) rfl rfl (g := (mkF m 120 #[oa a0, oa a1, oi ((((1 : Int32) &&& v6) &&& v12) &&& v18), oa a1, oi (3 : Int32), oi (3 : Int32), oi x2] [(.int (own_f3_3 x0 x1 x2)), (.ref a0)])) rfl rfl (hb hby own_d1_120)
  obtain ⟨Lo53, X53, N53⟩ := oOpq X53 (Fr.snoc X53 N52 g_a0)
  have Z53 : n0 ≤ h53.size := Nat.le_trans Z42 (Keep.of_wr W53).1
  have F54 := F43.wr W53
  have F55 := F44.other W53 (Or.inr (slot_ne (Or.inr (hw _ (List.mem_of_getElem? (i := 12) rfl))) (Or.inr (hw _ (List.mem_of_getElem? (i := 20) rfl))) (by decide) (t := (.array .byte)) (t' := .int) (by decide) (by decide)))
  have F56 := F_50.other W53 (Or.inr (slot_ne (Or.inr (hw _ (List.mem_of_getElem? (i := 14) rfl))) (Or.inr (hw _ (List.mem_of_getElem? (i := 20) rfl))) (by decide) (t := (.array .int)) (t' := .int) (by decide) (by decide)))
  have F57 := F46.other W53 n10
  have F58 := F47.wr W53
  have F59 := F48.other W53 (Ne.symm ne31)
  have F60 := F49.wr W53
  have F_61 : Fld Z h53 a0 "com/example/penstock/penstock/Design" "hash" "I" (.int (own_f3_3 x0 x1 x2)) := F45.same W53
  have K_62 : Keep h0 h53 [a0] := K_51.wr W53 (Or.inl (List.mem_of_getElem? (i := 0) rfl))
  obtain ⟨fs, hr, hrun, hended, hW, hsame⟩ := X53.leave (v := none) (fun _ => rfl)
  refine ⟨_, _, pre19 _ ?_, hrun, hended, _, _, rfl, ?_, ⟨_, rfl⟩, hW, hsame.mono (by decide) (by decide)⟩
  · show oS p e below T1 m 47 #[oa a0, oa a1, oi (((1 : Int32) &&& v6) &&& v12), oa a1, oi (3 : Int32), oi (2 : Int32), oi x2] [(.int v18), (.int (((1 : Int32) &&& v6) &&& v12))] _
    refine XS.iand X1.here hx rfl (hb hby own_d1_47) rfl ?_
    show oS p e below T1 m 48 #[oa a0, oa a1, oi (((1 : Int32) &&& v6) &&& v12), oa a1, oi (3 : Int32), oi (2 : Int32), oi x2] [(.int ((((1 : Int32) &&& v6) &&& v12) &&& v18))] _
    refine XS.istoreN X1.here hx rfl (hb hby own_d1_48) rfl (l' := #[oa a0, oa a1, oi ((((1 : Int32) &&& v6) &&& v12) &&& v18), oa a1, oi (3 : Int32), oi (2 : Int32), oi x2]) rfl ?_
    show oS p e below T1 m 49 #[oa a0, oa a1, oi ((((1 : Int32) &&& v6) &&& v12) &&& v18), oa a1, oi (3 : Int32), oi (2 : Int32), oi x2] [] _
    refine XS.iinc X1.here hx rfl (hb hby own_d1_49) rfl (l' := #[oa a0, oa a1, oi ((((1 : Int32) &&& v6) &&& v12) &&& v18), oa a1, oi (3 : Int32), oi (3 : Int32), oi x2]) rfl ?_
    show oS p e below T1 m 52 #[oa a0, oa a1, oi ((((1 : Int32) &&& v6) &&& v12) &&& v18), oa a1, oi (3 : Int32), oi (3 : Int32), oi x2] [] _
    refine XS.goto X1.here hx rfl (pc0 := 52) (pc' := 15) rfl (hb hby own_d1_52) (by decide) (by decide) ?_
    show oS p e below T1 m 15 #[oa a0, oa a1, oi ((((1 : Int32) &&& v6) &&& v12) &&& v18), oa a1, oi (3 : Int32), oi (3 : Int32), oi x2] [] _
    refine XS.iload X1.here hx rfl (hb hby own_d1_15) rfl ?_
    show oS p e below T1 m 17 #[oa a0, oa a1, oi ((((1 : Int32) &&& v6) &&& v12) &&& v18), oa a1, oi (3 : Int32), oi (3 : Int32), oi x2] [(.int (3 : Int32))] _
    refine XS.iload X1.here hx rfl (hb hby own_d1_17) rfl ?_
    show oS p e below T1 m 19 #[oa a0, oa a1, oi ((((1 : Int32) &&& v6) &&& v12) &&& v18), oa a1, oi (3 : Int32), oi (3 : Int32), oi x2] [(.int (3 : Int32)), (.int (3 : Int32))] _
    refine XS.icmpYes X1.here hx rfl (pc0 := 19) (pc' := 55) rfl (hb hby own_d1_19) rfl (flt b20).2.1 (by decide) (by decide) ?_
    show oS p e below T1 m 55 #[oa a0, oa a1, oi ((((1 : Int32) &&& v6) &&& v12) &&& v18), oa a1, oi (3 : Int32), oi (3 : Int32), oi x2] [] _
    refine XS.iloadN X1.here hx rfl (hb hby own_d1_55) rfl ?_
    show oS p e below T1 m 56 #[oa a0, oa a1, oi ((((1 : Int32) &&& v6) &&& v12) &&& v18), oa a1, oi (3 : Int32), oi (3 : Int32), oi x2] [(.int ((((1 : Int32) &&& v6) &&& v12) &&& v18))] _
    refine XS.ifYes X1.here hx rfl (pc0 := 56) (pc' := 99) rfl (hb hby own_d1_56) rfl ((if0 _ _).trans (teq b21).1) (by decide) (by decide) ?_
    show oS p e below T1 m 99 #[oa a0, oa a1, oi ((((1 : Int32) &&& v6) &&& v12) &&& v18), oa a1, oi (3 : Int32), oi (3 : Int32), oi x2] [] _
    refine XS.aloadN X1.here hx rfl (hb hby own_d1_99) rfl rfl ?_
    show oS p e below T1 m 100 #[oa a0, oa a1, oi ((((1 : Int32) &&& v6) &&& v12) &&& v18), oa a1, oi (3 : Int32), oi (3 : Int32), oi x2] [(.ref a0)] _
    refine XS.aconstNull X1.here hx rfl (hb hby own_d1_100) ?_
    show oS p e below T1 m 101 #[oa a0, oa a1, oi ((((1 : Int32) &&& v6) &&& v12) &&& v18), oa a1, oi (3 : Int32), oi (3 : Int32), oi x2] [.null, (.ref a0)] _
    refine st22 _ ?_
    show oS p e below T22 m 104 #[oa a0, oa a1, oi ((((1 : Int32) &&& v6) &&& v12) &&& v18), oa a1, oi (3 : Int32), oi (3 : Int32), oi x2] [] _
    refine XS.aloadN X22.here hx rfl (hb hby own_d1_104) rfl rfl ?_
    show oS p e below T22 m 105 #[oa a0, oa a1, oi ((((1 : Int32) &&& v6) &&& v12) &&& v18), oa a1, oi (3 : Int32), oi (3 : Int32), oi x2] [(.ref a0)] _
    refine XS.aloadN X22.here hx rfl (hb hby own_d1_105) rfl rfl ?_
    show oS p e below T22 m 106 #[oa a0, oa a1, oi ((((1 : Int32) &&& v6) &&& v12) &&& v18), oa a1, oi (3 : Int32), oi (3 : Int32), oi x2] [(.ref a1), (.ref a0)] _
    refine st30 _ ?_
    show oS p e below T30 m 109 #[oa a0, oa a1, oi ((((1 : Int32) &&& v6) &&& v12) &&& v18), oa a1, oi (3 : Int32), oi (3 : Int32), oi x2] [(.ref b30), (.ref a0)] _
    refine st41 _ ?_
    show oS p e below T41 m 112 #[oa a0, oa a1, oi ((((1 : Int32) &&& v6) &&& v12) &&& v18), oa a1, oi (3 : Int32), oi (3 : Int32), oi x2] [(.ref b30), (.ref a0)] _
    refine st42 _ ?_
    show oS p e below T42 m 115 #[oa a0, oa a1, oi ((((1 : Int32) &&& v6) &&& v12) &&& v18), oa a1, oi (3 : Int32), oi (3 : Int32), oi x2] [] _
    refine XS.aloadN X42.here hx rfl (hb hby own_d1_115) rfl rfl ?_
    show oS p e below T42 m 116 #[oa a0, oa a1, oi ((((1 : Int32) &&& v6) &&& v12) &&& v18), oa a1, oi (3 : Int32), oi (3 : Int32), oi x2] [(.ref a0)] _
    refine XS.aloadN X42.here hx rfl (hb hby own_d1_116) rfl rfl ?_
    show oS p e below T42 m 117 #[oa a0, oa a1, oi ((((1 : Int32) &&& v6) &&& v12) &&& v18), oa a1, oi (3 : Int32), oi (3 : Int32), oi x2] [(.ref a1), (.ref a0)] _
    refine st52 _ ?_
    show oS p e below T52 m 120 #[oa a0, oa a1, oi ((((1 : Int32) &&& v6) &&& v12) &&& v18), oa a1, oi (3 : Int32), oi (3 : Int32), oi x2] [(.int (own_f3_3 x0 x1 x2)), (.ref a0)] _
    refine st53 _ ?_
    show oS p e below T53 m 123 #[oa a0, oa a1, oi ((((1 : Int32) &&& v6) &&& v12) &&& v18), oa a1, oi (3 : Int32), oi (3 : Int32), oi x2] [] _
    exact X53.returnOut hx Bd.returns (hb hby own_d1_123) hr
  · show own_Q1i3 Z a0 a1 k_a1 x0 x1 x2 h0 n0 _ T53.heap _
    rw [e53]
    exact ⟨b30, k_a1, rfl, N53, K_62, sz_b30, F54, F55, F56, F60, F59⟩
theorem own_d4_0 : decode prog_9_method_3_code 0 = .ok (.aload_n 0, 1) := by decide +kernel
theorem own_d4_1 : decode prog_9_method_3_code 1 = .ok (.getfield 13, 3) := by decide +kernel
theorem own_d4_4 : decode prog_9_method_3_code 4 = .ok (.ifnull 14, 3) := by decide +kernel
theorem own_d4_18 : decode prog_9_method_3_code 18 = .ok (.aload_n 0, 1) := by decide +kernel
theorem own_d4_19 : decode prog_9_method_3_code 19 = .ok (.getfield 9, 3) := by decide +kernel
theorem own_d4_22 : decode prog_9_method_3_code 22 = .ok (.arraylength, 1) := by decide +kernel
theorem own_d4_23 : decode prog_9_method_3_code 23 = .ok (.newarray .int, 2) := by decide +kernel
theorem own_d4_25 : decode prog_9_method_3_code 25 = .ok (.astore_n 1, 1) := by decide +kernel
theorem own_d4_26 : decode prog_9_method_3_code 26 = .ok (.iconst 0, 1) := by decide +kernel
theorem own_d4_27 : decode prog_9_method_3_code 27 = .ok (.istore_n 2, 1) := by decide +kernel
theorem own_d4_28 : decode prog_9_method_3_code 28 = .ok (.iload_n 2, 1) := by decide +kernel
theorem own_d4_29 : decode prog_9_method_3_code 29 = .ok (.aload_n 1, 1) := by decide +kernel
theorem own_d4_30 : decode prog_9_method_3_code 30 = .ok (.arraylength, 1) := by decide +kernel
theorem own_d4_31 : decode prog_9_method_3_code 31 = .ok (.if_icmp .ge 22, 3) := by decide +kernel
theorem own_d4_53 : decode prog_9_method_3_code 53 = .ok (.aload_n 1, 1) := by decide +kernel
theorem own_d4_54 : decode prog_9_method_3_code 54 = .ok (.areturn, 1) := by decide +kernel
theorem own_ef4b0 (m : MethodId) (a0 : Addr) : entryFrame m #[(.ref a0)] 3 = mkF m 0 #[oa a0, .unset, .unset] [] := by first | (simp [entryFrame, mkF, argsToLocals, Value.category]; done) | rfl
def own_Q4b0 (Z : State) (a0 : Addr) (b : Addr) (k_b : ClassId) (h0 : Heap) (n0 : Nat) (v : Option Value) (h : Heap) (L : List Loc) : Prop := ∃ (r : Addr) (k_r : ClassId), v = some (.ref r) ∧ Fr n0 L ∧ Keep h0 h [] ∧ h0.size ≤ r ∧ Arv Z h r k_r .int (0 : Int32) [] (.int (0 : Int32))
set_option maxRecDepth 65536 in
set_option maxHeartbeats 40000000 in
theorem own_rm4b0 (l : Launch) (Z : State) (av : Array Value) (hw : ∀ d ∈ tables_1, d.before av Z = true) (ws : List Jvm.Cond) (a0 : Addr) (b : Addr) (k_b : ClassId) (h0 : Heap) (n0 : Nat) (Z0 : n0 ≤ h0.size) (F_intIndices_a0 : Fld Z h0 a0 "com/example/penstock/penstock/Design" "intIndices" "[I" .null) (F_byteIndices_a0 : Fld Z h0 a0 "com/example/penstock/penstock/Design" "byteIndices" "[B" (.ref b)) (V_b : Arv Z h0 b k_b .byte (0 : Int32) [] (.int (0 : Int32))) :
    MetFree l (⟨"com/example/penstock/penstock/Design", "sizeIndices", "()[I"⟩ : MethodName) (head1 (Jvm.Cond.code (⟨"com/example/penstock/penstock/Design", "sizeIndices", "()[I"⟩ : MethodName) prog_9_method_3_code 3 (some (.array .int)) :: ws) ({ frames := 0, cells := 1, slots := 0, locals := 0 } : Room)) (fun a U => a = #[(.ref a0)] ∧ Z.Warmed39 U.vm ∧ U.heap = h0) (fun _ _ _ _ _ => True) (fun _ U o U' => ∃ v L, o = .returned v ∧ own_Q4b0 Z a0 b k_b h0 n0 v U'.heap L ∧ FrameEnd U o U' L ({ frames := 0, cells := 1, slots := 0, locals := 0 } : Room).cells ({ frames := 0, cells := 1, slots := 0, locals := 0 } : Room).slots) := by
  refine MetFree.of_bodySF (plainFor_of_name own_pn1) hisR ?_
  intro p e s m args below meth c s₁ Bd hml0 hP hK
  obtain ⟨rfl, hZ, hh⟩ := hP
  have hx := Bd.exec
  have hby := Bd.bytes
  have hml : c.maxLocals = 3 := hml0
  have hown : s.vm.findClass "com/example/penstock/penstock/Design" = some m.cls := findClass_of_methodNamed Bd.named
  have hnm := (name_of_methodNamed Bd.named Bd.method).1
  have X0 : Stand p l e ({ frames := 0, cells := 1, slots := 0, locals := 0 } : Room) s m #[(.ref a0)] below meth c s₁ [] 0 0 := Stand.of_body Bd
  have e0 : s₁.heap = h0 := by rw [← hh, Bd.state]; rfl
  have N0 := Fr.nil n0
  have pre0 : ∀ t, Steps p.tables e below (s₁.setTop (mkF m 0 #[oa a0, .unset, .unset] [])) t → Steps p.tables e below (s₁.setTop (entryFrame m #[(.ref a0)] 3)) t := fun t k => castTop (own_ef4b0 m a0) k
  obtain ⟨T1, X1, e1, st1⟩ := getF X0 hx hZ hown (host := "") (Or.inl (hw _ (List.mem_of_getElem? (i := 13) rfl))) Via.refl e0 F_intIndices_a0 (g := (mkF m 1 #[oa a0, .unset, .unset] [(.ref a0)])) rfl rfl (hb hby own_d4_1)
  obtain ⟨T2, X2, e2, st2⟩ := getF X1 hx hZ hown (host := "") (Or.inl (hw _ (List.mem_of_getElem? (i := 11) rfl))) Via.refl e1 F_byteIndices_a0 (g := (mkF m 19 #[oa a0, .unset, .unset] [(.ref a0)])) rfl rfl (hb hby own_d4_19)
  obtain ⟨T3, h3, k3, X3, e3, E3, A3, B3, st3⟩ := newPE X2 hx hZ (hw _ (List.mem_of_getElem? (i := 0) rfl)) e2 (g := (mkF m 23 #[oa a0, .unset, .unset] [(.int (0 : Int32))])) rfl (hb hby own_d4_23) rfl (by decide) (cap := 0) (by decide) (by decide) (by decide) (by decide) (ad := "[I") rfl
  obtain ⟨b3, g3⟩ : ∃ z, z = h0.size := ⟨_, rfl⟩
  rw [← g3] at A3 st3 B3
  have g_b3 : n0 ≤ b3 := Nat.le_trans Z0 (Nat.le_of_eq g3.symm)
  have ne4 : a0 ≠ b3 := Nat.ne_of_lt (Nat.lt_of_lt_of_le F_intIndices_a0.lt (Nat.le_of_eq g3.symm))
  have ne5 : b ≠ b3 := Nat.ne_of_lt (Nat.lt_of_lt_of_le V_b.lt (Nat.le_of_eq g3.symm))
  have Z3 : n0 ≤ h3.size := Nat.le_trans Z0 E3.1
  have sz_b3 : h0.size ≤ b3 := Nat.le_trans (Keep.refl h0 []).1 (Nat.le_of_eq g3.symm)
  have K_6 : Keep h0 h3 [] := (Keep.refl h0 []).ext E3
  have F7 := F_intIndices_a0.ext E3
  have F8 := F_byteIndices_a0.ext E3
  have F9 := V_b.ext E3
  have V_10 : Arv Z h3 b3 k3 .int (0 : Int32) [] (.int (0 : Int32)) := (Arv.new A3 (by decide))
  have b11 : ¬ ((0 : Int32) < (0 : Int32)) := (by decide)
  obtain ⟨fs, hr, hrun, hended, hW, hsame⟩ := X3.leave (v := (some (.ref b3))) (fun h => by rw [Bd.returns] at h; cases h)
  refine ⟨_, _, pre0 _ ?_, hrun, hended, _, _, rfl, ?_, ⟨_, rfl⟩, hW, hsame.mono (by decide) (by decide)⟩
  · show oS p e below s₁ m 0 #[oa a0, .unset, .unset] [] _
    refine XS.aloadN X0.here hx rfl (hb hby own_d4_0) rfl rfl ?_
    show oS p e below s₁ m 1 #[oa a0, .unset, .unset] [(.ref a0)] _
    refine st1 _ ?_
    show oS p e below T1 m 4 #[oa a0, .unset, .unset] [.null] _
    refine XS.ifnullYes X1.here hx rfl (pc0 := 4) (pc' := 18) rfl (hb hby own_d4_4) rfl (by decide) (by decide) ?_
    show oS p e below T1 m 18 #[oa a0, .unset, .unset] [] _
    refine XS.aloadN X1.here hx rfl (hb hby own_d4_18) rfl rfl ?_
    show oS p e below T1 m 19 #[oa a0, .unset, .unset] [(.ref a0)] _
    refine st2 _ ?_
    show oS p e below T2 m 22 #[oa a0, .unset, .unset] [(.ref b)] _
    refine oLen X2 hx hZ e2 V_b (hb hby own_d4_22) ?_
    show oS p e below T2 m 23 #[oa a0, .unset, .unset] [(.int (0 : Int32))] _
    refine st3 _ ?_
    show oS p e below T3 m 25 #[oa a0, .unset, .unset] [(.ref b3)] _
    refine XS.astoreN X3.here hx rfl (hb hby own_d4_25) rfl rfl (l' := #[oa a0, oa b3, .unset]) rfl ?_
    show oS p e below T3 m 26 #[oa a0, oa b3, .unset] [] _
    refine XS.iconst X3.here hx rfl (hb hby own_d4_26) ?_
    show oS p e below T3 m 27 #[oa a0, oa b3, .unset] [(.int (0 : Int32))] _
    refine XS.istoreN X3.here hx rfl (hb hby own_d4_27) rfl (l' := #[oa a0, oa b3, oi (0 : Int32)]) rfl ?_
    show oS p e below T3 m 28 #[oa a0, oa b3, oi (0 : Int32)] [] _
    refine XS.iloadN X3.here hx rfl (hb hby own_d4_28) rfl ?_
    show oS p e below T3 m 29 #[oa a0, oa b3, oi (0 : Int32)] [(.int (0 : Int32))] _
    refine XS.aloadN X3.here hx rfl (hb hby own_d4_29) rfl rfl ?_
    show oS p e below T3 m 30 #[oa a0, oa b3, oi (0 : Int32)] [(.ref b3), (.int (0 : Int32))] _
    refine oLen X3 hx hZ e3 V_10 (hb hby own_d4_30) ?_
    show oS p e below T3 m 31 #[oa a0, oa b3, oi (0 : Int32)] [(.int (0 : Int32)), (.int (0 : Int32))] _
    refine XS.icmpYes X3.here hx rfl (pc0 := 31) (pc' := 53) rfl (hb hby own_d4_31) rfl (flt b11).2.1 (by decide) (by decide) ?_
    show oS p e below T3 m 53 #[oa a0, oa b3, oi (0 : Int32)] [] _
    refine XS.aloadN X3.here hx rfl (hb hby own_d4_53) rfl rfl ?_
    show oS p e below T3 m 54 #[oa a0, oa b3, oi (0 : Int32)] [(.ref b3)] _
    exact retOut X3 hx Bd.returns rfl (Or.inr (Or.inr (Or.inr (Or.inr ⟨rfl, rfl, rfl⟩)))) (hb hby own_d4_54) hr
  · show own_Q4b0 Z a0 b k_b h0 n0 _ T3.heap _
    rw [e3]
    exact ⟨b3, k3, rfl, N0, K_6, sz_b3, V_10⟩
theorem own_d4_34 : decode prog_9_method_3_code 34 = .ok (.aload_n 1, 1) := by decide +kernel
theorem own_d4_35 : decode prog_9_method_3_code 35 = .ok (.iload_n 2, 1) := by decide +kernel
theorem own_d4_36 : decode prog_9_method_3_code 36 = .ok (.aload_n 0, 1) := by decide +kernel
theorem own_d4_37 : decode prog_9_method_3_code 37 = .ok (.getfield 9, 3) := by decide +kernel
theorem own_d4_40 : decode prog_9_method_3_code 40 = .ok (.iload_n 2, 1) := by decide +kernel
theorem own_d4_41 : decode prog_9_method_3_code 41 = .ok (.baload, 1) := by decide +kernel
theorem own_d4_42 : decode prog_9_method_3_code 42 = .ok (.sipush 255, 3) := by decide +kernel
theorem own_d4_45 : decode prog_9_method_3_code 45 = .ok (.iand, 1) := by decide +kernel
theorem own_d4_46 : decode prog_9_method_3_code 46 = .ok (.iastore, 1) := by decide +kernel
theorem own_d4_47 : decode prog_9_method_3_code 47 = .ok (.iinc 2 1, 3) := by decide +kernel
theorem own_d4_50 : decode prog_9_method_3_code 50 = .ok (.goto (-22), 3) := by decide +kernel
theorem own_ef4b1 (m : MethodId) (a0 : Addr) : entryFrame m #[(.ref a0)] 3 = mkF m 0 #[oa a0, .unset, .unset] [] := by first | (simp [entryFrame, mkF, argsToLocals, Value.category]; done) | rfl
def own_Q4b1 (Z : State) (a0 : Addr) (b : Addr) (k_b : ClassId) (y0 : Int32) (h0 : Heap) (n0 : Nat) (v : Option Value) (h : Heap) (L : List Loc) : Prop := ∃ (r : Addr) (k_r : ClassId), v = some (.ref r) ∧ Fr n0 L ∧ Keep h0 h [] ∧ h0.size ≤ r ∧ Arv Z h r k_r .int (1 : Int32) [(.int (y0 &&& (255 : Int32)))] (.int (0 : Int32))
set_option maxRecDepth 65536 in
set_option maxHeartbeats 40000000 in
theorem own_rm4b1 (l : Launch) (Z : State) (av : Array Value) (hw : ∀ d ∈ tables_1, d.before av Z = true) (ws : List Jvm.Cond) (a0 : Addr) (b : Addr) (k_b : ClassId) (y0 : Int32) (h0 : Heap) (n0 : Nat) (Z0 : n0 ≤ h0.size) (F_intIndices_a0 : Fld Z h0 a0 "com/example/penstock/penstock/Design" "intIndices" "[I" .null) (F_byteIndices_a0 : Fld Z h0 a0 "com/example/penstock/penstock/Design" "byteIndices" "[B" (.ref b)) (V_b : Arv Z h0 b k_b .byte (1 : Int32) [(.int y0)] (.int (0 : Int32))) :
    MetFree l (⟨"com/example/penstock/penstock/Design", "sizeIndices", "()[I"⟩ : MethodName) (head1 (Jvm.Cond.code (⟨"com/example/penstock/penstock/Design", "sizeIndices", "()[I"⟩ : MethodName) prog_9_method_3_code 3 (some (.array .int)) :: ws) ({ frames := 0, cells := 1, slots := 1, locals := 0 } : Room)) (fun a U => a = #[(.ref a0)] ∧ Z.Warmed39 U.vm ∧ U.heap = h0) (fun _ _ _ _ _ => True) (fun _ U o U' => ∃ v L, o = .returned v ∧ own_Q4b1 Z a0 b k_b y0 h0 n0 v U'.heap L ∧ FrameEnd U o U' L ({ frames := 0, cells := 1, slots := 1, locals := 0 } : Room).cells ({ frames := 0, cells := 1, slots := 1, locals := 0 } : Room).slots) := by
  refine MetFree.of_bodySF (plainFor_of_name own_pn1) hisR ?_
  intro p e s m args below meth c s₁ Bd hml0 hP hK
  obtain ⟨rfl, hZ, hh⟩ := hP
  have hx := Bd.exec
  have hby := Bd.bytes
  have hml : c.maxLocals = 3 := hml0
  have hown : s.vm.findClass "com/example/penstock/penstock/Design" = some m.cls := findClass_of_methodNamed Bd.named
  have hnm := (name_of_methodNamed Bd.named Bd.method).1
  have X0 : Stand p l e ({ frames := 0, cells := 1, slots := 1, locals := 0 } : Room) s m #[(.ref a0)] below meth c s₁ [] 0 0 := Stand.of_body Bd
  have e0 : s₁.heap = h0 := by rw [← hh, Bd.state]; rfl
  have N0 := Fr.nil n0
  have pre0 : ∀ t, Steps p.tables e below (s₁.setTop (mkF m 0 #[oa a0, .unset, .unset] [])) t → Steps p.tables e below (s₁.setTop (entryFrame m #[(.ref a0)] 3)) t := fun t k => castTop (own_ef4b1 m a0) k
  obtain ⟨T1, X1, e1, st1⟩ := getF X0 hx hZ hown (host := "") (Or.inl (hw _ (List.mem_of_getElem? (i := 13) rfl))) Via.refl e0 F_intIndices_a0 (g := (mkF m 1 #[oa a0, .unset, .unset] [(.ref a0)])) rfl rfl (hb hby own_d4_1)
  obtain ⟨T2, X2, e2, st2⟩ := getF X1 hx hZ hown (host := "") (Or.inl (hw _ (List.mem_of_getElem? (i := 11) rfl))) Via.refl e1 F_byteIndices_a0 (g := (mkF m 19 #[oa a0, .unset, .unset] [(.ref a0)])) rfl rfl (hb hby own_d4_19)
  obtain ⟨T3, h3, k3, X3, e3, E3, A3, B3, st3⟩ := newPE X2 hx hZ (hw _ (List.mem_of_getElem? (i := 0) rfl)) e2 (g := (mkF m 23 #[oa a0, .unset, .unset] [(.int (1 : Int32))])) rfl (hb hby own_d4_23) rfl (by decide) (cap := 1) (by decide) (by decide) (by decide) (by decide) (ad := "[I") rfl
  obtain ⟨b3, g3⟩ : ∃ z, z = h0.size := ⟨_, rfl⟩
  rw [← g3] at A3 st3 B3
  have g_b3 : n0 ≤ b3 := Nat.le_trans Z0 (Nat.le_of_eq g3.symm)
  have ne4 : a0 ≠ b3 := Nat.ne_of_lt (Nat.lt_of_lt_of_le F_intIndices_a0.lt (Nat.le_of_eq g3.symm))
  have ne5 : b ≠ b3 := Nat.ne_of_lt (Nat.lt_of_lt_of_le V_b.lt (Nat.le_of_eq g3.symm))
  have Z3 : n0 ≤ h3.size := Nat.le_trans Z0 E3.1
  have sz_b3 : h0.size ≤ b3 := Nat.le_trans (Keep.refl h0 []).1 (Nat.le_of_eq g3.symm)
  have K_6 : Keep h0 h3 [] := (Keep.refl h0 []).ext E3
  have F7 := F_intIndices_a0.ext E3
  have F8 := F_byteIndices_a0.ext E3
  have F9 := V_b.ext E3
  have V_10 : Arv Z h3 b3 k3 .int (1 : Int32) [(.int (0 : Int32))] (.int (0 : Int32)) := (Arv.new A3 (by decide)).pad (pad_rep [] (.int (0 : Int32)) 1)
  have b11 : (0 : Int32) < (1 : Int32) := (by decide)
  obtain ⟨T12, X12, e12, st12⟩ := getF X3 hx hZ hown (host := "") (Or.inl (hw _ (List.mem_of_getElem? (i := 11) rfl))) Via.refl e3 F8 (g := (mkF m 37 #[oa a0, oa b3, oi (0 : Int32)] [(.ref a0), (.int (0 : Int32)), (.ref b3)])) rfl rfl (hb hby own_d4_37)
  obtain ⟨T13, h13, X13, e13, W13, V13, st13⟩ := oStI X12 hx hZ e12 V_10 (j := (0 : Int32)) ⟨by decide, by decide⟩ 0 rfl (Nat.le_of_ble_eq_true rfl) (g := (mkF m 46 #[oa a0, oa b3, oi (0 : Int32)] [(.int (y0 &&& (255 : Int32))), (.int (0 : Int32)), (.ref b3)])) rfl rfl (hb hby own_d4_46)
  obtain ⟨Lo13, X13, N13⟩ := oOpq X13 (Fr.snoc X13 N0 g_b3)
  have Z13 := Nat.le_trans Z3 (Keep.of_wr W13).1
  have F14 := F7.other W13 (Or.inl ne4)
  have F15 := F8.other W13 (Or.inl ne4)
  have F16 := F9.other W13 ne5
  have F17 := B3.wr W13
  have V_18 : Arv Z h13 b3 k3 .int (1 : Int32) [(.int (y0 &&& (255 : Int32)))] (.int (0 : Int32)) := V13
  have K_19 : Keep h0 h13 [] := K_6.wr W13 (Or.inr sz_b3)
  have b20 : ¬ ((1 : Int32) < (1 : Int32)) := (by decide)
  obtain ⟨fs, hr, hrun, hended, hW, hsame⟩ := X13.leave (v := (some (.ref b3))) (fun h => by rw [Bd.returns] at h; cases h)
  refine ⟨_, _, pre0 _ ?_, hrun, hended, _, _, rfl, ?_, ⟨_, rfl⟩, hW, hsame.mono (by decide) (by decide)⟩
  · show oS p e below s₁ m 0 #[oa a0, .unset, .unset] [] _
    refine XS.aloadN X0.here hx rfl (hb hby own_d4_0) rfl rfl ?_
    show oS p e below s₁ m 1 #[oa a0, .unset, .unset] [(.ref a0)] _
    refine st1 _ ?_
    show oS p e below T1 m 4 #[oa a0, .unset, .unset] [.null] _
    refine XS.ifnullYes X1.here hx rfl (pc0 := 4) (pc' := 18) rfl (hb hby own_d4_4) rfl (by decide) (by decide) ?_
    show oS p e below T1 m 18 #[oa a0, .unset, .unset] [] _
    refine XS.aloadN X1.here hx rfl (hb hby own_d4_18) rfl rfl ?_
    show oS p e below T1 m 19 #[oa a0, .unset, .unset] [(.ref a0)] _
    refine st2 _ ?_
    show oS p e below T2 m 22 #[oa a0, .unset, .unset] [(.ref b)] _
    refine oLen X2 hx hZ e2 V_b (hb hby own_d4_22) ?_
    show oS p e below T2 m 23 #[oa a0, .unset, .unset] [(.int (1 : Int32))] _
    refine st3 _ ?_
    show oS p e below T3 m 25 #[oa a0, .unset, .unset] [(.ref b3)] _
    refine XS.astoreN X3.here hx rfl (hb hby own_d4_25) rfl rfl (l' := #[oa a0, oa b3, .unset]) rfl ?_
    show oS p e below T3 m 26 #[oa a0, oa b3, .unset] [] _
    refine XS.iconst X3.here hx rfl (hb hby own_d4_26) ?_
    show oS p e below T3 m 27 #[oa a0, oa b3, .unset] [(.int (0 : Int32))] _
    refine XS.istoreN X3.here hx rfl (hb hby own_d4_27) rfl (l' := #[oa a0, oa b3, oi (0 : Int32)]) rfl ?_
    show oS p e below T3 m 28 #[oa a0, oa b3, oi (0 : Int32)] [] _
    refine XS.iloadN X3.here hx rfl (hb hby own_d4_28) rfl ?_
    show oS p e below T3 m 29 #[oa a0, oa b3, oi (0 : Int32)] [(.int (0 : Int32))] _
    refine XS.aloadN X3.here hx rfl (hb hby own_d4_29) rfl rfl ?_
    show oS p e below T3 m 30 #[oa a0, oa b3, oi (0 : Int32)] [(.ref b3), (.int (0 : Int32))] _
    refine oLen X3 hx hZ e3 V_10 (hb hby own_d4_30) ?_
    show oS p e below T3 m 31 #[oa a0, oa b3, oi (0 : Int32)] [(.int (1 : Int32)), (.int (0 : Int32))] _
    refine XS.icmpNo X3.here hx rfl (hb hby own_d4_31) rfl (tlt b11).2.1 ?_
    show oS p e below T3 m 34 #[oa a0, oa b3, oi (0 : Int32)] [] _
    refine XS.aloadN X3.here hx rfl (hb hby own_d4_34) rfl rfl ?_
    show oS p e below T3 m 35 #[oa a0, oa b3, oi (0 : Int32)] [(.ref b3)] _
    refine XS.iloadN X3.here hx rfl (hb hby own_d4_35) rfl ?_
    show oS p e below T3 m 36 #[oa a0, oa b3, oi (0 : Int32)] [(.int (0 : Int32)), (.ref b3)] _
    refine XS.aloadN X3.here hx rfl (hb hby own_d4_36) rfl rfl ?_
    show oS p e below T3 m 37 #[oa a0, oa b3, oi (0 : Int32)] [(.ref a0), (.int (0 : Int32)), (.ref b3)] _
    refine st12 _ ?_
    show oS p e below T12 m 40 #[oa a0, oa b3, oi (0 : Int32)] [(.ref b), (.int (0 : Int32)), (.ref b3)] _
    refine XS.iloadN X12.here hx rfl (hb hby own_d4_40) rfl ?_
    show oS p e below T12 m 41 #[oa a0, oa b3, oi (0 : Int32)] [(.int (0 : Int32)), (.ref b), (.int (0 : Int32)), (.ref b3)] _
    refine oLdB X12 hx hZ e12 F9 (v := (.int y0)) ⟨by decide, by decide⟩ rfl (hb hby own_d4_41) ?_
    show oS p e below T12 m 42 #[oa a0, oa b3, oi (0 : Int32)] [(.int y0), (.int (0 : Int32)), (.ref b3)] _
    refine XS.sipush X12.here hx rfl (hb hby own_d4_42) ?_
    show oS p e below T12 m 45 #[oa a0, oa b3, oi (0 : Int32)] [(.int (255 : Int32)), (.int y0), (.int (0 : Int32)), (.ref b3)] _
    refine XS.iand X12.here hx rfl (hb hby own_d4_45) rfl ?_
    show oS p e below T12 m 46 #[oa a0, oa b3, oi (0 : Int32)] [(.int (y0 &&& (255 : Int32))), (.int (0 : Int32)), (.ref b3)] _
    refine st13 _ ?_
    show oS p e below T13 m 47 #[oa a0, oa b3, oi (0 : Int32)] [] _
    refine XS.iinc X13.here hx rfl (hb hby own_d4_47) rfl (l' := #[oa a0, oa b3, oi (1 : Int32)]) rfl ?_
    show oS p e below T13 m 50 #[oa a0, oa b3, oi (1 : Int32)] [] _
    refine XS.goto X13.here hx rfl (pc0 := 50) (pc' := 28) rfl (hb hby own_d4_50) (by decide) (by decide) ?_
    show oS p e below T13 m 28 #[oa a0, oa b3, oi (1 : Int32)] [] _
    refine XS.iloadN X13.here hx rfl (hb hby own_d4_28) rfl ?_
    show oS p e below T13 m 29 #[oa a0, oa b3, oi (1 : Int32)] [(.int (1 : Int32))] _
    refine XS.aloadN X13.here hx rfl (hb hby own_d4_29) rfl rfl ?_
    show oS p e below T13 m 30 #[oa a0, oa b3, oi (1 : Int32)] [(.ref b3), (.int (1 : Int32))] _
    refine oLen X13 hx hZ e13 V_18 (hb hby own_d4_30) ?_
    show oS p e below T13 m 31 #[oa a0, oa b3, oi (1 : Int32)] [(.int (1 : Int32)), (.int (1 : Int32))] _
    refine XS.icmpYes X13.here hx rfl (pc0 := 31) (pc' := 53) rfl (hb hby own_d4_31) rfl (flt b20).2.1 (by decide) (by decide) ?_
    show oS p e below T13 m 53 #[oa a0, oa b3, oi (1 : Int32)] [] _
    refine XS.aloadN X13.here hx rfl (hb hby own_d4_53) rfl rfl ?_
    show oS p e below T13 m 54 #[oa a0, oa b3, oi (1 : Int32)] [(.ref b3)] _
    exact retOut X13 hx Bd.returns rfl (Or.inr (Or.inr (Or.inr (Or.inr ⟨rfl, rfl, rfl⟩)))) (hb hby own_d4_54) hr
  · show own_Q4b1 Z a0 b k_b y0 h0 n0 _ T13.heap _
    rw [e13]
    exact ⟨b3, k3, rfl, N13, K_19, sz_b3, V_18⟩
theorem own_d4_7 : decode prog_9_method_3_code 7 = .ok (.aload_n 0, 1) := by decide +kernel
theorem own_d4_8 : decode prog_9_method_3_code 8 = .ok (.getfield 13, 3) := by decide +kernel
theorem own_d4_11 : decode prog_9_method_3_code 11 = .ok (.invokevirtual 17, 3) := by decide +kernel
theorem own_d4_14 : decode prog_9_method_3_code 14 = .ok (.checkcast 18, 3) := by decide +kernel
theorem own_d4_17 : decode prog_9_method_3_code 17 = .ok (.areturn, 1) := by decide +kernel
theorem own_ef4i1 (m : MethodId) (a0 : Addr) : entryFrame m #[(.ref a0)] 3 = mkF m 0 #[oa a0, .unset, .unset] [] := by first | (simp [entryFrame, mkF, argsToLocals, Value.category]; done) | rfl
def own_Q4i1 (Z : State) (a0 : Addr) (b : Addr) (k_b : ClassId) (y0 : Int32) (h0 : Heap) (n0 : Nat) (v : Option Value) (h : Heap) (L : List Loc) : Prop := ∃ (r : Addr) (k_r : ClassId), v = some (.ref r) ∧ Fr n0 L ∧ Keep h0 h [] ∧ h0.size ≤ r ∧ Arv Z h r k_r .int (1 : Int32) [(.int y0)] (.int (0 : Int32))
set_option maxRecDepth 65536 in
set_option maxHeartbeats 40000000 in
theorem own_rm4i1 (l : Launch) (Z : State) (av : Array Value) (hw : ∀ d ∈ tables_1, d.before av Z = true) (ws : List Jvm.Cond) (a0 : Addr) (b : Addr) (k_b : ClassId) (y0 : Int32) (h0 : Heap) (n0 : Nat) (Z0 : n0 ≤ h0.size) (F_intIndices_a0 : Fld Z h0 a0 "com/example/penstock/penstock/Design" "intIndices" "[I" (.ref b)) (E_b : Exa Z h0 b "[I") (V_b : Arv Z h0 b k_b .int (1 : Int32) [(.int y0)] (.int (0 : Int32))) :
    MetFree l (⟨"com/example/penstock/penstock/Design", "sizeIndices", "()[I"⟩ : MethodName) (head1 (Jvm.Cond.code (⟨"com/example/penstock/penstock/Design", "sizeIndices", "()[I"⟩ : MethodName) prog_9_method_3_code 3 (some (.array .int)) :: ws) ({ frames := 1, cells := 1, slots := 1, locals := 14 } : Room)) (fun a U => a = #[(.ref a0)] ∧ Z.Warmed39 U.vm ∧ U.heap = h0) (fun _ _ _ _ _ => True) (fun _ U o U' => ∃ v L, o = .returned v ∧ own_Q4i1 Z a0 b k_b y0 h0 n0 v U'.heap L ∧ FrameEnd U o U' L ({ frames := 1, cells := 1, slots := 1, locals := 14 } : Room).cells ({ frames := 1, cells := 1, slots := 1, locals := 14 } : Room).slots) := by
  refine MetFree.of_bodySF (plainFor_of_name own_pn1) hisR ?_
  intro p e s m args below meth c s₁ Bd hml0 hP hK
  obtain ⟨rfl, hZ, hh⟩ := hP
  have hx := Bd.exec
  have hby := Bd.bytes
  have hml : c.maxLocals = 3 := hml0
  have hown : s.vm.findClass "com/example/penstock/penstock/Design" = some m.cls := findClass_of_methodNamed Bd.named
  have hnm := (name_of_methodNamed Bd.named Bd.method).1
  have X0 : Stand p l e ({ frames := 1, cells := 1, slots := 1, locals := 14 } : Room) s m #[(.ref a0)] below meth c s₁ [] 0 0 := Stand.of_body Bd
  have e0 : s₁.heap = h0 := by rw [← hh, Bd.state]; rfl
  have N0 := Fr.nil n0
  have pre0 : ∀ t, Steps p.tables e below (s₁.setTop (mkF m 0 #[oa a0, .unset, .unset] [])) t → Steps p.tables e below (s₁.setTop (entryFrame m #[(.ref a0)] 3)) t := fun t k => castTop (own_ef4i1 m a0) k
  obtain ⟨T1, X1, e1, st1⟩ := getF X0 hx hZ hown (host := "") (Or.inl (hw _ (List.mem_of_getElem? (i := 13) rfl))) Via.refl e0 F_intIndices_a0 (g := (mkF m 1 #[oa a0, .unset, .unset] [(.ref a0)])) rfl rfl (hb hby own_d4_1)
  obtain ⟨T2, X2, e2, st2⟩ := getF X1 hx hZ hown (host := "") (Or.inl (hw _ (List.mem_of_getElem? (i := 13) rfl))) Via.refl e1 F_intIndices_a0 (g := (mkF m 8 #[oa a0, .unset, .unset] [(.ref a0)])) rfl rfl (hb hby own_d4_8)
  obtain ⟨T3, h3, X3, e3, E3, A3, B3, st3⟩ := cloneH X2 hx hZ hown (hw _ (List.mem_of_getElem? (i := 35) rfl)) (hw _ (List.mem_of_getElem? (i := 36) rfl)) (hw _ (List.mem_of_getElem? (i := 40) rfl)) (hw _ (List.mem_of_getElem? (i := 38) rfl)) (hw _ (List.mem_of_getElem? (i := 39) rfl)) (hw _ (List.mem_of_getElem? (i := 41) rfl)) e2 (Arv.arh V_b) E_b (g := (mkF m 11 #[oa a0, .unset, .unset] [(.ref b)])) rfl (by rw [hml]; rfl) rfl (hb hby own_d4_11) (by decide) (W := 0) (by show 2 * 0 + _ ≤ _; exact Nat.le_of_eq rfl) (by decide) (cap := 1) (by decide) (by decide) (by decide)
  obtain ⟨b3, g3⟩ : ∃ z, z = h0.size := ⟨_, rfl⟩
  rw [← g3] at A3 B3 st3
  have g_b3 : n0 ≤ b3 := Nat.le_trans Z0 (Nat.le_of_eq g3.symm)
  have ne4 : a0 ≠ b3 := Nat.ne_of_lt (Nat.lt_of_lt_of_le F_intIndices_a0.lt (Nat.le_of_eq g3.symm))
  have ne5 : b ≠ b3 := Nat.ne_of_lt (Nat.lt_of_lt_of_le E_b.lt (Nat.le_of_eq g3.symm))
  have Z3 : n0 ≤ h3.size := Nat.le_trans Z0 E3.1
  have sz_b3 : h0.size ≤ b3 := Nat.le_trans (Keep.refl h0 []).1 (Nat.le_of_eq g3.symm)
  have K_6 : Keep h0 h3 [] := (Keep.refl h0 []).ext E3
  have F7 := F_intIndices_a0.ext E3
  have F8 := E_b.ext E3
  have F9 := V_b.ext E3
  have V_10 : Arv Z h3 b3 k_b .int (1 : Int32) [(.int y0)] (.int (0 : Int32)) := A3
  obtain ⟨T11, X11, e11, st11⟩ := castY X3 hx hZ hown (hw _ (List.mem_of_getElem? (i := 42) rfl)) e3 (Ins.self B3) (g := (mkF m 14 #[oa a0, .unset, .unset] [(.ref b3)])) rfl rfl (hb hby own_d4_14)
  obtain ⟨fs, hr, hrun, hended, hW, hsame⟩ := X11.leave (v := (some (.ref b3))) (fun h => by rw [Bd.returns] at h; cases h)
  refine ⟨_, _, pre0 _ ?_, hrun, hended, _, _, rfl, ?_, ⟨_, rfl⟩, hW, hsame.mono (by decide) (by decide)⟩
  · show oS p e below s₁ m 0 #[oa a0, .unset, .unset] [] _
    refine XS.aloadN X0.here hx rfl (hb hby own_d4_0) rfl rfl ?_
    show oS p e below s₁ m 1 #[oa a0, .unset, .unset] [(.ref a0)] _
    refine st1 _ ?_
    show oS p e below T1 m 4 #[oa a0, .unset, .unset] [(.ref b)] _
    refine XS.ifnullNo X1.here hx rfl (hb hby own_d4_4) rfl ?_
    show oS p e below T1 m 7 #[oa a0, .unset, .unset] [] _
    refine XS.aloadN X1.here hx rfl (hb hby own_d4_7) rfl rfl ?_
    show oS p e below T1 m 8 #[oa a0, .unset, .unset] [(.ref a0)] _
    refine st2 _ ?_
    show oS p e below T2 m 11 #[oa a0, .unset, .unset] [(.ref b)] _
    refine st3 _ ?_
    show oS p e below T3 m 14 #[oa a0, .unset, .unset] [(.ref b3)] _
    refine st11 _ ?_
    show oS p e below T11 m 17 #[oa a0, .unset, .unset] [(.ref b3)] _
    exact retOut X11 hx Bd.returns rfl (Or.inr (Or.inr (Or.inr (Or.inr ⟨rfl, rfl, rfl⟩)))) (hb hby own_d4_17) hr
  · show own_Q4i1 Z a0 b k_b y0 h0 n0 _ T11.heap _
    rw [e11]
    exact ⟨b3, k_b, rfl, N0, K_6, sz_b3, V_10⟩
theorem own_ef4b2 (m : MethodId) (a0 : Addr) : entryFrame m #[(.ref a0)] 3 = mkF m 0 #[oa a0, .unset, .unset] [] := by first | (simp [entryFrame, mkF, argsToLocals, Value.category]; done) | rfl
def own_Q4b2 (Z : State) (a0 : Addr) (b : Addr) (k_b : ClassId) (y0 : Int32) (y1 : Int32) (h0 : Heap) (n0 : Nat) (v : Option Value) (h : Heap) (L : List Loc) : Prop := ∃ (r : Addr) (k_r : ClassId), v = some (.ref r) ∧ Fr n0 L ∧ Keep h0 h [] ∧ h0.size ≤ r ∧ Arv Z h r k_r .int (2 : Int32) [(.int (y0 &&& (255 : Int32))), (.int (y1 &&& (255 : Int32)))] (.int (0 : Int32))
set_option maxRecDepth 65536 in
set_option maxHeartbeats 40000000 in
theorem own_rm4b2 (l : Launch) (Z : State) (av : Array Value) (hw : ∀ d ∈ tables_1, d.before av Z = true) (ws : List Jvm.Cond) (a0 : Addr) (b : Addr) (k_b : ClassId) (y0 : Int32) (y1 : Int32) (h0 : Heap) (n0 : Nat) (Z0 : n0 ≤ h0.size) (F_intIndices_a0 : Fld Z h0 a0 "com/example/penstock/penstock/Design" "intIndices" "[I" .null) (F_byteIndices_a0 : Fld Z h0 a0 "com/example/penstock/penstock/Design" "byteIndices" "[B" (.ref b)) (V_b : Arv Z h0 b k_b .byte (2 : Int32) [(.int y0), (.int y1)] (.int (0 : Int32))) :
    MetFree l (⟨"com/example/penstock/penstock/Design", "sizeIndices", "()[I"⟩ : MethodName) (head1 (Jvm.Cond.code (⟨"com/example/penstock/penstock/Design", "sizeIndices", "()[I"⟩ : MethodName) prog_9_method_3_code 3 (some (.array .int)) :: ws) ({ frames := 0, cells := 1, slots := 2, locals := 0 } : Room)) (fun a U => a = #[(.ref a0)] ∧ Z.Warmed39 U.vm ∧ U.heap = h0) (fun _ _ _ _ _ => True) (fun _ U o U' => ∃ v L, o = .returned v ∧ own_Q4b2 Z a0 b k_b y0 y1 h0 n0 v U'.heap L ∧ FrameEnd U o U' L ({ frames := 0, cells := 1, slots := 2, locals := 0 } : Room).cells ({ frames := 0, cells := 1, slots := 2, locals := 0 } : Room).slots) := by
  refine MetFree.of_bodySF (plainFor_of_name own_pn1) hisR ?_
  intro p e s m args below meth c s₁ Bd hml0 hP hK
  obtain ⟨rfl, hZ, hh⟩ := hP
  have hx := Bd.exec
  have hby := Bd.bytes
  have hml : c.maxLocals = 3 := hml0
  have hown : s.vm.findClass "com/example/penstock/penstock/Design" = some m.cls := findClass_of_methodNamed Bd.named
  have hnm := (name_of_methodNamed Bd.named Bd.method).1
  have X0 : Stand p l e ({ frames := 0, cells := 1, slots := 2, locals := 0 } : Room) s m #[(.ref a0)] below meth c s₁ [] 0 0 := Stand.of_body Bd
  have e0 : s₁.heap = h0 := by rw [← hh, Bd.state]; rfl
  have N0 := Fr.nil n0
  have pre0 : ∀ t, Steps p.tables e below (s₁.setTop (mkF m 0 #[oa a0, .unset, .unset] [])) t → Steps p.tables e below (s₁.setTop (entryFrame m #[(.ref a0)] 3)) t := fun t k => castTop (own_ef4b2 m a0) k
  obtain ⟨T1, X1, e1, st1⟩ := getF X0 hx hZ hown (host := "") (Or.inl (hw _ (List.mem_of_getElem? (i := 13) rfl))) Via.refl e0 F_intIndices_a0 (g := (mkF m 1 #[oa a0, .unset, .unset] [(.ref a0)])) rfl rfl (hb hby own_d4_1)
  obtain ⟨T2, X2, e2, st2⟩ := getF X1 hx hZ hown (host := "") (Or.inl (hw _ (List.mem_of_getElem? (i := 11) rfl))) Via.refl e1 F_byteIndices_a0 (g := (mkF m 19 #[oa a0, .unset, .unset] [(.ref a0)])) rfl rfl (hb hby own_d4_19)
  obtain ⟨T3, h3, k3, X3, e3, E3, A3, B3, st3⟩ := newPE X2 hx hZ (hw _ (List.mem_of_getElem? (i := 0) rfl)) e2 (g := (mkF m 23 #[oa a0, .unset, .unset] [(.int (2 : Int32))])) rfl (hb hby own_d4_23) rfl (by decide) (cap := 2) (by decide) (by decide) (by decide) (by decide) (ad := "[I") rfl
  obtain ⟨b3, g3⟩ : ∃ z, z = h0.size := ⟨_, rfl⟩
  rw [← g3] at A3 st3 B3
  have g_b3 : n0 ≤ b3 := Nat.le_trans Z0 (Nat.le_of_eq g3.symm)
  have ne4 : a0 ≠ b3 := Nat.ne_of_lt (Nat.lt_of_lt_of_le F_intIndices_a0.lt (Nat.le_of_eq g3.symm))
  have ne5 : b ≠ b3 := Nat.ne_of_lt (Nat.lt_of_lt_of_le V_b.lt (Nat.le_of_eq g3.symm))
  have Z3 : n0 ≤ h3.size := Nat.le_trans Z0 E3.1
  have sz_b3 : h0.size ≤ b3 := Nat.le_trans (Keep.refl h0 []).1 (Nat.le_of_eq g3.symm)
  have K_6 : Keep h0 h3 [] := (Keep.refl h0 []).ext E3
  have F7 := F_intIndices_a0.ext E3
  have F8 := F_byteIndices_a0.ext E3
  have F9 := V_b.ext E3
  have V_10 : Arv Z h3 b3 k3 .int (2 : Int32) [(.int (0 : Int32)), (.int (0 : Int32))] (.int (0 : Int32)) := (Arv.new A3 (by decide)).pad (pad_rep [] (.int (0 : Int32)) 2)
  have b11 : (0 : Int32) < (2 : Int32) := (by decide)
  obtain ⟨T12, X12, e12, st12⟩ := getF X3 hx hZ hown (host := "") (Or.inl (hw _ (List.mem_of_getElem? (i := 11) rfl))) Via.refl e3 F8 (g := (mkF m 37 #[oa a0, oa b3, oi (0 : Int32)] [(.ref a0), (.int (0 : Int32)), (.ref b3)])) rfl rfl (hb hby own_d4_37)
  obtain ⟨T13, h13, X13, e13, W13, V13, st13⟩ := oStI X12 hx hZ e12 V_10 (j := (0 : Int32)) ⟨by decide, by decide⟩ 0 rfl (Nat.le_of_ble_eq_true rfl) (g := (mkF m 46 #[oa a0, oa b3, oi (0 : Int32)] [(.int (y0 &&& (255 : Int32))), (.int (0 : Int32)), (.ref b3)])) rfl rfl (hb hby own_d4_46)
  obtain ⟨Lo13, X13, N13⟩ := oOpq X13 (Fr.snoc X13 N0 g_b3)
  have Z13 := Nat.le_trans Z3 (Keep.of_wr W13).1
  have F14 := F7.other W13 (Or.inl ne4)
  have F15 := F8.other W13 (Or.inl ne4)
  have F16 := F9.other W13 ne5
  have F17 := B3.wr W13
  have V_18 : Arv Z h13 b3 k3 .int (2 : Int32) [(.int (y0 &&& (255 : Int32))), (.int (0 : Int32))] (.int (0 : Int32)) := V13
  have K_19 : Keep h0 h13 [] := K_6.wr W13 (Or.inr sz_b3)
  have b20 : (1 : Int32) < (2 : Int32) := (by decide)
  obtain ⟨T21, X21, e21, st21⟩ := getF X13 hx hZ hown (host := "") (Or.inl (hw _ (List.mem_of_getElem? (i := 11) rfl))) Via.refl e13 F15 (g := (mkF m 37 #[oa a0, oa b3, oi (1 : Int32)] [(.ref a0), (.int (1 : Int32)), (.ref b3)])) rfl rfl (hb hby own_d4_37)
  obtain ⟨T22, h22, X22, e22, W22, V22, st22⟩ := oStI X21 hx hZ e21 V_18 (j := (1 : Int32)) ⟨by decide, by decide⟩ 1 rfl (Nat.le_of_ble_eq_true rfl) (g := (mkF m 46 #[oa a0, oa b3, oi (1 : Int32)] [(.int (y1 &&& (255 : Int32))), (.int (1 : Int32)), (.ref b3)])) rfl rfl (hb hby own_d4_46)
  obtain ⟨Lo22, X22, N22⟩ := oOpq X22 (Fr.snoc X22 N13 g_b3)
  have Z22 := Nat.le_trans Z13 (Keep.of_wr W22).1
  have F23 := F14.other W22 (Or.inl ne4)
  have F24 := F15.other W22 (Or.inl ne4)
  have F25 := F16.other W22 ne5
  have F26 := F17.wr W22
  have V_27 : Arv Z h22 b3 k3 .int (2 : Int32) [(.int (y0 &&& (255 : Int32))), (.int (y1 &&& (255 : Int32)))] (.int (0 : Int32)) := V22
  have K_28 : Keep h0 h22 [] := K_19.wr W22 (Or.inr sz_b3)
  have b29 : ¬ ((2 : Int32) < (2 : Int32)) := (by decide)
  obtain ⟨fs, hr, hrun, hended, hW, hsame⟩ := X22.leave (v := (some (.ref b3))) (fun h => by rw [Bd.returns] at h; cases h)
  refine ⟨_, _, pre0 _ ?_, hrun, hended, _, _, rfl, ?_, ⟨_, rfl⟩, hW, hsame.mono (by decide) (by decide)⟩
  · show oS p e below s₁ m 0 #[oa a0, .unset, .unset] [] _
    refine XS.aloadN X0.here hx rfl (hb hby own_d4_0) rfl rfl ?_
    show oS p e below s₁ m 1 #[oa a0, .unset, .unset] [(.ref a0)] _
    refine st1 _ ?_
    show oS p e below T1 m 4 #[oa a0, .unset, .unset] [.null] _
    refine XS.ifnullYes X1.here hx rfl (pc0 := 4) (pc' := 18) rfl (hb hby own_d4_4) rfl (by decide) (by decide) ?_
    show oS p e below T1 m 18 #[oa a0, .unset, .unset] [] _
    refine XS.aloadN X1.here hx rfl (hb hby own_d4_18) rfl rfl ?_
    show oS p e below T1 m 19 #[oa a0, .unset, .unset] [(.ref a0)] _
    refine st2 _ ?_
    show oS p e below T2 m 22 #[oa a0, .unset, .unset] [(.ref b)] _
    refine oLen X2 hx hZ e2 V_b (hb hby own_d4_22) ?_
    show oS p e below T2 m 23 #[oa a0, .unset, .unset] [(.int (2 : Int32))] _
    refine st3 _ ?_
    show oS p e below T3 m 25 #[oa a0, .unset, .unset] [(.ref b3)] _
    refine XS.astoreN X3.here hx rfl (hb hby own_d4_25) rfl rfl (l' := #[oa a0, oa b3, .unset]) rfl ?_
    show oS p e below T3 m 26 #[oa a0, oa b3, .unset] [] _
    refine XS.iconst X3.here hx rfl (hb hby own_d4_26) ?_
    show oS p e below T3 m 27 #[oa a0, oa b3, .unset] [(.int (0 : Int32))] _
    refine XS.istoreN X3.here hx rfl (hb hby own_d4_27) rfl (l' := #[oa a0, oa b3, oi (0 : Int32)]) rfl ?_
    show oS p e below T3 m 28 #[oa a0, oa b3, oi (0 : Int32)] [] _
    refine XS.iloadN X3.here hx rfl (hb hby own_d4_28) rfl ?_
    show oS p e below T3 m 29 #[oa a0, oa b3, oi (0 : Int32)] [(.int (0 : Int32))] _
    refine XS.aloadN X3.here hx rfl (hb hby own_d4_29) rfl rfl ?_
    show oS p e below T3 m 30 #[oa a0, oa b3, oi (0 : Int32)] [(.ref b3), (.int (0 : Int32))] _
    refine oLen X3 hx hZ e3 V_10 (hb hby own_d4_30) ?_
    show oS p e below T3 m 31 #[oa a0, oa b3, oi (0 : Int32)] [(.int (2 : Int32)), (.int (0 : Int32))] _
    refine XS.icmpNo X3.here hx rfl (hb hby own_d4_31) rfl (tlt b11).2.1 ?_
    show oS p e below T3 m 34 #[oa a0, oa b3, oi (0 : Int32)] [] _
    refine XS.aloadN X3.here hx rfl (hb hby own_d4_34) rfl rfl ?_
    show oS p e below T3 m 35 #[oa a0, oa b3, oi (0 : Int32)] [(.ref b3)] _
    refine XS.iloadN X3.here hx rfl (hb hby own_d4_35) rfl ?_
    show oS p e below T3 m 36 #[oa a0, oa b3, oi (0 : Int32)] [(.int (0 : Int32)), (.ref b3)] _
    refine XS.aloadN X3.here hx rfl (hb hby own_d4_36) rfl rfl ?_
    show oS p e below T3 m 37 #[oa a0, oa b3, oi (0 : Int32)] [(.ref a0), (.int (0 : Int32)), (.ref b3)] _
    refine st12 _ ?_
    show oS p e below T12 m 40 #[oa a0, oa b3, oi (0 : Int32)] [(.ref b), (.int (0 : Int32)), (.ref b3)] _
    refine XS.iloadN X12.here hx rfl (hb hby own_d4_40) rfl ?_
    show oS p e below T12 m 41 #[oa a0, oa b3, oi (0 : Int32)] [(.int (0 : Int32)), (.ref b), (.int (0 : Int32)), (.ref b3)] _
    refine oLdB X12 hx hZ e12 F9 (v := (.int y0)) ⟨by decide, by decide⟩ rfl (hb hby own_d4_41) ?_
    show oS p e below T12 m 42 #[oa a0, oa b3, oi (0 : Int32)] [(.int y0), (.int (0 : Int32)), (.ref b3)] _
    refine XS.sipush X12.here hx rfl (hb hby own_d4_42) ?_
    show oS p e below T12 m 45 #[oa a0, oa b3, oi (0 : Int32)] [(.int (255 : Int32)), (.int y0), (.int (0 : Int32)), (.ref b3)] _
    refine XS.iand X12.here hx rfl (hb hby own_d4_45) rfl ?_
    show oS p e below T12 m 46 #[oa a0, oa b3, oi (0 : Int32)] [(.int (y0 &&& (255 : Int32))), (.int (0 : Int32)), (.ref b3)] _
    refine st13 _ ?_
    show oS p e below T13 m 47 #[oa a0, oa b3, oi (0 : Int32)] [] _
    refine XS.iinc X13.here hx rfl (hb hby own_d4_47) rfl (l' := #[oa a0, oa b3, oi (1 : Int32)]) rfl ?_
    show oS p e below T13 m 50 #[oa a0, oa b3, oi (1 : Int32)] [] _
    refine XS.goto X13.here hx rfl (pc0 := 50) (pc' := 28) rfl (hb hby own_d4_50) (by decide) (by decide) ?_
    show oS p e below T13 m 28 #[oa a0, oa b3, oi (1 : Int32)] [] _
    refine XS.iloadN X13.here hx rfl (hb hby own_d4_28) rfl ?_
    show oS p e below T13 m 29 #[oa a0, oa b3, oi (1 : Int32)] [(.int (1 : Int32))] _
    refine XS.aloadN X13.here hx rfl (hb hby own_d4_29) rfl rfl ?_
    show oS p e below T13 m 30 #[oa a0, oa b3, oi (1 : Int32)] [(.ref b3), (.int (1 : Int32))] _
    refine oLen X13 hx hZ e13 V_18 (hb hby own_d4_30) ?_
    show oS p e below T13 m 31 #[oa a0, oa b3, oi (1 : Int32)] [(.int (2 : Int32)), (.int (1 : Int32))] _
    refine XS.icmpNo X13.here hx rfl (hb hby own_d4_31) rfl (tlt b20).2.1 ?_
    show oS p e below T13 m 34 #[oa a0, oa b3, oi (1 : Int32)] [] _
    refine XS.aloadN X13.here hx rfl (hb hby own_d4_34) rfl rfl ?_
    show oS p e below T13 m 35 #[oa a0, oa b3, oi (1 : Int32)] [(.ref b3)] _
    refine XS.iloadN X13.here hx rfl (hb hby own_d4_35) rfl ?_
    show oS p e below T13 m 36 #[oa a0, oa b3, oi (1 : Int32)] [(.int (1 : Int32)), (.ref b3)] _
    refine XS.aloadN X13.here hx rfl (hb hby own_d4_36) rfl rfl ?_
    show oS p e below T13 m 37 #[oa a0, oa b3, oi (1 : Int32)] [(.ref a0), (.int (1 : Int32)), (.ref b3)] _
    refine st21 _ ?_
    show oS p e below T21 m 40 #[oa a0, oa b3, oi (1 : Int32)] [(.ref b), (.int (1 : Int32)), (.ref b3)] _
    refine XS.iloadN X21.here hx rfl (hb hby own_d4_40) rfl ?_
    show oS p e below T21 m 41 #[oa a0, oa b3, oi (1 : Int32)] [(.int (1 : Int32)), (.ref b), (.int (1 : Int32)), (.ref b3)] _
    refine oLdB X21 hx hZ e21 F16 (v := (.int y1)) ⟨by decide, by decide⟩ rfl (hb hby own_d4_41) ?_
    show oS p e below T21 m 42 #[oa a0, oa b3, oi (1 : Int32)] [(.int y1), (.int (1 : Int32)), (.ref b3)] _
    refine XS.sipush X21.here hx rfl (hb hby own_d4_42) ?_
    show oS p e below T21 m 45 #[oa a0, oa b3, oi (1 : Int32)] [(.int (255 : Int32)), (.int y1), (.int (1 : Int32)), (.ref b3)] _
    refine XS.iand X21.here hx rfl (hb hby own_d4_45) rfl ?_
    show oS p e below T21 m 46 #[oa a0, oa b3, oi (1 : Int32)] [(.int (y1 &&& (255 : Int32))), (.int (1 : Int32)), (.ref b3)] _
    refine st22 _ ?_
    show oS p e below T22 m 47 #[oa a0, oa b3, oi (1 : Int32)] [] _
    refine XS.iinc X22.here hx rfl (hb hby own_d4_47) rfl (l' := #[oa a0, oa b3, oi (2 : Int32)]) rfl ?_
    show oS p e below T22 m 50 #[oa a0, oa b3, oi (2 : Int32)] [] _
    refine XS.goto X22.here hx rfl (pc0 := 50) (pc' := 28) rfl (hb hby own_d4_50) (by decide) (by decide) ?_
    show oS p e below T22 m 28 #[oa a0, oa b3, oi (2 : Int32)] [] _
    refine XS.iloadN X22.here hx rfl (hb hby own_d4_28) rfl ?_
    show oS p e below T22 m 29 #[oa a0, oa b3, oi (2 : Int32)] [(.int (2 : Int32))] _
    refine XS.aloadN X22.here hx rfl (hb hby own_d4_29) rfl rfl ?_
    show oS p e below T22 m 30 #[oa a0, oa b3, oi (2 : Int32)] [(.ref b3), (.int (2 : Int32))] _
    refine oLen X22 hx hZ e22 V_27 (hb hby own_d4_30) ?_
    show oS p e below T22 m 31 #[oa a0, oa b3, oi (2 : Int32)] [(.int (2 : Int32)), (.int (2 : Int32))] _
    refine XS.icmpYes X22.here hx rfl (pc0 := 31) (pc' := 53) rfl (hb hby own_d4_31) rfl (flt b29).2.1 (by decide) (by decide) ?_
    show oS p e below T22 m 53 #[oa a0, oa b3, oi (2 : Int32)] [] _
    refine XS.aloadN X22.here hx rfl (hb hby own_d4_53) rfl rfl ?_
    show oS p e below T22 m 54 #[oa a0, oa b3, oi (2 : Int32)] [(.ref b3)] _
    exact retOut X22 hx Bd.returns rfl (Or.inr (Or.inr (Or.inr (Or.inr ⟨rfl, rfl, rfl⟩)))) (hb hby own_d4_54) hr
  · show own_Q4b2 Z a0 b k_b y0 y1 h0 n0 _ T22.heap _
    rw [e22]
    exact ⟨b3, k3, rfl, N22, K_28, sz_b3, V_27⟩
theorem own_ef4i2 (m : MethodId) (a0 : Addr) : entryFrame m #[(.ref a0)] 3 = mkF m 0 #[oa a0, .unset, .unset] [] := by first | (simp [entryFrame, mkF, argsToLocals, Value.category]; done) | rfl
def own_Q4i2 (Z : State) (a0 : Addr) (b : Addr) (k_b : ClassId) (y0 : Int32) (y1 : Int32) (h0 : Heap) (n0 : Nat) (v : Option Value) (h : Heap) (L : List Loc) : Prop := ∃ (r : Addr) (k_r : ClassId), v = some (.ref r) ∧ Fr n0 L ∧ Keep h0 h [] ∧ h0.size ≤ r ∧ Arv Z h r k_r .int (2 : Int32) [(.int y0), (.int y1)] (.int (0 : Int32))
set_option maxRecDepth 65536 in
set_option maxHeartbeats 40000000 in
theorem own_rm4i2 (l : Launch) (Z : State) (av : Array Value) (hw : ∀ d ∈ tables_1, d.before av Z = true) (ws : List Jvm.Cond) (a0 : Addr) (b : Addr) (k_b : ClassId) (y0 : Int32) (y1 : Int32) (h0 : Heap) (n0 : Nat) (Z0 : n0 ≤ h0.size) (F_intIndices_a0 : Fld Z h0 a0 "com/example/penstock/penstock/Design" "intIndices" "[I" (.ref b)) (E_b : Exa Z h0 b "[I") (V_b : Arv Z h0 b k_b .int (2 : Int32) [(.int y0), (.int y1)] (.int (0 : Int32))) :
    MetFree l (⟨"com/example/penstock/penstock/Design", "sizeIndices", "()[I"⟩ : MethodName) (head1 (Jvm.Cond.code (⟨"com/example/penstock/penstock/Design", "sizeIndices", "()[I"⟩ : MethodName) prog_9_method_3_code 3 (some (.array .int)) :: ws) ({ frames := 1, cells := 1, slots := 2, locals := 14 } : Room)) (fun a U => a = #[(.ref a0)] ∧ Z.Warmed39 U.vm ∧ U.heap = h0) (fun _ _ _ _ _ => True) (fun _ U o U' => ∃ v L, o = .returned v ∧ own_Q4i2 Z a0 b k_b y0 y1 h0 n0 v U'.heap L ∧ FrameEnd U o U' L ({ frames := 1, cells := 1, slots := 2, locals := 14 } : Room).cells ({ frames := 1, cells := 1, slots := 2, locals := 14 } : Room).slots) := by
  refine MetFree.of_bodySF (plainFor_of_name own_pn1) hisR ?_
  intro p e s m args below meth c s₁ Bd hml0 hP hK
  obtain ⟨rfl, hZ, hh⟩ := hP
  have hx := Bd.exec
  have hby := Bd.bytes
  have hml : c.maxLocals = 3 := hml0
  have hown : s.vm.findClass "com/example/penstock/penstock/Design" = some m.cls := findClass_of_methodNamed Bd.named
  have hnm := (name_of_methodNamed Bd.named Bd.method).1
  have X0 : Stand p l e ({ frames := 1, cells := 1, slots := 2, locals := 14 } : Room) s m #[(.ref a0)] below meth c s₁ [] 0 0 := Stand.of_body Bd
  have e0 : s₁.heap = h0 := by rw [← hh, Bd.state]; rfl
  have N0 := Fr.nil n0
  have pre0 : ∀ t, Steps p.tables e below (s₁.setTop (mkF m 0 #[oa a0, .unset, .unset] [])) t → Steps p.tables e below (s₁.setTop (entryFrame m #[(.ref a0)] 3)) t := fun t k => castTop (own_ef4i2 m a0) k
  obtain ⟨T1, X1, e1, st1⟩ := getF X0 hx hZ hown (host := "") (Or.inl (hw _ (List.mem_of_getElem? (i := 13) rfl))) Via.refl e0 F_intIndices_a0 (g := (mkF m 1 #[oa a0, .unset, .unset] [(.ref a0)])) rfl rfl (hb hby own_d4_1)
  obtain ⟨T2, X2, e2, st2⟩ := getF X1 hx hZ hown (host := "") (Or.inl (hw _ (List.mem_of_getElem? (i := 13) rfl))) Via.refl e1 F_intIndices_a0 (g := (mkF m 8 #[oa a0, .unset, .unset] [(.ref a0)])) rfl rfl (hb hby own_d4_8)
  obtain ⟨T3, h3, X3, e3, E3, A3, B3, st3⟩ := cloneH X2 hx hZ hown (hw _ (List.mem_of_getElem? (i := 35) rfl)) (hw _ (List.mem_of_getElem? (i := 36) rfl)) (hw _ (List.mem_of_getElem? (i := 40) rfl)) (hw _ (List.mem_of_getElem? (i := 38) rfl)) (hw _ (List.mem_of_getElem? (i := 39) rfl)) (hw _ (List.mem_of_getElem? (i := 41) rfl)) e2 (Arv.arh V_b) E_b (g := (mkF m 11 #[oa a0, .unset, .unset] [(.ref b)])) rfl (by rw [hml]; rfl) rfl (hb hby own_d4_11) (by decide) (W := 0) (by show 2 * 0 + _ ≤ _; exact Nat.le_of_eq rfl) (by decide) (cap := 2) (by decide) (by decide) (by decide)
  obtain ⟨b3, g3⟩ : ∃ z, z = h0.size := ⟨_, rfl⟩
  rw [← g3] at A3 B3 st3
  have g_b3 : n0 ≤ b3 := Nat.le_trans Z0 (Nat.le_of_eq g3.symm)
  have ne4 : a0 ≠ b3 := Nat.ne_of_lt (Nat.lt_of_lt_of_le F_intIndices_a0.lt (Nat.le_of_eq g3.symm))
  have ne5 : b ≠ b3 := Nat.ne_of_lt (Nat.lt_of_lt_of_le E_b.lt (Nat.le_of_eq g3.symm))
  have Z3 : n0 ≤ h3.size := Nat.le_trans Z0 E3.1
  have sz_b3 : h0.size ≤ b3 := Nat.le_trans (Keep.refl h0 []).1 (Nat.le_of_eq g3.symm)
  have K_6 : Keep h0 h3 [] := (Keep.refl h0 []).ext E3
  have F7 := F_intIndices_a0.ext E3
  have F8 := E_b.ext E3
  have F9 := V_b.ext E3
  have V_10 : Arv Z h3 b3 k_b .int (2 : Int32) [(.int y0), (.int y1)] (.int (0 : Int32)) := A3
  obtain ⟨T11, X11, e11, st11⟩ := castY X3 hx hZ hown (hw _ (List.mem_of_getElem? (i := 42) rfl)) e3 (Ins.self B3) (g := (mkF m 14 #[oa a0, .unset, .unset] [(.ref b3)])) rfl rfl (hb hby own_d4_14)
  obtain ⟨fs, hr, hrun, hended, hW, hsame⟩ := X11.leave (v := (some (.ref b3))) (fun h => by rw [Bd.returns] at h; cases h)
  refine ⟨_, _, pre0 _ ?_, hrun, hended, _, _, rfl, ?_, ⟨_, rfl⟩, hW, hsame.mono (by decide) (by decide)⟩
  · show oS p e below s₁ m 0 #[oa a0, .unset, .unset] [] _
    refine XS.aloadN X0.here hx rfl (hb hby own_d4_0) rfl rfl ?_
    show oS p e below s₁ m 1 #[oa a0, .unset, .unset] [(.ref a0)] _
    refine st1 _ ?_
    show oS p e below T1 m 4 #[oa a0, .unset, .unset] [(.ref b)] _
    refine XS.ifnullNo X1.here hx rfl (hb hby own_d4_4) rfl ?_
    show oS p e below T1 m 7 #[oa a0, .unset, .unset] [] _
    refine XS.aloadN X1.here hx rfl (hb hby own_d4_7) rfl rfl ?_
    show oS p e below T1 m 8 #[oa a0, .unset, .unset] [(.ref a0)] _
    refine st2 _ ?_
    show oS p e below T2 m 11 #[oa a0, .unset, .unset] [(.ref b)] _
    refine st3 _ ?_
    show oS p e below T3 m 14 #[oa a0, .unset, .unset] [(.ref b3)] _
    refine st11 _ ?_
    show oS p e below T11 m 17 #[oa a0, .unset, .unset] [(.ref b3)] _
    exact retOut X11 hx Bd.returns rfl (Or.inr (Or.inr (Or.inr (Or.inr ⟨rfl, rfl, rfl⟩)))) (hb hby own_d4_17) hr
  · show own_Q4i2 Z a0 b k_b y0 y1 h0 n0 _ T11.heap _
    rw [e11]
    exact ⟨b3, k_b, rfl, N0, K_6, sz_b3, V_10⟩
theorem own_ef4b3 (m : MethodId) (a0 : Addr) : entryFrame m #[(.ref a0)] 3 = mkF m 0 #[oa a0, .unset, .unset] [] := by first | (simp [entryFrame, mkF, argsToLocals, Value.category]; done) | rfl
def own_Q4b3 (Z : State) (a0 : Addr) (b : Addr) (k_b : ClassId) (y0 : Int32) (y1 : Int32) (y2 : Int32) (h0 : Heap) (n0 : Nat) (v : Option Value) (h : Heap) (L : List Loc) : Prop := ∃ (r : Addr) (k_r : ClassId), v = some (.ref r) ∧ Fr n0 L ∧ Keep h0 h [] ∧ h0.size ≤ r ∧ Arv Z h r k_r .int (3 : Int32) [(.int (y0 &&& (255 : Int32))), (.int (y1 &&& (255 : Int32))), (.int (y2 &&& (255 : Int32)))] (.int (0 : Int32))
set_option maxRecDepth 65536 in
set_option maxHeartbeats 40000000 in
theorem own_rm4b3 (l : Launch) (Z : State) (av : Array Value) (hw : ∀ d ∈ tables_1, d.before av Z = true) (ws : List Jvm.Cond) (a0 : Addr) (b : Addr) (k_b : ClassId) (y0 : Int32) (y1 : Int32) (y2 : Int32) (h0 : Heap) (n0 : Nat) (Z0 : n0 ≤ h0.size) (F_intIndices_a0 : Fld Z h0 a0 "com/example/penstock/penstock/Design" "intIndices" "[I" .null) (F_byteIndices_a0 : Fld Z h0 a0 "com/example/penstock/penstock/Design" "byteIndices" "[B" (.ref b)) (V_b : Arv Z h0 b k_b .byte (3 : Int32) [(.int y0), (.int y1), (.int y2)] (.int (0 : Int32))) :
    MetFree l (⟨"com/example/penstock/penstock/Design", "sizeIndices", "()[I"⟩ : MethodName) (head1 (Jvm.Cond.code (⟨"com/example/penstock/penstock/Design", "sizeIndices", "()[I"⟩ : MethodName) prog_9_method_3_code 3 (some (.array .int)) :: ws) ({ frames := 0, cells := 1, slots := 3, locals := 0 } : Room)) (fun a U => a = #[(.ref a0)] ∧ Z.Warmed39 U.vm ∧ U.heap = h0) (fun _ _ _ _ _ => True) (fun _ U o U' => ∃ v L, o = .returned v ∧ own_Q4b3 Z a0 b k_b y0 y1 y2 h0 n0 v U'.heap L ∧ FrameEnd U o U' L ({ frames := 0, cells := 1, slots := 3, locals := 0 } : Room).cells ({ frames := 0, cells := 1, slots := 3, locals := 0 } : Room).slots) := by
  refine MetFree.of_bodySF (plainFor_of_name own_pn1) hisR ?_
  intro p e s m args below meth c s₁ Bd hml0 hP hK
  obtain ⟨rfl, hZ, hh⟩ := hP
  have hx := Bd.exec
  have hby := Bd.bytes
  have hml : c.maxLocals = 3 := hml0
  have hown : s.vm.findClass "com/example/penstock/penstock/Design" = some m.cls := findClass_of_methodNamed Bd.named
  have hnm := (name_of_methodNamed Bd.named Bd.method).1
  have X0 : Stand p l e ({ frames := 0, cells := 1, slots := 3, locals := 0 } : Room) s m #[(.ref a0)] below meth c s₁ [] 0 0 := Stand.of_body Bd
  have e0 : s₁.heap = h0 := by rw [← hh, Bd.state]; rfl
  have N0 := Fr.nil n0
  have pre0 : ∀ t, Steps p.tables e below (s₁.setTop (mkF m 0 #[oa a0, .unset, .unset] [])) t → Steps p.tables e below (s₁.setTop (entryFrame m #[(.ref a0)] 3)) t := fun t k => castTop (own_ef4b3 m a0) k
  obtain ⟨T1, X1, e1, st1⟩ := getF X0 hx hZ hown (host := "") (Or.inl (hw _ (List.mem_of_getElem? (i := 13) rfl))) Via.refl e0 F_intIndices_a0 (g := (mkF m 1 #[oa a0, .unset, .unset] [(.ref a0)])) rfl rfl (hb hby own_d4_1)
  obtain ⟨T2, X2, e2, st2⟩ := getF X1 hx hZ hown (host := "") (Or.inl (hw _ (List.mem_of_getElem? (i := 11) rfl))) Via.refl e1 F_byteIndices_a0 (g := (mkF m 19 #[oa a0, .unset, .unset] [(.ref a0)])) rfl rfl (hb hby own_d4_19)
  obtain ⟨T3, h3, k3, X3, e3, E3, A3, B3, st3⟩ := newPE X2 hx hZ (hw _ (List.mem_of_getElem? (i := 0) rfl)) e2 (g := (mkF m 23 #[oa a0, .unset, .unset] [(.int (3 : Int32))])) rfl (hb hby own_d4_23) rfl (by decide) (cap := 3) (by decide) (by decide) (by decide) (by decide) (ad := "[I") rfl
  obtain ⟨b3, g3⟩ : ∃ z, z = h0.size := ⟨_, rfl⟩
  rw [← g3] at A3 st3 B3
  have g_b3 : n0 ≤ b3 := Nat.le_trans Z0 (Nat.le_of_eq g3.symm)
  have ne4 : a0 ≠ b3 := Nat.ne_of_lt (Nat.lt_of_lt_of_le F_intIndices_a0.lt (Nat.le_of_eq g3.symm))
  have ne5 : b ≠ b3 := Nat.ne_of_lt (Nat.lt_of_lt_of_le V_b.lt (Nat.le_of_eq g3.symm))
  have Z3 : n0 ≤ h3.size := Nat.le_trans Z0 E3.1
  have sz_b3 : h0.size ≤ b3 := Nat.le_trans (Keep.refl h0 []).1 (Nat.le_of_eq g3.symm)
  have K_6 : Keep h0 h3 [] := (Keep.refl h0 []).ext E3
  have F7 := F_intIndices_a0.ext E3
  have F8 := F_byteIndices_a0.ext E3
  have F9 := V_b.ext E3
  have V_10 : Arv Z h3 b3 k3 .int (3 : Int32) [(.int (0 : Int32)), (.int (0 : Int32)), (.int (0 : Int32))] (.int (0 : Int32)) := (Arv.new A3 (by decide)).pad (pad_rep [] (.int (0 : Int32)) 3)
  have b11 : (0 : Int32) < (3 : Int32) := (by decide)
  obtain ⟨T12, X12, e12, st12⟩ := getF X3 hx hZ hown (host := "") (Or.inl (hw _ (List.mem_of_getElem? (i := 11) rfl))) Via.refl e3 F8 (g := (mkF m 37 #[oa a0, oa b3, oi (0 : Int32)] [(.ref a0), (.int (0 : Int32)), (.ref b3)])) rfl rfl (hb hby own_d4_37)
  obtain ⟨T13, h13, X13, e13, W13, V13, st13⟩ := oStI X12 hx hZ e12 V_10 (j := (0 : Int32)) ⟨by decide, by decide⟩ 0 rfl (Nat.le_of_ble_eq_true rfl) (g := (mkF m 46 #[oa a0, oa b3, oi (0 : Int32)] [(.int (y0 &&& (255 : Int32))), (.int (0 : Int32)), (.ref b3)])) rfl rfl (hb hby own_d4_46)
  obtain ⟨Lo13, X13, N13⟩ := oOpq X13 (Fr.snoc X13 N0 g_b3)
  have Z13 := Nat.le_trans Z3 (Keep.of_wr W13).1
  have F14 := F7.other W13 (Or.inl ne4)
  have F15 := F8.other W13 (Or.inl ne4)
  have F16 := F9.other W13 ne5
  have F17 := B3.wr W13
  have V_18 : Arv Z h13 b3 k3 .int (3 : Int32) [(.int (y0 &&& (255 : Int32))), (.int (0 : Int32)), (.int (0 : Int32))] (.int (0 : Int32)) := V13
  have K_19 : Keep h0 h13 [] := K_6.wr W13 (Or.inr sz_b3)
  have b20 : (1 : Int32) < (3 : Int32) := (by decide)
  obtain ⟨T21, X21, e21, st21⟩ := getF X13 hx hZ hown (host := "") (Or.inl (hw _ (List.mem_of_getElem? (i := 11) rfl))) Via.refl e13 F15 (g := (mkF m 37 #[oa a0, oa b3, oi (1 : Int32)] [(.ref a0), (.int (1 : Int32)), (.ref b3)])) rfl rfl (hb hby own_d4_37)
  obtain ⟨T22, h22, X22, e22, W22, V22, st22⟩ := oStI X21 hx hZ e21 V_18 (j := (1 : Int32)) ⟨by decide, by decide⟩ 1 rfl (Nat.le_of_ble_eq_true rfl) (g := (mkF m 46 #[oa a0, oa b3, oi (1 : Int32)] [(.int (y1 &&& (255 : Int32))), (.int (1 : Int32)), (.ref b3)])) rfl rfl (hb hby own_d4_46)
  obtain ⟨Lo22, X22, N22⟩ := oOpq X22 (Fr.snoc X22 N13 g_b3)
  have Z22 := Nat.le_trans Z13 (Keep.of_wr W22).1
  have F23 := F14.other W22 (Or.inl ne4)
  have F24 := F15.other W22 (Or.inl ne4)
  have F25 := F16.other W22 ne5
  have F26 := F17.wr W22
  have V_27 : Arv Z h22 b3 k3 .int (3 : Int32) [(.int (y0 &&& (255 : Int32))), (.int (y1 &&& (255 : Int32))), (.int (0 : Int32))] (.int (0 : Int32)) := V22
  have K_28 : Keep h0 h22 [] := K_19.wr W22 (Or.inr sz_b3)
  have b29 : (2 : Int32) < (3 : Int32) := (by decide)
  obtain ⟨T30, X30, e30, st30⟩ := getF X22 hx hZ hown (host := "") (Or.inl (hw _ (List.mem_of_getElem? (i := 11) rfl))) Via.refl e22 F24 (g := (mkF m 37 #[oa a0, oa b3, oi (2 : Int32)] [(.ref a0), (.int (2 : Int32)), (.ref b3)])) rfl rfl (hb hby own_d4_37)
  obtain ⟨T31, h31, X31, e31, W31, V31, st31⟩ := oStI X30 hx hZ e30 V_27 (j := (2 : Int32)) ⟨by decide, by decide⟩ 2 rfl (Nat.le_of_ble_eq_true rfl) (g := (mkF m 46 #[oa a0, oa b3, oi (2 : Int32)] [(.int (y2 &&& (255 : Int32))), (.int (2 : Int32)), (.ref b3)])) rfl rfl (hb hby own_d4_46)
  obtain ⟨Lo31, X31, N31⟩ := oOpq X31 (Fr.snoc X31 N22 g_b3)
  have Z31 := Nat.le_trans Z22 (Keep.of_wr W31).1
  have F32 := F23.other W31 (Or.inl ne4)
  have F33 := F24.other W31 (Or.inl ne4)
  have F34 := F25.other W31 ne5
  have F35 := F26.wr W31
  have V_36 : Arv Z h31 b3 k3 .int (3 : Int32) [(.int (y0 &&& (255 : Int32))), (.int (y1 &&& (255 : Int32))), (.int (y2 &&& (255 : Int32)))] (.int (0 : Int32)) := V31
  have K_37 : Keep h0 h31 [] := K_28.wr W31 (Or.inr sz_b3)
  have b38 : ¬ ((3 : Int32) < (3 : Int32)) := (by decide)
  obtain ⟨fs, hr, hrun, hended, hW, hsame⟩ := X31.leave (v := (some (.ref b3))) (fun h => by rw [Bd.returns] at h; cases h)
  refine ⟨_, _, pre0 _ ?_, hrun, hended, _, _, rfl, ?_, ⟨_, rfl⟩, hW, hsame.mono (by decide) (by decide)⟩
  · show oS p e below s₁ m 0 #[oa a0, .unset, .unset] [] _
    refine XS.aloadN X0.here hx rfl (hb hby own_d4_0) rfl rfl ?_
    show oS p e below s₁ m 1 #[oa a0, .unset, .unset] [(.ref a0)] _
    refine st1 _ ?_
    show oS p e below T1 m 4 #[oa a0, .unset, .unset] [.null] _
    refine XS.ifnullYes X1.here hx rfl (pc0 := 4) (pc' := 18) rfl (hb hby own_d4_4) rfl (by decide) (by decide) ?_
    show oS p e below T1 m 18 #[oa a0, .unset, .unset] [] _
    refine XS.aloadN X1.here hx rfl (hb hby own_d4_18) rfl rfl ?_
    show oS p e below T1 m 19 #[oa a0, .unset, .unset] [(.ref a0)] _
    refine st2 _ ?_
    show oS p e below T2 m 22 #[oa a0, .unset, .unset] [(.ref b)] _
    refine oLen X2 hx hZ e2 V_b (hb hby own_d4_22) ?_
    show oS p e below T2 m 23 #[oa a0, .unset, .unset] [(.int (3 : Int32))] _
    refine st3 _ ?_
    show oS p e below T3 m 25 #[oa a0, .unset, .unset] [(.ref b3)] _
    refine XS.astoreN X3.here hx rfl (hb hby own_d4_25) rfl rfl (l' := #[oa a0, oa b3, .unset]) rfl ?_
    show oS p e below T3 m 26 #[oa a0, oa b3, .unset] [] _
    refine XS.iconst X3.here hx rfl (hb hby own_d4_26) ?_
    show oS p e below T3 m 27 #[oa a0, oa b3, .unset] [(.int (0 : Int32))] _
    refine XS.istoreN X3.here hx rfl (hb hby own_d4_27) rfl (l' := #[oa a0, oa b3, oi (0 : Int32)]) rfl ?_
    show oS p e below T3 m 28 #[oa a0, oa b3, oi (0 : Int32)] [] _
    refine XS.iloadN X3.here hx rfl (hb hby own_d4_28) rfl ?_
    show oS p e below T3 m 29 #[oa a0, oa b3, oi (0 : Int32)] [(.int (0 : Int32))] _
    refine XS.aloadN X3.here hx rfl (hb hby own_d4_29) rfl rfl ?_
    show oS p e below T3 m 30 #[oa a0, oa b3, oi (0 : Int32)] [(.ref b3), (.int (0 : Int32))] _
    refine oLen X3 hx hZ e3 V_10 (hb hby own_d4_30) ?_
    show oS p e below T3 m 31 #[oa a0, oa b3, oi (0 : Int32)] [(.int (3 : Int32)), (.int (0 : Int32))] _
    refine XS.icmpNo X3.here hx rfl (hb hby own_d4_31) rfl (tlt b11).2.1 ?_
    show oS p e below T3 m 34 #[oa a0, oa b3, oi (0 : Int32)] [] _
    refine XS.aloadN X3.here hx rfl (hb hby own_d4_34) rfl rfl ?_
    show oS p e below T3 m 35 #[oa a0, oa b3, oi (0 : Int32)] [(.ref b3)] _
    refine XS.iloadN X3.here hx rfl (hb hby own_d4_35) rfl ?_
    show oS p e below T3 m 36 #[oa a0, oa b3, oi (0 : Int32)] [(.int (0 : Int32)), (.ref b3)] _
    refine XS.aloadN X3.here hx rfl (hb hby own_d4_36) rfl rfl ?_
    show oS p e below T3 m 37 #[oa a0, oa b3, oi (0 : Int32)] [(.ref a0), (.int (0 : Int32)), (.ref b3)] _
    refine st12 _ ?_
    show oS p e below T12 m 40 #[oa a0, oa b3, oi (0 : Int32)] [(.ref b), (.int (0 : Int32)), (.ref b3)] _
    refine XS.iloadN X12.here hx rfl (hb hby own_d4_40) rfl ?_
    show oS p e below T12 m 41 #[oa a0, oa b3, oi (0 : Int32)] [(.int (0 : Int32)), (.ref b), (.int (0 : Int32)), (.ref b3)] _
    refine oLdB X12 hx hZ e12 F9 (v := (.int y0)) ⟨by decide, by decide⟩ rfl (hb hby own_d4_41) ?_
    show oS p e below T12 m 42 #[oa a0, oa b3, oi (0 : Int32)] [(.int y0), (.int (0 : Int32)), (.ref b3)] _
    refine XS.sipush X12.here hx rfl (hb hby own_d4_42) ?_
    show oS p e below T12 m 45 #[oa a0, oa b3, oi (0 : Int32)] [(.int (255 : Int32)), (.int y0), (.int (0 : Int32)), (.ref b3)] _
    refine XS.iand X12.here hx rfl (hb hby own_d4_45) rfl ?_
    show oS p e below T12 m 46 #[oa a0, oa b3, oi (0 : Int32)] [(.int (y0 &&& (255 : Int32))), (.int (0 : Int32)), (.ref b3)] _
    refine st13 _ ?_
    show oS p e below T13 m 47 #[oa a0, oa b3, oi (0 : Int32)] [] _
    refine XS.iinc X13.here hx rfl (hb hby own_d4_47) rfl (l' := #[oa a0, oa b3, oi (1 : Int32)]) rfl ?_
    show oS p e below T13 m 50 #[oa a0, oa b3, oi (1 : Int32)] [] _
    refine XS.goto X13.here hx rfl (pc0 := 50) (pc' := 28) rfl (hb hby own_d4_50) (by decide) (by decide) ?_
    show oS p e below T13 m 28 #[oa a0, oa b3, oi (1 : Int32)] [] _
    refine XS.iloadN X13.here hx rfl (hb hby own_d4_28) rfl ?_
    show oS p e below T13 m 29 #[oa a0, oa b3, oi (1 : Int32)] [(.int (1 : Int32))] _
    refine XS.aloadN X13.here hx rfl (hb hby own_d4_29) rfl rfl ?_
    show oS p e below T13 m 30 #[oa a0, oa b3, oi (1 : Int32)] [(.ref b3), (.int (1 : Int32))] _
    refine oLen X13 hx hZ e13 V_18 (hb hby own_d4_30) ?_
    show oS p e below T13 m 31 #[oa a0, oa b3, oi (1 : Int32)] [(.int (3 : Int32)), (.int (1 : Int32))] _
    refine XS.icmpNo X13.here hx rfl (hb hby own_d4_31) rfl (tlt b20).2.1 ?_
    show oS p e below T13 m 34 #[oa a0, oa b3, oi (1 : Int32)] [] _
    refine XS.aloadN X13.here hx rfl (hb hby own_d4_34) rfl rfl ?_
    show oS p e below T13 m 35 #[oa a0, oa b3, oi (1 : Int32)] [(.ref b3)] _
    refine XS.iloadN X13.here hx rfl (hb hby own_d4_35) rfl ?_
    show oS p e below T13 m 36 #[oa a0, oa b3, oi (1 : Int32)] [(.int (1 : Int32)), (.ref b3)] _
    refine XS.aloadN X13.here hx rfl (hb hby own_d4_36) rfl rfl ?_
    show oS p e below T13 m 37 #[oa a0, oa b3, oi (1 : Int32)] [(.ref a0), (.int (1 : Int32)), (.ref b3)] _
    refine st21 _ ?_
    show oS p e below T21 m 40 #[oa a0, oa b3, oi (1 : Int32)] [(.ref b), (.int (1 : Int32)), (.ref b3)] _
    refine XS.iloadN X21.here hx rfl (hb hby own_d4_40) rfl ?_
    show oS p e below T21 m 41 #[oa a0, oa b3, oi (1 : Int32)] [(.int (1 : Int32)), (.ref b), (.int (1 : Int32)), (.ref b3)] _
    refine oLdB X21 hx hZ e21 F16 (v := (.int y1)) ⟨by decide, by decide⟩ rfl (hb hby own_d4_41) ?_
    show oS p e below T21 m 42 #[oa a0, oa b3, oi (1 : Int32)] [(.int y1), (.int (1 : Int32)), (.ref b3)] _
    refine XS.sipush X21.here hx rfl (hb hby own_d4_42) ?_
    show oS p e below T21 m 45 #[oa a0, oa b3, oi (1 : Int32)] [(.int (255 : Int32)), (.int y1), (.int (1 : Int32)), (.ref b3)] _
    refine XS.iand X21.here hx rfl (hb hby own_d4_45) rfl ?_
    show oS p e below T21 m 46 #[oa a0, oa b3, oi (1 : Int32)] [(.int (y1 &&& (255 : Int32))), (.int (1 : Int32)), (.ref b3)] _
    refine st22 _ ?_
    show oS p e below T22 m 47 #[oa a0, oa b3, oi (1 : Int32)] [] _
    refine XS.iinc X22.here hx rfl (hb hby own_d4_47) rfl (l' := #[oa a0, oa b3, oi (2 : Int32)]) rfl ?_
    show oS p e below T22 m 50 #[oa a0, oa b3, oi (2 : Int32)] [] _
    refine XS.goto X22.here hx rfl (pc0 := 50) (pc' := 28) rfl (hb hby own_d4_50) (by decide) (by decide) ?_
    show oS p e below T22 m 28 #[oa a0, oa b3, oi (2 : Int32)] [] _
    refine XS.iloadN X22.here hx rfl (hb hby own_d4_28) rfl ?_
    show oS p e below T22 m 29 #[oa a0, oa b3, oi (2 : Int32)] [(.int (2 : Int32))] _
    refine XS.aloadN X22.here hx rfl (hb hby own_d4_29) rfl rfl ?_
    show oS p e below T22 m 30 #[oa a0, oa b3, oi (2 : Int32)] [(.ref b3), (.int (2 : Int32))] _
    refine oLen X22 hx hZ e22 V_27 (hb hby own_d4_30) ?_
    show oS p e below T22 m 31 #[oa a0, oa b3, oi (2 : Int32)] [(.int (3 : Int32)), (.int (2 : Int32))] _
    refine XS.icmpNo X22.here hx rfl (hb hby own_d4_31) rfl (tlt b29).2.1 ?_
    show oS p e below T22 m 34 #[oa a0, oa b3, oi (2 : Int32)] [] _
    refine XS.aloadN X22.here hx rfl (hb hby own_d4_34) rfl rfl ?_
    show oS p e below T22 m 35 #[oa a0, oa b3, oi (2 : Int32)] [(.ref b3)] _
    refine XS.iloadN X22.here hx rfl (hb hby own_d4_35) rfl ?_
    show oS p e below T22 m 36 #[oa a0, oa b3, oi (2 : Int32)] [(.int (2 : Int32)), (.ref b3)] _
    refine XS.aloadN X22.here hx rfl (hb hby own_d4_36) rfl rfl ?_
    show oS p e below T22 m 37 #[oa a0, oa b3, oi (2 : Int32)] [(.ref a0), (.int (2 : Int32)), (.ref b3)] _
    refine st30 _ ?_
    show oS p e below T30 m 40 #[oa a0, oa b3, oi (2 : Int32)] [(.ref b), (.int (2 : Int32)), (.ref b3)] _
    refine XS.iloadN X30.here hx rfl (hb hby own_d4_40) rfl ?_
    show oS p e below T30 m 41 #[oa a0, oa b3, oi (2 : Int32)] [(.int (2 : Int32)), (.ref b), (.int (2 : Int32)), (.ref b3)] _
    refine oLdB X30 hx hZ e30 F25 (v := (.int y2)) ⟨by decide, by decide⟩ rfl (hb hby own_d4_41) ?_
    show oS p e below T30 m 42 #[oa a0, oa b3, oi (2 : Int32)] [(.int y2), (.int (2 : Int32)), (.ref b3)] _
    refine XS.sipush X30.here hx rfl (hb hby own_d4_42) ?_
    show oS p e below T30 m 45 #[oa a0, oa b3, oi (2 : Int32)] [(.int (255 : Int32)), (.int y2), (.int (2 : Int32)), (.ref b3)] _
    refine XS.iand X30.here hx rfl (hb hby own_d4_45) rfl ?_
    show oS p e below T30 m 46 #[oa a0, oa b3, oi (2 : Int32)] [(.int (y2 &&& (255 : Int32))), (.int (2 : Int32)), (.ref b3)] _
    refine st31 _ ?_
    show oS p e below T31 m 47 #[oa a0, oa b3, oi (2 : Int32)] [] _
    refine XS.iinc X31.here hx rfl (hb hby own_d4_47) rfl (l' := #[oa a0, oa b3, oi (3 : Int32)]) rfl ?_
    show oS p e below T31 m 50 #[oa a0, oa b3, oi (3 : Int32)] [] _
    refine XS.goto X31.here hx rfl (pc0 := 50) (pc' := 28) rfl (hb hby own_d4_50) (by decide) (by decide) ?_
    show oS p e below T31 m 28 #[oa a0, oa b3, oi (3 : Int32)] [] _
    refine XS.iloadN X31.here hx rfl (hb hby own_d4_28) rfl ?_
    show oS p e below T31 m 29 #[oa a0, oa b3, oi (3 : Int32)] [(.int (3 : Int32))] _
    refine XS.aloadN X31.here hx rfl (hb hby own_d4_29) rfl rfl ?_
    show oS p e below T31 m 30 #[oa a0, oa b3, oi (3 : Int32)] [(.ref b3), (.int (3 : Int32))] _
    refine oLen X31 hx hZ e31 V_36 (hb hby own_d4_30) ?_
    show oS p e below T31 m 31 #[oa a0, oa b3, oi (3 : Int32)] [(.int (3 : Int32)), (.int (3 : Int32))] _
    refine XS.icmpYes X31.here hx rfl (pc0 := 31) (pc' := 53) rfl (hb hby own_d4_31) rfl (flt b38).2.1 (by decide) (by decide) ?_
    show oS p e below T31 m 53 #[oa a0, oa b3, oi (3 : Int32)] [] _
    refine XS.aloadN X31.here hx rfl (hb hby own_d4_53) rfl rfl ?_
    show oS p e below T31 m 54 #[oa a0, oa b3, oi (3 : Int32)] [(.ref b3)] _
    exact retOut X31 hx Bd.returns rfl (Or.inr (Or.inr (Or.inr (Or.inr ⟨rfl, rfl, rfl⟩)))) (hb hby own_d4_54) hr
  · show own_Q4b3 Z a0 b k_b y0 y1 y2 h0 n0 _ T31.heap _
    rw [e31]
    exact ⟨b3, k3, rfl, N31, K_37, sz_b3, V_36⟩
theorem own_ef4i3 (m : MethodId) (a0 : Addr) : entryFrame m #[(.ref a0)] 3 = mkF m 0 #[oa a0, .unset, .unset] [] := by first | (simp [entryFrame, mkF, argsToLocals, Value.category]; done) | rfl
def own_Q4i3 (Z : State) (a0 : Addr) (b : Addr) (k_b : ClassId) (y0 : Int32) (y1 : Int32) (y2 : Int32) (h0 : Heap) (n0 : Nat) (v : Option Value) (h : Heap) (L : List Loc) : Prop := ∃ (r : Addr) (k_r : ClassId), v = some (.ref r) ∧ Fr n0 L ∧ Keep h0 h [] ∧ h0.size ≤ r ∧ Arv Z h r k_r .int (3 : Int32) [(.int y0), (.int y1), (.int y2)] (.int (0 : Int32))
set_option maxRecDepth 65536 in
set_option maxHeartbeats 40000000 in
theorem own_rm4i3 (l : Launch) (Z : State) (av : Array Value) (hw : ∀ d ∈ tables_1, d.before av Z = true) (ws : List Jvm.Cond) (a0 : Addr) (b : Addr) (k_b : ClassId) (y0 : Int32) (y1 : Int32) (y2 : Int32) (h0 : Heap) (n0 : Nat) (Z0 : n0 ≤ h0.size) (F_intIndices_a0 : Fld Z h0 a0 "com/example/penstock/penstock/Design" "intIndices" "[I" (.ref b)) (E_b : Exa Z h0 b "[I") (V_b : Arv Z h0 b k_b .int (3 : Int32) [(.int y0), (.int y1), (.int y2)] (.int (0 : Int32))) :
    MetFree l (⟨"com/example/penstock/penstock/Design", "sizeIndices", "()[I"⟩ : MethodName) (head1 (Jvm.Cond.code (⟨"com/example/penstock/penstock/Design", "sizeIndices", "()[I"⟩ : MethodName) prog_9_method_3_code 3 (some (.array .int)) :: ws) ({ frames := 1, cells := 1, slots := 3, locals := 14 } : Room)) (fun a U => a = #[(.ref a0)] ∧ Z.Warmed39 U.vm ∧ U.heap = h0) (fun _ _ _ _ _ => True) (fun _ U o U' => ∃ v L, o = .returned v ∧ own_Q4i3 Z a0 b k_b y0 y1 y2 h0 n0 v U'.heap L ∧ FrameEnd U o U' L ({ frames := 1, cells := 1, slots := 3, locals := 14 } : Room).cells ({ frames := 1, cells := 1, slots := 3, locals := 14 } : Room).slots) := by
  refine MetFree.of_bodySF (plainFor_of_name own_pn1) hisR ?_
  intro p e s m args below meth c s₁ Bd hml0 hP hK
  obtain ⟨rfl, hZ, hh⟩ := hP
  have hx := Bd.exec
  have hby := Bd.bytes
  have hml : c.maxLocals = 3 := hml0
  have hown : s.vm.findClass "com/example/penstock/penstock/Design" = some m.cls := findClass_of_methodNamed Bd.named
  have hnm := (name_of_methodNamed Bd.named Bd.method).1
  have X0 : Stand p l e ({ frames := 1, cells := 1, slots := 3, locals := 14 } : Room) s m #[(.ref a0)] below meth c s₁ [] 0 0 := Stand.of_body Bd
  have e0 : s₁.heap = h0 := by rw [← hh, Bd.state]; rfl
  have N0 := Fr.nil n0
  have pre0 : ∀ t, Steps p.tables e below (s₁.setTop (mkF m 0 #[oa a0, .unset, .unset] [])) t → Steps p.tables e below (s₁.setTop (entryFrame m #[(.ref a0)] 3)) t := fun t k => castTop (own_ef4i3 m a0) k
  obtain ⟨T1, X1, e1, st1⟩ := getF X0 hx hZ hown (host := "") (Or.inl (hw _ (List.mem_of_getElem? (i := 13) rfl))) Via.refl e0 F_intIndices_a0 (g := (mkF m 1 #[oa a0, .unset, .unset] [(.ref a0)])) rfl rfl (hb hby own_d4_1)
  obtain ⟨T2, X2, e2, st2⟩ := getF X1 hx hZ hown (host := "") (Or.inl (hw _ (List.mem_of_getElem? (i := 13) rfl))) Via.refl e1 F_intIndices_a0 (g := (mkF m 8 #[oa a0, .unset, .unset] [(.ref a0)])) rfl rfl (hb hby own_d4_8)
  obtain ⟨T3, h3, X3, e3, E3, A3, B3, st3⟩ := cloneH X2 hx hZ hown (hw _ (List.mem_of_getElem? (i := 35) rfl)) (hw _ (List.mem_of_getElem? (i := 36) rfl)) (hw _ (List.mem_of_getElem? (i := 40) rfl)) (hw _ (List.mem_of_getElem? (i := 38) rfl)) (hw _ (List.mem_of_getElem? (i := 39) rfl)) (hw _ (List.mem_of_getElem? (i := 41) rfl)) e2 (Arv.arh V_b) E_b (g := (mkF m 11 #[oa a0, .unset, .unset] [(.ref b)])) rfl (by rw [hml]; rfl) rfl (hb hby own_d4_11) (by decide) (W := 0) (by show 2 * 0 + _ ≤ _; exact Nat.le_of_eq rfl) (by decide) (cap := 3) (by decide) (by decide) (by decide)
  obtain ⟨b3, g3⟩ : ∃ z, z = h0.size := ⟨_, rfl⟩
  rw [← g3] at A3 B3 st3
  have g_b3 : n0 ≤ b3 := Nat.le_trans Z0 (Nat.le_of_eq g3.symm)
  have ne4 : a0 ≠ b3 := Nat.ne_of_lt (Nat.lt_of_lt_of_le F_intIndices_a0.lt (Nat.le_of_eq g3.symm))
  have ne5 : b ≠ b3 := Nat.ne_of_lt (Nat.lt_of_lt_of_le E_b.lt (Nat.le_of_eq g3.symm))
  have Z3 : n0 ≤ h3.size := Nat.le_trans Z0 E3.1
  have sz_b3 : h0.size ≤ b3 := Nat.le_trans (Keep.refl h0 []).1 (Nat.le_of_eq g3.symm)
  have K_6 : Keep h0 h3 [] := (Keep.refl h0 []).ext E3
  have F7 := F_intIndices_a0.ext E3
  have F8 := E_b.ext E3
  have F9 := V_b.ext E3
  have V_10 : Arv Z h3 b3 k_b .int (3 : Int32) [(.int y0), (.int y1), (.int y2)] (.int (0 : Int32)) := A3
  obtain ⟨T11, X11, e11, st11⟩ := castY X3 hx hZ hown (hw _ (List.mem_of_getElem? (i := 42) rfl)) e3 (Ins.self B3) (g := (mkF m 14 #[oa a0, .unset, .unset] [(.ref b3)])) rfl rfl (hb hby own_d4_14)
  obtain ⟨fs, hr, hrun, hended, hW, hsame⟩ := X11.leave (v := (some (.ref b3))) (fun h => by rw [Bd.returns] at h; cases h)
  refine ⟨_, _, pre0 _ ?_, hrun, hended, _, _, rfl, ?_, ⟨_, rfl⟩, hW, hsame.mono (by decide) (by decide)⟩
  · show oS p e below s₁ m 0 #[oa a0, .unset, .unset] [] _
    refine XS.aloadN X0.here hx rfl (hb hby own_d4_0) rfl rfl ?_
    show oS p e below s₁ m 1 #[oa a0, .unset, .unset] [(.ref a0)] _
    refine st1 _ ?_
    show oS p e below T1 m 4 #[oa a0, .unset, .unset] [(.ref b)] _
    refine XS.ifnullNo X1.here hx rfl (hb hby own_d4_4) rfl ?_
    show oS p e below T1 m 7 #[oa a0, .unset, .unset] [] _
    refine XS.aloadN X1.here hx rfl (hb hby own_d4_7) rfl rfl ?_
    show oS p e below T1 m 8 #[oa a0, .unset, .unset] [(.ref a0)] _
    refine st2 _ ?_
    show oS p e below T2 m 11 #[oa a0, .unset, .unset] [(.ref b)] _
    refine st3 _ ?_
    show oS p e below T3 m 14 #[oa a0, .unset, .unset] [(.ref b3)] _
    refine st11 _ ?_
    show oS p e below T11 m 17 #[oa a0, .unset, .unset] [(.ref b3)] _
    exact retOut X11 hx Bd.returns rfl (Or.inr (Or.inr (Or.inr (Or.inr ⟨rfl, rfl, rfl⟩)))) (hb hby own_d4_17) hr
  · show own_Q4i3 Z a0 b k_b y0 y1 y2 h0 n0 _ T11.heap _
    rw [e11]
    exact ⟨b3, k_b, rfl, N0, K_6, sz_b3, V_10⟩
theorem own_n (x : Int32) : (x &&& (3 : Int32)) = (0 : Int32) ∨ (x &&& (3 : Int32)) = (1 : Int32) ∨ (x &&& (3 : Int32)) = (2 : Int32) ∨ (x &&& (3 : Int32)) = (3 : Int32) := by
  have h : (x &&& (3 : Int32)).toInt = x.toInt % 4 := c_mask x 3 2 (by decide) (by decide)
  simp only [own_eqp, Int32.reduceToInt, h]
  omega
theorem own_pd3 : parseMethodDescriptor "([I)V" = some ⟨[(.array .int)], none⟩ := by decide +kernel
theorem own_pd4 : parseMethodDescriptor "()[I" = some ⟨[], some (.array .int)⟩ := by decide +kernel
theorem own_pn3 : plainName "com/example/penstock/penstock/DesignSizeIndicesPinLaw" = true := by first | (simp [plainName, overriddenIn]; done) | decide +kernel
theorem own_ef0 (m : MethodId) (p0 : Int32) (p1 : Int32) (p2 : Int32) (p3 : Int32) (p4 : Int32) : entryFrame m #[(.int p0), (.int p1), (.int p2), (.int p3), (.int p4)] maxLocals = mkF m 0 #[oi p0, oi p1, oi p2, oi p3, oi p4, .unset, .unset, .unset, .unset, .unset, .unset, .unset, .unset, .unset] [] := by first | (simp [entryFrame, mkF, argsToLocals, Value.category, maxLocals]; done) | rfl
def own_Q0 (Z : State) (p0 : Int32) (p1 : Int32) (p2 : Int32) (p3 : Int32) (p4 : Int32) (h0 : Heap) (n0 : Nat) (v : Option Value) (h : Heap) (L : List Loc) : Prop := v = some (Value.int (1 : Int32)) ∧ Fr n0 L
set_option maxRecDepth 65536 in
set_option maxHeartbeats 40000000 in
theorem own_rm0 (l : Launch) (Z : State) (av : Array Value) (hw : ∀ d ∈ tables_1, d.before av Z = true) (ws : List Jvm.Cond) (p0 : Int32) (p1 : Int32) (p2 : Int32) (p3 : Int32) (p4 : Int32) (h0 : Heap) (n0 : Nat) (Z0 : n0 ≤ h0.size) :
    MetFree l x (head1 (Jvm.Cond.code x code maxLocals ret :: ws) room_1) (fun a U => a = #[(.int p0), (.int p1), (.int p2), (.int p3), (.int p4)] ∧ Z.Warmed39 U.vm ∧ U.heap = h0) (fun _ _ _ _ _ => True) (fun _ U o U' => ∃ v L, o = .returned v ∧ own_Q0 Z p0 p1 p2 p3 p4 h0 n0 v U'.heap L ∧ FrameEnd U o U' L room_1.cells room_1.slots) := by
  refine MetFree.of_bodySF (plainFor_of_name own_pn3) hisR ?_
  intro p e s m args below meth c s₁ Bd hml0 hP hK
  obtain ⟨rfl, hZ, hh⟩ := hP
  have hx := Bd.exec
  have hby := Bd.bytes
  have hml : c.maxLocals = 14 := hml0
  have hown : s.vm.findClass "com/example/penstock/penstock/DesignSizeIndicesPinLaw" = some m.cls := findClass_of_methodNamed Bd.named
  have hnm := (name_of_methodNamed Bd.named Bd.method).1
  have X0 : Stand p l e room_1 s m #[(.int p0), (.int p1), (.int p2), (.int p3), (.int p4)] below meth c s₁ [] 0 0 := Stand.of_body Bd
  have e0 : s₁.heap = h0 := by rw [← hh, Bd.state]; rfl
  have N0 := Fr.nil n0
  have pre0 : ∀ t, Steps p.tables e below (s₁.setTop (mkF m 0 #[oi p0, oi p1, oi p2, oi p3, oi p4, .unset, .unset, .unset, .unset, .unset, .unset, .unset, .unset, .unset] [])) t → Steps p.tables e below (s₁.setTop (entryFrame m #[(.int p0), (.int p1), (.int p2), (.int p3), (.int p4)] maxLocals)) t := fun t k => castTop (own_ef0 m p0 p1 p2 p3 p4) k
  have pre1 : ∀ t, Steps p.tables e below (s₁.setTop (mkF m 3 #[oi p0, oi p1, oi p2, oi p3, oi p4, .unset, .unset, .unset, .unset, .unset, .unset, .unset, .unset, .unset] [(.int (p0 &&& (3 : Int32)))])) t → Steps p.tables e below (s₁.setTop (entryFrame m #[(.int p0), (.int p1), (.int p2), (.int p3), (.int p4)] maxLocals)) t := by
    intro t k
    refine pre0 t ?_
    show oS p e below s₁ m 0 #[oi p0, oi p1, oi p2, oi p3, oi p4, .unset, .unset, .unset, .unset, .unset, .unset, .unset, .unset, .unset] [] _
    refine XS.iloadN X0.here hx rfl (hb hby at_0) rfl ?_
    show oS p e below s₁ m 1 #[oi p0, oi p1, oi p2, oi p3, oi p4, .unset, .unset, .unset, .unset, .unset, .unset, .unset, .unset, .unset] [(.int p0)] _
    refine XS.iconst X0.here hx rfl (hb hby at_1) ?_
    show oS p e below s₁ m 2 #[oi p0, oi p1, oi p2, oi p3, oi p4, .unset, .unset, .unset, .unset, .unset, .unset, .unset, .unset, .unset] [(.int (3 : Int32)), (.int p0)] _
    refine XS.iand X0.here hx rfl (hb hby at_2) rfl ?_
    exact k
  obtain ⟨vn, hvn⟩ : ∃ z : Int32, z = (p0 &&& (3 : Int32)) := ⟨_, rfl⟩
  rw [← hvn] at pre1
  have k2 : vn = (0 : Int32) ∨ vn = (1 : Int32) ∨ vn = (2 : Int32) ∨ vn = (3 : Int32) := by rw [hvn]; exact own_n _
  rcases k2 with k2 | k2 | k2 | k2
  · skip
    rw [k2] at pre1
    have pre3 : ∀ t, Steps p.tables e below (s₁.setTop (mkF m 9 #[oi p0, oi p1, oi p2, oi p3, oi p4, oi (0 : Int32), .unset, .unset, .unset, .unset, .unset, .unset, .unset, .unset] [(.int (p4 &&& (1 : Int32)))])) t → Steps p.tables e below (s₁.setTop (entryFrame m #[(.int p0), (.int p1), (.int p2), (.int p3), (.int p4)] maxLocals)) t := by
      intro t k
      refine pre1 t ?_
      show oS p e below s₁ m 3 #[oi p0, oi p1, oi p2, oi p3, oi p4, .unset, .unset, .unset, .unset, .unset, .unset, .unset, .unset, .unset] [(.int (0 : Int32))] _
      refine XS.istore X0.here hx rfl (hb hby at_3) rfl (l' := #[oi p0, oi p1, oi p2, oi p3, oi p4, oi (0 : Int32), .unset, .unset, .unset, .unset, .unset, .unset, .unset, .unset]) rfl ?_
      show oS p e below s₁ m 5 #[oi p0, oi p1, oi p2, oi p3, oi p4, oi (0 : Int32), .unset, .unset, .unset, .unset, .unset, .unset, .unset, .unset] [] _
      refine XS.iload X0.here hx rfl (hb hby at_5) rfl ?_
      show oS p e below s₁ m 7 #[oi p0, oi p1, oi p2, oi p3, oi p4, oi (0 : Int32), .unset, .unset, .unset, .unset, .unset, .unset, .unset, .unset] [(.int p4)] _
      refine XS.iconst X0.here hx rfl (hb hby at_7) ?_
      show oS p e below s₁ m 8 #[oi p0, oi p1, oi p2, oi p3, oi p4, oi (0 : Int32), .unset, .unset, .unset, .unset, .unset, .unset, .unset, .unset] [(.int (1 : Int32)), (.int p4)] _
      refine XS.iand X0.here hx rfl (hb hby at_8) rfl ?_
      exact k
    obtain ⟨v5, hv5⟩ : ∃ z : Int32, z = (if (p4 &&& (1 : Int32)) = (0 : Int32) then (0 : Int32) else (1 : Int32)) := ⟨_, rfl⟩
    have pre6 : ∀ t, Steps p.tables e below (s₁.setTop (mkF m 17 #[oi p0, oi p1, oi p2, oi p3, oi p4, oi (0 : Int32), .unset, .unset, .unset, .unset, .unset, .unset, .unset, .unset] [(.int v5)])) t → Steps p.tables e below (s₁.setTop (entryFrame m #[(.int p0), (.int p1), (.int p2), (.int p3), (.int p4)] maxLocals)) t := by
      intro t k
      by_cases c4 : (p4 &&& (1 : Int32)) = (0 : Int32)
      · skip
        rw [show v5 = (0 : Int32) from hv5.trans (by rw [if_pos c4])] at k
        refine pre3 t ?_
        show oS p e below s₁ m 9 #[oi p0, oi p1, oi p2, oi p3, oi p4, oi (0 : Int32), .unset, .unset, .unset, .unset, .unset, .unset, .unset, .unset] [(.int (p4 &&& (1 : Int32)))] _
        refine XS.ifYes X0.here hx rfl (pc0 := 9) (pc' := 16) rfl (hb hby at_9) rfl ((if0 _ _).trans (teq c4).1) (by decide) (by decide) ?_
        show oS p e below s₁ m 16 #[oi p0, oi p1, oi p2, oi p3, oi p4, oi (0 : Int32), .unset, .unset, .unset, .unset, .unset, .unset, .unset, .unset] [] _
        refine XS.iconst X0.here hx rfl (hb hby at_16) ?_
        exact k
      · skip
        rw [show v5 = (1 : Int32) from hv5.trans (by rw [if_neg c4])] at k
        refine pre3 t ?_
        show oS p e below s₁ m 9 #[oi p0, oi p1, oi p2, oi p3, oi p4, oi (0 : Int32), .unset, .unset, .unset, .unset, .unset, .unset, .unset, .unset] [(.int (p4 &&& (1 : Int32)))] _
        refine XS.ifNo X0.here hx rfl (hb hby at_9) rfl ((if0 _ _).trans (feq c4).1) ?_
        show oS p e below s₁ m 12 #[oi p0, oi p1, oi p2, oi p3, oi p4, oi (0 : Int32), .unset, .unset, .unset, .unset, .unset, .unset, .unset, .unset] [] _
        refine XS.iconst X0.here hx rfl (hb hby at_12) ?_
        show oS p e below s₁ m 13 #[oi p0, oi p1, oi p2, oi p3, oi p4, oi (0 : Int32), .unset, .unset, .unset, .unset, .unset, .unset, .unset, .unset] [(.int (1 : Int32))] _
        refine XS.goto X0.here hx rfl (pc0 := 13) (pc' := 17) rfl (hb hby at_13) (by decide) (by decide) ?_
        exact k
    have pre7 : ∀ t, Steps p.tables e below (s₁.setTop (mkF m 21 #[oi p0, oi p1, oi p2, oi p3, oi p4, oi (0 : Int32), oi v5, .unset, .unset, .unset, .unset, .unset, .unset, .unset] [(.int v5)])) t → Steps p.tables e below (s₁.setTop (entryFrame m #[(.int p0), (.int p1), (.int p2), (.int p3), (.int p4)] maxLocals)) t := by
      intro t k
      refine pre6 t ?_
      show oS p e below s₁ m 17 #[oi p0, oi p1, oi p2, oi p3, oi p4, oi (0 : Int32), .unset, .unset, .unset, .unset, .unset, .unset, .unset, .unset] [(.int v5)] _
      refine XS.istore X0.here hx rfl (hb hby at_17) rfl (l' := #[oi p0, oi p1, oi p2, oi p3, oi p4, oi (0 : Int32), oi v5, .unset, .unset, .unset, .unset, .unset, .unset, .unset]) rfl ?_
      show oS p e below s₁ m 19 #[oi p0, oi p1, oi p2, oi p3, oi p4, oi (0 : Int32), oi v5, .unset, .unset, .unset, .unset, .unset, .unset, .unset] [] _
      refine XS.iload X0.here hx rfl (hb hby at_19) rfl ?_
      exact k
    obtain ⟨v9, hv9⟩ : ∃ z : Int32, z = (if v5 = (0 : Int32) then p1 else (p1 &&& (255 : Int32))) := ⟨_, rfl⟩
    have pre10 : ∀ t, Steps p.tables e below (s₁.setTop (mkF m 33 #[oi p0, oi p1, oi p2, oi p3, oi p4, oi (0 : Int32), oi v5, .unset, .unset, .unset, .unset, .unset, .unset, .unset] [(.int v9)])) t → Steps p.tables e below (s₁.setTop (entryFrame m #[(.int p0), (.int p1), (.int p2), (.int p3), (.int p4)] maxLocals)) t := by
      intro t k
      by_cases c8 : v5 = (0 : Int32)
      · skip
        rw [show v9 = p1 from hv9.trans (by rw [if_pos c8])] at k
        refine pre7 t ?_
        show oS p e below s₁ m 21 #[oi p0, oi p1, oi p2, oi p3, oi p4, oi (0 : Int32), oi v5, .unset, .unset, .unset, .unset, .unset, .unset, .unset] [(.int v5)] _
        refine XS.ifYes X0.here hx rfl (pc0 := 21) (pc' := 32) rfl (hb hby at_21) rfl ((if0 _ _).trans (teq c8).1) (by decide) (by decide) ?_
        show oS p e below s₁ m 32 #[oi p0, oi p1, oi p2, oi p3, oi p4, oi (0 : Int32), oi v5, .unset, .unset, .unset, .unset, .unset, .unset, .unset] [] _
        refine XS.iloadN X0.here hx rfl (hb hby at_32) rfl ?_
        exact k
      · skip
        rw [show v9 = (p1 &&& (255 : Int32)) from hv9.trans (by rw [if_neg c8])] at k
        refine pre7 t ?_
        show oS p e below s₁ m 21 #[oi p0, oi p1, oi p2, oi p3, oi p4, oi (0 : Int32), oi v5, .unset, .unset, .unset, .unset, .unset, .unset, .unset] [(.int v5)] _
        refine XS.ifNo X0.here hx rfl (hb hby at_21) rfl ((if0 _ _).trans (feq c8).1) ?_
        show oS p e below s₁ m 24 #[oi p0, oi p1, oi p2, oi p3, oi p4, oi (0 : Int32), oi v5, .unset, .unset, .unset, .unset, .unset, .unset, .unset] [] _
        refine XS.iloadN X0.here hx rfl (hb hby at_24) rfl ?_
        show oS p e below s₁ m 25 #[oi p0, oi p1, oi p2, oi p3, oi p4, oi (0 : Int32), oi v5, .unset, .unset, .unset, .unset, .unset, .unset, .unset] [(.int p1)] _
        refine XS.sipush X0.here hx rfl (hb hby at_25) ?_
        show oS p e below s₁ m 28 #[oi p0, oi p1, oi p2, oi p3, oi p4, oi (0 : Int32), oi v5, .unset, .unset, .unset, .unset, .unset, .unset, .unset] [(.int (255 : Int32)), (.int p1)] _
        refine XS.iand X0.here hx rfl (hb hby at_28) rfl ?_
        show oS p e below s₁ m 29 #[oi p0, oi p1, oi p2, oi p3, oi p4, oi (0 : Int32), oi v5, .unset, .unset, .unset, .unset, .unset, .unset, .unset] [(.int (p1 &&& (255 : Int32)))] _
        refine XS.goto X0.here hx rfl (pc0 := 29) (pc' := 33) rfl (hb hby at_29) (by decide) (by decide) ?_
        exact k
    have pre11 : ∀ t, Steps p.tables e below (s₁.setTop (mkF m 37 #[oi p0, oi p1, oi p2, oi p3, oi p4, oi (0 : Int32), oi v5, oi v9, .unset, .unset, .unset, .unset, .unset, .unset] [(.int v5)])) t → Steps p.tables e below (s₁.setTop (entryFrame m #[(.int p0), (.int p1), (.int p2), (.int p3), (.int p4)] maxLocals)) t := by
      intro t k
      refine pre10 t ?_
      show oS p e below s₁ m 33 #[oi p0, oi p1, oi p2, oi p3, oi p4, oi (0 : Int32), oi v5, .unset, .unset, .unset, .unset, .unset, .unset, .unset] [(.int v9)] _
      refine XS.istore X0.here hx rfl (hb hby at_33) rfl (l' := #[oi p0, oi p1, oi p2, oi p3, oi p4, oi (0 : Int32), oi v5, oi v9, .unset, .unset, .unset, .unset, .unset, .unset]) rfl ?_
      show oS p e below s₁ m 35 #[oi p0, oi p1, oi p2, oi p3, oi p4, oi (0 : Int32), oi v5, oi v9, .unset, .unset, .unset, .unset, .unset, .unset] [] _
      refine XS.iload X0.here hx rfl (hb hby at_35) rfl ?_
      exact k
    obtain ⟨v13, hv13⟩ : ∃ z : Int32, z = (if v5 = (0 : Int32) then p2 else (p2 &&& (255 : Int32))) := ⟨_, rfl⟩
    have pre14 : ∀ t, Steps p.tables e below (s₁.setTop (mkF m 49 #[oi p0, oi p1, oi p2, oi p3, oi p4, oi (0 : Int32), oi v5, oi v9, .unset, .unset, .unset, .unset, .unset, .unset] [(.int v13)])) t → Steps p.tables e below (s₁.setTop (entryFrame m #[(.int p0), (.int p1), (.int p2), (.int p3), (.int p4)] maxLocals)) t := by
      intro t k
      by_cases c12 : v5 = (0 : Int32)
      · skip
        rw [show v13 = p2 from hv13.trans (by rw [if_pos c12])] at k
        refine pre11 t ?_
        show oS p e below s₁ m 37 #[oi p0, oi p1, oi p2, oi p3, oi p4, oi (0 : Int32), oi v5, oi v9, .unset, .unset, .unset, .unset, .unset, .unset] [(.int v5)] _
        refine XS.ifYes X0.here hx rfl (pc0 := 37) (pc' := 48) rfl (hb hby at_37) rfl ((if0 _ _).trans (teq c12).1) (by decide) (by decide) ?_
        show oS p e below s₁ m 48 #[oi p0, oi p1, oi p2, oi p3, oi p4, oi (0 : Int32), oi v5, oi v9, .unset, .unset, .unset, .unset, .unset, .unset] [] _
        refine XS.iloadN X0.here hx rfl (hb hby at_48) rfl ?_
        exact k
      · skip
        rw [show v13 = (p2 &&& (255 : Int32)) from hv13.trans (by rw [if_neg c12])] at k
        refine pre11 t ?_
        show oS p e below s₁ m 37 #[oi p0, oi p1, oi p2, oi p3, oi p4, oi (0 : Int32), oi v5, oi v9, .unset, .unset, .unset, .unset, .unset, .unset] [(.int v5)] _
        refine XS.ifNo X0.here hx rfl (hb hby at_37) rfl ((if0 _ _).trans (feq c12).1) ?_
        show oS p e below s₁ m 40 #[oi p0, oi p1, oi p2, oi p3, oi p4, oi (0 : Int32), oi v5, oi v9, .unset, .unset, .unset, .unset, .unset, .unset] [] _
        refine XS.iloadN X0.here hx rfl (hb hby at_40) rfl ?_
        show oS p e below s₁ m 41 #[oi p0, oi p1, oi p2, oi p3, oi p4, oi (0 : Int32), oi v5, oi v9, .unset, .unset, .unset, .unset, .unset, .unset] [(.int p2)] _
        refine XS.sipush X0.here hx rfl (hb hby at_41) ?_
        show oS p e below s₁ m 44 #[oi p0, oi p1, oi p2, oi p3, oi p4, oi (0 : Int32), oi v5, oi v9, .unset, .unset, .unset, .unset, .unset, .unset] [(.int (255 : Int32)), (.int p2)] _
        refine XS.iand X0.here hx rfl (hb hby at_44) rfl ?_
        show oS p e below s₁ m 45 #[oi p0, oi p1, oi p2, oi p3, oi p4, oi (0 : Int32), oi v5, oi v9, .unset, .unset, .unset, .unset, .unset, .unset] [(.int (p2 &&& (255 : Int32)))] _
        refine XS.goto X0.here hx rfl (pc0 := 45) (pc' := 49) rfl (hb hby at_45) (by decide) (by decide) ?_
        exact k
    have pre15 : ∀ t, Steps p.tables e below (s₁.setTop (mkF m 53 #[oi p0, oi p1, oi p2, oi p3, oi p4, oi (0 : Int32), oi v5, oi v9, oi v13, .unset, .unset, .unset, .unset, .unset] [(.int v5)])) t → Steps p.tables e below (s₁.setTop (entryFrame m #[(.int p0), (.int p1), (.int p2), (.int p3), (.int p4)] maxLocals)) t := by
      intro t k
      refine pre14 t ?_
      show oS p e below s₁ m 49 #[oi p0, oi p1, oi p2, oi p3, oi p4, oi (0 : Int32), oi v5, oi v9, .unset, .unset, .unset, .unset, .unset, .unset] [(.int v13)] _
      refine XS.istore X0.here hx rfl (hb hby at_49) rfl (l' := #[oi p0, oi p1, oi p2, oi p3, oi p4, oi (0 : Int32), oi v5, oi v9, oi v13, .unset, .unset, .unset, .unset, .unset]) rfl ?_
      show oS p e below s₁ m 51 #[oi p0, oi p1, oi p2, oi p3, oi p4, oi (0 : Int32), oi v5, oi v9, oi v13, .unset, .unset, .unset, .unset, .unset] [] _
      refine XS.iload X0.here hx rfl (hb hby at_51) rfl ?_
      exact k
    obtain ⟨v17, hv17⟩ : ∃ z : Int32, z = (if v5 = (0 : Int32) then p3 else (p3 &&& (255 : Int32))) := ⟨_, rfl⟩
    have pre18 : ∀ t, Steps p.tables e below (s₁.setTop (mkF m 65 #[oi p0, oi p1, oi p2, oi p3, oi p4, oi (0 : Int32), oi v5, oi v9, oi v13, .unset, .unset, .unset, .unset, .unset] [(.int v17)])) t → Steps p.tables e below (s₁.setTop (entryFrame m #[(.int p0), (.int p1), (.int p2), (.int p3), (.int p4)] maxLocals)) t := by
      intro t k
      by_cases c16 : v5 = (0 : Int32)
      · skip
        rw [show v17 = p3 from hv17.trans (by rw [if_pos c16])] at k
        refine pre15 t ?_
        show oS p e below s₁ m 53 #[oi p0, oi p1, oi p2, oi p3, oi p4, oi (0 : Int32), oi v5, oi v9, oi v13, .unset, .unset, .unset, .unset, .unset] [(.int v5)] _
        refine XS.ifYes X0.here hx rfl (pc0 := 53) (pc' := 64) rfl (hb hby at_53) rfl ((if0 _ _).trans (teq c16).1) (by decide) (by decide) ?_
        show oS p e below s₁ m 64 #[oi p0, oi p1, oi p2, oi p3, oi p4, oi (0 : Int32), oi v5, oi v9, oi v13, .unset, .unset, .unset, .unset, .unset] [] _
        refine XS.iloadN X0.here hx rfl (hb hby at_64) rfl ?_
        exact k
      · skip
        rw [show v17 = (p3 &&& (255 : Int32)) from hv17.trans (by rw [if_neg c16])] at k
        refine pre15 t ?_
        show oS p e below s₁ m 53 #[oi p0, oi p1, oi p2, oi p3, oi p4, oi (0 : Int32), oi v5, oi v9, oi v13, .unset, .unset, .unset, .unset, .unset] [(.int v5)] _
        refine XS.ifNo X0.here hx rfl (hb hby at_53) rfl ((if0 _ _).trans (feq c16).1) ?_
        show oS p e below s₁ m 56 #[oi p0, oi p1, oi p2, oi p3, oi p4, oi (0 : Int32), oi v5, oi v9, oi v13, .unset, .unset, .unset, .unset, .unset] [] _
        refine XS.iloadN X0.here hx rfl (hb hby at_56) rfl ?_
        show oS p e below s₁ m 57 #[oi p0, oi p1, oi p2, oi p3, oi p4, oi (0 : Int32), oi v5, oi v9, oi v13, .unset, .unset, .unset, .unset, .unset] [(.int p3)] _
        refine XS.sipush X0.here hx rfl (hb hby at_57) ?_
        show oS p e below s₁ m 60 #[oi p0, oi p1, oi p2, oi p3, oi p4, oi (0 : Int32), oi v5, oi v9, oi v13, .unset, .unset, .unset, .unset, .unset] [(.int (255 : Int32)), (.int p3)] _
        refine XS.iand X0.here hx rfl (hb hby at_60) rfl ?_
        show oS p e below s₁ m 61 #[oi p0, oi p1, oi p2, oi p3, oi p4, oi (0 : Int32), oi v5, oi v9, oi v13, .unset, .unset, .unset, .unset, .unset] [(.int (p3 &&& (255 : Int32)))] _
        refine XS.goto X0.here hx rfl (pc0 := 61) (pc' := 65) rfl (hb hby at_61) (by decide) (by decide) ?_
        exact k
    obtain ⟨T19, h19, k19, X19, e19, E19, A19, B19, st19⟩ := newPE X0 hx hZ (hw _ (List.mem_of_getElem? (i := 0) rfl)) e0 (g := (mkF m 69 #[oi p0, oi p1, oi p2, oi p3, oi p4, oi (0 : Int32), oi v5, oi v9, oi v13, oi v17, .unset, .unset, .unset, .unset] [(.int (0 : Int32))])) rfl (hb hby at_69) rfl (by decide) (cap := 0) (by decide) (by decide) (by decide) (by decide) (ad := "[I") rfl
    obtain ⟨b19, g19⟩ : ∃ z, z = h0.size := ⟨_, rfl⟩
    rw [← g19] at A19 st19 B19
    have g_b19 : n0 ≤ b19 := Nat.le_trans Z0 (Nat.le_of_eq g19.symm)
    have Z19 : n0 ≤ h19.size := Nat.le_trans Z0 E19.1
    have V_20 : Arv Z h19 b19 k19 .int (0 : Int32) [] (.int (0 : Int32)) := (Arv.new A19 (by decide))
    have b21 : ¬ ((0 : Int32) < (0 : Int32)) := (by decide)
    have b22 : ¬ ((1 : Int32) < (0 : Int32)) := (by decide)
    have b23 : ¬ ((2 : Int32) < (0 : Int32)) := (by decide)
    obtain ⟨T24, h24, X24, e24, E24, A24, D24, -, st24⟩ := newO X19 hx hZ hown (hw _ (List.mem_of_getElem? (i := 1) rfl)) (hw _ (List.mem_of_getElem? (i := 2) rfl)) (hw _ (List.mem_of_getElem? (i := 3) rfl)) e19 (g := (mkF m 108 #[oi p0, oi p1, oi p2, oi p3, oi p4, oi (0 : Int32), oi v5, oi v9, oi v13, oi v17, oa b19, .unset, .unset, .unset] [])) rfl (hb hby at_108) (by decide) (by decide)
    obtain ⟨b24, g24⟩ : ∃ z, z = h19.size := ⟨_, rfl⟩
    rw [← g24] at A24 D24 st24
    have g_b24 : n0 ≤ b24 := Nat.le_trans Z19 (Nat.le_of_eq g24.symm)
    have ne25 : b19 ≠ b24 := Nat.ne_of_lt (Nat.lt_of_lt_of_le V_20.lt (Nat.le_of_eq g24.symm))
    have Z24 : n0 ≤ h24.size := Nat.le_trans Z19 E24.1
    have F26 := V_20.ext E24
    have F27 := B19.ext E24
    have F_28 : Fld Z h24 b24 "com/example/penstock/penstock/Design" "byteIndices" "[B" .null := D24 (Or.inr (hw _ (List.mem_of_getElem? (i := 12) rfl))) (ty := (.array .byte)) (by decide)
    have F_29 : Fld Z h24 b24 "com/example/penstock/penstock/Design" "intIndices" "[I" .null := D24 (Or.inr (hw _ (List.mem_of_getElem? (i := 14) rfl))) (ty := (.array .int)) (by decide)
    have F_30 : Fld Z h24 b24 "com/example/penstock/penstock/Design" "hash" "I" (.int (0 : Int32)) := D24 (Or.inr (hw _ (List.mem_of_getElem? (i := 20) rfl))) (ty := .int) (by decide)
    have pre31 : ∀ t, Steps p.tables e below (T24.setTop (mkF m 114 #[oi p0, oi p1, oi p2, oi p3, oi p4, oi (0 : Int32), oi v5, oi v9, oi v13, oi v17, oa b19, .unset, .unset, .unset] [(.ref b19), (.ref b24), (.ref b24)])) t → Steps p.tables e below (s₁.setTop (entryFrame m #[(.int p0), (.int p1), (.int p2), (.int p3), (.int p4)] maxLocals)) t := by
      intro t k
      refine pre18 t ?_
      show oS p e below s₁ m 65 #[oi p0, oi p1, oi p2, oi p3, oi p4, oi (0 : Int32), oi v5, oi v9, oi v13, .unset, .unset, .unset, .unset, .unset] [(.int v17)] _
      refine XS.istore X0.here hx rfl (hb hby at_65) rfl (l' := #[oi p0, oi p1, oi p2, oi p3, oi p4, oi (0 : Int32), oi v5, oi v9, oi v13, oi v17, .unset, .unset, .unset, .unset]) rfl ?_
      show oS p e below s₁ m 67 #[oi p0, oi p1, oi p2, oi p3, oi p4, oi (0 : Int32), oi v5, oi v9, oi v13, oi v17, .unset, .unset, .unset, .unset] [] _
      refine XS.iload X0.here hx rfl (hb hby at_67) rfl ?_
      show oS p e below s₁ m 69 #[oi p0, oi p1, oi p2, oi p3, oi p4, oi (0 : Int32), oi v5, oi v9, oi v13, oi v17, .unset, .unset, .unset, .unset] [(.int (0 : Int32))] _
      refine st19 _ ?_
      show oS p e below T19 m 71 #[oi p0, oi p1, oi p2, oi p3, oi p4, oi (0 : Int32), oi v5, oi v9, oi v13, oi v17, .unset, .unset, .unset, .unset] [(.ref b19)] _
      refine XS.astore X19.here hx rfl (hb hby at_71) rfl rfl (l' := #[oi p0, oi p1, oi p2, oi p3, oi p4, oi (0 : Int32), oi v5, oi v9, oi v13, oi v17, oa b19, .unset, .unset, .unset]) rfl ?_
      show oS p e below T19 m 73 #[oi p0, oi p1, oi p2, oi p3, oi p4, oi (0 : Int32), oi v5, oi v9, oi v13, oi v17, oa b19, .unset, .unset, .unset] [] _
      refine XS.iload X19.here hx rfl (hb hby at_73) rfl ?_
      show oS p e below T19 m 75 #[oi p0, oi p1, oi p2, oi p3, oi p4, oi (0 : Int32), oi v5, oi v9, oi v13, oi v17, oa b19, .unset, .unset, .unset] [(.int (0 : Int32))] _
      refine XS.ifYes X19.here hx rfl (pc0 := 75) (pc' := 84) rfl (hb hby at_75) rfl ((if0 _ _).trans (flt b21).2.2.2) (by decide) (by decide) ?_
      show oS p e below T19 m 84 #[oi p0, oi p1, oi p2, oi p3, oi p4, oi (0 : Int32), oi v5, oi v9, oi v13, oi v17, oa b19, .unset, .unset, .unset] [] _
      refine XS.iload X19.here hx rfl (hb hby at_84) rfl ?_
      show oS p e below T19 m 86 #[oi p0, oi p1, oi p2, oi p3, oi p4, oi (0 : Int32), oi v5, oi v9, oi v13, oi v17, oa b19, .unset, .unset, .unset] [(.int (0 : Int32))] _
      refine XS.iconst X19.here hx rfl (hb hby at_86) ?_
      show oS p e below T19 m 87 #[oi p0, oi p1, oi p2, oi p3, oi p4, oi (0 : Int32), oi v5, oi v9, oi v13, oi v17, oa b19, .unset, .unset, .unset] [(.int (1 : Int32)), (.int (0 : Int32))] _
      refine XS.icmpYes X19.here hx rfl (pc0 := 87) (pc' := 96) rfl (hb hby at_87) rfl (flt b22).2.2.2 (by decide) (by decide) ?_
      show oS p e below T19 m 96 #[oi p0, oi p1, oi p2, oi p3, oi p4, oi (0 : Int32), oi v5, oi v9, oi v13, oi v17, oa b19, .unset, .unset, .unset] [] _
      refine XS.iload X19.here hx rfl (hb hby at_96) rfl ?_
      show oS p e below T19 m 98 #[oi p0, oi p1, oi p2, oi p3, oi p4, oi (0 : Int32), oi v5, oi v9, oi v13, oi v17, oa b19, .unset, .unset, .unset] [(.int (0 : Int32))] _
      refine XS.iconst X19.here hx rfl (hb hby at_98) ?_
      show oS p e below T19 m 99 #[oi p0, oi p1, oi p2, oi p3, oi p4, oi (0 : Int32), oi v5, oi v9, oi v13, oi v17, oa b19, .unset, .unset, .unset] [(.int (2 : Int32)), (.int (0 : Int32))] _
      refine XS.icmpYes X19.here hx rfl (pc0 := 99) (pc' := 108) rfl (hb hby at_99) rfl (flt b23).2.2.2 (by decide) (by decide) ?_
      show oS p e below T19 m 108 #[oi p0, oi p1, oi p2, oi p3, oi p4, oi (0 : Int32), oi v5, oi v9, oi v13, oi v17, oa b19, .unset, .unset, .unset] [] _
      refine st24 _ ?_
      show oS p e below T24 m 111 #[oi p0, oi p1, oi p2, oi p3, oi p4, oi (0 : Int32), oi v5, oi v9, oi v13, oi v17, oa b19, .unset, .unset, .unset] [(.ref b24)] _
      refine XS.dup X24.here hx rfl (hb hby at_111) rfl rfl ?_
      show oS p e below T24 m 112 #[oi p0, oi p1, oi p2, oi p3, oi p4, oi (0 : Int32), oi v5, oi v9, oi v13, oi v17, oa b19, .unset, .unset, .unset] [(.ref b24), (.ref b24)] _
      refine XS.aload X24.here hx rfl (hb hby at_112) rfl rfl ?_
      exact k
    obtain ⟨_, _, ⟨T32, L32, k32, n32⟩, -, X32, ⟨Lc32, hQ32, l32, y32, z32⟩, st32⟩ := X24.specialBack hx (y := (⟨"com/example/penstock/penstock/Design", "<init>", "([I)V"⟩ : MethodName)) rfl hown (mvT hZ (hw _ (List.mem_of_getElem? (i := 4) rfl))) (mvT hZ (hw _ (List.mem_of_getElem? (i := 5) rfl))) (mvT hZ (hw _ (List.mem_of_getElem? (i := 6) rfl))) (by decide) (backOf (W := 1) (own_rm1b0 l Z av hw [] b24 b19 k19 h24 n0 Z24 A24 F_28 F_29 F_30 g_b24 F26 F27 (ne25)) hZ (hw _ (List.mem_of_getElem? (i := 6) rfl)) (hw _ (List.mem_of_getElem? (i := 3) rfl)) (by decide) (by decide)) (g := (mkF m 114 #[oi p0, oi p1, oi p2, oi p3, oi p4, oi (0 : Int32), oi v5, oi v9, oi v13, oi v17, oa b19, .unset, .unset, .unset] [(.ref b19), (.ref b24), (.ref b24)])) rfl (by rw [hml]; rfl) (Steps.refl _) (a := b24) (argsL := [(.ref b19)]) (rest := [(.ref b24)]) (lenOf own_pd3 rfl) rfl (by show 2 * 0 + _ ≤ _; exact Nat.le_of_eq rfl) (hb hby at_114) (fun _ _ => ⟨rfl, e24, (by decide : 2 + 1 ≤ _), (by decide : 3 + 0 ≤ _)⟩)
    dsimp only [Pt.U, Pt.locs, Pt.cells, Pt.slots] at X32 l32 y32 z32 st32 hQ32
    have yq32 : k32 = 3 := y32
    have zq32 : n32 = 3 := z32
    subst yq32 zq32
    obtain ⟨b_32, k_b_32, rfl, Nq32, Kq32, gq32_b, Oq32_0, Oq32_1, Oq32_2, Oq32_3⟩ := hQ32
    have N32 : Fr n0 L32 := by rw [l32]; exact Fr.app N0 Nq32
    have Z32 : n0 ≤ T32.heap.size := Nat.le_trans Z24 Kq32.1
    have g_b_32 : n0 ≤ b_32 := Nat.le_trans Z24 gq32_b
    have ne33 : b19 ≠ b_32 := Nat.ne_of_lt (Nat.lt_of_lt_of_le F26.lt gq32_b)
    have ne34 : b24 ≠ b_32 := Nat.ne_of_lt (Nat.lt_of_lt_of_le A24.lt gq32_b)
    have F35 := F26.keep Kq32 (ninS ne25 nin0)
    have F36 := F27.keep Kq32
    have F37 := A24.keep Kq32
    obtain ⟨cq38, kq38, q38a, q38b, q38c⟩ := isOf hZ rfl Oq32_0
    obtain ⟨_, _, ⟨T38, L38, k38, n38⟩, -, X38, ⟨Lc38, hQ38, l38, y38, z38⟩, st38⟩ := X32.virtualBack hx (y := (⟨"com/example/penstock/penstock/Design", "sizeIndices", "()[I"⟩ : MethodName)) (z := (⟨"com/example/penstock/penstock/Design", "sizeIndices", "()[I"⟩ : MethodName)) hown (mvT hZ (hw _ (List.mem_of_getElem? (i := 21) rfl))) (mvT hZ (hw _ (List.mem_of_getElem? (i := 22) rfl))) (notFace_of_selects (args := #[]) (mvT hZ (hw _ (List.mem_of_getElem? (i := 24) rfl)))) (mvT hZ (hw _ (List.mem_of_getElem? (i := 24) rfl))) (mvT hZ (hw _ (List.mem_of_getElem? (i := 23) rfl))) (by decide) (backOf (W := 0) (own_rm4b0 l Z av hw [] b24 b_32 k_b_32 T32.heap n0 Z32 Oq32_2 Oq32_1 Oq32_3) hZ (hw _ (List.mem_of_getElem? (i := 25) rfl)) (hw _ (List.mem_of_getElem? (i := 3) rfl)) (by decide) (by decide)) q38a q38c (g := (mkF m 121 #[oi p0, oi p1, oi p2, oi p3, oi p4, oi (0 : Int32), oi v5, oi v9, oi v13, oi v17, oa b19, oa b24, .unset, .unset] [(.ref b24)])) rfl (by rw [hml]; rfl) (Steps.refl _) (argsL := []) (rest := []) (lenOf own_pd4 rfl) rfl (by show 2 * 0 + _ ≤ _; exact Nat.le_of_eq rfl) (hb hby at_121) (fun _ _ => ⟨rfl, rfl, (by decide : 3 + 1 ≤ _), (by decide : 3 + 0 ≤ _)⟩)
    dsimp only [Pt.U, Pt.locs, Pt.cells, Pt.slots] at X38 l38 y38 z38 st38 hQ38
    have yq38 : k38 = 4 := y38
    have zq38 : n38 = 3 := z38
    subst yq38 zq38
    obtain ⟨r_38, k_r_38, rfl, Nq38, Kq38, gq38_r, Oq38_0⟩ := hQ38
    have N38 : Fr n0 L38 := by rw [l38]; exact Fr.app N32 Nq38
    have Z38 : n0 ≤ T38.heap.size := Nat.le_trans Z32 Kq38.1
    have g_r_38 : n0 ≤ r_38 := Nat.le_trans Z32 gq38_r
    have ne39 : b19 ≠ r_38 := Nat.ne_of_lt (Nat.lt_of_lt_of_le F35.lt gq38_r)
    have ne40 : b24 ≠ r_38 := Nat.ne_of_lt (Nat.lt_of_lt_of_le Oq32_0.lt gq38_r)
    have ne41 : b_32 ≠ r_38 := Nat.ne_of_lt (Nat.lt_of_lt_of_le Oq32_3.lt gq38_r)
    have F42 := F35.keep Kq38 nin0
    have F43 := F36.keep Kq38
    have F44 := Oq32_0.keep Kq38
    have F45 := Oq32_1.keep Kq38 nin0
    have F46 := Oq32_2.keep Kq38 nin0
    have F47 := Oq32_3.keep Kq38 nin0
    have b48 : (0 : Int32) = (0 : Int32) := (by decide)
    have b49 : ¬ ((0 : Int32) < (0 : Int32)) := (by decide)
    have b50 : ¬ ((1 : Int32) < (0 : Int32)) := (by decide)
    have b51 : ¬ ((2 : Int32) < (0 : Int32)) := (by decide)
    have b52 : ¬ ((0 : Int32) < (0 : Int32)) := (by decide)
    obtain ⟨fs, hr, hrun, hended, hW, hsame⟩ := X38.leave (v := (some (.int (1 : Int32)))) (fun h => by rw [Bd.returns] at h; cases h)
    refine ⟨_, _, pre31 _ ?_, hrun, hended, _, _, rfl, ?_, ⟨_, rfl⟩, hW, hsame.mono (by decide) (by decide)⟩
    · show oS p e below T24 m 114 #[oi p0, oi p1, oi p2, oi p3, oi p4, oi (0 : Int32), oi v5, oi v9, oi v13, oi v17, oa b19, .unset, .unset, .unset] [(.ref b19), (.ref b24), (.ref b24)] _
      refine st32.trans ?_
      show oS p e below T32 m 117 #[oi p0, oi p1, oi p2, oi p3, oi p4, oi (0 : Int32), oi v5, oi v9, oi v13, oi v17, oa b19, .unset, .unset, .unset] [(.ref b24)] _
      refine XS.astore X32.here hx rfl (hb hby at_117) rfl rfl (l' := #[oi p0, oi p1, oi p2, oi p3, oi p4, oi (0 : Int32), oi v5, oi v9, oi v13, oi v17, oa b19, oa b24, .unset, .unset]) rfl ?_
      show oS p e below T32 m 119 #[oi p0, oi p1, oi p2, oi p3, oi p4, oi (0 : Int32), oi v5, oi v9, oi v13, oi v17, oa b19, oa b24, .unset, .unset] [] _
      refine XS.aload X32.here hx rfl (hb hby at_119) rfl rfl ?_
      show oS p e below T32 m 121 #[oi p0, oi p1, oi p2, oi p3, oi p4, oi (0 : Int32), oi v5, oi v9, oi v13, oi v17, oa b19, oa b24, .unset, .unset] [(.ref b24)] _
      refine st38.trans ?_
      show oS p e below T38 m 124 #[oi p0, oi p1, oi p2, oi p3, oi p4, oi (0 : Int32), oi v5, oi v9, oi v13, oi v17, oa b19, oa b24, .unset, .unset] [(.ref r_38)] _
      refine XS.astore X38.here hx rfl (hb hby at_124) rfl rfl (l' := #[oi p0, oi p1, oi p2, oi p3, oi p4, oi (0 : Int32), oi v5, oi v9, oi v13, oi v17, oa b19, oa b24, oa r_38, .unset]) rfl ?_
      show oS p e below T38 m 126 #[oi p0, oi p1, oi p2, oi p3, oi p4, oi (0 : Int32), oi v5, oi v9, oi v13, oi v17, oa b19, oa b24, oa r_38, .unset] [] _
      refine XS.aload X38.here hx rfl (hb hby at_126) rfl rfl ?_
      show oS p e below T38 m 128 #[oi p0, oi p1, oi p2, oi p3, oi p4, oi (0 : Int32), oi v5, oi v9, oi v13, oi v17, oa b19, oa b24, oa r_38, .unset] [(.ref r_38)] _
      refine XS.ifnullNo X38.here hx rfl (hb hby at_128) rfl ?_
      show oS p e below T38 m 131 #[oi p0, oi p1, oi p2, oi p3, oi p4, oi (0 : Int32), oi v5, oi v9, oi v13, oi v17, oa b19, oa b24, oa r_38, .unset] [] _
      refine XS.aload X38.here hx rfl (hb hby at_131) rfl rfl ?_
      show oS p e below T38 m 133 #[oi p0, oi p1, oi p2, oi p3, oi p4, oi (0 : Int32), oi v5, oi v9, oi v13, oi v17, oa b19, oa b24, oa r_38, .unset] [(.ref r_38)] _
      refine oLen X38 hx hZ rfl Oq38_0 (hb hby at_133) ?_
      show oS p e below T38 m 134 #[oi p0, oi p1, oi p2, oi p3, oi p4, oi (0 : Int32), oi v5, oi v9, oi v13, oi v17, oa b19, oa b24, oa r_38, .unset] [(.int (0 : Int32))] _
      refine XS.iload X38.here hx rfl (hb hby at_134) rfl ?_
      show oS p e below T38 m 136 #[oi p0, oi p1, oi p2, oi p3, oi p4, oi (0 : Int32), oi v5, oi v9, oi v13, oi v17, oa b19, oa b24, oa r_38, .unset] [(.int (0 : Int32)), (.int (0 : Int32))] _
      refine XS.icmpYes X38.here hx rfl (pc0 := 136) (pc' := 141) rfl (hb hby at_136) rfl (teq b48).1 (by decide) (by decide) ?_
      show oS p e below T38 m 141 #[oi p0, oi p1, oi p2, oi p3, oi p4, oi (0 : Int32), oi v5, oi v9, oi v13, oi v17, oa b19, oa b24, oa r_38, .unset] [] _
      refine XS.iload X38.here hx rfl (hb hby at_141) rfl ?_
      show oS p e below T38 m 143 #[oi p0, oi p1, oi p2, oi p3, oi p4, oi (0 : Int32), oi v5, oi v9, oi v13, oi v17, oa b19, oa b24, oa r_38, .unset] [(.int (0 : Int32))] _
      refine XS.ifYes X38.here hx rfl (pc0 := 143) (pc' := 157) rfl (hb hby at_143) rfl ((if0 _ _).trans (flt b49).2.2.2) (by decide) (by decide) ?_
      show oS p e below T38 m 157 #[oi p0, oi p1, oi p2, oi p3, oi p4, oi (0 : Int32), oi v5, oi v9, oi v13, oi v17, oa b19, oa b24, oa r_38, .unset] [] _
      refine XS.iload X38.here hx rfl (hb hby at_157) rfl ?_
      show oS p e below T38 m 159 #[oi p0, oi p1, oi p2, oi p3, oi p4, oi (0 : Int32), oi v5, oi v9, oi v13, oi v17, oa b19, oa b24, oa r_38, .unset] [(.int (0 : Int32))] _
      refine XS.iconst X38.here hx rfl (hb hby at_159) ?_
      show oS p e below T38 m 160 #[oi p0, oi p1, oi p2, oi p3, oi p4, oi (0 : Int32), oi v5, oi v9, oi v13, oi v17, oa b19, oa b24, oa r_38, .unset] [(.int (1 : Int32)), (.int (0 : Int32))] _
      refine XS.icmpYes X38.here hx rfl (pc0 := 160) (pc' := 174) rfl (hb hby at_160) rfl (flt b50).2.2.2 (by decide) (by decide) ?_
      show oS p e below T38 m 174 #[oi p0, oi p1, oi p2, oi p3, oi p4, oi (0 : Int32), oi v5, oi v9, oi v13, oi v17, oa b19, oa b24, oa r_38, .unset] [] _
      refine XS.iload X38.here hx rfl (hb hby at_174) rfl ?_
      show oS p e below T38 m 176 #[oi p0, oi p1, oi p2, oi p3, oi p4, oi (0 : Int32), oi v5, oi v9, oi v13, oi v17, oa b19, oa b24, oa r_38, .unset] [(.int (0 : Int32))] _
      refine XS.iconst X38.here hx rfl (hb hby at_176) ?_
      show oS p e below T38 m 177 #[oi p0, oi p1, oi p2, oi p3, oi p4, oi (0 : Int32), oi v5, oi v9, oi v13, oi v17, oa b19, oa b24, oa r_38, .unset] [(.int (2 : Int32)), (.int (0 : Int32))] _
      refine XS.icmpYes X38.here hx rfl (pc0 := 177) (pc' := 191) rfl (hb hby at_177) rfl (flt b51).2.2.2 (by decide) (by decide) ?_
      show oS p e below T38 m 191 #[oi p0, oi p1, oi p2, oi p3, oi p4, oi (0 : Int32), oi v5, oi v9, oi v13, oi v17, oa b19, oa b24, oa r_38, .unset] [] _
      refine XS.iload X38.here hx rfl (hb hby at_191) rfl ?_
      show oS p e below T38 m 193 #[oi p0, oi p1, oi p2, oi p3, oi p4, oi (0 : Int32), oi v5, oi v9, oi v13, oi v17, oa b19, oa b24, oa r_38, .unset] [(.int (0 : Int32))] _
      refine XS.ifYes X38.here hx rfl (pc0 := 193) (pc' := 244) rfl (hb hby at_193) rfl ((if0 _ _).trans (flt b52).2.2.2) (by decide) (by decide) ?_
      show oS p e below T38 m 244 #[oi p0, oi p1, oi p2, oi p3, oi p4, oi (0 : Int32), oi v5, oi v9, oi v13, oi v17, oa b19, oa b24, oa r_38, .unset] [] _
      refine XS.iconst X38.here hx rfl (hb hby at_244) ?_
      show oS p e below T38 m 245 #[oi p0, oi p1, oi p2, oi p3, oi p4, oi (0 : Int32), oi v5, oi v9, oi v13, oi v17, oa b19, oa b24, oa r_38, .unset] [(.int (1 : Int32))] _
      exact retN X38 hx (t := .boolean) Bd.returns (by simp) (hb hby at_245) hr
    · show own_Q0 Z p0 p1 p2 p3 p4 h0 n0 _ T38.heap _
      exact ⟨rfl, N38⟩
  · skip
    rw [k2] at pre1
    have pre53 : ∀ t, Steps p.tables e below (s₁.setTop (mkF m 9 #[oi p0, oi p1, oi p2, oi p3, oi p4, oi (1 : Int32), .unset, .unset, .unset, .unset, .unset, .unset, .unset, .unset] [(.int (p4 &&& (1 : Int32)))])) t → Steps p.tables e below (s₁.setTop (entryFrame m #[(.int p0), (.int p1), (.int p2), (.int p3), (.int p4)] maxLocals)) t := by
      intro t k
      refine pre1 t ?_
      show oS p e below s₁ m 3 #[oi p0, oi p1, oi p2, oi p3, oi p4, .unset, .unset, .unset, .unset, .unset, .unset, .unset, .unset, .unset] [(.int (1 : Int32))] _
      refine XS.istore X0.here hx rfl (hb hby at_3) rfl (l' := #[oi p0, oi p1, oi p2, oi p3, oi p4, oi (1 : Int32), .unset, .unset, .unset, .unset, .unset, .unset, .unset, .unset]) rfl ?_
      show oS p e below s₁ m 5 #[oi p0, oi p1, oi p2, oi p3, oi p4, oi (1 : Int32), .unset, .unset, .unset, .unset, .unset, .unset, .unset, .unset] [] _
      refine XS.iload X0.here hx rfl (hb hby at_5) rfl ?_
      show oS p e below s₁ m 7 #[oi p0, oi p1, oi p2, oi p3, oi p4, oi (1 : Int32), .unset, .unset, .unset, .unset, .unset, .unset, .unset, .unset] [(.int p4)] _
      refine XS.iconst X0.here hx rfl (hb hby at_7) ?_
      show oS p e below s₁ m 8 #[oi p0, oi p1, oi p2, oi p3, oi p4, oi (1 : Int32), .unset, .unset, .unset, .unset, .unset, .unset, .unset, .unset] [(.int (1 : Int32)), (.int p4)] _
      refine XS.iand X0.here hx rfl (hb hby at_8) rfl ?_
      exact k
    obtain ⟨v55, hv55⟩ : ∃ z : Int32, z = (if (p4 &&& (1 : Int32)) = (0 : Int32) then (0 : Int32) else (1 : Int32)) := ⟨_, rfl⟩
    have pre56 : ∀ t, Steps p.tables e below (s₁.setTop (mkF m 17 #[oi p0, oi p1, oi p2, oi p3, oi p4, oi (1 : Int32), .unset, .unset, .unset, .unset, .unset, .unset, .unset, .unset] [(.int v55)])) t → Steps p.tables e below (s₁.setTop (entryFrame m #[(.int p0), (.int p1), (.int p2), (.int p3), (.int p4)] maxLocals)) t := by
      intro t k
      by_cases c54 : (p4 &&& (1 : Int32)) = (0 : Int32)
      · skip
        rw [show v55 = (0 : Int32) from hv55.trans (by rw [if_pos c54])] at k
        refine pre53 t ?_
        show oS p e below s₁ m 9 #[oi p0, oi p1, oi p2, oi p3, oi p4, oi (1 : Int32), .unset, .unset, .unset, .unset, .unset, .unset, .unset, .unset] [(.int (p4 &&& (1 : Int32)))] _
        refine XS.ifYes X0.here hx rfl (pc0 := 9) (pc' := 16) rfl (hb hby at_9) rfl ((if0 _ _).trans (teq c54).1) (by decide) (by decide) ?_
        show oS p e below s₁ m 16 #[oi p0, oi p1, oi p2, oi p3, oi p4, oi (1 : Int32), .unset, .unset, .unset, .unset, .unset, .unset, .unset, .unset] [] _
        refine XS.iconst X0.here hx rfl (hb hby at_16) ?_
        exact k
      · skip
        rw [show v55 = (1 : Int32) from hv55.trans (by rw [if_neg c54])] at k
        refine pre53 t ?_
        show oS p e below s₁ m 9 #[oi p0, oi p1, oi p2, oi p3, oi p4, oi (1 : Int32), .unset, .unset, .unset, .unset, .unset, .unset, .unset, .unset] [(.int (p4 &&& (1 : Int32)))] _
        refine XS.ifNo X0.here hx rfl (hb hby at_9) rfl ((if0 _ _).trans (feq c54).1) ?_
        show oS p e below s₁ m 12 #[oi p0, oi p1, oi p2, oi p3, oi p4, oi (1 : Int32), .unset, .unset, .unset, .unset, .unset, .unset, .unset, .unset] [] _
        refine XS.iconst X0.here hx rfl (hb hby at_12) ?_
        show oS p e below s₁ m 13 #[oi p0, oi p1, oi p2, oi p3, oi p4, oi (1 : Int32), .unset, .unset, .unset, .unset, .unset, .unset, .unset, .unset] [(.int (1 : Int32))] _
        refine XS.goto X0.here hx rfl (pc0 := 13) (pc' := 17) rfl (hb hby at_13) (by decide) (by decide) ?_
        exact k
    have pre57 : ∀ t, Steps p.tables e below (s₁.setTop (mkF m 21 #[oi p0, oi p1, oi p2, oi p3, oi p4, oi (1 : Int32), oi v55, .unset, .unset, .unset, .unset, .unset, .unset, .unset] [(.int v55)])) t → Steps p.tables e below (s₁.setTop (entryFrame m #[(.int p0), (.int p1), (.int p2), (.int p3), (.int p4)] maxLocals)) t := by
      intro t k
      refine pre56 t ?_
      show oS p e below s₁ m 17 #[oi p0, oi p1, oi p2, oi p3, oi p4, oi (1 : Int32), .unset, .unset, .unset, .unset, .unset, .unset, .unset, .unset] [(.int v55)] _
      refine XS.istore X0.here hx rfl (hb hby at_17) rfl (l' := #[oi p0, oi p1, oi p2, oi p3, oi p4, oi (1 : Int32), oi v55, .unset, .unset, .unset, .unset, .unset, .unset, .unset]) rfl ?_
      show oS p e below s₁ m 19 #[oi p0, oi p1, oi p2, oi p3, oi p4, oi (1 : Int32), oi v55, .unset, .unset, .unset, .unset, .unset, .unset, .unset] [] _
      refine XS.iload X0.here hx rfl (hb hby at_19) rfl ?_
      exact k
    obtain ⟨v59, hv59⟩ : ∃ z : Int32, z = (if v55 = (0 : Int32) then p1 else (p1 &&& (255 : Int32))) := ⟨_, rfl⟩
    have pre60 : ∀ t, Steps p.tables e below (s₁.setTop (mkF m 33 #[oi p0, oi p1, oi p2, oi p3, oi p4, oi (1 : Int32), oi v55, .unset, .unset, .unset, .unset, .unset, .unset, .unset] [(.int v59)])) t → Steps p.tables e below (s₁.setTop (entryFrame m #[(.int p0), (.int p1), (.int p2), (.int p3), (.int p4)] maxLocals)) t := by
      intro t k
      by_cases c58 : v55 = (0 : Int32)
      · skip
        rw [show v59 = p1 from hv59.trans (by rw [if_pos c58])] at k
        refine pre57 t ?_
        show oS p e below s₁ m 21 #[oi p0, oi p1, oi p2, oi p3, oi p4, oi (1 : Int32), oi v55, .unset, .unset, .unset, .unset, .unset, .unset, .unset] [(.int v55)] _
        refine XS.ifYes X0.here hx rfl (pc0 := 21) (pc' := 32) rfl (hb hby at_21) rfl ((if0 _ _).trans (teq c58).1) (by decide) (by decide) ?_
        show oS p e below s₁ m 32 #[oi p0, oi p1, oi p2, oi p3, oi p4, oi (1 : Int32), oi v55, .unset, .unset, .unset, .unset, .unset, .unset, .unset] [] _
        refine XS.iloadN X0.here hx rfl (hb hby at_32) rfl ?_
        exact k
      · skip
        rw [show v59 = (p1 &&& (255 : Int32)) from hv59.trans (by rw [if_neg c58])] at k
        refine pre57 t ?_
        show oS p e below s₁ m 21 #[oi p0, oi p1, oi p2, oi p3, oi p4, oi (1 : Int32), oi v55, .unset, .unset, .unset, .unset, .unset, .unset, .unset] [(.int v55)] _
        refine XS.ifNo X0.here hx rfl (hb hby at_21) rfl ((if0 _ _).trans (feq c58).1) ?_
        show oS p e below s₁ m 24 #[oi p0, oi p1, oi p2, oi p3, oi p4, oi (1 : Int32), oi v55, .unset, .unset, .unset, .unset, .unset, .unset, .unset] [] _
        refine XS.iloadN X0.here hx rfl (hb hby at_24) rfl ?_
        show oS p e below s₁ m 25 #[oi p0, oi p1, oi p2, oi p3, oi p4, oi (1 : Int32), oi v55, .unset, .unset, .unset, .unset, .unset, .unset, .unset] [(.int p1)] _
        refine XS.sipush X0.here hx rfl (hb hby at_25) ?_
        show oS p e below s₁ m 28 #[oi p0, oi p1, oi p2, oi p3, oi p4, oi (1 : Int32), oi v55, .unset, .unset, .unset, .unset, .unset, .unset, .unset] [(.int (255 : Int32)), (.int p1)] _
        refine XS.iand X0.here hx rfl (hb hby at_28) rfl ?_
        show oS p e below s₁ m 29 #[oi p0, oi p1, oi p2, oi p3, oi p4, oi (1 : Int32), oi v55, .unset, .unset, .unset, .unset, .unset, .unset, .unset] [(.int (p1 &&& (255 : Int32)))] _
        refine XS.goto X0.here hx rfl (pc0 := 29) (pc' := 33) rfl (hb hby at_29) (by decide) (by decide) ?_
        exact k
    have pre61 : ∀ t, Steps p.tables e below (s₁.setTop (mkF m 37 #[oi p0, oi p1, oi p2, oi p3, oi p4, oi (1 : Int32), oi v55, oi v59, .unset, .unset, .unset, .unset, .unset, .unset] [(.int v55)])) t → Steps p.tables e below (s₁.setTop (entryFrame m #[(.int p0), (.int p1), (.int p2), (.int p3), (.int p4)] maxLocals)) t := by
      intro t k
      refine pre60 t ?_
      show oS p e below s₁ m 33 #[oi p0, oi p1, oi p2, oi p3, oi p4, oi (1 : Int32), oi v55, .unset, .unset, .unset, .unset, .unset, .unset, .unset] [(.int v59)] _
      refine XS.istore X0.here hx rfl (hb hby at_33) rfl (l' := #[oi p0, oi p1, oi p2, oi p3, oi p4, oi (1 : Int32), oi v55, oi v59, .unset, .unset, .unset, .unset, .unset, .unset]) rfl ?_
      show oS p e below s₁ m 35 #[oi p0, oi p1, oi p2, oi p3, oi p4, oi (1 : Int32), oi v55, oi v59, .unset, .unset, .unset, .unset, .unset, .unset] [] _
      refine XS.iload X0.here hx rfl (hb hby at_35) rfl ?_
      exact k
    obtain ⟨v63, hv63⟩ : ∃ z : Int32, z = (if v55 = (0 : Int32) then p2 else (p2 &&& (255 : Int32))) := ⟨_, rfl⟩
    have pre64 : ∀ t, Steps p.tables e below (s₁.setTop (mkF m 49 #[oi p0, oi p1, oi p2, oi p3, oi p4, oi (1 : Int32), oi v55, oi v59, .unset, .unset, .unset, .unset, .unset, .unset] [(.int v63)])) t → Steps p.tables e below (s₁.setTop (entryFrame m #[(.int p0), (.int p1), (.int p2), (.int p3), (.int p4)] maxLocals)) t := by
      intro t k
      by_cases c62 : v55 = (0 : Int32)
      · skip
        rw [show v63 = p2 from hv63.trans (by rw [if_pos c62])] at k
        refine pre61 t ?_
        show oS p e below s₁ m 37 #[oi p0, oi p1, oi p2, oi p3, oi p4, oi (1 : Int32), oi v55, oi v59, .unset, .unset, .unset, .unset, .unset, .unset] [(.int v55)] _
        refine XS.ifYes X0.here hx rfl (pc0 := 37) (pc' := 48) rfl (hb hby at_37) rfl ((if0 _ _).trans (teq c62).1) (by decide) (by decide) ?_
        show oS p e below s₁ m 48 #[oi p0, oi p1, oi p2, oi p3, oi p4, oi (1 : Int32), oi v55, oi v59, .unset, .unset, .unset, .unset, .unset, .unset] [] _
        refine XS.iloadN X0.here hx rfl (hb hby at_48) rfl ?_
        exact k
      · skip
        rw [show v63 = (p2 &&& (255 : Int32)) from hv63.trans (by rw [if_neg c62])] at k
        refine pre61 t ?_
        show oS p e below s₁ m 37 #[oi p0, oi p1, oi p2, oi p3, oi p4, oi (1 : Int32), oi v55, oi v59, .unset, .unset, .unset, .unset, .unset, .unset] [(.int v55)] _
        refine XS.ifNo X0.here hx rfl (hb hby at_37) rfl ((if0 _ _).trans (feq c62).1) ?_
        show oS p e below s₁ m 40 #[oi p0, oi p1, oi p2, oi p3, oi p4, oi (1 : Int32), oi v55, oi v59, .unset, .unset, .unset, .unset, .unset, .unset] [] _
        refine XS.iloadN X0.here hx rfl (hb hby at_40) rfl ?_
        show oS p e below s₁ m 41 #[oi p0, oi p1, oi p2, oi p3, oi p4, oi (1 : Int32), oi v55, oi v59, .unset, .unset, .unset, .unset, .unset, .unset] [(.int p2)] _
        refine XS.sipush X0.here hx rfl (hb hby at_41) ?_
        show oS p e below s₁ m 44 #[oi p0, oi p1, oi p2, oi p3, oi p4, oi (1 : Int32), oi v55, oi v59, .unset, .unset, .unset, .unset, .unset, .unset] [(.int (255 : Int32)), (.int p2)] _
        refine XS.iand X0.here hx rfl (hb hby at_44) rfl ?_
        show oS p e below s₁ m 45 #[oi p0, oi p1, oi p2, oi p3, oi p4, oi (1 : Int32), oi v55, oi v59, .unset, .unset, .unset, .unset, .unset, .unset] [(.int (p2 &&& (255 : Int32)))] _
        refine XS.goto X0.here hx rfl (pc0 := 45) (pc' := 49) rfl (hb hby at_45) (by decide) (by decide) ?_
        exact k
    have pre65 : ∀ t, Steps p.tables e below (s₁.setTop (mkF m 53 #[oi p0, oi p1, oi p2, oi p3, oi p4, oi (1 : Int32), oi v55, oi v59, oi v63, .unset, .unset, .unset, .unset, .unset] [(.int v55)])) t → Steps p.tables e below (s₁.setTop (entryFrame m #[(.int p0), (.int p1), (.int p2), (.int p3), (.int p4)] maxLocals)) t := by
      intro t k
      refine pre64 t ?_
      show oS p e below s₁ m 49 #[oi p0, oi p1, oi p2, oi p3, oi p4, oi (1 : Int32), oi v55, oi v59, .unset, .unset, .unset, .unset, .unset, .unset] [(.int v63)] _
      refine XS.istore X0.here hx rfl (hb hby at_49) rfl (l' := #[oi p0, oi p1, oi p2, oi p3, oi p4, oi (1 : Int32), oi v55, oi v59, oi v63, .unset, .unset, .unset, .unset, .unset]) rfl ?_
      show oS p e below s₁ m 51 #[oi p0, oi p1, oi p2, oi p3, oi p4, oi (1 : Int32), oi v55, oi v59, oi v63, .unset, .unset, .unset, .unset, .unset] [] _
      refine XS.iload X0.here hx rfl (hb hby at_51) rfl ?_
      exact k
    obtain ⟨v67, hv67⟩ : ∃ z : Int32, z = (if v55 = (0 : Int32) then p3 else (p3 &&& (255 : Int32))) := ⟨_, rfl⟩
    have pre68 : ∀ t, Steps p.tables e below (s₁.setTop (mkF m 65 #[oi p0, oi p1, oi p2, oi p3, oi p4, oi (1 : Int32), oi v55, oi v59, oi v63, .unset, .unset, .unset, .unset, .unset] [(.int v67)])) t → Steps p.tables e below (s₁.setTop (entryFrame m #[(.int p0), (.int p1), (.int p2), (.int p3), (.int p4)] maxLocals)) t := by
      intro t k
      by_cases c66 : v55 = (0 : Int32)
      · skip
        rw [show v67 = p3 from hv67.trans (by rw [if_pos c66])] at k
        refine pre65 t ?_
        show oS p e below s₁ m 53 #[oi p0, oi p1, oi p2, oi p3, oi p4, oi (1 : Int32), oi v55, oi v59, oi v63, .unset, .unset, .unset, .unset, .unset] [(.int v55)] _
        refine XS.ifYes X0.here hx rfl (pc0 := 53) (pc' := 64) rfl (hb hby at_53) rfl ((if0 _ _).trans (teq c66).1) (by decide) (by decide) ?_
        show oS p e below s₁ m 64 #[oi p0, oi p1, oi p2, oi p3, oi p4, oi (1 : Int32), oi v55, oi v59, oi v63, .unset, .unset, .unset, .unset, .unset] [] _
        refine XS.iloadN X0.here hx rfl (hb hby at_64) rfl ?_
        exact k
      · skip
        rw [show v67 = (p3 &&& (255 : Int32)) from hv67.trans (by rw [if_neg c66])] at k
        refine pre65 t ?_
        show oS p e below s₁ m 53 #[oi p0, oi p1, oi p2, oi p3, oi p4, oi (1 : Int32), oi v55, oi v59, oi v63, .unset, .unset, .unset, .unset, .unset] [(.int v55)] _
        refine XS.ifNo X0.here hx rfl (hb hby at_53) rfl ((if0 _ _).trans (feq c66).1) ?_
        show oS p e below s₁ m 56 #[oi p0, oi p1, oi p2, oi p3, oi p4, oi (1 : Int32), oi v55, oi v59, oi v63, .unset, .unset, .unset, .unset, .unset] [] _
        refine XS.iloadN X0.here hx rfl (hb hby at_56) rfl ?_
        show oS p e below s₁ m 57 #[oi p0, oi p1, oi p2, oi p3, oi p4, oi (1 : Int32), oi v55, oi v59, oi v63, .unset, .unset, .unset, .unset, .unset] [(.int p3)] _
        refine XS.sipush X0.here hx rfl (hb hby at_57) ?_
        show oS p e below s₁ m 60 #[oi p0, oi p1, oi p2, oi p3, oi p4, oi (1 : Int32), oi v55, oi v59, oi v63, .unset, .unset, .unset, .unset, .unset] [(.int (255 : Int32)), (.int p3)] _
        refine XS.iand X0.here hx rfl (hb hby at_60) rfl ?_
        show oS p e below s₁ m 61 #[oi p0, oi p1, oi p2, oi p3, oi p4, oi (1 : Int32), oi v55, oi v59, oi v63, .unset, .unset, .unset, .unset, .unset] [(.int (p3 &&& (255 : Int32)))] _
        refine XS.goto X0.here hx rfl (pc0 := 61) (pc' := 65) rfl (hb hby at_61) (by decide) (by decide) ?_
        exact k
    obtain ⟨T69, h69, k69, X69, e69, E69, A69, B69, st69⟩ := newPE X0 hx hZ (hw _ (List.mem_of_getElem? (i := 0) rfl)) e0 (g := (mkF m 69 #[oi p0, oi p1, oi p2, oi p3, oi p4, oi (1 : Int32), oi v55, oi v59, oi v63, oi v67, .unset, .unset, .unset, .unset] [(.int (1 : Int32))])) rfl (hb hby at_69) rfl (by decide) (cap := 1) (by decide) (by decide) (by decide) (by decide) (ad := "[I") rfl
    obtain ⟨b69, g69⟩ : ∃ z, z = h0.size := ⟨_, rfl⟩
    rw [← g69] at A69 st69 B69
    have g_b69 : n0 ≤ b69 := Nat.le_trans Z0 (Nat.le_of_eq g69.symm)
    have Z69 : n0 ≤ h69.size := Nat.le_trans Z0 E69.1
    have V_70 : Arv Z h69 b69 k69 .int (1 : Int32) [(.int (0 : Int32))] (.int (0 : Int32)) := (Arv.new A69 (by decide)).pad (pad_rep [] (.int (0 : Int32)) 1)
    have b71 : (0 : Int32) < (1 : Int32) := (by decide)
    obtain ⟨T72, h72, X72, e72, W72, V72, st72⟩ := oStI X69 hx hZ e69 V_70 (j := (0 : Int32)) ⟨by decide, by decide⟩ 0 rfl (Nat.le_of_ble_eq_true rfl) (g := (mkF m 83 #[oi p0, oi p1, oi p2, oi p3, oi p4, oi (1 : Int32), oi v55, oi v59, oi v63, oi v67, oa b69, .unset, .unset, .unset] [(.int v59), (.int (0 : Int32)), (.ref b69)])) rfl rfl (hb hby at_83)
    obtain ⟨Lo72, X72, N72⟩ := oOpq X72 (Fr.snoc X72 N0 g_b69)
    have Z72 := Nat.le_trans Z69 (Keep.of_wr W72).1
    have F73 := B69.wr W72
    have V_74 : Arv Z h72 b69 k69 .int (1 : Int32) [(.int v59)] (.int (0 : Int32)) := V72
    have b75 : ¬ ((1 : Int32) < (1 : Int32)) := (by decide)
    have b76 : ¬ ((2 : Int32) < (1 : Int32)) := (by decide)
    obtain ⟨T77, h77, X77, e77, E77, A77, D77, -, st77⟩ := newO X72 hx hZ hown (hw _ (List.mem_of_getElem? (i := 1) rfl)) (hw _ (List.mem_of_getElem? (i := 2) rfl)) (hw _ (List.mem_of_getElem? (i := 3) rfl)) e72 (g := (mkF m 108 #[oi p0, oi p1, oi p2, oi p3, oi p4, oi (1 : Int32), oi v55, oi v59, oi v63, oi v67, oa b69, .unset, .unset, .unset] [])) rfl (hb hby at_108) (by decide) (by decide)
    obtain ⟨b77, g77⟩ : ∃ z, z = h72.size := ⟨_, rfl⟩
    rw [← g77] at A77 D77 st77
    have g_b77 : n0 ≤ b77 := Nat.le_trans Z72 (Nat.le_of_eq g77.symm)
    have ne78 : b69 ≠ b77 := Nat.ne_of_lt (Nat.lt_of_lt_of_le V_74.lt (Nat.le_of_eq g77.symm))
    have Z77 : n0 ≤ h77.size := Nat.le_trans Z72 E77.1
    have F79 := V_74.ext E77
    have F80 := F73.ext E77
    have F_81 : Fld Z h77 b77 "com/example/penstock/penstock/Design" "byteIndices" "[B" .null := D77 (Or.inr (hw _ (List.mem_of_getElem? (i := 12) rfl))) (ty := (.array .byte)) (by decide)
    have F_82 : Fld Z h77 b77 "com/example/penstock/penstock/Design" "intIndices" "[I" .null := D77 (Or.inr (hw _ (List.mem_of_getElem? (i := 14) rfl))) (ty := (.array .int)) (by decide)
    have F_83 : Fld Z h77 b77 "com/example/penstock/penstock/Design" "hash" "I" (.int (0 : Int32)) := D77 (Or.inr (hw _ (List.mem_of_getElem? (i := 20) rfl))) (ty := .int) (by decide)
    have pre84 : ∀ t, Steps p.tables e below (T77.setTop (mkF m 114 #[oi p0, oi p1, oi p2, oi p3, oi p4, oi (1 : Int32), oi v55, oi v59, oi v63, oi v67, oa b69, .unset, .unset, .unset] [(.ref b69), (.ref b77), (.ref b77)])) t → Steps p.tables e below (s₁.setTop (entryFrame m #[(.int p0), (.int p1), (.int p2), (.int p3), (.int p4)] maxLocals)) t := by
      intro t k
      refine pre68 t ?_
      show oS p e below s₁ m 65 #[oi p0, oi p1, oi p2, oi p3, oi p4, oi (1 : Int32), oi v55, oi v59, oi v63, .unset, .unset, .unset, .unset, .unset] [(.int v67)] _
      refine XS.istore X0.here hx rfl (hb hby at_65) rfl (l' := #[oi p0, oi p1, oi p2, oi p3, oi p4, oi (1 : Int32), oi v55, oi v59, oi v63, oi v67, .unset, .unset, .unset, .unset]) rfl ?_
      show oS p e below s₁ m 67 #[oi p0, oi p1, oi p2, oi p3, oi p4, oi (1 : Int32), oi v55, oi v59, oi v63, oi v67, .unset, .unset, .unset, .unset] [] _
      refine XS.iload X0.here hx rfl (hb hby at_67) rfl ?_
      show oS p e below s₁ m 69 #[oi p0, oi p1, oi p2, oi p3, oi p4, oi (1 : Int32), oi v55, oi v59, oi v63, oi v67, .unset, .unset, .unset, .unset] [(.int (1 : Int32))] _
      refine st69 _ ?_
      show oS p e below T69 m 71 #[oi p0, oi p1, oi p2, oi p3, oi p4, oi (1 : Int32), oi v55, oi v59, oi v63, oi v67, .unset, .unset, .unset, .unset] [(.ref b69)] _
      refine XS.astore X69.here hx rfl (hb hby at_71) rfl rfl (l' := #[oi p0, oi p1, oi p2, oi p3, oi p4, oi (1 : Int32), oi v55, oi v59, oi v63, oi v67, oa b69, .unset, .unset, .unset]) rfl ?_
      show oS p e below T69 m 73 #[oi p0, oi p1, oi p2, oi p3, oi p4, oi (1 : Int32), oi v55, oi v59, oi v63, oi v67, oa b69, .unset, .unset, .unset] [] _
      refine XS.iload X69.here hx rfl (hb hby at_73) rfl ?_
      show oS p e below T69 m 75 #[oi p0, oi p1, oi p2, oi p3, oi p4, oi (1 : Int32), oi v55, oi v59, oi v63, oi v67, oa b69, .unset, .unset, .unset] [(.int (1 : Int32))] _
      refine XS.ifNo X69.here hx rfl (hb hby at_75) rfl ((if0 _ _).trans (tlt b71).2.2.2) ?_
      show oS p e below T69 m 78 #[oi p0, oi p1, oi p2, oi p3, oi p4, oi (1 : Int32), oi v55, oi v59, oi v63, oi v67, oa b69, .unset, .unset, .unset] [] _
      refine XS.aload X69.here hx rfl (hb hby at_78) rfl rfl ?_
      show oS p e below T69 m 80 #[oi p0, oi p1, oi p2, oi p3, oi p4, oi (1 : Int32), oi v55, oi v59, oi v63, oi v67, oa b69, .unset, .unset, .unset] [(.ref b69)] _
      refine XS.iconst X69.here hx rfl (hb hby at_80) ?_
      show oS p e below T69 m 81 #[oi p0, oi p1, oi p2, oi p3, oi p4, oi (1 : Int32), oi v55, oi v59, oi v63, oi v67, oa b69, .unset, .unset, .unset] [(.int (0 : Int32)), (.ref b69)] _
      refine XS.iload X69.here hx rfl (hb hby at_81) rfl ?_
      show oS p e below T69 m 83 #[oi p0, oi p1, oi p2, oi p3, oi p4, oi (1 : Int32), oi v55, oi v59, oi v63, oi v67, oa b69, .unset, .unset, .unset] [(.int v59), (.int (0 : Int32)), (.ref b69)] _
      refine st72 _ ?_
      show oS p e below T72 m 84 #[oi p0, oi p1, oi p2, oi p3, oi p4, oi (1 : Int32), oi v55, oi v59, oi v63, oi v67, oa b69, .unset, .unset, .unset] [] _
      refine XS.iload X72.here hx rfl (hb hby at_84) rfl ?_
      show oS p e below T72 m 86 #[oi p0, oi p1, oi p2, oi p3, oi p4, oi (1 : Int32), oi v55, oi v59, oi v63, oi v67, oa b69, .unset, .unset, .unset] [(.int (1 : Int32))] _
      refine XS.iconst X72.here hx rfl (hb hby at_86) ?_
      show oS p e below T72 m 87 #[oi p0, oi p1, oi p2, oi p3, oi p4, oi (1 : Int32), oi v55, oi v59, oi v63, oi v67, oa b69, .unset, .unset, .unset] [(.int (1 : Int32)), (.int (1 : Int32))] _
      refine XS.icmpYes X72.here hx rfl (pc0 := 87) (pc' := 96) rfl (hb hby at_87) rfl (flt b75).2.2.2 (by decide) (by decide) ?_
      show oS p e below T72 m 96 #[oi p0, oi p1, oi p2, oi p3, oi p4, oi (1 : Int32), oi v55, oi v59, oi v63, oi v67, oa b69, .unset, .unset, .unset] [] _
      refine XS.iload X72.here hx rfl (hb hby at_96) rfl ?_
      show oS p e below T72 m 98 #[oi p0, oi p1, oi p2, oi p3, oi p4, oi (1 : Int32), oi v55, oi v59, oi v63, oi v67, oa b69, .unset, .unset, .unset] [(.int (1 : Int32))] _
      refine XS.iconst X72.here hx rfl (hb hby at_98) ?_
      show oS p e below T72 m 99 #[oi p0, oi p1, oi p2, oi p3, oi p4, oi (1 : Int32), oi v55, oi v59, oi v63, oi v67, oa b69, .unset, .unset, .unset] [(.int (2 : Int32)), (.int (1 : Int32))] _
      refine XS.icmpYes X72.here hx rfl (pc0 := 99) (pc' := 108) rfl (hb hby at_99) rfl (flt b76).2.2.2 (by decide) (by decide) ?_
      show oS p e below T72 m 108 #[oi p0, oi p1, oi p2, oi p3, oi p4, oi (1 : Int32), oi v55, oi v59, oi v63, oi v67, oa b69, .unset, .unset, .unset] [] _
      refine st77 _ ?_
      show oS p e below T77 m 111 #[oi p0, oi p1, oi p2, oi p3, oi p4, oi (1 : Int32), oi v55, oi v59, oi v63, oi v67, oa b69, .unset, .unset, .unset] [(.ref b77)] _
      refine XS.dup X77.here hx rfl (hb hby at_111) rfl rfl ?_
      show oS p e below T77 m 112 #[oi p0, oi p1, oi p2, oi p3, oi p4, oi (1 : Int32), oi v55, oi v59, oi v63, oi v67, oa b69, .unset, .unset, .unset] [(.ref b77), (.ref b77)] _
      refine XS.aload X77.here hx rfl (hb hby at_112) rfl rfl ?_
      exact k
    by_cases hbad : ((1 : Int32) &&& own_g v59) = (0 : Int32)
    · skip
      obtain ⟨_, _, ⟨T85, L85, k85, n85⟩, -, X85, ⟨Lc85, hQ85, l85, y85, z85⟩, st85⟩ := X77.specialBack hx (y := (⟨"com/example/penstock/penstock/Design", "<init>", "([I)V"⟩ : MethodName)) rfl hown (mvT hZ (hw _ (List.mem_of_getElem? (i := 4) rfl))) (mvT hZ (hw _ (List.mem_of_getElem? (i := 5) rfl))) (mvT hZ (hw _ (List.mem_of_getElem? (i := 6) rfl))) (by decide) (backOf (W := 1) (own_rm1i1 l Z av hw [] b77 b69 k69 v59 h77 n0 Z77 A77 F_81 F_82 F_83 g_b77 F79 F80 (ne78) (hbad)) hZ (hw _ (List.mem_of_getElem? (i := 6) rfl)) (hw _ (List.mem_of_getElem? (i := 3) rfl)) (by decide) (by decide)) (g := (mkF m 114 #[oi p0, oi p1, oi p2, oi p3, oi p4, oi (1 : Int32), oi v55, oi v59, oi v63, oi v67, oa b69, .unset, .unset, .unset] [(.ref b69), (.ref b77), (.ref b77)])) rfl (by rw [hml]; rfl) (Steps.refl _) (a := b77) (argsL := [(.ref b69)]) (rest := [(.ref b77)]) (lenOf own_pd3 rfl) rfl (by show 2 * 0 + _ ≤ _; exact Nat.le_of_eq rfl) (hb hby at_114) (fun _ _ => ⟨rfl, e77, (by decide : 2 + 1 ≤ _), (by decide : 4 + 1 ≤ _)⟩)
      dsimp only [Pt.U, Pt.locs, Pt.cells, Pt.slots] at X85 l85 y85 z85 st85 hQ85
      have yq85 : k85 = 3 := y85
      have zq85 : n85 = 5 := z85
      subst yq85 zq85
      obtain ⟨b_85, k_b_85, rfl, Nq85, Kq85, gq85_b, Oq85_0, Oq85_1, Oq85_2, Oq85_3, Oq85_4⟩ := hQ85
      have N85 : Fr n0 L85 := by rw [l85]; exact Fr.app N72 Nq85
      have Z85 : n0 ≤ T85.heap.size := Nat.le_trans Z77 Kq85.1
      have g_b_85 : n0 ≤ b_85 := Nat.le_trans Z77 gq85_b
      have ne86 : b69 ≠ b_85 := Nat.ne_of_lt (Nat.lt_of_lt_of_le F79.lt gq85_b)
      have ne87 : b77 ≠ b_85 := Nat.ne_of_lt (Nat.lt_of_lt_of_le A77.lt gq85_b)
      have F88 := F79.keep Kq85 (ninS ne78 nin0)
      have F89 := F80.keep Kq85
      have F90 := A77.keep Kq85
      obtain ⟨cq91, kq91, q91a, q91b, q91c⟩ := isOf hZ rfl Oq85_0
      obtain ⟨_, _, ⟨T91, L91, k91, n91⟩, -, X91, ⟨Lc91, hQ91, l91, y91, z91⟩, st91⟩ := X85.virtualBack hx (y := (⟨"com/example/penstock/penstock/Design", "sizeIndices", "()[I"⟩ : MethodName)) (z := (⟨"com/example/penstock/penstock/Design", "sizeIndices", "()[I"⟩ : MethodName)) hown (mvT hZ (hw _ (List.mem_of_getElem? (i := 21) rfl))) (mvT hZ (hw _ (List.mem_of_getElem? (i := 22) rfl))) (notFace_of_selects (args := #[]) (mvT hZ (hw _ (List.mem_of_getElem? (i := 24) rfl)))) (mvT hZ (hw _ (List.mem_of_getElem? (i := 24) rfl))) (mvT hZ (hw _ (List.mem_of_getElem? (i := 23) rfl))) (by decide) (backOf (W := 0) (own_rm4i1 l Z av hw [] b77 b_85 k_b_85 v59 T85.heap n0 Z85 Oq85_2 Oq85_3 Oq85_4) hZ (hw _ (List.mem_of_getElem? (i := 25) rfl)) (hw _ (List.mem_of_getElem? (i := 3) rfl)) (by decide) (by decide)) q91a q91c (g := (mkF m 121 #[oi p0, oi p1, oi p2, oi p3, oi p4, oi (1 : Int32), oi v55, oi v59, oi v63, oi v67, oa b69, oa b77, .unset, .unset] [(.ref b77)])) rfl (by rw [hml]; rfl) (Steps.refl _) (argsL := []) (rest := []) (lenOf own_pd4 rfl) rfl (by show 2 * 0 + _ ≤ _; exact Nat.le_of_eq rfl) (hb hby at_121) (fun _ _ => ⟨rfl, rfl, (by decide : 3 + 1 ≤ _), (by decide : 5 + 1 ≤ _)⟩)
      dsimp only [Pt.U, Pt.locs, Pt.cells, Pt.slots] at X91 l91 y91 z91 st91 hQ91
      have yq91 : k91 = 4 := y91
      have zq91 : n91 = 6 := z91
      subst yq91 zq91
      obtain ⟨r_91, k_r_91, rfl, Nq91, Kq91, gq91_r, Oq91_0⟩ := hQ91
      have N91 : Fr n0 L91 := by rw [l91]; exact Fr.app N85 Nq91
      have Z91 : n0 ≤ T91.heap.size := Nat.le_trans Z85 Kq91.1
      have g_r_91 : n0 ≤ r_91 := Nat.le_trans Z85 gq91_r
      have ne92 : b69 ≠ r_91 := Nat.ne_of_lt (Nat.lt_of_lt_of_le F88.lt gq91_r)
      have ne93 : b77 ≠ r_91 := Nat.ne_of_lt (Nat.lt_of_lt_of_le Oq85_0.lt gq91_r)
      have ne94 : b_85 ≠ r_91 := Nat.ne_of_lt (Nat.lt_of_lt_of_le Oq85_3.lt gq91_r)
      have F95 := F88.keep Kq91 nin0
      have F96 := F89.keep Kq91
      have F97 := Oq85_0.keep Kq91
      have F98 := Oq85_1.keep Kq91 nin0
      have F99 := Oq85_2.keep Kq91 nin0
      have F100 := Oq85_3.keep Kq91
      have F101 := Oq85_4.keep Kq91 nin0
      have b102 : (1 : Int32) = (1 : Int32) := (by decide)
      have b103 : (0 : Int32) < (1 : Int32) := (by decide)
      have b104 : v59 = v59 := rfl
      have b105 : ¬ ((1 : Int32) < (1 : Int32)) := (by decide)
      have b106 : ¬ ((2 : Int32) < (1 : Int32)) := (by decide)
      have b107 : (0 : Int32) < (1 : Int32) := (by decide)
      obtain ⟨T108, h108, X108, e108, W108, V108, st108⟩ := oStI X91 hx hZ rfl Oq91_0 (j := (0 : Int32)) ⟨by decide, by decide⟩ 0 rfl (Nat.le_of_ble_eq_true rfl) (g := (mkF m 205 #[oi p0, oi p1, oi p2, oi p3, oi p4, oi (1 : Int32), oi v55, oi v59, oi v63, oi v67, oa b69, oa b77, oa r_91, .unset] [(.int (v59 ^^^ (1 : Int32))), (.int (0 : Int32)), (.ref r_91)])) rfl rfl (hb hby at_205)
      obtain ⟨Lo108, X108, N108⟩ := oOpq X108 (Fr.snoc X108 N91 g_r_91)
      have Z108 := Nat.le_trans Z91 (Keep.of_wr W108).1
      have F109 := F95.other W108 ne92
      have F110 := F96.wr W108
      have F111 := F97.wr W108
      have F112 := F98.other W108 (Or.inl ne93)
      have F113 := F99.other W108 (Or.inl ne93)
      have F114 := F100.wr W108
      have F115 := F101.other W108 ne94
      have V_116 : Arv Z h108 r_91 k_r_91 .int (1 : Int32) [(.int (v59 ^^^ (1 : Int32)))] (.int (0 : Int32)) := V108
      obtain ⟨cq117, kq117, q117a, q117b, q117c⟩ := isOf hZ e108 F111
      obtain ⟨_, _, ⟨T117, L117, k117, n117⟩, -, X117, ⟨Lc117, hQ117, l117, y117, z117⟩, st117⟩ := X108.virtualBack hx (y := (⟨"com/example/penstock/penstock/Design", "sizeIndices", "()[I"⟩ : MethodName)) (z := (⟨"com/example/penstock/penstock/Design", "sizeIndices", "()[I"⟩ : MethodName)) hown (mvT hZ (hw _ (List.mem_of_getElem? (i := 21) rfl))) (mvT hZ (hw _ (List.mem_of_getElem? (i := 22) rfl))) (notFace_of_selects (args := #[]) (mvT hZ (hw _ (List.mem_of_getElem? (i := 24) rfl)))) (mvT hZ (hw _ (List.mem_of_getElem? (i := 24) rfl))) (mvT hZ (hw _ (List.mem_of_getElem? (i := 23) rfl))) (by decide) (backOf (W := 0) (own_rm4i1 l Z av hw [] b77 b_85 k_b_85 v59 h108 n0 Z108 F113 F114 F115) hZ (hw _ (List.mem_of_getElem? (i := 25) rfl)) (hw _ (List.mem_of_getElem? (i := 3) rfl)) (by decide) (by decide)) q117a q117c (g := (mkF m 208 #[oi p0, oi p1, oi p2, oi p3, oi p4, oi (1 : Int32), oi v55, oi v59, oi v63, oi v67, oa b69, oa b77, oa r_91, .unset] [(.ref b77)])) rfl (by rw [hml]; rfl) (Steps.refl _) (argsL := []) (rest := []) (lenOf own_pd4 rfl) rfl (by show 2 * 0 + _ ≤ _; exact Nat.le_of_eq rfl) (hb hby at_208) (fun _ _ => ⟨rfl, e108, (by decide : 4 + 1 ≤ _), (by decide : 6 + 1 ≤ _)⟩)
      dsimp only [Pt.U, Pt.locs, Pt.cells, Pt.slots] at X117 l117 y117 z117 st117 hQ117
      have yq117 : k117 = 5 := y117
      have zq117 : n117 = 7 := z117
      subst yq117 zq117
      obtain ⟨r_117, k_r_117, rfl, Nq117, Kq117, gq117_r, Oq117_0⟩ := hQ117
      have N117 : Fr n0 L117 := by rw [l117]; exact Fr.app N108 Nq117
      have Z117 : n0 ≤ T117.heap.size := Nat.le_trans Z108 Kq117.1
      have g_r_117 : n0 ≤ r_117 := Nat.le_trans Z108 gq117_r
      have ne118 : b69 ≠ r_117 := Nat.ne_of_lt (Nat.lt_of_lt_of_le F109.lt gq117_r)
      have ne119 : b77 ≠ r_117 := Nat.ne_of_lt (Nat.lt_of_lt_of_le F111.lt gq117_r)
      have ne120 : b_85 ≠ r_117 := Nat.ne_of_lt (Nat.lt_of_lt_of_le F114.lt gq117_r)
      have ne121 : r_91 ≠ r_117 := Nat.ne_of_lt (Nat.lt_of_lt_of_le V_116.lt gq117_r)
      have F122 := F109.keep Kq117 nin0
      have F123 := F110.keep Kq117
      have F124 := F111.keep Kq117
      have F125 := F112.keep Kq117 nin0
      have F126 := F113.keep Kq117 nin0
      have F127 := F114.keep Kq117
      have F128 := F115.keep Kq117 nin0
      have F129 := V_116.keep Kq117 nin0
      have b130 : (1 : Int32) = (1 : Int32) := (by decide)
      have b131 : v59 = v59 := rfl
      obtain ⟨fs, hr, hrun, hended, hW, hsame⟩ := X117.leave (v := (some (.int (1 : Int32)))) (fun h => by rw [Bd.returns] at h; cases h)
      refine ⟨_, _, pre84 _ ?_, hrun, hended, _, _, rfl, ?_, ⟨_, rfl⟩, hW, hsame.mono (by decide) (by decide)⟩
      · show oS p e below T77 m 114 #[oi p0, oi p1, oi p2, oi p3, oi p4, oi (1 : Int32), oi v55, oi v59, oi v63, oi v67, oa b69, .unset, .unset, .unset] [(.ref b69), (.ref b77), (.ref b77)] _
        refine st85.trans ?_
        show oS p e below T85 m 117 #[oi p0, oi p1, oi p2, oi p3, oi p4, oi (1 : Int32), oi v55, oi v59, oi v63, oi v67, oa b69, .unset, .unset, .unset] [(.ref b77)] _
        refine XS.astore X85.here hx rfl (hb hby at_117) rfl rfl (l' := #[oi p0, oi p1, oi p2, oi p3, oi p4, oi (1 : Int32), oi v55, oi v59, oi v63, oi v67, oa b69, oa b77, .unset, .unset]) rfl ?_
        show oS p e below T85 m 119 #[oi p0, oi p1, oi p2, oi p3, oi p4, oi (1 : Int32), oi v55, oi v59, oi v63, oi v67, oa b69, oa b77, .unset, .unset] [] _
        refine XS.aload X85.here hx rfl (hb hby at_119) rfl rfl ?_
        show oS p e below T85 m 121 #[oi p0, oi p1, oi p2, oi p3, oi p4, oi (1 : Int32), oi v55, oi v59, oi v63, oi v67, oa b69, oa b77, .unset, .unset] [(.ref b77)] _
        refine st91.trans ?_
        show oS p e below T91 m 124 #[oi p0, oi p1, oi p2, oi p3, oi p4, oi (1 : Int32), oi v55, oi v59, oi v63, oi v67, oa b69, oa b77, .unset, .unset] [(.ref r_91)] _
        refine XS.astore X91.here hx rfl (hb hby at_124) rfl rfl (l' := #[oi p0, oi p1, oi p2, oi p3, oi p4, oi (1 : Int32), oi v55, oi v59, oi v63, oi v67, oa b69, oa b77, oa r_91, .unset]) rfl ?_
        show oS p e below T91 m 126 #[oi p0, oi p1, oi p2, oi p3, oi p4, oi (1 : Int32), oi v55, oi v59, oi v63, oi v67, oa b69, oa b77, oa r_91, .unset] [] _
        refine XS.aload X91.here hx rfl (hb hby at_126) rfl rfl ?_
        show oS p e below T91 m 128 #[oi p0, oi p1, oi p2, oi p3, oi p4, oi (1 : Int32), oi v55, oi v59, oi v63, oi v67, oa b69, oa b77, oa r_91, .unset] [(.ref r_91)] _
        refine XS.ifnullNo X91.here hx rfl (hb hby at_128) rfl ?_
        show oS p e below T91 m 131 #[oi p0, oi p1, oi p2, oi p3, oi p4, oi (1 : Int32), oi v55, oi v59, oi v63, oi v67, oa b69, oa b77, oa r_91, .unset] [] _
        refine XS.aload X91.here hx rfl (hb hby at_131) rfl rfl ?_
        show oS p e below T91 m 133 #[oi p0, oi p1, oi p2, oi p3, oi p4, oi (1 : Int32), oi v55, oi v59, oi v63, oi v67, oa b69, oa b77, oa r_91, .unset] [(.ref r_91)] _
        refine oLen X91 hx hZ rfl Oq91_0 (hb hby at_133) ?_
        show oS p e below T91 m 134 #[oi p0, oi p1, oi p2, oi p3, oi p4, oi (1 : Int32), oi v55, oi v59, oi v63, oi v67, oa b69, oa b77, oa r_91, .unset] [(.int (1 : Int32))] _
        refine XS.iload X91.here hx rfl (hb hby at_134) rfl ?_
        show oS p e below T91 m 136 #[oi p0, oi p1, oi p2, oi p3, oi p4, oi (1 : Int32), oi v55, oi v59, oi v63, oi v67, oa b69, oa b77, oa r_91, .unset] [(.int (1 : Int32)), (.int (1 : Int32))] _
        refine XS.icmpYes X91.here hx rfl (pc0 := 136) (pc' := 141) rfl (hb hby at_136) rfl (teq b102).1 (by decide) (by decide) ?_
        show oS p e below T91 m 141 #[oi p0, oi p1, oi p2, oi p3, oi p4, oi (1 : Int32), oi v55, oi v59, oi v63, oi v67, oa b69, oa b77, oa r_91, .unset] [] _
        refine XS.iload X91.here hx rfl (hb hby at_141) rfl ?_
        show oS p e below T91 m 143 #[oi p0, oi p1, oi p2, oi p3, oi p4, oi (1 : Int32), oi v55, oi v59, oi v63, oi v67, oa b69, oa b77, oa r_91, .unset] [(.int (1 : Int32))] _
        refine XS.ifNo X91.here hx rfl (hb hby at_143) rfl ((if0 _ _).trans (tlt b103).2.2.2) ?_
        show oS p e below T91 m 146 #[oi p0, oi p1, oi p2, oi p3, oi p4, oi (1 : Int32), oi v55, oi v59, oi v63, oi v67, oa b69, oa b77, oa r_91, .unset] [] _
        refine XS.aload X91.here hx rfl (hb hby at_146) rfl rfl ?_
        show oS p e below T91 m 148 #[oi p0, oi p1, oi p2, oi p3, oi p4, oi (1 : Int32), oi v55, oi v59, oi v63, oi v67, oa b69, oa b77, oa r_91, .unset] [(.ref r_91)] _
        refine XS.iconst X91.here hx rfl (hb hby at_148) ?_
        show oS p e below T91 m 149 #[oi p0, oi p1, oi p2, oi p3, oi p4, oi (1 : Int32), oi v55, oi v59, oi v63, oi v67, oa b69, oa b77, oa r_91, .unset] [(.int (0 : Int32)), (.ref r_91)] _
        refine oLdI X91 hx hZ rfl Oq91_0 (v := (.int v59)) ⟨by decide, by decide⟩ rfl (hb hby at_149) ?_
        show oS p e below T91 m 150 #[oi p0, oi p1, oi p2, oi p3, oi p4, oi (1 : Int32), oi v55, oi v59, oi v63, oi v67, oa b69, oa b77, oa r_91, .unset] [(.int v59)] _
        refine XS.iload X91.here hx rfl (hb hby at_150) rfl ?_
        show oS p e below T91 m 152 #[oi p0, oi p1, oi p2, oi p3, oi p4, oi (1 : Int32), oi v55, oi v59, oi v63, oi v67, oa b69, oa b77, oa r_91, .unset] [(.int v59), (.int v59)] _
        refine XS.icmpYes X91.here hx rfl (pc0 := 152) (pc' := 157) rfl (hb hby at_152) rfl (teq b104).1 (by decide) (by decide) ?_
        show oS p e below T91 m 157 #[oi p0, oi p1, oi p2, oi p3, oi p4, oi (1 : Int32), oi v55, oi v59, oi v63, oi v67, oa b69, oa b77, oa r_91, .unset] [] _
        refine XS.iload X91.here hx rfl (hb hby at_157) rfl ?_
        show oS p e below T91 m 159 #[oi p0, oi p1, oi p2, oi p3, oi p4, oi (1 : Int32), oi v55, oi v59, oi v63, oi v67, oa b69, oa b77, oa r_91, .unset] [(.int (1 : Int32))] _
        refine XS.iconst X91.here hx rfl (hb hby at_159) ?_
        show oS p e below T91 m 160 #[oi p0, oi p1, oi p2, oi p3, oi p4, oi (1 : Int32), oi v55, oi v59, oi v63, oi v67, oa b69, oa b77, oa r_91, .unset] [(.int (1 : Int32)), (.int (1 : Int32))] _
        refine XS.icmpYes X91.here hx rfl (pc0 := 160) (pc' := 174) rfl (hb hby at_160) rfl (flt b105).2.2.2 (by decide) (by decide) ?_
        show oS p e below T91 m 174 #[oi p0, oi p1, oi p2, oi p3, oi p4, oi (1 : Int32), oi v55, oi v59, oi v63, oi v67, oa b69, oa b77, oa r_91, .unset] [] _
        refine XS.iload X91.here hx rfl (hb hby at_174) rfl ?_
        show oS p e below T91 m 176 #[oi p0, oi p1, oi p2, oi p3, oi p4, oi (1 : Int32), oi v55, oi v59, oi v63, oi v67, oa b69, oa b77, oa r_91, .unset] [(.int (1 : Int32))] _
        refine XS.iconst X91.here hx rfl (hb hby at_176) ?_
        show oS p e below T91 m 177 #[oi p0, oi p1, oi p2, oi p3, oi p4, oi (1 : Int32), oi v55, oi v59, oi v63, oi v67, oa b69, oa b77, oa r_91, .unset] [(.int (2 : Int32)), (.int (1 : Int32))] _
        refine XS.icmpYes X91.here hx rfl (pc0 := 177) (pc' := 191) rfl (hb hby at_177) rfl (flt b106).2.2.2 (by decide) (by decide) ?_
        show oS p e below T91 m 191 #[oi p0, oi p1, oi p2, oi p3, oi p4, oi (1 : Int32), oi v55, oi v59, oi v63, oi v67, oa b69, oa b77, oa r_91, .unset] [] _
        refine XS.iload X91.here hx rfl (hb hby at_191) rfl ?_
        show oS p e below T91 m 193 #[oi p0, oi p1, oi p2, oi p3, oi p4, oi (1 : Int32), oi v55, oi v59, oi v63, oi v67, oa b69, oa b77, oa r_91, .unset] [(.int (1 : Int32))] _
        refine XS.ifNo X91.here hx rfl (hb hby at_193) rfl ((if0 _ _).trans (tlt b107).2.2.2) ?_
        show oS p e below T91 m 196 #[oi p0, oi p1, oi p2, oi p3, oi p4, oi (1 : Int32), oi v55, oi v59, oi v63, oi v67, oa b69, oa b77, oa r_91, .unset] [] _
        refine XS.aload X91.here hx rfl (hb hby at_196) rfl rfl ?_
        show oS p e below T91 m 198 #[oi p0, oi p1, oi p2, oi p3, oi p4, oi (1 : Int32), oi v55, oi v59, oi v63, oi v67, oa b69, oa b77, oa r_91, .unset] [(.ref r_91)] _
        refine XS.iconst X91.here hx rfl (hb hby at_198) ?_
        show oS p e below T91 m 199 #[oi p0, oi p1, oi p2, oi p3, oi p4, oi (1 : Int32), oi v55, oi v59, oi v63, oi v67, oa b69, oa b77, oa r_91, .unset] [(.int (0 : Int32)), (.ref r_91)] _
        refine XS.aload X91.here hx rfl (hb hby at_199) rfl rfl ?_
        show oS p e below T91 m 201 #[oi p0, oi p1, oi p2, oi p3, oi p4, oi (1 : Int32), oi v55, oi v59, oi v63, oi v67, oa b69, oa b77, oa r_91, .unset] [(.ref r_91), (.int (0 : Int32)), (.ref r_91)] _
        refine XS.iconst X91.here hx rfl (hb hby at_201) ?_
        show oS p e below T91 m 202 #[oi p0, oi p1, oi p2, oi p3, oi p4, oi (1 : Int32), oi v55, oi v59, oi v63, oi v67, oa b69, oa b77, oa r_91, .unset] [(.int (0 : Int32)), (.ref r_91), (.int (0 : Int32)), (.ref r_91)] _
        refine oLdI X91 hx hZ rfl Oq91_0 (v := (.int v59)) ⟨by decide, by decide⟩ rfl (hb hby at_202) ?_
        show oS p e below T91 m 203 #[oi p0, oi p1, oi p2, oi p3, oi p4, oi (1 : Int32), oi v55, oi v59, oi v63, oi v67, oa b69, oa b77, oa r_91, .unset] [(.int v59), (.int (0 : Int32)), (.ref r_91)] _
        refine XS.iconst X91.here hx rfl (hb hby at_203) ?_
        show oS p e below T91 m 204 #[oi p0, oi p1, oi p2, oi p3, oi p4, oi (1 : Int32), oi v55, oi v59, oi v63, oi v67, oa b69, oa b77, oa r_91, .unset] [(.int (1 : Int32)), (.int v59), (.int (0 : Int32)), (.ref r_91)] _
        refine XS.ixor X91.here hx rfl (hb hby at_204) rfl ?_
        show oS p e below T91 m 205 #[oi p0, oi p1, oi p2, oi p3, oi p4, oi (1 : Int32), oi v55, oi v59, oi v63, oi v67, oa b69, oa b77, oa r_91, .unset] [(.int (v59 ^^^ (1 : Int32))), (.int (0 : Int32)), (.ref r_91)] _
        refine st108 _ ?_
        show oS p e below T108 m 206 #[oi p0, oi p1, oi p2, oi p3, oi p4, oi (1 : Int32), oi v55, oi v59, oi v63, oi v67, oa b69, oa b77, oa r_91, .unset] [] _
        refine XS.aload X108.here hx rfl (hb hby at_206) rfl rfl ?_
        show oS p e below T108 m 208 #[oi p0, oi p1, oi p2, oi p3, oi p4, oi (1 : Int32), oi v55, oi v59, oi v63, oi v67, oa b69, oa b77, oa r_91, .unset] [(.ref b77)] _
        refine st117.trans ?_
        show oS p e below T117 m 211 #[oi p0, oi p1, oi p2, oi p3, oi p4, oi (1 : Int32), oi v55, oi v59, oi v63, oi v67, oa b69, oa b77, oa r_91, .unset] [(.ref r_117)] _
        refine XS.astore X117.here hx rfl (hb hby at_211) rfl rfl (l' := #[oi p0, oi p1, oi p2, oi p3, oi p4, oi (1 : Int32), oi v55, oi v59, oi v63, oi v67, oa b69, oa b77, oa r_91, oa r_117]) rfl ?_
        show oS p e below T117 m 213 #[oi p0, oi p1, oi p2, oi p3, oi p4, oi (1 : Int32), oi v55, oi v59, oi v63, oi v67, oa b69, oa b77, oa r_91, oa r_117] [] _
        refine XS.aload X117.here hx rfl (hb hby at_213) rfl rfl ?_
        show oS p e below T117 m 215 #[oi p0, oi p1, oi p2, oi p3, oi p4, oi (1 : Int32), oi v55, oi v59, oi v63, oi v67, oa b69, oa b77, oa r_91, oa r_117] [(.ref r_117)] _
        refine XS.ifnullNo X117.here hx rfl (hb hby at_215) rfl ?_
        show oS p e below T117 m 218 #[oi p0, oi p1, oi p2, oi p3, oi p4, oi (1 : Int32), oi v55, oi v59, oi v63, oi v67, oa b69, oa b77, oa r_91, oa r_117] [] _
        refine XS.aload X117.here hx rfl (hb hby at_218) rfl rfl ?_
        show oS p e below T117 m 220 #[oi p0, oi p1, oi p2, oi p3, oi p4, oi (1 : Int32), oi v55, oi v59, oi v63, oi v67, oa b69, oa b77, oa r_91, oa r_117] [(.ref r_117)] _
        refine XS.aload X117.here hx rfl (hb hby at_220) rfl rfl ?_
        show oS p e below T117 m 222 #[oi p0, oi p1, oi p2, oi p3, oi p4, oi (1 : Int32), oi v55, oi v59, oi v63, oi v67, oa b69, oa b77, oa r_91, oa r_117] [(.ref r_91), (.ref r_117)] _
        refine Jvm.RoadKit.acmp (g := (mkF m 222 #[oi p0, oi p1, oi p2, oi p3, oi p4, oi (1 : Int32), oi v55, oi v59, oi v63, oi v67, oa b69, oa b77, oa r_91, oa r_117] [(.ref r_91), (.ref r_117)])) X117 hx rfl rfl rfl (pc0 := 222) (pc' := 225) (same := false) rfl (hb hby at_222) rfl (decide_eq_false fun q => (Ne.symm ne121) (Value.ref.inj q)) (by decide) (by decide) ?_
        show oS p e below T117 m 225 #[oi p0, oi p1, oi p2, oi p3, oi p4, oi (1 : Int32), oi v55, oi v59, oi v63, oi v67, oa b69, oa b77, oa r_91, oa r_117] [] _
        refine XS.aload X117.here hx rfl (hb hby at_225) rfl rfl ?_
        show oS p e below T117 m 227 #[oi p0, oi p1, oi p2, oi p3, oi p4, oi (1 : Int32), oi v55, oi v59, oi v63, oi v67, oa b69, oa b77, oa r_91, oa r_117] [(.ref r_117)] _
        refine oLen X117 hx hZ rfl Oq117_0 (hb hby at_227) ?_
        show oS p e below T117 m 228 #[oi p0, oi p1, oi p2, oi p3, oi p4, oi (1 : Int32), oi v55, oi v59, oi v63, oi v67, oa b69, oa b77, oa r_91, oa r_117] [(.int (1 : Int32))] _
        refine XS.iload X117.here hx rfl (hb hby at_228) rfl ?_
        show oS p e below T117 m 230 #[oi p0, oi p1, oi p2, oi p3, oi p4, oi (1 : Int32), oi v55, oi v59, oi v63, oi v67, oa b69, oa b77, oa r_91, oa r_117] [(.int (1 : Int32)), (.int (1 : Int32))] _
        refine XS.icmpNo X117.here hx rfl (hb hby at_230) rfl (teq b130).2 ?_
        show oS p e below T117 m 233 #[oi p0, oi p1, oi p2, oi p3, oi p4, oi (1 : Int32), oi v55, oi v59, oi v63, oi v67, oa b69, oa b77, oa r_91, oa r_117] [] _
        refine XS.aload X117.here hx rfl (hb hby at_233) rfl rfl ?_
        show oS p e below T117 m 235 #[oi p0, oi p1, oi p2, oi p3, oi p4, oi (1 : Int32), oi v55, oi v59, oi v63, oi v67, oa b69, oa b77, oa r_91, oa r_117] [(.ref r_117)] _
        refine XS.iconst X117.here hx rfl (hb hby at_235) ?_
        show oS p e below T117 m 236 #[oi p0, oi p1, oi p2, oi p3, oi p4, oi (1 : Int32), oi v55, oi v59, oi v63, oi v67, oa b69, oa b77, oa r_91, oa r_117] [(.int (0 : Int32)), (.ref r_117)] _
        refine oLdI X117 hx hZ rfl Oq117_0 (v := (.int v59)) ⟨by decide, by decide⟩ rfl (hb hby at_236) ?_
        show oS p e below T117 m 237 #[oi p0, oi p1, oi p2, oi p3, oi p4, oi (1 : Int32), oi v55, oi v59, oi v63, oi v67, oa b69, oa b77, oa r_91, oa r_117] [(.int v59)] _
        refine XS.iload X117.here hx rfl (hb hby at_237) rfl ?_
        show oS p e below T117 m 239 #[oi p0, oi p1, oi p2, oi p3, oi p4, oi (1 : Int32), oi v55, oi v59, oi v63, oi v67, oa b69, oa b77, oa r_91, oa r_117] [(.int v59), (.int v59)] _
        refine XS.icmpYes X117.here hx rfl (pc0 := 239) (pc' := 244) rfl (hb hby at_239) rfl (teq b131).1 (by decide) (by decide) ?_
        show oS p e below T117 m 244 #[oi p0, oi p1, oi p2, oi p3, oi p4, oi (1 : Int32), oi v55, oi v59, oi v63, oi v67, oa b69, oa b77, oa r_91, oa r_117] [] _
        refine XS.iconst X117.here hx rfl (hb hby at_244) ?_
        show oS p e below T117 m 245 #[oi p0, oi p1, oi p2, oi p3, oi p4, oi (1 : Int32), oi v55, oi v59, oi v63, oi v67, oa b69, oa b77, oa r_91, oa r_117] [(.int (1 : Int32))] _
        exact retN X117 hx (t := .boolean) Bd.returns (by simp) (hb hby at_245) hr
      · show own_Q0 Z p0 p1 p2 p3 p4 h0 n0 _ T117.heap _
        exact ⟨rfl, N117⟩
    · skip
      have r0 := own_all1 hbad
      obtain ⟨_, _, ⟨T132, L132, k132, n132⟩, -, X132, ⟨Lc132, hQ132, l132, y132, z132⟩, st132⟩ := X77.specialBack hx (y := (⟨"com/example/penstock/penstock/Design", "<init>", "([I)V"⟩ : MethodName)) rfl hown (mvT hZ (hw _ (List.mem_of_getElem? (i := 4) rfl))) (mvT hZ (hw _ (List.mem_of_getElem? (i := 5) rfl))) (mvT hZ (hw _ (List.mem_of_getElem? (i := 6) rfl))) (by decide) (backOf (W := 1) (own_rm1b1 l Z av hw [] b77 b69 k69 v59 h77 n0 Z77 A77 F_81 F_82 F_83 g_b77 F79 F80 (ne78) (r0.1) (r0.2)) hZ (hw _ (List.mem_of_getElem? (i := 6) rfl)) (hw _ (List.mem_of_getElem? (i := 3) rfl)) (by decide) (by decide)) (g := (mkF m 114 #[oi p0, oi p1, oi p2, oi p3, oi p4, oi (1 : Int32), oi v55, oi v59, oi v63, oi v67, oa b69, .unset, .unset, .unset] [(.ref b69), (.ref b77), (.ref b77)])) rfl (by rw [hml]; rfl) (Steps.refl _) (a := b77) (argsL := [(.ref b69)]) (rest := [(.ref b77)]) (lenOf own_pd3 rfl) rfl (by show 2 * 0 + _ ≤ _; exact Nat.le_of_eq rfl) (hb hby at_114) (fun _ _ => ⟨rfl, e77, (by decide : 2 + 1 ≤ _), (by decide : 4 + 1 ≤ _)⟩)
      dsimp only [Pt.U, Pt.locs, Pt.cells, Pt.slots] at X132 l132 y132 z132 st132 hQ132
      have yq132 : k132 = 3 := y132
      have zq132 : n132 = 5 := z132
      subst yq132 zq132
      obtain ⟨b_132, k_b_132, rfl, Nq132, Kq132, gq132_b, Oq132_0, Oq132_1, Oq132_2, Oq132_3⟩ := hQ132
      have N132 : Fr n0 L132 := by rw [l132]; exact Fr.app N72 Nq132
      have Z132 : n0 ≤ T132.heap.size := Nat.le_trans Z77 Kq132.1
      have g_b_132 : n0 ≤ b_132 := Nat.le_trans Z77 gq132_b
      have ne133 : b69 ≠ b_132 := Nat.ne_of_lt (Nat.lt_of_lt_of_le F79.lt gq132_b)
      have ne134 : b77 ≠ b_132 := Nat.ne_of_lt (Nat.lt_of_lt_of_le A77.lt gq132_b)
      have F135 := F79.keep Kq132 (ninS ne78 nin0)
      have F136 := F80.keep Kq132
      have F137 := A77.keep Kq132
      obtain ⟨cq138, kq138, q138a, q138b, q138c⟩ := isOf hZ rfl Oq132_0
      obtain ⟨_, _, ⟨T138, L138, k138, n138⟩, -, X138, ⟨Lc138, hQ138, l138, y138, z138⟩, st138⟩ := X132.virtualBack hx (y := (⟨"com/example/penstock/penstock/Design", "sizeIndices", "()[I"⟩ : MethodName)) (z := (⟨"com/example/penstock/penstock/Design", "sizeIndices", "()[I"⟩ : MethodName)) hown (mvT hZ (hw _ (List.mem_of_getElem? (i := 21) rfl))) (mvT hZ (hw _ (List.mem_of_getElem? (i := 22) rfl))) (notFace_of_selects (args := #[]) (mvT hZ (hw _ (List.mem_of_getElem? (i := 24) rfl)))) (mvT hZ (hw _ (List.mem_of_getElem? (i := 24) rfl))) (mvT hZ (hw _ (List.mem_of_getElem? (i := 23) rfl))) (by decide) (backOf (W := 0) (own_rm4b1 l Z av hw [] b77 b_132 k_b_132 (v59.toInt8.toInt32) T132.heap n0 Z132 Oq132_2 Oq132_1 Oq132_3) hZ (hw _ (List.mem_of_getElem? (i := 25) rfl)) (hw _ (List.mem_of_getElem? (i := 3) rfl)) (by decide) (by decide)) q138a q138c (g := (mkF m 121 #[oi p0, oi p1, oi p2, oi p3, oi p4, oi (1 : Int32), oi v55, oi v59, oi v63, oi v67, oa b69, oa b77, .unset, .unset] [(.ref b77)])) rfl (by rw [hml]; rfl) (Steps.refl _) (argsL := []) (rest := []) (lenOf own_pd4 rfl) rfl (by show 2 * 0 + _ ≤ _; exact Nat.le_of_eq rfl) (hb hby at_121) (fun _ _ => ⟨rfl, rfl, (by decide : 3 + 1 ≤ _), (by decide : 5 + 1 ≤ _)⟩)
      dsimp only [Pt.U, Pt.locs, Pt.cells, Pt.slots] at X138 l138 y138 z138 st138 hQ138
      have yq138 : k138 = 4 := y138
      have zq138 : n138 = 6 := z138
      subst yq138 zq138
      obtain ⟨r_138, k_r_138, rfl, Nq138, Kq138, gq138_r, Oq138_0⟩ := hQ138
      have N138 : Fr n0 L138 := by rw [l138]; exact Fr.app N132 Nq138
      have Z138 : n0 ≤ T138.heap.size := Nat.le_trans Z132 Kq138.1
      have g_r_138 : n0 ≤ r_138 := Nat.le_trans Z132 gq138_r
      have ne139 : b69 ≠ r_138 := Nat.ne_of_lt (Nat.lt_of_lt_of_le F135.lt gq138_r)
      have ne140 : b77 ≠ r_138 := Nat.ne_of_lt (Nat.lt_of_lt_of_le Oq132_0.lt gq138_r)
      have ne141 : b_132 ≠ r_138 := Nat.ne_of_lt (Nat.lt_of_lt_of_le Oq132_3.lt gq138_r)
      have F142 := F135.keep Kq138 nin0
      have F143 := F136.keep Kq138
      have F144 := Oq132_0.keep Kq138
      have F145 := Oq132_1.keep Kq138 nin0
      have F146 := Oq132_2.keep Kq138 nin0
      have F147 := Oq132_3.keep Kq138 nin0
      have b148 : (1 : Int32) = (1 : Int32) := (by decide)
      have b149 : (0 : Int32) < (1 : Int32) := (by decide)
      have b150 : ((v59.toInt8.toInt32) &&& (255 : Int32)) = v59 := own_bb r0
      have b151 : ¬ ((1 : Int32) < (1 : Int32)) := (by decide)
      have b152 : ¬ ((2 : Int32) < (1 : Int32)) := (by decide)
      have b153 : (0 : Int32) < (1 : Int32) := (by decide)
      obtain ⟨T154, h154, X154, e154, W154, V154, st154⟩ := oStI X138 hx hZ rfl Oq138_0 (j := (0 : Int32)) ⟨by decide, by decide⟩ 0 rfl (Nat.le_of_ble_eq_true rfl) (g := (mkF m 205 #[oi p0, oi p1, oi p2, oi p3, oi p4, oi (1 : Int32), oi v55, oi v59, oi v63, oi v67, oa b69, oa b77, oa r_138, .unset] [(.int (((v59.toInt8.toInt32) &&& (255 : Int32)) ^^^ (1 : Int32))), (.int (0 : Int32)), (.ref r_138)])) rfl rfl (hb hby at_205)
      obtain ⟨Lo154, X154, N154⟩ := oOpq X154 (Fr.snoc X154 N138 g_r_138)
      have Z154 := Nat.le_trans Z138 (Keep.of_wr W154).1
      have F155 := F142.other W154 ne139
      have F156 := F143.wr W154
      have F157 := F144.wr W154
      have F158 := F145.other W154 (Or.inl ne140)
      have F159 := F146.other W154 (Or.inl ne140)
      have F160 := F147.other W154 ne141
      have V_161 : Arv Z h154 r_138 k_r_138 .int (1 : Int32) [(.int (((v59.toInt8.toInt32) &&& (255 : Int32)) ^^^ (1 : Int32)))] (.int (0 : Int32)) := V154
      obtain ⟨cq162, kq162, q162a, q162b, q162c⟩ := isOf hZ e154 F157
      obtain ⟨_, _, ⟨T162, L162, k162, n162⟩, -, X162, ⟨Lc162, hQ162, l162, y162, z162⟩, st162⟩ := X154.virtualBack hx (y := (⟨"com/example/penstock/penstock/Design", "sizeIndices", "()[I"⟩ : MethodName)) (z := (⟨"com/example/penstock/penstock/Design", "sizeIndices", "()[I"⟩ : MethodName)) hown (mvT hZ (hw _ (List.mem_of_getElem? (i := 21) rfl))) (mvT hZ (hw _ (List.mem_of_getElem? (i := 22) rfl))) (notFace_of_selects (args := #[]) (mvT hZ (hw _ (List.mem_of_getElem? (i := 24) rfl)))) (mvT hZ (hw _ (List.mem_of_getElem? (i := 24) rfl))) (mvT hZ (hw _ (List.mem_of_getElem? (i := 23) rfl))) (by decide) (backOf (W := 0) (own_rm4b1 l Z av hw [] b77 b_132 k_b_132 (v59.toInt8.toInt32) h154 n0 Z154 F159 F158 F160) hZ (hw _ (List.mem_of_getElem? (i := 25) rfl)) (hw _ (List.mem_of_getElem? (i := 3) rfl)) (by decide) (by decide)) q162a q162c (g := (mkF m 208 #[oi p0, oi p1, oi p2, oi p3, oi p4, oi (1 : Int32), oi v55, oi v59, oi v63, oi v67, oa b69, oa b77, oa r_138, .unset] [(.ref b77)])) rfl (by rw [hml]; rfl) (Steps.refl _) (argsL := []) (rest := []) (lenOf own_pd4 rfl) rfl (by show 2 * 0 + _ ≤ _; exact Nat.le_of_eq rfl) (hb hby at_208) (fun _ _ => ⟨rfl, e154, (by decide : 4 + 1 ≤ _), (by decide : 6 + 1 ≤ _)⟩)
      dsimp only [Pt.U, Pt.locs, Pt.cells, Pt.slots] at X162 l162 y162 z162 st162 hQ162
      have yq162 : k162 = 5 := y162
      have zq162 : n162 = 7 := z162
      subst yq162 zq162
      obtain ⟨r_162, k_r_162, rfl, Nq162, Kq162, gq162_r, Oq162_0⟩ := hQ162
      have N162 : Fr n0 L162 := by rw [l162]; exact Fr.app N154 Nq162
      have Z162 : n0 ≤ T162.heap.size := Nat.le_trans Z154 Kq162.1
      have g_r_162 : n0 ≤ r_162 := Nat.le_trans Z154 gq162_r
      have ne163 : b69 ≠ r_162 := Nat.ne_of_lt (Nat.lt_of_lt_of_le F155.lt gq162_r)
      have ne164 : b77 ≠ r_162 := Nat.ne_of_lt (Nat.lt_of_lt_of_le F157.lt gq162_r)
      have ne165 : b_132 ≠ r_162 := Nat.ne_of_lt (Nat.lt_of_lt_of_le F160.lt gq162_r)
      have ne166 : r_138 ≠ r_162 := Nat.ne_of_lt (Nat.lt_of_lt_of_le V_161.lt gq162_r)
      have F167 := F155.keep Kq162 nin0
      have F168 := F156.keep Kq162
      have F169 := F157.keep Kq162
      have F170 := F158.keep Kq162 nin0
      have F171 := F159.keep Kq162 nin0
      have F172 := F160.keep Kq162 nin0
      have F173 := V_161.keep Kq162 nin0
      have b174 : (1 : Int32) = (1 : Int32) := (by decide)
      have b175 : ((v59.toInt8.toInt32) &&& (255 : Int32)) = v59 := own_bb r0
      obtain ⟨fs, hr, hrun, hended, hW, hsame⟩ := X162.leave (v := (some (.int (1 : Int32)))) (fun h => by rw [Bd.returns] at h; cases h)
      refine ⟨_, _, pre84 _ ?_, hrun, hended, _, _, rfl, ?_, ⟨_, rfl⟩, hW, hsame.mono (by decide) (by decide)⟩
      · show oS p e below T77 m 114 #[oi p0, oi p1, oi p2, oi p3, oi p4, oi (1 : Int32), oi v55, oi v59, oi v63, oi v67, oa b69, .unset, .unset, .unset] [(.ref b69), (.ref b77), (.ref b77)] _
        refine st132.trans ?_
        show oS p e below T132 m 117 #[oi p0, oi p1, oi p2, oi p3, oi p4, oi (1 : Int32), oi v55, oi v59, oi v63, oi v67, oa b69, .unset, .unset, .unset] [(.ref b77)] _
        refine XS.astore X132.here hx rfl (hb hby at_117) rfl rfl (l' := #[oi p0, oi p1, oi p2, oi p3, oi p4, oi (1 : Int32), oi v55, oi v59, oi v63, oi v67, oa b69, oa b77, .unset, .unset]) rfl ?_
        show oS p e below T132 m 119 #[oi p0, oi p1, oi p2, oi p3, oi p4, oi (1 : Int32), oi v55, oi v59, oi v63, oi v67, oa b69, oa b77, .unset, .unset] [] _
        refine XS.aload X132.here hx rfl (hb hby at_119) rfl rfl ?_
        show oS p e below T132 m 121 #[oi p0, oi p1, oi p2, oi p3, oi p4, oi (1 : Int32), oi v55, oi v59, oi v63, oi v67, oa b69, oa b77, .unset, .unset] [(.ref b77)] _
        refine st138.trans ?_
        show oS p e below T138 m 124 #[oi p0, oi p1, oi p2, oi p3, oi p4, oi (1 : Int32), oi v55, oi v59, oi v63, oi v67, oa b69, oa b77, .unset, .unset] [(.ref r_138)] _
        refine XS.astore X138.here hx rfl (hb hby at_124) rfl rfl (l' := #[oi p0, oi p1, oi p2, oi p3, oi p4, oi (1 : Int32), oi v55, oi v59, oi v63, oi v67, oa b69, oa b77, oa r_138, .unset]) rfl ?_
        show oS p e below T138 m 126 #[oi p0, oi p1, oi p2, oi p3, oi p4, oi (1 : Int32), oi v55, oi v59, oi v63, oi v67, oa b69, oa b77, oa r_138, .unset] [] _
        refine XS.aload X138.here hx rfl (hb hby at_126) rfl rfl ?_
        show oS p e below T138 m 128 #[oi p0, oi p1, oi p2, oi p3, oi p4, oi (1 : Int32), oi v55, oi v59, oi v63, oi v67, oa b69, oa b77, oa r_138, .unset] [(.ref r_138)] _
        refine XS.ifnullNo X138.here hx rfl (hb hby at_128) rfl ?_
        show oS p e below T138 m 131 #[oi p0, oi p1, oi p2, oi p3, oi p4, oi (1 : Int32), oi v55, oi v59, oi v63, oi v67, oa b69, oa b77, oa r_138, .unset] [] _
        refine XS.aload X138.here hx rfl (hb hby at_131) rfl rfl ?_
        show oS p e below T138 m 133 #[oi p0, oi p1, oi p2, oi p3, oi p4, oi (1 : Int32), oi v55, oi v59, oi v63, oi v67, oa b69, oa b77, oa r_138, .unset] [(.ref r_138)] _
        refine oLen X138 hx hZ rfl Oq138_0 (hb hby at_133) ?_
        show oS p e below T138 m 134 #[oi p0, oi p1, oi p2, oi p3, oi p4, oi (1 : Int32), oi v55, oi v59, oi v63, oi v67, oa b69, oa b77, oa r_138, .unset] [(.int (1 : Int32))] _
        refine XS.iload X138.here hx rfl (hb hby at_134) rfl ?_
        show oS p e below T138 m 136 #[oi p0, oi p1, oi p2, oi p3, oi p4, oi (1 : Int32), oi v55, oi v59, oi v63, oi v67, oa b69, oa b77, oa r_138, .unset] [(.int (1 : Int32)), (.int (1 : Int32))] _
        refine XS.icmpYes X138.here hx rfl (pc0 := 136) (pc' := 141) rfl (hb hby at_136) rfl (teq b148).1 (by decide) (by decide) ?_
        show oS p e below T138 m 141 #[oi p0, oi p1, oi p2, oi p3, oi p4, oi (1 : Int32), oi v55, oi v59, oi v63, oi v67, oa b69, oa b77, oa r_138, .unset] [] _
        refine XS.iload X138.here hx rfl (hb hby at_141) rfl ?_
        show oS p e below T138 m 143 #[oi p0, oi p1, oi p2, oi p3, oi p4, oi (1 : Int32), oi v55, oi v59, oi v63, oi v67, oa b69, oa b77, oa r_138, .unset] [(.int (1 : Int32))] _
        refine XS.ifNo X138.here hx rfl (hb hby at_143) rfl ((if0 _ _).trans (tlt b149).2.2.2) ?_
        show oS p e below T138 m 146 #[oi p0, oi p1, oi p2, oi p3, oi p4, oi (1 : Int32), oi v55, oi v59, oi v63, oi v67, oa b69, oa b77, oa r_138, .unset] [] _
        refine XS.aload X138.here hx rfl (hb hby at_146) rfl rfl ?_
        show oS p e below T138 m 148 #[oi p0, oi p1, oi p2, oi p3, oi p4, oi (1 : Int32), oi v55, oi v59, oi v63, oi v67, oa b69, oa b77, oa r_138, .unset] [(.ref r_138)] _
        refine XS.iconst X138.here hx rfl (hb hby at_148) ?_
        show oS p e below T138 m 149 #[oi p0, oi p1, oi p2, oi p3, oi p4, oi (1 : Int32), oi v55, oi v59, oi v63, oi v67, oa b69, oa b77, oa r_138, .unset] [(.int (0 : Int32)), (.ref r_138)] _
        refine oLdI X138 hx hZ rfl Oq138_0 (v := (.int ((v59.toInt8.toInt32) &&& (255 : Int32)))) ⟨by decide, by decide⟩ rfl (hb hby at_149) ?_
        show oS p e below T138 m 150 #[oi p0, oi p1, oi p2, oi p3, oi p4, oi (1 : Int32), oi v55, oi v59, oi v63, oi v67, oa b69, oa b77, oa r_138, .unset] [(.int ((v59.toInt8.toInt32) &&& (255 : Int32)))] _
        refine XS.iload X138.here hx rfl (hb hby at_150) rfl ?_
        show oS p e below T138 m 152 #[oi p0, oi p1, oi p2, oi p3, oi p4, oi (1 : Int32), oi v55, oi v59, oi v63, oi v67, oa b69, oa b77, oa r_138, .unset] [(.int v59), (.int ((v59.toInt8.toInt32) &&& (255 : Int32)))] _
        refine XS.icmpYes X138.here hx rfl (pc0 := 152) (pc' := 157) rfl (hb hby at_152) rfl (teq b150).1 (by decide) (by decide) ?_
        show oS p e below T138 m 157 #[oi p0, oi p1, oi p2, oi p3, oi p4, oi (1 : Int32), oi v55, oi v59, oi v63, oi v67, oa b69, oa b77, oa r_138, .unset] [] _
        refine XS.iload X138.here hx rfl (hb hby at_157) rfl ?_
        show oS p e below T138 m 159 #[oi p0, oi p1, oi p2, oi p3, oi p4, oi (1 : Int32), oi v55, oi v59, oi v63, oi v67, oa b69, oa b77, oa r_138, .unset] [(.int (1 : Int32))] _
        refine XS.iconst X138.here hx rfl (hb hby at_159) ?_
        show oS p e below T138 m 160 #[oi p0, oi p1, oi p2, oi p3, oi p4, oi (1 : Int32), oi v55, oi v59, oi v63, oi v67, oa b69, oa b77, oa r_138, .unset] [(.int (1 : Int32)), (.int (1 : Int32))] _
        refine XS.icmpYes X138.here hx rfl (pc0 := 160) (pc' := 174) rfl (hb hby at_160) rfl (flt b151).2.2.2 (by decide) (by decide) ?_
        show oS p e below T138 m 174 #[oi p0, oi p1, oi p2, oi p3, oi p4, oi (1 : Int32), oi v55, oi v59, oi v63, oi v67, oa b69, oa b77, oa r_138, .unset] [] _
        refine XS.iload X138.here hx rfl (hb hby at_174) rfl ?_
        show oS p e below T138 m 176 #[oi p0, oi p1, oi p2, oi p3, oi p4, oi (1 : Int32), oi v55, oi v59, oi v63, oi v67, oa b69, oa b77, oa r_138, .unset] [(.int (1 : Int32))] _
        refine XS.iconst X138.here hx rfl (hb hby at_176) ?_
        show oS p e below T138 m 177 #[oi p0, oi p1, oi p2, oi p3, oi p4, oi (1 : Int32), oi v55, oi v59, oi v63, oi v67, oa b69, oa b77, oa r_138, .unset] [(.int (2 : Int32)), (.int (1 : Int32))] _
        refine XS.icmpYes X138.here hx rfl (pc0 := 177) (pc' := 191) rfl (hb hby at_177) rfl (flt b152).2.2.2 (by decide) (by decide) ?_
        show oS p e below T138 m 191 #[oi p0, oi p1, oi p2, oi p3, oi p4, oi (1 : Int32), oi v55, oi v59, oi v63, oi v67, oa b69, oa b77, oa r_138, .unset] [] _
        refine XS.iload X138.here hx rfl (hb hby at_191) rfl ?_
        show oS p e below T138 m 193 #[oi p0, oi p1, oi p2, oi p3, oi p4, oi (1 : Int32), oi v55, oi v59, oi v63, oi v67, oa b69, oa b77, oa r_138, .unset] [(.int (1 : Int32))] _
        refine XS.ifNo X138.here hx rfl (hb hby at_193) rfl ((if0 _ _).trans (tlt b153).2.2.2) ?_
        show oS p e below T138 m 196 #[oi p0, oi p1, oi p2, oi p3, oi p4, oi (1 : Int32), oi v55, oi v59, oi v63, oi v67, oa b69, oa b77, oa r_138, .unset] [] _
        refine XS.aload X138.here hx rfl (hb hby at_196) rfl rfl ?_
        show oS p e below T138 m 198 #[oi p0, oi p1, oi p2, oi p3, oi p4, oi (1 : Int32), oi v55, oi v59, oi v63, oi v67, oa b69, oa b77, oa r_138, .unset] [(.ref r_138)] _
        refine XS.iconst X138.here hx rfl (hb hby at_198) ?_
        show oS p e below T138 m 199 #[oi p0, oi p1, oi p2, oi p3, oi p4, oi (1 : Int32), oi v55, oi v59, oi v63, oi v67, oa b69, oa b77, oa r_138, .unset] [(.int (0 : Int32)), (.ref r_138)] _
        refine XS.aload X138.here hx rfl (hb hby at_199) rfl rfl ?_
        show oS p e below T138 m 201 #[oi p0, oi p1, oi p2, oi p3, oi p4, oi (1 : Int32), oi v55, oi v59, oi v63, oi v67, oa b69, oa b77, oa r_138, .unset] [(.ref r_138), (.int (0 : Int32)), (.ref r_138)] _
        refine XS.iconst X138.here hx rfl (hb hby at_201) ?_
        show oS p e below T138 m 202 #[oi p0, oi p1, oi p2, oi p3, oi p4, oi (1 : Int32), oi v55, oi v59, oi v63, oi v67, oa b69, oa b77, oa r_138, .unset] [(.int (0 : Int32)), (.ref r_138), (.int (0 : Int32)), (.ref r_138)] _
        refine oLdI X138 hx hZ rfl Oq138_0 (v := (.int ((v59.toInt8.toInt32) &&& (255 : Int32)))) ⟨by decide, by decide⟩ rfl (hb hby at_202) ?_
        show oS p e below T138 m 203 #[oi p0, oi p1, oi p2, oi p3, oi p4, oi (1 : Int32), oi v55, oi v59, oi v63, oi v67, oa b69, oa b77, oa r_138, .unset] [(.int ((v59.toInt8.toInt32) &&& (255 : Int32))), (.int (0 : Int32)), (.ref r_138)] _
        refine XS.iconst X138.here hx rfl (hb hby at_203) ?_
        show oS p e below T138 m 204 #[oi p0, oi p1, oi p2, oi p3, oi p4, oi (1 : Int32), oi v55, oi v59, oi v63, oi v67, oa b69, oa b77, oa r_138, .unset] [(.int (1 : Int32)), (.int ((v59.toInt8.toInt32) &&& (255 : Int32))), (.int (0 : Int32)), (.ref r_138)] _
        refine XS.ixor X138.here hx rfl (hb hby at_204) rfl ?_
        show oS p e below T138 m 205 #[oi p0, oi p1, oi p2, oi p3, oi p4, oi (1 : Int32), oi v55, oi v59, oi v63, oi v67, oa b69, oa b77, oa r_138, .unset] [(.int (((v59.toInt8.toInt32) &&& (255 : Int32)) ^^^ (1 : Int32))), (.int (0 : Int32)), (.ref r_138)] _
        refine st154 _ ?_
        show oS p e below T154 m 206 #[oi p0, oi p1, oi p2, oi p3, oi p4, oi (1 : Int32), oi v55, oi v59, oi v63, oi v67, oa b69, oa b77, oa r_138, .unset] [] _
        refine XS.aload X154.here hx rfl (hb hby at_206) rfl rfl ?_
        show oS p e below T154 m 208 #[oi p0, oi p1, oi p2, oi p3, oi p4, oi (1 : Int32), oi v55, oi v59, oi v63, oi v67, oa b69, oa b77, oa r_138, .unset] [(.ref b77)] _
        refine st162.trans ?_
        show oS p e below T162 m 211 #[oi p0, oi p1, oi p2, oi p3, oi p4, oi (1 : Int32), oi v55, oi v59, oi v63, oi v67, oa b69, oa b77, oa r_138, .unset] [(.ref r_162)] _
        refine XS.astore X162.here hx rfl (hb hby at_211) rfl rfl (l' := #[oi p0, oi p1, oi p2, oi p3, oi p4, oi (1 : Int32), oi v55, oi v59, oi v63, oi v67, oa b69, oa b77, oa r_138, oa r_162]) rfl ?_
        show oS p e below T162 m 213 #[oi p0, oi p1, oi p2, oi p3, oi p4, oi (1 : Int32), oi v55, oi v59, oi v63, oi v67, oa b69, oa b77, oa r_138, oa r_162] [] _
        refine XS.aload X162.here hx rfl (hb hby at_213) rfl rfl ?_
        show oS p e below T162 m 215 #[oi p0, oi p1, oi p2, oi p3, oi p4, oi (1 : Int32), oi v55, oi v59, oi v63, oi v67, oa b69, oa b77, oa r_138, oa r_162] [(.ref r_162)] _
        refine XS.ifnullNo X162.here hx rfl (hb hby at_215) rfl ?_
        show oS p e below T162 m 218 #[oi p0, oi p1, oi p2, oi p3, oi p4, oi (1 : Int32), oi v55, oi v59, oi v63, oi v67, oa b69, oa b77, oa r_138, oa r_162] [] _
        refine XS.aload X162.here hx rfl (hb hby at_218) rfl rfl ?_
        show oS p e below T162 m 220 #[oi p0, oi p1, oi p2, oi p3, oi p4, oi (1 : Int32), oi v55, oi v59, oi v63, oi v67, oa b69, oa b77, oa r_138, oa r_162] [(.ref r_162)] _
        refine XS.aload X162.here hx rfl (hb hby at_220) rfl rfl ?_
        show oS p e below T162 m 222 #[oi p0, oi p1, oi p2, oi p3, oi p4, oi (1 : Int32), oi v55, oi v59, oi v63, oi v67, oa b69, oa b77, oa r_138, oa r_162] [(.ref r_138), (.ref r_162)] _
        refine Jvm.RoadKit.acmp (g := (mkF m 222 #[oi p0, oi p1, oi p2, oi p3, oi p4, oi (1 : Int32), oi v55, oi v59, oi v63, oi v67, oa b69, oa b77, oa r_138, oa r_162] [(.ref r_138), (.ref r_162)])) X162 hx rfl rfl rfl (pc0 := 222) (pc' := 225) (same := false) rfl (hb hby at_222) rfl (decide_eq_false fun q => (Ne.symm ne166) (Value.ref.inj q)) (by decide) (by decide) ?_
        show oS p e below T162 m 225 #[oi p0, oi p1, oi p2, oi p3, oi p4, oi (1 : Int32), oi v55, oi v59, oi v63, oi v67, oa b69, oa b77, oa r_138, oa r_162] [] _
        refine XS.aload X162.here hx rfl (hb hby at_225) rfl rfl ?_
        show oS p e below T162 m 227 #[oi p0, oi p1, oi p2, oi p3, oi p4, oi (1 : Int32), oi v55, oi v59, oi v63, oi v67, oa b69, oa b77, oa r_138, oa r_162] [(.ref r_162)] _
        refine oLen X162 hx hZ rfl Oq162_0 (hb hby at_227) ?_
        show oS p e below T162 m 228 #[oi p0, oi p1, oi p2, oi p3, oi p4, oi (1 : Int32), oi v55, oi v59, oi v63, oi v67, oa b69, oa b77, oa r_138, oa r_162] [(.int (1 : Int32))] _
        refine XS.iload X162.here hx rfl (hb hby at_228) rfl ?_
        show oS p e below T162 m 230 #[oi p0, oi p1, oi p2, oi p3, oi p4, oi (1 : Int32), oi v55, oi v59, oi v63, oi v67, oa b69, oa b77, oa r_138, oa r_162] [(.int (1 : Int32)), (.int (1 : Int32))] _
        refine XS.icmpNo X162.here hx rfl (hb hby at_230) rfl (teq b174).2 ?_
        show oS p e below T162 m 233 #[oi p0, oi p1, oi p2, oi p3, oi p4, oi (1 : Int32), oi v55, oi v59, oi v63, oi v67, oa b69, oa b77, oa r_138, oa r_162] [] _
        refine XS.aload X162.here hx rfl (hb hby at_233) rfl rfl ?_
        show oS p e below T162 m 235 #[oi p0, oi p1, oi p2, oi p3, oi p4, oi (1 : Int32), oi v55, oi v59, oi v63, oi v67, oa b69, oa b77, oa r_138, oa r_162] [(.ref r_162)] _
        refine XS.iconst X162.here hx rfl (hb hby at_235) ?_
        show oS p e below T162 m 236 #[oi p0, oi p1, oi p2, oi p3, oi p4, oi (1 : Int32), oi v55, oi v59, oi v63, oi v67, oa b69, oa b77, oa r_138, oa r_162] [(.int (0 : Int32)), (.ref r_162)] _
        refine oLdI X162 hx hZ rfl Oq162_0 (v := (.int ((v59.toInt8.toInt32) &&& (255 : Int32)))) ⟨by decide, by decide⟩ rfl (hb hby at_236) ?_
        show oS p e below T162 m 237 #[oi p0, oi p1, oi p2, oi p3, oi p4, oi (1 : Int32), oi v55, oi v59, oi v63, oi v67, oa b69, oa b77, oa r_138, oa r_162] [(.int ((v59.toInt8.toInt32) &&& (255 : Int32)))] _
        refine XS.iload X162.here hx rfl (hb hby at_237) rfl ?_
        show oS p e below T162 m 239 #[oi p0, oi p1, oi p2, oi p3, oi p4, oi (1 : Int32), oi v55, oi v59, oi v63, oi v67, oa b69, oa b77, oa r_138, oa r_162] [(.int v59), (.int ((v59.toInt8.toInt32) &&& (255 : Int32)))] _
        refine XS.icmpYes X162.here hx rfl (pc0 := 239) (pc' := 244) rfl (hb hby at_239) rfl (teq b175).1 (by decide) (by decide) ?_
        show oS p e below T162 m 244 #[oi p0, oi p1, oi p2, oi p3, oi p4, oi (1 : Int32), oi v55, oi v59, oi v63, oi v67, oa b69, oa b77, oa r_138, oa r_162] [] _
        refine XS.iconst X162.here hx rfl (hb hby at_244) ?_
        show oS p e below T162 m 245 #[oi p0, oi p1, oi p2, oi p3, oi p4, oi (1 : Int32), oi v55, oi v59, oi v63, oi v67, oa b69, oa b77, oa r_138, oa r_162] [(.int (1 : Int32))] _
        exact retN X162 hx (t := .boolean) Bd.returns (by simp) (hb hby at_245) hr
      · show own_Q0 Z p0 p1 p2 p3 p4 h0 n0 _ T162.heap _
        exact ⟨rfl, N162⟩
  · skip
    rw [k2] at pre1
    have pre176 : ∀ t, Steps p.tables e below (s₁.setTop (mkF m 9 #[oi p0, oi p1, oi p2, oi p3, oi p4, oi (2 : Int32), .unset, .unset, .unset, .unset, .unset, .unset, .unset, .unset] [(.int (p4 &&& (1 : Int32)))])) t → Steps p.tables e below (s₁.setTop (entryFrame m #[(.int p0), (.int p1), (.int p2), (.int p3), (.int p4)] maxLocals)) t := by
      intro t k
      refine pre1 t ?_
      show oS p e below s₁ m 3 #[oi p0, oi p1, oi p2, oi p3, oi p4, .unset, .unset, .unset, .unset, .unset, .unset, .unset, .unset, .unset] [(.int (2 : Int32))] _
      refine XS.istore X0.here hx rfl (hb hby at_3) rfl (l' := #[oi p0, oi p1, oi p2, oi p3, oi p4, oi (2 : Int32), .unset, .unset, .unset, .unset, .unset, .unset, .unset, .unset]) rfl ?_
      show oS p e below s₁ m 5 #[oi p0, oi p1, oi p2, oi p3, oi p4, oi (2 : Int32), .unset, .unset, .unset, .unset, .unset, .unset, .unset, .unset] [] _
      refine XS.iload X0.here hx rfl (hb hby at_5) rfl ?_
      show oS p e below s₁ m 7 #[oi p0, oi p1, oi p2, oi p3, oi p4, oi (2 : Int32), .unset, .unset, .unset, .unset, .unset, .unset, .unset, .unset] [(.int p4)] _
      refine XS.iconst X0.here hx rfl (hb hby at_7) ?_
      show oS p e below s₁ m 8 #[oi p0, oi p1, oi p2, oi p3, oi p4, oi (2 : Int32), .unset, .unset, .unset, .unset, .unset, .unset, .unset, .unset] [(.int (1 : Int32)), (.int p4)] _
      refine XS.iand X0.here hx rfl (hb hby at_8) rfl ?_
      exact k
    obtain ⟨v178, hv178⟩ : ∃ z : Int32, z = (if (p4 &&& (1 : Int32)) = (0 : Int32) then (0 : Int32) else (1 : Int32)) := ⟨_, rfl⟩
    have pre179 : ∀ t, Steps p.tables e below (s₁.setTop (mkF m 17 #[oi p0, oi p1, oi p2, oi p3, oi p4, oi (2 : Int32), .unset, .unset, .unset, .unset, .unset, .unset, .unset, .unset] [(.int v178)])) t → Steps p.tables e below (s₁.setTop (entryFrame m #[(.int p0), (.int p1), (.int p2), (.int p3), (.int p4)] maxLocals)) t := by
      intro t k
      by_cases c177 : (p4 &&& (1 : Int32)) = (0 : Int32)
      · skip
        rw [show v178 = (0 : Int32) from hv178.trans (by rw [if_pos c177])] at k
        refine pre176 t ?_
        show oS p e below s₁ m 9 #[oi p0, oi p1, oi p2, oi p3, oi p4, oi (2 : Int32), .unset, .unset, .unset, .unset, .unset, .unset, .unset, .unset] [(.int (p4 &&& (1 : Int32)))] _
        refine XS.ifYes X0.here hx rfl (pc0 := 9) (pc' := 16) rfl (hb hby at_9) rfl ((if0 _ _).trans (teq c177).1) (by decide) (by decide) ?_
        show oS p e below s₁ m 16 #[oi p0, oi p1, oi p2, oi p3, oi p4, oi (2 : Int32), .unset, .unset, .unset, .unset, .unset, .unset, .unset, .unset] [] _
        refine XS.iconst X0.here hx rfl (hb hby at_16) ?_
        exact k
      · skip
        rw [show v178 = (1 : Int32) from hv178.trans (by rw [if_neg c177])] at k
        refine pre176 t ?_
        show oS p e below s₁ m 9 #[oi p0, oi p1, oi p2, oi p3, oi p4, oi (2 : Int32), .unset, .unset, .unset, .unset, .unset, .unset, .unset, .unset] [(.int (p4 &&& (1 : Int32)))] _
        refine XS.ifNo X0.here hx rfl (hb hby at_9) rfl ((if0 _ _).trans (feq c177).1) ?_
        show oS p e below s₁ m 12 #[oi p0, oi p1, oi p2, oi p3, oi p4, oi (2 : Int32), .unset, .unset, .unset, .unset, .unset, .unset, .unset, .unset] [] _
        refine XS.iconst X0.here hx rfl (hb hby at_12) ?_
        show oS p e below s₁ m 13 #[oi p0, oi p1, oi p2, oi p3, oi p4, oi (2 : Int32), .unset, .unset, .unset, .unset, .unset, .unset, .unset, .unset] [(.int (1 : Int32))] _
        refine XS.goto X0.here hx rfl (pc0 := 13) (pc' := 17) rfl (hb hby at_13) (by decide) (by decide) ?_
        exact k
    have pre180 : ∀ t, Steps p.tables e below (s₁.setTop (mkF m 21 #[oi p0, oi p1, oi p2, oi p3, oi p4, oi (2 : Int32), oi v178, .unset, .unset, .unset, .unset, .unset, .unset, .unset] [(.int v178)])) t → Steps p.tables e below (s₁.setTop (entryFrame m #[(.int p0), (.int p1), (.int p2), (.int p3), (.int p4)] maxLocals)) t := by
      intro t k
      refine pre179 t ?_
      show oS p e below s₁ m 17 #[oi p0, oi p1, oi p2, oi p3, oi p4, oi (2 : Int32), .unset, .unset, .unset, .unset, .unset, .unset, .unset, .unset] [(.int v178)] _
      refine XS.istore X0.here hx rfl (hb hby at_17) rfl (l' := #[oi p0, oi p1, oi p2, oi p3, oi p4, oi (2 : Int32), oi v178, .unset, .unset, .unset, .unset, .unset, .unset, .unset]) rfl ?_
      show oS p e below s₁ m 19 #[oi p0, oi p1, oi p2, oi p3, oi p4, oi (2 : Int32), oi v178, .unset, .unset, .unset, .unset, .unset, .unset, .unset] [] _
      refine XS.iload X0.here hx rfl (hb hby at_19) rfl ?_
      exact k
    obtain ⟨v182, hv182⟩ : ∃ z : Int32, z = (if v178 = (0 : Int32) then p1 else (p1 &&& (255 : Int32))) := ⟨_, rfl⟩
    have pre183 : ∀ t, Steps p.tables e below (s₁.setTop (mkF m 33 #[oi p0, oi p1, oi p2, oi p3, oi p4, oi (2 : Int32), oi v178, .unset, .unset, .unset, .unset, .unset, .unset, .unset] [(.int v182)])) t → Steps p.tables e below (s₁.setTop (entryFrame m #[(.int p0), (.int p1), (.int p2), (.int p3), (.int p4)] maxLocals)) t := by
      intro t k
      by_cases c181 : v178 = (0 : Int32)
      · skip
        rw [show v182 = p1 from hv182.trans (by rw [if_pos c181])] at k
        refine pre180 t ?_
        show oS p e below s₁ m 21 #[oi p0, oi p1, oi p2, oi p3, oi p4, oi (2 : Int32), oi v178, .unset, .unset, .unset, .unset, .unset, .unset, .unset] [(.int v178)] _
        refine XS.ifYes X0.here hx rfl (pc0 := 21) (pc' := 32) rfl (hb hby at_21) rfl ((if0 _ _).trans (teq c181).1) (by decide) (by decide) ?_
        show oS p e below s₁ m 32 #[oi p0, oi p1, oi p2, oi p3, oi p4, oi (2 : Int32), oi v178, .unset, .unset, .unset, .unset, .unset, .unset, .unset] [] _
        refine XS.iloadN X0.here hx rfl (hb hby at_32) rfl ?_
        exact k
      · skip
        rw [show v182 = (p1 &&& (255 : Int32)) from hv182.trans (by rw [if_neg c181])] at k
        refine pre180 t ?_
        show oS p e below s₁ m 21 #[oi p0, oi p1, oi p2, oi p3, oi p4, oi (2 : Int32), oi v178, .unset, .unset, .unset, .unset, .unset, .unset, .unset] [(.int v178)] _
        refine XS.ifNo X0.here hx rfl (hb hby at_21) rfl ((if0 _ _).trans (feq c181).1) ?_
        show oS p e below s₁ m 24 #[oi p0, oi p1, oi p2, oi p3, oi p4, oi (2 : Int32), oi v178, .unset, .unset, .unset, .unset, .unset, .unset, .unset] [] _
        refine XS.iloadN X0.here hx rfl (hb hby at_24) rfl ?_
        show oS p e below s₁ m 25 #[oi p0, oi p1, oi p2, oi p3, oi p4, oi (2 : Int32), oi v178, .unset, .unset, .unset, .unset, .unset, .unset, .unset] [(.int p1)] _
        refine XS.sipush X0.here hx rfl (hb hby at_25) ?_
        show oS p e below s₁ m 28 #[oi p0, oi p1, oi p2, oi p3, oi p4, oi (2 : Int32), oi v178, .unset, .unset, .unset, .unset, .unset, .unset, .unset] [(.int (255 : Int32)), (.int p1)] _
        refine XS.iand X0.here hx rfl (hb hby at_28) rfl ?_
        show oS p e below s₁ m 29 #[oi p0, oi p1, oi p2, oi p3, oi p4, oi (2 : Int32), oi v178, .unset, .unset, .unset, .unset, .unset, .unset, .unset] [(.int (p1 &&& (255 : Int32)))] _
        refine XS.goto X0.here hx rfl (pc0 := 29) (pc' := 33) rfl (hb hby at_29) (by decide) (by decide) ?_
        exact k
    have pre184 : ∀ t, Steps p.tables e below (s₁.setTop (mkF m 37 #[oi p0, oi p1, oi p2, oi p3, oi p4, oi (2 : Int32), oi v178, oi v182, .unset, .unset, .unset, .unset, .unset, .unset] [(.int v178)])) t → Steps p.tables e below (s₁.setTop (entryFrame m #[(.int p0), (.int p1), (.int p2), (.int p3), (.int p4)] maxLocals)) t := by
      intro t k
      refine pre183 t ?_
      show oS p e below s₁ m 33 #[oi p0, oi p1, oi p2, oi p3, oi p4, oi (2 : Int32), oi v178, .unset, .unset, .unset, .unset, .unset, .unset, .unset] [(.int v182)] _
      refine XS.istore X0.here hx rfl (hb hby at_33) rfl (l' := #[oi p0, oi p1, oi p2, oi p3, oi p4, oi (2 : Int32), oi v178, oi v182, .unset, .unset, .unset, .unset, .unset, .unset]) rfl ?_
      show oS p e below s₁ m 35 #[oi p0, oi p1, oi p2, oi p3, oi p4, oi (2 : Int32), oi v178, oi v182, .unset, .unset, .unset, .unset, .unset, .unset] [] _
      refine XS.iload X0.here hx rfl (hb hby at_35) rfl ?_
      exact k
    obtain ⟨v186, hv186⟩ : ∃ z : Int32, z = (if v178 = (0 : Int32) then p2 else (p2 &&& (255 : Int32))) := ⟨_, rfl⟩
    have pre187 : ∀ t, Steps p.tables e below (s₁.setTop (mkF m 49 #[oi p0, oi p1, oi p2, oi p3, oi p4, oi (2 : Int32), oi v178, oi v182, .unset, .unset, .unset, .unset, .unset, .unset] [(.int v186)])) t → Steps p.tables e below (s₁.setTop (entryFrame m #[(.int p0), (.int p1), (.int p2), (.int p3), (.int p4)] maxLocals)) t := by
      intro t k
      by_cases c185 : v178 = (0 : Int32)
      · skip
        rw [show v186 = p2 from hv186.trans (by rw [if_pos c185])] at k
        refine pre184 t ?_
        show oS p e below s₁ m 37 #[oi p0, oi p1, oi p2, oi p3, oi p4, oi (2 : Int32), oi v178, oi v182, .unset, .unset, .unset, .unset, .unset, .unset] [(.int v178)] _
        refine XS.ifYes X0.here hx rfl (pc0 := 37) (pc' := 48) rfl (hb hby at_37) rfl ((if0 _ _).trans (teq c185).1) (by decide) (by decide) ?_
        show oS p e below s₁ m 48 #[oi p0, oi p1, oi p2, oi p3, oi p4, oi (2 : Int32), oi v178, oi v182, .unset, .unset, .unset, .unset, .unset, .unset] [] _
        refine XS.iloadN X0.here hx rfl (hb hby at_48) rfl ?_
        exact k
      · skip
        rw [show v186 = (p2 &&& (255 : Int32)) from hv186.trans (by rw [if_neg c185])] at k
        refine pre184 t ?_
        show oS p e below s₁ m 37 #[oi p0, oi p1, oi p2, oi p3, oi p4, oi (2 : Int32), oi v178, oi v182, .unset, .unset, .unset, .unset, .unset, .unset] [(.int v178)] _
        refine XS.ifNo X0.here hx rfl (hb hby at_37) rfl ((if0 _ _).trans (feq c185).1) ?_
        show oS p e below s₁ m 40 #[oi p0, oi p1, oi p2, oi p3, oi p4, oi (2 : Int32), oi v178, oi v182, .unset, .unset, .unset, .unset, .unset, .unset] [] _
        refine XS.iloadN X0.here hx rfl (hb hby at_40) rfl ?_
        show oS p e below s₁ m 41 #[oi p0, oi p1, oi p2, oi p3, oi p4, oi (2 : Int32), oi v178, oi v182, .unset, .unset, .unset, .unset, .unset, .unset] [(.int p2)] _
        refine XS.sipush X0.here hx rfl (hb hby at_41) ?_
        show oS p e below s₁ m 44 #[oi p0, oi p1, oi p2, oi p3, oi p4, oi (2 : Int32), oi v178, oi v182, .unset, .unset, .unset, .unset, .unset, .unset] [(.int (255 : Int32)), (.int p2)] _
        refine XS.iand X0.here hx rfl (hb hby at_44) rfl ?_
        show oS p e below s₁ m 45 #[oi p0, oi p1, oi p2, oi p3, oi p4, oi (2 : Int32), oi v178, oi v182, .unset, .unset, .unset, .unset, .unset, .unset] [(.int (p2 &&& (255 : Int32)))] _
        refine XS.goto X0.here hx rfl (pc0 := 45) (pc' := 49) rfl (hb hby at_45) (by decide) (by decide) ?_
        exact k
    have pre188 : ∀ t, Steps p.tables e below (s₁.setTop (mkF m 53 #[oi p0, oi p1, oi p2, oi p3, oi p4, oi (2 : Int32), oi v178, oi v182, oi v186, .unset, .unset, .unset, .unset, .unset] [(.int v178)])) t → Steps p.tables e below (s₁.setTop (entryFrame m #[(.int p0), (.int p1), (.int p2), (.int p3), (.int p4)] maxLocals)) t := by
      intro t k
      refine pre187 t ?_
      show oS p e below s₁ m 49 #[oi p0, oi p1, oi p2, oi p3, oi p4, oi (2 : Int32), oi v178, oi v182, .unset, .unset, .unset, .unset, .unset, .unset] [(.int v186)] _
      refine XS.istore X0.here hx rfl (hb hby at_49) rfl (l' := #[oi p0, oi p1, oi p2, oi p3, oi p4, oi (2 : Int32), oi v178, oi v182, oi v186, .unset, .unset, .unset, .unset, .unset]) rfl ?_
      show oS p e below s₁ m 51 #[oi p0, oi p1, oi p2, oi p3, oi p4, oi (2 : Int32), oi v178, oi v182, oi v186, .unset, .unset, .unset, .unset, .unset] [] _
      refine XS.iload X0.here hx rfl (hb hby at_51) rfl ?_
      exact k
    obtain ⟨v190, hv190⟩ : ∃ z : Int32, z = (if v178 = (0 : Int32) then p3 else (p3 &&& (255 : Int32))) := ⟨_, rfl⟩
    have pre191 : ∀ t, Steps p.tables e below (s₁.setTop (mkF m 65 #[oi p0, oi p1, oi p2, oi p3, oi p4, oi (2 : Int32), oi v178, oi v182, oi v186, .unset, .unset, .unset, .unset, .unset] [(.int v190)])) t → Steps p.tables e below (s₁.setTop (entryFrame m #[(.int p0), (.int p1), (.int p2), (.int p3), (.int p4)] maxLocals)) t := by
      intro t k
      by_cases c189 : v178 = (0 : Int32)
      · skip
        rw [show v190 = p3 from hv190.trans (by rw [if_pos c189])] at k
        refine pre188 t ?_
        show oS p e below s₁ m 53 #[oi p0, oi p1, oi p2, oi p3, oi p4, oi (2 : Int32), oi v178, oi v182, oi v186, .unset, .unset, .unset, .unset, .unset] [(.int v178)] _
        refine XS.ifYes X0.here hx rfl (pc0 := 53) (pc' := 64) rfl (hb hby at_53) rfl ((if0 _ _).trans (teq c189).1) (by decide) (by decide) ?_
        show oS p e below s₁ m 64 #[oi p0, oi p1, oi p2, oi p3, oi p4, oi (2 : Int32), oi v178, oi v182, oi v186, .unset, .unset, .unset, .unset, .unset] [] _
        refine XS.iloadN X0.here hx rfl (hb hby at_64) rfl ?_
        exact k
      · skip
        rw [show v190 = (p3 &&& (255 : Int32)) from hv190.trans (by rw [if_neg c189])] at k
        refine pre188 t ?_
        show oS p e below s₁ m 53 #[oi p0, oi p1, oi p2, oi p3, oi p4, oi (2 : Int32), oi v178, oi v182, oi v186, .unset, .unset, .unset, .unset, .unset] [(.int v178)] _
        refine XS.ifNo X0.here hx rfl (hb hby at_53) rfl ((if0 _ _).trans (feq c189).1) ?_
        show oS p e below s₁ m 56 #[oi p0, oi p1, oi p2, oi p3, oi p4, oi (2 : Int32), oi v178, oi v182, oi v186, .unset, .unset, .unset, .unset, .unset] [] _
        refine XS.iloadN X0.here hx rfl (hb hby at_56) rfl ?_
        show oS p e below s₁ m 57 #[oi p0, oi p1, oi p2, oi p3, oi p4, oi (2 : Int32), oi v178, oi v182, oi v186, .unset, .unset, .unset, .unset, .unset] [(.int p3)] _
        refine XS.sipush X0.here hx rfl (hb hby at_57) ?_
        show oS p e below s₁ m 60 #[oi p0, oi p1, oi p2, oi p3, oi p4, oi (2 : Int32), oi v178, oi v182, oi v186, .unset, .unset, .unset, .unset, .unset] [(.int (255 : Int32)), (.int p3)] _
        refine XS.iand X0.here hx rfl (hb hby at_60) rfl ?_
        show oS p e below s₁ m 61 #[oi p0, oi p1, oi p2, oi p3, oi p4, oi (2 : Int32), oi v178, oi v182, oi v186, .unset, .unset, .unset, .unset, .unset] [(.int (p3 &&& (255 : Int32)))] _
        refine XS.goto X0.here hx rfl (pc0 := 61) (pc' := 65) rfl (hb hby at_61) (by decide) (by decide) ?_
        exact k
    obtain ⟨T192, h192, k192, X192, e192, E192, A192, B192, st192⟩ := newPE X0 hx hZ (hw _ (List.mem_of_getElem? (i := 0) rfl)) e0 (g := (mkF m 69 #[oi p0, oi p1, oi p2, oi p3, oi p4, oi (2 : Int32), oi v178, oi v182, oi v186, oi v190, .unset, .unset, .unset, .unset] [(.int (2 : Int32))])) rfl (hb hby at_69) rfl (by decide) (cap := 2) (by decide) (by decide) (by decide) (by decide) (ad := "[I") rfl
    obtain ⟨b192, g192⟩ : ∃ z, z = h0.size := ⟨_, rfl⟩
    rw [← g192] at A192 st192 B192
    have g_b192 : n0 ≤ b192 := Nat.le_trans Z0 (Nat.le_of_eq g192.symm)
    have Z192 : n0 ≤ h192.size := Nat.le_trans Z0 E192.1
    have V_193 : Arv Z h192 b192 k192 .int (2 : Int32) [(.int (0 : Int32)), (.int (0 : Int32))] (.int (0 : Int32)) := (Arv.new A192 (by decide)).pad (pad_rep [] (.int (0 : Int32)) 2)
    have b194 : (0 : Int32) < (2 : Int32) := (by decide)
    obtain ⟨T195, h195, X195, e195, W195, V195, st195⟩ := oStI X192 hx hZ e192 V_193 (j := (0 : Int32)) ⟨by decide, by decide⟩ 0 rfl (Nat.le_of_ble_eq_true rfl) (g := (mkF m 83 #[oi p0, oi p1, oi p2, oi p3, oi p4, oi (2 : Int32), oi v178, oi v182, oi v186, oi v190, oa b192, .unset, .unset, .unset] [(.int v182), (.int (0 : Int32)), (.ref b192)])) rfl rfl (hb hby at_83)
    obtain ⟨Lo195, X195, N195⟩ := oOpq X195 (Fr.snoc X195 N0 g_b192)
    have Z195 := Nat.le_trans Z192 (Keep.of_wr W195).1
    have F196 := B192.wr W195
    have V_197 : Arv Z h195 b192 k192 .int (2 : Int32) [(.int v182), (.int (0 : Int32))] (.int (0 : Int32)) := V195
    have b198 : (1 : Int32) < (2 : Int32) := (by decide)
    obtain ⟨T199, h199, X199, e199, W199, V199, st199⟩ := oStI X195 hx hZ e195 V_197 (j := (1 : Int32)) ⟨by decide, by decide⟩ 1 rfl (Nat.le_of_ble_eq_true rfl) (g := (mkF m 95 #[oi p0, oi p1, oi p2, oi p3, oi p4, oi (2 : Int32), oi v178, oi v182, oi v186, oi v190, oa b192, .unset, .unset, .unset] [(.int v186), (.int (1 : Int32)), (.ref b192)])) rfl rfl (hb hby at_95)
    obtain ⟨Lo199, X199, N199⟩ := oOpq X199 (Fr.snoc X199 N195 g_b192)
    have Z199 := Nat.le_trans Z195 (Keep.of_wr W199).1
    have F200 := F196.wr W199
    have V_201 : Arv Z h199 b192 k192 .int (2 : Int32) [(.int v182), (.int v186)] (.int (0 : Int32)) := V199
    have b202 : ¬ ((2 : Int32) < (2 : Int32)) := (by decide)
    obtain ⟨T203, h203, X203, e203, E203, A203, D203, -, st203⟩ := newO X199 hx hZ hown (hw _ (List.mem_of_getElem? (i := 1) rfl)) (hw _ (List.mem_of_getElem? (i := 2) rfl)) (hw _ (List.mem_of_getElem? (i := 3) rfl)) e199 (g := (mkF m 108 #[oi p0, oi p1, oi p2, oi p3, oi p4, oi (2 : Int32), oi v178, oi v182, oi v186, oi v190, oa b192, .unset, .unset, .unset] [])) rfl (hb hby at_108) (by decide) (by decide)
    obtain ⟨b203, g203⟩ : ∃ z, z = h199.size := ⟨_, rfl⟩
    rw [← g203] at A203 D203 st203
    have g_b203 : n0 ≤ b203 := Nat.le_trans Z199 (Nat.le_of_eq g203.symm)
    have ne204 : b192 ≠ b203 := Nat.ne_of_lt (Nat.lt_of_lt_of_le V_201.lt (Nat.le_of_eq g203.symm))
    have Z203 : n0 ≤ h203.size := Nat.le_trans Z199 E203.1
    have F205 := V_201.ext E203
    have F206 := F200.ext E203
    have F_207 : Fld Z h203 b203 "com/example/penstock/penstock/Design" "byteIndices" "[B" .null := D203 (Or.inr (hw _ (List.mem_of_getElem? (i := 12) rfl))) (ty := (.array .byte)) (by decide)
    have F_208 : Fld Z h203 b203 "com/example/penstock/penstock/Design" "intIndices" "[I" .null := D203 (Or.inr (hw _ (List.mem_of_getElem? (i := 14) rfl))) (ty := (.array .int)) (by decide)
    have F_209 : Fld Z h203 b203 "com/example/penstock/penstock/Design" "hash" "I" (.int (0 : Int32)) := D203 (Or.inr (hw _ (List.mem_of_getElem? (i := 20) rfl))) (ty := .int) (by decide)
    have pre210 : ∀ t, Steps p.tables e below (T203.setTop (mkF m 114 #[oi p0, oi p1, oi p2, oi p3, oi p4, oi (2 : Int32), oi v178, oi v182, oi v186, oi v190, oa b192, .unset, .unset, .unset] [(.ref b192), (.ref b203), (.ref b203)])) t → Steps p.tables e below (s₁.setTop (entryFrame m #[(.int p0), (.int p1), (.int p2), (.int p3), (.int p4)] maxLocals)) t := by
      intro t k
      refine pre191 t ?_
      show oS p e below s₁ m 65 #[oi p0, oi p1, oi p2, oi p3, oi p4, oi (2 : Int32), oi v178, oi v182, oi v186, .unset, .unset, .unset, .unset, .unset] [(.int v190)] _
      refine XS.istore X0.here hx rfl (hb hby at_65) rfl (l' := #[oi p0, oi p1, oi p2, oi p3, oi p4, oi (2 : Int32), oi v178, oi v182, oi v186, oi v190, .unset, .unset, .unset, .unset]) rfl ?_
      show oS p e below s₁ m 67 #[oi p0, oi p1, oi p2, oi p3, oi p4, oi (2 : Int32), oi v178, oi v182, oi v186, oi v190, .unset, .unset, .unset, .unset] [] _
      refine XS.iload X0.here hx rfl (hb hby at_67) rfl ?_
      show oS p e below s₁ m 69 #[oi p0, oi p1, oi p2, oi p3, oi p4, oi (2 : Int32), oi v178, oi v182, oi v186, oi v190, .unset, .unset, .unset, .unset] [(.int (2 : Int32))] _
      refine st192 _ ?_
      show oS p e below T192 m 71 #[oi p0, oi p1, oi p2, oi p3, oi p4, oi (2 : Int32), oi v178, oi v182, oi v186, oi v190, .unset, .unset, .unset, .unset] [(.ref b192)] _
      refine XS.astore X192.here hx rfl (hb hby at_71) rfl rfl (l' := #[oi p0, oi p1, oi p2, oi p3, oi p4, oi (2 : Int32), oi v178, oi v182, oi v186, oi v190, oa b192, .unset, .unset, .unset]) rfl ?_
      show oS p e below T192 m 73 #[oi p0, oi p1, oi p2, oi p3, oi p4, oi (2 : Int32), oi v178, oi v182, oi v186, oi v190, oa b192, .unset, .unset, .unset] [] _
      refine XS.iload X192.here hx rfl (hb hby at_73) rfl ?_
      show oS p e below T192 m 75 #[oi p0, oi p1, oi p2, oi p3, oi p4, oi (2 : Int32), oi v178, oi v182, oi v186, oi v190, oa b192, .unset, .unset, .unset] [(.int (2 : Int32))] _
      refine XS.ifNo X192.here hx rfl (hb hby at_75) rfl ((if0 _ _).trans (tlt b194).2.2.2) ?_
      show oS p e below T192 m 78 #[oi p0, oi p1, oi p2, oi p3, oi p4, oi (2 : Int32), oi v178, oi v182, oi v186, oi v190, oa b192, .unset, .unset, .unset] [] _
      refine XS.aload X192.here hx rfl (hb hby at_78) rfl rfl ?_
      show oS p e below T192 m 80 #[oi p0, oi p1, oi p2, oi p3, oi p4, oi (2 : Int32), oi v178, oi v182, oi v186, oi v190, oa b192, .unset, .unset, .unset] [(.ref b192)] _
      refine XS.iconst X192.here hx rfl (hb hby at_80) ?_
      show oS p e below T192 m 81 #[oi p0, oi p1, oi p2, oi p3, oi p4, oi (2 : Int32), oi v178, oi v182, oi v186, oi v190, oa b192, .unset, .unset, .unset] [(.int (0 : Int32)), (.ref b192)] _
      refine XS.iload X192.here hx rfl (hb hby at_81) rfl ?_
      show oS p e below T192 m 83 #[oi p0, oi p1, oi p2, oi p3, oi p4, oi (2 : Int32), oi v178, oi v182, oi v186, oi v190, oa b192, .unset, .unset, .unset] [(.int v182), (.int (0 : Int32)), (.ref b192)] _
      refine st195 _ ?_
      show oS p e below T195 m 84 #[oi p0, oi p1, oi p2, oi p3, oi p4, oi (2 : Int32), oi v178, oi v182, oi v186, oi v190, oa b192, .unset, .unset, .unset] [] _
      refine XS.iload X195.here hx rfl (hb hby at_84) rfl ?_
      show oS p e below T195 m 86 #[oi p0, oi p1, oi p2, oi p3, oi p4, oi (2 : Int32), oi v178, oi v182, oi v186, oi v190, oa b192, .unset, .unset, .unset] [(.int (2 : Int32))] _
      refine XS.iconst X195.here hx rfl (hb hby at_86) ?_
      show oS p e below T195 m 87 #[oi p0, oi p1, oi p2, oi p3, oi p4, oi (2 : Int32), oi v178, oi v182, oi v186, oi v190, oa b192, .unset, .unset, .unset] [(.int (1 : Int32)), (.int (2 : Int32))] _
      refine XS.icmpNo X195.here hx rfl (hb hby at_87) rfl (tlt b198).2.2.2 ?_
      show oS p e below T195 m 90 #[oi p0, oi p1, oi p2, oi p3, oi p4, oi (2 : Int32), oi v178, oi v182, oi v186, oi v190, oa b192, .unset, .unset, .unset] [] _
      refine XS.aload X195.here hx rfl (hb hby at_90) rfl rfl ?_
      show oS p e below T195 m 92 #[oi p0, oi p1, oi p2, oi p3, oi p4, oi (2 : Int32), oi v178, oi v182, oi v186, oi v190, oa b192, .unset, .unset, .unset] [(.ref b192)] _
      refine XS.iconst X195.here hx rfl (hb hby at_92) ?_
      show oS p e below T195 m 93 #[oi p0, oi p1, oi p2, oi p3, oi p4, oi (2 : Int32), oi v178, oi v182, oi v186, oi v190, oa b192, .unset, .unset, .unset] [(.int (1 : Int32)), (.ref b192)] _
      refine XS.iload X195.here hx rfl (hb hby at_93) rfl ?_
      show oS p e below T195 m 95 #[oi p0, oi p1, oi p2, oi p3, oi p4, oi (2 : Int32), oi v178, oi v182, oi v186, oi v190, oa b192, .unset, .unset, .unset] [(.int v186), (.int (1 : Int32)), (.ref b192)] _
      refine st199 _ ?_
      show oS p e below T199 m 96 #[oi p0, oi p1, oi p2, oi p3, oi p4, oi (2 : Int32), oi v178, oi v182, oi v186, oi v190, oa b192, .unset, .unset, .unset] [] _
      refine XS.iload X199.here hx rfl (hb hby at_96) rfl ?_
      show oS p e below T199 m 98 #[oi p0, oi p1, oi p2, oi p3, oi p4, oi (2 : Int32), oi v178, oi v182, oi v186, oi v190, oa b192, .unset, .unset, .unset] [(.int (2 : Int32))] _
      refine XS.iconst X199.here hx rfl (hb hby at_98) ?_
      show oS p e below T199 m 99 #[oi p0, oi p1, oi p2, oi p3, oi p4, oi (2 : Int32), oi v178, oi v182, oi v186, oi v190, oa b192, .unset, .unset, .unset] [(.int (2 : Int32)), (.int (2 : Int32))] _
      refine XS.icmpYes X199.here hx rfl (pc0 := 99) (pc' := 108) rfl (hb hby at_99) rfl (flt b202).2.2.2 (by decide) (by decide) ?_
      show oS p e below T199 m 108 #[oi p0, oi p1, oi p2, oi p3, oi p4, oi (2 : Int32), oi v178, oi v182, oi v186, oi v190, oa b192, .unset, .unset, .unset] [] _
      refine st203 _ ?_
      show oS p e below T203 m 111 #[oi p0, oi p1, oi p2, oi p3, oi p4, oi (2 : Int32), oi v178, oi v182, oi v186, oi v190, oa b192, .unset, .unset, .unset] [(.ref b203)] _
      refine XS.dup X203.here hx rfl (hb hby at_111) rfl rfl ?_
      show oS p e below T203 m 112 #[oi p0, oi p1, oi p2, oi p3, oi p4, oi (2 : Int32), oi v178, oi v182, oi v186, oi v190, oa b192, .unset, .unset, .unset] [(.ref b203), (.ref b203)] _
      refine XS.aload X203.here hx rfl (hb hby at_112) rfl rfl ?_
      exact k
    by_cases hbad : (((1 : Int32) &&& own_g v182) &&& own_g v186) = (0 : Int32)
    · skip
      obtain ⟨_, _, ⟨T211, L211, k211, n211⟩, -, X211, ⟨Lc211, hQ211, l211, y211, z211⟩, st211⟩ := X203.specialBack hx (y := (⟨"com/example/penstock/penstock/Design", "<init>", "([I)V"⟩ : MethodName)) rfl hown (mvT hZ (hw _ (List.mem_of_getElem? (i := 4) rfl))) (mvT hZ (hw _ (List.mem_of_getElem? (i := 5) rfl))) (mvT hZ (hw _ (List.mem_of_getElem? (i := 6) rfl))) (by decide) (backOf (W := 1) (own_rm1i2 l Z av hw [] b203 b192 k192 v182 v186 h203 n0 Z203 A203 F_207 F_208 F_209 g_b203 F205 F206 (ne204) (hbad)) hZ (hw _ (List.mem_of_getElem? (i := 6) rfl)) (hw _ (List.mem_of_getElem? (i := 3) rfl)) (by decide) (by decide)) (g := (mkF m 114 #[oi p0, oi p1, oi p2, oi p3, oi p4, oi (2 : Int32), oi v178, oi v182, oi v186, oi v190, oa b192, .unset, .unset, .unset] [(.ref b192), (.ref b203), (.ref b203)])) rfl (by rw [hml]; rfl) (Steps.refl _) (a := b203) (argsL := [(.ref b192)]) (rest := [(.ref b203)]) (lenOf own_pd3 rfl) rfl (by show 2 * 0 + _ ≤ _; exact Nat.le_of_eq rfl) (hb hby at_114) (fun _ _ => ⟨rfl, e203, (by decide : 2 + 1 ≤ _), (by decide : 5 + 2 ≤ _)⟩)
      dsimp only [Pt.U, Pt.locs, Pt.cells, Pt.slots] at X211 l211 y211 z211 st211 hQ211
      have yq211 : k211 = 3 := y211
      have zq211 : n211 = 7 := z211
      subst yq211 zq211
      obtain ⟨b_211, k_b_211, rfl, Nq211, Kq211, gq211_b, Oq211_0, Oq211_1, Oq211_2, Oq211_3, Oq211_4⟩ := hQ211
      have N211 : Fr n0 L211 := by rw [l211]; exact Fr.app N199 Nq211
      have Z211 : n0 ≤ T211.heap.size := Nat.le_trans Z203 Kq211.1
      have g_b_211 : n0 ≤ b_211 := Nat.le_trans Z203 gq211_b
      have ne212 : b192 ≠ b_211 := Nat.ne_of_lt (Nat.lt_of_lt_of_le F205.lt gq211_b)
      have ne213 : b203 ≠ b_211 := Nat.ne_of_lt (Nat.lt_of_lt_of_le A203.lt gq211_b)
      have F214 := F205.keep Kq211 (ninS ne204 nin0)
      have F215 := F206.keep Kq211
      have F216 := A203.keep Kq211
      obtain ⟨cq217, kq217, q217a, q217b, q217c⟩ := isOf hZ rfl Oq211_0
      obtain ⟨_, _, ⟨T217, L217, k217, n217⟩, -, X217, ⟨Lc217, hQ217, l217, y217, z217⟩, st217⟩ := X211.virtualBack hx (y := (⟨"com/example/penstock/penstock/Design", "sizeIndices", "()[I"⟩ : MethodName)) (z := (⟨"com/example/penstock/penstock/Design", "sizeIndices", "()[I"⟩ : MethodName)) hown (mvT hZ (hw _ (List.mem_of_getElem? (i := 21) rfl))) (mvT hZ (hw _ (List.mem_of_getElem? (i := 22) rfl))) (notFace_of_selects (args := #[]) (mvT hZ (hw _ (List.mem_of_getElem? (i := 24) rfl)))) (mvT hZ (hw _ (List.mem_of_getElem? (i := 24) rfl))) (mvT hZ (hw _ (List.mem_of_getElem? (i := 23) rfl))) (by decide) (backOf (W := 0) (own_rm4i2 l Z av hw [] b203 b_211 k_b_211 v182 v186 T211.heap n0 Z211 Oq211_2 Oq211_3 Oq211_4) hZ (hw _ (List.mem_of_getElem? (i := 25) rfl)) (hw _ (List.mem_of_getElem? (i := 3) rfl)) (by decide) (by decide)) q217a q217c (g := (mkF m 121 #[oi p0, oi p1, oi p2, oi p3, oi p4, oi (2 : Int32), oi v178, oi v182, oi v186, oi v190, oa b192, oa b203, .unset, .unset] [(.ref b203)])) rfl (by rw [hml]; rfl) (Steps.refl _) (argsL := []) (rest := []) (lenOf own_pd4 rfl) rfl (by show 2 * 0 + _ ≤ _; exact Nat.le_of_eq rfl) (hb hby at_121) (fun _ _ => ⟨rfl, rfl, (by decide : 3 + 1 ≤ _), (by decide : 7 + 2 ≤ _)⟩)
      dsimp only [Pt.U, Pt.locs, Pt.cells, Pt.slots] at X217 l217 y217 z217 st217 hQ217
      have yq217 : k217 = 4 := y217
      have zq217 : n217 = 9 := z217
      subst yq217 zq217
      obtain ⟨r_217, k_r_217, rfl, Nq217, Kq217, gq217_r, Oq217_0⟩ := hQ217
      have N217 : Fr n0 L217 := by rw [l217]; exact Fr.app N211 Nq217
      have Z217 : n0 ≤ T217.heap.size := Nat.le_trans Z211 Kq217.1
      have g_r_217 : n0 ≤ r_217 := Nat.le_trans Z211 gq217_r
      have ne218 : b192 ≠ r_217 := Nat.ne_of_lt (Nat.lt_of_lt_of_le F214.lt gq217_r)
      have ne219 : b203 ≠ r_217 := Nat.ne_of_lt (Nat.lt_of_lt_of_le Oq211_0.lt gq217_r)
      have ne220 : b_211 ≠ r_217 := Nat.ne_of_lt (Nat.lt_of_lt_of_le Oq211_3.lt gq217_r)
      have F221 := F214.keep Kq217 nin0
      have F222 := F215.keep Kq217
      have F223 := Oq211_0.keep Kq217
      have F224 := Oq211_1.keep Kq217 nin0
      have F225 := Oq211_2.keep Kq217 nin0
      have F226 := Oq211_3.keep Kq217
      have F227 := Oq211_4.keep Kq217 nin0
      have b228 : (2 : Int32) = (2 : Int32) := (by decide)
      have b229 : (0 : Int32) < (2 : Int32) := (by decide)
      have b230 : v182 = v182 := rfl
      have b231 : (1 : Int32) < (2 : Int32) := (by decide)
      have b232 : v186 = v186 := rfl
      have b233 : ¬ ((2 : Int32) < (2 : Int32)) := (by decide)
      have b234 : (0 : Int32) < (2 : Int32) := (by decide)
      obtain ⟨T235, h235, X235, e235, W235, V235, st235⟩ := oStI X217 hx hZ rfl Oq217_0 (j := (0 : Int32)) ⟨by decide, by decide⟩ 0 rfl (Nat.le_of_ble_eq_true rfl) (g := (mkF m 205 #[oi p0, oi p1, oi p2, oi p3, oi p4, oi (2 : Int32), oi v178, oi v182, oi v186, oi v190, oa b192, oa b203, oa r_217, .unset] [(.int (v182 ^^^ (1 : Int32))), (.int (0 : Int32)), (.ref r_217)])) rfl rfl (hb hby at_205)
      obtain ⟨Lo235, X235, N235⟩ := oOpq X235 (Fr.snoc X235 N217 g_r_217)
      have Z235 := Nat.le_trans Z217 (Keep.of_wr W235).1
      have F236 := F221.other W235 ne218
      have F237 := F222.wr W235
      have F238 := F223.wr W235
      have F239 := F224.other W235 (Or.inl ne219)
      have F240 := F225.other W235 (Or.inl ne219)
      have F241 := F226.wr W235
      have F242 := F227.other W235 ne220
      have V_243 : Arv Z h235 r_217 k_r_217 .int (2 : Int32) [(.int (v182 ^^^ (1 : Int32))), (.int v186)] (.int (0 : Int32)) := V235
      obtain ⟨cq244, kq244, q244a, q244b, q244c⟩ := isOf hZ e235 F238
      obtain ⟨_, _, ⟨T244, L244, k244, n244⟩, -, X244, ⟨Lc244, hQ244, l244, y244, z244⟩, st244⟩ := X235.virtualBack hx (y := (⟨"com/example/penstock/penstock/Design", "sizeIndices", "()[I"⟩ : MethodName)) (z := (⟨"com/example/penstock/penstock/Design", "sizeIndices", "()[I"⟩ : MethodName)) hown (mvT hZ (hw _ (List.mem_of_getElem? (i := 21) rfl))) (mvT hZ (hw _ (List.mem_of_getElem? (i := 22) rfl))) (notFace_of_selects (args := #[]) (mvT hZ (hw _ (List.mem_of_getElem? (i := 24) rfl)))) (mvT hZ (hw _ (List.mem_of_getElem? (i := 24) rfl))) (mvT hZ (hw _ (List.mem_of_getElem? (i := 23) rfl))) (by decide) (backOf (W := 0) (own_rm4i2 l Z av hw [] b203 b_211 k_b_211 v182 v186 h235 n0 Z235 F240 F241 F242) hZ (hw _ (List.mem_of_getElem? (i := 25) rfl)) (hw _ (List.mem_of_getElem? (i := 3) rfl)) (by decide) (by decide)) q244a q244c (g := (mkF m 208 #[oi p0, oi p1, oi p2, oi p3, oi p4, oi (2 : Int32), oi v178, oi v182, oi v186, oi v190, oa b192, oa b203, oa r_217, .unset] [(.ref b203)])) rfl (by rw [hml]; rfl) (Steps.refl _) (argsL := []) (rest := []) (lenOf own_pd4 rfl) rfl (by show 2 * 0 + _ ≤ _; exact Nat.le_of_eq rfl) (hb hby at_208) (fun _ _ => ⟨rfl, e235, (by decide : 4 + 1 ≤ _), (by decide : 9 + 2 ≤ _)⟩)
      dsimp only [Pt.U, Pt.locs, Pt.cells, Pt.slots] at X244 l244 y244 z244 st244 hQ244
      have yq244 : k244 = 5 := y244
      have zq244 : n244 = 11 := z244
      subst yq244 zq244
      obtain ⟨r_244, k_r_244, rfl, Nq244, Kq244, gq244_r, Oq244_0⟩ := hQ244
      have N244 : Fr n0 L244 := by rw [l244]; exact Fr.app N235 Nq244
      have Z244 : n0 ≤ T244.heap.size := Nat.le_trans Z235 Kq244.1
      have g_r_244 : n0 ≤ r_244 := Nat.le_trans Z235 gq244_r
      have ne245 : b192 ≠ r_244 := Nat.ne_of_lt (Nat.lt_of_lt_of_le F236.lt gq244_r)
      have ne246 : b203 ≠ r_244 := Nat.ne_of_lt (Nat.lt_of_lt_of_le F238.lt gq244_r)
      have ne247 : b_211 ≠ r_244 := Nat.ne_of_lt (Nat.lt_of_lt_of_le F241.lt gq244_r)
      have ne248 : r_217 ≠ r_244 := Nat.ne_of_lt (Nat.lt_of_lt_of_le V_243.lt gq244_r)
      have F249 := F236.keep Kq244 nin0
      have F250 := F237.keep Kq244
      have F251 := F238.keep Kq244
      have F252 := F239.keep Kq244 nin0
      have F253 := F240.keep Kq244 nin0
      have F254 := F241.keep Kq244
      have F255 := F242.keep Kq244 nin0
      have F256 := V_243.keep Kq244 nin0
      have b257 : (2 : Int32) = (2 : Int32) := (by decide)
      have b258 : v182 = v182 := rfl
      obtain ⟨fs, hr, hrun, hended, hW, hsame⟩ := X244.leave (v := (some (.int (1 : Int32)))) (fun h => by rw [Bd.returns] at h; cases h)
      refine ⟨_, _, pre210 _ ?_, hrun, hended, _, _, rfl, ?_, ⟨_, rfl⟩, hW, hsame.mono (by decide) (by decide)⟩
      · show oS p e below T203 m 114 #[oi p0, oi p1, oi p2, oi p3, oi p4, oi (2 : Int32), oi v178, oi v182, oi v186, oi v190, oa b192, .unset, .unset, .unset] [(.ref b192), (.ref b203), (.ref b203)] _
        refine st211.trans ?_
        show oS p e below T211 m 117 #[oi p0, oi p1, oi p2, oi p3, oi p4, oi (2 : Int32), oi v178, oi v182, oi v186, oi v190, oa b192, .unset, .unset, .unset] [(.ref b203)] _
        refine XS.astore X211.here hx rfl (hb hby at_117) rfl rfl (l' := #[oi p0, oi p1, oi p2, oi p3, oi p4, oi (2 : Int32), oi v178, oi v182, oi v186, oi v190, oa b192, oa b203, .unset, .unset]) rfl ?_
        show oS p e below T211 m 119 #[oi p0, oi p1, oi p2, oi p3, oi p4, oi (2 : Int32), oi v178, oi v182, oi v186, oi v190, oa b192, oa b203, .unset, .unset] [] _
        refine XS.aload X211.here hx rfl (hb hby at_119) rfl rfl ?_
        show oS p e below T211 m 121 #[oi p0, oi p1, oi p2, oi p3, oi p4, oi (2 : Int32), oi v178, oi v182, oi v186, oi v190, oa b192, oa b203, .unset, .unset] [(.ref b203)] _
        refine st217.trans ?_
        show oS p e below T217 m 124 #[oi p0, oi p1, oi p2, oi p3, oi p4, oi (2 : Int32), oi v178, oi v182, oi v186, oi v190, oa b192, oa b203, .unset, .unset] [(.ref r_217)] _
        refine XS.astore X217.here hx rfl (hb hby at_124) rfl rfl (l' := #[oi p0, oi p1, oi p2, oi p3, oi p4, oi (2 : Int32), oi v178, oi v182, oi v186, oi v190, oa b192, oa b203, oa r_217, .unset]) rfl ?_
        show oS p e below T217 m 126 #[oi p0, oi p1, oi p2, oi p3, oi p4, oi (2 : Int32), oi v178, oi v182, oi v186, oi v190, oa b192, oa b203, oa r_217, .unset] [] _
        refine XS.aload X217.here hx rfl (hb hby at_126) rfl rfl ?_
        show oS p e below T217 m 128 #[oi p0, oi p1, oi p2, oi p3, oi p4, oi (2 : Int32), oi v178, oi v182, oi v186, oi v190, oa b192, oa b203, oa r_217, .unset] [(.ref r_217)] _
        refine XS.ifnullNo X217.here hx rfl (hb hby at_128) rfl ?_
        show oS p e below T217 m 131 #[oi p0, oi p1, oi p2, oi p3, oi p4, oi (2 : Int32), oi v178, oi v182, oi v186, oi v190, oa b192, oa b203, oa r_217, .unset] [] _
        refine XS.aload X217.here hx rfl (hb hby at_131) rfl rfl ?_
        show oS p e below T217 m 133 #[oi p0, oi p1, oi p2, oi p3, oi p4, oi (2 : Int32), oi v178, oi v182, oi v186, oi v190, oa b192, oa b203, oa r_217, .unset] [(.ref r_217)] _
        refine oLen X217 hx hZ rfl Oq217_0 (hb hby at_133) ?_
        show oS p e below T217 m 134 #[oi p0, oi p1, oi p2, oi p3, oi p4, oi (2 : Int32), oi v178, oi v182, oi v186, oi v190, oa b192, oa b203, oa r_217, .unset] [(.int (2 : Int32))] _
        refine XS.iload X217.here hx rfl (hb hby at_134) rfl ?_
        show oS p e below T217 m 136 #[oi p0, oi p1, oi p2, oi p3, oi p4, oi (2 : Int32), oi v178, oi v182, oi v186, oi v190, oa b192, oa b203, oa r_217, .unset] [(.int (2 : Int32)), (.int (2 : Int32))] _
        refine XS.icmpYes X217.here hx rfl (pc0 := 136) (pc' := 141) rfl (hb hby at_136) rfl (teq b228).1 (by decide) (by decide) ?_
        show oS p e below T217 m 141 #[oi p0, oi p1, oi p2, oi p3, oi p4, oi (2 : Int32), oi v178, oi v182, oi v186, oi v190, oa b192, oa b203, oa r_217, .unset] [] _
        refine XS.iload X217.here hx rfl (hb hby at_141) rfl ?_
        show oS p e below T217 m 143 #[oi p0, oi p1, oi p2, oi p3, oi p4, oi (2 : Int32), oi v178, oi v182, oi v186, oi v190, oa b192, oa b203, oa r_217, .unset] [(.int (2 : Int32))] _
        refine XS.ifNo X217.here hx rfl (hb hby at_143) rfl ((if0 _ _).trans (tlt b229).2.2.2) ?_
        show oS p e below T217 m 146 #[oi p0, oi p1, oi p2, oi p3, oi p4, oi (2 : Int32), oi v178, oi v182, oi v186, oi v190, oa b192, oa b203, oa r_217, .unset] [] _
        refine XS.aload X217.here hx rfl (hb hby at_146) rfl rfl ?_
        show oS p e below T217 m 148 #[oi p0, oi p1, oi p2, oi p3, oi p4, oi (2 : Int32), oi v178, oi v182, oi v186, oi v190, oa b192, oa b203, oa r_217, .unset] [(.ref r_217)] _
        refine XS.iconst X217.here hx rfl (hb hby at_148) ?_
        show oS p e below T217 m 149 #[oi p0, oi p1, oi p2, oi p3, oi p4, oi (2 : Int32), oi v178, oi v182, oi v186, oi v190, oa b192, oa b203, oa r_217, .unset] [(.int (0 : Int32)), (.ref r_217)] _
        refine oLdI X217 hx hZ rfl Oq217_0 (v := (.int v182)) ⟨by decide, by decide⟩ rfl (hb hby at_149) ?_
        show oS p e below T217 m 150 #[oi p0, oi p1, oi p2, oi p3, oi p4, oi (2 : Int32), oi v178, oi v182, oi v186, oi v190, oa b192, oa b203, oa r_217, .unset] [(.int v182)] _
        refine XS.iload X217.here hx rfl (hb hby at_150) rfl ?_
        show oS p e below T217 m 152 #[oi p0, oi p1, oi p2, oi p3, oi p4, oi (2 : Int32), oi v178, oi v182, oi v186, oi v190, oa b192, oa b203, oa r_217, .unset] [(.int v182), (.int v182)] _
        refine XS.icmpYes X217.here hx rfl (pc0 := 152) (pc' := 157) rfl (hb hby at_152) rfl (teq b230).1 (by decide) (by decide) ?_
        show oS p e below T217 m 157 #[oi p0, oi p1, oi p2, oi p3, oi p4, oi (2 : Int32), oi v178, oi v182, oi v186, oi v190, oa b192, oa b203, oa r_217, .unset] [] _
        refine XS.iload X217.here hx rfl (hb hby at_157) rfl ?_
        show oS p e below T217 m 159 #[oi p0, oi p1, oi p2, oi p3, oi p4, oi (2 : Int32), oi v178, oi v182, oi v186, oi v190, oa b192, oa b203, oa r_217, .unset] [(.int (2 : Int32))] _
        refine XS.iconst X217.here hx rfl (hb hby at_159) ?_
        show oS p e below T217 m 160 #[oi p0, oi p1, oi p2, oi p3, oi p4, oi (2 : Int32), oi v178, oi v182, oi v186, oi v190, oa b192, oa b203, oa r_217, .unset] [(.int (1 : Int32)), (.int (2 : Int32))] _
        refine XS.icmpNo X217.here hx rfl (hb hby at_160) rfl (tlt b231).2.2.2 ?_
        show oS p e below T217 m 163 #[oi p0, oi p1, oi p2, oi p3, oi p4, oi (2 : Int32), oi v178, oi v182, oi v186, oi v190, oa b192, oa b203, oa r_217, .unset] [] _
        refine XS.aload X217.here hx rfl (hb hby at_163) rfl rfl ?_
        show oS p e below T217 m 165 #[oi p0, oi p1, oi p2, oi p3, oi p4, oi (2 : Int32), oi v178, oi v182, oi v186, oi v190, oa b192, oa b203, oa r_217, .unset] [(.ref r_217)] _
        refine XS.iconst X217.here hx rfl (hb hby at_165) ?_
        show oS p e below T217 m 166 #[oi p0, oi p1, oi p2, oi p3, oi p4, oi (2 : Int32), oi v178, oi v182, oi v186, oi v190, oa b192, oa b203, oa r_217, .unset] [(.int (1 : Int32)), (.ref r_217)] _
        refine oLdI X217 hx hZ rfl Oq217_0 (v := (.int v186)) ⟨by decide, by decide⟩ rfl (hb hby at_166) ?_
        show oS p e below T217 m 167 #[oi p0, oi p1, oi p2, oi p3, oi p4, oi (2 : Int32), oi v178, oi v182, oi v186, oi v190, oa b192, oa b203, oa r_217, .unset] [(.int v186)] _
        refine XS.iload X217.here hx rfl (hb hby at_167) rfl ?_
        show oS p e below T217 m 169 #[oi p0, oi p1, oi p2, oi p3, oi p4, oi (2 : Int32), oi v178, oi v182, oi v186, oi v190, oa b192, oa b203, oa r_217, .unset] [(.int v186), (.int v186)] _
        refine XS.icmpYes X217.here hx rfl (pc0 := 169) (pc' := 174) rfl (hb hby at_169) rfl (teq b232).1 (by decide) (by decide) ?_
        show oS p e below T217 m 174 #[oi p0, oi p1, oi p2, oi p3, oi p4, oi (2 : Int32), oi v178, oi v182, oi v186, oi v190, oa b192, oa b203, oa r_217, .unset] [] _
        refine XS.iload X217.here hx rfl (hb hby at_174) rfl ?_
        show oS p e below T217 m 176 #[oi p0, oi p1, oi p2, oi p3, oi p4, oi (2 : Int32), oi v178, oi v182, oi v186, oi v190, oa b192, oa b203, oa r_217, .unset] [(.int (2 : Int32))] _
        refine XS.iconst X217.here hx rfl (hb hby at_176) ?_
        show oS p e below T217 m 177 #[oi p0, oi p1, oi p2, oi p3, oi p4, oi (2 : Int32), oi v178, oi v182, oi v186, oi v190, oa b192, oa b203, oa r_217, .unset] [(.int (2 : Int32)), (.int (2 : Int32))] _
        refine XS.icmpYes X217.here hx rfl (pc0 := 177) (pc' := 191) rfl (hb hby at_177) rfl (flt b233).2.2.2 (by decide) (by decide) ?_
        show oS p e below T217 m 191 #[oi p0, oi p1, oi p2, oi p3, oi p4, oi (2 : Int32), oi v178, oi v182, oi v186, oi v190, oa b192, oa b203, oa r_217, .unset] [] _
        refine XS.iload X217.here hx rfl (hb hby at_191) rfl ?_
        show oS p e below T217 m 193 #[oi p0, oi p1, oi p2, oi p3, oi p4, oi (2 : Int32), oi v178, oi v182, oi v186, oi v190, oa b192, oa b203, oa r_217, .unset] [(.int (2 : Int32))] _
        refine XS.ifNo X217.here hx rfl (hb hby at_193) rfl ((if0 _ _).trans (tlt b234).2.2.2) ?_
        show oS p e below T217 m 196 #[oi p0, oi p1, oi p2, oi p3, oi p4, oi (2 : Int32), oi v178, oi v182, oi v186, oi v190, oa b192, oa b203, oa r_217, .unset] [] _
        refine XS.aload X217.here hx rfl (hb hby at_196) rfl rfl ?_
        show oS p e below T217 m 198 #[oi p0, oi p1, oi p2, oi p3, oi p4, oi (2 : Int32), oi v178, oi v182, oi v186, oi v190, oa b192, oa b203, oa r_217, .unset] [(.ref r_217)] _
        refine XS.iconst X217.here hx rfl (hb hby at_198) ?_
        show oS p e below T217 m 199 #[oi p0, oi p1, oi p2, oi p3, oi p4, oi (2 : Int32), oi v178, oi v182, oi v186, oi v190, oa b192, oa b203, oa r_217, .unset] [(.int (0 : Int32)), (.ref r_217)] _
        refine XS.aload X217.here hx rfl (hb hby at_199) rfl rfl ?_
        show oS p e below T217 m 201 #[oi p0, oi p1, oi p2, oi p3, oi p4, oi (2 : Int32), oi v178, oi v182, oi v186, oi v190, oa b192, oa b203, oa r_217, .unset] [(.ref r_217), (.int (0 : Int32)), (.ref r_217)] _
        refine XS.iconst X217.here hx rfl (hb hby at_201) ?_
        show oS p e below T217 m 202 #[oi p0, oi p1, oi p2, oi p3, oi p4, oi (2 : Int32), oi v178, oi v182, oi v186, oi v190, oa b192, oa b203, oa r_217, .unset] [(.int (0 : Int32)), (.ref r_217), (.int (0 : Int32)), (.ref r_217)] _
        refine oLdI X217 hx hZ rfl Oq217_0 (v := (.int v182)) ⟨by decide, by decide⟩ rfl (hb hby at_202) ?_
        show oS p e below T217 m 203 #[oi p0, oi p1, oi p2, oi p3, oi p4, oi (2 : Int32), oi v178, oi v182, oi v186, oi v190, oa b192, oa b203, oa r_217, .unset] [(.int v182), (.int (0 : Int32)), (.ref r_217)] _
        refine XS.iconst X217.here hx rfl (hb hby at_203) ?_
        show oS p e below T217 m 204 #[oi p0, oi p1, oi p2, oi p3, oi p4, oi (2 : Int32), oi v178, oi v182, oi v186, oi v190, oa b192, oa b203, oa r_217, .unset] [(.int (1 : Int32)), (.int v182), (.int (0 : Int32)), (.ref r_217)] _
        refine XS.ixor X217.here hx rfl (hb hby at_204) rfl ?_
        show oS p e below T217 m 205 #[oi p0, oi p1, oi p2, oi p3, oi p4, oi (2 : Int32), oi v178, oi v182, oi v186, oi v190, oa b192, oa b203, oa r_217, .unset] [(.int (v182 ^^^ (1 : Int32))), (.int (0 : Int32)), (.ref r_217)] _
        refine st235 _ ?_
        show oS p e below T235 m 206 #[oi p0, oi p1, oi p2, oi p3, oi p4, oi (2 : Int32), oi v178, oi v182, oi v186, oi v190, oa b192, oa b203, oa r_217, .unset] [] _
        refine XS.aload X235.here hx rfl (hb hby at_206) rfl rfl ?_
        show oS p e below T235 m 208 #[oi p0, oi p1, oi p2, oi p3, oi p4, oi (2 : Int32), oi v178, oi v182, oi v186, oi v190, oa b192, oa b203, oa r_217, .unset] [(.ref b203)] _
        refine st244.trans ?_
        show oS p e below T244 m 211 #[oi p0, oi p1, oi p2, oi p3, oi p4, oi (2 : Int32), oi v178, oi v182, oi v186, oi v190, oa b192, oa b203, oa r_217, .unset] [(.ref r_244)] _
        refine XS.astore X244.here hx rfl (hb hby at_211) rfl rfl (l' := #[oi p0, oi p1, oi p2, oi p3, oi p4, oi (2 : Int32), oi v178, oi v182, oi v186, oi v190, oa b192, oa b203, oa r_217, oa r_244]) rfl ?_
        show oS p e below T244 m 213 #[oi p0, oi p1, oi p2, oi p3, oi p4, oi (2 : Int32), oi v178, oi v182, oi v186, oi v190, oa b192, oa b203, oa r_217, oa r_244] [] _
        refine XS.aload X244.here hx rfl (hb hby at_213) rfl rfl ?_
        show oS p e below T244 m 215 #[oi p0, oi p1, oi p2, oi p3, oi p4, oi (2 : Int32), oi v178, oi v182, oi v186, oi v190, oa b192, oa b203, oa r_217, oa r_244] [(.ref r_244)] _
        refine XS.ifnullNo X244.here hx rfl (hb hby at_215) rfl ?_
        show oS p e below T244 m 218 #[oi p0, oi p1, oi p2, oi p3, oi p4, oi (2 : Int32), oi v178, oi v182, oi v186, oi v190, oa b192, oa b203, oa r_217, oa r_244] [] _
        refine XS.aload X244.here hx rfl (hb hby at_218) rfl rfl ?_
        show oS p e below T244 m 220 #[oi p0, oi p1, oi p2, oi p3, oi p4, oi (2 : Int32), oi v178, oi v182, oi v186, oi v190, oa b192, oa b203, oa r_217, oa r_244] [(.ref r_244)] _
        refine XS.aload X244.here hx rfl (hb hby at_220) rfl rfl ?_
        show oS p e below T244 m 222 #[oi p0, oi p1, oi p2, oi p3, oi p4, oi (2 : Int32), oi v178, oi v182, oi v186, oi v190, oa b192, oa b203, oa r_217, oa r_244] [(.ref r_217), (.ref r_244)] _
        refine Jvm.RoadKit.acmp (g := (mkF m 222 #[oi p0, oi p1, oi p2, oi p3, oi p4, oi (2 : Int32), oi v178, oi v182, oi v186, oi v190, oa b192, oa b203, oa r_217, oa r_244] [(.ref r_217), (.ref r_244)])) X244 hx rfl rfl rfl (pc0 := 222) (pc' := 225) (same := false) rfl (hb hby at_222) rfl (decide_eq_false fun q => (Ne.symm ne248) (Value.ref.inj q)) (by decide) (by decide) ?_
        show oS p e below T244 m 225 #[oi p0, oi p1, oi p2, oi p3, oi p4, oi (2 : Int32), oi v178, oi v182, oi v186, oi v190, oa b192, oa b203, oa r_217, oa r_244] [] _
        refine XS.aload X244.here hx rfl (hb hby at_225) rfl rfl ?_
        show oS p e below T244 m 227 #[oi p0, oi p1, oi p2, oi p3, oi p4, oi (2 : Int32), oi v178, oi v182, oi v186, oi v190, oa b192, oa b203, oa r_217, oa r_244] [(.ref r_244)] _
        refine oLen X244 hx hZ rfl Oq244_0 (hb hby at_227) ?_
        show oS p e below T244 m 228 #[oi p0, oi p1, oi p2, oi p3, oi p4, oi (2 : Int32), oi v178, oi v182, oi v186, oi v190, oa b192, oa b203, oa r_217, oa r_244] [(.int (2 : Int32))] _
        refine XS.iload X244.here hx rfl (hb hby at_228) rfl ?_
        show oS p e below T244 m 230 #[oi p0, oi p1, oi p2, oi p3, oi p4, oi (2 : Int32), oi v178, oi v182, oi v186, oi v190, oa b192, oa b203, oa r_217, oa r_244] [(.int (2 : Int32)), (.int (2 : Int32))] _
        refine XS.icmpNo X244.here hx rfl (hb hby at_230) rfl (teq b257).2 ?_
        show oS p e below T244 m 233 #[oi p0, oi p1, oi p2, oi p3, oi p4, oi (2 : Int32), oi v178, oi v182, oi v186, oi v190, oa b192, oa b203, oa r_217, oa r_244] [] _
        refine XS.aload X244.here hx rfl (hb hby at_233) rfl rfl ?_
        show oS p e below T244 m 235 #[oi p0, oi p1, oi p2, oi p3, oi p4, oi (2 : Int32), oi v178, oi v182, oi v186, oi v190, oa b192, oa b203, oa r_217, oa r_244] [(.ref r_244)] _
        refine XS.iconst X244.here hx rfl (hb hby at_235) ?_
        show oS p e below T244 m 236 #[oi p0, oi p1, oi p2, oi p3, oi p4, oi (2 : Int32), oi v178, oi v182, oi v186, oi v190, oa b192, oa b203, oa r_217, oa r_244] [(.int (0 : Int32)), (.ref r_244)] _
        refine oLdI X244 hx hZ rfl Oq244_0 (v := (.int v182)) ⟨by decide, by decide⟩ rfl (hb hby at_236) ?_
        show oS p e below T244 m 237 #[oi p0, oi p1, oi p2, oi p3, oi p4, oi (2 : Int32), oi v178, oi v182, oi v186, oi v190, oa b192, oa b203, oa r_217, oa r_244] [(.int v182)] _
        refine XS.iload X244.here hx rfl (hb hby at_237) rfl ?_
        show oS p e below T244 m 239 #[oi p0, oi p1, oi p2, oi p3, oi p4, oi (2 : Int32), oi v178, oi v182, oi v186, oi v190, oa b192, oa b203, oa r_217, oa r_244] [(.int v182), (.int v182)] _
        refine XS.icmpYes X244.here hx rfl (pc0 := 239) (pc' := 244) rfl (hb hby at_239) rfl (teq b258).1 (by decide) (by decide) ?_
        show oS p e below T244 m 244 #[oi p0, oi p1, oi p2, oi p3, oi p4, oi (2 : Int32), oi v178, oi v182, oi v186, oi v190, oa b192, oa b203, oa r_217, oa r_244] [] _
        refine XS.iconst X244.here hx rfl (hb hby at_244) ?_
        show oS p e below T244 m 245 #[oi p0, oi p1, oi p2, oi p3, oi p4, oi (2 : Int32), oi v178, oi v182, oi v186, oi v190, oa b192, oa b203, oa r_217, oa r_244] [(.int (1 : Int32))] _
        exact retN X244 hx (t := .boolean) Bd.returns (by simp) (hb hby at_245) hr
      · show own_Q0 Z p0 p1 p2 p3 p4 h0 n0 _ T244.heap _
        exact ⟨rfl, N244⟩
    · skip
      obtain ⟨r0, r1⟩ := own_all2 hbad
      obtain ⟨_, _, ⟨T259, L259, k259, n259⟩, -, X259, ⟨Lc259, hQ259, l259, y259, z259⟩, st259⟩ := X203.specialBack hx (y := (⟨"com/example/penstock/penstock/Design", "<init>", "([I)V"⟩ : MethodName)) rfl hown (mvT hZ (hw _ (List.mem_of_getElem? (i := 4) rfl))) (mvT hZ (hw _ (List.mem_of_getElem? (i := 5) rfl))) (mvT hZ (hw _ (List.mem_of_getElem? (i := 6) rfl))) (by decide) (backOf (W := 1) (own_rm1b2 l Z av hw [] b203 b192 k192 v182 v186 h203 n0 Z203 A203 F_207 F_208 F_209 g_b203 F205 F206 (ne204) (r0.1) (r1.1) (r0.2) (r1.2)) hZ (hw _ (List.mem_of_getElem? (i := 6) rfl)) (hw _ (List.mem_of_getElem? (i := 3) rfl)) (by decide) (by decide)) (g := (mkF m 114 #[oi p0, oi p1, oi p2, oi p3, oi p4, oi (2 : Int32), oi v178, oi v182, oi v186, oi v190, oa b192, .unset, .unset, .unset] [(.ref b192), (.ref b203), (.ref b203)])) rfl (by rw [hml]; rfl) (Steps.refl _) (a := b203) (argsL := [(.ref b192)]) (rest := [(.ref b203)]) (lenOf own_pd3 rfl) rfl (by show 2 * 0 + _ ≤ _; exact Nat.le_of_eq rfl) (hb hby at_114) (fun _ _ => ⟨rfl, e203, (by decide : 2 + 1 ≤ _), (by decide : 5 + 2 ≤ _)⟩)
      dsimp only [Pt.U, Pt.locs, Pt.cells, Pt.slots] at X259 l259 y259 z259 st259 hQ259
      have yq259 : k259 = 3 := y259
      have zq259 : n259 = 7 := z259
      subst yq259 zq259
      obtain ⟨b_259, k_b_259, rfl, Nq259, Kq259, gq259_b, Oq259_0, Oq259_1, Oq259_2, Oq259_3⟩ := hQ259
      have N259 : Fr n0 L259 := by rw [l259]; exact Fr.app N199 Nq259
      have Z259 : n0 ≤ T259.heap.size := Nat.le_trans Z203 Kq259.1
      have g_b_259 : n0 ≤ b_259 := Nat.le_trans Z203 gq259_b
      have ne260 : b192 ≠ b_259 := Nat.ne_of_lt (Nat.lt_of_lt_of_le F205.lt gq259_b)
      have ne261 : b203 ≠ b_259 := Nat.ne_of_lt (Nat.lt_of_lt_of_le A203.lt gq259_b)
      have F262 := F205.keep Kq259 (ninS ne204 nin0)
      have F263 := F206.keep Kq259
      have F264 := A203.keep Kq259
      obtain ⟨cq265, kq265, q265a, q265b, q265c⟩ := isOf hZ rfl Oq259_0
      obtain ⟨_, _, ⟨T265, L265, k265, n265⟩, -, X265, ⟨Lc265, hQ265, l265, y265, z265⟩, st265⟩ := X259.virtualBack hx (y := (⟨"com/example/penstock/penstock/Design", "sizeIndices", "()[I"⟩ : MethodName)) (z := (⟨"com/example/penstock/penstock/Design", "sizeIndices", "()[I"⟩ : MethodName)) hown (mvT hZ (hw _ (List.mem_of_getElem? (i := 21) rfl))) (mvT hZ (hw _ (List.mem_of_getElem? (i := 22) rfl))) (notFace_of_selects (args := #[]) (mvT hZ (hw _ (List.mem_of_getElem? (i := 24) rfl)))) (mvT hZ (hw _ (List.mem_of_getElem? (i := 24) rfl))) (mvT hZ (hw _ (List.mem_of_getElem? (i := 23) rfl))) (by decide) (backOf (W := 0) (own_rm4b2 l Z av hw [] b203 b_259 k_b_259 (v182.toInt8.toInt32) (v186.toInt8.toInt32) T259.heap n0 Z259 Oq259_2 Oq259_1 Oq259_3) hZ (hw _ (List.mem_of_getElem? (i := 25) rfl)) (hw _ (List.mem_of_getElem? (i := 3) rfl)) (by decide) (by decide)) q265a q265c (g := (mkF m 121 #[oi p0, oi p1, oi p2, oi p3, oi p4, oi (2 : Int32), oi v178, oi v182, oi v186, oi v190, oa b192, oa b203, .unset, .unset] [(.ref b203)])) rfl (by rw [hml]; rfl) (Steps.refl _) (argsL := []) (rest := []) (lenOf own_pd4 rfl) rfl (by show 2 * 0 + _ ≤ _; exact Nat.le_of_eq rfl) (hb hby at_121) (fun _ _ => ⟨rfl, rfl, (by decide : 3 + 1 ≤ _), (by decide : 7 + 2 ≤ _)⟩)
      dsimp only [Pt.U, Pt.locs, Pt.cells, Pt.slots] at X265 l265 y265 z265 st265 hQ265
      have yq265 : k265 = 4 := y265
      have zq265 : n265 = 9 := z265
      subst yq265 zq265
      obtain ⟨r_265, k_r_265, rfl, Nq265, Kq265, gq265_r, Oq265_0⟩ := hQ265
      have N265 : Fr n0 L265 := by rw [l265]; exact Fr.app N259 Nq265
      have Z265 : n0 ≤ T265.heap.size := Nat.le_trans Z259 Kq265.1
      have g_r_265 : n0 ≤ r_265 := Nat.le_trans Z259 gq265_r
      have ne266 : b192 ≠ r_265 := Nat.ne_of_lt (Nat.lt_of_lt_of_le F262.lt gq265_r)
      have ne267 : b203 ≠ r_265 := Nat.ne_of_lt (Nat.lt_of_lt_of_le Oq259_0.lt gq265_r)
      have ne268 : b_259 ≠ r_265 := Nat.ne_of_lt (Nat.lt_of_lt_of_le Oq259_3.lt gq265_r)
      have F269 := F262.keep Kq265 nin0
      have F270 := F263.keep Kq265
      have F271 := Oq259_0.keep Kq265
      have F272 := Oq259_1.keep Kq265 nin0
      have F273 := Oq259_2.keep Kq265 nin0
      have F274 := Oq259_3.keep Kq265 nin0
      have b275 : (2 : Int32) = (2 : Int32) := (by decide)
      have b276 : (0 : Int32) < (2 : Int32) := (by decide)
      have b277 : ((v182.toInt8.toInt32) &&& (255 : Int32)) = v182 := own_bb r0
      have b278 : (1 : Int32) < (2 : Int32) := (by decide)
      have b279 : ((v186.toInt8.toInt32) &&& (255 : Int32)) = v186 := own_bb r1
      have b280 : ¬ ((2 : Int32) < (2 : Int32)) := (by decide)
      have b281 : (0 : Int32) < (2 : Int32) := (by decide)
      obtain ⟨T282, h282, X282, e282, W282, V282, st282⟩ := oStI X265 hx hZ rfl Oq265_0 (j := (0 : Int32)) ⟨by decide, by decide⟩ 0 rfl (Nat.le_of_ble_eq_true rfl) (g := (mkF m 205 #[oi p0, oi p1, oi p2, oi p3, oi p4, oi (2 : Int32), oi v178, oi v182, oi v186, oi v190, oa b192, oa b203, oa r_265, .unset] [(.int (((v182.toInt8.toInt32) &&& (255 : Int32)) ^^^ (1 : Int32))), (.int (0 : Int32)), (.ref r_265)])) rfl rfl (hb hby at_205)
      obtain ⟨Lo282, X282, N282⟩ := oOpq X282 (Fr.snoc X282 N265 g_r_265)
      have Z282 := Nat.le_trans Z265 (Keep.of_wr W282).1
      have F283 := F269.other W282 ne266
      have F284 := F270.wr W282
      have F285 := F271.wr W282
      have F286 := F272.other W282 (Or.inl ne267)
      have F287 := F273.other W282 (Or.inl ne267)
      have F288 := F274.other W282 ne268
      have V_289 : Arv Z h282 r_265 k_r_265 .int (2 : Int32) [(.int (((v182.toInt8.toInt32) &&& (255 : Int32)) ^^^ (1 : Int32))), (.int ((v186.toInt8.toInt32) &&& (255 : Int32)))] (.int (0 : Int32)) := V282
      obtain ⟨cq290, kq290, q290a, q290b, q290c⟩ := isOf hZ e282 F285
      obtain ⟨_, _, ⟨T290, L290, k290, n290⟩, -, X290, ⟨Lc290, hQ290, l290, y290, z290⟩, st290⟩ := X282.virtualBack hx (y := (⟨"com/example/penstock/penstock/Design", "sizeIndices", "()[I"⟩ : MethodName)) (z := (⟨"com/example/penstock/penstock/Design", "sizeIndices", "()[I"⟩ : MethodName)) hown (mvT hZ (hw _ (List.mem_of_getElem? (i := 21) rfl))) (mvT hZ (hw _ (List.mem_of_getElem? (i := 22) rfl))) (notFace_of_selects (args := #[]) (mvT hZ (hw _ (List.mem_of_getElem? (i := 24) rfl)))) (mvT hZ (hw _ (List.mem_of_getElem? (i := 24) rfl))) (mvT hZ (hw _ (List.mem_of_getElem? (i := 23) rfl))) (by decide) (backOf (W := 0) (own_rm4b2 l Z av hw [] b203 b_259 k_b_259 (v182.toInt8.toInt32) (v186.toInt8.toInt32) h282 n0 Z282 F287 F286 F288) hZ (hw _ (List.mem_of_getElem? (i := 25) rfl)) (hw _ (List.mem_of_getElem? (i := 3) rfl)) (by decide) (by decide)) q290a q290c (g := (mkF m 208 #[oi p0, oi p1, oi p2, oi p3, oi p4, oi (2 : Int32), oi v178, oi v182, oi v186, oi v190, oa b192, oa b203, oa r_265, .unset] [(.ref b203)])) rfl (by rw [hml]; rfl) (Steps.refl _) (argsL := []) (rest := []) (lenOf own_pd4 rfl) rfl (by show 2 * 0 + _ ≤ _; exact Nat.le_of_eq rfl) (hb hby at_208) (fun _ _ => ⟨rfl, e282, (by decide : 4 + 1 ≤ _), (by decide : 9 + 2 ≤ _)⟩)
      dsimp only [Pt.U, Pt.locs, Pt.cells, Pt.slots] at X290 l290 y290 z290 st290 hQ290
      have yq290 : k290 = 5 := y290
      have zq290 : n290 = 11 := z290
      subst yq290 zq290
      obtain ⟨r_290, k_r_290, rfl, Nq290, Kq290, gq290_r, Oq290_0⟩ := hQ290
      have N290 : Fr n0 L290 := by rw [l290]; exact Fr.app N282 Nq290
      have Z290 : n0 ≤ T290.heap.size := Nat.le_trans Z282 Kq290.1
      have g_r_290 : n0 ≤ r_290 := Nat.le_trans Z282 gq290_r
      have ne291 : b192 ≠ r_290 := Nat.ne_of_lt (Nat.lt_of_lt_of_le F283.lt gq290_r)
      have ne292 : b203 ≠ r_290 := Nat.ne_of_lt (Nat.lt_of_lt_of_le F285.lt gq290_r)
      have ne293 : b_259 ≠ r_290 := Nat.ne_of_lt (Nat.lt_of_lt_of_le F288.lt gq290_r)
      have ne294 : r_265 ≠ r_290 := Nat.ne_of_lt (Nat.lt_of_lt_of_le V_289.lt gq290_r)
      have F295 := F283.keep Kq290 nin0
      have F296 := F284.keep Kq290
      have F297 := F285.keep Kq290
      have F298 := F286.keep Kq290 nin0
      have F299 := F287.keep Kq290 nin0
      have F300 := F288.keep Kq290 nin0
      have F301 := V_289.keep Kq290 nin0
      have b302 : (2 : Int32) = (2 : Int32) := (by decide)
      have b303 : ((v182.toInt8.toInt32) &&& (255 : Int32)) = v182 := own_bb r0
      obtain ⟨fs, hr, hrun, hended, hW, hsame⟩ := X290.leave (v := (some (.int (1 : Int32)))) (fun h => by rw [Bd.returns] at h; cases h)
      refine ⟨_, _, pre210 _ ?_, hrun, hended, _, _, rfl, ?_, ⟨_, rfl⟩, hW, hsame.mono (by decide) (by decide)⟩
      · show oS p e below T203 m 114 #[oi p0, oi p1, oi p2, oi p3, oi p4, oi (2 : Int32), oi v178, oi v182, oi v186, oi v190, oa b192, .unset, .unset, .unset] [(.ref b192), (.ref b203), (.ref b203)] _
        refine st259.trans ?_
        show oS p e below T259 m 117 #[oi p0, oi p1, oi p2, oi p3, oi p4, oi (2 : Int32), oi v178, oi v182, oi v186, oi v190, oa b192, .unset, .unset, .unset] [(.ref b203)] _
        refine XS.astore X259.here hx rfl (hb hby at_117) rfl rfl (l' := #[oi p0, oi p1, oi p2, oi p3, oi p4, oi (2 : Int32), oi v178, oi v182, oi v186, oi v190, oa b192, oa b203, .unset, .unset]) rfl ?_
        show oS p e below T259 m 119 #[oi p0, oi p1, oi p2, oi p3, oi p4, oi (2 : Int32), oi v178, oi v182, oi v186, oi v190, oa b192, oa b203, .unset, .unset] [] _
        refine XS.aload X259.here hx rfl (hb hby at_119) rfl rfl ?_
        show oS p e below T259 m 121 #[oi p0, oi p1, oi p2, oi p3, oi p4, oi (2 : Int32), oi v178, oi v182, oi v186, oi v190, oa b192, oa b203, .unset, .unset] [(.ref b203)] _
        refine st265.trans ?_
        show oS p e below T265 m 124 #[oi p0, oi p1, oi p2, oi p3, oi p4, oi (2 : Int32), oi v178, oi v182, oi v186, oi v190, oa b192, oa b203, .unset, .unset] [(.ref r_265)] _
        refine XS.astore X265.here hx rfl (hb hby at_124) rfl rfl (l' := #[oi p0, oi p1, oi p2, oi p3, oi p4, oi (2 : Int32), oi v178, oi v182, oi v186, oi v190, oa b192, oa b203, oa r_265, .unset]) rfl ?_
        show oS p e below T265 m 126 #[oi p0, oi p1, oi p2, oi p3, oi p4, oi (2 : Int32), oi v178, oi v182, oi v186, oi v190, oa b192, oa b203, oa r_265, .unset] [] _
        refine XS.aload X265.here hx rfl (hb hby at_126) rfl rfl ?_
        show oS p e below T265 m 128 #[oi p0, oi p1, oi p2, oi p3, oi p4, oi (2 : Int32), oi v178, oi v182, oi v186, oi v190, oa b192, oa b203, oa r_265, .unset] [(.ref r_265)] _
        refine XS.ifnullNo X265.here hx rfl (hb hby at_128) rfl ?_
        show oS p e below T265 m 131 #[oi p0, oi p1, oi p2, oi p3, oi p4, oi (2 : Int32), oi v178, oi v182, oi v186, oi v190, oa b192, oa b203, oa r_265, .unset] [] _
        refine XS.aload X265.here hx rfl (hb hby at_131) rfl rfl ?_
        show oS p e below T265 m 133 #[oi p0, oi p1, oi p2, oi p3, oi p4, oi (2 : Int32), oi v178, oi v182, oi v186, oi v190, oa b192, oa b203, oa r_265, .unset] [(.ref r_265)] _
        refine oLen X265 hx hZ rfl Oq265_0 (hb hby at_133) ?_
        show oS p e below T265 m 134 #[oi p0, oi p1, oi p2, oi p3, oi p4, oi (2 : Int32), oi v178, oi v182, oi v186, oi v190, oa b192, oa b203, oa r_265, .unset] [(.int (2 : Int32))] _
        refine XS.iload X265.here hx rfl (hb hby at_134) rfl ?_
        show oS p e below T265 m 136 #[oi p0, oi p1, oi p2, oi p3, oi p4, oi (2 : Int32), oi v178, oi v182, oi v186, oi v190, oa b192, oa b203, oa r_265, .unset] [(.int (2 : Int32)), (.int (2 : Int32))] _
        refine XS.icmpYes X265.here hx rfl (pc0 := 136) (pc' := 141) rfl (hb hby at_136) rfl (teq b275).1 (by decide) (by decide) ?_
        show oS p e below T265 m 141 #[oi p0, oi p1, oi p2, oi p3, oi p4, oi (2 : Int32), oi v178, oi v182, oi v186, oi v190, oa b192, oa b203, oa r_265, .unset] [] _
        refine XS.iload X265.here hx rfl (hb hby at_141) rfl ?_
        show oS p e below T265 m 143 #[oi p0, oi p1, oi p2, oi p3, oi p4, oi (2 : Int32), oi v178, oi v182, oi v186, oi v190, oa b192, oa b203, oa r_265, .unset] [(.int (2 : Int32))] _
        refine XS.ifNo X265.here hx rfl (hb hby at_143) rfl ((if0 _ _).trans (tlt b276).2.2.2) ?_
        show oS p e below T265 m 146 #[oi p0, oi p1, oi p2, oi p3, oi p4, oi (2 : Int32), oi v178, oi v182, oi v186, oi v190, oa b192, oa b203, oa r_265, .unset] [] _
        refine XS.aload X265.here hx rfl (hb hby at_146) rfl rfl ?_
        show oS p e below T265 m 148 #[oi p0, oi p1, oi p2, oi p3, oi p4, oi (2 : Int32), oi v178, oi v182, oi v186, oi v190, oa b192, oa b203, oa r_265, .unset] [(.ref r_265)] _
        refine XS.iconst X265.here hx rfl (hb hby at_148) ?_
        show oS p e below T265 m 149 #[oi p0, oi p1, oi p2, oi p3, oi p4, oi (2 : Int32), oi v178, oi v182, oi v186, oi v190, oa b192, oa b203, oa r_265, .unset] [(.int (0 : Int32)), (.ref r_265)] _
        refine oLdI X265 hx hZ rfl Oq265_0 (v := (.int ((v182.toInt8.toInt32) &&& (255 : Int32)))) ⟨by decide, by decide⟩ rfl (hb hby at_149) ?_
        show oS p e below T265 m 150 #[oi p0, oi p1, oi p2, oi p3, oi p4, oi (2 : Int32), oi v178, oi v182, oi v186, oi v190, oa b192, oa b203, oa r_265, .unset] [(.int ((v182.toInt8.toInt32) &&& (255 : Int32)))] _
        refine XS.iload X265.here hx rfl (hb hby at_150) rfl ?_
        show oS p e below T265 m 152 #[oi p0, oi p1, oi p2, oi p3, oi p4, oi (2 : Int32), oi v178, oi v182, oi v186, oi v190, oa b192, oa b203, oa r_265, .unset] [(.int v182), (.int ((v182.toInt8.toInt32) &&& (255 : Int32)))] _
        refine XS.icmpYes X265.here hx rfl (pc0 := 152) (pc' := 157) rfl (hb hby at_152) rfl (teq b277).1 (by decide) (by decide) ?_
        show oS p e below T265 m 157 #[oi p0, oi p1, oi p2, oi p3, oi p4, oi (2 : Int32), oi v178, oi v182, oi v186, oi v190, oa b192, oa b203, oa r_265, .unset] [] _
        refine XS.iload X265.here hx rfl (hb hby at_157) rfl ?_
        show oS p e below T265 m 159 #[oi p0, oi p1, oi p2, oi p3, oi p4, oi (2 : Int32), oi v178, oi v182, oi v186, oi v190, oa b192, oa b203, oa r_265, .unset] [(.int (2 : Int32))] _
        refine XS.iconst X265.here hx rfl (hb hby at_159) ?_
        show oS p e below T265 m 160 #[oi p0, oi p1, oi p2, oi p3, oi p4, oi (2 : Int32), oi v178, oi v182, oi v186, oi v190, oa b192, oa b203, oa r_265, .unset] [(.int (1 : Int32)), (.int (2 : Int32))] _
        refine XS.icmpNo X265.here hx rfl (hb hby at_160) rfl (tlt b278).2.2.2 ?_
        show oS p e below T265 m 163 #[oi p0, oi p1, oi p2, oi p3, oi p4, oi (2 : Int32), oi v178, oi v182, oi v186, oi v190, oa b192, oa b203, oa r_265, .unset] [] _
        refine XS.aload X265.here hx rfl (hb hby at_163) rfl rfl ?_
        show oS p e below T265 m 165 #[oi p0, oi p1, oi p2, oi p3, oi p4, oi (2 : Int32), oi v178, oi v182, oi v186, oi v190, oa b192, oa b203, oa r_265, .unset] [(.ref r_265)] _
        refine XS.iconst X265.here hx rfl (hb hby at_165) ?_
        show oS p e below T265 m 166 #[oi p0, oi p1, oi p2, oi p3, oi p4, oi (2 : Int32), oi v178, oi v182, oi v186, oi v190, oa b192, oa b203, oa r_265, .unset] [(.int (1 : Int32)), (.ref r_265)] _
        refine oLdI X265 hx hZ rfl Oq265_0 (v := (.int ((v186.toInt8.toInt32) &&& (255 : Int32)))) ⟨by decide, by decide⟩ rfl (hb hby at_166) ?_
        show oS p e below T265 m 167 #[oi p0, oi p1, oi p2, oi p3, oi p4, oi (2 : Int32), oi v178, oi v182, oi v186, oi v190, oa b192, oa b203, oa r_265, .unset] [(.int ((v186.toInt8.toInt32) &&& (255 : Int32)))] _
        refine XS.iload X265.here hx rfl (hb hby at_167) rfl ?_
        show oS p e below T265 m 169 #[oi p0, oi p1, oi p2, oi p3, oi p4, oi (2 : Int32), oi v178, oi v182, oi v186, oi v190, oa b192, oa b203, oa r_265, .unset] [(.int v186), (.int ((v186.toInt8.toInt32) &&& (255 : Int32)))] _
        refine XS.icmpYes X265.here hx rfl (pc0 := 169) (pc' := 174) rfl (hb hby at_169) rfl (teq b279).1 (by decide) (by decide) ?_
        show oS p e below T265 m 174 #[oi p0, oi p1, oi p2, oi p3, oi p4, oi (2 : Int32), oi v178, oi v182, oi v186, oi v190, oa b192, oa b203, oa r_265, .unset] [] _
        refine XS.iload X265.here hx rfl (hb hby at_174) rfl ?_
        show oS p e below T265 m 176 #[oi p0, oi p1, oi p2, oi p3, oi p4, oi (2 : Int32), oi v178, oi v182, oi v186, oi v190, oa b192, oa b203, oa r_265, .unset] [(.int (2 : Int32))] _
        refine XS.iconst X265.here hx rfl (hb hby at_176) ?_
        show oS p e below T265 m 177 #[oi p0, oi p1, oi p2, oi p3, oi p4, oi (2 : Int32), oi v178, oi v182, oi v186, oi v190, oa b192, oa b203, oa r_265, .unset] [(.int (2 : Int32)), (.int (2 : Int32))] _
        refine XS.icmpYes X265.here hx rfl (pc0 := 177) (pc' := 191) rfl (hb hby at_177) rfl (flt b280).2.2.2 (by decide) (by decide) ?_
        show oS p e below T265 m 191 #[oi p0, oi p1, oi p2, oi p3, oi p4, oi (2 : Int32), oi v178, oi v182, oi v186, oi v190, oa b192, oa b203, oa r_265, .unset] [] _
        refine XS.iload X265.here hx rfl (hb hby at_191) rfl ?_
        show oS p e below T265 m 193 #[oi p0, oi p1, oi p2, oi p3, oi p4, oi (2 : Int32), oi v178, oi v182, oi v186, oi v190, oa b192, oa b203, oa r_265, .unset] [(.int (2 : Int32))] _
        refine XS.ifNo X265.here hx rfl (hb hby at_193) rfl ((if0 _ _).trans (tlt b281).2.2.2) ?_
        show oS p e below T265 m 196 #[oi p0, oi p1, oi p2, oi p3, oi p4, oi (2 : Int32), oi v178, oi v182, oi v186, oi v190, oa b192, oa b203, oa r_265, .unset] [] _
        refine XS.aload X265.here hx rfl (hb hby at_196) rfl rfl ?_
        show oS p e below T265 m 198 #[oi p0, oi p1, oi p2, oi p3, oi p4, oi (2 : Int32), oi v178, oi v182, oi v186, oi v190, oa b192, oa b203, oa r_265, .unset] [(.ref r_265)] _
        refine XS.iconst X265.here hx rfl (hb hby at_198) ?_
        show oS p e below T265 m 199 #[oi p0, oi p1, oi p2, oi p3, oi p4, oi (2 : Int32), oi v178, oi v182, oi v186, oi v190, oa b192, oa b203, oa r_265, .unset] [(.int (0 : Int32)), (.ref r_265)] _
        refine XS.aload X265.here hx rfl (hb hby at_199) rfl rfl ?_
        show oS p e below T265 m 201 #[oi p0, oi p1, oi p2, oi p3, oi p4, oi (2 : Int32), oi v178, oi v182, oi v186, oi v190, oa b192, oa b203, oa r_265, .unset] [(.ref r_265), (.int (0 : Int32)), (.ref r_265)] _
        refine XS.iconst X265.here hx rfl (hb hby at_201) ?_
        show oS p e below T265 m 202 #[oi p0, oi p1, oi p2, oi p3, oi p4, oi (2 : Int32), oi v178, oi v182, oi v186, oi v190, oa b192, oa b203, oa r_265, .unset] [(.int (0 : Int32)), (.ref r_265), (.int (0 : Int32)), (.ref r_265)] _
        refine oLdI X265 hx hZ rfl Oq265_0 (v := (.int ((v182.toInt8.toInt32) &&& (255 : Int32)))) ⟨by decide, by decide⟩ rfl (hb hby at_202) ?_
        show oS p e below T265 m 203 #[oi p0, oi p1, oi p2, oi p3, oi p4, oi (2 : Int32), oi v178, oi v182, oi v186, oi v190, oa b192, oa b203, oa r_265, .unset] [(.int ((v182.toInt8.toInt32) &&& (255 : Int32))), (.int (0 : Int32)), (.ref r_265)] _
        refine XS.iconst X265.here hx rfl (hb hby at_203) ?_
        show oS p e below T265 m 204 #[oi p0, oi p1, oi p2, oi p3, oi p4, oi (2 : Int32), oi v178, oi v182, oi v186, oi v190, oa b192, oa b203, oa r_265, .unset] [(.int (1 : Int32)), (.int ((v182.toInt8.toInt32) &&& (255 : Int32))), (.int (0 : Int32)), (.ref r_265)] _
        refine XS.ixor X265.here hx rfl (hb hby at_204) rfl ?_
        show oS p e below T265 m 205 #[oi p0, oi p1, oi p2, oi p3, oi p4, oi (2 : Int32), oi v178, oi v182, oi v186, oi v190, oa b192, oa b203, oa r_265, .unset] [(.int (((v182.toInt8.toInt32) &&& (255 : Int32)) ^^^ (1 : Int32))), (.int (0 : Int32)), (.ref r_265)] _
        refine st282 _ ?_
        show oS p e below T282 m 206 #[oi p0, oi p1, oi p2, oi p3, oi p4, oi (2 : Int32), oi v178, oi v182, oi v186, oi v190, oa b192, oa b203, oa r_265, .unset] [] _
        refine XS.aload X282.here hx rfl (hb hby at_206) rfl rfl ?_
        show oS p e below T282 m 208 #[oi p0, oi p1, oi p2, oi p3, oi p4, oi (2 : Int32), oi v178, oi v182, oi v186, oi v190, oa b192, oa b203, oa r_265, .unset] [(.ref b203)] _
        refine st290.trans ?_
        show oS p e below T290 m 211 #[oi p0, oi p1, oi p2, oi p3, oi p4, oi (2 : Int32), oi v178, oi v182, oi v186, oi v190, oa b192, oa b203, oa r_265, .unset] [(.ref r_290)] _
        refine XS.astore X290.here hx rfl (hb hby at_211) rfl rfl (l' := #[oi p0, oi p1, oi p2, oi p3, oi p4, oi (2 : Int32), oi v178, oi v182, oi v186, oi v190, oa b192, oa b203, oa r_265, oa r_290]) rfl ?_
        show oS p e below T290 m 213 #[oi p0, oi p1, oi p2, oi p3, oi p4, oi (2 : Int32), oi v178, oi v182, oi v186, oi v190, oa b192, oa b203, oa r_265, oa r_290] [] _
        refine XS.aload X290.here hx rfl (hb hby at_213) rfl rfl ?_
        show oS p e below T290 m 215 #[oi p0, oi p1, oi p2, oi p3, oi p4, oi (2 : Int32), oi v178, oi v182, oi v186, oi v190, oa b192, oa b203, oa r_265, oa r_290] [(.ref r_290)] _
        refine XS.ifnullNo X290.here hx rfl (hb hby at_215) rfl ?_
        show oS p e below T290 m 218 #[oi p0, oi p1, oi p2, oi p3, oi p4, oi (2 : Int32), oi v178, oi v182, oi v186, oi v190, oa b192, oa b203, oa r_265, oa r_290] [] _
        refine XS.aload X290.here hx rfl (hb hby at_218) rfl rfl ?_
        show oS p e below T290 m 220 #[oi p0, oi p1, oi p2, oi p3, oi p4, oi (2 : Int32), oi v178, oi v182, oi v186, oi v190, oa b192, oa b203, oa r_265, oa r_290] [(.ref r_290)] _
        refine XS.aload X290.here hx rfl (hb hby at_220) rfl rfl ?_
        show oS p e below T290 m 222 #[oi p0, oi p1, oi p2, oi p3, oi p4, oi (2 : Int32), oi v178, oi v182, oi v186, oi v190, oa b192, oa b203, oa r_265, oa r_290] [(.ref r_265), (.ref r_290)] _
        refine Jvm.RoadKit.acmp (g := (mkF m 222 #[oi p0, oi p1, oi p2, oi p3, oi p4, oi (2 : Int32), oi v178, oi v182, oi v186, oi v190, oa b192, oa b203, oa r_265, oa r_290] [(.ref r_265), (.ref r_290)])) X290 hx rfl rfl rfl (pc0 := 222) (pc' := 225) (same := false) rfl (hb hby at_222) rfl (decide_eq_false fun q => (Ne.symm ne294) (Value.ref.inj q)) (by decide) (by decide) ?_
        show oS p e below T290 m 225 #[oi p0, oi p1, oi p2, oi p3, oi p4, oi (2 : Int32), oi v178, oi v182, oi v186, oi v190, oa b192, oa b203, oa r_265, oa r_290] [] _
        refine XS.aload X290.here hx rfl (hb hby at_225) rfl rfl ?_
        show oS p e below T290 m 227 #[oi p0, oi p1, oi p2, oi p3, oi p4, oi (2 : Int32), oi v178, oi v182, oi v186, oi v190, oa b192, oa b203, oa r_265, oa r_290] [(.ref r_290)] _
        refine oLen X290 hx hZ rfl Oq290_0 (hb hby at_227) ?_
        show oS p e below T290 m 228 #[oi p0, oi p1, oi p2, oi p3, oi p4, oi (2 : Int32), oi v178, oi v182, oi v186, oi v190, oa b192, oa b203, oa r_265, oa r_290] [(.int (2 : Int32))] _
        refine XS.iload X290.here hx rfl (hb hby at_228) rfl ?_
        show oS p e below T290 m 230 #[oi p0, oi p1, oi p2, oi p3, oi p4, oi (2 : Int32), oi v178, oi v182, oi v186, oi v190, oa b192, oa b203, oa r_265, oa r_290] [(.int (2 : Int32)), (.int (2 : Int32))] _
        refine XS.icmpNo X290.here hx rfl (hb hby at_230) rfl (teq b302).2 ?_
        show oS p e below T290 m 233 #[oi p0, oi p1, oi p2, oi p3, oi p4, oi (2 : Int32), oi v178, oi v182, oi v186, oi v190, oa b192, oa b203, oa r_265, oa r_290] [] _
        refine XS.aload X290.here hx rfl (hb hby at_233) rfl rfl ?_
        show oS p e below T290 m 235 #[oi p0, oi p1, oi p2, oi p3, oi p4, oi (2 : Int32), oi v178, oi v182, oi v186, oi v190, oa b192, oa b203, oa r_265, oa r_290] [(.ref r_290)] _
        refine XS.iconst X290.here hx rfl (hb hby at_235) ?_
        show oS p e below T290 m 236 #[oi p0, oi p1, oi p2, oi p3, oi p4, oi (2 : Int32), oi v178, oi v182, oi v186, oi v190, oa b192, oa b203, oa r_265, oa r_290] [(.int (0 : Int32)), (.ref r_290)] _
        refine oLdI X290 hx hZ rfl Oq290_0 (v := (.int ((v182.toInt8.toInt32) &&& (255 : Int32)))) ⟨by decide, by decide⟩ rfl (hb hby at_236) ?_
        show oS p e below T290 m 237 #[oi p0, oi p1, oi p2, oi p3, oi p4, oi (2 : Int32), oi v178, oi v182, oi v186, oi v190, oa b192, oa b203, oa r_265, oa r_290] [(.int ((v182.toInt8.toInt32) &&& (255 : Int32)))] _
        refine XS.iload X290.here hx rfl (hb hby at_237) rfl ?_
        show oS p e below T290 m 239 #[oi p0, oi p1, oi p2, oi p3, oi p4, oi (2 : Int32), oi v178, oi v182, oi v186, oi v190, oa b192, oa b203, oa r_265, oa r_290] [(.int v182), (.int ((v182.toInt8.toInt32) &&& (255 : Int32)))] _
        refine XS.icmpYes X290.here hx rfl (pc0 := 239) (pc' := 244) rfl (hb hby at_239) rfl (teq b303).1 (by decide) (by decide) ?_
        show oS p e below T290 m 244 #[oi p0, oi p1, oi p2, oi p3, oi p4, oi (2 : Int32), oi v178, oi v182, oi v186, oi v190, oa b192, oa b203, oa r_265, oa r_290] [] _
        refine XS.iconst X290.here hx rfl (hb hby at_244) ?_
        show oS p e below T290 m 245 #[oi p0, oi p1, oi p2, oi p3, oi p4, oi (2 : Int32), oi v178, oi v182, oi v186, oi v190, oa b192, oa b203, oa r_265, oa r_290] [(.int (1 : Int32))] _
        exact retN X290 hx (t := .boolean) Bd.returns (by simp) (hb hby at_245) hr
      · show own_Q0 Z p0 p1 p2 p3 p4 h0 n0 _ T290.heap _
        exact ⟨rfl, N290⟩
  · skip
    rw [k2] at pre1
    have pre304 : ∀ t, Steps p.tables e below (s₁.setTop (mkF m 9 #[oi p0, oi p1, oi p2, oi p3, oi p4, oi (3 : Int32), .unset, .unset, .unset, .unset, .unset, .unset, .unset, .unset] [(.int (p4 &&& (1 : Int32)))])) t → Steps p.tables e below (s₁.setTop (entryFrame m #[(.int p0), (.int p1), (.int p2), (.int p3), (.int p4)] maxLocals)) t := by
      intro t k
      refine pre1 t ?_
      show oS p e below s₁ m 3 #[oi p0, oi p1, oi p2, oi p3, oi p4, .unset, .unset, .unset, .unset, .unset, .unset, .unset, .unset, .unset] [(.int (3 : Int32))] _
      refine XS.istore X0.here hx rfl (hb hby at_3) rfl (l' := #[oi p0, oi p1, oi p2, oi p3, oi p4, oi (3 : Int32), .unset, .unset, .unset, .unset, .unset, .unset, .unset, .unset]) rfl ?_
      show oS p e below s₁ m 5 #[oi p0, oi p1, oi p2, oi p3, oi p4, oi (3 : Int32), .unset, .unset, .unset, .unset, .unset, .unset, .unset, .unset] [] _
      refine XS.iload X0.here hx rfl (hb hby at_5) rfl ?_
      show oS p e below s₁ m 7 #[oi p0, oi p1, oi p2, oi p3, oi p4, oi (3 : Int32), .unset, .unset, .unset, .unset, .unset, .unset, .unset, .unset] [(.int p4)] _
      refine XS.iconst X0.here hx rfl (hb hby at_7) ?_
      show oS p e below s₁ m 8 #[oi p0, oi p1, oi p2, oi p3, oi p4, oi (3 : Int32), .unset, .unset, .unset, .unset, .unset, .unset, .unset, .unset] [(.int (1 : Int32)), (.int p4)] _
      refine XS.iand X0.here hx rfl (hb hby at_8) rfl ?_
      exact k
    obtain ⟨v306, hv306⟩ : ∃ z : Int32, z = (if (p4 &&& (1 : Int32)) = (0 : Int32) then (0 : Int32) else (1 : Int32)) := ⟨_, rfl⟩
    have pre307 : ∀ t, Steps p.tables e below (s₁.setTop (mkF m 17 #[oi p0, oi p1, oi p2, oi p3, oi p4, oi (3 : Int32), .unset, .unset, .unset, .unset, .unset, .unset, .unset, .unset] [(.int v306)])) t → Steps p.tables e below (s₁.setTop (entryFrame m #[(.int p0), (.int p1), (.int p2), (.int p3), (.int p4)] maxLocals)) t := by
      intro t k
      by_cases c305 : (p4 &&& (1 : Int32)) = (0 : Int32)
      · skip
        rw [show v306 = (0 : Int32) from hv306.trans (by rw [if_pos c305])] at k
        refine pre304 t ?_
        show oS p e below s₁ m 9 #[oi p0, oi p1, oi p2, oi p3, oi p4, oi (3 : Int32), .unset, .unset, .unset, .unset, .unset, .unset, .unset, .unset] [(.int (p4 &&& (1 : Int32)))] _
        refine XS.ifYes X0.here hx rfl (pc0 := 9) (pc' := 16) rfl (hb hby at_9) rfl ((if0 _ _).trans (teq c305).1) (by decide) (by decide) ?_
        show oS p e below s₁ m 16 #[oi p0, oi p1, oi p2, oi p3, oi p4, oi (3 : Int32), .unset, .unset, .unset, .unset, .unset, .unset, .unset, .unset] [] _
        refine XS.iconst X0.here hx rfl (hb hby at_16) ?_
        exact k
      · skip
        rw [show v306 = (1 : Int32) from hv306.trans (by rw [if_neg c305])] at k
        refine pre304 t ?_
        show oS p e below s₁ m 9 #[oi p0, oi p1, oi p2, oi p3, oi p4, oi (3 : Int32), .unset, .unset, .unset, .unset, .unset, .unset, .unset, .unset] [(.int (p4 &&& (1 : Int32)))] _
        refine XS.ifNo X0.here hx rfl (hb hby at_9) rfl ((if0 _ _).trans (feq c305).1) ?_
        show oS p e below s₁ m 12 #[oi p0, oi p1, oi p2, oi p3, oi p4, oi (3 : Int32), .unset, .unset, .unset, .unset, .unset, .unset, .unset, .unset] [] _
        refine XS.iconst X0.here hx rfl (hb hby at_12) ?_
        show oS p e below s₁ m 13 #[oi p0, oi p1, oi p2, oi p3, oi p4, oi (3 : Int32), .unset, .unset, .unset, .unset, .unset, .unset, .unset, .unset] [(.int (1 : Int32))] _
        refine XS.goto X0.here hx rfl (pc0 := 13) (pc' := 17) rfl (hb hby at_13) (by decide) (by decide) ?_
        exact k
    have pre308 : ∀ t, Steps p.tables e below (s₁.setTop (mkF m 21 #[oi p0, oi p1, oi p2, oi p3, oi p4, oi (3 : Int32), oi v306, .unset, .unset, .unset, .unset, .unset, .unset, .unset] [(.int v306)])) t → Steps p.tables e below (s₁.setTop (entryFrame m #[(.int p0), (.int p1), (.int p2), (.int p3), (.int p4)] maxLocals)) t := by
      intro t k
      refine pre307 t ?_
      show oS p e below s₁ m 17 #[oi p0, oi p1, oi p2, oi p3, oi p4, oi (3 : Int32), .unset, .unset, .unset, .unset, .unset, .unset, .unset, .unset] [(.int v306)] _
      refine XS.istore X0.here hx rfl (hb hby at_17) rfl (l' := #[oi p0, oi p1, oi p2, oi p3, oi p4, oi (3 : Int32), oi v306, .unset, .unset, .unset, .unset, .unset, .unset, .unset]) rfl ?_
      show oS p e below s₁ m 19 #[oi p0, oi p1, oi p2, oi p3, oi p4, oi (3 : Int32), oi v306, .unset, .unset, .unset, .unset, .unset, .unset, .unset] [] _
      refine XS.iload X0.here hx rfl (hb hby at_19) rfl ?_
      exact k
    obtain ⟨v310, hv310⟩ : ∃ z : Int32, z = (if v306 = (0 : Int32) then p1 else (p1 &&& (255 : Int32))) := ⟨_, rfl⟩
    have pre311 : ∀ t, Steps p.tables e below (s₁.setTop (mkF m 33 #[oi p0, oi p1, oi p2, oi p3, oi p4, oi (3 : Int32), oi v306, .unset, .unset, .unset, .unset, .unset, .unset, .unset] [(.int v310)])) t → Steps p.tables e below (s₁.setTop (entryFrame m #[(.int p0), (.int p1), (.int p2), (.int p3), (.int p4)] maxLocals)) t := by
      intro t k
      by_cases c309 : v306 = (0 : Int32)
      · skip
        rw [show v310 = p1 from hv310.trans (by rw [if_pos c309])] at k
        refine pre308 t ?_
        show oS p e below s₁ m 21 #[oi p0, oi p1, oi p2, oi p3, oi p4, oi (3 : Int32), oi v306, .unset, .unset, .unset, .unset, .unset, .unset, .unset] [(.int v306)] _
        refine XS.ifYes X0.here hx rfl (pc0 := 21) (pc' := 32) rfl (hb hby at_21) rfl ((if0 _ _).trans (teq c309).1) (by decide) (by decide) ?_
        show oS p e below s₁ m 32 #[oi p0, oi p1, oi p2, oi p3, oi p4, oi (3 : Int32), oi v306, .unset, .unset, .unset, .unset, .unset, .unset, .unset] [] _
        refine XS.iloadN X0.here hx rfl (hb hby at_32) rfl ?_
        exact k
      · skip
        rw [show v310 = (p1 &&& (255 : Int32)) from hv310.trans (by rw [if_neg c309])] at k
        refine pre308 t ?_
        show oS p e below s₁ m 21 #[oi p0, oi p1, oi p2, oi p3, oi p4, oi (3 : Int32), oi v306, .unset, .unset, .unset, .unset, .unset, .unset, .unset] [(.int v306)] _
        refine XS.ifNo X0.here hx rfl (hb hby at_21) rfl ((if0 _ _).trans (feq c309).1) ?_
        show oS p e below s₁ m 24 #[oi p0, oi p1, oi p2, oi p3, oi p4, oi (3 : Int32), oi v306, .unset, .unset, .unset, .unset, .unset, .unset, .unset] [] _
        refine XS.iloadN X0.here hx rfl (hb hby at_24) rfl ?_
        show oS p e below s₁ m 25 #[oi p0, oi p1, oi p2, oi p3, oi p4, oi (3 : Int32), oi v306, .unset, .unset, .unset, .unset, .unset, .unset, .unset] [(.int p1)] _
        refine XS.sipush X0.here hx rfl (hb hby at_25) ?_
        show oS p e below s₁ m 28 #[oi p0, oi p1, oi p2, oi p3, oi p4, oi (3 : Int32), oi v306, .unset, .unset, .unset, .unset, .unset, .unset, .unset] [(.int (255 : Int32)), (.int p1)] _
        refine XS.iand X0.here hx rfl (hb hby at_28) rfl ?_
        show oS p e below s₁ m 29 #[oi p0, oi p1, oi p2, oi p3, oi p4, oi (3 : Int32), oi v306, .unset, .unset, .unset, .unset, .unset, .unset, .unset] [(.int (p1 &&& (255 : Int32)))] _
        refine XS.goto X0.here hx rfl (pc0 := 29) (pc' := 33) rfl (hb hby at_29) (by decide) (by decide) ?_
        exact k
    have pre312 : ∀ t, Steps p.tables e below (s₁.setTop (mkF m 37 #[oi p0, oi p1, oi p2, oi p3, oi p4, oi (3 : Int32), oi v306, oi v310, .unset, .unset, .unset, .unset, .unset, .unset] [(.int v306)])) t → Steps p.tables e below (s₁.setTop (entryFrame m #[(.int p0), (.int p1), (.int p2), (.int p3), (.int p4)] maxLocals)) t := by
      intro t k
      refine pre311 t ?_
      show oS p e below s₁ m 33 #[oi p0, oi p1, oi p2, oi p3, oi p4, oi (3 : Int32), oi v306, .unset, .unset, .unset, .unset, .unset, .unset, .unset] [(.int v310)] _
      refine XS.istore X0.here hx rfl (hb hby at_33) rfl (l' := #[oi p0, oi p1, oi p2, oi p3, oi p4, oi (3 : Int32), oi v306, oi v310, .unset, .unset, .unset, .unset, .unset, .unset]) rfl ?_
      show oS p e below s₁ m 35 #[oi p0, oi p1, oi p2, oi p3, oi p4, oi (3 : Int32), oi v306, oi v310, .unset, .unset, .unset, .unset, .unset, .unset] [] _
      refine XS.iload X0.here hx rfl (hb hby at_35) rfl ?_
      exact k
    obtain ⟨v314, hv314⟩ : ∃ z : Int32, z = (if v306 = (0 : Int32) then p2 else (p2 &&& (255 : Int32))) := ⟨_, rfl⟩
    have pre315 : ∀ t, Steps p.tables e below (s₁.setTop (mkF m 49 #[oi p0, oi p1, oi p2, oi p3, oi p4, oi (3 : Int32), oi v306, oi v310, .unset, .unset, .unset, .unset, .unset, .unset] [(.int v314)])) t → Steps p.tables e below (s₁.setTop (entryFrame m #[(.int p0), (.int p1), (.int p2), (.int p3), (.int p4)] maxLocals)) t := by
      intro t k
      by_cases c313 : v306 = (0 : Int32)
      · skip
        rw [show v314 = p2 from hv314.trans (by rw [if_pos c313])] at k
        refine pre312 t ?_
        show oS p e below s₁ m 37 #[oi p0, oi p1, oi p2, oi p3, oi p4, oi (3 : Int32), oi v306, oi v310, .unset, .unset, .unset, .unset, .unset, .unset] [(.int v306)] _
        refine XS.ifYes X0.here hx rfl (pc0 := 37) (pc' := 48) rfl (hb hby at_37) rfl ((if0 _ _).trans (teq c313).1) (by decide) (by decide) ?_
        show oS p e below s₁ m 48 #[oi p0, oi p1, oi p2, oi p3, oi p4, oi (3 : Int32), oi v306, oi v310, .unset, .unset, .unset, .unset, .unset, .unset] [] _
        refine XS.iloadN X0.here hx rfl (hb hby at_48) rfl ?_
        exact k
      · skip
        rw [show v314 = (p2 &&& (255 : Int32)) from hv314.trans (by rw [if_neg c313])] at k
        refine pre312 t ?_
        show oS p e below s₁ m 37 #[oi p0, oi p1, oi p2, oi p3, oi p4, oi (3 : Int32), oi v306, oi v310, .unset, .unset, .unset, .unset, .unset, .unset] [(.int v306)] _
        refine XS.ifNo X0.here hx rfl (hb hby at_37) rfl ((if0 _ _).trans (feq c313).1) ?_
        show oS p e below s₁ m 40 #[oi p0, oi p1, oi p2, oi p3, oi p4, oi (3 : Int32), oi v306, oi v310, .unset, .unset, .unset, .unset, .unset, .unset] [] _
        refine XS.iloadN X0.here hx rfl (hb hby at_40) rfl ?_
        show oS p e below s₁ m 41 #[oi p0, oi p1, oi p2, oi p3, oi p4, oi (3 : Int32), oi v306, oi v310, .unset, .unset, .unset, .unset, .unset, .unset] [(.int p2)] _
        refine XS.sipush X0.here hx rfl (hb hby at_41) ?_
        show oS p e below s₁ m 44 #[oi p0, oi p1, oi p2, oi p3, oi p4, oi (3 : Int32), oi v306, oi v310, .unset, .unset, .unset, .unset, .unset, .unset] [(.int (255 : Int32)), (.int p2)] _
        refine XS.iand X0.here hx rfl (hb hby at_44) rfl ?_
        show oS p e below s₁ m 45 #[oi p0, oi p1, oi p2, oi p3, oi p4, oi (3 : Int32), oi v306, oi v310, .unset, .unset, .unset, .unset, .unset, .unset] [(.int (p2 &&& (255 : Int32)))] _
        refine XS.goto X0.here hx rfl (pc0 := 45) (pc' := 49) rfl (hb hby at_45) (by decide) (by decide) ?_
        exact k
    have pre316 : ∀ t, Steps p.tables e below (s₁.setTop (mkF m 53 #[oi p0, oi p1, oi p2, oi p3, oi p4, oi (3 : Int32), oi v306, oi v310, oi v314, .unset, .unset, .unset, .unset, .unset] [(.int v306)])) t → Steps p.tables e below (s₁.setTop (entryFrame m #[(.int p0), (.int p1), (.int p2), (.int p3), (.int p4)] maxLocals)) t := by
      intro t k
      refine pre315 t ?_
      show oS p e below s₁ m 49 #[oi p0, oi p1, oi p2, oi p3, oi p4, oi (3 : Int32), oi v306, oi v310, .unset, .unset, .unset, .unset, .unset, .unset] [(.int v314)] _
      refine XS.istore X0.here hx rfl (hb hby at_49) rfl (l' := #[oi p0, oi p1, oi p2, oi p3, oi p4, oi (3 : Int32), oi v306, oi v310, oi v314, .unset, .unset, .unset, .unset, .unset]) rfl ?_
      show oS p e below s₁ m 51 #[oi p0, oi p1, oi p2, oi p3, oi p4, oi (3 : Int32), oi v306, oi v310, oi v314, .unset, .unset, .unset, .unset, .unset] [] _
      refine XS.iload X0.here hx rfl (hb hby at_51) rfl ?_
      exact k
    obtain ⟨v318, hv318⟩ : ∃ z : Int32, z = (if v306 = (0 : Int32) then p3 else (p3 &&& (255 : Int32))) := ⟨_, rfl⟩
    have pre319 : ∀ t, Steps p.tables e below (s₁.setTop (mkF m 65 #[oi p0, oi p1, oi p2, oi p3, oi p4, oi (3 : Int32), oi v306, oi v310, oi v314, .unset, .unset, .unset, .unset, .unset] [(.int v318)])) t → Steps p.tables e below (s₁.setTop (entryFrame m #[(.int p0), (.int p1), (.int p2), (.int p3), (.int p4)] maxLocals)) t := by
      intro t k
      by_cases c317 : v306 = (0 : Int32)
      · skip
        rw [show v318 = p3 from hv318.trans (by rw [if_pos c317])] at k
        refine pre316 t ?_
        show oS p e below s₁ m 53 #[oi p0, oi p1, oi p2, oi p3, oi p4, oi (3 : Int32), oi v306, oi v310, oi v314, .unset, .unset, .unset, .unset, .unset] [(.int v306)] _
        refine XS.ifYes X0.here hx rfl (pc0 := 53) (pc' := 64) rfl (hb hby at_53) rfl ((if0 _ _).trans (teq c317).1) (by decide) (by decide) ?_
        show oS p e below s₁ m 64 #[oi p0, oi p1, oi p2, oi p3, oi p4, oi (3 : Int32), oi v306, oi v310, oi v314, .unset, .unset, .unset, .unset, .unset] [] _
        refine XS.iloadN X0.here hx rfl (hb hby at_64) rfl ?_
        exact k
      · skip
        rw [show v318 = (p3 &&& (255 : Int32)) from hv318.trans (by rw [if_neg c317])] at k
        refine pre316 t ?_
        show oS p e below s₁ m 53 #[oi p0, oi p1, oi p2, oi p3, oi p4, oi (3 : Int32), oi v306, oi v310, oi v314, .unset, .unset, .unset, .unset, .unset] [(.int v306)] _
        refine XS.ifNo X0.here hx rfl (hb hby at_53) rfl ((if0 _ _).trans (feq c317).1) ?_
        show oS p e below s₁ m 56 #[oi p0, oi p1, oi p2, oi p3, oi p4, oi (3 : Int32), oi v306, oi v310, oi v314, .unset, .unset, .unset, .unset, .unset] [] _
        refine XS.iloadN X0.here hx rfl (hb hby at_56) rfl ?_
        show oS p e below s₁ m 57 #[oi p0, oi p1, oi p2, oi p3, oi p4, oi (3 : Int32), oi v306, oi v310, oi v314, .unset, .unset, .unset, .unset, .unset] [(.int p3)] _
        refine XS.sipush X0.here hx rfl (hb hby at_57) ?_
        show oS p e below s₁ m 60 #[oi p0, oi p1, oi p2, oi p3, oi p4, oi (3 : Int32), oi v306, oi v310, oi v314, .unset, .unset, .unset, .unset, .unset] [(.int (255 : Int32)), (.int p3)] _
        refine XS.iand X0.here hx rfl (hb hby at_60) rfl ?_
        show oS p e below s₁ m 61 #[oi p0, oi p1, oi p2, oi p3, oi p4, oi (3 : Int32), oi v306, oi v310, oi v314, .unset, .unset, .unset, .unset, .unset] [(.int (p3 &&& (255 : Int32)))] _
        refine XS.goto X0.here hx rfl (pc0 := 61) (pc' := 65) rfl (hb hby at_61) (by decide) (by decide) ?_
        exact k
    obtain ⟨T320, h320, k320, X320, e320, E320, A320, B320, st320⟩ := newPE X0 hx hZ (hw _ (List.mem_of_getElem? (i := 0) rfl)) e0 (g := (mkF m 69 #[oi p0, oi p1, oi p2, oi p3, oi p4, oi (3 : Int32), oi v306, oi v310, oi v314, oi v318, .unset, .unset, .unset, .unset] [(.int (3 : Int32))])) rfl (hb hby at_69) rfl (by decide) (cap := 3) (by decide) (by decide) (by decide) (by decide) (ad := "[I") rfl
    obtain ⟨b320, g320⟩ : ∃ z, z = h0.size := ⟨_, rfl⟩
    rw [← g320] at A320 st320 B320
    have g_b320 : n0 ≤ b320 := Nat.le_trans Z0 (Nat.le_of_eq g320.symm)
    have Z320 : n0 ≤ h320.size := Nat.le_trans Z0 E320.1
    have V_321 : Arv Z h320 b320 k320 .int (3 : Int32) [(.int (0 : Int32)), (.int (0 : Int32)), (.int (0 : Int32))] (.int (0 : Int32)) := (Arv.new A320 (by decide)).pad (pad_rep [] (.int (0 : Int32)) 3)
    have b322 : (0 : Int32) < (3 : Int32) := (by decide)
    obtain ⟨T323, h323, X323, e323, W323, V323, st323⟩ := oStI X320 hx hZ e320 V_321 (j := (0 : Int32)) ⟨by decide, by decide⟩ 0 rfl (Nat.le_of_ble_eq_true rfl) (g := (mkF m 83 #[oi p0, oi p1, oi p2, oi p3, oi p4, oi (3 : Int32), oi v306, oi v310, oi v314, oi v318, oa b320, .unset, .unset, .unset] [(.int v310), (.int (0 : Int32)), (.ref b320)])) rfl rfl (hb hby at_83)
    obtain ⟨Lo323, X323, N323⟩ := oOpq X323 (Fr.snoc X323 N0 g_b320)
    have Z323 := Nat.le_trans Z320 (Keep.of_wr W323).1
    have F324 := B320.wr W323
    have V_325 : Arv Z h323 b320 k320 .int (3 : Int32) [(.int v310), (.int (0 : Int32)), (.int (0 : Int32))] (.int (0 : Int32)) := V323
    have b326 : (1 : Int32) < (3 : Int32) := (by decide)
    obtain ⟨T327, h327, X327, e327, W327, V327, st327⟩ := oStI X323 hx hZ e323 V_325 (j := (1 : Int32)) ⟨by decide, by decide⟩ 1 rfl (Nat.le_of_ble_eq_true rfl) (g := (mkF m 95 #[oi p0, oi p1, oi p2, oi p3, oi p4, oi (3 : Int32), oi v306, oi v310, oi v314, oi v318, oa b320, .unset, .unset, .unset] [(.int v314), (.int (1 : Int32)), (.ref b320)])) rfl rfl (hb hby at_95)
    obtain ⟨Lo327, X327, N327⟩ := oOpq X327 (Fr.snoc X327 N323 g_b320)
    have Z327 := Nat.le_trans Z323 (Keep.of_wr W327).1
    have F328 := F324.wr W327
    have V_329 : Arv Z h327 b320 k320 .int (3 : Int32) [(.int v310), (.int v314), (.int (0 : Int32))] (.int (0 : Int32)) := V327
    have b330 : (2 : Int32) < (3 : Int32) := (by decide)
    obtain ⟨T331, h331, X331, e331, W331, V331, st331⟩ := oStI X327 hx hZ e327 V_329 (j := (2 : Int32)) ⟨by decide, by decide⟩ 2 rfl (Nat.le_of_ble_eq_true rfl) (g := (mkF m 107 #[oi p0, oi p1, oi p2, oi p3, oi p4, oi (3 : Int32), oi v306, oi v310, oi v314, oi v318, oa b320, .unset, .unset, .unset] [(.int v318), (.int (2 : Int32)), (.ref b320)])) rfl rfl (hb hby at_107)
    obtain ⟨Lo331, X331, N331⟩ := oOpq X331 (Fr.snoc X331 N327 g_b320)
    have Z331 := Nat.le_trans Z327 (Keep.of_wr W331).1
    have F332 := F328.wr W331
    have V_333 : Arv Z h331 b320 k320 .int (3 : Int32) [(.int v310), (.int v314), (.int v318)] (.int (0 : Int32)) := V331
    obtain ⟨T334, h334, X334, e334, E334, A334, D334, -, st334⟩ := newO X331 hx hZ hown (hw _ (List.mem_of_getElem? (i := 1) rfl)) (hw _ (List.mem_of_getElem? (i := 2) rfl)) (hw _ (List.mem_of_getElem? (i := 3) rfl)) e331 (g := (mkF m 108 #[oi p0, oi p1, oi p2, oi p3, oi p4, oi (3 : Int32), oi v306, oi v310, oi v314, oi v318, oa b320, .unset, .unset, .unset] [])) rfl (hb hby at_108) (by decide) (by decide)
    obtain ⟨b334, g334⟩ : ∃ z, z = h331.size := ⟨_, rfl⟩
    rw [← g334] at A334 D334 st334
    have g_b334 : n0 ≤ b334 := Nat.le_trans Z331 (Nat.le_of_eq g334.symm)
    have ne335 : b320 ≠ b334 := Nat.ne_of_lt (Nat.lt_of_lt_of_le V_333.lt (Nat.le_of_eq g334.symm))
    have Z334 : n0 ≤ h334.size := Nat.le_trans Z331 E334.1
    have F336 := V_333.ext E334
    have F337 := F332.ext E334
    have F_338 : Fld Z h334 b334 "com/example/penstock/penstock/Design" "byteIndices" "[B" .null := D334 (Or.inr (hw _ (List.mem_of_getElem? (i := 12) rfl))) (ty := (.array .byte)) (by decide)
    have F_339 : Fld Z h334 b334 "com/example/penstock/penstock/Design" "intIndices" "[I" .null := D334 (Or.inr (hw _ (List.mem_of_getElem? (i := 14) rfl))) (ty := (.array .int)) (by decide)
    have F_340 : Fld Z h334 b334 "com/example/penstock/penstock/Design" "hash" "I" (.int (0 : Int32)) := D334 (Or.inr (hw _ (List.mem_of_getElem? (i := 20) rfl))) (ty := .int) (by decide)
    have pre341 : ∀ t, Steps p.tables e below (T334.setTop (mkF m 114 #[oi p0, oi p1, oi p2, oi p3, oi p4, oi (3 : Int32), oi v306, oi v310, oi v314, oi v318, oa b320, .unset, .unset, .unset] [(.ref b320), (.ref b334), (.ref b334)])) t → Steps p.tables e below (s₁.setTop (entryFrame m #[(.int p0), (.int p1), (.int p2), (.int p3), (.int p4)] maxLocals)) t := by
      intro t k
      refine pre319 t ?_
      show oS p e below s₁ m 65 #[oi p0, oi p1, oi p2, oi p3, oi p4, oi (3 : Int32), oi v306, oi v310, oi v314, .unset, .unset, .unset, .unset, .unset] [(.int v318)] _
      refine XS.istore X0.here hx rfl (hb hby at_65) rfl (l' := #[oi p0, oi p1, oi p2, oi p3, oi p4, oi (3 : Int32), oi v306, oi v310, oi v314, oi v318, .unset, .unset, .unset, .unset]) rfl ?_
      show oS p e below s₁ m 67 #[oi p0, oi p1, oi p2, oi p3, oi p4, oi (3 : Int32), oi v306, oi v310, oi v314, oi v318, .unset, .unset, .unset, .unset] [] _
      refine XS.iload X0.here hx rfl (hb hby at_67) rfl ?_
      show oS p e below s₁ m 69 #[oi p0, oi p1, oi p2, oi p3, oi p4, oi (3 : Int32), oi v306, oi v310, oi v314, oi v318, .unset, .unset, .unset, .unset] [(.int (3 : Int32))] _
      refine st320 _ ?_
      show oS p e below T320 m 71 #[oi p0, oi p1, oi p2, oi p3, oi p4, oi (3 : Int32), oi v306, oi v310, oi v314, oi v318, .unset, .unset, .unset, .unset] [(.ref b320)] _
      refine XS.astore X320.here hx rfl (hb hby at_71) rfl rfl (l' := #[oi p0, oi p1, oi p2, oi p3, oi p4, oi (3 : Int32), oi v306, oi v310, oi v314, oi v318, oa b320, .unset, .unset, .unset]) rfl ?_
      show oS p e below T320 m 73 #[oi p0, oi p1, oi p2, oi p3, oi p4, oi (3 : Int32), oi v306, oi v310, oi v314, oi v318, oa b320, .unset, .unset, .unset] [] _
      refine XS.iload X320.here hx rfl (hb hby at_73) rfl ?_
      show oS p e below T320 m 75 #[oi p0, oi p1, oi p2, oi p3, oi p4, oi (3 : Int32), oi v306, oi v310, oi v314, oi v318, oa b320, .unset, .unset, .unset] [(.int (3 : Int32))] _
      refine XS.ifNo X320.here hx rfl (hb hby at_75) rfl ((if0 _ _).trans (tlt b322).2.2.2) ?_
      show oS p e below T320 m 78 #[oi p0, oi p1, oi p2, oi p3, oi p4, oi (3 : Int32), oi v306, oi v310, oi v314, oi v318, oa b320, .unset, .unset, .unset] [] _
      refine XS.aload X320.here hx rfl (hb hby at_78) rfl rfl ?_
      show oS p e below T320 m 80 #[oi p0, oi p1, oi p2, oi p3, oi p4, oi (3 : Int32), oi v306, oi v310, oi v314, oi v318, oa b320, .unset, .unset, .unset] [(.ref b320)] _
      refine XS.iconst X320.here hx rfl (hb hby at_80) ?_
      show oS p e below T320 m 81 #[oi p0, oi p1, oi p2, oi p3, oi p4, oi (3 : Int32), oi v306, oi v310, oi v314, oi v318, oa b320, .unset, .unset, .unset] [(.int (0 : Int32)), (.ref b320)] _
      refine XS.iload X320.here hx rfl (hb hby at_81) rfl ?_
      show oS p e below T320 m 83 #[oi p0, oi p1, oi p2, oi p3, oi p4, oi (3 : Int32), oi v306, oi v310, oi v314, oi v318, oa b320, .unset, .unset, .unset] [(.int v310), (.int (0 : Int32)), (.ref b320)] _
      refine st323 _ ?_
      show oS p e below T323 m 84 #[oi p0, oi p1, oi p2, oi p3, oi p4, oi (3 : Int32), oi v306, oi v310, oi v314, oi v318, oa b320, .unset, .unset, .unset] [] _
      refine XS.iload X323.here hx rfl (hb hby at_84) rfl ?_
      show oS p e below T323 m 86 #[oi p0, oi p1, oi p2, oi p3, oi p4, oi (3 : Int32), oi v306, oi v310, oi v314, oi v318, oa b320, .unset, .unset, .unset] [(.int (3 : Int32))] _
      refine XS.iconst X323.here hx rfl (hb hby at_86) ?_
      show oS p e below T323 m 87 #[oi p0, oi p1, oi p2, oi p3, oi p4, oi (3 : Int32), oi v306, oi v310, oi v314, oi v318, oa b320, .unset, .unset, .unset] [(.int (1 : Int32)), (.int (3 : Int32))] _
      refine XS.icmpNo X323.here hx rfl (hb hby at_87) rfl (tlt b326).2.2.2 ?_
      show oS p e below T323 m 90 #[oi p0, oi p1, oi p2, oi p3, oi p4, oi (3 : Int32), oi v306, oi v310, oi v314, oi v318, oa b320, .unset, .unset, .unset] [] _
      refine XS.aload X323.here hx rfl (hb hby at_90) rfl rfl ?_
      show oS p e below T323 m 92 #[oi p0, oi p1, oi p2, oi p3, oi p4, oi (3 : Int32), oi v306, oi v310, oi v314, oi v318, oa b320, .unset, .unset, .unset] [(.ref b320)] _
      refine XS.iconst X323.here hx rfl (hb hby at_92) ?_
      show oS p e below T323 m 93 #[oi p0, oi p1, oi p2, oi p3, oi p4, oi (3 : Int32), oi v306, oi v310, oi v314, oi v318, oa b320, .unset, .unset, .unset] [(.int (1 : Int32)), (.ref b320)] _
      refine XS.iload X323.here hx rfl (hb hby at_93) rfl ?_
      show oS p e below T323 m 95 #[oi p0, oi p1, oi p2, oi p3, oi p4, oi (3 : Int32), oi v306, oi v310, oi v314, oi v318, oa b320, .unset, .unset, .unset] [(.int v314), (.int (1 : Int32)), (.ref b320)] _
      refine st327 _ ?_
      show oS p e below T327 m 96 #[oi p0, oi p1, oi p2, oi p3, oi p4, oi (3 : Int32), oi v306, oi v310, oi v314, oi v318, oa b320, .unset, .unset, .unset] [] _
      refine XS.iload X327.here hx rfl (hb hby at_96) rfl ?_
      show oS p e below T327 m 98 #[oi p0, oi p1, oi p2, oi p3, oi p4, oi (3 : Int32), oi v306, oi v310, oi v314, oi v318, oa b320, .unset, .unset, .unset] [(.int (3 : Int32))] _
      refine XS.iconst X327.here hx rfl (hb hby at_98) ?_
      show oS p e below T327 m 99 #[oi p0, oi p1, oi p2, oi p3, oi p4, oi (3 : Int32), oi v306, oi v310, oi v314, oi v318, oa b320, .unset, .unset, .unset] [(.int (2 : Int32)), (.int (3 : Int32))] _
      refine XS.icmpNo X327.here hx rfl (hb hby at_99) rfl (tlt b330).2.2.2 ?_
      show oS p e below T327 m 102 #[oi p0, oi p1, oi p2, oi p3, oi p4, oi (3 : Int32), oi v306, oi v310, oi v314, oi v318, oa b320, .unset, .unset, .unset] [] _
      refine XS.aload X327.here hx rfl (hb hby at_102) rfl rfl ?_
      show oS p e below T327 m 104 #[oi p0, oi p1, oi p2, oi p3, oi p4, oi (3 : Int32), oi v306, oi v310, oi v314, oi v318, oa b320, .unset, .unset, .unset] [(.ref b320)] _
      refine XS.iconst X327.here hx rfl (hb hby at_104) ?_
      show oS p e below T327 m 105 #[oi p0, oi p1, oi p2, oi p3, oi p4, oi (3 : Int32), oi v306, oi v310, oi v314, oi v318, oa b320, .unset, .unset, .unset] [(.int (2 : Int32)), (.ref b320)] _
      refine XS.iload X327.here hx rfl (hb hby at_105) rfl ?_
      show oS p e below T327 m 107 #[oi p0, oi p1, oi p2, oi p3, oi p4, oi (3 : Int32), oi v306, oi v310, oi v314, oi v318, oa b320, .unset, .unset, .unset] [(.int v318), (.int (2 : Int32)), (.ref b320)] _
      refine st331 _ ?_
      show oS p e below T331 m 108 #[oi p0, oi p1, oi p2, oi p3, oi p4, oi (3 : Int32), oi v306, oi v310, oi v314, oi v318, oa b320, .unset, .unset, .unset] [] _
      refine st334 _ ?_
      show oS p e below T334 m 111 #[oi p0, oi p1, oi p2, oi p3, oi p4, oi (3 : Int32), oi v306, oi v310, oi v314, oi v318, oa b320, .unset, .unset, .unset] [(.ref b334)] _
      refine XS.dup X334.here hx rfl (hb hby at_111) rfl rfl ?_
      show oS p e below T334 m 112 #[oi p0, oi p1, oi p2, oi p3, oi p4, oi (3 : Int32), oi v306, oi v310, oi v314, oi v318, oa b320, .unset, .unset, .unset] [(.ref b334), (.ref b334)] _
      refine XS.aload X334.here hx rfl (hb hby at_112) rfl rfl ?_
      exact k
    by_cases hbad : ((((1 : Int32) &&& own_g v310) &&& own_g v314) &&& own_g v318) = (0 : Int32)
    · skip
      obtain ⟨_, _, ⟨T342, L342, k342, n342⟩, -, X342, ⟨Lc342, hQ342, l342, y342, z342⟩, st342⟩ := X334.specialBack hx (y := (⟨"com/example/penstock/penstock/Design", "<init>", "([I)V"⟩ : MethodName)) rfl hown (mvT hZ (hw _ (List.mem_of_getElem? (i := 4) rfl))) (mvT hZ (hw _ (List.mem_of_getElem? (i := 5) rfl))) (mvT hZ (hw _ (List.mem_of_getElem? (i := 6) rfl))) (by decide) (backOf (W := 1) (own_rm1i3 l Z av hw [] b334 b320 k320 v310 v314 v318 h334 n0 Z334 A334 F_338 F_339 F_340 g_b334 F336 F337 (ne335) (hbad)) hZ (hw _ (List.mem_of_getElem? (i := 6) rfl)) (hw _ (List.mem_of_getElem? (i := 3) rfl)) (by decide) (by decide)) (g := (mkF m 114 #[oi p0, oi p1, oi p2, oi p3, oi p4, oi (3 : Int32), oi v306, oi v310, oi v314, oi v318, oa b320, .unset, .unset, .unset] [(.ref b320), (.ref b334), (.ref b334)])) rfl (by rw [hml]; rfl) (Steps.refl _) (a := b334) (argsL := [(.ref b320)]) (rest := [(.ref b334)]) (lenOf own_pd3 rfl) rfl (by show 2 * 0 + _ ≤ _; exact Nat.le_of_eq rfl) (hb hby at_114) (fun _ _ => ⟨rfl, e334, (by decide : 2 + 1 ≤ _), (by decide : 6 + 3 ≤ _)⟩)
      dsimp only [Pt.U, Pt.locs, Pt.cells, Pt.slots] at X342 l342 y342 z342 st342 hQ342
      have yq342 : k342 = 3 := y342
      have zq342 : n342 = 9 := z342
      subst yq342 zq342
      obtain ⟨b_342, k_b_342, rfl, Nq342, Kq342, gq342_b, Oq342_0, Oq342_1, Oq342_2, Oq342_3, Oq342_4⟩ := hQ342
      have N342 : Fr n0 L342 := by rw [l342]; exact Fr.app N331 Nq342
      have Z342 : n0 ≤ T342.heap.size := Nat.le_trans Z334 Kq342.1
      have g_b_342 : n0 ≤ b_342 := Nat.le_trans Z334 gq342_b
      have ne343 : b320 ≠ b_342 := Nat.ne_of_lt (Nat.lt_of_lt_of_le F336.lt gq342_b)
      have ne344 : b334 ≠ b_342 := Nat.ne_of_lt (Nat.lt_of_lt_of_le A334.lt gq342_b)
      have F345 := F336.keep Kq342 (ninS ne335 nin0)
      have F346 := F337.keep Kq342
      have F347 := A334.keep Kq342
      obtain ⟨cq348, kq348, q348a, q348b, q348c⟩ := isOf hZ rfl Oq342_0
      obtain ⟨_, _, ⟨T348, L348, k348, n348⟩, -, X348, ⟨Lc348, hQ348, l348, y348, z348⟩, st348⟩ := X342.virtualBack hx (y := (⟨"com/example/penstock/penstock/Design", "sizeIndices", "()[I"⟩ : MethodName)) (z := (⟨"com/example/penstock/penstock/Design", "sizeIndices", "()[I"⟩ : MethodName)) hown (mvT hZ (hw _ (List.mem_of_getElem? (i := 21) rfl))) (mvT hZ (hw _ (List.mem_of_getElem? (i := 22) rfl))) (notFace_of_selects (args := #[]) (mvT hZ (hw _ (List.mem_of_getElem? (i := 24) rfl)))) (mvT hZ (hw _ (List.mem_of_getElem? (i := 24) rfl))) (mvT hZ (hw _ (List.mem_of_getElem? (i := 23) rfl))) (by decide) (backOf (W := 0) (own_rm4i3 l Z av hw [] b334 b_342 k_b_342 v310 v314 v318 T342.heap n0 Z342 Oq342_2 Oq342_3 Oq342_4) hZ (hw _ (List.mem_of_getElem? (i := 25) rfl)) (hw _ (List.mem_of_getElem? (i := 3) rfl)) (by decide) (by decide)) q348a q348c (g := (mkF m 121 #[oi p0, oi p1, oi p2, oi p3, oi p4, oi (3 : Int32), oi v306, oi v310, oi v314, oi v318, oa b320, oa b334, .unset, .unset] [(.ref b334)])) rfl (by rw [hml]; rfl) (Steps.refl _) (argsL := []) (rest := []) (lenOf own_pd4 rfl) rfl (by show 2 * 0 + _ ≤ _; exact Nat.le_of_eq rfl) (hb hby at_121) (fun _ _ => ⟨rfl, rfl, (by decide : 3 + 1 ≤ _), (by decide : 9 + 3 ≤ _)⟩)
      dsimp only [Pt.U, Pt.locs, Pt.cells, Pt.slots] at X348 l348 y348 z348 st348 hQ348
      have yq348 : k348 = 4 := y348
      have zq348 : n348 = 12 := z348
      subst yq348 zq348
      obtain ⟨r_348, k_r_348, rfl, Nq348, Kq348, gq348_r, Oq348_0⟩ := hQ348
      have N348 : Fr n0 L348 := by rw [l348]; exact Fr.app N342 Nq348
      have Z348 : n0 ≤ T348.heap.size := Nat.le_trans Z342 Kq348.1
      have g_r_348 : n0 ≤ r_348 := Nat.le_trans Z342 gq348_r
      have ne349 : b320 ≠ r_348 := Nat.ne_of_lt (Nat.lt_of_lt_of_le F345.lt gq348_r)
      have ne350 : b334 ≠ r_348 := Nat.ne_of_lt (Nat.lt_of_lt_of_le Oq342_0.lt gq348_r)
      have ne351 : b_342 ≠ r_348 := Nat.ne_of_lt (Nat.lt_of_lt_of_le Oq342_3.lt gq348_r)
      have F352 := F345.keep Kq348 nin0
      have F353 := F346.keep Kq348
      have F354 := Oq342_0.keep Kq348
      have F355 := Oq342_1.keep Kq348 nin0
      have F356 := Oq342_2.keep Kq348 nin0
      have F357 := Oq342_3.keep Kq348
      have F358 := Oq342_4.keep Kq348 nin0
      have b359 : (3 : Int32) = (3 : Int32) := (by decide)
      have b360 : (0 : Int32) < (3 : Int32) := (by decide)
      have b361 : v310 = v310 := rfl
      have b362 : (1 : Int32) < (3 : Int32) := (by decide)
      have b363 : v314 = v314 := rfl
      have b364 : (2 : Int32) < (3 : Int32) := (by decide)
      have b365 : v318 = v318 := rfl
      have b366 : (0 : Int32) < (3 : Int32) := (by decide)
      obtain ⟨T367, h367, X367, e367, W367, V367, st367⟩ := oStI X348 hx hZ rfl Oq348_0 (j := (0 : Int32)) ⟨by decide, by decide⟩ 0 rfl (Nat.le_of_ble_eq_true rfl) (g := (mkF m 205 #[oi p0, oi p1, oi p2, oi p3, oi p4, oi (3 : Int32), oi v306, oi v310, oi v314, oi v318, oa b320, oa b334, oa r_348, .unset] [(.int (v310 ^^^ (1 : Int32))), (.int (0 : Int32)), (.ref r_348)])) rfl rfl (hb hby at_205)
      obtain ⟨Lo367, X367, N367⟩ := oOpq X367 (Fr.snoc X367 N348 g_r_348)
      have Z367 := Nat.le_trans Z348 (Keep.of_wr W367).1
      have F368 := F352.other W367 ne349
      have F369 := F353.wr W367
      have F370 := F354.wr W367
      have F371 := F355.other W367 (Or.inl ne350)
      have F372 := F356.other W367 (Or.inl ne350)
      have F373 := F357.wr W367
      have F374 := F358.other W367 ne351
      have V_375 : Arv Z h367 r_348 k_r_348 .int (3 : Int32) [(.int (v310 ^^^ (1 : Int32))), (.int v314), (.int v318)] (.int (0 : Int32)) := V367
      obtain ⟨cq376, kq376, q376a, q376b, q376c⟩ := isOf hZ e367 F370
      obtain ⟨_, _, ⟨T376, L376, k376, n376⟩, -, X376, ⟨Lc376, hQ376, l376, y376, z376⟩, st376⟩ := X367.virtualBack hx (y := (⟨"com/example/penstock/penstock/Design", "sizeIndices", "()[I"⟩ : MethodName)) (z := (⟨"com/example/penstock/penstock/Design", "sizeIndices", "()[I"⟩ : MethodName)) hown (mvT hZ (hw _ (List.mem_of_getElem? (i := 21) rfl))) (mvT hZ (hw _ (List.mem_of_getElem? (i := 22) rfl))) (notFace_of_selects (args := #[]) (mvT hZ (hw _ (List.mem_of_getElem? (i := 24) rfl)))) (mvT hZ (hw _ (List.mem_of_getElem? (i := 24) rfl))) (mvT hZ (hw _ (List.mem_of_getElem? (i := 23) rfl))) (by decide) (backOf (W := 0) (own_rm4i3 l Z av hw [] b334 b_342 k_b_342 v310 v314 v318 h367 n0 Z367 F372 F373 F374) hZ (hw _ (List.mem_of_getElem? (i := 25) rfl)) (hw _ (List.mem_of_getElem? (i := 3) rfl)) (by decide) (by decide)) q376a q376c (g := (mkF m 208 #[oi p0, oi p1, oi p2, oi p3, oi p4, oi (3 : Int32), oi v306, oi v310, oi v314, oi v318, oa b320, oa b334, oa r_348, .unset] [(.ref b334)])) rfl (by rw [hml]; rfl) (Steps.refl _) (argsL := []) (rest := []) (lenOf own_pd4 rfl) rfl (by show 2 * 0 + _ ≤ _; exact Nat.le_of_eq rfl) (hb hby at_208) (fun _ _ => ⟨rfl, e367, (by decide : 4 + 1 ≤ _), (by decide : 12 + 3 ≤ _)⟩)
      dsimp only [Pt.U, Pt.locs, Pt.cells, Pt.slots] at X376 l376 y376 z376 st376 hQ376
      have yq376 : k376 = 5 := y376
      have zq376 : n376 = 15 := z376
      subst yq376 zq376
      obtain ⟨r_376, k_r_376, rfl, Nq376, Kq376, gq376_r, Oq376_0⟩ := hQ376
      have N376 : Fr n0 L376 := by rw [l376]; exact Fr.app N367 Nq376
      have Z376 : n0 ≤ T376.heap.size := Nat.le_trans Z367 Kq376.1
      have g_r_376 : n0 ≤ r_376 := Nat.le_trans Z367 gq376_r
      have ne377 : b320 ≠ r_376 := Nat.ne_of_lt (Nat.lt_of_lt_of_le F368.lt gq376_r)
      have ne378 : b334 ≠ r_376 := Nat.ne_of_lt (Nat.lt_of_lt_of_le F370.lt gq376_r)
      have ne379 : b_342 ≠ r_376 := Nat.ne_of_lt (Nat.lt_of_lt_of_le F373.lt gq376_r)
      have ne380 : r_348 ≠ r_376 := Nat.ne_of_lt (Nat.lt_of_lt_of_le V_375.lt gq376_r)
      have F381 := F368.keep Kq376 nin0
      have F382 := F369.keep Kq376
      have F383 := F370.keep Kq376
      have F384 := F371.keep Kq376 nin0
      have F385 := F372.keep Kq376 nin0
      have F386 := F373.keep Kq376
      have F387 := F374.keep Kq376 nin0
      have F388 := V_375.keep Kq376 nin0
      have b389 : (3 : Int32) = (3 : Int32) := (by decide)
      have b390 : v310 = v310 := rfl
      obtain ⟨fs, hr, hrun, hended, hW, hsame⟩ := X376.leave (v := (some (.int (1 : Int32)))) (fun h => by rw [Bd.returns] at h; cases h)
      refine ⟨_, _, pre341 _ ?_, hrun, hended, _, _, rfl, ?_, ⟨_, rfl⟩, hW, hsame.mono (by decide) (by decide)⟩
      · show oS p e below T334 m 114 #[oi p0, oi p1, oi p2, oi p3, oi p4, oi (3 : Int32), oi v306, oi v310, oi v314, oi v318, oa b320, .unset, .unset, .unset] [(.ref b320), (.ref b334), (.ref b334)] _
        refine st342.trans ?_
        show oS p e below T342 m 117 #[oi p0, oi p1, oi p2, oi p3, oi p4, oi (3 : Int32), oi v306, oi v310, oi v314, oi v318, oa b320, .unset, .unset, .unset] [(.ref b334)] _
        refine XS.astore X342.here hx rfl (hb hby at_117) rfl rfl (l' := #[oi p0, oi p1, oi p2, oi p3, oi p4, oi (3 : Int32), oi v306, oi v310, oi v314, oi v318, oa b320, oa b334, .unset, .unset]) rfl ?_
        show oS p e below T342 m 119 #[oi p0, oi p1, oi p2, oi p3, oi p4, oi (3 : Int32), oi v306, oi v310, oi v314, oi v318, oa b320, oa b334, .unset, .unset] [] _
        refine XS.aload X342.here hx rfl (hb hby at_119) rfl rfl ?_
        show oS p e below T342 m 121 #[oi p0, oi p1, oi p2, oi p3, oi p4, oi (3 : Int32), oi v306, oi v310, oi v314, oi v318, oa b320, oa b334, .unset, .unset] [(.ref b334)] _
        refine st348.trans ?_
        show oS p e below T348 m 124 #[oi p0, oi p1, oi p2, oi p3, oi p4, oi (3 : Int32), oi v306, oi v310, oi v314, oi v318, oa b320, oa b334, .unset, .unset] [(.ref r_348)] _
        refine XS.astore X348.here hx rfl (hb hby at_124) rfl rfl (l' := #[oi p0, oi p1, oi p2, oi p3, oi p4, oi (3 : Int32), oi v306, oi v310, oi v314, oi v318, oa b320, oa b334, oa r_348, .unset]) rfl ?_
        show oS p e below T348 m 126 #[oi p0, oi p1, oi p2, oi p3, oi p4, oi (3 : Int32), oi v306, oi v310, oi v314, oi v318, oa b320, oa b334, oa r_348, .unset] [] _
        refine XS.aload X348.here hx rfl (hb hby at_126) rfl rfl ?_
        show oS p e below T348 m 128 #[oi p0, oi p1, oi p2, oi p3, oi p4, oi (3 : Int32), oi v306, oi v310, oi v314, oi v318, oa b320, oa b334, oa r_348, .unset] [(.ref r_348)] _
        refine XS.ifnullNo X348.here hx rfl (hb hby at_128) rfl ?_
        show oS p e below T348 m 131 #[oi p0, oi p1, oi p2, oi p3, oi p4, oi (3 : Int32), oi v306, oi v310, oi v314, oi v318, oa b320, oa b334, oa r_348, .unset] [] _
        refine XS.aload X348.here hx rfl (hb hby at_131) rfl rfl ?_
        show oS p e below T348 m 133 #[oi p0, oi p1, oi p2, oi p3, oi p4, oi (3 : Int32), oi v306, oi v310, oi v314, oi v318, oa b320, oa b334, oa r_348, .unset] [(.ref r_348)] _
        refine oLen X348 hx hZ rfl Oq348_0 (hb hby at_133) ?_
        show oS p e below T348 m 134 #[oi p0, oi p1, oi p2, oi p3, oi p4, oi (3 : Int32), oi v306, oi v310, oi v314, oi v318, oa b320, oa b334, oa r_348, .unset] [(.int (3 : Int32))] _
        refine XS.iload X348.here hx rfl (hb hby at_134) rfl ?_
        show oS p e below T348 m 136 #[oi p0, oi p1, oi p2, oi p3, oi p4, oi (3 : Int32), oi v306, oi v310, oi v314, oi v318, oa b320, oa b334, oa r_348, .unset] [(.int (3 : Int32)), (.int (3 : Int32))] _
        refine XS.icmpYes X348.here hx rfl (pc0 := 136) (pc' := 141) rfl (hb hby at_136) rfl (teq b359).1 (by decide) (by decide) ?_
        show oS p e below T348 m 141 #[oi p0, oi p1, oi p2, oi p3, oi p4, oi (3 : Int32), oi v306, oi v310, oi v314, oi v318, oa b320, oa b334, oa r_348, .unset] [] _
        refine XS.iload X348.here hx rfl (hb hby at_141) rfl ?_
        show oS p e below T348 m 143 #[oi p0, oi p1, oi p2, oi p3, oi p4, oi (3 : Int32), oi v306, oi v310, oi v314, oi v318, oa b320, oa b334, oa r_348, .unset] [(.int (3 : Int32))] _
        refine XS.ifNo X348.here hx rfl (hb hby at_143) rfl ((if0 _ _).trans (tlt b360).2.2.2) ?_
        show oS p e below T348 m 146 #[oi p0, oi p1, oi p2, oi p3, oi p4, oi (3 : Int32), oi v306, oi v310, oi v314, oi v318, oa b320, oa b334, oa r_348, .unset] [] _
        refine XS.aload X348.here hx rfl (hb hby at_146) rfl rfl ?_
        show oS p e below T348 m 148 #[oi p0, oi p1, oi p2, oi p3, oi p4, oi (3 : Int32), oi v306, oi v310, oi v314, oi v318, oa b320, oa b334, oa r_348, .unset] [(.ref r_348)] _
        refine XS.iconst X348.here hx rfl (hb hby at_148) ?_
        show oS p e below T348 m 149 #[oi p0, oi p1, oi p2, oi p3, oi p4, oi (3 : Int32), oi v306, oi v310, oi v314, oi v318, oa b320, oa b334, oa r_348, .unset] [(.int (0 : Int32)), (.ref r_348)] _
        refine oLdI X348 hx hZ rfl Oq348_0 (v := (.int v310)) ⟨by decide, by decide⟩ rfl (hb hby at_149) ?_
        show oS p e below T348 m 150 #[oi p0, oi p1, oi p2, oi p3, oi p4, oi (3 : Int32), oi v306, oi v310, oi v314, oi v318, oa b320, oa b334, oa r_348, .unset] [(.int v310)] _
        refine XS.iload X348.here hx rfl (hb hby at_150) rfl ?_
        show oS p e below T348 m 152 #[oi p0, oi p1, oi p2, oi p3, oi p4, oi (3 : Int32), oi v306, oi v310, oi v314, oi v318, oa b320, oa b334, oa r_348, .unset] [(.int v310), (.int v310)] _
        refine XS.icmpYes X348.here hx rfl (pc0 := 152) (pc' := 157) rfl (hb hby at_152) rfl (teq b361).1 (by decide) (by decide) ?_
        show oS p e below T348 m 157 #[oi p0, oi p1, oi p2, oi p3, oi p4, oi (3 : Int32), oi v306, oi v310, oi v314, oi v318, oa b320, oa b334, oa r_348, .unset] [] _
        refine XS.iload X348.here hx rfl (hb hby at_157) rfl ?_
        show oS p e below T348 m 159 #[oi p0, oi p1, oi p2, oi p3, oi p4, oi (3 : Int32), oi v306, oi v310, oi v314, oi v318, oa b320, oa b334, oa r_348, .unset] [(.int (3 : Int32))] _
        refine XS.iconst X348.here hx rfl (hb hby at_159) ?_
        show oS p e below T348 m 160 #[oi p0, oi p1, oi p2, oi p3, oi p4, oi (3 : Int32), oi v306, oi v310, oi v314, oi v318, oa b320, oa b334, oa r_348, .unset] [(.int (1 : Int32)), (.int (3 : Int32))] _
        refine XS.icmpNo X348.here hx rfl (hb hby at_160) rfl (tlt b362).2.2.2 ?_
        show oS p e below T348 m 163 #[oi p0, oi p1, oi p2, oi p3, oi p4, oi (3 : Int32), oi v306, oi v310, oi v314, oi v318, oa b320, oa b334, oa r_348, .unset] [] _
        refine XS.aload X348.here hx rfl (hb hby at_163) rfl rfl ?_
        show oS p e below T348 m 165 #[oi p0, oi p1, oi p2, oi p3, oi p4, oi (3 : Int32), oi v306, oi v310, oi v314, oi v318, oa b320, oa b334, oa r_348, .unset] [(.ref r_348)] _
        refine XS.iconst X348.here hx rfl (hb hby at_165) ?_
        show oS p e below T348 m 166 #[oi p0, oi p1, oi p2, oi p3, oi p4, oi (3 : Int32), oi v306, oi v310, oi v314, oi v318, oa b320, oa b334, oa r_348, .unset] [(.int (1 : Int32)), (.ref r_348)] _
        refine oLdI X348 hx hZ rfl Oq348_0 (v := (.int v314)) ⟨by decide, by decide⟩ rfl (hb hby at_166) ?_
        show oS p e below T348 m 167 #[oi p0, oi p1, oi p2, oi p3, oi p4, oi (3 : Int32), oi v306, oi v310, oi v314, oi v318, oa b320, oa b334, oa r_348, .unset] [(.int v314)] _
        refine XS.iload X348.here hx rfl (hb hby at_167) rfl ?_
        show oS p e below T348 m 169 #[oi p0, oi p1, oi p2, oi p3, oi p4, oi (3 : Int32), oi v306, oi v310, oi v314, oi v318, oa b320, oa b334, oa r_348, .unset] [(.int v314), (.int v314)] _
        refine XS.icmpYes X348.here hx rfl (pc0 := 169) (pc' := 174) rfl (hb hby at_169) rfl (teq b363).1 (by decide) (by decide) ?_
        show oS p e below T348 m 174 #[oi p0, oi p1, oi p2, oi p3, oi p4, oi (3 : Int32), oi v306, oi v310, oi v314, oi v318, oa b320, oa b334, oa r_348, .unset] [] _
        refine XS.iload X348.here hx rfl (hb hby at_174) rfl ?_
        show oS p e below T348 m 176 #[oi p0, oi p1, oi p2, oi p3, oi p4, oi (3 : Int32), oi v306, oi v310, oi v314, oi v318, oa b320, oa b334, oa r_348, .unset] [(.int (3 : Int32))] _
        refine XS.iconst X348.here hx rfl (hb hby at_176) ?_
        show oS p e below T348 m 177 #[oi p0, oi p1, oi p2, oi p3, oi p4, oi (3 : Int32), oi v306, oi v310, oi v314, oi v318, oa b320, oa b334, oa r_348, .unset] [(.int (2 : Int32)), (.int (3 : Int32))] _
        refine XS.icmpNo X348.here hx rfl (hb hby at_177) rfl (tlt b364).2.2.2 ?_
        show oS p e below T348 m 180 #[oi p0, oi p1, oi p2, oi p3, oi p4, oi (3 : Int32), oi v306, oi v310, oi v314, oi v318, oa b320, oa b334, oa r_348, .unset] [] _
        refine XS.aload X348.here hx rfl (hb hby at_180) rfl rfl ?_
        show oS p e below T348 m 182 #[oi p0, oi p1, oi p2, oi p3, oi p4, oi (3 : Int32), oi v306, oi v310, oi v314, oi v318, oa b320, oa b334, oa r_348, .unset] [(.ref r_348)] _
        refine XS.iconst X348.here hx rfl (hb hby at_182) ?_
        show oS p e below T348 m 183 #[oi p0, oi p1, oi p2, oi p3, oi p4, oi (3 : Int32), oi v306, oi v310, oi v314, oi v318, oa b320, oa b334, oa r_348, .unset] [(.int (2 : Int32)), (.ref r_348)] _
        refine oLdI X348 hx hZ rfl Oq348_0 (v := (.int v318)) ⟨by decide, by decide⟩ rfl (hb hby at_183) ?_
        show oS p e below T348 m 184 #[oi p0, oi p1, oi p2, oi p3, oi p4, oi (3 : Int32), oi v306, oi v310, oi v314, oi v318, oa b320, oa b334, oa r_348, .unset] [(.int v318)] _
        refine XS.iload X348.here hx rfl (hb hby at_184) rfl ?_
        show oS p e below T348 m 186 #[oi p0, oi p1, oi p2, oi p3, oi p4, oi (3 : Int32), oi v306, oi v310, oi v314, oi v318, oa b320, oa b334, oa r_348, .unset] [(.int v318), (.int v318)] _
        refine XS.icmpYes X348.here hx rfl (pc0 := 186) (pc' := 191) rfl (hb hby at_186) rfl (teq b365).1 (by decide) (by decide) ?_
        show oS p e below T348 m 191 #[oi p0, oi p1, oi p2, oi p3, oi p4, oi (3 : Int32), oi v306, oi v310, oi v314, oi v318, oa b320, oa b334, oa r_348, .unset] [] _
        refine XS.iload X348.here hx rfl (hb hby at_191) rfl ?_
        show oS p e below T348 m 193 #[oi p0, oi p1, oi p2, oi p3, oi p4, oi (3 : Int32), oi v306, oi v310, oi v314, oi v318, oa b320, oa b334, oa r_348, .unset] [(.int (3 : Int32))] _
        refine XS.ifNo X348.here hx rfl (hb hby at_193) rfl ((if0 _ _).trans (tlt b366).2.2.2) ?_
        show oS p e below T348 m 196 #[oi p0, oi p1, oi p2, oi p3, oi p4, oi (3 : Int32), oi v306, oi v310, oi v314, oi v318, oa b320, oa b334, oa r_348, .unset] [] _
        refine XS.aload X348.here hx rfl (hb hby at_196) rfl rfl ?_
        show oS p e below T348 m 198 #[oi p0, oi p1, oi p2, oi p3, oi p4, oi (3 : Int32), oi v306, oi v310, oi v314, oi v318, oa b320, oa b334, oa r_348, .unset] [(.ref r_348)] _
        refine XS.iconst X348.here hx rfl (hb hby at_198) ?_
        show oS p e below T348 m 199 #[oi p0, oi p1, oi p2, oi p3, oi p4, oi (3 : Int32), oi v306, oi v310, oi v314, oi v318, oa b320, oa b334, oa r_348, .unset] [(.int (0 : Int32)), (.ref r_348)] _
        refine XS.aload X348.here hx rfl (hb hby at_199) rfl rfl ?_
        show oS p e below T348 m 201 #[oi p0, oi p1, oi p2, oi p3, oi p4, oi (3 : Int32), oi v306, oi v310, oi v314, oi v318, oa b320, oa b334, oa r_348, .unset] [(.ref r_348), (.int (0 : Int32)), (.ref r_348)] _
        refine XS.iconst X348.here hx rfl (hb hby at_201) ?_
        show oS p e below T348 m 202 #[oi p0, oi p1, oi p2, oi p3, oi p4, oi (3 : Int32), oi v306, oi v310, oi v314, oi v318, oa b320, oa b334, oa r_348, .unset] [(.int (0 : Int32)), (.ref r_348), (.int (0 : Int32)), (.ref r_348)] _
        refine oLdI X348 hx hZ rfl Oq348_0 (v := (.int v310)) ⟨by decide, by decide⟩ rfl (hb hby at_202) ?_
        show oS p e below T348 m 203 #[oi p0, oi p1, oi p2, oi p3, oi p4, oi (3 : Int32), oi v306, oi v310, oi v314, oi v318, oa b320, oa b334, oa r_348, .unset] [(.int v310), (.int (0 : Int32)), (.ref r_348)] _
        refine XS.iconst X348.here hx rfl (hb hby at_203) ?_
        show oS p e below T348 m 204 #[oi p0, oi p1, oi p2, oi p3, oi p4, oi (3 : Int32), oi v306, oi v310, oi v314, oi v318, oa b320, oa b334, oa r_348, .unset] [(.int (1 : Int32)), (.int v310), (.int (0 : Int32)), (.ref r_348)] _
        refine XS.ixor X348.here hx rfl (hb hby at_204) rfl ?_
        show oS p e below T348 m 205 #[oi p0, oi p1, oi p2, oi p3, oi p4, oi (3 : Int32), oi v306, oi v310, oi v314, oi v318, oa b320, oa b334, oa r_348, .unset] [(.int (v310 ^^^ (1 : Int32))), (.int (0 : Int32)), (.ref r_348)] _
        refine st367 _ ?_
        show oS p e below T367 m 206 #[oi p0, oi p1, oi p2, oi p3, oi p4, oi (3 : Int32), oi v306, oi v310, oi v314, oi v318, oa b320, oa b334, oa r_348, .unset] [] _
        refine XS.aload X367.here hx rfl (hb hby at_206) rfl rfl ?_
        show oS p e below T367 m 208 #[oi p0, oi p1, oi p2, oi p3, oi p4, oi (3 : Int32), oi v306, oi v310, oi v314, oi v318, oa b320, oa b334, oa r_348, .unset] [(.ref b334)] _
        refine st376.trans ?_
        show oS p e below T376 m 211 #[oi p0, oi p1, oi p2, oi p3, oi p4, oi (3 : Int32), oi v306, oi v310, oi v314, oi v318, oa b320, oa b334, oa r_348, .unset] [(.ref r_376)] _
        refine XS.astore X376.here hx rfl (hb hby at_211) rfl rfl (l' := #[oi p0, oi p1, oi p2, oi p3, oi p4, oi (3 : Int32), oi v306, oi v310, oi v314, oi v318, oa b320, oa b334, oa r_348, oa r_376]) rfl ?_
        show oS p e below T376 m 213 #[oi p0, oi p1, oi p2, oi p3, oi p4, oi (3 : Int32), oi v306, oi v310, oi v314, oi v318, oa b320, oa b334, oa r_348, oa r_376] [] _
        refine XS.aload X376.here hx rfl (hb hby at_213) rfl rfl ?_
        show oS p e below T376 m 215 #[oi p0, oi p1, oi p2, oi p3, oi p4, oi (3 : Int32), oi v306, oi v310, oi v314, oi v318, oa b320, oa b334, oa r_348, oa r_376] [(.ref r_376)] _
        refine XS.ifnullNo X376.here hx rfl (hb hby at_215) rfl ?_
        show oS p e below T376 m 218 #[oi p0, oi p1, oi p2, oi p3, oi p4, oi (3 : Int32), oi v306, oi v310, oi v314, oi v318, oa b320, oa b334, oa r_348, oa r_376] [] _
        refine XS.aload X376.here hx rfl (hb hby at_218) rfl rfl ?_
        show oS p e below T376 m 220 #[oi p0, oi p1, oi p2, oi p3, oi p4, oi (3 : Int32), oi v306, oi v310, oi v314, oi v318, oa b320, oa b334, oa r_348, oa r_376] [(.ref r_376)] _
        refine XS.aload X376.here hx rfl (hb hby at_220) rfl rfl ?_
        show oS p e below T376 m 222 #[oi p0, oi p1, oi p2, oi p3, oi p4, oi (3 : Int32), oi v306, oi v310, oi v314, oi v318, oa b320, oa b334, oa r_348, oa r_376] [(.ref r_348), (.ref r_376)] _
        refine Jvm.RoadKit.acmp (g := (mkF m 222 #[oi p0, oi p1, oi p2, oi p3, oi p4, oi (3 : Int32), oi v306, oi v310, oi v314, oi v318, oa b320, oa b334, oa r_348, oa r_376] [(.ref r_348), (.ref r_376)])) X376 hx rfl rfl rfl (pc0 := 222) (pc' := 225) (same := false) rfl (hb hby at_222) rfl (decide_eq_false fun q => (Ne.symm ne380) (Value.ref.inj q)) (by decide) (by decide) ?_
        show oS p e below T376 m 225 #[oi p0, oi p1, oi p2, oi p3, oi p4, oi (3 : Int32), oi v306, oi v310, oi v314, oi v318, oa b320, oa b334, oa r_348, oa r_376] [] _
        refine XS.aload X376.here hx rfl (hb hby at_225) rfl rfl ?_
        show oS p e below T376 m 227 #[oi p0, oi p1, oi p2, oi p3, oi p4, oi (3 : Int32), oi v306, oi v310, oi v314, oi v318, oa b320, oa b334, oa r_348, oa r_376] [(.ref r_376)] _
        refine oLen X376 hx hZ rfl Oq376_0 (hb hby at_227) ?_
        show oS p e below T376 m 228 #[oi p0, oi p1, oi p2, oi p3, oi p4, oi (3 : Int32), oi v306, oi v310, oi v314, oi v318, oa b320, oa b334, oa r_348, oa r_376] [(.int (3 : Int32))] _
        refine XS.iload X376.here hx rfl (hb hby at_228) rfl ?_
        show oS p e below T376 m 230 #[oi p0, oi p1, oi p2, oi p3, oi p4, oi (3 : Int32), oi v306, oi v310, oi v314, oi v318, oa b320, oa b334, oa r_348, oa r_376] [(.int (3 : Int32)), (.int (3 : Int32))] _
        refine XS.icmpNo X376.here hx rfl (hb hby at_230) rfl (teq b389).2 ?_
        show oS p e below T376 m 233 #[oi p0, oi p1, oi p2, oi p3, oi p4, oi (3 : Int32), oi v306, oi v310, oi v314, oi v318, oa b320, oa b334, oa r_348, oa r_376] [] _
        refine XS.aload X376.here hx rfl (hb hby at_233) rfl rfl ?_
        show oS p e below T376 m 235 #[oi p0, oi p1, oi p2, oi p3, oi p4, oi (3 : Int32), oi v306, oi v310, oi v314, oi v318, oa b320, oa b334, oa r_348, oa r_376] [(.ref r_376)] _
        refine XS.iconst X376.here hx rfl (hb hby at_235) ?_
        show oS p e below T376 m 236 #[oi p0, oi p1, oi p2, oi p3, oi p4, oi (3 : Int32), oi v306, oi v310, oi v314, oi v318, oa b320, oa b334, oa r_348, oa r_376] [(.int (0 : Int32)), (.ref r_376)] _
        refine oLdI X376 hx hZ rfl Oq376_0 (v := (.int v310)) ⟨by decide, by decide⟩ rfl (hb hby at_236) ?_
        show oS p e below T376 m 237 #[oi p0, oi p1, oi p2, oi p3, oi p4, oi (3 : Int32), oi v306, oi v310, oi v314, oi v318, oa b320, oa b334, oa r_348, oa r_376] [(.int v310)] _
        refine XS.iload X376.here hx rfl (hb hby at_237) rfl ?_
        show oS p e below T376 m 239 #[oi p0, oi p1, oi p2, oi p3, oi p4, oi (3 : Int32), oi v306, oi v310, oi v314, oi v318, oa b320, oa b334, oa r_348, oa r_376] [(.int v310), (.int v310)] _
        refine XS.icmpYes X376.here hx rfl (pc0 := 239) (pc' := 244) rfl (hb hby at_239) rfl (teq b390).1 (by decide) (by decide) ?_
        show oS p e below T376 m 244 #[oi p0, oi p1, oi p2, oi p3, oi p4, oi (3 : Int32), oi v306, oi v310, oi v314, oi v318, oa b320, oa b334, oa r_348, oa r_376] [] _
        refine XS.iconst X376.here hx rfl (hb hby at_244) ?_
        show oS p e below T376 m 245 #[oi p0, oi p1, oi p2, oi p3, oi p4, oi (3 : Int32), oi v306, oi v310, oi v314, oi v318, oa b320, oa b334, oa r_348, oa r_376] [(.int (1 : Int32))] _
        exact retN X376 hx (t := .boolean) Bd.returns (by simp) (hb hby at_245) hr
      · show own_Q0 Z p0 p1 p2 p3 p4 h0 n0 _ T376.heap _
        exact ⟨rfl, N376⟩
    · skip
      obtain ⟨r0, r1, r2⟩ := own_all3 hbad
      obtain ⟨_, _, ⟨T391, L391, k391, n391⟩, -, X391, ⟨Lc391, hQ391, l391, y391, z391⟩, st391⟩ := X334.specialBack hx (y := (⟨"com/example/penstock/penstock/Design", "<init>", "([I)V"⟩ : MethodName)) rfl hown (mvT hZ (hw _ (List.mem_of_getElem? (i := 4) rfl))) (mvT hZ (hw _ (List.mem_of_getElem? (i := 5) rfl))) (mvT hZ (hw _ (List.mem_of_getElem? (i := 6) rfl))) (by decide) (backOf (W := 1) (own_rm1b3 l Z av hw [] b334 b320 k320 v310 v314 v318 h334 n0 Z334 A334 F_338 F_339 F_340 g_b334 F336 F337 (ne335) (r0.1) (r1.1) (r2.1) (r0.2) (r1.2) (r2.2)) hZ (hw _ (List.mem_of_getElem? (i := 6) rfl)) (hw _ (List.mem_of_getElem? (i := 3) rfl)) (by decide) (by decide)) (g := (mkF m 114 #[oi p0, oi p1, oi p2, oi p3, oi p4, oi (3 : Int32), oi v306, oi v310, oi v314, oi v318, oa b320, .unset, .unset, .unset] [(.ref b320), (.ref b334), (.ref b334)])) rfl (by rw [hml]; rfl) (Steps.refl _) (a := b334) (argsL := [(.ref b320)]) (rest := [(.ref b334)]) (lenOf own_pd3 rfl) rfl (by show 2 * 0 + _ ≤ _; exact Nat.le_of_eq rfl) (hb hby at_114) (fun _ _ => ⟨rfl, e334, (by decide : 2 + 1 ≤ _), (by decide : 6 + 3 ≤ _)⟩)
      dsimp only [Pt.U, Pt.locs, Pt.cells, Pt.slots] at X391 l391 y391 z391 st391 hQ391
      have yq391 : k391 = 3 := y391
      have zq391 : n391 = 9 := z391
      subst yq391 zq391
      obtain ⟨b_391, k_b_391, rfl, Nq391, Kq391, gq391_b, Oq391_0, Oq391_1, Oq391_2, Oq391_3⟩ := hQ391
      have N391 : Fr n0 L391 := by rw [l391]; exact Fr.app N331 Nq391
      have Z391 : n0 ≤ T391.heap.size := Nat.le_trans Z334 Kq391.1
      have g_b_391 : n0 ≤ b_391 := Nat.le_trans Z334 gq391_b
      have ne392 : b320 ≠ b_391 := Nat.ne_of_lt (Nat.lt_of_lt_of_le F336.lt gq391_b)
      have ne393 : b334 ≠ b_391 := Nat.ne_of_lt (Nat.lt_of_lt_of_le A334.lt gq391_b)
      have F394 := F336.keep Kq391 (ninS ne335 nin0)
      have F395 := F337.keep Kq391
      have F396 := A334.keep Kq391
      obtain ⟨cq397, kq397, q397a, q397b, q397c⟩ := isOf hZ rfl Oq391_0
      obtain ⟨_, _, ⟨T397, L397, k397, n397⟩, -, X397, ⟨Lc397, hQ397, l397, y397, z397⟩, st397⟩ := X391.virtualBack hx (y := (⟨"com/example/penstock/penstock/Design", "sizeIndices", "()[I"⟩ : MethodName)) (z := (⟨"com/example/penstock/penstock/Design", "sizeIndices", "()[I"⟩ : MethodName)) hown (mvT hZ (hw _ (List.mem_of_getElem? (i := 21) rfl))) (mvT hZ (hw _ (List.mem_of_getElem? (i := 22) rfl))) (notFace_of_selects (args := #[]) (mvT hZ (hw _ (List.mem_of_getElem? (i := 24) rfl)))) (mvT hZ (hw _ (List.mem_of_getElem? (i := 24) rfl))) (mvT hZ (hw _ (List.mem_of_getElem? (i := 23) rfl))) (by decide) (backOf (W := 0) (own_rm4b3 l Z av hw [] b334 b_391 k_b_391 (v310.toInt8.toInt32) (v314.toInt8.toInt32) (v318.toInt8.toInt32) T391.heap n0 Z391 Oq391_2 Oq391_1 Oq391_3) hZ (hw _ (List.mem_of_getElem? (i := 25) rfl)) (hw _ (List.mem_of_getElem? (i := 3) rfl)) (by decide) (by decide)) q397a q397c (g := (mkF m 121 #[oi p0, oi p1, oi p2, oi p3, oi p4, oi (3 : Int32), oi v306, oi v310, oi v314, oi v318, oa b320, oa b334, .unset, .unset] [(.ref b334)])) rfl (by rw [hml]; rfl) (Steps.refl _) (argsL := []) (rest := []) (lenOf own_pd4 rfl) rfl (by show 2 * 0 + _ ≤ _; exact Nat.le_of_eq rfl) (hb hby at_121) (fun _ _ => ⟨rfl, rfl, (by decide : 3 + 1 ≤ _), (by decide : 9 + 3 ≤ _)⟩)
      dsimp only [Pt.U, Pt.locs, Pt.cells, Pt.slots] at X397 l397 y397 z397 st397 hQ397
      have yq397 : k397 = 4 := y397
      have zq397 : n397 = 12 := z397
      subst yq397 zq397
      obtain ⟨r_397, k_r_397, rfl, Nq397, Kq397, gq397_r, Oq397_0⟩ := hQ397
      have N397 : Fr n0 L397 := by rw [l397]; exact Fr.app N391 Nq397
      have Z397 : n0 ≤ T397.heap.size := Nat.le_trans Z391 Kq397.1
      have g_r_397 : n0 ≤ r_397 := Nat.le_trans Z391 gq397_r
      have ne398 : b320 ≠ r_397 := Nat.ne_of_lt (Nat.lt_of_lt_of_le F394.lt gq397_r)
      have ne399 : b334 ≠ r_397 := Nat.ne_of_lt (Nat.lt_of_lt_of_le Oq391_0.lt gq397_r)
      have ne400 : b_391 ≠ r_397 := Nat.ne_of_lt (Nat.lt_of_lt_of_le Oq391_3.lt gq397_r)
      have F401 := F394.keep Kq397 nin0
      have F402 := F395.keep Kq397
      have F403 := Oq391_0.keep Kq397
      have F404 := Oq391_1.keep Kq397 nin0
      have F405 := Oq391_2.keep Kq397 nin0
      have F406 := Oq391_3.keep Kq397 nin0
      have b407 : (3 : Int32) = (3 : Int32) := (by decide)
      have b408 : (0 : Int32) < (3 : Int32) := (by decide)
      have b409 : ((v310.toInt8.toInt32) &&& (255 : Int32)) = v310 := own_bb r0
      have b410 : (1 : Int32) < (3 : Int32) := (by decide)
      have b411 : ((v314.toInt8.toInt32) &&& (255 : Int32)) = v314 := own_bb r1
      have b412 : (2 : Int32) < (3 : Int32) := (by decide)
      have b413 : ((v318.toInt8.toInt32) &&& (255 : Int32)) = v318 := own_bb r2
      have b414 : (0 : Int32) < (3 : Int32) := (by decide)
      obtain ⟨T415, h415, X415, e415, W415, V415, st415⟩ := oStI X397 hx hZ rfl Oq397_0 (j := (0 : Int32)) ⟨by decide, by decide⟩ 0 rfl (Nat.le_of_ble_eq_true rfl) (g := (mkF m 205 #[oi p0, oi p1, oi p2, oi p3, oi p4, oi (3 : Int32), oi v306, oi v310, oi v314, oi v318, oa b320, oa b334, oa r_397, .unset] [(.int (((v310.toInt8.toInt32) &&& (255 : Int32)) ^^^ (1 : Int32))), (.int (0 : Int32)), (.ref r_397)])) rfl rfl (hb hby at_205)
      obtain ⟨Lo415, X415, N415⟩ := oOpq X415 (Fr.snoc X415 N397 g_r_397)
      have Z415 := Nat.le_trans Z397 (Keep.of_wr W415).1
      have F416 := F401.other W415 ne398
      have F417 := F402.wr W415
      have F418 := F403.wr W415
      have F419 := F404.other W415 (Or.inl ne399)
      have F420 := F405.other W415 (Or.inl ne399)
      have F421 := F406.other W415 ne400
      have V_422 : Arv Z h415 r_397 k_r_397 .int (3 : Int32) [(.int (((v310.toInt8.toInt32) &&& (255 : Int32)) ^^^ (1 : Int32))), (.int ((v314.toInt8.toInt32) &&& (255 : Int32))), (.int ((v318.toInt8.toInt32) &&& (255 : Int32)))] (.int (0 : Int32)) := V415
      obtain ⟨cq423, kq423, q423a, q423b, q423c⟩ := isOf hZ e415 F418
      obtain ⟨_, _, ⟨T423, L423, k423, n423⟩, -, X423, ⟨Lc423, hQ423, l423, y423, z423⟩, st423⟩ := X415.virtualBack hx (y := (⟨"com/example/penstock/penstock/Design", "sizeIndices", "()[I"⟩ : MethodName)) (z := (⟨"com/example/penstock/penstock/Design", "sizeIndices", "()[I"⟩ : MethodName)) hown (mvT hZ (hw _ (List.mem_of_getElem? (i := 21) rfl))) (mvT hZ (hw _ (List.mem_of_getElem? (i := 22) rfl))) (notFace_of_selects (args := #[]) (mvT hZ (hw _ (List.mem_of_getElem? (i := 24) rfl)))) (mvT hZ (hw _ (List.mem_of_getElem? (i := 24) rfl))) (mvT hZ (hw _ (List.mem_of_getElem? (i := 23) rfl))) (by decide) (backOf (W := 0) (own_rm4b3 l Z av hw [] b334 b_391 k_b_391 (v310.toInt8.toInt32) (v314.toInt8.toInt32) (v318.toInt8.toInt32) h415 n0 Z415 F420 F419 F421) hZ (hw _ (List.mem_of_getElem? (i := 25) rfl)) (hw _ (List.mem_of_getElem? (i := 3) rfl)) (by decide) (by decide)) q423a q423c (g := (mkF m 208 #[oi p0, oi p1, oi p2, oi p3, oi p4, oi (3 : Int32), oi v306, oi v310, oi v314, oi v318, oa b320, oa b334, oa r_397, .unset] [(.ref b334)])) rfl (by rw [hml]; rfl) (Steps.refl _) (argsL := []) (rest := []) (lenOf own_pd4 rfl) rfl (by show 2 * 0 + _ ≤ _; exact Nat.le_of_eq rfl) (hb hby at_208) (fun _ _ => ⟨rfl, e415, (by decide : 4 + 1 ≤ _), (by decide : 12 + 3 ≤ _)⟩)
      dsimp only [Pt.U, Pt.locs, Pt.cells, Pt.slots] at X423 l423 y423 z423 st423 hQ423
      have yq423 : k423 = 5 := y423
      have zq423 : n423 = 15 := z423
      subst yq423 zq423
      obtain ⟨r_423, k_r_423, rfl, Nq423, Kq423, gq423_r, Oq423_0⟩ := hQ423
      have N423 : Fr n0 L423 := by rw [l423]; exact Fr.app N415 Nq423
      have Z423 : n0 ≤ T423.heap.size := Nat.le_trans Z415 Kq423.1
      have g_r_423 : n0 ≤ r_423 := Nat.le_trans Z415 gq423_r
      have ne424 : b320 ≠ r_423 := Nat.ne_of_lt (Nat.lt_of_lt_of_le F416.lt gq423_r)
      have ne425 : b334 ≠ r_423 := Nat.ne_of_lt (Nat.lt_of_lt_of_le F418.lt gq423_r)
      have ne426 : b_391 ≠ r_423 := Nat.ne_of_lt (Nat.lt_of_lt_of_le F421.lt gq423_r)
      have ne427 : r_397 ≠ r_423 := Nat.ne_of_lt (Nat.lt_of_lt_of_le V_422.lt gq423_r)
      have F428 := F416.keep Kq423 nin0
      have F429 := F417.keep Kq423
      have F430 := F418.keep Kq423
      have F431 := F419.keep Kq423 nin0
      have F432 := F420.keep Kq423 nin0
      have F433 := F421.keep Kq423 nin0
      have F434 := V_422.keep Kq423 nin0
      have b435 : (3 : Int32) = (3 : Int32) := (by decide)
      have b436 : ((v310.toInt8.toInt32) &&& (255 : Int32)) = v310 := own_bb r0
      obtain ⟨fs, hr, hrun, hended, hW, hsame⟩ := X423.leave (v := (some (.int (1 : Int32)))) (fun h => by rw [Bd.returns] at h; cases h)
      refine ⟨_, _, pre341 _ ?_, hrun, hended, _, _, rfl, ?_, ⟨_, rfl⟩, hW, hsame.mono (by decide) (by decide)⟩
      · show oS p e below T334 m 114 #[oi p0, oi p1, oi p2, oi p3, oi p4, oi (3 : Int32), oi v306, oi v310, oi v314, oi v318, oa b320, .unset, .unset, .unset] [(.ref b320), (.ref b334), (.ref b334)] _
        refine st391.trans ?_
        show oS p e below T391 m 117 #[oi p0, oi p1, oi p2, oi p3, oi p4, oi (3 : Int32), oi v306, oi v310, oi v314, oi v318, oa b320, .unset, .unset, .unset] [(.ref b334)] _
        refine XS.astore X391.here hx rfl (hb hby at_117) rfl rfl (l' := #[oi p0, oi p1, oi p2, oi p3, oi p4, oi (3 : Int32), oi v306, oi v310, oi v314, oi v318, oa b320, oa b334, .unset, .unset]) rfl ?_
        show oS p e below T391 m 119 #[oi p0, oi p1, oi p2, oi p3, oi p4, oi (3 : Int32), oi v306, oi v310, oi v314, oi v318, oa b320, oa b334, .unset, .unset] [] _
        refine XS.aload X391.here hx rfl (hb hby at_119) rfl rfl ?_
        show oS p e below T391 m 121 #[oi p0, oi p1, oi p2, oi p3, oi p4, oi (3 : Int32), oi v306, oi v310, oi v314, oi v318, oa b320, oa b334, .unset, .unset] [(.ref b334)] _
        refine st397.trans ?_
        show oS p e below T397 m 124 #[oi p0, oi p1, oi p2, oi p3, oi p4, oi (3 : Int32), oi v306, oi v310, oi v314, oi v318, oa b320, oa b334, .unset, .unset] [(.ref r_397)] _
        refine XS.astore X397.here hx rfl (hb hby at_124) rfl rfl (l' := #[oi p0, oi p1, oi p2, oi p3, oi p4, oi (3 : Int32), oi v306, oi v310, oi v314, oi v318, oa b320, oa b334, oa r_397, .unset]) rfl ?_
        show oS p e below T397 m 126 #[oi p0, oi p1, oi p2, oi p3, oi p4, oi (3 : Int32), oi v306, oi v310, oi v314, oi v318, oa b320, oa b334, oa r_397, .unset] [] _
        refine XS.aload X397.here hx rfl (hb hby at_126) rfl rfl ?_
        show oS p e below T397 m 128 #[oi p0, oi p1, oi p2, oi p3, oi p4, oi (3 : Int32), oi v306, oi v310, oi v314, oi v318, oa b320, oa b334, oa r_397, .unset] [(.ref r_397)] _
        refine XS.ifnullNo X397.here hx rfl (hb hby at_128) rfl ?_
        show oS p e below T397 m 131 #[oi p0, oi p1, oi p2, oi p3, oi p4, oi (3 : Int32), oi v306, oi v310, oi v314, oi v318, oa b320, oa b334, oa r_397, .unset] [] _
        refine XS.aload X397.here hx rfl (hb hby at_131) rfl rfl ?_
        show oS p e below T397 m 133 #[oi p0, oi p1, oi p2, oi p3, oi p4, oi (3 : Int32), oi v306, oi v310, oi v314, oi v318, oa b320, oa b334, oa r_397, .unset] [(.ref r_397)] _
        refine oLen X397 hx hZ rfl Oq397_0 (hb hby at_133) ?_
        show oS p e below T397 m 134 #[oi p0, oi p1, oi p2, oi p3, oi p4, oi (3 : Int32), oi v306, oi v310, oi v314, oi v318, oa b320, oa b334, oa r_397, .unset] [(.int (3 : Int32))] _
        refine XS.iload X397.here hx rfl (hb hby at_134) rfl ?_
        show oS p e below T397 m 136 #[oi p0, oi p1, oi p2, oi p3, oi p4, oi (3 : Int32), oi v306, oi v310, oi v314, oi v318, oa b320, oa b334, oa r_397, .unset] [(.int (3 : Int32)), (.int (3 : Int32))] _
        refine XS.icmpYes X397.here hx rfl (pc0 := 136) (pc' := 141) rfl (hb hby at_136) rfl (teq b407).1 (by decide) (by decide) ?_
        show oS p e below T397 m 141 #[oi p0, oi p1, oi p2, oi p3, oi p4, oi (3 : Int32), oi v306, oi v310, oi v314, oi v318, oa b320, oa b334, oa r_397, .unset] [] _
        refine XS.iload X397.here hx rfl (hb hby at_141) rfl ?_
        show oS p e below T397 m 143 #[oi p0, oi p1, oi p2, oi p3, oi p4, oi (3 : Int32), oi v306, oi v310, oi v314, oi v318, oa b320, oa b334, oa r_397, .unset] [(.int (3 : Int32))] _
        refine XS.ifNo X397.here hx rfl (hb hby at_143) rfl ((if0 _ _).trans (tlt b408).2.2.2) ?_
        show oS p e below T397 m 146 #[oi p0, oi p1, oi p2, oi p3, oi p4, oi (3 : Int32), oi v306, oi v310, oi v314, oi v318, oa b320, oa b334, oa r_397, .unset] [] _
        refine XS.aload X397.here hx rfl (hb hby at_146) rfl rfl ?_
        show oS p e below T397 m 148 #[oi p0, oi p1, oi p2, oi p3, oi p4, oi (3 : Int32), oi v306, oi v310, oi v314, oi v318, oa b320, oa b334, oa r_397, .unset] [(.ref r_397)] _
        refine XS.iconst X397.here hx rfl (hb hby at_148) ?_
        show oS p e below T397 m 149 #[oi p0, oi p1, oi p2, oi p3, oi p4, oi (3 : Int32), oi v306, oi v310, oi v314, oi v318, oa b320, oa b334, oa r_397, .unset] [(.int (0 : Int32)), (.ref r_397)] _
        refine oLdI X397 hx hZ rfl Oq397_0 (v := (.int ((v310.toInt8.toInt32) &&& (255 : Int32)))) ⟨by decide, by decide⟩ rfl (hb hby at_149) ?_
        show oS p e below T397 m 150 #[oi p0, oi p1, oi p2, oi p3, oi p4, oi (3 : Int32), oi v306, oi v310, oi v314, oi v318, oa b320, oa b334, oa r_397, .unset] [(.int ((v310.toInt8.toInt32) &&& (255 : Int32)))] _
        refine XS.iload X397.here hx rfl (hb hby at_150) rfl ?_
        show oS p e below T397 m 152 #[oi p0, oi p1, oi p2, oi p3, oi p4, oi (3 : Int32), oi v306, oi v310, oi v314, oi v318, oa b320, oa b334, oa r_397, .unset] [(.int v310), (.int ((v310.toInt8.toInt32) &&& (255 : Int32)))] _
        refine XS.icmpYes X397.here hx rfl (pc0 := 152) (pc' := 157) rfl (hb hby at_152) rfl (teq b409).1 (by decide) (by decide) ?_
        show oS p e below T397 m 157 #[oi p0, oi p1, oi p2, oi p3, oi p4, oi (3 : Int32), oi v306, oi v310, oi v314, oi v318, oa b320, oa b334, oa r_397, .unset] [] _
        refine XS.iload X397.here hx rfl (hb hby at_157) rfl ?_
        show oS p e below T397 m 159 #[oi p0, oi p1, oi p2, oi p3, oi p4, oi (3 : Int32), oi v306, oi v310, oi v314, oi v318, oa b320, oa b334, oa r_397, .unset] [(.int (3 : Int32))] _
        refine XS.iconst X397.here hx rfl (hb hby at_159) ?_
        show oS p e below T397 m 160 #[oi p0, oi p1, oi p2, oi p3, oi p4, oi (3 : Int32), oi v306, oi v310, oi v314, oi v318, oa b320, oa b334, oa r_397, .unset] [(.int (1 : Int32)), (.int (3 : Int32))] _
        refine XS.icmpNo X397.here hx rfl (hb hby at_160) rfl (tlt b410).2.2.2 ?_
        show oS p e below T397 m 163 #[oi p0, oi p1, oi p2, oi p3, oi p4, oi (3 : Int32), oi v306, oi v310, oi v314, oi v318, oa b320, oa b334, oa r_397, .unset] [] _
        refine XS.aload X397.here hx rfl (hb hby at_163) rfl rfl ?_
        show oS p e below T397 m 165 #[oi p0, oi p1, oi p2, oi p3, oi p4, oi (3 : Int32), oi v306, oi v310, oi v314, oi v318, oa b320, oa b334, oa r_397, .unset] [(.ref r_397)] _
        refine XS.iconst X397.here hx rfl (hb hby at_165) ?_
        show oS p e below T397 m 166 #[oi p0, oi p1, oi p2, oi p3, oi p4, oi (3 : Int32), oi v306, oi v310, oi v314, oi v318, oa b320, oa b334, oa r_397, .unset] [(.int (1 : Int32)), (.ref r_397)] _
        refine oLdI X397 hx hZ rfl Oq397_0 (v := (.int ((v314.toInt8.toInt32) &&& (255 : Int32)))) ⟨by decide, by decide⟩ rfl (hb hby at_166) ?_
        show oS p e below T397 m 167 #[oi p0, oi p1, oi p2, oi p3, oi p4, oi (3 : Int32), oi v306, oi v310, oi v314, oi v318, oa b320, oa b334, oa r_397, .unset] [(.int ((v314.toInt8.toInt32) &&& (255 : Int32)))] _
        refine XS.iload X397.here hx rfl (hb hby at_167) rfl ?_
        show oS p e below T397 m 169 #[oi p0, oi p1, oi p2, oi p3, oi p4, oi (3 : Int32), oi v306, oi v310, oi v314, oi v318, oa b320, oa b334, oa r_397, .unset] [(.int v314), (.int ((v314.toInt8.toInt32) &&& (255 : Int32)))] _
        refine XS.icmpYes X397.here hx rfl (pc0 := 169) (pc' := 174) rfl (hb hby at_169) rfl (teq b411).1 (by decide) (by decide) ?_
        show oS p e below T397 m 174 #[oi p0, oi p1, oi p2, oi p3, oi p4, oi (3 : Int32), oi v306, oi v310, oi v314, oi v318, oa b320, oa b334, oa r_397, .unset] [] _
        refine XS.iload X397.here hx rfl (hb hby at_174) rfl ?_
        show oS p e below T397 m 176 #[oi p0, oi p1, oi p2, oi p3, oi p4, oi (3 : Int32), oi v306, oi v310, oi v314, oi v318, oa b320, oa b334, oa r_397, .unset] [(.int (3 : Int32))] _
        refine XS.iconst X397.here hx rfl (hb hby at_176) ?_
        show oS p e below T397 m 177 #[oi p0, oi p1, oi p2, oi p3, oi p4, oi (3 : Int32), oi v306, oi v310, oi v314, oi v318, oa b320, oa b334, oa r_397, .unset] [(.int (2 : Int32)), (.int (3 : Int32))] _
        refine XS.icmpNo X397.here hx rfl (hb hby at_177) rfl (tlt b412).2.2.2 ?_
        show oS p e below T397 m 180 #[oi p0, oi p1, oi p2, oi p3, oi p4, oi (3 : Int32), oi v306, oi v310, oi v314, oi v318, oa b320, oa b334, oa r_397, .unset] [] _
        refine XS.aload X397.here hx rfl (hb hby at_180) rfl rfl ?_
        show oS p e below T397 m 182 #[oi p0, oi p1, oi p2, oi p3, oi p4, oi (3 : Int32), oi v306, oi v310, oi v314, oi v318, oa b320, oa b334, oa r_397, .unset] [(.ref r_397)] _
        refine XS.iconst X397.here hx rfl (hb hby at_182) ?_
        show oS p e below T397 m 183 #[oi p0, oi p1, oi p2, oi p3, oi p4, oi (3 : Int32), oi v306, oi v310, oi v314, oi v318, oa b320, oa b334, oa r_397, .unset] [(.int (2 : Int32)), (.ref r_397)] _
        refine oLdI X397 hx hZ rfl Oq397_0 (v := (.int ((v318.toInt8.toInt32) &&& (255 : Int32)))) ⟨by decide, by decide⟩ rfl (hb hby at_183) ?_
        show oS p e below T397 m 184 #[oi p0, oi p1, oi p2, oi p3, oi p4, oi (3 : Int32), oi v306, oi v310, oi v314, oi v318, oa b320, oa b334, oa r_397, .unset] [(.int ((v318.toInt8.toInt32) &&& (255 : Int32)))] _
        refine XS.iload X397.here hx rfl (hb hby at_184) rfl ?_
        show oS p e below T397 m 186 #[oi p0, oi p1, oi p2, oi p3, oi p4, oi (3 : Int32), oi v306, oi v310, oi v314, oi v318, oa b320, oa b334, oa r_397, .unset] [(.int v318), (.int ((v318.toInt8.toInt32) &&& (255 : Int32)))] _
        refine XS.icmpYes X397.here hx rfl (pc0 := 186) (pc' := 191) rfl (hb hby at_186) rfl (teq b413).1 (by decide) (by decide) ?_
        show oS p e below T397 m 191 #[oi p0, oi p1, oi p2, oi p3, oi p4, oi (3 : Int32), oi v306, oi v310, oi v314, oi v318, oa b320, oa b334, oa r_397, .unset] [] _
        refine XS.iload X397.here hx rfl (hb hby at_191) rfl ?_
        show oS p e below T397 m 193 #[oi p0, oi p1, oi p2, oi p3, oi p4, oi (3 : Int32), oi v306, oi v310, oi v314, oi v318, oa b320, oa b334, oa r_397, .unset] [(.int (3 : Int32))] _
        refine XS.ifNo X397.here hx rfl (hb hby at_193) rfl ((if0 _ _).trans (tlt b414).2.2.2) ?_
        show oS p e below T397 m 196 #[oi p0, oi p1, oi p2, oi p3, oi p4, oi (3 : Int32), oi v306, oi v310, oi v314, oi v318, oa b320, oa b334, oa r_397, .unset] [] _
        refine XS.aload X397.here hx rfl (hb hby at_196) rfl rfl ?_
        show oS p e below T397 m 198 #[oi p0, oi p1, oi p2, oi p3, oi p4, oi (3 : Int32), oi v306, oi v310, oi v314, oi v318, oa b320, oa b334, oa r_397, .unset] [(.ref r_397)] _
        refine XS.iconst X397.here hx rfl (hb hby at_198) ?_
        show oS p e below T397 m 199 #[oi p0, oi p1, oi p2, oi p3, oi p4, oi (3 : Int32), oi v306, oi v310, oi v314, oi v318, oa b320, oa b334, oa r_397, .unset] [(.int (0 : Int32)), (.ref r_397)] _
        refine XS.aload X397.here hx rfl (hb hby at_199) rfl rfl ?_
        show oS p e below T397 m 201 #[oi p0, oi p1, oi p2, oi p3, oi p4, oi (3 : Int32), oi v306, oi v310, oi v314, oi v318, oa b320, oa b334, oa r_397, .unset] [(.ref r_397), (.int (0 : Int32)), (.ref r_397)] _
        refine XS.iconst X397.here hx rfl (hb hby at_201) ?_
        show oS p e below T397 m 202 #[oi p0, oi p1, oi p2, oi p3, oi p4, oi (3 : Int32), oi v306, oi v310, oi v314, oi v318, oa b320, oa b334, oa r_397, .unset] [(.int (0 : Int32)), (.ref r_397), (.int (0 : Int32)), (.ref r_397)] _
        refine oLdI X397 hx hZ rfl Oq397_0 (v := (.int ((v310.toInt8.toInt32) &&& (255 : Int32)))) ⟨by decide, by decide⟩ rfl (hb hby at_202) ?_
        show oS p e below T397 m 203 #[oi p0, oi p1, oi p2, oi p3, oi p4, oi (3 : Int32), oi v306, oi v310, oi v314, oi v318, oa b320, oa b334, oa r_397, .unset] [(.int ((v310.toInt8.toInt32) &&& (255 : Int32))), (.int (0 : Int32)), (.ref r_397)] _
        refine XS.iconst X397.here hx rfl (hb hby at_203) ?_
        show oS p e below T397 m 204 #[oi p0, oi p1, oi p2, oi p3, oi p4, oi (3 : Int32), oi v306, oi v310, oi v314, oi v318, oa b320, oa b334, oa r_397, .unset] [(.int (1 : Int32)), (.int ((v310.toInt8.toInt32) &&& (255 : Int32))), (.int (0 : Int32)), (.ref r_397)] _
        refine XS.ixor X397.here hx rfl (hb hby at_204) rfl ?_
        show oS p e below T397 m 205 #[oi p0, oi p1, oi p2, oi p3, oi p4, oi (3 : Int32), oi v306, oi v310, oi v314, oi v318, oa b320, oa b334, oa r_397, .unset] [(.int (((v310.toInt8.toInt32) &&& (255 : Int32)) ^^^ (1 : Int32))), (.int (0 : Int32)), (.ref r_397)] _
        refine st415 _ ?_
        show oS p e below T415 m 206 #[oi p0, oi p1, oi p2, oi p3, oi p4, oi (3 : Int32), oi v306, oi v310, oi v314, oi v318, oa b320, oa b334, oa r_397, .unset] [] _
        refine XS.aload X415.here hx rfl (hb hby at_206) rfl rfl ?_
        show oS p e below T415 m 208 #[oi p0, oi p1, oi p2, oi p3, oi p4, oi (3 : Int32), oi v306, oi v310, oi v314, oi v318, oa b320, oa b334, oa r_397, .unset] [(.ref b334)] _
        refine st423.trans ?_
        show oS p e below T423 m 211 #[oi p0, oi p1, oi p2, oi p3, oi p4, oi (3 : Int32), oi v306, oi v310, oi v314, oi v318, oa b320, oa b334, oa r_397, .unset] [(.ref r_423)] _
        refine XS.astore X423.here hx rfl (hb hby at_211) rfl rfl (l' := #[oi p0, oi p1, oi p2, oi p3, oi p4, oi (3 : Int32), oi v306, oi v310, oi v314, oi v318, oa b320, oa b334, oa r_397, oa r_423]) rfl ?_
        show oS p e below T423 m 213 #[oi p0, oi p1, oi p2, oi p3, oi p4, oi (3 : Int32), oi v306, oi v310, oi v314, oi v318, oa b320, oa b334, oa r_397, oa r_423] [] _
        refine XS.aload X423.here hx rfl (hb hby at_213) rfl rfl ?_
        show oS p e below T423 m 215 #[oi p0, oi p1, oi p2, oi p3, oi p4, oi (3 : Int32), oi v306, oi v310, oi v314, oi v318, oa b320, oa b334, oa r_397, oa r_423] [(.ref r_423)] _
        refine XS.ifnullNo X423.here hx rfl (hb hby at_215) rfl ?_
        show oS p e below T423 m 218 #[oi p0, oi p1, oi p2, oi p3, oi p4, oi (3 : Int32), oi v306, oi v310, oi v314, oi v318, oa b320, oa b334, oa r_397, oa r_423] [] _
        refine XS.aload X423.here hx rfl (hb hby at_218) rfl rfl ?_
        show oS p e below T423 m 220 #[oi p0, oi p1, oi p2, oi p3, oi p4, oi (3 : Int32), oi v306, oi v310, oi v314, oi v318, oa b320, oa b334, oa r_397, oa r_423] [(.ref r_423)] _
        refine XS.aload X423.here hx rfl (hb hby at_220) rfl rfl ?_
        show oS p e below T423 m 222 #[oi p0, oi p1, oi p2, oi p3, oi p4, oi (3 : Int32), oi v306, oi v310, oi v314, oi v318, oa b320, oa b334, oa r_397, oa r_423] [(.ref r_397), (.ref r_423)] _
        refine Jvm.RoadKit.acmp (g := (mkF m 222 #[oi p0, oi p1, oi p2, oi p3, oi p4, oi (3 : Int32), oi v306, oi v310, oi v314, oi v318, oa b320, oa b334, oa r_397, oa r_423] [(.ref r_397), (.ref r_423)])) X423 hx rfl rfl rfl (pc0 := 222) (pc' := 225) (same := false) rfl (hb hby at_222) rfl (decide_eq_false fun q => (Ne.symm ne427) (Value.ref.inj q)) (by decide) (by decide) ?_
        show oS p e below T423 m 225 #[oi p0, oi p1, oi p2, oi p3, oi p4, oi (3 : Int32), oi v306, oi v310, oi v314, oi v318, oa b320, oa b334, oa r_397, oa r_423] [] _
        refine XS.aload X423.here hx rfl (hb hby at_225) rfl rfl ?_
        show oS p e below T423 m 227 #[oi p0, oi p1, oi p2, oi p3, oi p4, oi (3 : Int32), oi v306, oi v310, oi v314, oi v318, oa b320, oa b334, oa r_397, oa r_423] [(.ref r_423)] _
        refine oLen X423 hx hZ rfl Oq423_0 (hb hby at_227) ?_
        show oS p e below T423 m 228 #[oi p0, oi p1, oi p2, oi p3, oi p4, oi (3 : Int32), oi v306, oi v310, oi v314, oi v318, oa b320, oa b334, oa r_397, oa r_423] [(.int (3 : Int32))] _
        refine XS.iload X423.here hx rfl (hb hby at_228) rfl ?_
        show oS p e below T423 m 230 #[oi p0, oi p1, oi p2, oi p3, oi p4, oi (3 : Int32), oi v306, oi v310, oi v314, oi v318, oa b320, oa b334, oa r_397, oa r_423] [(.int (3 : Int32)), (.int (3 : Int32))] _
        refine XS.icmpNo X423.here hx rfl (hb hby at_230) rfl (teq b435).2 ?_
        show oS p e below T423 m 233 #[oi p0, oi p1, oi p2, oi p3, oi p4, oi (3 : Int32), oi v306, oi v310, oi v314, oi v318, oa b320, oa b334, oa r_397, oa r_423] [] _
        refine XS.aload X423.here hx rfl (hb hby at_233) rfl rfl ?_
        show oS p e below T423 m 235 #[oi p0, oi p1, oi p2, oi p3, oi p4, oi (3 : Int32), oi v306, oi v310, oi v314, oi v318, oa b320, oa b334, oa r_397, oa r_423] [(.ref r_423)] _
        refine XS.iconst X423.here hx rfl (hb hby at_235) ?_
        show oS p e below T423 m 236 #[oi p0, oi p1, oi p2, oi p3, oi p4, oi (3 : Int32), oi v306, oi v310, oi v314, oi v318, oa b320, oa b334, oa r_397, oa r_423] [(.int (0 : Int32)), (.ref r_423)] _
        refine oLdI X423 hx hZ rfl Oq423_0 (v := (.int ((v310.toInt8.toInt32) &&& (255 : Int32)))) ⟨by decide, by decide⟩ rfl (hb hby at_236) ?_
        show oS p e below T423 m 237 #[oi p0, oi p1, oi p2, oi p3, oi p4, oi (3 : Int32), oi v306, oi v310, oi v314, oi v318, oa b320, oa b334, oa r_397, oa r_423] [(.int ((v310.toInt8.toInt32) &&& (255 : Int32)))] _
        refine XS.iload X423.here hx rfl (hb hby at_237) rfl ?_
        show oS p e below T423 m 239 #[oi p0, oi p1, oi p2, oi p3, oi p4, oi (3 : Int32), oi v306, oi v310, oi v314, oi v318, oa b320, oa b334, oa r_397, oa r_423] [(.int v310), (.int ((v310.toInt8.toInt32) &&& (255 : Int32)))] _
        refine XS.icmpYes X423.here hx rfl (pc0 := 239) (pc' := 244) rfl (hb hby at_239) rfl (teq b436).1 (by decide) (by decide) ?_
        show oS p e below T423 m 244 #[oi p0, oi p1, oi p2, oi p3, oi p4, oi (3 : Int32), oi v306, oi v310, oi v314, oi v318, oa b320, oa b334, oa r_397, oa r_423] [] _
        refine XS.iconst X423.here hx rfl (hb hby at_244) ?_
        show oS p e below T423 m 245 #[oi p0, oi p1, oi p2, oi p3, oi p4, oi (3 : Int32), oi v306, oi v310, oi v314, oi v318, oa b320, oa b334, oa r_397, oa r_423] [(.int (1 : Int32))] _
        exact retN X423 hx (t := .boolean) Bd.returns (by simp) (hb hby at_245) hr
      · show own_Q0 Z p0 p1 p2 p3 p4 h0 n0 _ T423.heap _
        exact ⟨rfl, N423⟩
set_option maxRecDepth 65536 in
set_option maxHeartbeats 40000000 in
theorem own_comes {Post : Tables → Env → Array Value → State → Outcome → State → Prop} (hpost : ∀ tb e args s v u, (limb_1_1.after args s (.returned v) u = true ∧ limb_1_2.after args s (.returned v) u = true ∧ True) → FrameEnd s (.returned v) u (Jvm.fieldLocs frame_1_writes args s ++ Jvm.arrayLocs frame_1_arrays args s ++ Jvm.staticLocs frame_1_statics s) 24 128 → Post tb e args s (.returned v) u) :
    ArmFor flags0 classFile x code maxLocals ret World_1 tables_1 room_1 Calls_1 rest_1 Pre_1 Post := by
  intro l hfl _ _ p e ha hc hk s m args below hf hA hF happ hP
  obtain ⟨hcalls, hrest, hpre⟩ := hP
  obtain ⟨-, -, -, hnamed, -, -, -, hat⟩ := (Spec.applies_iff hf).mp happ
  obtain ⟨hg, hn⟩ := and_e (Cond.before_iff.mp (show (Jvm.Cond.and given_1 narrow_1).before args s = true from hpre))
  obtain ⟨gv1, gv2⟩ := and_e hg
  obtain ⟨gv3, gv4⟩ := and_e gv2
  obtain ⟨gv5, gv6⟩ := and_e gv4
  obtain ⟨gv7, gv8⟩ := and_e gv6
  obtain ⟨gv9, gv10⟩ := and_e gv8
  obtain ⟨w0, w1, w2, w3, w4, rfl⟩ : ∃ w0 w1 w2 w3 w4 : Value, args = #[w0, w1, w2, w3, w4] := by
    have hs : args.size = 5 := by simpa [Cond.value, given_1] using gv1
    obtain ⟨L⟩ := args
    match L, hs with
    | [w0, w1, w2, w3, w4], _ => exact ⟨w0, w1, w2, w3, w4, rfl⟩
  have hw := fun d (hd : d ∈ tables_1) => atoms_spec (ws := Jvm.Cond.code x code maxLocals ret :: tables_1) hat d (List.mem_cons_of_mem _ hd)
  have hfit : Fit s := fun {y c} hc i hi => by
    obtain ⟨ha, rfl⟩ := Array.getElem?_eq_some_iff.mp hc
    have q := List.all_eq_true.mp ((Array.all_eq_true_iff_forall_mem.mp hF) _ (Array.getElem_mem ha)) i (List.mem_range.mpr hi)
    simpa [Array.getElem?_eq_getElem hi] using q
  obtain ⟨i0, ei0⟩ := is_v gv3
  obtain rfl : w0 = (.int i0) := Option.some.inj ei0
  obtain ⟨i1, ei1⟩ := is_v gv5
  obtain rfl : w1 = (.int i1) := Option.some.inj ei1
  obtain ⟨i2, ei2⟩ := is_v gv7
  obtain rfl : w2 = (.int i2) := Option.some.inj ei2
  obtain ⟨i3, ei3⟩ := is_v gv9
  obtain rfl : w3 = (.int i3) := Option.some.inj ei3
  obtain ⟨i4, ei4⟩ := is_v gv10
  obtain rfl : w4 = (.int i4) := Option.some.inj ei4
  obtain ⟨n, o, h1, h2, h3, _, L, rfl, ⟨rfl, N⟩, hq⟩ := own_rm0 l s _ hw tables_1 i0 i1 i2 i3 i4  s.heap s.heap.size (Nat.le_refl _)  p e ha hc hk s m _ below hf ((Spec.applies_iff_loose hf).mp happ).1 ⟨rfl, State.Warmed39.refl s, rfl⟩ trivial
  refine ⟨n, _, h1, h2, h3, hpost _ _ _ _ _ _ ⟨Cond.after_iff.mpr rfl, Cond.after_iff.mpr (eq_i res_at (Term.int_eval (1)) rfl), trivial⟩ ⟨hq.1, hq.2.1, (hq.2.2.sift fun y hy => Or.inr (N y hy)).mono (by decide) (by decide)⟩⟩
theorem main_1_1 : Claimed_1_1 := own_comes fun _ _ _ _ _ _ h hF => ⟨h.1, hF⟩
theorem main_1_2 : Claimed_1_2 := own_comes fun _ _ _ _ _ _ h hF => ⟨h.2.1, hF⟩
end Jvm.Pilot.@@N@@
namespace Jvm.Pilot.@@N@@
open Jvm Jvm.ClassFile Sem Op Lib Jvm.Free Jvm.Stand Jvm.Pilot.@@N@@.Jvm.D
/-! MADE BY PROGRAM (witnessworld.py) out of the Statement's table words and the real class files: 11 classes; the members and pool entries that the words name. The judged class is class 1, her method 1. -/
namespace start1
open Jvm.ClassFile
def u (s : String) : CpInfo := .utf8 (stringToUtf16 s)
/-- a pool by its gaps: so many unusable entries, then the entry; so many at the end -/
def gap : Nat → List CpInfo → List CpInfo
  | 0, r => r
  | n + 1, r => .unusable :: gap n r
def poolList (es : List (Nat × CpInfo)) (last : Nat) : List CpInfo := es.foldr (fun e r => gap e.1 (e.2 :: r)) (gap last [])
def pool (es : List (Nat × CpInfo)) (last : Nat) : Array CpInfo := ⟨poolList es last⟩
def fileOf (pool : Array CpInfo) (this : Nat) (attrs : Array Attribute := #[]) (ms : Array MethodInfo := #[]) (fl : Nat := 33) (sup : Nat := 0) (ifs : Array Nat := #[]) (fds : Array FieldInfo := #[]) : ClassFile where
  minorVersion := 0
  majorVersion := 65
  constantPool := pool
  accessFlags := fl
  thisClass := this
  superClass := sup
  interfaces := ifs
  fields := fds
  methods := ms
  attributes := attrs
def plain (name : String) (sup : Option ClassId) : Class where
  name := name
  kind := .ordinary
  loader := none
  accessFlags := 33
  super := sup
  interfaces := #[]
  cf := none
  fields := #[]
  methods := #[]
  instanceTypes := #[]
  staticTypes := #[]
  resolved := #[]
  callSites := []
  init := .initialized
  statics := none
  mirror := none

def pool0 : Array CpInfo := pool [(5, u "<init>"), (0, u "()V"), (1, .class_ 10), (1, u "java/lang/Object"), (85, u "clone"), (0, u "()Ljava/lang/Object;")] 26

def k0c0 : Code := { maxStack := 0, maxLocals := 1, code := object_method_1_code, exceptionTable := #[], attributes := #[] }
def k0m0 : Method := { name := "<init>", desc := "()V", sig := { parameters := [], returnType := none }, accessFlags := 1, code := some k0c0 }
def k0m1 : Method := { name := "clone", desc := "()Ljava/lang/Object;", sig := { parameters := [], returnType := some (.object "java/lang/Object") }, accessFlags := 260, code := none }
/-- java/lang/Object -/
def k0 : Class := { plain "java/lang/Object" none with
  accessFlags := 33
  interfaces := #[]
  cf := some (fileOf pool0 8 #[] #[{ accessFlags := 1, nameIndex := 5, descriptorIndex := 6, attributes := #[] }, { accessFlags := 260, nameIndex := 96, descriptorIndex := 97, attributes := #[] }] 33 0 #[] #[])
  fields := #[]
  methods := #[k0m0, k0m1]
  instanceTypes := #[]
  staticTypes := #[]
  resolved := Array.replicate 124 none
  statics := none }

def pool1 : Array CpInfo := pool [(2, .class_ 4), (1, u "java/lang/Object"), (0, u "<init>"), (0, u "()V"), (0, .class_ 8), (0, u "com/example/penstock/penstock/Design"), (0, .methodref 7 10), (0, .nameAndType 5 11), (0, u "([I)V"), (0, .methodref 7 13), (0, .nameAndType 14 15), (0, u "sizeIndices"), (0, u "()[I"), (0, .class_ 17), (0, u "com/example/penstock/penstock/DesignSizeIndicesPinLaw"), (2, u "law"), (0, u "(IIIII)Z")] 5

def k1m0 : Method := { name := "<init>", desc := "()V", sig := { parameters := [], returnType := none }, accessFlags := 1, code := none }
def k1c1 : Code := { maxStack := 4, maxLocals := 14, code := code, exceptionTable := #[], attributes := #[] }
def k1m1 : Method := { name := "law", desc := "(IIIII)Z", sig := { parameters := [.int, .int, .int, .int, .int], returnType := some .boolean }, accessFlags := 9, code := some k1c1 }
/-- com/example/penstock/penstock/DesignSizeIndicesPinLaw -/
def k1 : Class := { plain "com/example/penstock/penstock/DesignSizeIndicesPinLaw" (some 0) with
  accessFlags := 49
  interfaces := #[]
  cf := some (fileOf pool1 16 #[] #[{ accessFlags := 1, nameIndex := 5, descriptorIndex := 6, attributes := #[] }, { accessFlags := 9, nameIndex := 20, descriptorIndex := 21, attributes := #[] }] 49 2 #[] #[])
  fields := #[]
  methods := #[k1m0, k1m1]
  instanceTypes := #[]
  staticTypes := #[]
  resolved := Array.replicate 27 none
  statics := none }

def pool2 : Array CpInfo := pool [(1, .methodref 2 3), (0, .class_ 4), (0, .nameAndType 5 6), (0, u "java/lang/Object"), (0, u "<init>"), (0, u "()V"), (0, .class_ 8), (0, u "com/example/penstock/penstock/Design"), (0, .fieldref 7 10), (0, .nameAndType 11 12), (0, u "byteIndices"), (0, u "[B"), (0, .fieldref 7 14), (0, .nameAndType 15 16), (0, u "intIndices"), (0, u "[I"), (0, .methodref 18 19), (0, .class_ 16), (0, .nameAndType 20 21), (0, u "clone"), (0, u "()Ljava/lang/Object;"), (0, .methodref 23 24), (0, .class_ 25), (0, .nameAndType 26 27), (0, u "java/util/Arrays"), (0, u "hashCode"), (0, u "([I)I"), (0, .fieldref 7 29), (0, .nameAndType 30 31), (0, u "hash"), (0, u "I"), (7, u "LARGEST_BYTE_INDEX"), (2, u "([I)V"), (5, u "sizeIndices"), (0, u "()[I")] 4

def k2c0 : Code := { maxStack := 4, maxLocals := 7, code := prog_9_method_1_code, exceptionTable := #[], attributes := #[] }
def k2m0 : Method := { name := "<init>", desc := "([I)V", sig := { parameters := [(.array .int)], returnType := none }, accessFlags := 0, code := some k2c0 }
def k2c1 : Code := { maxStack := 4, maxLocals := 3, code := prog_9_method_3_code, exceptionTable := #[], attributes := #[] }
def k2m1 : Method := { name := "sizeIndices", desc := "()[I", sig := { parameters := [], returnType := some (.array .int) }, accessFlags := 0, code := some k2c1 }
/-- com/example/penstock/penstock/Design -/
def k2 : Class := { plain "com/example/penstock/penstock/Design" (some 0) with
  accessFlags := 48
  interfaces := #[]
  cf := some (fileOf pool2 7 #[] #[{ accessFlags := 0, nameIndex := 5, descriptorIndex := 42, attributes := #[] }, { accessFlags := 0, nameIndex := 48, descriptorIndex := 49, attributes := #[] }] 48 2 #[] #[{ accessFlags := 26, nameIndex := 39, descriptorIndex := 31, attributes := #[] }, { accessFlags := 18, nameIndex := 11, descriptorIndex := 12, attributes := #[] }, { accessFlags := 18, nameIndex := 15, descriptorIndex := 16, attributes := #[] }, { accessFlags := 18, nameIndex := 30, descriptorIndex := 31, attributes := #[] }])
  fields := #[{ name := "LARGEST_BYTE_INDEX", type := .int, accessFlags := 26, slot := 0, constantValue := 0 }, { name := "byteIndices", type := (.array .byte), accessFlags := 18, slot := 0, constantValue := 0 }, { name := "intIndices", type := (.array .int), accessFlags := 18, slot := 1, constantValue := 0 }, { name := "hash", type := .int, accessFlags := 18, slot := 2, constantValue := 0 }]
  methods := #[k2m0, k2m1]
  instanceTypes := #[(.array .byte), (.array .int), .int]
  staticTypes := #[.int]
  resolved := Array.replicate 54 none
  statics := none }

def pool3 : Array CpInfo := pool [(2, .class_ 4), (1, u "java/lang/Object"), (0, u "<init>"), (0, u "()V"), (7, .class_ 16), (1, u "java/util/Arrays"), (57, .class_ 76), (1, u "java/util/Arrays$NaturalOrder"), (36, .class_ 115), (1, u "java/util/Arrays$LegacyMergeSort"), (1, u "Z"), (128, .class_ 248), (1, u "jdk/internal/util/ArraysSupport"), (126, .class_ 376), (0, u "java/util/Arrays$ArrayList"), (2, .methodref 246 380), (0, .nameAndType 381 382), (0, u "vectorizedHashCode"), (0, u "(Ljava/lang/Object;IIII)I"), (2, u "hashCode"), (22, u "([I)I"), (36, u "$assertionsDisabled"), (269, u "MIN_ARRAY_SORT_GRAN"), (0, u "I"), (2, u "INSERTIONSORT_THRESHOLD"), (255, .class_ 976), (0, u "java/util/Arrays$ArrayItr")] 52

def k3m0 : Method := { name := "<init>", desc := "()V", sig := { parameters := [], returnType := none }, accessFlags := 2, code := none }
def k3c1 : Code := { maxStack := 5, maxLocals := 1, code := jdk_65_method_150_code, exceptionTable := #[], attributes := #[] }
def k3m1 : Method := { name := "hashCode", desc := "([I)I", sig := { parameters := [(.array .int)], returnType := some .int }, accessFlags := 9, code := some k3c1 }
/-- java/util/Arrays -/
def k3 : Class := { plain "java/util/Arrays" (some 0) with
  accessFlags := 49
  interfaces := #[]
  cf := some (fileOf pool3 14 #[.nestMembers #[975, 375, 113, 74]] #[{ accessFlags := 2, nameIndex := 5, descriptorIndex := 6, attributes := #[] }, { accessFlags := 9, nameIndex := 385, descriptorIndex := 408, attributes := #[] }] 49 2 #[] #[{ accessFlags := 26, nameIndex := 715, descriptorIndex := 716, attributes := #[] }, { accessFlags := 26, nameIndex := 719, descriptorIndex := 716, attributes := #[] }, { accessFlags := 4120, nameIndex := 445, descriptorIndex := 117, attributes := #[] }])
  fields := #[{ name := "MIN_ARRAY_SORT_GRAN", type := .int, accessFlags := 26, slot := 0, constantValue := 0 }, { name := "INSERTIONSORT_THRESHOLD", type := .int, accessFlags := 26, slot := 1, constantValue := 0 }, { name := "$assertionsDisabled", type := .boolean, accessFlags := 4120, slot := 2, constantValue := 0 }]
  methods := #[k3m0, k3m1]
  instanceTypes := #[]
  staticTypes := #[.int, .int, .boolean]
  resolved := Array.replicate 1029 none
  statics := none }

def pool4 : Array CpInfo := pool [(9, u "<init>"), (6, .class_ 18), (1, u "java/lang/Object"), (0, u "()V"), (1, .class_ 23), (1, u "jdk/internal/util/ArraysSupport"), (0, u "LOG2_ARRAY_LONG_INDEX_SCALE"), (0, u "I"), (2, u "U"), (0, u "Ljdk/internal/misc/Unsafe;"), (8, u "BIG_ENDIAN"), (0, u "Z"), (8, u "LOG2_BYTE_BIT_SIZE"), (4, u "LOG2_ARRAY_INT_INDEX_SCALE"), (19, u "hashCode"), (8, .class_ 83), (0, u "[I"), (0, .methodref 21 85), (0, .nameAndType 73 86), (0, u "(I[III)I"), (21, u "JLA"), (0, u "Ljdk/internal/access/JavaLangAccess;"), (11, u "LOG2_ARRAY_BOOLEAN_INDEX_SCALE"), (9, u "LOG2_ARRAY_BYTE_INDEX_SCALE"), (5, u "LOG2_ARRAY_CHAR_INDEX_SCALE"), (5, u "LOG2_ARRAY_SHORT_INDEX_SCALE"), (18, u "LOG2_ARRAY_FLOAT_INDEX_SCALE"), (24, u "LOG2_ARRAY_DOUBLE_INDEX_SCALE"), (89, u "T_BOOLEAN"), (2, u "T_CHAR"), (1, u "T_FLOAT"), (1, u "T_DOUBLE"), (1, u "T_BYTE"), (1, u "T_SHORT"), (1, u "T_INT"), (1, u "T_LONG"), (1, u "SOFT_MAX_ARRAY_LENGTH"), (26, u "vectorizedHashCode"), (0, u "(Ljava/lang/Object;IIII)I")] 55

def k4m0 : Method := { name := "<init>", desc := "()V", sig := { parameters := [], returnType := none }, accessFlags := 2, code := none }
def k4c1 : Code := { maxStack := 4, maxLocals := 5, code := jdk_48_method_4_code, exceptionTable := #[], attributes := #[] }
def k4m1 : Method := { name := "vectorizedHashCode", desc := "(Ljava/lang/Object;IIII)I", sig := { parameters := [(.object "java/lang/Object"), .int, .int, .int, .int], returnType := some .int }, accessFlags := 9, code := some k4c1 }
def k4c2 : Code := { maxStack := 3, maxLocals := 6, code := jdk_48_method_9_code, exceptionTable := #[], attributes := #[] }
def k4m2 : Method := { name := "hashCode", desc := "(I[III)I", sig := { parameters := [.int, (.array .int), .int, .int], returnType := some .int }, accessFlags := 10, code := some k4c2 }
/-- jdk/internal/util/ArraysSupport -/
def k4 : Class := { plain "jdk/internal/util/ArraysSupport" (some 0) with
  accessFlags := 33
  interfaces := #[]
  cf := some (fileOf pool4 21 #[] #[{ accessFlags := 2, nameIndex := 9, descriptorIndex := 19, attributes := #[] }, { accessFlags := 9, nameIndex := 321, descriptorIndex := 322, attributes := #[] }, { accessFlags := 10, nameIndex := 73, descriptorIndex := 86, attributes := #[] }] 33 16 #[] #[{ accessFlags := 24, nameIndex := 28, descriptorIndex := 29, attributes := #[] }, { accessFlags := 26, nameIndex := 38, descriptorIndex := 39, attributes := #[] }, { accessFlags := 25, nameIndex := 121, descriptorIndex := 25, attributes := #[] }, { accessFlags := 25, nameIndex := 131, descriptorIndex := 25, attributes := #[] }, { accessFlags := 25, nameIndex := 137, descriptorIndex := 25, attributes := #[] }, { accessFlags := 25, nameIndex := 143, descriptorIndex := 25, attributes := #[] }, { accessFlags := 25, nameIndex := 53, descriptorIndex := 25, attributes := #[] }, { accessFlags := 25, nameIndex := 24, descriptorIndex := 25, attributes := #[] }, { accessFlags := 25, nameIndex := 162, descriptorIndex := 25, attributes := #[] }, { accessFlags := 25, nameIndex := 187, descriptorIndex := 25, attributes := #[] }, { accessFlags := 26, nameIndex := 48, descriptorIndex := 25, attributes := #[] }, { accessFlags := 25, nameIndex := 277, descriptorIndex := 25, attributes := #[] }, { accessFlags := 25, nameIndex := 280, descriptorIndex := 25, attributes := #[] }, { accessFlags := 25, nameIndex := 282, descriptorIndex := 25, attributes := #[] }, { accessFlags := 25, nameIndex := 284, descriptorIndex := 25, attributes := #[] }, { accessFlags := 25, nameIndex := 286, descriptorIndex := 25, attributes := #[] }, { accessFlags := 25, nameIndex := 288, descriptorIndex := 25, attributes := #[] }, { accessFlags := 25, nameIndex := 290, descriptorIndex := 25, attributes := #[] }, { accessFlags := 25, nameIndex := 292, descriptorIndex := 25, attributes := #[] }, { accessFlags := 26, nameIndex := 108, descriptorIndex := 109, attributes := #[] }, { accessFlags := 25, nameIndex := 294, descriptorIndex := 25, attributes := #[] }])
  fields := #[{ name := "U", type := (.object "jdk/internal/misc/Unsafe"), accessFlags := 24, slot := 0, constantValue := 0 }, { name := "BIG_ENDIAN", type := .boolean, accessFlags := 26, slot := 1, constantValue := 0 }, { name := "LOG2_ARRAY_BOOLEAN_INDEX_SCALE", type := .int, accessFlags := 25, slot := 2, constantValue := 0 }, { name := "LOG2_ARRAY_BYTE_INDEX_SCALE", type := .int, accessFlags := 25, slot := 3, constantValue := 0 }, { name := "LOG2_ARRAY_CHAR_INDEX_SCALE", type := .int, accessFlags := 25, slot := 4, constantValue := 0 }, { name := "LOG2_ARRAY_SHORT_INDEX_SCALE", type := .int, accessFlags := 25, slot := 5, constantValue := 0 }, { name := "LOG2_ARRAY_INT_INDEX_SCALE", type := .int, accessFlags := 25, slot := 6, constantValue := 0 }, { name := "LOG2_ARRAY_LONG_INDEX_SCALE", type := .int, accessFlags := 25, slot := 7, constantValue := 0 }, { name := "LOG2_ARRAY_FLOAT_INDEX_SCALE", type := .int, accessFlags := 25, slot := 8, constantValue := 0 }, { name := "LOG2_ARRAY_DOUBLE_INDEX_SCALE", type := .int, accessFlags := 25, slot := 9, constantValue := 0 }, { name := "LOG2_BYTE_BIT_SIZE", type := .int, accessFlags := 26, slot := 10, constantValue := 0 }, { name := "T_BOOLEAN", type := .int, accessFlags := 25, slot := 11, constantValue := 0 }, { name := "T_CHAR", type := .int, accessFlags := 25, slot := 12, constantValue := 0 }, { name := "T_FLOAT", type := .int, accessFlags := 25, slot := 13, constantValue := 0 }, { name := "T_DOUBLE", type := .int, accessFlags := 25, slot := 14, constantValue := 0 }, { name := "T_BYTE", type := .int, accessFlags := 25, slot := 15, constantValue := 0 }, { name := "T_SHORT", type := .int, accessFlags := 25, slot := 16, constantValue := 0 }, { name := "T_INT", type := .int, accessFlags := 25, slot := 17, constantValue := 0 }, { name := "T_LONG", type := .int, accessFlags := 25, slot := 18, constantValue := 0 }, { name := "JLA", type := (.object "jdk/internal/access/JavaLangAccess"), accessFlags := 26, slot := 19, constantValue := 0 }, { name := "SOFT_MAX_ARRAY_LENGTH", type := .int, accessFlags := 25, slot := 20, constantValue := 0 }]
  methods := #[k4m0, k4m1, k4m2]
  instanceTypes := #[]
  staticTypes := #[(.object "jdk/internal/misc/Unsafe"), .boolean, .int, .int, .int, .int, .int, .int, .int, .int, .int, .int, .int, .int, .int, .int, .int, .int, .int, (.object "jdk/internal/access/JavaLangAccess"), .int]
  resolved := Array.replicate 378 none
  statics := none }

def pool5 : Array CpInfo := pool [(1, .class_ 2), (0, u "java/lang/Cloneable"), (0, .class_ 4), (0, u "java/lang/Object")] 2

/-- java/lang/Cloneable -/
def k5 : Class := { plain "java/lang/Cloneable" (some 0) with
  accessFlags := 1537
  interfaces := #[]
  cf := some (fileOf pool5 1 #[] #[] 1537 3 #[] #[])
  fields := #[]
  methods := #[]
  instanceTypes := #[]
  staticTypes := #[]
  resolved := Array.replicate 7 none
  statics := none }

def pool6 : Array CpInfo := pool [(1, u "java/io/Serializable"), (0, .class_ 1), (0, u "java/lang/Object"), (0, .class_ 3)] 3

/-- java/io/Serializable -/
def k6 : Class := { plain "java/io/Serializable" (some 0) with
  accessFlags := 1537
  interfaces := #[]
  cf := some (fileOf pool6 2 #[] #[] 1537 4 #[] #[])
  fields := #[]
  methods := #[]
  instanceTypes := #[]
  staticTypes := #[]
  resolved := Array.replicate 8 none
  statics := none }

/-- the primitive byte -/
def k7 : Class := { plain "byte" none with kind := .primitive 'B', accessFlags := 0x411 }
/-- [B -/
def k8 : Class := { plain "[B" (some 0) with kind := .array 7 .byte, interfaces := #[5, 6], accessFlags := 1041 }

/-- the primitive int -/
def k9 : Class := { plain "int" none with kind := .primitive 'I', accessFlags := 0x411 }
/-- [I -/
def k10 : Class := { plain "[I" (some 0) with kind := .array 9 .int, interfaces := #[5, 6], accessFlags := 1041 }

def heap : Heap := #[]
def classes : Array Class := #[k0, k1, k2, k3, k4, k5, k6, k7, k8, k9, k10]
def interned : List (Array UInt16 × Addr) := []
def slotsUsed : Nat := 0
def theMethod : MethodId := ⟨1, 1⟩
def args0 : Array Value := #[.int 2, .int 6, .int 7, .int 0, .int 1]
def aboutOver (below : List Frame) : State where
  vm := { classes := classes, interned := interned.toArray }
  heap := heap
  slotsUsed := slotsUsed
  threads := #[{ frames := .invoking theMethod args0 :: below }]
def below0 : List Frame := [.native { method := ⟨0, 0⟩, args := #[] }]
def about1 : State := aboutOver below0
def p0 : Program := .bare "" "" ""
def e0 : Env := launch0.env 0 0 0
theorem w_frames : about1.frames = Frame.invoking theMethod args0 :: below0 := rfl
set_option maxRecDepth 65536 in
theorem w_args : argsFit about1.vm theMethod args0 = true := by decide +kernel
set_option maxRecDepth 65536 in
theorem w_heap : heapFits about1 = true := by decide +kernel
set_option maxRecDepth 65536 in
theorem w_runnable : about1.curStatus? = some .runnable := by decide +kernel
set_option maxRecDepth 65536 in
theorem w_alone : about1.alone = true := by decide +kernel
set_option maxRecDepth 65536 in
theorem w_named : about1.methodNamed? x = some theMethod := by decide +kernel
set_option maxRecDepth 65536 in
theorem w_hears : about1.hears theMethod below0 = true := by decide +kernel
set_option maxRecDepth 65536 in
theorem w_ripe : about1.ripe theMethod args0 below0 = true := by decide +kernel
theorem w_running : about1.status = .running := rfl
set_option maxRecDepth 65536 in
theorem w_room : about1.hasRoom e0.platform room_1 = true :=
  launch0.hasRoom_least _ room_1 (by decide +kernel) (by decide +kernel) (by decide +kernel) (by decide +kernel) (by decide +kernel) (by decide +kernel)
theorem allAtoms_all (ts : List Jvm.Cond) (a : Array Jvm.Value) (st : Jvm.State) : (allAtoms ts).before a st = ts.all (fun c => c.before a st) := by
  induction ts with
  | nil => rfl
  | cons c t ih =>
    show (Jvm.Cond.and c (allAtoms t)).before a st = _
    rw [Jvm.Cond.before_and, ih, List.all_cons]
def words1 : List Jvm.Cond := Jvm.Cond.code x code maxLocals ret :: tables_1
/-- a 'code' word, met by the world's own term for the bytes: nothing is compared byte by byte -/
theorem code_word {y : MethodName} {bytes : ByteArray} {mx : Nat} {rt : Option FieldType} {a : Array Value} {s : State} {m : MethodId} {meth : Method} {c : Code} (h1 : s.methodNamed? y = some m) (h2 : s.vm.method? m = some meth) (h3 : meth.code = some c) (h4 : c.code = bytes)
    (h5 : (c.maxLocals == mx && c.exceptionTable.isEmpty && decide (c.maxStack ≤ mostOperands) && decide (meth.sig.returnType = rt) && !meth.locks && decide (parseMethodDescriptor y.desc = some meth.sig)) = true) : (Jvm.Cond.code y bytes mx rt).before a s = true := by
  simp only [Bool.and_eq_true, beq_iff_eq, Bool.not_eq_true', decide_eq_true_eq] at h5
  obtain ⟨⟨⟨⟨⟨g1, g2⟩, g3⟩, g4⟩, g5⟩, g6⟩ := h5
  simp [Cond.before, Cond.holds, Cond.value, h1, h2, h3, h4, g1, g2, g3, g4, g5, g6]
def isCode : Jvm.Cond → Bool
  | .code _ _ _ _ => true
  | _ => false
theorem all_split {L : List Jvm.Cond} {P : Jvm.Cond → Bool} (h1 : L.all (fun c => isCode c || P c) = true) (h2 : ∀ c ∈ L.filter isCode, P c = true) : L.all P = true := by
  refine List.all_eq_true.mpr fun c hc => ?_
  have h := List.all_eq_true.mp h1 c hc
  rcases Bool.eq_false_or_eq_true (isCode c) with hi | hi
  · exact h2 c (List.mem_filter.mpr ⟨hc, hi⟩)
  · simpa [hi] using h
set_option maxRecDepth 65536 in
theorem w_c0 : (Jvm.Cond.code x code maxLocals ret).before args0 about1 = true := code_word (m := ⟨1, 1⟩) (meth := k1m1) (c := k1c1) (by decide +kernel) rfl rfl rfl (by decide +kernel)
set_option maxRecDepth 65536 in
theorem w_c1 : (Jvm.Cond.code ({ cls := "com/example/penstock/penstock/Design", name := "<init>", desc := "([I)V" } : Jvm.MethodName) prog_9_method_1_code (7 : Nat) (Option.none : Option Jvm.ClassFile.FieldType)).before args0 about1 = true := code_word (m := ⟨2, 0⟩) (meth := k2m0) (c := k2c0) (by decide +kernel) rfl rfl rfl (by decide +kernel)
set_option maxRecDepth 65536 in
theorem w_c2 : (Jvm.Cond.code ({ cls := "java/lang/Object", name := "<init>", desc := "()V" } : Jvm.MethodName) object_method_1_code (1 : Nat) (Option.none : Option Jvm.ClassFile.FieldType)).before args0 about1 = true := code_word (m := ⟨0, 0⟩) (meth := k0m0) (c := k0c0) (by decide +kernel) rfl rfl rfl (by decide +kernel)
set_option maxRecDepth 65536 in
theorem w_c3 : (Jvm.Cond.code ({ cls := "java/util/Arrays", name := "hashCode", desc := "([I)I" } : Jvm.MethodName) jdk_65_method_150_code (1 : Nat) (Option.some Jvm.ClassFile.FieldType.int)).before args0 about1 = true := code_word (m := ⟨3, 1⟩) (meth := k3m1) (c := k3c1) (by decide +kernel) rfl rfl rfl (by decide +kernel)
set_option maxRecDepth 65536 in
theorem w_c4 : (Jvm.Cond.code ({ cls := "com/example/penstock/penstock/Design", name := "sizeIndices", desc := "()[I" } : Jvm.MethodName) prog_9_method_3_code (3 : Nat) (Option.some (Jvm.ClassFile.FieldType.array Jvm.ClassFile.FieldType.int))).before args0 about1 = true := code_word (m := ⟨2, 1⟩) (meth := k2m1) (c := k2c1) (by decide +kernel) rfl rfl rfl (by decide +kernel)
set_option maxRecDepth 65536 in
theorem w_c5 : (Jvm.Cond.code ({ cls := "jdk/internal/util/ArraysSupport", name := "vectorizedHashCode", desc := "(Ljava/lang/Object;IIII)I" } : Jvm.MethodName) jdk_48_method_4_code (5 : Nat) (Option.some Jvm.ClassFile.FieldType.int)).before args0 about1 = true := code_word (m := ⟨4, 1⟩) (meth := k4m1) (c := k4c1) (by decide +kernel) rfl rfl rfl (by decide +kernel)
set_option maxRecDepth 65536 in
theorem w_c6 : (Jvm.Cond.code ({ cls := "jdk/internal/util/ArraysSupport", name := "hashCode", desc := "(I[III)I" } : Jvm.MethodName) jdk_48_method_9_code (6 : Nat) (Option.some Jvm.ClassFile.FieldType.int)).before args0 about1 = true := code_word (m := ⟨4, 2⟩) (meth := k4m2) (c := k4c2) (by decide +kernel) rfl rfl rfl (by decide +kernel)
def codes1 : List Jvm.Cond := [Jvm.Cond.code x code maxLocals ret, Jvm.Cond.code ({ cls := "com/example/penstock/penstock/Design", name := "<init>", desc := "([I)V" } : Jvm.MethodName) prog_9_method_1_code (7 : Nat) (Option.none : Option Jvm.ClassFile.FieldType), Jvm.Cond.code ({ cls := "java/lang/Object", name := "<init>", desc := "()V" } : Jvm.MethodName) object_method_1_code (1 : Nat) (Option.none : Option Jvm.ClassFile.FieldType), Jvm.Cond.code ({ cls := "java/util/Arrays", name := "hashCode", desc := "([I)I" } : Jvm.MethodName) jdk_65_method_150_code (1 : Nat) (Option.some Jvm.ClassFile.FieldType.int), Jvm.Cond.code ({ cls := "com/example/penstock/penstock/Design", name := "sizeIndices", desc := "()[I" } : Jvm.MethodName) prog_9_method_3_code (3 : Nat) (Option.some (Jvm.ClassFile.FieldType.array Jvm.ClassFile.FieldType.int)), Jvm.Cond.code ({ cls := "jdk/internal/util/ArraysSupport", name := "vectorizedHashCode", desc := "(Ljava/lang/Object;IIII)I" } : Jvm.MethodName) jdk_48_method_4_code (5 : Nat) (Option.some Jvm.ClassFile.FieldType.int), Jvm.Cond.code ({ cls := "jdk/internal/util/ArraysSupport", name := "hashCode", desc := "(I[III)I" } : Jvm.MethodName) jdk_48_method_9_code (6 : Nat) (Option.some Jvm.ClassFile.FieldType.int)]
set_option maxRecDepth 65536 in
theorem codes_eq : words1.filter isCode = codes1 := rfl
theorem w_codes : ∀ c ∈ words1.filter isCode, c.before args0 about1 = true := by
  rw [codes_eq]
  intro c hc
  simp only [codes1, List.mem_cons, List.not_mem_nil, or_false] at hc
  rcases hc with rfl | rfl | rfl | rfl | rfl | rfl | rfl
  · exact w_c0
  · exact w_c1
  · exact w_c2
  · exact w_c3
  · exact w_c4
  · exact w_c5
  · exact w_c6
set_option maxRecDepth 65536 in
theorem w_t1 : (words1.take 24).all (fun c => isCode c || c.before args0 about1) = true := by decide +kernel
set_option maxRecDepth 65536 in
theorem w_t2 : (words1.drop 24).all (fun c => isCode c || c.before args0 about1) = true := by decide +kernel
theorem w_tables : (allAtoms (Jvm.Cond.code x code maxLocals ret :: tables_1)).before args0 about1 = true := by
  rw [allAtoms_all]
  show words1.all (fun c => c.before args0 about1) = true
  refine all_split ?_ w_codes
  rw [← List.take_append_drop 24 words1, List.all_append, w_t1, w_t2]
  rfl
set_option maxRecDepth 65536 in
theorem w_case : (Jvm.Cond.and given_1 narrow_1).before args0 about1 = true := by decide +kernel
theorem w_applies : (headSpec (Jvm.Cond.code x code maxLocals ret :: tables_1) room_1).applies x e0.platform about1 = true :=
  (Spec.applies_iff w_frames).mpr ⟨w_running, w_runnable, w_alone, w_named, w_hears, w_ripe, w_room, w_tables⟩
theorem atStart : AtStart classFile x code maxLocals ret World_1 tables_1 room_1 Calls_1 rest_1 Pre_1 launch0 p0 e0 about1 theMethod args0 below0 :=
  ⟨lists_1, trivial, launch0.admits_env _ _ _, launch0.least_env, fairChoices_fair.cas, fairChoices_fair.clock, w_frames, w_args, w_heap, w_applies, trivial, trivial, w_case⟩
end start1
theorem witness_1 : WitnessClaimed_1 := ⟨start1.p0, start1.e0, start1.about1, start1.theMethod, start1.args0, start1.below0, start1.atStart⟩
end Jvm.Pilot.@@N@@
