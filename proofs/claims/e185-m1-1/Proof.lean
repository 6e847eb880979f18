import JvmDerived
import JvmDerived.Pilot.@@N@@Statement
import JvmDerived.Pilot.@@N@@Code
set_option linter.unusedVariables false
set_option linter.unusedSimpArgs false
namespace Jvm.Pilot.@@N@@
open Jvm Jvm.ClassFile Sem Op Lib Jvm.Free Jvm.Stand Jvm.LawKit Jvm.RoadKit Bundle Jvm.Pilot.@@N@@.Jvm.D
abbrev own_iushr (x y : Int32) : Int32 := (x.toUInt32 >>> (y &&& 31).toUInt32).toInt32
abbrev own_lshl (x : Int64) (y : Int32) : Int64 := x <<< (y &&& 0x3f).toInt64
abbrev own_lshr (x : Int64) (y : Int32) : Int64 := x >>> (y &&& 0x3f).toInt64
abbrev own_lushr (x : Int64) (y : Int32) : Int64 := (x.toUInt64 >>> (y &&& 0x3f).toInt64.toUInt64).toInt64
section Core
variable {p : Program} {l : Launch} {e : Env} {R : Room} {s : State} {m : MethodId} {args : Array Value} {below : List Frame} {meth : Method} {c : Code} {T T' : State} {locs : List Loc} {cells slots : Nat} {Z : State} {a0 : Array Value} {h h0 h' : Heap} {n0 : Nat}
/-- the i-th word of the sheet -/
theorem own_at (hw : ∀ d ∈ tables_1, d.before a0 Z = true) {d : Jvm.Cond} (i : Nat) (q : tables_1[i]? = some d) : d.before a0 Z = true := hw _ (List.mem_of_getElem? q)
/-- from this frame the method comes to its end, and G says what the end is -/
def ownGo (tb : Tables) (e : Env) (below : List Frame) (T : State) (g : JFrame) (G : Outcome → State → Prop) : Prop :=
  ∃ s₂ o, Steps tb e below (T.setTop g) s₂ ∧ s₂.status = .running ∧ Ended s₂ below o ∧ G o s₂
def ownDone (s : State) (Q : Option Value → Heap → List Loc → Prop) (kc ks : Nat) (o : Outcome) (U : State) : Prop :=
  ∃ v L, o = .returned v ∧ Q v U.heap L ∧ FrameEnd s o U L kc ks
/-- what a method leaves that only reckons -/
def ownPure (r : Value) (h0 : Heap) (n0 : Nat) (v : Option Value) (h : Heap) (L : List Loc) : Prop := v = some r ∧ Fr n0 L ∧ h = h0
theorem ownGo.st {tb : Tables} {g g' : JFrame} {G : Outcome → State → Prop} (q : ∀ t, Steps tb e below (T'.setTop g') t → Steps tb e below (T.setTop g) t) (k : ownGo tb e below T' g' G) : ownGo tb e below T g G := by
  obtain ⟨s₂, o, h1, h2⟩ := k
  exact ⟨s₂, o, q _ h1, h2⟩
theorem ownGo.sq {tb : Tables} {g g' : JFrame} {G : Outcome → State → Prop} (q : Steps tb e below (T.setTop g) (T'.setTop g')) (k : ownGo tb e below T' g' G) : ownGo tb e below T g G := by
  obtain ⟨s₂, o, h1, h2⟩ := k
  exact ⟨s₂, o, q.trans h1, h2⟩
theorem own_ret {Q : Option Value → Heap → List Loc → Prop} {kc ks : Nat} {g : JFrame} {v : Option Value} (X : Stand p l e R s m args below meth c T locs cells slots) (hlk : meth.locks = false) (hv : meth.sig.returnType = none → v = none)
    (hst : ∀ fs, (∀ (f : JFrame) (acts : List Action), f.method = m → f.locked = none → f.entered = [] → (doReturn e (T.setTop f) acts v).1 = T.setFrames fs) → Steps p.tables e below (T.setTop g) (T.setFrames fs))
    (hq : Q v T.heap locs) (hc : cells ≤ kc) (hs : slots ≤ ks) : ownGo p.tables e below T g (ownDone s Q kc ks) := by
  obtain ⟨fs, hr, hrun, hended, hW, hsame⟩ := X.leave (v := v) hv hlk
  exact ⟨_, _, hst fs hr, hrun, hended, _, _, rfl, hq, ⟨_, rfl⟩, hW, hsame.mono hc hs⟩
theorem own_retI {Q : Option Value → Heap → List Loc → Prop} {kc ks : Nat} {pc : Nat} {Ls : Array Slot} {z : Int32} {rest : List Value} (X : Stand p l e R s m args below meth c T locs cells slots) (hx : p.tables.exec = Jvm.exec) (hlk : meth.locks = false) (hret : meth.sig.returnType = some .int)
    (hd : decode c.code pc = .ok (.ireturn, 1)) (hq : Q (some (.int z)) T.heap locs) (hc : cells ≤ kc) (hs : slots ≤ ks) : ownGo p.tables e below T (mkF m pc Ls (.int z :: rest)) (ownDone s Q kc ks) :=
  own_ret X hlk (fun q => by rw [hret] at q; cases q) (fun fs hr => retOut X hx hret rfl (Or.inl ⟨rfl, Or.inl rfl, z, rfl⟩) hd hr) hq hc hs
theorem own_retZ {Q : Option Value → Heap → List Loc → Prop} {kc ks : Nat} {pc : Nat} {Ls : Array Slot} {z : Int32} {rest : List Value} (X : Stand p l e R s m args below meth c T locs cells slots) (hx : p.tables.exec = Jvm.exec) (hlk : meth.locks = false) (hret : meth.sig.returnType = some .boolean)
    (hd : decode c.code pc = .ok (.ireturn, 1)) (hz : z = 0 ∨ z = 1) (hq : Q (some (.int z)) T.heap locs) (hc : cells ≤ kc) (hs : slots ≤ ks) : ownGo p.tables e below T (mkF m pc Ls (.int z :: rest)) (ownDone s Q kc ks) := by
  have e1 : nar .boolean z = z := by rcases hz with rfl | rfl <;> decide
  exact own_ret X hlk (fun q => by rw [hret] at q; cases q) (fun fs hr => retN X hx (t := .boolean) hret (by simp) hd (by rw [e1]; exact hr)) hq hc hs
theorem own_retJ {Q : Option Value → Heap → List Loc → Prop} {kc ks : Nat} {pc : Nat} {Ls : Array Slot} {z : Int64} {rest : List Value} (X : Stand p l e R s m args below meth c T locs cells slots) (hx : p.tables.exec = Jvm.exec) (hlk : meth.locks = false) (hret : meth.sig.returnType = some .long)
    (hd : decode c.code pc = .ok (.lreturn, 1)) (hq : Q (some (.long z)) T.heap locs) (hc : cells ≤ kc) (hs : slots ≤ ks) : ownGo p.tables e below T (mkF m pc Ls (.long z :: rest)) (ownDone s Q kc ks) :=
  own_ret X hlk (fun q => by rw [hret] at q; cases q) (fun fs hr => retOut X hx hret rfl (Or.inr (Or.inl ⟨rfl, rfl, z, rfl⟩)) hd hr) hq hc hs
theorem own_retA {Q : Option Value → Heap → List Loc → Prop} {kc ks : Nat} {pc : Nat} {Ls : Array Slot} {z : Addr} {t : FieldType} {rest : List Value} (X : Stand p l e R s m args below meth c T locs cells slots) (hx : p.tables.exec = Jvm.exec) (hlk : meth.locks = false) (hret : meth.sig.returnType = some (.array t))
    (hd : decode c.code pc = .ok (.areturn, 1)) (hq : Q (some (.ref z)) T.heap locs) (hc : cells ≤ kc) (hs : slots ≤ ks) : ownGo p.tables e below T (mkF m pc Ls (.ref z :: rest)) (ownDone s Q kc ks) :=
  own_ret X hlk (fun q => by rw [hret] at q; cases q) (fun fs hr => retOut X hx hret rfl (Or.inr (Or.inr (Or.inr (Or.inr ⟨rfl, rfl, rfl⟩)))) hd hr) hq hc hs
theorem own_retV {Q : Option Value → Heap → List Loc → Prop} {kc ks : Nat} {pc : Nat} {Ls : Array Slot} (X : Stand p l e R s m args below meth c T locs cells slots) (hx : p.tables.exec = Jvm.exec) (hlk : meth.locks = false) (hret : meth.sig.returnType = none)
    (hd : decode c.code pc = .ok (.return_, 1)) (hq : Q none T.heap locs) (hc : cells ≤ kc) (hs : slots ≤ ks) : ownGo p.tables e below T (mkF m pc Ls []) (ownDone s Q kc ks) :=
  own_ret X hlk (fun _ => rfl) (fun fs hr => X.returnOut hx hret hd hr) hq hc hs
/-- a static call by the callee's contract -/
theorem own_callS (X : Stand p l e R s m args below meth c T locs cells slots) (hx : p.tables.exec = Jvm.exec) (hZ : Z.Warmed39 s.vm) {own : String} {index : Nat} {y : MethodName} {bytes : ByteArray} {maxL : Nat} {ret : Option FieldType} (hown : s.vm.findClass own = some m.cls)
    (w1 : (Jvm.Cond.methodLink own index y).before a0 Z = true) (w2 : (Jvm.Cond.static y).before a0 Z = true) (w3 : (Jvm.Cond.initialized y.cls).before a0 Z = true) (w4 : (Jvm.Cond.code y bytes maxL ret).before a0 Z = true) (hy : y.cls ≠ "java/lang/invoke/MethodHandle" ∧ y.cls ≠ "java/lang/invoke/VarHandle")
    {rm : Room} {argsL rest : List Value} {Q : Option Value → Heap → List Loc → Prop}
    (K : MetFree l y (head1 [Jvm.Cond.code y bytes maxL ret] rm) (fun a U => a = argsL.toArray ∧ Z.Warmed39 U.vm ∧ U.heap = h0) (fun _ _ _ _ _ => True) (fun _ U o U' => ∃ v L, o = .returned v ∧ Q v U'.heap L ∧ FrameEnd U o U' L rm.cells rm.slots))
    (W : Nat) (hf : rm.frames + 1 ≤ R.frames) (hl : W + (maxL + 11) + rm.locals ≤ R.locals) (eT : T.heap = h0) (hcl : cells + rm.cells ≤ R.cells) (hsl : slots + rm.slots ≤ R.slots)
    {g : JFrame} (hg : g.method = m) (hsize : g.locals.size = c.maxLocals) (hlen : ∀ sig, parseMethodDescriptor y.desc = some sig → argsL.length = sig.parameters.length) (hstack : g.stack = argsL.reverse ++ rest) (hW : 2 * g.monitorRoom + (rest.map fun v => v.category).sum ≤ W) (hdg : decode c.code g.pc = .ok (.invokestatic index, 3)) :
    ∃ (v : Option Value) (T' : State) (L : List Loc), Stand p l e R s m args below meth c T' (locs ++ L) (cells + rm.cells) (slots + rm.slots) ∧ Q v T'.heap L ∧ ∀ t, Steps p.tables e below (T'.setTop { g with pc := g.pc + 3, stack := v.toList ++ rest }) t → Steps p.tables e below (T.setTop g) t := by
  obtain ⟨v, _, ⟨T1, L1, k1, n1⟩, -, X1, ⟨Lc, hQ, l1, y1, z1⟩, st⟩ := Jvm.LawKit.callS X hx (y := y) hown (mvT hZ w1) (mvT hZ w2) (mvT hZ w3) (mvT hZ w4) hy (backOf (W := W) K hZ w4 w3 hf hl) (g := g) hg hsize (argsL := argsL) (rest := rest) hlen hstack hW hdg (fun _ _ => ⟨rfl, eT, hcl, hsl⟩)
  dsimp only [Pt.U, Pt.locs, Pt.cells, Pt.slots] at X1 l1 y1 z1 st hQ
  subst l1 y1 z1
  exact ⟨v, T1, Lc, X1, hQ, st⟩
/-! arrays: n places, place i holds f i -/
def ownA (Z : State) (h : Heap) (a : Addr) (ty : FieldType) (n : Nat) (f : Nat → Value) : Prop :=
  ∃ c : Cell, Arr Z h a c ty ∧ c.slots.size = n ∧ n < 2147483648 ∧ ∀ i, i < n → c.slots[i]? = some (f i) ∧ fits ty (f i) = true
def own_up (f : Nat → Value) (j : Nat) (v : Value) (i : Nat) : Value := if i = j then v else f i
theorem own_up_hit {f : Nat → Value} {j : Nat} {v : Value} : own_up f j v j = v := if_pos rfl
theorem own_up_miss {f : Nat → Value} {i j : Nat} {v : Value} (q : i ≠ j) : own_up f j v i = f i := if_neg q
theorem ownA.ext {a : Addr} {ty : FieldType} {n : Nat} {f : Nat → Value} (V : ownA Z h a ty n f) (E : Ext h h') : ownA Z h' a ty n f := by obtain ⟨c, A, r⟩ := V; exact ⟨c, A.ext E, r⟩
theorem ownA.other {a b : Addr} {ty : FieldType} {n sl : Nat} {v : Value} {f : Nat → Value} (V : ownA Z h a ty n f) (W : Wr h h' b sl v) (q : a ≠ b) : ownA Z h' a ty n f := by obtain ⟨c, A, r⟩ := V; exact ⟨c, A.other W q, r⟩
theorem ownA.keep {a : Addr} {ty : FieldType} {n : Nat} {ws : List Addr} {f : Nat → Value} (V : ownA Z h a ty n f) (K : Keep h h' ws) (q : a ∉ ws) : ownA Z h' a ty n f := by obtain ⟨c, A, r⟩ := V; exact ⟨c, ⟨K.2.1 a c A.1 q, A.2⟩, r⟩
theorem ownA.lt {a : Addr} {ty : FieldType} {n : Nat} {f : Nat → Value} (V : ownA Z h a ty n f) : a < h.size := by obtain ⟨c, A, r⟩ := V; exact A.lt
theorem ownA.eq {a : Addr} {ty : FieldType} {n : Nat} {f f' : Nat → Value} (V : ownA Z h a ty n f) (q : ∀ i, i < n → f i = f' i) : ownA Z h a ty n f' := by
  obtain ⟨c, A, r1, r2, r3⟩ := V
  exact ⟨c, A, r1, r2, fun i hi => by rw [← q i hi]; exact r3 i hi⟩
theorem own_n32 {n : Nat} (q : n < 2147483648) : (Int32.ofNat n).toNatClampNeg = n := by rw [Int32.toNatClampNeg, Int32.toInt_ofNat_of_lt q]; rfl
theorem own_nn {n : Nat} (q : n < 2147483648) : ¬ Int32.ofNat n < 0 := by
  rw [Int32.lt_iff_toInt_lt, Int32.toInt_ofNat_of_lt q, show (0 : Int32).toInt = 0 from rfl]; omega
theorem ownA.new {a : Addr} {k : ClassId} {ty : FieldType} {n : Nat} (A : Arr Z h a (newA k ty (Int32.ofNat n)) ty) (q : n < 2147483648) (d : fits ty (defaultValue ty) = true) : ownA Z h a ty n (fun _ => defaultValue ty) := by
  refine ⟨_, A, by rw [sz_new, own_n32 q], q, fun i hi => ⟨?_, d⟩⟩
  simp [newA, own_n32 q, hi]
theorem own_in {cl : Cell} {n i : Nat} {j : Int32} (S : cl.slots.size = n) (q : n < 2147483648) (hj : j = Int32.ofNat i) (hi : i < n) : ¬ (j < 0 ∨ cl.slots.size ≤ j.toNatClampNeg) := by
  subst hj
  rw [S, own_n32 (by omega)]
  exact fun z => z.elim (own_nn (by omega)) (fun z => by omega)
theorem own_iaload {a : Addr} {n i : Nat} {f : Nat → Value} {j v : Int32} (X : Stand p l e R s m args below meth c T locs cells slots) (hx : p.tables.exec = Jvm.exec) (hZ : Z.Warmed39 s.vm) (eT : T.heap = h) (V : ownA Z h a .int n f) (hj : j = Int32.ofNat i) (hi : i < n) (hv : f i = .int v)
    {g : JFrame} (hg : g.method = m) {rest : List Value} (hs : g.stack = .int j :: .ref a :: rest) (hd : decode c.code g.pc = .ok (.iaload, 1)) :
    ∀ t, Steps p.tables e below (T.setTop { g with pc := g.pc + 1, stack := .int v :: rest }) t → Steps p.tables e below (T.setTop g) t := by
  obtain ⟨cl, A, S, q, H⟩ := V
  have hat : cl.slots[j.toNatClampNeg]? = some (.int v) := by rw [hj, own_n32 (by omega), ← hv]; exact (H i hi).1
  exact X.iaload hx (j := j) (by rw [eT]; exact A.1) (State.isArrayOf_alike hZ.alike A.2.1) A.2.2 (own_in S q hj hi) hat hg hs hd
theorem own_laload {a : Addr} {n i : Nat} {f : Nat → Value} {j : Int32} {v : Int64} (X : Stand p l e R s m args below meth c T locs cells slots) (hx : p.tables.exec = Jvm.exec) (hZ : Z.Warmed39 s.vm) (eT : T.heap = h) (V : ownA Z h a .long n f) (hj : j = Int32.ofNat i) (hi : i < n) (hv : f i = .long v)
    {g : JFrame} (hg : g.method = m) {rest : List Value} (hs : g.stack = .int j :: .ref a :: rest) (hd : decode c.code g.pc = .ok (.laload, 1)) :
    ∀ t, Steps p.tables e below (T.setTop { g with pc := g.pc + 1, stack := .long v :: rest }) t → Steps p.tables e below (T.setTop g) t := by
  obtain ⟨cl, A, S, q, H⟩ := V
  have hat : cl.slots[j.toNatClampNeg]? = some (.long v) := by rw [hj, own_n32 (by omega), ← hv]; exact (H i hi).1
  exact X.laload hx (j := j) (by rw [eT]; exact A.1) (State.isArrayOf_alike hZ.alike A.2.1) A.2.2 (own_in S q hj hi) hat hg hs hd
theorem own_baload {a : Addr} {n i : Nat} {f : Nat → Value} {j v : Int32} (X : Stand p l e R s m args below meth c T locs cells slots) (hx : p.tables.exec = Jvm.exec) (hZ : Z.Warmed39 s.vm) (eT : T.heap = h) (V : ownA Z h a .byte n f) (hj : j = Int32.ofNat i) (hi : i < n) (hv : f i = .int v)
    {g : JFrame} (hg : g.method = m) {rest : List Value} (hs : g.stack = .int j :: .ref a :: rest) (hd : decode c.code g.pc = .ok (.baload, 1)) :
    ∀ t, Steps p.tables e below (T.setTop { g with pc := g.pc + 1, stack := .int v :: rest }) t → Steps p.tables e below (T.setTop g) t := by
  obtain ⟨cl, A, S, q, H⟩ := V
  have hat : cl.slots[j.toNatClampNeg]? = some (.int v) := by rw [hj, own_n32 (by omega), ← hv]; exact (H i hi).1
  exact X.baloadBytes hx (j := j) (by rw [eT]; exact A.1) (State.isArrayOf_alike hZ.alike A.2.1) A.2.2 (own_in S q hj hi) hat hg hs hd
theorem own_alen {a : Addr} {ty : FieldType} {n : Nat} {f : Nat → Value} (X : Stand p l e R s m args below meth c T locs cells slots) (hx : p.tables.exec = Jvm.exec) (hZ : Z.Warmed39 s.vm) (eT : T.heap = h) (V : ownA Z h a ty n f)
    {g : JFrame} (hg : g.method = m) {rest : List Value} (hs : g.stack = .ref a :: rest) (hd : decode c.code g.pc = .ok (.arraylength, 1)) :
    ∀ t, Steps p.tables e below (T.setTop { g with pc := g.pc + 1, stack := .int (Int32.ofNat n) :: rest }) t → Steps p.tables e below (T.setTop g) t := by
  obtain ⟨cl, A, S, q, H⟩ := V
  intro t k
  refine X.arraylength hx (cell := cl) (by rw [eT]; exact A.1) (State.isArrayOf_alike hZ.alike A.2.1) hg hs hd t ?_
  rw [S]; exact k
theorem ownA.put {a : Addr} {ty : FieldType} {n i : Nat} {f : Nat → Value} {v : Value} (V : ownA Z h a ty n f) (W : Wr h h' a i v) (hv : fits ty v = true) : ownA Z h' a ty n (own_up f i v) := by
  obtain ⟨cl, A, S, q, H⟩ := V
  refine ⟨_, A.same W, by rw [sz_set]; exact S, q, fun k hk => ?_⟩
  by_cases z : k = i
  · subst z
    rw [own_up_hit]
    exact ⟨by simp [Cell.setSlot, S, hk], hv⟩
  · rw [own_up_miss z]
    refine ⟨?_, (H k hk).2⟩
    rw [← (H k hk).1]
    exact Array.getElem?_setIfInBounds_ne (Ne.symm z)
theorem own_iastore {a : Addr} {n i : Nat} {f : Nat → Value} {j x : Int32} (X : Stand p l e R s m args below meth c T locs cells slots) (hx : p.tables.exec = Jvm.exec) (hZ : Z.Warmed39 s.vm) (eT : T.heap = h) (V : ownA Z h a .int n f) (hj : j = Int32.ofNat i) (hi : i < n)
    {g : JFrame} (hg : g.method = m) {rest : List Value} (hs : g.stack = .int x :: .int j :: .ref a :: rest) (hd : decode c.code g.pc = .ok (.iastore, 1)) :
    ∃ T' h', Stand p l e R s m args below meth c T' (locs ++ [⟨a, i⟩]) cells slots ∧ T'.heap = h' ∧ Wr h h' a i (.int x) ∧ ownA Z h' a .int n (own_up f i (.int x)) ∧ ∀ t, Steps p.tables e below (T'.setTop { g with pc := g.pc + 1, stack := rest }) t → Steps p.tables e below (T.setTop g) t := by
  have V0 := V
  obtain ⟨cl, A, S, q, H⟩ := V
  obtain ⟨T', h', X', e', W', st⟩ := stI X hx hZ eT A (j := j) (own_in S q hj hi) hg hs hd
  have ej : j.toNatClampNeg = i := by rw [hj]; exact own_n32 (by omega)
  rw [ej] at X' W'
  exact ⟨T', h', X', e', W', V0.put W' rfl, st⟩
theorem own_lastore {a : Addr} {n i : Nat} {f : Nat → Value} {j : Int32} {x : Int64} (X : Stand p l e R s m args below meth c T locs cells slots) (hx : p.tables.exec = Jvm.exec) (hZ : Z.Warmed39 s.vm) (eT : T.heap = h) (V : ownA Z h a .long n f) (hj : j = Int32.ofNat i) (hi : i < n)
    {g : JFrame} (hg : g.method = m) {rest : List Value} (hs : g.stack = .long x :: .int j :: .ref a :: rest) (hd : decode c.code g.pc = .ok (.lastore, 1)) :
    ∃ T' h', Stand p l e R s m args below meth c T' (locs ++ [⟨a, i⟩]) cells slots ∧ T'.heap = h' ∧ Wr h h' a i (.long x) ∧ ownA Z h' a .long n (own_up f i (.long x)) ∧ ∀ t, Steps p.tables e below (T'.setTop { g with pc := g.pc + 1, stack := rest }) t → Steps p.tables e below (T.setTop g) t := by
  have V0 := V
  obtain ⟨cl, A, S, q, H⟩ := V
  obtain ⟨T', h', X', e', W', st⟩ := stJ X hx hZ eT A (j := j) (own_in S q hj hi) hg hs hd
  have ej : j.toNatClampNeg = i := by rw [hj]; exact own_n32 (by omega)
  rw [ej] at X' W'
  exact ⟨T', h', X', e', W', V0.put W' rfl, st⟩
theorem own_bastore {a : Addr} {n i : Nat} {f : Nat → Value} {j x : Int32} (X : Stand p l e R s m args below meth c T locs cells slots) (hx : p.tables.exec = Jvm.exec) (hZ : Z.Warmed39 s.vm) (eT : T.heap = h) (V : ownA Z h a .byte n f) (hj : j = Int32.ofNat i) (hi : i < n)
    {g : JFrame} (hg : g.method = m) {rest : List Value} (hs : g.stack = .int x :: .int j :: .ref a :: rest) (hd : decode c.code g.pc = .ok (.bastore, 1)) :
    ∃ T' h', Stand p l e R s m args below meth c T' (locs ++ [⟨a, i⟩]) cells slots ∧ T'.heap = h' ∧ Wr h h' a i (.int x.toInt8.toInt32) ∧ ownA Z h' a .byte n (own_up f i (.int x.toInt8.toInt32)) ∧ ∀ t, Steps p.tables e below (T'.setTop { g with pc := g.pc + 1, stack := rest }) t → Steps p.tables e below (T.setTop g) t := by
  have V0 := V
  obtain ⟨cl, A, S, q, H⟩ := V
  obtain ⟨T', h', X', e', W', st⟩ := stB X hx hZ eT A (j := j) (own_in S q hj hi) hg hs hd
  have ej : j.toNatClampNeg = i := by rw [hj]; exact own_n32 (by omega)
  rw [ej] at X' W'
  exact ⟨T', h', X', e', W', V0.put W' (fits_nar_byte _), st⟩
/-- newarray of n places, at most cap -/
theorem own_newarray {aty : ArrayType} (X : Stand p l e R s m args below meth c T locs cells slots) (hx : p.tables.exec = Jvm.exec) (hZ : Z.Warmed39 s.vm) (w : (Jvm.Cond.arrayClass (newarray.typeOf aty)).before a0 Z = true) (eT : T.heap = h) (n : Nat) (cap : Nat) (hn : n ≤ cap) (hb : cap * 8 ≤ 536870912) (hc : cells + 1 ≤ R.cells) (hl : slots + cap ≤ R.slots) {ad : String} (had : "[" ++ (newarray.typeOf aty).toString = ad) (d : fits (newarray.typeOf aty) (defaultValue (newarray.typeOf aty)) = true)
    {z : Int32} (hz : z = Int32.ofNat n) {g : JFrame} (hg : g.method = m) (hd : decode c.code g.pc = .ok (.newarray aty, 2)) {rest : List Value} (hs : g.stack = .int z :: rest) :
    ∃ T' h' b, Stand p l e R s m args below meth c T' locs (cells + 1) (slots + cap) ∧ T'.heap = h' ∧ Ext h h' ∧ ownA Z h' b (newarray.typeOf aty) n (fun _ => defaultValue (newarray.typeOf aty)) ∧ Exa Z h' b ad ∧ b = h.size ∧
      ∀ t, Steps p.tables e below (T'.setTop { g with pc := g.pc + 2, stack := .ref b :: rest }) t → Steps p.tables e below (T.setTop g) t := by
  have hn' : n < 2147483648 := by omega
  subst hz
  obtain ⟨T', h', k, X', e', E, A, Ex, st⟩ := newPE X hx hZ w eT hg hd hs (own_nn hn') (by rw [own_n32 hn']; exact hn) hb hc hl had
  exact ⟨T', h', _, X', e', E, ownA.new A hn' d, Ex, rfl, st⟩
end Core
theorem ownA.int {Z : State} {h : Heap} {a : Addr} {n i : Nat} {f : Nat → Value} (V : ownA Z h a .int n f) (hi : i < n) : ∃ v : Int32, f i = .int v := by
  obtain ⟨c, A, S, q, H⟩ := V
  have q := (H i hi).2
  generalize f i = w at q
  cases w <;> first | exact ⟨_, rfl⟩ | simp [fits] at q
theorem own_idx (j : Int32) (n : Nat) (q0 : 0 ≤ j.toInt) (q1 : j.toInt < n) : ∃ i, i < n ∧ j = Int32.ofNat i := by
  have q2 := j.toInt_lt
  refine ⟨j.toInt.toNat, by omega, ?_⟩
  apply Int32.toInt_inj.mp
  rw [Int32.toInt_ofNat_of_lt (by omega)]
  omega
theorem own_ltn {i n : Nat} (q : i < n) (hn : n < 2147483648) : Int32.ofNat i < Int32.ofNat n := by
  rw [Int32.lt_iff_toInt_lt, Int32.toInt_ofNat_of_lt (by omega), Int32.toInt_ofNat_of_lt hn]
  omega
theorem own_255a (i : Nat) : (255#32).getLsbD i = decide (i < 8) := by
  rw [BitVec.getLsbD_ofNat, show (255 : Nat) = 2 ^ 8 - 1 from rfl, Nat.testBit_two_pow_sub_one]
  by_cases h : i < 8 <;> simp [h]; omega
theorem own_255b (i : Nat) : (255#64).getLsbD i = decide (i < 8) := by
  rw [BitVec.getLsbD_ofNat, show (255 : Nat) = 2 ^ 8 - 1 from rfl, Nat.testBit_two_pow_sub_one]
  by_cases h : i < 8 <;> simp [h]; omega
theorem own_byte (y : Int64) : ((y.toInt32.toInt8.toInt32.toInt8.toInt32) &&& (255 : Int32)).toInt64 = y &&& 255 := by
  apply Int64.toBitVec_inj.mp
  simp only [Int32.toBitVec_toInt64, Int32.toBitVec_and, Int64.toBitVec_and, Int8.toBitVec_toInt32, Int32.toBitVec_toInt8, Int64.toBitVec_toInt32]
  generalize y.toBitVec = w
  have e1 : (255 : Int32).toBitVec = 255#32 := rfl
  have e2 : (255 : Int64).toBitVec = 255#64 := rfl
  rw [e1, e2]
  apply BitVec.eq_of_getLsbD_eq
  intro i hi
  have m : (255#32).msb = false := by decide
  simp only [BitVec.getLsbD_and, BitVec.getLsbD_signExtend, BitVec.msb_and, m, Bool.and_false, own_255a, own_255b]
  by_cases h : i < 8
  · simp [h, show i < 32 by omega, hi]
  · simp [h]
theorem own_jn (w : BitVec 64) : ((w >>> 8) <<< 8) ||| (w &&& 255#64) = w := by
  apply BitVec.eq_of_getLsbD_eq
  intro i hi
  simp only [BitVec.getLsbD_or, BitVec.getLsbD_shiftLeft, BitVec.getLsbD_ushiftRight, BitVec.getLsbD_and, own_255b]
  by_cases h : i < 8
  · simp [h]
  · simp [h, hi, show 8 + (i - 8) = i by omega]
theorem own_shr_bv (y : Int64) (q : Int32) (k : Nat) (h : (q &&& 0x3f).toInt64.toUInt64.toBitVec.toNat % 64 = k) : (own_lushr y q).toBitVec = y.toBitVec >>> k := by
  apply BitVec.eq_of_toNat_eq
  subst h
  simp [own_lushr]
theorem own_shl8 (y : Int64) : (own_lshl y 8).toBitVec = y.toBitVec <<< 8 := by
  show (y <<< (8 : Int64)).toBitVec = _
  rw [Int64.toBitVec_shiftLeft]
  rfl
theorem own_acc_step (v x y : Int64) (s : Nat) (hx : x.toBitVec = v.toBitVec >>> (s + 8)) (hy : y.toBitVec = v.toBitVec >>> s) : (own_lshl x 8) ||| (((y.toInt32.toInt8.toInt32.toInt8.toInt32) &&& (255 : Int32)).toInt64) = y := by
  rw [own_byte]
  apply Int64.toBitVec_inj.mp
  rw [Int64.toBitVec_or, own_shl8, Int64.toBitVec_and, hx, hy, BitVec.shiftRight_add]
  exact own_jn _
/-- the long whose low byte is the i-th byte of v, the highest first -/
def own_w (v : Int64) : Nat → Int64
  | 0 => own_lushr v 56
  | 1 => own_lushr v 48
  | 2 => own_lushr v 40
  | 3 => own_lushr v 32
  | 4 => own_lushr v 24
  | 5 => own_lushr v 16
  | 6 => own_lushr v 8
  | _ => v
def own_bt (v : Int64) (i : Nat) : Int32 := (own_w v i).toInt32.toInt8.toInt32.toInt8.toInt32
def own_ac (v : Int64) : Nat → Int64
  | 0 => 0
  | i + 1 => own_w v i
theorem own_ac_step (v : Int64) (i : Nat) (hi : i < 8) : (own_lshl (own_ac v i) (8 : Int32)) ||| (((own_bt v i) &&& (255 : Int32)).toInt64) = own_ac v (i + 1) := by
  have z : (0 : Int64).toBitVec = v.toBitVec >>> (56 + 8) := by
    apply BitVec.eq_of_toNat_eq
    have := v.toBitVec.isLt
    rw [BitVec.toNat_ushiftRight, Nat.shiftRight_eq_div_pow, Nat.div_eq_of_lt this]
    rfl
  match i, hi with
  | 0, _ => exact own_acc_step v _ _ 56 z (own_shr_bv v 56 56 (by decide))
  | 1, _ => exact own_acc_step v _ _ 48 (own_shr_bv v 56 56 (by decide)) (own_shr_bv v 48 48 (by decide))
  | 2, _ => exact own_acc_step v _ _ 40 (own_shr_bv v 48 48 (by decide)) (own_shr_bv v 40 40 (by decide))
  | 3, _ => exact own_acc_step v _ _ 32 (own_shr_bv v 40 40 (by decide)) (own_shr_bv v 32 32 (by decide))
  | 4, _ => exact own_acc_step v _ _ 24 (own_shr_bv v 32 32 (by decide)) (own_shr_bv v 24 24 (by decide))
  | 5, _ => exact own_acc_step v _ _ 16 (own_shr_bv v 24 24 (by decide)) (own_shr_bv v 16 16 (by decide))
  | 6, _ => exact own_acc_step v _ _ 8 (own_shr_bv v 16 16 (by decide)) (own_shr_bv v 8 8 (by decide))
  | 7, _ => exact own_acc_step v _ _ 0 (own_shr_bv v 8 8 (by decide)) (by simp [own_w])
theorem own_lt8 {i : Nat} (hi : i < 8) : Int32.ofNat i < (8 : Int32) := by
  rw [Int32.lt_iff_toInt_lt, Int32.toInt_ofNat_of_lt (by omega), show (8 : Int32).toInt = 8 from rfl]
  omega
theorem d1_0 : decode prog_6_method_3_code 0 = .ok (.lconst 0, 1) := by decide +kernel
theorem d1_1 : decode prog_6_method_3_code 1 = .ok (.lstore_n 2, 1) := by decide +kernel
theorem d1_2 : decode prog_6_method_3_code 2 = .ok (.iconst 0, 1) := by decide +kernel
theorem d1_3 : decode prog_6_method_3_code 3 = .ok (.istore 4, 2) := by decide +kernel
theorem d1_5 : decode prog_6_method_3_code 5 = .ok (.iload 4, 2) := by decide +kernel
theorem d1_7 : decode prog_6_method_3_code 7 = .ok (.bipush 8, 2) := by decide +kernel
theorem d1_9 : decode prog_6_method_3_code 9 = .ok (.if_icmp .ge 26, 3) := by decide +kernel
theorem d1_12 : decode prog_6_method_3_code 12 = .ok (.lload_n 2, 1) := by decide +kernel
theorem d1_13 : decode prog_6_method_3_code 13 = .ok (.bipush 8, 2) := by decide +kernel
theorem d1_15 : decode prog_6_method_3_code 15 = .ok (.lshl, 1) := by decide +kernel
theorem d1_16 : decode prog_6_method_3_code 16 = .ok (.aload_n 0, 1) := by decide +kernel
theorem d1_17 : decode prog_6_method_3_code 17 = .ok (.iload_n 1, 1) := by decide +kernel
theorem d1_18 : decode prog_6_method_3_code 18 = .ok (.iload 4, 2) := by decide +kernel
theorem d1_20 : decode prog_6_method_3_code 20 = .ok (.iadd, 1) := by decide +kernel
theorem d1_21 : decode prog_6_method_3_code 21 = .ok (.baload, 1) := by decide +kernel
theorem d1_22 : decode prog_6_method_3_code 22 = .ok (.sipush 255, 3) := by decide +kernel
theorem d1_25 : decode prog_6_method_3_code 25 = .ok (.iand, 1) := by decide +kernel
theorem d1_26 : decode prog_6_method_3_code 26 = .ok (.i2l, 1) := by decide +kernel
theorem d1_27 : decode prog_6_method_3_code 27 = .ok (.lor, 1) := by decide +kernel
theorem d1_28 : decode prog_6_method_3_code 28 = .ok (.lstore_n 2, 1) := by decide +kernel
theorem d1_29 : decode prog_6_method_3_code 29 = .ok (.iinc 4 1, 3) := by decide +kernel
theorem d1_32 : decode prog_6_method_3_code 32 = .ok (.goto (-27), 3) := by decide +kernel
theorem d1_35 : decode prog_6_method_3_code 35 = .ok (.lload_n 2, 1) := by decide +kernel
theorem d1_36 : decode prog_6_method_3_code 36 = .ok (.lreturn, 1) := by decide +kernel
abbrev R1 : Room := { frames := 0, cells := 0, slots := 0, locals := 0 }
set_option maxRecDepth 65536 in
set_option maxHeartbeats 40000000 in
theorem own_loop1 {p : Program} {l : Launch} {e : Env} {s : State} {m : MethodId} {args : Array Value} {below : List Frame} {meth : Method} {c : Code} {T0 : State} {locs : List Loc} {Z : State} {a0 : Array Value} {h0 : Heap} {n0 : Nat} (hx : p.tables.exec = Jvm.exec) (hZ : Z.Warmed39 s.vm) (hw : ∀ d ∈ tables_1, d.before a0 Z = true) (hby : c.code = prog_6_method_3_code) (hml : c.maxLocals = 5) (hown : s.vm.findClass "com/example/oyster/oyster/engine/Bytes" = some m.cls) (hret : meth.sig.returnType = (some .long)) (hlk : meth.locks = false) (X0 : Stand p l e R1 s m args below meth c T0 locs 0 0) (e0 : T0.heap = h0) (N0 : Fr n0 locs) (x0 : Addr) (a : Nat) (ha : a < 3) (vl : Int64) (f : Nat → Value) (V : ownA Z h0 x0 .byte 10 f) (hf : ∀ i, i < 8 → f (a + i) = .int (own_bt vl i)) :
    ∀ (k i : Nat), i + k = 8 → ownGo p.tables e below T0 (mkF m 5 #[.val (.ref x0), .val (.int (Int32.ofNat a)), .val (.long (own_ac vl i)), .second, .val (.int (Int32.ofNat i))] []) (ownDone s (ownPure (.long vl) h0 n0) 0 0) := by
  intro k
  induction k with
  | zero =>
    intro i hi
    obtain rfl : i = 8 := by omega
    refine ownGo.st (fun _ k => XS.iload X0.here hx rfl (hb hby d1_5) rfl k) ?_
    show ownGo p.tables e below T0 (mkF m 7 #[.val (.ref x0), .val (.int (Int32.ofNat a)), .val (.long (own_ac vl 8)), .second, .val (.int (Int32.ofNat 8))] [(.int (Int32.ofNat 8))]) _
    refine ownGo.st (fun _ k => XS.bipush X0.here hx rfl (hb hby d1_7)  k) ?_
    show ownGo p.tables e below T0 (mkF m 9 #[.val (.ref x0), .val (.int (Int32.ofNat a)), .val (.long (own_ac vl 8)), .second, .val (.int (Int32.ofNat 8))] [(.int (8 : Int32)), (.int (Int32.ofNat 8))]) _
    have hc1 : ¬ ((Int32.ofNat 8) < (8 : Int32)) := (by decide)
    refine ownGo.st (fun _ k => XS.icmpYes X0.here hx rfl (pc0 := 9) (pc' := 35) rfl (hb hby d1_9) rfl (flt hc1).2.1 (by decide) (by decide) k) ?_
    show ownGo p.tables e below T0 (mkF m 35 #[.val (.ref x0), .val (.int (Int32.ofNat a)), .val (.long (own_ac vl 8)), .second, .val (.int (Int32.ofNat 8))] []) _
    refine ownGo.st (fun _ k => XS.lloadN X0.here hx rfl (hb hby d1_35) rfl k) ?_
    show ownGo p.tables e below T0 (mkF m 36 #[.val (.ref x0), .val (.int (Int32.ofNat a)), .val (.long (own_ac vl 8)), .second, .val (.int (Int32.ofNat 8))] [(.long (own_ac vl 8))]) _
    exact own_retJ X0 hx hlk hret (hb hby d1_36) ⟨rfl, N0, e0⟩ (Nat.le_refl _) (Nat.le_refl _)
  | succ k ih =>
    intro i hi
    refine ownGo.st (fun _ k => XS.iload X0.here hx rfl (hb hby d1_5) rfl k) ?_
    show ownGo p.tables e below T0 (mkF m 7 #[.val (.ref x0), .val (.int (Int32.ofNat a)), .val (.long (own_ac vl i)), .second, .val (.int (Int32.ofNat i))] [(.int (Int32.ofNat i))]) _
    refine ownGo.st (fun _ k => XS.bipush X0.here hx rfl (hb hby d1_7)  k) ?_
    show ownGo p.tables e below T0 (mkF m 9 #[.val (.ref x0), .val (.int (Int32.ofNat a)), .val (.long (own_ac vl i)), .second, .val (.int (Int32.ofNat i))] [(.int (8 : Int32)), (.int (Int32.ofNat i))]) _
    have hc2 : (Int32.ofNat i) < (8 : Int32) := own_lt8 (by omega)
    refine ownGo.st (fun _ k => XS.icmpNo X0.here hx rfl (hb hby d1_9) rfl (tlt hc2).2.1 k) ?_
    show ownGo p.tables e below T0 (mkF m 12 #[.val (.ref x0), .val (.int (Int32.ofNat a)), .val (.long (own_ac vl i)), .second, .val (.int (Int32.ofNat i))] []) _
    refine ownGo.st (fun _ k => XS.lloadN X0.here hx rfl (hb hby d1_12) rfl k) ?_
    show ownGo p.tables e below T0 (mkF m 13 #[.val (.ref x0), .val (.int (Int32.ofNat a)), .val (.long (own_ac vl i)), .second, .val (.int (Int32.ofNat i))] [(.long (own_ac vl i))]) _
    refine ownGo.st (fun _ k => XS.bipush X0.here hx rfl (hb hby d1_13)  k) ?_
    show ownGo p.tables e below T0 (mkF m 15 #[.val (.ref x0), .val (.int (Int32.ofNat a)), .val (.long (own_ac vl i)), .second, .val (.int (Int32.ofNat i))] [(.int (8 : Int32)), (.long (own_ac vl i))]) _
    refine ownGo.st (fun _ k => XS.lshl X0.here hx rfl (hb hby d1_15) rfl k) ?_
    show ownGo p.tables e below T0 (mkF m 16 #[.val (.ref x0), .val (.int (Int32.ofNat a)), .val (.long (own_ac vl i)), .second, .val (.int (Int32.ofNat i))] [(.long (own_lshl (own_ac vl i) (8 : Int32)))]) _
    refine ownGo.st (fun _ k => XS.aloadN X0.here hx rfl (hb hby d1_16) rfl rfl k) ?_
    show ownGo p.tables e below T0 (mkF m 17 #[.val (.ref x0), .val (.int (Int32.ofNat a)), .val (.long (own_ac vl i)), .second, .val (.int (Int32.ofNat i))] [(.ref x0), (.long (own_lshl (own_ac vl i) (8 : Int32)))]) _
    refine ownGo.st (fun _ k => XS.iloadN X0.here hx rfl (hb hby d1_17) rfl k) ?_
    show ownGo p.tables e below T0 (mkF m 18 #[.val (.ref x0), .val (.int (Int32.ofNat a)), .val (.long (own_ac vl i)), .second, .val (.int (Int32.ofNat i))] [(.int (Int32.ofNat a)), (.ref x0), (.long (own_lshl (own_ac vl i) (8 : Int32)))]) _
    refine ownGo.st (fun _ k => XS.iload X0.here hx rfl (hb hby d1_18) rfl k) ?_
    show ownGo p.tables e below T0 (mkF m 20 #[.val (.ref x0), .val (.int (Int32.ofNat a)), .val (.long (own_ac vl i)), .second, .val (.int (Int32.ofNat i))] [(.int (Int32.ofNat i)), (.int (Int32.ofNat a)), (.ref x0), (.long (own_lshl (own_ac vl i) (8 : Int32)))]) _
    refine ownGo.st (fun _ k => XS.iadd X0.here hx rfl (hb hby d1_20) rfl k) ?_
    show ownGo p.tables e below T0 (mkF m 21 #[.val (.ref x0), .val (.int (Int32.ofNat a)), .val (.long (own_ac vl i)), .second, .val (.int (Int32.ofNat i))] [(.int ((Int32.ofNat a) + (Int32.ofNat i))), (.ref x0), (.long (own_lshl (own_ac vl i) (8 : Int32)))]) _
    refine ownGo.st (own_baload X0 hx hZ e0 V (i := (a + i)) (v := (own_bt vl i)) (Int32.ofNat_add a i).symm (by omega) (hf i (by omega)) (g := (mkF m 21 #[.val (.ref x0), .val (.int (Int32.ofNat a)), .val (.long (own_ac vl i)), .second, .val (.int (Int32.ofNat i))] [(.int ((Int32.ofNat a) + (Int32.ofNat i))), (.ref x0), (.long (own_lshl (own_ac vl i) (8 : Int32)))])) rfl rfl (hb hby d1_21)) ?_
    show ownGo p.tables e below T0 (mkF m 22 #[.val (.ref x0), .val (.int (Int32.ofNat a)), .val (.long (own_ac vl i)), .second, .val (.int (Int32.ofNat i))] [(.int (own_bt vl i)), (.long (own_lshl (own_ac vl i) (8 : Int32)))]) _
    refine ownGo.st (fun _ k => XS.sipush X0.here hx rfl (hb hby d1_22)  k) ?_
    show ownGo p.tables e below T0 (mkF m 25 #[.val (.ref x0), .val (.int (Int32.ofNat a)), .val (.long (own_ac vl i)), .second, .val (.int (Int32.ofNat i))] [(.int (255 : Int32)), (.int (own_bt vl i)), (.long (own_lshl (own_ac vl i) (8 : Int32)))]) _
    refine ownGo.st (fun _ k => XS.iand X0.here hx rfl (hb hby d1_25) rfl k) ?_
    show ownGo p.tables e below T0 (mkF m 26 #[.val (.ref x0), .val (.int (Int32.ofNat a)), .val (.long (own_ac vl i)), .second, .val (.int (Int32.ofNat i))] [(.int ((own_bt vl i) &&& (255 : Int32))), (.long (own_lshl (own_ac vl i) (8 : Int32)))]) _
    refine ownGo.st (fun _ k => XS.i2l X0.here hx rfl (hb hby d1_26) rfl k) ?_
    show ownGo p.tables e below T0 (mkF m 27 #[.val (.ref x0), .val (.int (Int32.ofNat a)), .val (.long (own_ac vl i)), .second, .val (.int (Int32.ofNat i))] [(.long (((own_bt vl i) &&& (255 : Int32)).toInt64)), (.long (own_lshl (own_ac vl i) (8 : Int32)))]) _
    refine ownGo.st (fun _ k => XS.lor X0.here hx rfl (hb hby d1_27) rfl k) ?_
    show ownGo p.tables e below T0 (mkF m 28 #[.val (.ref x0), .val (.int (Int32.ofNat a)), .val (.long (own_ac vl i)), .second, .val (.int (Int32.ofNat i))] [(.long ((own_lshl (own_ac vl i) (8 : Int32)) ||| (((own_bt vl i) &&& (255 : Int32)).toInt64)))]) _
    refine ownGo.st (fun _ k => XS.lstoreN X0.here hx rfl (hb hby d1_28) rfl (l' := #[.val (.ref x0), .val (.int (Int32.ofNat a)), .val (.long ((own_lshl (own_ac vl i) (8 : Int32)) ||| (((own_bt vl i) &&& (255 : Int32)).toInt64))), .second, .val (.int (Int32.ofNat i))]) rfl k) ?_
    show ownGo p.tables e below T0 (mkF m 29 #[.val (.ref x0), .val (.int (Int32.ofNat a)), .val (.long ((own_lshl (own_ac vl i) (8 : Int32)) ||| (((own_bt vl i) &&& (255 : Int32)).toInt64))), .second, .val (.int (Int32.ofNat i))] []) _
    refine ownGo.st (fun _ k => XS.iinc X0.here hx rfl (hb hby d1_29) rfl (l' := #[.val (.ref x0), .val (.int (Int32.ofNat a)), .val (.long ((own_lshl (own_ac vl i) (8 : Int32)) ||| (((own_bt vl i) &&& (255 : Int32)).toInt64))), .second, .val (.int ((Int32.ofNat i) + (1 : Int32)))]) rfl k) ?_
    show ownGo p.tables e below T0 (mkF m 32 #[.val (.ref x0), .val (.int (Int32.ofNat a)), .val (.long ((own_lshl (own_ac vl i) (8 : Int32)) ||| (((own_bt vl i) &&& (255 : Int32)).toInt64))), .second, .val (.int ((Int32.ofNat i) + (1 : Int32)))] []) _
    refine ownGo.st (fun _ k => XS.goto X0.here hx rfl (pc0 := 32) (pc' := 5) rfl (hb hby d1_32) (by decide) (by decide) k) ?_
    show ownGo p.tables e below T0 (mkF m 5 #[.val (.ref x0), .val (.int (Int32.ofNat a)), .val (.long ((own_lshl (own_ac vl i) (8 : Int32)) ||| (((own_bt vl i) &&& (255 : Int32)).toInt64))), .second, .val (.int ((Int32.ofNat i) + (1 : Int32)))] []) _
    rw [own_ac_step vl i (by omega), show Int32.ofNat i + (1 : Int32) = Int32.ofNat (i + 1) from (Int32.ofNat_add i 1).symm]
    exact ih (i + 1) (by omega)
theorem pn_1 : plainName "com/example/oyster/oyster/engine/Bytes" = true := by first | (simp [plainName, overriddenIn]; done) | decide +kernel
theorem ef_1 (m : MethodId) (x0 : Addr) (x1 : Int32) : entryFrame m #[(.ref x0), (.int x1)] 5 = mkF m 0 #[.val (.ref x0), .val (.int x1), .unset, .unset, .unset] [] := by first | (simp [entryFrame, mkF, argsToLocals, Value.category]; done) | rfl
set_option maxRecDepth 65536 in
set_option maxHeartbeats 40000000 in
theorem rm1 (l : Launch) (Z : State) (a0 : Array Value) (hw : ∀ d ∈ tables_1, d.before a0 Z = true) (x0 : Addr) (x1 : Int32) (a : Nat) (vl : Int64) (f : Nat → Value) (h0 : Heap) (n0 : Nat) (ha : a < 3) (h1 : x1 = Int32.ofNat a) (V : ownA Z h0 x0 .byte 10 f) (hf : ∀ i, i < 8 → f (a + i) = .int (own_bt vl i)) :
    MetFree l (⟨"com/example/oyster/oyster/engine/Bytes", "fixed", "([BI)J"⟩ : MethodName) (head1 [Jvm.Cond.code (⟨"com/example/oyster/oyster/engine/Bytes", "fixed", "([BI)J"⟩ : MethodName) prog_6_method_3_code 5 (some .long)] R1) (fun a U => a = #[(.ref x0), (.int x1)] ∧ Z.Warmed39 U.vm ∧ U.heap = h0) (fun _ _ _ _ _ => True) (fun _ U o U' => ∃ v L, o = .returned v ∧ ownPure (.long vl) h0 n0 v U'.heap L ∧ FrameEnd U o U' L R1.cells R1.slots) := by
  refine MetFree.of_bodySF (plainFor_of_name pn_1) hisR ?_
  intro p e s m args below meth c s₁ Bd hml0 hP hK
  obtain ⟨rfl, hZ, hh⟩ := hP
  have hx := Bd.exec
  have hby := Bd.bytes
  have hml : c.maxLocals = 5 := hml0
  have hown : s.vm.findClass "com/example/oyster/oyster/engine/Bytes" = some m.cls := findClass_of_methodNamed Bd.named
  have hnm := (name_of_methodNamed Bd.named Bd.method).1
  have hret := Bd.returns
  have hlk : meth.locks = false := BodyLoose.notSynchronized Bd
  have X0 : Stand p l e R1 s m #[(.ref x0), (.int x1)] below meth c s₁ [] 0 0 := Stand.of_body Bd
  have e0 : s₁.heap = h0 := by rw [← hh, Bd.state]; rfl
  have N0 := Fr.nil n0
  show ownGo p.tables e below s₁ (entryFrame m #[(.ref x0), (.int x1)] 5) (ownDone s (ownPure (.long vl) h0 n0) R1.cells R1.slots)
  rw [ef_1 m x0 x1]
  subst h1
  show ownGo p.tables e below s₁ (mkF m 0 #[.val (.ref x0), .val (.int (Int32.ofNat a)), .unset, .unset, .unset] []) _
  refine ownGo.st (fun _ k => XS.lconst X0.here hx rfl (hb hby d1_0)  k) ?_
  show ownGo p.tables e below s₁ (mkF m 1 #[.val (.ref x0), .val (.int (Int32.ofNat a)), .unset, .unset, .unset] [(.long (0 : Int64))]) _
  refine ownGo.st (fun _ k => XS.lstoreN X0.here hx rfl (hb hby d1_1) rfl (l' := #[.val (.ref x0), .val (.int (Int32.ofNat a)), .val (.long (0 : Int64)), .second, .unset]) rfl k) ?_
  show ownGo p.tables e below s₁ (mkF m 2 #[.val (.ref x0), .val (.int (Int32.ofNat a)), .val (.long (0 : Int64)), .second, .unset] []) _
  refine ownGo.st (fun _ k => XS.iconst X0.here hx rfl (hb hby d1_2)  k) ?_
  show ownGo p.tables e below s₁ (mkF m 3 #[.val (.ref x0), .val (.int (Int32.ofNat a)), .val (.long (0 : Int64)), .second, .unset] [(.int (0 : Int32))]) _
  refine ownGo.st (fun _ k => XS.istore X0.here hx rfl (hb hby d1_3) rfl (l' := #[.val (.ref x0), .val (.int (Int32.ofNat a)), .val (.long (0 : Int64)), .second, .val (.int (0 : Int32))]) rfl k) ?_
  show ownGo p.tables e below s₁ (mkF m 5 #[.val (.ref x0), .val (.int (Int32.ofNat a)), .val (.long (0 : Int64)), .second, .val (.int (0 : Int32))] []) _
  exact own_loop1 hx hZ hw hby hml hown hret hlk X0 e0 N0 x0 a ha vl f V hf 8 0 rfl
theorem own_at3 (x : Int32) : ∃ a, a < 3 ∧ (x &&& (2147483647 : Int32)) % (3 : Int32) = Int32.ofNat a := by
  have q := (c_and x (2147483647 : Int32) (by decide)).1
  have q2 := (c_irem (x &&& (2147483647 : Int32)) (3 : Int32) 3 rfl).1 q
  refine own_idx _ 3 ?_ ?_
  all_goals (rw [q2]; omega)
def Q0 (n0 : Nat) (v : Option Value) (h : Heap) (L : List Loc) : Prop := v = some (.int 1) ∧ Fr n0 L
theorem pd___BI_J : parseMethodDescriptor "([BI)J" = some ⟨[(.array .byte), .int], some .long⟩ := by decide +kernel
theorem pn_0 : plainName "com/example/oyster/oyster/engine/BytesFixedPinLaw" = true := by first | (simp [plainName, overriddenIn]; done) | decide +kernel
theorem ef_0 (m : MethodId) (x0 : Int64) (x1 : Int64) (x2 : Int32) : entryFrame m #[(.long x0), (.long x1), (.int x2)] maxLocals = mkF m 0 #[.val (.long x0), .second, .val (.long x1), .second, .val (.int x2), .unset, .unset] [] := by first | (simp [entryFrame, mkF, argsToLocals, Value.category, maxLocals]; done) | rfl
set_option maxRecDepth 65536 in
set_option maxHeartbeats 40000000 in
theorem rm0 (l : Launch) (Z : State) (a0 : Array Value) (hw : ∀ d ∈ tables_1, d.before a0 Z = true) (x0 : Int64) (x1 : Int64) (x2 : Int32) (h0 : Heap) (n0 : Nat) (Z0 : n0 ≤ h0.size) :
    MetFree l x (head1 (Jvm.Cond.code x code maxLocals ret :: tables_1) room_1) (fun a U => a = #[(.long x0), (.long x1), (.int x2)] ∧ Z.Warmed39 U.vm ∧ U.heap = h0) (fun _ _ _ _ _ => True) (fun _ U o U' => ∃ v L, o = .returned v ∧ Q0 n0 v U'.heap L ∧ FrameEnd U o U' L room_1.cells room_1.slots) := by
  refine MetFree.of_bodySF (plainFor_of_name pn_0) hisR ?_
  intro p e s m args below meth c s₁ Bd hml0 hP hK
  obtain ⟨rfl, hZ, hh⟩ := hP
  have hx := Bd.exec
  have hby := Bd.bytes
  have hml : c.maxLocals = 7 := hml0
  have hown : s.vm.findClass "com/example/oyster/oyster/engine/BytesFixedPinLaw" = some m.cls := findClass_of_methodNamed Bd.named
  have hnm := (name_of_methodNamed Bd.named Bd.method).1
  have hret := Bd.returns
  have hlk : meth.locks = false := BodyLoose.notSynchronized Bd
  have X0 : Stand p l e room_1 s m #[(.long x0), (.long x1), (.int x2)] below meth c s₁ [] 0 0 := Stand.of_body Bd
  have e0 : s₁.heap = h0 := by rw [← hh, Bd.state]; rfl
  have N0 := Fr.nil n0
  show ownGo p.tables e below s₁ (entryFrame m #[(.long x0), (.long x1), (.int x2)] maxLocals) (ownDone s (Q0 n0) room_1.cells room_1.slots)
  rw [ef_0 m x0 x1 x2]
  show ownGo p.tables e below s₁ (mkF m 0 #[.val (.long x0), .second, .val (.long x1), .second, .val (.int x2), .unset, .unset] []) _
  refine ownGo.st (fun _ k => XS.iload X0.here hx rfl (hb hby at_0) rfl k) ?_
  show ownGo p.tables e below s₁ (mkF m 2 #[.val (.long x0), .second, .val (.long x1), .second, .val (.int x2), .unset, .unset] [(.int x2)]) _
  refine ownGo.st (X0.ldcInt hx hown (mvT hZ (own_at hw 0 rfl)) (g := (mkF m 2 #[.val (.long x0), .second, .val (.long x1), .second, .val (.int x2), .unset, .unset] [(.int x2)])) rfl (hb hby at_2)) ?_
  show ownGo p.tables e below s₁ (mkF m 4 #[.val (.long x0), .second, .val (.long x1), .second, .val (.int x2), .unset, .unset] [(.int (2147483647 : Int32)), (.int x2)]) _
  refine ownGo.st (fun _ k => XS.iand X0.here hx rfl (hb hby at_4) rfl k) ?_
  show ownGo p.tables e below s₁ (mkF m 5 #[.val (.long x0), .second, .val (.long x1), .second, .val (.int x2), .unset, .unset] [(.int (x2 &&& (2147483647 : Int32)))]) _
  refine ownGo.st (fun _ k => XS.iconst X0.here hx rfl (hb hby at_5)  k) ?_
  show ownGo p.tables e below s₁ (mkF m 6 #[.val (.long x0), .second, .val (.long x1), .second, .val (.int x2), .unset, .unset] [(.int (3 : Int32)), (.int (x2 &&& (2147483647 : Int32)))]) _
  refine ownGo.st (fun _ k => iremM X0 hx rfl (hb hby at_6) rfl (by decide) k) ?_
  show ownGo p.tables e below s₁ (mkF m 7 #[.val (.long x0), .second, .val (.long x1), .second, .val (.int x2), .unset, .unset] [(.int ((x2 &&& (2147483647 : Int32)) % (3 : Int32)))]) _
  obtain ⟨a, ha, ea⟩ := own_at3 x2
  rw [ea]
  show ownGo p.tables e below s₁ (mkF m 7 #[.val (.long x0), .second, .val (.long x1), .second, .val (.int x2), .unset, .unset] [(.int (Int32.ofNat a))]) _
  refine ownGo.st (fun _ k => XS.istore X0.here hx rfl (hb hby at_7) rfl (l' := #[.val (.long x0), .second, .val (.long x1), .second, .val (.int x2), .val (.int (Int32.ofNat a)), .unset]) rfl k) ?_
  show ownGo p.tables e below s₁ (mkF m 9 #[.val (.long x0), .second, .val (.long x1), .second, .val (.int x2), .val (.int (Int32.ofNat a)), .unset] []) _
  refine ownGo.st (fun _ k => XS.bipush X0.here hx rfl (hb hby at_9)  k) ?_
  show ownGo p.tables e below s₁ (mkF m 11 #[.val (.long x0), .second, .val (.long x1), .second, .val (.int x2), .val (.int (Int32.ofNat a)), .unset] [(.int (10 : Int32))]) _
  obtain ⟨T3, h3, b3, X3, e3, E3, V_b3, Ex_b3, g_b3, st3⟩ := own_newarray (aty := .byte) X0 hx hZ (own_at hw 1 rfl) e0 10 10 (by decide) (by decide) (by decide) (by decide) (ad := "[B") (by rfl) rfl (z := (10 : Int32)) rfl (g := (mkF m 11 #[.val (.long x0), .second, .val (.long x1), .second, .val (.int x2), .val (.int (Int32.ofNat a)), .unset] [(.int (10 : Int32))])) rfl (hb hby at_11) rfl
  have gz_b3 : n0 ≤ b3 := Nat.le_trans Z0 (Nat.le_of_eq g_b3.symm)
  have Z3 : n0 ≤ h3.size := Nat.le_trans Z0 E3.1
  refine ownGo.st (st3) ?_
  show ownGo p.tables e below T3 (mkF m 13 #[.val (.long x0), .second, .val (.long x1), .second, .val (.int x2), .val (.int (Int32.ofNat a)), .unset] [(.ref b3)]) _
  refine ownGo.st (fun _ k => XS.astore X3.here hx rfl (hb hby at_13) rfl rfl (l' := #[.val (.long x0), .second, .val (.long x1), .second, .val (.int x2), .val (.int (Int32.ofNat a)), .val (.ref b3)]) rfl k) ?_
  show ownGo p.tables e below T3 (mkF m 15 #[.val (.long x0), .second, .val (.long x1), .second, .val (.int x2), .val (.int (Int32.ofNat a)), .val (.ref b3)] []) _
  refine ownGo.st (fun _ k => XS.aload X3.here hx rfl (hb hby at_15) rfl rfl k) ?_
  show ownGo p.tables e below T3 (mkF m 17 #[.val (.long x0), .second, .val (.long x1), .second, .val (.int x2), .val (.int (Int32.ofNat a)), .val (.ref b3)] [(.ref b3)]) _
  refine ownGo.st (fun _ k => XS.iconst X3.here hx rfl (hb hby at_17)  k) ?_
  show ownGo p.tables e below T3 (mkF m 18 #[.val (.long x0), .second, .val (.long x1), .second, .val (.int x2), .val (.int (Int32.ofNat a)), .val (.ref b3)] [(.int (0 : Int32)), (.ref b3)]) _
  refine ownGo.st (fun _ k => XS.lloadN X3.here hx rfl (hb hby at_18) rfl k) ?_
  show ownGo p.tables e below T3 (mkF m 19 #[.val (.long x0), .second, .val (.long x1), .second, .val (.int x2), .val (.int (Int32.ofNat a)), .val (.ref b3)] [(.long x1), (.int (0 : Int32)), (.ref b3)]) _
  refine ownGo.st (fun _ k => XS.l2i X3.here hx rfl (hb hby at_19) rfl k) ?_
  show ownGo p.tables e below T3 (mkF m 20 #[.val (.long x0), .second, .val (.long x1), .second, .val (.int x2), .val (.int (Int32.ofNat a)), .val (.ref b3)] [(.int (x1.toInt32)), (.int (0 : Int32)), (.ref b3)]) _
  refine ownGo.st (fun _ k => XS.i2b X3.here hx rfl (hb hby at_20) rfl k) ?_
  show ownGo p.tables e below T3 (mkF m 21 #[.val (.long x0), .second, .val (.long x1), .second, .val (.int x2), .val (.int (Int32.ofNat a)), .val (.ref b3)] [(.int ((x1.toInt32).toInt8.toInt32)), (.int (0 : Int32)), (.ref b3)]) _
  obtain ⟨T4, h4, X4, e4, W4, V_b3_4, st4⟩ := own_bastore X3 hx hZ e3 V_b3 (i := 0) rfl (by decide) (g := (mkF m 21 #[.val (.long x0), .second, .val (.long x1), .second, .val (.int x2), .val (.int (Int32.ofNat a)), .val (.ref b3)] [(.int ((x1.toInt32).toInt8.toInt32)), (.int (0 : Int32)), (.ref b3)])) rfl rfl (hb hby at_21)
  have Ex_b3_5 := Ex_b3.wr W4
  have N4 := Fr.snoc X4 N0 gz_b3
  have Z4 : n0 ≤ h4.size := Nat.le_trans Z3 (Nat.le_of_eq W4.size.symm)
  refine ownGo.st (st4) ?_
  show ownGo p.tables e below T4 (mkF m 22 #[.val (.long x0), .second, .val (.long x1), .second, .val (.int x2), .val (.int (Int32.ofNat a)), .val (.ref b3)] []) _
  refine ownGo.st (fun _ k => XS.aload X4.here hx rfl (hb hby at_22) rfl rfl k) ?_
  show ownGo p.tables e below T4 (mkF m 24 #[.val (.long x0), .second, .val (.long x1), .second, .val (.int x2), .val (.int (Int32.ofNat a)), .val (.ref b3)] [(.ref b3)]) _
  refine ownGo.st (fun _ k => XS.iconst X4.here hx rfl (hb hby at_24)  k) ?_
  show ownGo p.tables e below T4 (mkF m 25 #[.val (.long x0), .second, .val (.long x1), .second, .val (.int x2), .val (.int (Int32.ofNat a)), .val (.ref b3)] [(.int (1 : Int32)), (.ref b3)]) _
  refine ownGo.st (fun _ k => XS.lloadN X4.here hx rfl (hb hby at_25) rfl k) ?_
  show ownGo p.tables e below T4 (mkF m 26 #[.val (.long x0), .second, .val (.long x1), .second, .val (.int x2), .val (.int (Int32.ofNat a)), .val (.ref b3)] [(.long x1), (.int (1 : Int32)), (.ref b3)]) _
  refine ownGo.st (fun _ k => XS.bipush X4.here hx rfl (hb hby at_26)  k) ?_
  show ownGo p.tables e below T4 (mkF m 28 #[.val (.long x0), .second, .val (.long x1), .second, .val (.int x2), .val (.int (Int32.ofNat a)), .val (.ref b3)] [(.int (8 : Int32)), (.long x1), (.int (1 : Int32)), (.ref b3)]) _
  refine ownGo.st (fun _ k => XS.lushr X4.here hx rfl (hb hby at_28) rfl k) ?_
  show ownGo p.tables e below T4 (mkF m 29 #[.val (.long x0), .second, .val (.long x1), .second, .val (.int x2), .val (.int (Int32.ofNat a)), .val (.ref b3)] [(.long (own_lushr x1 (8 : Int32))), (.int (1 : Int32)), (.ref b3)]) _
  refine ownGo.st (fun _ k => XS.l2i X4.here hx rfl (hb hby at_29) rfl k) ?_
  show ownGo p.tables e below T4 (mkF m 30 #[.val (.long x0), .second, .val (.long x1), .second, .val (.int x2), .val (.int (Int32.ofNat a)), .val (.ref b3)] [(.int ((own_lushr x1 (8 : Int32)).toInt32)), (.int (1 : Int32)), (.ref b3)]) _
  refine ownGo.st (fun _ k => XS.i2b X4.here hx rfl (hb hby at_30) rfl k) ?_
  show ownGo p.tables e below T4 (mkF m 31 #[.val (.long x0), .second, .val (.long x1), .second, .val (.int x2), .val (.int (Int32.ofNat a)), .val (.ref b3)] [(.int (((own_lushr x1 (8 : Int32)).toInt32).toInt8.toInt32)), (.int (1 : Int32)), (.ref b3)]) _
  obtain ⟨T6, h6, X6, e6, W6, V_b3_6, st6⟩ := own_bastore X4 hx hZ e4 V_b3_4 (i := 1) rfl (by decide) (g := (mkF m 31 #[.val (.long x0), .second, .val (.long x1), .second, .val (.int x2), .val (.int (Int32.ofNat a)), .val (.ref b3)] [(.int (((own_lushr x1 (8 : Int32)).toInt32).toInt8.toInt32)), (.int (1 : Int32)), (.ref b3)])) rfl rfl (hb hby at_31)
  have Ex_b3_7 := Ex_b3_5.wr W6
  have N6 := Fr.snoc X6 N4 gz_b3
  have Z6 : n0 ≤ h6.size := Nat.le_trans Z4 (Nat.le_of_eq W6.size.symm)
  refine ownGo.st (st6) ?_
  show ownGo p.tables e below T6 (mkF m 32 #[.val (.long x0), .second, .val (.long x1), .second, .val (.int x2), .val (.int (Int32.ofNat a)), .val (.ref b3)] []) _
  refine ownGo.st (fun _ k => XS.aload X6.here hx rfl (hb hby at_32) rfl rfl k) ?_
  show ownGo p.tables e below T6 (mkF m 34 #[.val (.long x0), .second, .val (.long x1), .second, .val (.int x2), .val (.int (Int32.ofNat a)), .val (.ref b3)] [(.ref b3)]) _
  refine ownGo.st (fun _ k => XS.iconst X6.here hx rfl (hb hby at_34)  k) ?_
  show ownGo p.tables e below T6 (mkF m 35 #[.val (.long x0), .second, .val (.long x1), .second, .val (.int x2), .val (.int (Int32.ofNat a)), .val (.ref b3)] [(.int (2 : Int32)), (.ref b3)]) _
  refine ownGo.st (fun _ k => XS.lloadN X6.here hx rfl (hb hby at_35) rfl k) ?_
  show ownGo p.tables e below T6 (mkF m 36 #[.val (.long x0), .second, .val (.long x1), .second, .val (.int x2), .val (.int (Int32.ofNat a)), .val (.ref b3)] [(.long x1), (.int (2 : Int32)), (.ref b3)]) _
  refine ownGo.st (fun _ k => XS.bipush X6.here hx rfl (hb hby at_36)  k) ?_
  show ownGo p.tables e below T6 (mkF m 38 #[.val (.long x0), .second, .val (.long x1), .second, .val (.int x2), .val (.int (Int32.ofNat a)), .val (.ref b3)] [(.int (16 : Int32)), (.long x1), (.int (2 : Int32)), (.ref b3)]) _
  refine ownGo.st (fun _ k => XS.lushr X6.here hx rfl (hb hby at_38) rfl k) ?_
  show ownGo p.tables e below T6 (mkF m 39 #[.val (.long x0), .second, .val (.long x1), .second, .val (.int x2), .val (.int (Int32.ofNat a)), .val (.ref b3)] [(.long (own_lushr x1 (16 : Int32))), (.int (2 : Int32)), (.ref b3)]) _
  refine ownGo.st (fun _ k => XS.l2i X6.here hx rfl (hb hby at_39) rfl k) ?_
  show ownGo p.tables e below T6 (mkF m 40 #[.val (.long x0), .second, .val (.long x1), .second, .val (.int x2), .val (.int (Int32.ofNat a)), .val (.ref b3)] [(.int ((own_lushr x1 (16 : Int32)).toInt32)), (.int (2 : Int32)), (.ref b3)]) _
  refine ownGo.st (fun _ k => XS.i2b X6.here hx rfl (hb hby at_40) rfl k) ?_
  show ownGo p.tables e below T6 (mkF m 41 #[.val (.long x0), .second, .val (.long x1), .second, .val (.int x2), .val (.int (Int32.ofNat a)), .val (.ref b3)] [(.int (((own_lushr x1 (16 : Int32)).toInt32).toInt8.toInt32)), (.int (2 : Int32)), (.ref b3)]) _
  obtain ⟨T8, h8, X8, e8, W8, V_b3_8, st8⟩ := own_bastore X6 hx hZ e6 V_b3_6 (i := 2) rfl (by decide) (g := (mkF m 41 #[.val (.long x0), .second, .val (.long x1), .second, .val (.int x2), .val (.int (Int32.ofNat a)), .val (.ref b3)] [(.int (((own_lushr x1 (16 : Int32)).toInt32).toInt8.toInt32)), (.int (2 : Int32)), (.ref b3)])) rfl rfl (hb hby at_41)
  have Ex_b3_9 := Ex_b3_7.wr W8
  have N8 := Fr.snoc X8 N6 gz_b3
  have Z8 : n0 ≤ h8.size := Nat.le_trans Z6 (Nat.le_of_eq W8.size.symm)
  refine ownGo.st (st8) ?_
  show ownGo p.tables e below T8 (mkF m 42 #[.val (.long x0), .second, .val (.long x1), .second, .val (.int x2), .val (.int (Int32.ofNat a)), .val (.ref b3)] []) _
  refine ownGo.st (fun _ k => XS.aload X8.here hx rfl (hb hby at_42) rfl rfl k) ?_
  show ownGo p.tables e below T8 (mkF m 44 #[.val (.long x0), .second, .val (.long x1), .second, .val (.int x2), .val (.int (Int32.ofNat a)), .val (.ref b3)] [(.ref b3)]) _
  refine ownGo.st (fun _ k => XS.iconst X8.here hx rfl (hb hby at_44)  k) ?_
  show ownGo p.tables e below T8 (mkF m 45 #[.val (.long x0), .second, .val (.long x1), .second, .val (.int x2), .val (.int (Int32.ofNat a)), .val (.ref b3)] [(.int (3 : Int32)), (.ref b3)]) _
  refine ownGo.st (fun _ k => XS.lloadN X8.here hx rfl (hb hby at_45) rfl k) ?_
  show ownGo p.tables e below T8 (mkF m 46 #[.val (.long x0), .second, .val (.long x1), .second, .val (.int x2), .val (.int (Int32.ofNat a)), .val (.ref b3)] [(.long x1), (.int (3 : Int32)), (.ref b3)]) _
  refine ownGo.st (fun _ k => XS.bipush X8.here hx rfl (hb hby at_46)  k) ?_
  show ownGo p.tables e below T8 (mkF m 48 #[.val (.long x0), .second, .val (.long x1), .second, .val (.int x2), .val (.int (Int32.ofNat a)), .val (.ref b3)] [(.int (24 : Int32)), (.long x1), (.int (3 : Int32)), (.ref b3)]) _
  refine ownGo.st (fun _ k => XS.lushr X8.here hx rfl (hb hby at_48) rfl k) ?_
  show ownGo p.tables e below T8 (mkF m 49 #[.val (.long x0), .second, .val (.long x1), .second, .val (.int x2), .val (.int (Int32.ofNat a)), .val (.ref b3)] [(.long (own_lushr x1 (24 : Int32))), (.int (3 : Int32)), (.ref b3)]) _
  refine ownGo.st (fun _ k => XS.l2i X8.here hx rfl (hb hby at_49) rfl k) ?_
  show ownGo p.tables e below T8 (mkF m 50 #[.val (.long x0), .second, .val (.long x1), .second, .val (.int x2), .val (.int (Int32.ofNat a)), .val (.ref b3)] [(.int ((own_lushr x1 (24 : Int32)).toInt32)), (.int (3 : Int32)), (.ref b3)]) _
  refine ownGo.st (fun _ k => XS.i2b X8.here hx rfl (hb hby at_50) rfl k) ?_
  show ownGo p.tables e below T8 (mkF m 51 #[.val (.long x0), .second, .val (.long x1), .second, .val (.int x2), .val (.int (Int32.ofNat a)), .val (.ref b3)] [(.int (((own_lushr x1 (24 : Int32)).toInt32).toInt8.toInt32)), (.int (3 : Int32)), (.ref b3)]) _
  obtain ⟨T10, h10, X10, e10, W10, V_b3_10, st10⟩ := own_bastore X8 hx hZ e8 V_b3_8 (i := 3) rfl (by decide) (g := (mkF m 51 #[.val (.long x0), .second, .val (.long x1), .second, .val (.int x2), .val (.int (Int32.ofNat a)), .val (.ref b3)] [(.int (((own_lushr x1 (24 : Int32)).toInt32).toInt8.toInt32)), (.int (3 : Int32)), (.ref b3)])) rfl rfl (hb hby at_51)
  have Ex_b3_11 := Ex_b3_9.wr W10
  have N10 := Fr.snoc X10 N8 gz_b3
  have Z10 : n0 ≤ h10.size := Nat.le_trans Z8 (Nat.le_of_eq W10.size.symm)
  refine ownGo.st (st10) ?_
  show ownGo p.tables e below T10 (mkF m 52 #[.val (.long x0), .second, .val (.long x1), .second, .val (.int x2), .val (.int (Int32.ofNat a)), .val (.ref b3)] []) _
  refine ownGo.st (fun _ k => XS.aload X10.here hx rfl (hb hby at_52) rfl rfl k) ?_
  show ownGo p.tables e below T10 (mkF m 54 #[.val (.long x0), .second, .val (.long x1), .second, .val (.int x2), .val (.int (Int32.ofNat a)), .val (.ref b3)] [(.ref b3)]) _
  refine ownGo.st (fun _ k => XS.iconst X10.here hx rfl (hb hby at_54)  k) ?_
  show ownGo p.tables e below T10 (mkF m 55 #[.val (.long x0), .second, .val (.long x1), .second, .val (.int x2), .val (.int (Int32.ofNat a)), .val (.ref b3)] [(.int (4 : Int32)), (.ref b3)]) _
  refine ownGo.st (fun _ k => XS.lloadN X10.here hx rfl (hb hby at_55) rfl k) ?_
  show ownGo p.tables e below T10 (mkF m 56 #[.val (.long x0), .second, .val (.long x1), .second, .val (.int x2), .val (.int (Int32.ofNat a)), .val (.ref b3)] [(.long x1), (.int (4 : Int32)), (.ref b3)]) _
  refine ownGo.st (fun _ k => XS.bipush X10.here hx rfl (hb hby at_56)  k) ?_
  show ownGo p.tables e below T10 (mkF m 58 #[.val (.long x0), .second, .val (.long x1), .second, .val (.int x2), .val (.int (Int32.ofNat a)), .val (.ref b3)] [(.int (32 : Int32)), (.long x1), (.int (4 : Int32)), (.ref b3)]) _
  refine ownGo.st (fun _ k => XS.lushr X10.here hx rfl (hb hby at_58) rfl k) ?_
  show ownGo p.tables e below T10 (mkF m 59 #[.val (.long x0), .second, .val (.long x1), .second, .val (.int x2), .val (.int (Int32.ofNat a)), .val (.ref b3)] [(.long (own_lushr x1 (32 : Int32))), (.int (4 : Int32)), (.ref b3)]) _
  refine ownGo.st (fun _ k => XS.l2i X10.here hx rfl (hb hby at_59) rfl k) ?_
  show ownGo p.tables e below T10 (mkF m 60 #[.val (.long x0), .second, .val (.long x1), .second, .val (.int x2), .val (.int (Int32.ofNat a)), .val (.ref b3)] [(.int ((own_lushr x1 (32 : Int32)).toInt32)), (.int (4 : Int32)), (.ref b3)]) _
  refine ownGo.st (fun _ k => XS.i2b X10.here hx rfl (hb hby at_60) rfl k) ?_
  show ownGo p.tables e below T10 (mkF m 61 #[.val (.long x0), .second, .val (.long x1), .second, .val (.int x2), .val (.int (Int32.ofNat a)), .val (.ref b3)] [(.int (((own_lushr x1 (32 : Int32)).toInt32).toInt8.toInt32)), (.int (4 : Int32)), (.ref b3)]) _
  obtain ⟨T12, h12, X12, e12, W12, V_b3_12, st12⟩ := own_bastore X10 hx hZ e10 V_b3_10 (i := 4) rfl (by decide) (g := (mkF m 61 #[.val (.long x0), .second, .val (.long x1), .second, .val (.int x2), .val (.int (Int32.ofNat a)), .val (.ref b3)] [(.int (((own_lushr x1 (32 : Int32)).toInt32).toInt8.toInt32)), (.int (4 : Int32)), (.ref b3)])) rfl rfl (hb hby at_61)
  have Ex_b3_13 := Ex_b3_11.wr W12
  have N12 := Fr.snoc X12 N10 gz_b3
  have Z12 : n0 ≤ h12.size := Nat.le_trans Z10 (Nat.le_of_eq W12.size.symm)
  refine ownGo.st (st12) ?_
  show ownGo p.tables e below T12 (mkF m 62 #[.val (.long x0), .second, .val (.long x1), .second, .val (.int x2), .val (.int (Int32.ofNat a)), .val (.ref b3)] []) _
  refine ownGo.st (fun _ k => XS.aload X12.here hx rfl (hb hby at_62) rfl rfl k) ?_
  show ownGo p.tables e below T12 (mkF m 64 #[.val (.long x0), .second, .val (.long x1), .second, .val (.int x2), .val (.int (Int32.ofNat a)), .val (.ref b3)] [(.ref b3)]) _
  refine ownGo.st (fun _ k => XS.iconst X12.here hx rfl (hb hby at_64)  k) ?_
  show ownGo p.tables e below T12 (mkF m 65 #[.val (.long x0), .second, .val (.long x1), .second, .val (.int x2), .val (.int (Int32.ofNat a)), .val (.ref b3)] [(.int (5 : Int32)), (.ref b3)]) _
  refine ownGo.st (fun _ k => XS.lloadN X12.here hx rfl (hb hby at_65) rfl k) ?_
  show ownGo p.tables e below T12 (mkF m 66 #[.val (.long x0), .second, .val (.long x1), .second, .val (.int x2), .val (.int (Int32.ofNat a)), .val (.ref b3)] [(.long x1), (.int (5 : Int32)), (.ref b3)]) _
  refine ownGo.st (fun _ k => XS.bipush X12.here hx rfl (hb hby at_66)  k) ?_
  show ownGo p.tables e below T12 (mkF m 68 #[.val (.long x0), .second, .val (.long x1), .second, .val (.int x2), .val (.int (Int32.ofNat a)), .val (.ref b3)] [(.int (40 : Int32)), (.long x1), (.int (5 : Int32)), (.ref b3)]) _
  refine ownGo.st (fun _ k => XS.lushr X12.here hx rfl (hb hby at_68) rfl k) ?_
  show ownGo p.tables e below T12 (mkF m 69 #[.val (.long x0), .second, .val (.long x1), .second, .val (.int x2), .val (.int (Int32.ofNat a)), .val (.ref b3)] [(.long (own_lushr x1 (40 : Int32))), (.int (5 : Int32)), (.ref b3)]) _
  refine ownGo.st (fun _ k => XS.l2i X12.here hx rfl (hb hby at_69) rfl k) ?_
  show ownGo p.tables e below T12 (mkF m 70 #[.val (.long x0), .second, .val (.long x1), .second, .val (.int x2), .val (.int (Int32.ofNat a)), .val (.ref b3)] [(.int ((own_lushr x1 (40 : Int32)).toInt32)), (.int (5 : Int32)), (.ref b3)]) _
  refine ownGo.st (fun _ k => XS.i2b X12.here hx rfl (hb hby at_70) rfl k) ?_
  show ownGo p.tables e below T12 (mkF m 71 #[.val (.long x0), .second, .val (.long x1), .second, .val (.int x2), .val (.int (Int32.ofNat a)), .val (.ref b3)] [(.int (((own_lushr x1 (40 : Int32)).toInt32).toInt8.toInt32)), (.int (5 : Int32)), (.ref b3)]) _
  obtain ⟨T14, h14, X14, e14, W14, V_b3_14, st14⟩ := own_bastore X12 hx hZ e12 V_b3_12 (i := 5) rfl (by decide) (g := (mkF m 71 #[.val (.long x0), .second, .val (.long x1), .second, .val (.int x2), .val (.int (Int32.ofNat a)), .val (.ref b3)] [(.int (((own_lushr x1 (40 : Int32)).toInt32).toInt8.toInt32)), (.int (5 : Int32)), (.ref b3)])) rfl rfl (hb hby at_71)
  have Ex_b3_15 := Ex_b3_13.wr W14
  have N14 := Fr.snoc X14 N12 gz_b3
  have Z14 : n0 ≤ h14.size := Nat.le_trans Z12 (Nat.le_of_eq W14.size.symm)
  refine ownGo.st (st14) ?_
  show ownGo p.tables e below T14 (mkF m 72 #[.val (.long x0), .second, .val (.long x1), .second, .val (.int x2), .val (.int (Int32.ofNat a)), .val (.ref b3)] []) _
  refine ownGo.st (fun _ k => XS.aload X14.here hx rfl (hb hby at_72) rfl rfl k) ?_
  show ownGo p.tables e below T14 (mkF m 74 #[.val (.long x0), .second, .val (.long x1), .second, .val (.int x2), .val (.int (Int32.ofNat a)), .val (.ref b3)] [(.ref b3)]) _
  refine ownGo.st (fun _ k => XS.bipush X14.here hx rfl (hb hby at_74)  k) ?_
  show ownGo p.tables e below T14 (mkF m 76 #[.val (.long x0), .second, .val (.long x1), .second, .val (.int x2), .val (.int (Int32.ofNat a)), .val (.ref b3)] [(.int (6 : Int32)), (.ref b3)]) _
  refine ownGo.st (fun _ k => XS.lloadN X14.here hx rfl (hb hby at_76) rfl k) ?_
  show ownGo p.tables e below T14 (mkF m 77 #[.val (.long x0), .second, .val (.long x1), .second, .val (.int x2), .val (.int (Int32.ofNat a)), .val (.ref b3)] [(.long x1), (.int (6 : Int32)), (.ref b3)]) _
  refine ownGo.st (fun _ k => XS.bipush X14.here hx rfl (hb hby at_77)  k) ?_
  show ownGo p.tables e below T14 (mkF m 79 #[.val (.long x0), .second, .val (.long x1), .second, .val (.int x2), .val (.int (Int32.ofNat a)), .val (.ref b3)] [(.int (48 : Int32)), (.long x1), (.int (6 : Int32)), (.ref b3)]) _
  refine ownGo.st (fun _ k => XS.lushr X14.here hx rfl (hb hby at_79) rfl k) ?_
  show ownGo p.tables e below T14 (mkF m 80 #[.val (.long x0), .second, .val (.long x1), .second, .val (.int x2), .val (.int (Int32.ofNat a)), .val (.ref b3)] [(.long (own_lushr x1 (48 : Int32))), (.int (6 : Int32)), (.ref b3)]) _
  refine ownGo.st (fun _ k => XS.l2i X14.here hx rfl (hb hby at_80) rfl k) ?_
  show ownGo p.tables e below T14 (mkF m 81 #[.val (.long x0), .second, .val (.long x1), .second, .val (.int x2), .val (.int (Int32.ofNat a)), .val (.ref b3)] [(.int ((own_lushr x1 (48 : Int32)).toInt32)), (.int (6 : Int32)), (.ref b3)]) _
  refine ownGo.st (fun _ k => XS.i2b X14.here hx rfl (hb hby at_81) rfl k) ?_
  show ownGo p.tables e below T14 (mkF m 82 #[.val (.long x0), .second, .val (.long x1), .second, .val (.int x2), .val (.int (Int32.ofNat a)), .val (.ref b3)] [(.int (((own_lushr x1 (48 : Int32)).toInt32).toInt8.toInt32)), (.int (6 : Int32)), (.ref b3)]) _
  obtain ⟨T16, h16, X16, e16, W16, V_b3_16, st16⟩ := own_bastore X14 hx hZ e14 V_b3_14 (i := 6) rfl (by decide) (g := (mkF m 82 #[.val (.long x0), .second, .val (.long x1), .second, .val (.int x2), .val (.int (Int32.ofNat a)), .val (.ref b3)] [(.int (((own_lushr x1 (48 : Int32)).toInt32).toInt8.toInt32)), (.int (6 : Int32)), (.ref b3)])) rfl rfl (hb hby at_82)
  have Ex_b3_17 := Ex_b3_15.wr W16
  have N16 := Fr.snoc X16 N14 gz_b3
  have Z16 : n0 ≤ h16.size := Nat.le_trans Z14 (Nat.le_of_eq W16.size.symm)
  refine ownGo.st (st16) ?_
  show ownGo p.tables e below T16 (mkF m 83 #[.val (.long x0), .second, .val (.long x1), .second, .val (.int x2), .val (.int (Int32.ofNat a)), .val (.ref b3)] []) _
  refine ownGo.st (fun _ k => XS.aload X16.here hx rfl (hb hby at_83) rfl rfl k) ?_
  show ownGo p.tables e below T16 (mkF m 85 #[.val (.long x0), .second, .val (.long x1), .second, .val (.int x2), .val (.int (Int32.ofNat a)), .val (.ref b3)] [(.ref b3)]) _
  refine ownGo.st (fun _ k => XS.bipush X16.here hx rfl (hb hby at_85)  k) ?_
  show ownGo p.tables e below T16 (mkF m 87 #[.val (.long x0), .second, .val (.long x1), .second, .val (.int x2), .val (.int (Int32.ofNat a)), .val (.ref b3)] [(.int (7 : Int32)), (.ref b3)]) _
  refine ownGo.st (fun _ k => XS.lloadN X16.here hx rfl (hb hby at_87) rfl k) ?_
  show ownGo p.tables e below T16 (mkF m 88 #[.val (.long x0), .second, .val (.long x1), .second, .val (.int x2), .val (.int (Int32.ofNat a)), .val (.ref b3)] [(.long x1), (.int (7 : Int32)), (.ref b3)]) _
  refine ownGo.st (fun _ k => XS.bipush X16.here hx rfl (hb hby at_88)  k) ?_
  show ownGo p.tables e below T16 (mkF m 90 #[.val (.long x0), .second, .val (.long x1), .second, .val (.int x2), .val (.int (Int32.ofNat a)), .val (.ref b3)] [(.int (56 : Int32)), (.long x1), (.int (7 : Int32)), (.ref b3)]) _
  refine ownGo.st (fun _ k => XS.lushr X16.here hx rfl (hb hby at_90) rfl k) ?_
  show ownGo p.tables e below T16 (mkF m 91 #[.val (.long x0), .second, .val (.long x1), .second, .val (.int x2), .val (.int (Int32.ofNat a)), .val (.ref b3)] [(.long (own_lushr x1 (56 : Int32))), (.int (7 : Int32)), (.ref b3)]) _
  refine ownGo.st (fun _ k => XS.l2i X16.here hx rfl (hb hby at_91) rfl k) ?_
  show ownGo p.tables e below T16 (mkF m 92 #[.val (.long x0), .second, .val (.long x1), .second, .val (.int x2), .val (.int (Int32.ofNat a)), .val (.ref b3)] [(.int ((own_lushr x1 (56 : Int32)).toInt32)), (.int (7 : Int32)), (.ref b3)]) _
  refine ownGo.st (fun _ k => XS.i2b X16.here hx rfl (hb hby at_92) rfl k) ?_
  show ownGo p.tables e below T16 (mkF m 93 #[.val (.long x0), .second, .val (.long x1), .second, .val (.int x2), .val (.int (Int32.ofNat a)), .val (.ref b3)] [(.int (((own_lushr x1 (56 : Int32)).toInt32).toInt8.toInt32)), (.int (7 : Int32)), (.ref b3)]) _
  obtain ⟨T18, h18, X18, e18, W18, V_b3_18, st18⟩ := own_bastore X16 hx hZ e16 V_b3_16 (i := 7) rfl (by decide) (g := (mkF m 93 #[.val (.long x0), .second, .val (.long x1), .second, .val (.int x2), .val (.int (Int32.ofNat a)), .val (.ref b3)] [(.int (((own_lushr x1 (56 : Int32)).toInt32).toInt8.toInt32)), (.int (7 : Int32)), (.ref b3)])) rfl rfl (hb hby at_93)
  have Ex_b3_19 := Ex_b3_17.wr W18
  have N18 := Fr.snoc X18 N16 gz_b3
  have Z18 : n0 ≤ h18.size := Nat.le_trans Z16 (Nat.le_of_eq W18.size.symm)
  refine ownGo.st (st18) ?_
  show ownGo p.tables e below T18 (mkF m 94 #[.val (.long x0), .second, .val (.long x1), .second, .val (.int x2), .val (.int (Int32.ofNat a)), .val (.ref b3)] []) _
  refine ownGo.st (fun _ k => XS.aload X18.here hx rfl (hb hby at_94) rfl rfl k) ?_
  show ownGo p.tables e below T18 (mkF m 96 #[.val (.long x0), .second, .val (.long x1), .second, .val (.int x2), .val (.int (Int32.ofNat a)), .val (.ref b3)] [(.ref b3)]) _
  refine ownGo.st (fun _ k => XS.bipush X18.here hx rfl (hb hby at_96)  k) ?_
  show ownGo p.tables e below T18 (mkF m 98 #[.val (.long x0), .second, .val (.long x1), .second, .val (.int x2), .val (.int (Int32.ofNat a)), .val (.ref b3)] [(.int (8 : Int32)), (.ref b3)]) _
  refine ownGo.st (fun _ k => XS.lloadN X18.here hx rfl (hb hby at_98) rfl k) ?_
  show ownGo p.tables e below T18 (mkF m 99 #[.val (.long x0), .second, .val (.long x1), .second, .val (.int x2), .val (.int (Int32.ofNat a)), .val (.ref b3)] [(.long x1), (.int (8 : Int32)), (.ref b3)]) _
  refine ownGo.st (fun _ k => XS.iconst X18.here hx rfl (hb hby at_99)  k) ?_
  show ownGo p.tables e below T18 (mkF m 100 #[.val (.long x0), .second, .val (.long x1), .second, .val (.int x2), .val (.int (Int32.ofNat a)), .val (.ref b3)] [(.int (4 : Int32)), (.long x1), (.int (8 : Int32)), (.ref b3)]) _
  refine ownGo.st (fun _ k => XS.lushr X18.here hx rfl (hb hby at_100) rfl k) ?_
  show ownGo p.tables e below T18 (mkF m 101 #[.val (.long x0), .second, .val (.long x1), .second, .val (.int x2), .val (.int (Int32.ofNat a)), .val (.ref b3)] [(.long (own_lushr x1 (4 : Int32))), (.int (8 : Int32)), (.ref b3)]) _
  refine ownGo.st (fun _ k => XS.l2i X18.here hx rfl (hb hby at_101) rfl k) ?_
  show ownGo p.tables e below T18 (mkF m 102 #[.val (.long x0), .second, .val (.long x1), .second, .val (.int x2), .val (.int (Int32.ofNat a)), .val (.ref b3)] [(.int ((own_lushr x1 (4 : Int32)).toInt32)), (.int (8 : Int32)), (.ref b3)]) _
  refine ownGo.st (fun _ k => XS.i2b X18.here hx rfl (hb hby at_102) rfl k) ?_
  show ownGo p.tables e below T18 (mkF m 103 #[.val (.long x0), .second, .val (.long x1), .second, .val (.int x2), .val (.int (Int32.ofNat a)), .val (.ref b3)] [(.int (((own_lushr x1 (4 : Int32)).toInt32).toInt8.toInt32)), (.int (8 : Int32)), (.ref b3)]) _
  obtain ⟨T20, h20, X20, e20, W20, V_b3_20, st20⟩ := own_bastore X18 hx hZ e18 V_b3_18 (i := 8) rfl (by decide) (g := (mkF m 103 #[.val (.long x0), .second, .val (.long x1), .second, .val (.int x2), .val (.int (Int32.ofNat a)), .val (.ref b3)] [(.int (((own_lushr x1 (4 : Int32)).toInt32).toInt8.toInt32)), (.int (8 : Int32)), (.ref b3)])) rfl rfl (hb hby at_103)
  have Ex_b3_21 := Ex_b3_19.wr W20
  have N20 := Fr.snoc X20 N18 gz_b3
  have Z20 : n0 ≤ h20.size := Nat.le_trans Z18 (Nat.le_of_eq W20.size.symm)
  refine ownGo.st (st20) ?_
  show ownGo p.tables e below T20 (mkF m 104 #[.val (.long x0), .second, .val (.long x1), .second, .val (.int x2), .val (.int (Int32.ofNat a)), .val (.ref b3)] []) _
  refine ownGo.st (fun _ k => XS.aload X20.here hx rfl (hb hby at_104) rfl rfl k) ?_
  show ownGo p.tables e below T20 (mkF m 106 #[.val (.long x0), .second, .val (.long x1), .second, .val (.int x2), .val (.int (Int32.ofNat a)), .val (.ref b3)] [(.ref b3)]) _
  refine ownGo.st (fun _ k => XS.bipush X20.here hx rfl (hb hby at_106)  k) ?_
  show ownGo p.tables e below T20 (mkF m 108 #[.val (.long x0), .second, .val (.long x1), .second, .val (.int x2), .val (.int (Int32.ofNat a)), .val (.ref b3)] [(.int (9 : Int32)), (.ref b3)]) _
  refine ownGo.st (fun _ k => XS.lloadN X20.here hx rfl (hb hby at_108) rfl k) ?_
  show ownGo p.tables e below T20 (mkF m 109 #[.val (.long x0), .second, .val (.long x1), .second, .val (.int x2), .val (.int (Int32.ofNat a)), .val (.ref b3)] [(.long x1), (.int (9 : Int32)), (.ref b3)]) _
  refine ownGo.st (fun _ k => XS.bipush X20.here hx rfl (hb hby at_109)  k) ?_
  show ownGo p.tables e below T20 (mkF m 111 #[.val (.long x0), .second, .val (.long x1), .second, .val (.int x2), .val (.int (Int32.ofNat a)), .val (.ref b3)] [(.int (12 : Int32)), (.long x1), (.int (9 : Int32)), (.ref b3)]) _
  refine ownGo.st (fun _ k => XS.lushr X20.here hx rfl (hb hby at_111) rfl k) ?_
  show ownGo p.tables e below T20 (mkF m 112 #[.val (.long x0), .second, .val (.long x1), .second, .val (.int x2), .val (.int (Int32.ofNat a)), .val (.ref b3)] [(.long (own_lushr x1 (12 : Int32))), (.int (9 : Int32)), (.ref b3)]) _
  refine ownGo.st (fun _ k => XS.l2i X20.here hx rfl (hb hby at_112) rfl k) ?_
  show ownGo p.tables e below T20 (mkF m 113 #[.val (.long x0), .second, .val (.long x1), .second, .val (.int x2), .val (.int (Int32.ofNat a)), .val (.ref b3)] [(.int ((own_lushr x1 (12 : Int32)).toInt32)), (.int (9 : Int32)), (.ref b3)]) _
  refine ownGo.st (fun _ k => XS.i2b X20.here hx rfl (hb hby at_113) rfl k) ?_
  show ownGo p.tables e below T20 (mkF m 114 #[.val (.long x0), .second, .val (.long x1), .second, .val (.int x2), .val (.int (Int32.ofNat a)), .val (.ref b3)] [(.int (((own_lushr x1 (12 : Int32)).toInt32).toInt8.toInt32)), (.int (9 : Int32)), (.ref b3)]) _
  obtain ⟨T22, h22, X22, e22, W22, V_b3_22, st22⟩ := own_bastore X20 hx hZ e20 V_b3_20 (i := 9) rfl (by decide) (g := (mkF m 114 #[.val (.long x0), .second, .val (.long x1), .second, .val (.int x2), .val (.int (Int32.ofNat a)), .val (.ref b3)] [(.int (((own_lushr x1 (12 : Int32)).toInt32).toInt8.toInt32)), (.int (9 : Int32)), (.ref b3)])) rfl rfl (hb hby at_114)
  have Ex_b3_23 := Ex_b3_21.wr W22
  have N22 := Fr.snoc X22 N20 gz_b3
  have Z22 : n0 ≤ h22.size := Nat.le_trans Z20 (Nat.le_of_eq W22.size.symm)
  refine ownGo.st (st22) ?_
  show ownGo p.tables e below T22 (mkF m 115 #[.val (.long x0), .second, .val (.long x1), .second, .val (.int x2), .val (.int (Int32.ofNat a)), .val (.ref b3)] []) _
  refine ownGo.st (fun _ k => XS.aload X22.here hx rfl (hb hby at_115) rfl rfl k) ?_
  show ownGo p.tables e below T22 (mkF m 117 #[.val (.long x0), .second, .val (.long x1), .second, .val (.int x2), .val (.int (Int32.ofNat a)), .val (.ref b3)] [(.ref b3)]) _
  refine ownGo.st (fun _ k => XS.iload X22.here hx rfl (hb hby at_117) rfl k) ?_
  show ownGo p.tables e below T22 (mkF m 119 #[.val (.long x0), .second, .val (.long x1), .second, .val (.int x2), .val (.int (Int32.ofNat a)), .val (.ref b3)] [(.int (Int32.ofNat a)), (.ref b3)]) _
  refine ownGo.st (fun _ k => XS.lloadN X22.here hx rfl (hb hby at_119) rfl k) ?_
  show ownGo p.tables e below T22 (mkF m 120 #[.val (.long x0), .second, .val (.long x1), .second, .val (.int x2), .val (.int (Int32.ofNat a)), .val (.ref b3)] [(.long x0), (.int (Int32.ofNat a)), (.ref b3)]) _
  refine ownGo.st (fun _ k => XS.bipush X22.here hx rfl (hb hby at_120)  k) ?_
  show ownGo p.tables e below T22 (mkF m 122 #[.val (.long x0), .second, .val (.long x1), .second, .val (.int x2), .val (.int (Int32.ofNat a)), .val (.ref b3)] [(.int (56 : Int32)), (.long x0), (.int (Int32.ofNat a)), (.ref b3)]) _
  refine ownGo.st (fun _ k => XS.lushr X22.here hx rfl (hb hby at_122) rfl k) ?_
  show ownGo p.tables e below T22 (mkF m 123 #[.val (.long x0), .second, .val (.long x1), .second, .val (.int x2), .val (.int (Int32.ofNat a)), .val (.ref b3)] [(.long (own_lushr x0 (56 : Int32))), (.int (Int32.ofNat a)), (.ref b3)]) _
  refine ownGo.st (fun _ k => XS.l2i X22.here hx rfl (hb hby at_123) rfl k) ?_
  show ownGo p.tables e below T22 (mkF m 124 #[.val (.long x0), .second, .val (.long x1), .second, .val (.int x2), .val (.int (Int32.ofNat a)), .val (.ref b3)] [(.int ((own_lushr x0 (56 : Int32)).toInt32)), (.int (Int32.ofNat a)), (.ref b3)]) _
  refine ownGo.st (fun _ k => XS.i2b X22.here hx rfl (hb hby at_124) rfl k) ?_
  show ownGo p.tables e below T22 (mkF m 125 #[.val (.long x0), .second, .val (.long x1), .second, .val (.int x2), .val (.int (Int32.ofNat a)), .val (.ref b3)] [(.int (((own_lushr x0 (56 : Int32)).toInt32).toInt8.toInt32)), (.int (Int32.ofNat a)), (.ref b3)]) _
  obtain ⟨T24, h24, X24, e24, W24, V_b3_24, st24⟩ := own_bastore X22 hx hZ e22 V_b3_22 (i := (a + 0)) rfl (by omega) (g := (mkF m 125 #[.val (.long x0), .second, .val (.long x1), .second, .val (.int x2), .val (.int (Int32.ofNat a)), .val (.ref b3)] [(.int (((own_lushr x0 (56 : Int32)).toInt32).toInt8.toInt32)), (.int (Int32.ofNat a)), (.ref b3)])) rfl rfl (hb hby at_125)
  have Ex_b3_25 := Ex_b3_23.wr W24
  have N24 := Fr.snoc X24 N22 gz_b3
  have Z24 : n0 ≤ h24.size := Nat.le_trans Z22 (Nat.le_of_eq W24.size.symm)
  refine ownGo.st (st24) ?_
  show ownGo p.tables e below T24 (mkF m 126 #[.val (.long x0), .second, .val (.long x1), .second, .val (.int x2), .val (.int (Int32.ofNat a)), .val (.ref b3)] []) _
  refine ownGo.st (fun _ k => XS.aload X24.here hx rfl (hb hby at_126) rfl rfl k) ?_
  show ownGo p.tables e below T24 (mkF m 128 #[.val (.long x0), .second, .val (.long x1), .second, .val (.int x2), .val (.int (Int32.ofNat a)), .val (.ref b3)] [(.ref b3)]) _
  refine ownGo.st (fun _ k => XS.iload X24.here hx rfl (hb hby at_128) rfl k) ?_
  show ownGo p.tables e below T24 (mkF m 130 #[.val (.long x0), .second, .val (.long x1), .second, .val (.int x2), .val (.int (Int32.ofNat a)), .val (.ref b3)] [(.int (Int32.ofNat a)), (.ref b3)]) _
  refine ownGo.st (fun _ k => XS.iconst X24.here hx rfl (hb hby at_130)  k) ?_
  show ownGo p.tables e below T24 (mkF m 131 #[.val (.long x0), .second, .val (.long x1), .second, .val (.int x2), .val (.int (Int32.ofNat a)), .val (.ref b3)] [(.int (1 : Int32)), (.int (Int32.ofNat a)), (.ref b3)]) _
  refine ownGo.st (fun _ k => XS.iadd X24.here hx rfl (hb hby at_131) rfl k) ?_
  show ownGo p.tables e below T24 (mkF m 132 #[.val (.long x0), .second, .val (.long x1), .second, .val (.int x2), .val (.int (Int32.ofNat a)), .val (.ref b3)] [(.int ((Int32.ofNat a) + (1 : Int32))), (.ref b3)]) _
  refine ownGo.st (fun _ k => XS.lloadN X24.here hx rfl (hb hby at_132) rfl k) ?_
  show ownGo p.tables e below T24 (mkF m 133 #[.val (.long x0), .second, .val (.long x1), .second, .val (.int x2), .val (.int (Int32.ofNat a)), .val (.ref b3)] [(.long x0), (.int ((Int32.ofNat a) + (1 : Int32))), (.ref b3)]) _
  refine ownGo.st (fun _ k => XS.bipush X24.here hx rfl (hb hby at_133)  k) ?_
  show ownGo p.tables e below T24 (mkF m 135 #[.val (.long x0), .second, .val (.long x1), .second, .val (.int x2), .val (.int (Int32.ofNat a)), .val (.ref b3)] [(.int (48 : Int32)), (.long x0), (.int ((Int32.ofNat a) + (1 : Int32))), (.ref b3)]) _
  refine ownGo.st (fun _ k => XS.lushr X24.here hx rfl (hb hby at_135) rfl k) ?_
  show ownGo p.tables e below T24 (mkF m 136 #[.val (.long x0), .second, .val (.long x1), .second, .val (.int x2), .val (.int (Int32.ofNat a)), .val (.ref b3)] [(.long (own_lushr x0 (48 : Int32))), (.int ((Int32.ofNat a) + (1 : Int32))), (.ref b3)]) _
  refine ownGo.st (fun _ k => XS.l2i X24.here hx rfl (hb hby at_136) rfl k) ?_
  show ownGo p.tables e below T24 (mkF m 137 #[.val (.long x0), .second, .val (.long x1), .second, .val (.int x2), .val (.int (Int32.ofNat a)), .val (.ref b3)] [(.int ((own_lushr x0 (48 : Int32)).toInt32)), (.int ((Int32.ofNat a) + (1 : Int32))), (.ref b3)]) _
  refine ownGo.st (fun _ k => XS.i2b X24.here hx rfl (hb hby at_137) rfl k) ?_
  show ownGo p.tables e below T24 (mkF m 138 #[.val (.long x0), .second, .val (.long x1), .second, .val (.int x2), .val (.int (Int32.ofNat a)), .val (.ref b3)] [(.int (((own_lushr x0 (48 : Int32)).toInt32).toInt8.toInt32)), (.int ((Int32.ofNat a) + (1 : Int32))), (.ref b3)]) _
  obtain ⟨T26, h26, X26, e26, W26, V_b3_26, st26⟩ := own_bastore X24 hx hZ e24 V_b3_24 (i := (a + 1)) (Int32.ofNat_add a 1).symm (by omega) (g := (mkF m 138 #[.val (.long x0), .second, .val (.long x1), .second, .val (.int x2), .val (.int (Int32.ofNat a)), .val (.ref b3)] [(.int (((own_lushr x0 (48 : Int32)).toInt32).toInt8.toInt32)), (.int ((Int32.ofNat a) + (1 : Int32))), (.ref b3)])) rfl rfl (hb hby at_138)
  have Ex_b3_27 := Ex_b3_25.wr W26
  have N26 := Fr.snoc X26 N24 gz_b3
  have Z26 : n0 ≤ h26.size := Nat.le_trans Z24 (Nat.le_of_eq W26.size.symm)
  refine ownGo.st (st26) ?_
  show ownGo p.tables e below T26 (mkF m 139 #[.val (.long x0), .second, .val (.long x1), .second, .val (.int x2), .val (.int (Int32.ofNat a)), .val (.ref b3)] []) _
  refine ownGo.st (fun _ k => XS.aload X26.here hx rfl (hb hby at_139) rfl rfl k) ?_
  show ownGo p.tables e below T26 (mkF m 141 #[.val (.long x0), .second, .val (.long x1), .second, .val (.int x2), .val (.int (Int32.ofNat a)), .val (.ref b3)] [(.ref b3)]) _
  refine ownGo.st (fun _ k => XS.iload X26.here hx rfl (hb hby at_141) rfl k) ?_
  show ownGo p.tables e below T26 (mkF m 143 #[.val (.long x0), .second, .val (.long x1), .second, .val (.int x2), .val (.int (Int32.ofNat a)), .val (.ref b3)] [(.int (Int32.ofNat a)), (.ref b3)]) _
  refine ownGo.st (fun _ k => XS.iconst X26.here hx rfl (hb hby at_143)  k) ?_
  show ownGo p.tables e below T26 (mkF m 144 #[.val (.long x0), .second, .val (.long x1), .second, .val (.int x2), .val (.int (Int32.ofNat a)), .val (.ref b3)] [(.int (2 : Int32)), (.int (Int32.ofNat a)), (.ref b3)]) _
  refine ownGo.st (fun _ k => XS.iadd X26.here hx rfl (hb hby at_144) rfl k) ?_
  show ownGo p.tables e below T26 (mkF m 145 #[.val (.long x0), .second, .val (.long x1), .second, .val (.int x2), .val (.int (Int32.ofNat a)), .val (.ref b3)] [(.int ((Int32.ofNat a) + (2 : Int32))), (.ref b3)]) _
  refine ownGo.st (fun _ k => XS.lloadN X26.here hx rfl (hb hby at_145) rfl k) ?_
  show ownGo p.tables e below T26 (mkF m 146 #[.val (.long x0), .second, .val (.long x1), .second, .val (.int x2), .val (.int (Int32.ofNat a)), .val (.ref b3)] [(.long x0), (.int ((Int32.ofNat a) + (2 : Int32))), (.ref b3)]) _
  refine ownGo.st (fun _ k => XS.bipush X26.here hx rfl (hb hby at_146)  k) ?_
  show ownGo p.tables e below T26 (mkF m 148 #[.val (.long x0), .second, .val (.long x1), .second, .val (.int x2), .val (.int (Int32.ofNat a)), .val (.ref b3)] [(.int (40 : Int32)), (.long x0), (.int ((Int32.ofNat a) + (2 : Int32))), (.ref b3)]) _
  refine ownGo.st (fun _ k => XS.lushr X26.here hx rfl (hb hby at_148) rfl k) ?_
  show ownGo p.tables e below T26 (mkF m 149 #[.val (.long x0), .second, .val (.long x1), .second, .val (.int x2), .val (.int (Int32.ofNat a)), .val (.ref b3)] [(.long (own_lushr x0 (40 : Int32))), (.int ((Int32.ofNat a) + (2 : Int32))), (.ref b3)]) _
  refine ownGo.st (fun _ k => XS.l2i X26.here hx rfl (hb hby at_149) rfl k) ?_
  show ownGo p.tables e below T26 (mkF m 150 #[.val (.long x0), .second, .val (.long x1), .second, .val (.int x2), .val (.int (Int32.ofNat a)), .val (.ref b3)] [(.int ((own_lushr x0 (40 : Int32)).toInt32)), (.int ((Int32.ofNat a) + (2 : Int32))), (.ref b3)]) _
  refine ownGo.st (fun _ k => XS.i2b X26.here hx rfl (hb hby at_150) rfl k) ?_
  show ownGo p.tables e below T26 (mkF m 151 #[.val (.long x0), .second, .val (.long x1), .second, .val (.int x2), .val (.int (Int32.ofNat a)), .val (.ref b3)] [(.int (((own_lushr x0 (40 : Int32)).toInt32).toInt8.toInt32)), (.int ((Int32.ofNat a) + (2 : Int32))), (.ref b3)]) _
  obtain ⟨T28, h28, X28, e28, W28, V_b3_28, st28⟩ := own_bastore X26 hx hZ e26 V_b3_26 (i := (a + 2)) (Int32.ofNat_add a 2).symm (by omega) (g := (mkF m 151 #[.val (.long x0), .second, .val (.long x1), .second, .val (.int x2), .val (.int (Int32.ofNat a)), .val (.ref b3)] [(.int (((own_lushr x0 (40 : Int32)).toInt32).toInt8.toInt32)), (.int ((Int32.ofNat a) + (2 : Int32))), (.ref b3)])) rfl rfl (hb hby at_151)
  have Ex_b3_29 := Ex_b3_27.wr W28
  have N28 := Fr.snoc X28 N26 gz_b3
  have Z28 : n0 ≤ h28.size := Nat.le_trans Z26 (Nat.le_of_eq W28.size.symm)
  refine ownGo.st (st28) ?_
  show ownGo p.tables e below T28 (mkF m 152 #[.val (.long x0), .second, .val (.long x1), .second, .val (.int x2), .val (.int (Int32.ofNat a)), .val (.ref b3)] []) _
  refine ownGo.st (fun _ k => XS.aload X28.here hx rfl (hb hby at_152) rfl rfl k) ?_
  show ownGo p.tables e below T28 (mkF m 154 #[.val (.long x0), .second, .val (.long x1), .second, .val (.int x2), .val (.int (Int32.ofNat a)), .val (.ref b3)] [(.ref b3)]) _
  refine ownGo.st (fun _ k => XS.iload X28.here hx rfl (hb hby at_154) rfl k) ?_
  show ownGo p.tables e below T28 (mkF m 156 #[.val (.long x0), .second, .val (.long x1), .second, .val (.int x2), .val (.int (Int32.ofNat a)), .val (.ref b3)] [(.int (Int32.ofNat a)), (.ref b3)]) _
  refine ownGo.st (fun _ k => XS.iconst X28.here hx rfl (hb hby at_156)  k) ?_
  show ownGo p.tables e below T28 (mkF m 157 #[.val (.long x0), .second, .val (.long x1), .second, .val (.int x2), .val (.int (Int32.ofNat a)), .val (.ref b3)] [(.int (3 : Int32)), (.int (Int32.ofNat a)), (.ref b3)]) _
  refine ownGo.st (fun _ k => XS.iadd X28.here hx rfl (hb hby at_157) rfl k) ?_
  show ownGo p.tables e below T28 (mkF m 158 #[.val (.long x0), .second, .val (.long x1), .second, .val (.int x2), .val (.int (Int32.ofNat a)), .val (.ref b3)] [(.int ((Int32.ofNat a) + (3 : Int32))), (.ref b3)]) _
  refine ownGo.st (fun _ k => XS.lloadN X28.here hx rfl (hb hby at_158) rfl k) ?_
  show ownGo p.tables e below T28 (mkF m 159 #[.val (.long x0), .second, .val (.long x1), .second, .val (.int x2), .val (.int (Int32.ofNat a)), .val (.ref b3)] [(.long x0), (.int ((Int32.ofNat a) + (3 : Int32))), (.ref b3)]) _
  refine ownGo.st (fun _ k => XS.bipush X28.here hx rfl (hb hby at_159)  k) ?_
  show ownGo p.tables e below T28 (mkF m 161 #[.val (.long x0), .second, .val (.long x1), .second, .val (.int x2), .val (.int (Int32.ofNat a)), .val (.ref b3)] [(.int (32 : Int32)), (.long x0), (.int ((Int32.ofNat a) + (3 : Int32))), (.ref b3)]) _
  refine ownGo.st (fun _ k => XS.lushr X28.here hx rfl (hb hby at_161) rfl k) ?_
  show ownGo p.tables e below T28 (mkF m 162 #[.val (.long x0), .second, .val (.long x1), .second, .val (.int x2), .val (.int (Int32.ofNat a)), .val (.ref b3)] [(.long (own_lushr x0 (32 : Int32))), (.int ((Int32.ofNat a) + (3 : Int32))), (.ref b3)]) _
  refine ownGo.st (fun _ k => XS.l2i X28.here hx rfl (hb hby at_162) rfl k) ?_
  show ownGo p.tables e below T28 (mkF m 163 #[.val (.long x0), .second, .val (.long x1), .second, .val (.int x2), .val (.int (Int32.ofNat a)), .val (.ref b3)] [(.int ((own_lushr x0 (32 : Int32)).toInt32)), (.int ((Int32.ofNat a) + (3 : Int32))), (.ref b3)]) _
  refine ownGo.st (fun _ k => XS.i2b X28.here hx rfl (hb hby at_163) rfl k) ?_
  show ownGo p.tables e below T28 (mkF m 164 #[.val (.long x0), .second, .val (.long x1), .second, .val (.int x2), .val (.int (Int32.ofNat a)), .val (.ref b3)] [(.int (((own_lushr x0 (32 : Int32)).toInt32).toInt8.toInt32)), (.int ((Int32.ofNat a) + (3 : Int32))), (.ref b3)]) _
  obtain ⟨T30, h30, X30, e30, W30, V_b3_30, st30⟩ := own_bastore X28 hx hZ e28 V_b3_28 (i := (a + 3)) (Int32.ofNat_add a 3).symm (by omega) (g := (mkF m 164 #[.val (.long x0), .second, .val (.long x1), .second, .val (.int x2), .val (.int (Int32.ofNat a)), .val (.ref b3)] [(.int (((own_lushr x0 (32 : Int32)).toInt32).toInt8.toInt32)), (.int ((Int32.ofNat a) + (3 : Int32))), (.ref b3)])) rfl rfl (hb hby at_164)
  have Ex_b3_31 := Ex_b3_29.wr W30
  have N30 := Fr.snoc X30 N28 gz_b3
  have Z30 : n0 ≤ h30.size := Nat.le_trans Z28 (Nat.le_of_eq W30.size.symm)
  refine ownGo.st (st30) ?_
  show ownGo p.tables e below T30 (mkF m 165 #[.val (.long x0), .second, .val (.long x1), .second, .val (.int x2), .val (.int (Int32.ofNat a)), .val (.ref b3)] []) _
  refine ownGo.st (fun _ k => XS.aload X30.here hx rfl (hb hby at_165) rfl rfl k) ?_
  show ownGo p.tables e below T30 (mkF m 167 #[.val (.long x0), .second, .val (.long x1), .second, .val (.int x2), .val (.int (Int32.ofNat a)), .val (.ref b3)] [(.ref b3)]) _
  refine ownGo.st (fun _ k => XS.iload X30.here hx rfl (hb hby at_167) rfl k) ?_
  show ownGo p.tables e below T30 (mkF m 169 #[.val (.long x0), .second, .val (.long x1), .second, .val (.int x2), .val (.int (Int32.ofNat a)), .val (.ref b3)] [(.int (Int32.ofNat a)), (.ref b3)]) _
  refine ownGo.st (fun _ k => XS.iconst X30.here hx rfl (hb hby at_169)  k) ?_
  show ownGo p.tables e below T30 (mkF m 170 #[.val (.long x0), .second, .val (.long x1), .second, .val (.int x2), .val (.int (Int32.ofNat a)), .val (.ref b3)] [(.int (4 : Int32)), (.int (Int32.ofNat a)), (.ref b3)]) _
  refine ownGo.st (fun _ k => XS.iadd X30.here hx rfl (hb hby at_170) rfl k) ?_
  show ownGo p.tables e below T30 (mkF m 171 #[.val (.long x0), .second, .val (.long x1), .second, .val (.int x2), .val (.int (Int32.ofNat a)), .val (.ref b3)] [(.int ((Int32.ofNat a) + (4 : Int32))), (.ref b3)]) _
  refine ownGo.st (fun _ k => XS.lloadN X30.here hx rfl (hb hby at_171) rfl k) ?_
  show ownGo p.tables e below T30 (mkF m 172 #[.val (.long x0), .second, .val (.long x1), .second, .val (.int x2), .val (.int (Int32.ofNat a)), .val (.ref b3)] [(.long x0), (.int ((Int32.ofNat a) + (4 : Int32))), (.ref b3)]) _
  refine ownGo.st (fun _ k => XS.bipush X30.here hx rfl (hb hby at_172)  k) ?_
  show ownGo p.tables e below T30 (mkF m 174 #[.val (.long x0), .second, .val (.long x1), .second, .val (.int x2), .val (.int (Int32.ofNat a)), .val (.ref b3)] [(.int (24 : Int32)), (.long x0), (.int ((Int32.ofNat a) + (4 : Int32))), (.ref b3)]) _
  refine ownGo.st (fun _ k => XS.lushr X30.here hx rfl (hb hby at_174) rfl k) ?_
  show ownGo p.tables e below T30 (mkF m 175 #[.val (.long x0), .second, .val (.long x1), .second, .val (.int x2), .val (.int (Int32.ofNat a)), .val (.ref b3)] [(.long (own_lushr x0 (24 : Int32))), (.int ((Int32.ofNat a) + (4 : Int32))), (.ref b3)]) _
  refine ownGo.st (fun _ k => XS.l2i X30.here hx rfl (hb hby at_175) rfl k) ?_
  show ownGo p.tables e below T30 (mkF m 176 #[.val (.long x0), .second, .val (.long x1), .second, .val (.int x2), .val (.int (Int32.ofNat a)), .val (.ref b3)] [(.int ((own_lushr x0 (24 : Int32)).toInt32)), (.int ((Int32.ofNat a) + (4 : Int32))), (.ref b3)]) _
  refine ownGo.st (fun _ k => XS.i2b X30.here hx rfl (hb hby at_176) rfl k) ?_
  show ownGo p.tables e below T30 (mkF m 177 #[.val (.long x0), .second, .val (.long x1), .second, .val (.int x2), .val (.int (Int32.ofNat a)), .val (.ref b3)] [(.int (((own_lushr x0 (24 : Int32)).toInt32).toInt8.toInt32)), (.int ((Int32.ofNat a) + (4 : Int32))), (.ref b3)]) _
  obtain ⟨T32, h32, X32, e32, W32, V_b3_32, st32⟩ := own_bastore X30 hx hZ e30 V_b3_30 (i := (a + 4)) (Int32.ofNat_add a 4).symm (by omega) (g := (mkF m 177 #[.val (.long x0), .second, .val (.long x1), .second, .val (.int x2), .val (.int (Int32.ofNat a)), .val (.ref b3)] [(.int (((own_lushr x0 (24 : Int32)).toInt32).toInt8.toInt32)), (.int ((Int32.ofNat a) + (4 : Int32))), (.ref b3)])) rfl rfl (hb hby at_177)
  have Ex_b3_33 := Ex_b3_31.wr W32
  have N32 := Fr.snoc X32 N30 gz_b3
  have Z32 : n0 ≤ h32.size := Nat.le_trans Z30 (Nat.le_of_eq W32.size.symm)
  refine ownGo.st (st32) ?_
  show ownGo p.tables e below T32 (mkF m 178 #[.val (.long x0), .second, .val (.long x1), .second, .val (.int x2), .val (.int (Int32.ofNat a)), .val (.ref b3)] []) _
  refine ownGo.st (fun _ k => XS.aload X32.here hx rfl (hb hby at_178) rfl rfl k) ?_
  show ownGo p.tables e below T32 (mkF m 180 #[.val (.long x0), .second, .val (.long x1), .second, .val (.int x2), .val (.int (Int32.ofNat a)), .val (.ref b3)] [(.ref b3)]) _
  refine ownGo.st (fun _ k => XS.iload X32.here hx rfl (hb hby at_180) rfl k) ?_
  show ownGo p.tables e below T32 (mkF m 182 #[.val (.long x0), .second, .val (.long x1), .second, .val (.int x2), .val (.int (Int32.ofNat a)), .val (.ref b3)] [(.int (Int32.ofNat a)), (.ref b3)]) _
  refine ownGo.st (fun _ k => XS.iconst X32.here hx rfl (hb hby at_182)  k) ?_
  show ownGo p.tables e below T32 (mkF m 183 #[.val (.long x0), .second, .val (.long x1), .second, .val (.int x2), .val (.int (Int32.ofNat a)), .val (.ref b3)] [(.int (5 : Int32)), (.int (Int32.ofNat a)), (.ref b3)]) _
  refine ownGo.st (fun _ k => XS.iadd X32.here hx rfl (hb hby at_183) rfl k) ?_
  show ownGo p.tables e below T32 (mkF m 184 #[.val (.long x0), .second, .val (.long x1), .second, .val (.int x2), .val (.int (Int32.ofNat a)), .val (.ref b3)] [(.int ((Int32.ofNat a) + (5 : Int32))), (.ref b3)]) _
  refine ownGo.st (fun _ k => XS.lloadN X32.here hx rfl (hb hby at_184) rfl k) ?_
  show ownGo p.tables e below T32 (mkF m 185 #[.val (.long x0), .second, .val (.long x1), .second, .val (.int x2), .val (.int (Int32.ofNat a)), .val (.ref b3)] [(.long x0), (.int ((Int32.ofNat a) + (5 : Int32))), (.ref b3)]) _
  refine ownGo.st (fun _ k => XS.bipush X32.here hx rfl (hb hby at_185)  k) ?_
  show ownGo p.tables e below T32 (mkF m 187 #[.val (.long x0), .second, .val (.long x1), .second, .val (.int x2), .val (.int (Int32.ofNat a)), .val (.ref b3)] [(.int (16 : Int32)), (.long x0), (.int ((Int32.ofNat a) + (5 : Int32))), (.ref b3)]) _
  refine ownGo.st (fun _ k => XS.lushr X32.here hx rfl (hb hby at_187) rfl k) ?_
  show ownGo p.tables e below T32 (mkF m 188 #[.val (.long x0), .second, .val (.long x1), .second, .val (.int x2), .val (.int (Int32.ofNat a)), .val (.ref b3)] [(.long (own_lushr x0 (16 : Int32))), (.int ((Int32.ofNat a) + (5 : Int32))), (.ref b3)]) _
  refine ownGo.st (fun _ k => XS.l2i X32.here hx rfl (hb hby at_188) rfl k) ?_
  show ownGo p.tables e below T32 (mkF m 189 #[.val (.long x0), .second, .val (.long x1), .second, .val (.int x2), .val (.int (Int32.ofNat a)), .val (.ref b3)] [(.int ((own_lushr x0 (16 : Int32)).toInt32)), (.int ((Int32.ofNat a) + (5 : Int32))), (.ref b3)]) _
  refine ownGo.st (fun _ k => XS.i2b X32.here hx rfl (hb hby at_189) rfl k) ?_
  show ownGo p.tables e below T32 (mkF m 190 #[.val (.long x0), .second, .val (.long x1), .second, .val (.int x2), .val (.int (Int32.ofNat a)), .val (.ref b3)] [(.int (((own_lushr x0 (16 : Int32)).toInt32).toInt8.toInt32)), (.int ((Int32.ofNat a) + (5 : Int32))), (.ref b3)]) _
  obtain ⟨T34, h34, X34, e34, W34, V_b3_34, st34⟩ := own_bastore X32 hx hZ e32 V_b3_32 (i := (a + 5)) (Int32.ofNat_add a 5).symm (by omega) (g := (mkF m 190 #[.val (.long x0), .second, .val (.long x1), .second, .val (.int x2), .val (.int (Int32.ofNat a)), .val (.ref b3)] [(.int (((own_lushr x0 (16 : Int32)).toInt32).toInt8.toInt32)), (.int ((Int32.ofNat a) + (5 : Int32))), (.ref b3)])) rfl rfl (hb hby at_190)
  have Ex_b3_35 := Ex_b3_33.wr W34
  have N34 := Fr.snoc X34 N32 gz_b3
  have Z34 : n0 ≤ h34.size := Nat.le_trans Z32 (Nat.le_of_eq W34.size.symm)
  refine ownGo.st (st34) ?_
  show ownGo p.tables e below T34 (mkF m 191 #[.val (.long x0), .second, .val (.long x1), .second, .val (.int x2), .val (.int (Int32.ofNat a)), .val (.ref b3)] []) _
  refine ownGo.st (fun _ k => XS.aload X34.here hx rfl (hb hby at_191) rfl rfl k) ?_
  show ownGo p.tables e below T34 (mkF m 193 #[.val (.long x0), .second, .val (.long x1), .second, .val (.int x2), .val (.int (Int32.ofNat a)), .val (.ref b3)] [(.ref b3)]) _
  refine ownGo.st (fun _ k => XS.iload X34.here hx rfl (hb hby at_193) rfl k) ?_
  show ownGo p.tables e below T34 (mkF m 195 #[.val (.long x0), .second, .val (.long x1), .second, .val (.int x2), .val (.int (Int32.ofNat a)), .val (.ref b3)] [(.int (Int32.ofNat a)), (.ref b3)]) _
  refine ownGo.st (fun _ k => XS.bipush X34.here hx rfl (hb hby at_195)  k) ?_
  show ownGo p.tables e below T34 (mkF m 197 #[.val (.long x0), .second, .val (.long x1), .second, .val (.int x2), .val (.int (Int32.ofNat a)), .val (.ref b3)] [(.int (6 : Int32)), (.int (Int32.ofNat a)), (.ref b3)]) _
  refine ownGo.st (fun _ k => XS.iadd X34.here hx rfl (hb hby at_197) rfl k) ?_
  show ownGo p.tables e below T34 (mkF m 198 #[.val (.long x0), .second, .val (.long x1), .second, .val (.int x2), .val (.int (Int32.ofNat a)), .val (.ref b3)] [(.int ((Int32.ofNat a) + (6 : Int32))), (.ref b3)]) _
  refine ownGo.st (fun _ k => XS.lloadN X34.here hx rfl (hb hby at_198) rfl k) ?_
  show ownGo p.tables e below T34 (mkF m 199 #[.val (.long x0), .second, .val (.long x1), .second, .val (.int x2), .val (.int (Int32.ofNat a)), .val (.ref b3)] [(.long x0), (.int ((Int32.ofNat a) + (6 : Int32))), (.ref b3)]) _
  refine ownGo.st (fun _ k => XS.bipush X34.here hx rfl (hb hby at_199)  k) ?_
  show ownGo p.tables e below T34 (mkF m 201 #[.val (.long x0), .second, .val (.long x1), .second, .val (.int x2), .val (.int (Int32.ofNat a)), .val (.ref b3)] [(.int (8 : Int32)), (.long x0), (.int ((Int32.ofNat a) + (6 : Int32))), (.ref b3)]) _
  refine ownGo.st (fun _ k => XS.lushr X34.here hx rfl (hb hby at_201) rfl k) ?_
  show ownGo p.tables e below T34 (mkF m 202 #[.val (.long x0), .second, .val (.long x1), .second, .val (.int x2), .val (.int (Int32.ofNat a)), .val (.ref b3)] [(.long (own_lushr x0 (8 : Int32))), (.int ((Int32.ofNat a) + (6 : Int32))), (.ref b3)]) _
  refine ownGo.st (fun _ k => XS.l2i X34.here hx rfl (hb hby at_202) rfl k) ?_
  show ownGo p.tables e below T34 (mkF m 203 #[.val (.long x0), .second, .val (.long x1), .second, .val (.int x2), .val (.int (Int32.ofNat a)), .val (.ref b3)] [(.int ((own_lushr x0 (8 : Int32)).toInt32)), (.int ((Int32.ofNat a) + (6 : Int32))), (.ref b3)]) _
  refine ownGo.st (fun _ k => XS.i2b X34.here hx rfl (hb hby at_203) rfl k) ?_
  show ownGo p.tables e below T34 (mkF m 204 #[.val (.long x0), .second, .val (.long x1), .second, .val (.int x2), .val (.int (Int32.ofNat a)), .val (.ref b3)] [(.int (((own_lushr x0 (8 : Int32)).toInt32).toInt8.toInt32)), (.int ((Int32.ofNat a) + (6 : Int32))), (.ref b3)]) _
  obtain ⟨T36, h36, X36, e36, W36, V_b3_36, st36⟩ := own_bastore X34 hx hZ e34 V_b3_34 (i := (a + 6)) (Int32.ofNat_add a 6).symm (by omega) (g := (mkF m 204 #[.val (.long x0), .second, .val (.long x1), .second, .val (.int x2), .val (.int (Int32.ofNat a)), .val (.ref b3)] [(.int (((own_lushr x0 (8 : Int32)).toInt32).toInt8.toInt32)), (.int ((Int32.ofNat a) + (6 : Int32))), (.ref b3)])) rfl rfl (hb hby at_204)
  have Ex_b3_37 := Ex_b3_35.wr W36
  have N36 := Fr.snoc X36 N34 gz_b3
  have Z36 : n0 ≤ h36.size := Nat.le_trans Z34 (Nat.le_of_eq W36.size.symm)
  refine ownGo.st (st36) ?_
  show ownGo p.tables e below T36 (mkF m 205 #[.val (.long x0), .second, .val (.long x1), .second, .val (.int x2), .val (.int (Int32.ofNat a)), .val (.ref b3)] []) _
  refine ownGo.st (fun _ k => XS.aload X36.here hx rfl (hb hby at_205) rfl rfl k) ?_
  show ownGo p.tables e below T36 (mkF m 207 #[.val (.long x0), .second, .val (.long x1), .second, .val (.int x2), .val (.int (Int32.ofNat a)), .val (.ref b3)] [(.ref b3)]) _
  refine ownGo.st (fun _ k => XS.iload X36.here hx rfl (hb hby at_207) rfl k) ?_
  show ownGo p.tables e below T36 (mkF m 209 #[.val (.long x0), .second, .val (.long x1), .second, .val (.int x2), .val (.int (Int32.ofNat a)), .val (.ref b3)] [(.int (Int32.ofNat a)), (.ref b3)]) _
  refine ownGo.st (fun _ k => XS.bipush X36.here hx rfl (hb hby at_209)  k) ?_
  show ownGo p.tables e below T36 (mkF m 211 #[.val (.long x0), .second, .val (.long x1), .second, .val (.int x2), .val (.int (Int32.ofNat a)), .val (.ref b3)] [(.int (7 : Int32)), (.int (Int32.ofNat a)), (.ref b3)]) _
  refine ownGo.st (fun _ k => XS.iadd X36.here hx rfl (hb hby at_211) rfl k) ?_
  show ownGo p.tables e below T36 (mkF m 212 #[.val (.long x0), .second, .val (.long x1), .second, .val (.int x2), .val (.int (Int32.ofNat a)), .val (.ref b3)] [(.int ((Int32.ofNat a) + (7 : Int32))), (.ref b3)]) _
  refine ownGo.st (fun _ k => XS.lloadN X36.here hx rfl (hb hby at_212) rfl k) ?_
  show ownGo p.tables e below T36 (mkF m 213 #[.val (.long x0), .second, .val (.long x1), .second, .val (.int x2), .val (.int (Int32.ofNat a)), .val (.ref b3)] [(.long x0), (.int ((Int32.ofNat a) + (7 : Int32))), (.ref b3)]) _
  refine ownGo.st (fun _ k => XS.l2i X36.here hx rfl (hb hby at_213) rfl k) ?_
  show ownGo p.tables e below T36 (mkF m 214 #[.val (.long x0), .second, .val (.long x1), .second, .val (.int x2), .val (.int (Int32.ofNat a)), .val (.ref b3)] [(.int (x0.toInt32)), (.int ((Int32.ofNat a) + (7 : Int32))), (.ref b3)]) _
  refine ownGo.st (fun _ k => XS.i2b X36.here hx rfl (hb hby at_214) rfl k) ?_
  show ownGo p.tables e below T36 (mkF m 215 #[.val (.long x0), .second, .val (.long x1), .second, .val (.int x2), .val (.int (Int32.ofNat a)), .val (.ref b3)] [(.int ((x0.toInt32).toInt8.toInt32)), (.int ((Int32.ofNat a) + (7 : Int32))), (.ref b3)]) _
  obtain ⟨T38, h38, X38, e38, W38, V_b3_38, st38⟩ := own_bastore X36 hx hZ e36 V_b3_36 (i := (a + 7)) (Int32.ofNat_add a 7).symm (by omega) (g := (mkF m 215 #[.val (.long x0), .second, .val (.long x1), .second, .val (.int x2), .val (.int (Int32.ofNat a)), .val (.ref b3)] [(.int ((x0.toInt32).toInt8.toInt32)), (.int ((Int32.ofNat a) + (7 : Int32))), (.ref b3)])) rfl rfl (hb hby at_215)
  have Ex_b3_39 := Ex_b3_37.wr W38
  have N38 := Fr.snoc X38 N36 gz_b3
  have Z38 : n0 ≤ h38.size := Nat.le_trans Z36 (Nat.le_of_eq W38.size.symm)
  refine ownGo.st (st38) ?_
  show ownGo p.tables e below T38 (mkF m 216 #[.val (.long x0), .second, .val (.long x1), .second, .val (.int x2), .val (.int (Int32.ofNat a)), .val (.ref b3)] []) _
  refine ownGo.st (fun _ k => XS.aload X38.here hx rfl (hb hby at_216) rfl rfl k) ?_
  show ownGo p.tables e below T38 (mkF m 218 #[.val (.long x0), .second, .val (.long x1), .second, .val (.int x2), .val (.int (Int32.ofNat a)), .val (.ref b3)] [(.ref b3)]) _
  refine ownGo.st (fun _ k => XS.iload X38.here hx rfl (hb hby at_218) rfl k) ?_
  show ownGo p.tables e below T38 (mkF m 220 #[.val (.long x0), .second, .val (.long x1), .second, .val (.int x2), .val (.int (Int32.ofNat a)), .val (.ref b3)] [(.int (Int32.ofNat a)), (.ref b3)]) _
  obtain ⟨_, T40, L40, X40, hQ40, st40⟩ := own_callS X38 hx hZ hown (own_at hw 2 rfl) (own_at hw 3 rfl) (own_at hw 4 rfl) (own_at hw 5 rfl) (by decide) (rm1 l Z a0 hw b3 (Int32.ofNat a) a x0 _ h38 n0 ha rfl V_b3_38 (fun i hi => by
      have q : i = 0 ∨ i = 1 ∨ i = 2 ∨ i = 3 ∨ i = 4 ∨ i = 5 ∨ i = 6 ∨ i = 7 := by omega
      rcases q with rfl | rfl | rfl | rfl | rfl | rfl | rfl | rfl <;> simp [own_up, own_bt, own_w])) 0 (by decide) (by decide) e38 (by decide) (by decide) (g := (mkF m 220 #[.val (.long x0), .second, .val (.long x1), .second, .val (.int x2), .val (.int (Int32.ofNat a)), .val (.ref b3)] [(.int (Int32.ofNat a)), (.ref b3)])) rfl (by rw [hml]; rfl) (argsL := [(.ref b3), (.int (Int32.ofNat a))]) (rest := []) (lenOf pd___BI_J rfl) rfl (by show 2 * 0 + _ ≤ _; exact Nat.le_of_eq rfl) (hb hby at_220)
  obtain ⟨rfl, N40q, e40⟩ := hQ40
  have N40 := Fr.app N38 N40q
  refine ownGo.st st40 ?_
  show ownGo p.tables e below T40 (mkF m 223 #[.val (.long x0), .second, .val (.long x1), .second, .val (.int x2), .val (.int (Int32.ofNat a)), .val (.ref b3)] [(.long x0)]) _
  refine ownGo.st (fun _ k => XS.lloadN X40.here hx rfl (hb hby at_223) rfl k) ?_
  show ownGo p.tables e below T40 (mkF m 224 #[.val (.long x0), .second, .val (.long x1), .second, .val (.int x2), .val (.int (Int32.ofNat a)), .val (.ref b3)] [(.long x0), (.long x0)]) _
  refine ownGo.st (fun _ k => XS.lcmp X40.here hx rfl (hb hby at_224) rfl k) ?_
  show ownGo p.tables e below T40 (mkF m 225 #[.val (.long x0), .second, .val (.long x1), .second, .val (.int x2), .val (.int (Int32.ofNat a)), .val (.ref b3)] [(.int (lcmpW x0 x0))]) _
  have hc41 : x0 = x0 := rfl
  refine ownGo.st (fun _ k => XS.ifNo X40.here hx rfl (hb hby at_225) rfl ((if0 _ _).trans (teq ((lw_eq _ _).mpr hc41)).2) k) ?_
  show ownGo p.tables e below T40 (mkF m 228 #[.val (.long x0), .second, .val (.long x1), .second, .val (.int x2), .val (.int (Int32.ofNat a)), .val (.ref b3)] []) _
  refine ownGo.st (fun _ k => XS.iconst X40.here hx rfl (hb hby at_228)  k) ?_
  show ownGo p.tables e below T40 (mkF m 229 #[.val (.long x0), .second, .val (.long x1), .second, .val (.int x2), .val (.int (Int32.ofNat a)), .val (.ref b3)] [(.int (1 : Int32))]) _
  refine ownGo.st (fun _ k => XS.goto X40.here hx rfl (pc0 := 229) (pc' := 233) rfl (hb hby at_229) (by decide) (by decide) k) ?_
  show ownGo p.tables e below T40 (mkF m 233 #[.val (.long x0), .second, .val (.long x1), .second, .val (.int x2), .val (.int (Int32.ofNat a)), .val (.ref b3)] [(.int (1 : Int32))]) _
  exact own_retZ X40 hx hlk hret (hb hby at_233) (Or.inr rfl) ⟨rfl, N40⟩ (by decide) (by decide)
set_option maxRecDepth 65536 in
set_option maxHeartbeats 40000000 in
theorem comes_1 {Post : Tables → Env → Array Value → State → Outcome → State → Prop} (hpost : ∀ tb e args s v u, (limb_1_1.after args s (.returned v) u = true ∧ limb_1_2.after args s (.returned v) u = true ∧ True) → FrameEnd s (.returned v) u (Jvm.fieldLocs frame_1_writes args s ++ Jvm.arrayLocs frame_1_arrays args s ++ Jvm.staticLocs frame_1_statics s) 16 128 → Post tb e args s (.returned v) u) :
    ArmFor flags0 classFile x code maxLocals ret World_1 tables_1 room_1 Calls_1 rest_1 Pre_1 Post := by
  intro l hfl _ _ p e ha hc hk s m args below hf hA hF happ hP
  obtain ⟨hcalls, hrest, hpre⟩ := hP
  obtain ⟨-, -, -, hnamed, -, -, -, hat⟩ := (Spec.applies_iff hf).mp happ
  obtain ⟨hg, hn⟩ := and_e (Cond.before_iff.mp (show (Jvm.Cond.and given_1 narrow_1).before args s = true from hpre))
  obtain ⟨hcount, g1⟩ := and_e hg
  obtain ⟨hv0, g3⟩ := and_e g1
  obtain ⟨hv1, hv2⟩ := and_e g3
  obtain ⟨w0, w1, w2, rfl⟩ : ∃ w0 w1 w2 : Value, args = #[w0, w1, w2] := by
    have hs : args.size = 3 := by simpa [Cond.value, given_1] using hcount
    obtain ⟨L⟩ := args
    match L, hs with
    | [w0, w1, w2], _ => exact ⟨w0, w1, w2, rfl⟩
  have hw := fun d (hd : d ∈ tables_1) => atoms_spec (ws := Jvm.Cond.code x code maxLocals ret :: tables_1) hat d (List.mem_cons_of_mem _ hd)
  obtain ⟨i0, ei0⟩ := isL_v hv0
  obtain rfl : w0 = (.long i0) := Option.some.inj ei0
  obtain ⟨i1, ei1⟩ := isL_v hv1
  obtain rfl : w1 = (.long i1) := Option.some.inj ei1
  obtain ⟨i2, ei2⟩ := is_v hv2
  obtain rfl : w2 = (.int i2) := Option.some.inj ei2
  obtain ⟨n, o, h1, h2, h3, _, L, rfl, ⟨rfl, N⟩, hq⟩ := rm0 l s _ hw i0 i1 i2 s.heap s.heap.size (Nat.le_refl _) p e ha hc hk s m _ below hf ((Spec.applies_iff_loose hf).mp happ).1 ⟨rfl, State.Warmed39.refl s, rfl⟩ trivial
  refine ⟨n, _, h1, h2, h3, hpost _ _ _ _ _ _ ⟨Cond.after_iff.mpr rfl, Cond.after_iff.mpr (eq_i res_at (Term.int_eval (1)) rfl), trivial⟩ ⟨hq.1, hq.2.1, (hq.2.2.sift fun y hy => Or.inr (N y hy)).mono (by decide) (by decide)⟩⟩
theorem main_1_1 : Claimed_1_1 := comes_1 fun _ _ _ _ _ _ h hF => ⟨h.1, hF⟩
theorem main_1_2 : Claimed_1_2 := comes_1 fun _ _ _ _ _ _ h hF => ⟨h.2.1, hF⟩
end Jvm.Pilot.@@N@@
namespace Jvm.Pilot.@@N@@
open Jvm Jvm.ClassFile Sem Op Lib Jvm.Free Jvm.Stand Jvm.Pilot.@@N@@.Jvm.D
/-! MADE BY PROGRAM (witnessworld.py) out of the Statement's table words and the real class files: 9 classes; the members and pool entries that the words name. The judged class is class 1, her method 1. -/
namespace start1
open Jvm.ClassFile
def u (s : String) : CpInfo := .utf8 (stringToUtf16 s)
/-- a pool by its gaps: so many unusable entries, then the entry; so many at the end -/
def gap : Nat → List CpInfo → List CpInfo
  | 0, r => r
  | n + 1, r => .unusable :: gap n r
def poolList (es : List (Nat × CpInfo)) (last : Nat) : List CpInfo := es.foldr (fun e r => gap e.1 (e.2 :: r)) (gap last [])
def pool (es : List (Nat × CpInfo)) (last : Nat) : Array CpInfo := ⟨poolList es last⟩
def fileOf (pool : Array CpInfo) (this : Nat) (attrs : Array Attribute := #[]) (ms : Array MethodInfo := #[]) (fl : Nat := 33) (sup : Nat := 0) (ifs : Array Nat := #[]) (fds : Array FieldInfo := #[]) : ClassFile where
  minorVersion := 0
  majorVersion := 65
  constantPool := pool
  accessFlags := fl
  thisClass := this
  superClass := sup
  interfaces := ifs
  fields := fds
  methods := ms
  attributes := attrs
def plain (name : String) (sup : Option ClassId) : Class where
  name := name
  kind := .ordinary
  loader := none
  accessFlags := 33
  super := sup
  interfaces := #[]
  cf := none
  fields := #[]
  methods := #[]
  instanceTypes := #[]
  staticTypes := #[]
  resolved := #[]
  callSites := []
  init := .initialized
  statics := none
  mirror := none

def pool0 : Array CpInfo := pool [(5, u "<init>"), (0, u "()V"), (1, .class_ 10), (1, u "java/lang/Object")] 113

def k0m0 : Method := { name := "<init>", desc := "()V", sig := { parameters := [], returnType := none }, accessFlags := 1, code := none }
/-- java/lang/Object -/
def k0 : Class := { plain "java/lang/Object" none with
  accessFlags := 33
  interfaces := #[]
  cf := some (fileOf pool0 8 #[] #[{ accessFlags := 1, nameIndex := 5, descriptorIndex := 6, attributes := #[] }] 33 0 #[] #[])
  fields := #[]
  methods := #[k0m0]
  instanceTypes := #[]
  staticTypes := #[]
  resolved := Array.replicate 124 none
  statics := none }

def pool1 : Array CpInfo := pool [(2, .class_ 4), (1, u "java/lang/Object"), (0, u "<init>"), (0, u "()V"), (0, .integer 2147483647), (0, .methodref 9 10), (0, .class_ 11), (0, .nameAndType 12 13), (0, u "com/example/oyster/oyster/engine/Bytes"), (0, u "fixed"), (0, u "([BI)J"), (0, .class_ 15), (0, u "com/example/oyster/oyster/engine/BytesFixedPinLaw"), (2, u "law"), (0, u "(JJI)Z")] 5

def k1m0 : Method := { name := "<init>", desc := "()V", sig := { parameters := [], returnType := none }, accessFlags := 1, code := none }
def k1c1 : Code := { maxStack := 5, maxLocals := 7, code := code, exceptionTable := #[], attributes := #[] }
def k1m1 : Method := { name := "law", desc := "(JJI)Z", sig := { parameters := [.long, .long, .int], returnType := some .boolean }, accessFlags := 9, code := some k1c1 }
/-- com/example/oyster/oyster/engine/BytesFixedPinLaw -/
def k1 : Class := { plain "com/example/oyster/oyster/engine/BytesFixedPinLaw" (some 0) with
  accessFlags := 49
  interfaces := #[]
  cf := some (fileOf pool1 14 #[] #[{ accessFlags := 1, nameIndex := 5, descriptorIndex := 6, attributes := #[] }, { accessFlags := 9, nameIndex := 18, descriptorIndex := 19, attributes := #[] }] 49 2 #[] #[])
  fields := #[]
  methods := #[k1m0, k1m1]
  instanceTypes := #[]
  staticTypes := #[]
  resolved := Array.replicate 25 none
  statics := none }

def pool2 : Array CpInfo := pool [(2, .class_ 4), (1, u "java/lang/Object"), (0, u "<init>"), (0, u "()V"), (11, .class_ 19), (0, u "com/example/oyster/oyster/engine/Bytes"), (5, u "fixed"), (0, u "([BI)J"), (5, .class_ 33), (0, u "com/example/oyster/oyster/engine/Bytes$In"), (0, .class_ 35), (0, u "com/example/oyster/oyster/engine/Bytes$Out")] 17

def k2m0 : Method := { name := "<init>", desc := "()V", sig := { parameters := [], returnType := none }, accessFlags := 2, code := none }
def k2c1 : Code := { maxStack := 5, maxLocals := 5, code := prog_6_method_3_code, exceptionTable := #[], attributes := #[] }
def k2m1 : Method := { name := "fixed", desc := "([BI)J", sig := { parameters := [(.array .byte), .int], returnType := some .long }, accessFlags := 8, code := some k2c1 }
/-- com/example/oyster/oyster/engine/Bytes -/
def k2 : Class := { plain "com/example/oyster/oyster/engine/Bytes" (some 0) with
  accessFlags := 48
  interfaces := #[]
  cf := some (fileOf pool2 18 #[.nestMembers #[32, 34]] #[{ accessFlags := 2, nameIndex := 5, descriptorIndex := 6, attributes := #[] }, { accessFlags := 8, nameIndex := 25, descriptorIndex := 26, attributes := #[] }] 48 2 #[] #[])
  fields := #[]
  methods := #[k2m0, k2m1]
  instanceTypes := #[]
  staticTypes := #[]
  resolved := Array.replicate 53 none
  statics := none }

def pool3 : Array CpInfo := pool [(1, u "java/lang/Cloneable"), (0, .class_ 1), (0, u "java/lang/Object"), (0, .class_ 3)] 3

/-- java/lang/Cloneable -/
def k3 : Class := { plain "java/lang/Cloneable" (some 0) with
  accessFlags := 1537
  interfaces := #[]
  cf := some (fileOf pool3 2 #[] #[] 1537 4 #[] #[])
  fields := #[]
  methods := #[]
  instanceTypes := #[]
  staticTypes := #[]
  resolved := Array.replicate 8 none
  statics := none }

def pool4 : Array CpInfo := pool [(1, u "java/io/Serializable"), (0, .class_ 1), (0, u "java/lang/Object"), (0, .class_ 3)] 3

/-- java/io/Serializable -/
def k4 : Class := { plain "java/io/Serializable" (some 0) with
  accessFlags := 1537
  interfaces := #[]
  cf := some (fileOf pool4 2 #[] #[] 1537 4 #[] #[])
  fields := #[]
  methods := #[]
  instanceTypes := #[]
  staticTypes := #[]
  resolved := Array.replicate 8 none
  statics := none }

/-- the primitive byte -/
def k5 : Class := { plain "byte" none with kind := .primitive 'B', accessFlags := 0x411 }
/-- [B -/
def k6 : Class := { plain "[B" (some 0) with kind := .array 5 .byte, interfaces := #[3, 4], accessFlags := 1041 }

/-- the primitive int -/
def k7 : Class := { plain "int" none with kind := .primitive 'I', accessFlags := 0x411 }
/-- [I -/
def k8 : Class := { plain "[I" (some 0) with kind := .array 7 .int, interfaces := #[3, 4], accessFlags := 1041 }

def heap : Heap := #[]
def classes : Array Class := #[k0, k1, k2, k3, k4, k5, k6, k7, k8]
def interned : List (Array UInt16 × Addr) := []
def slotsUsed : Nat := 0
def theMethod : MethodId := ⟨1, 1⟩
def args0 : Array Value := #[.long 3, .long 5, .int 7]
def aboutOver (below : List Frame) : State where
  vm := { classes := classes, interned := interned.toArray }
  heap := heap
  slotsUsed := slotsUsed
  threads := #[{ frames := .invoking theMethod args0 :: below }]
def below0 : List Frame := [.native { method := ⟨0, 0⟩, args := #[] }]
def about1 : State := aboutOver below0
def p0 : Program := .bare "" "" ""
def e0 : Env := launch0.env 0 0 0
theorem w_frames : about1.frames = Frame.invoking theMethod args0 :: below0 := rfl
set_option maxRecDepth 65536 in
theorem w_args : argsFit about1.vm theMethod args0 = true := by decide +kernel
set_option maxRecDepth 65536 in
theorem w_heap : heapFits about1 = true := by decide +kernel
set_option maxRecDepth 65536 in
theorem w_runnable : about1.curStatus? = some .runnable := by decide +kernel
set_option maxRecDepth 65536 in
theorem w_alone : about1.alone = true := by decide +kernel
set_option maxRecDepth 65536 in
theorem w_named : about1.methodNamed? x = some theMethod := by decide +kernel
set_option maxRecDepth 65536 in
theorem w_hears : about1.hears theMethod below0 = true := by decide +kernel
set_option maxRecDepth 65536 in
theorem w_ripe : about1.ripe theMethod args0 below0 = true := by decide +kernel
theorem w_running : about1.status = .running := rfl
set_option maxRecDepth 65536 in
theorem w_room : about1.hasRoom e0.platform room_1 = true :=
  launch0.hasRoom_least _ room_1 (by decide +kernel) (by decide +kernel) (by decide +kernel) (by decide +kernel) (by decide +kernel) (by decide +kernel)
theorem allAtoms_all (ts : List Jvm.Cond) (a : Array Jvm.Value) (st : Jvm.State) : (allAtoms ts).before a st = ts.all (fun c => c.before a st) := by
  induction ts with
  | nil => rfl
  | cons c t ih =>
    show (Jvm.Cond.and c (allAtoms t)).before a st = _
    rw [Jvm.Cond.before_and, ih, List.all_cons]
def words1 : List Jvm.Cond := Jvm.Cond.code x code maxLocals ret :: tables_1
/-- a 'code' word, met by the world's own term for the bytes: nothing is compared byte by byte -/
theorem code_word {y : MethodName} {bytes : ByteArray} {mx : Nat} {rt : Option FieldType} {a : Array Value} {s : State} {m : MethodId} {meth : Method} {c : Code} (h1 : s.methodNamed? y = some m) (h2 : s.vm.method? m = some meth) (h3 : meth.code = some c) (h4 : c.code = bytes)
    (h5 : (c.maxLocals == mx && c.exceptionTable.isEmpty && decide (c.maxStack ≤ mostOperands) && decide (meth.sig.returnType = rt) && !meth.locks && decide (parseMethodDescriptor y.desc = some meth.sig)) = true) : (Jvm.Cond.code y bytes mx rt).before a s = true := by
  simp only [Bool.and_eq_true, beq_iff_eq, Bool.not_eq_true', decide_eq_true_eq] at h5
  obtain ⟨⟨⟨⟨⟨g1, g2⟩, g3⟩, g4⟩, g5⟩, g6⟩ := h5
  simp [Cond.before, Cond.holds, Cond.value, h1, h2, h3, h4, g1, g2, g3, g4, g5, g6]
def isCode : Jvm.Cond → Bool
  | .code _ _ _ _ => true
  | _ => false
theorem all_split {L : List Jvm.Cond} {P : Jvm.Cond → Bool} (h1 : L.all (fun c => isCode c || P c) = true) (h2 : ∀ c ∈ L.filter isCode, P c = true) : L.all P = true := by
  refine List.all_eq_true.mpr fun c hc => ?_
  have h := List.all_eq_true.mp h1 c hc
  rcases Bool.eq_false_or_eq_true (isCode c) with hi | hi
  · exact h2 c (List.mem_filter.mpr ⟨hc, hi⟩)
  · simpa [hi] using h
set_option maxRecDepth 65536 in
theorem w_c0 : (Jvm.Cond.code x code maxLocals ret).before args0 about1 = true := code_word (m := ⟨1, 1⟩) (meth := k1m1) (c := k1c1) (by decide +kernel) rfl rfl rfl (by decide +kernel)
set_option maxRecDepth 65536 in
theorem w_c1 : (Jvm.Cond.code ({ cls := "com/example/oyster/oyster/engine/Bytes", name := "fixed", desc := "([BI)J" } : Jvm.MethodName) prog_6_method_3_code (5 : Nat) (Option.some Jvm.ClassFile.FieldType.long)).before args0 about1 = true := code_word (m := ⟨2, 1⟩) (meth := k2m1) (c := k2c1) (by decide +kernel) rfl rfl rfl (by decide +kernel)
def codes1 : List Jvm.Cond := [Jvm.Cond.code x code maxLocals ret, Jvm.Cond.code ({ cls := "com/example/oyster/oyster/engine/Bytes", name := "fixed", desc := "([BI)J" } : Jvm.MethodName) prog_6_method_3_code (5 : Nat) (Option.some Jvm.ClassFile.FieldType.long)]
set_option maxRecDepth 65536 in
theorem codes_eq : words1.filter isCode = codes1 := rfl
theorem w_codes : ∀ c ∈ words1.filter isCode, c.before args0 about1 = true := by
  rw [codes_eq]
  intro c hc
  simp only [codes1, List.mem_cons, List.not_mem_nil, or_false] at hc
  rcases hc with rfl | rfl
  · exact w_c0
  · exact w_c1
set_option maxRecDepth 65536 in
theorem w_t1 : words1.all (fun c => isCode c || c.before args0 about1) = true := by decide +kernel
theorem w_tables : (allAtoms (Jvm.Cond.code x code maxLocals ret :: tables_1)).before args0 about1 = true := by
  rw [allAtoms_all]
  show words1.all (fun c => c.before args0 about1) = true
  refine all_split ?_ w_codes
  rw [w_t1]
set_option maxRecDepth 65536 in
theorem w_case : (Jvm.Cond.and given_1 narrow_1).before args0 about1 = true := by decide +kernel
theorem w_applies : (headSpec (Jvm.Cond.code x code maxLocals ret :: tables_1) room_1).applies x e0.platform about1 = true :=
  (Spec.applies_iff w_frames).mpr ⟨w_running, w_runnable, w_alone, w_named, w_hears, w_ripe, w_room, w_tables⟩
theorem atStart : AtStart classFile x code maxLocals ret World_1 tables_1 room_1 Calls_1 rest_1 Pre_1 launch0 p0 e0 about1 theMethod args0 below0 :=
  ⟨lists_1, trivial, launch0.admits_env _ _ _, launch0.least_env, fairChoices_fair.cas, fairChoices_fair.clock, w_frames, w_args, w_heap, w_applies, trivial, trivial, w_case⟩
end start1
theorem witness_1 : WitnessClaimed_1 := ⟨start1.p0, start1.e0, start1.about1, start1.theMethod, start1.args0, start1.below0, start1.atStart⟩
end Jvm.Pilot.@@N@@
