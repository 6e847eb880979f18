import JvmDerived
import JvmDerived.Pilot.@@N@@Statement
import JvmDerived.Pilot.@@N@@Code
set_option linter.unusedVariables false
set_option linter.unusedSimpArgs false
namespace Jvm.Pilot.@@N@@
open Jvm Jvm.ClassFile Sem Op Lib Jvm.Free Jvm.Stand Jvm.LawKit Jvm.RoadKit Bundle Jvm.Pilot.@@N@@.Jvm.D
abbrev own_iushr (x y : Int32) : Int32 := (x.toUInt32 >>> (y &&& 31).toUInt32).toInt32
abbrev own_lshl (x : Int64) (y : Int32) : Int64 := x <<< (y &&& 0x3f).toInt64
abbrev own_lshr (x : Int64) (y : Int32) : Int64 := x >>> (y &&& 0x3f).toInt64
abbrev own_lushr (x : Int64) (y : Int32) : Int64 := (x.toUInt64 >>> (y &&& 0x3f).toInt64.toUInt64).toInt64
section Core
variable {p : Program} {l : Launch} {e : Env} {R : Room} {s : State} {m : MethodId} {args : Array Value} {below : List Frame} {meth : Method} {c : Code} {T T' : State} {locs : List Loc} {cells slots : Nat} {Z : State} {a0 : Array Value} {h h0 h' : Heap} {n0 : Nat}
/-- the i-th word of the sheet -/
theorem own_at (hw : ∀ d ∈ tables_1, d.before a0 Z = true) {d : Jvm.Cond} (i : Nat) (q : tables_1[i]? = some d) : d.before a0 Z = true := hw _ (List.mem_of_getElem? q)
/-- from this frame the method comes to its end, and G says what the end is -/
def ownGo (tb : Tables) (e : Env) (below : List Frame) (T : State) (g : JFrame) (G : Outcome → State → Prop) : Prop :=
  ∃ s₂ o, Steps tb e below (T.setTop g) s₂ ∧ s₂.status = .running ∧ Ended s₂ below o ∧ G o s₂
def ownDone (s : State) (Q : Option Value → Heap → List Loc → Prop) (kc ks : Nat) (o : Outcome) (U : State) : Prop :=
  ∃ v L, o = .returned v ∧ Q v U.heap L ∧ FrameEnd s o U L kc ks
/-- what a method leaves that only reckons -/
def ownPure (r : Value) (h0 : Heap) (n0 : Nat) (v : Option Value) (h : Heap) (L : List Loc) : Prop := v = some r ∧ Fr n0 L ∧ h = h0
theorem ownGo.st {tb : Tables} {g g' : JFrame} {G : Outcome → State → Prop} (q : ∀ t, Steps tb e below (T'.setTop g') t → Steps tb e below (T.setTop g) t) (k : ownGo tb e below T' g' G) : ownGo tb e below T g G := by
  obtain ⟨s₂, o, h1, h2⟩ := k
  exact ⟨s₂, o, q _ h1, h2⟩
theorem ownGo.sq {tb : Tables} {g g' : JFrame} {G : Outcome → State → Prop} (q : Steps tb e below (T.setTop g) (T'.setTop g')) (k : ownGo tb e below T' g' G) : ownGo tb e below T g G := by
  obtain ⟨s₂, o, h1, h2⟩ := k
  exact ⟨s₂, o, q.trans h1, h2⟩
theorem own_ret {Q : Option Value → Heap → List Loc → Prop} {kc ks : Nat} {g : JFrame} {v : Option Value} (X : Stand p l e R s m args below meth c T locs cells slots) (hlk : meth.locks = false) (hv : meth.sig.returnType = none → v = none)
    (hst : ∀ fs, (∀ (f : JFrame) (acts : List Action), f.method = m → f.locked = none → f.entered = [] → (doReturn e (T.setTop f) acts v).1 = T.setFrames fs) → Steps p.tables e below (T.setTop g) (T.setFrames fs))
    (hq : Q v T.heap locs) (hc : cells ≤ kc) (hs : slots ≤ ks) : ownGo p.tables e below T g (ownDone s Q kc ks) := by
  obtain ⟨fs, hr, hrun, hended, hW, hsame⟩ := X.leave (v := v) hv hlk
  exact ⟨_, _, hst fs hr, hrun, hended, _, _, rfl, hq, ⟨_, rfl⟩, hW, hsame.mono hc hs⟩
theorem own_retI {Q : Option Value → Heap → List Loc → Prop} {kc ks : Nat} {pc : Nat} {Ls : Array Slot} {z : Int32} {rest : List Value} (X : Stand p l e R s m args below meth c T locs cells slots) (hx : p.tables.exec = Jvm.exec) (hlk : meth.locks = false) (hret : meth.sig.returnType = some .int)
    (hd : decode c.code pc = .ok (.ireturn, 1)) (hq : Q (some (.int z)) T.heap locs) (hc : cells ≤ kc) (hs : slots ≤ ks) : ownGo p.tables e below T (mkF m pc Ls (.int z :: rest)) (ownDone s Q kc ks) :=
  own_ret X hlk (fun q => by rw [hret] at q; cases q) (fun fs hr => retOut X hx hret rfl (Or.inl ⟨rfl, Or.inl rfl, z, rfl⟩) hd hr) hq hc hs
theorem own_retZ {Q : Option Value → Heap → List Loc → Prop} {kc ks : Nat} {pc : Nat} {Ls : Array Slot} {z : Int32} {rest : List Value} (X : Stand p l e R s m args below meth c T locs cells slots) (hx : p.tables.exec = Jvm.exec) (hlk : meth.locks = false) (hret : meth.sig.returnType = some .boolean)
    (hd : decode c.code pc = .ok (.ireturn, 1)) (hz : z = 0 ∨ z = 1) (hq : Q (some (.int z)) T.heap locs) (hc : cells ≤ kc) (hs : slots ≤ ks) : ownGo p.tables e below T (mkF m pc Ls (.int z :: rest)) (ownDone s Q kc ks) := by
  have e1 : nar .boolean z = z := by rcases hz with rfl | rfl <;> decide
  exact own_ret X hlk (fun q => by rw [hret] at q; cases q) (fun fs hr => retN X hx (t := .boolean) hret (by simp) hd (by rw [e1]; exact hr)) hq hc hs
theorem own_retJ {Q : Option Value → Heap → List Loc → Prop} {kc ks : Nat} {pc : Nat} {Ls : Array Slot} {z : Int64} {rest : List Value} (X : Stand p l e R s m args below meth c T locs cells slots) (hx : p.tables.exec = Jvm.exec) (hlk : meth.locks = false) (hret : meth.sig.returnType = some .long)
    (hd : decode c.code pc = .ok (.lreturn, 1)) (hq : Q (some (.long z)) T.heap locs) (hc : cells ≤ kc) (hs : slots ≤ ks) : ownGo p.tables e below T (mkF m pc Ls (.long z :: rest)) (ownDone s Q kc ks) :=
  own_ret X hlk (fun q => by rw [hret] at q; cases q) (fun fs hr => retOut X hx hret rfl (Or.inr (Or.inl ⟨rfl, rfl, z, rfl⟩)) hd hr) hq hc hs
theorem own_retA {Q : Option Value → Heap → List Loc → Prop} {kc ks : Nat} {pc : Nat} {Ls : Array Slot} {z : Addr} {t : FieldType} {rest : List Value} (X : Stand p l e R s m args below meth c T locs cells slots) (hx : p.tables.exec = Jvm.exec) (hlk : meth.locks = false) (hret : meth.sig.returnType = some (.array t))
    (hd : decode c.code pc = .ok (.areturn, 1)) (hq : Q (some (.ref z)) T.heap locs) (hc : cells ≤ kc) (hs : slots ≤ ks) : ownGo p.tables e below T (mkF m pc Ls (.ref z :: rest)) (ownDone s Q kc ks) :=
  own_ret X hlk (fun q => by rw [hret] at q; cases q) (fun fs hr => retOut X hx hret rfl (Or.inr (Or.inr (Or.inr (Or.inr ⟨rfl, rfl, rfl⟩)))) hd hr) hq hc hs
theorem own_retV {Q : Option Value → Heap → List Loc → Prop} {kc ks : Nat} {pc : Nat} {Ls : Array Slot} (X : Stand p l e R s m args below meth c T locs cells slots) (hx : p.tables.exec = Jvm.exec) (hlk : meth.locks = false) (hret : meth.sig.returnType = none)
    (hd : decode c.code pc = .ok (.return_, 1)) (hq : Q none T.heap locs) (hc : cells ≤ kc) (hs : slots ≤ ks) : ownGo p.tables e below T (mkF m pc Ls []) (ownDone s Q kc ks) :=
  own_ret X hlk (fun _ => rfl) (fun fs hr => X.returnOut hx hret hd hr) hq hc hs
/-- a static call by the callee's contract -/
theorem own_callS (X : Stand p l e R s m args below meth c T locs cells slots) (hx : p.tables.exec = Jvm.exec) (hZ : Z.Warmed39 s.vm) {own : String} {index : Nat} {y : MethodName} {bytes : ByteArray} {maxL : Nat} {ret : Option FieldType} (hown : s.vm.findClass own = some m.cls)
    (w1 : (Jvm.Cond.methodLink own index y).before a0 Z = true) (w2 : (Jvm.Cond.static y).before a0 Z = true) (w3 : (Jvm.Cond.initialized y.cls).before a0 Z = true) (w4 : (Jvm.Cond.code y bytes maxL ret).before a0 Z = true) (hy : y.cls ≠ "java/lang/invoke/MethodHandle" ∧ y.cls ≠ "java/lang/invoke/VarHandle")
    {rm : Room} {argsL rest : List Value} {Q : Option Value → Heap → List Loc → Prop}
    (K : MetFree l y (head1 [Jvm.Cond.code y bytes maxL ret] rm) (fun a U => a = argsL.toArray ∧ Z.Warmed39 U.vm ∧ U.heap = h0) (fun _ _ _ _ _ => True) (fun _ U o U' => ∃ v L, o = .returned v ∧ Q v U'.heap L ∧ FrameEnd U o U' L rm.cells rm.slots))
    (W : Nat) (hf : rm.frames + 1 ≤ R.frames) (hl : W + (maxL + 11) + rm.locals ≤ R.locals) (eT : T.heap = h0) (hcl : cells + rm.cells ≤ R.cells) (hsl : slots + rm.slots ≤ R.slots)
    {g : JFrame} (hg : g.method = m) (hsize : g.locals.size = c.maxLocals) (hlen : ∀ sig, parseMethodDescriptor y.desc = some sig → argsL.length = sig.parameters.length) (hstack : g.stack = argsL.reverse ++ rest) (hW : 2 * g.monitorRoom + (rest.map fun v => v.category).sum ≤ W) (hdg : decode c.code g.pc = .ok (.invokestatic index, 3)) :
    ∃ (v : Option Value) (T' : State) (L : List Loc), Stand p l e R s m args below meth c T' (locs ++ L) (cells + rm.cells) (slots + rm.slots) ∧ Q v T'.heap L ∧ ∀ t, Steps p.tables e below (T'.setTop { g with pc := g.pc + 3, stack := v.toList ++ rest }) t → Steps p.tables e below (T.setTop g) t := by
  obtain ⟨v, _, ⟨T1, L1, k1, n1⟩, -, X1, ⟨Lc, hQ, l1, y1, z1⟩, st⟩ := Jvm.LawKit.callS X hx (y := y) hown (mvT hZ w1) (mvT hZ w2) (mvT hZ w3) (mvT hZ w4) hy (backOf (W := W) K hZ w4 w3 hf hl) (g := g) hg hsize (argsL := argsL) (rest := rest) hlen hstack hW hdg (fun _ _ => ⟨rfl, eT, hcl, hsl⟩)
  dsimp only [Pt.U, Pt.locs, Pt.cells, Pt.slots] at X1 l1 y1 z1 st hQ
  subst l1 y1 z1
  exact ⟨v, T1, Lc, X1, hQ, st⟩
/-! arrays: n places, place i holds f i -/
def ownA (Z : State) (h : Heap) (a : Addr) (ty : FieldType) (n : Nat) (f : Nat → Value) : Prop :=
  ∃ c : Cell, Arr Z h a c ty ∧ c.slots.size = n ∧ n < 2147483648 ∧ ∀ i, i < n → c.slots[i]? = some (f i) ∧ fits ty (f i) = true
def own_up (f : Nat → Value) (j : Nat) (v : Value) (i : Nat) : Value := if i = j then v else f i
theorem own_up_hit {f : Nat → Value} {j : Nat} {v : Value} : own_up f j v j = v := if_pos rfl
theorem own_up_miss {f : Nat → Value} {i j : Nat} {v : Value} (q : i ≠ j) : own_up f j v i = f i := if_neg q
theorem ownA.ext {a : Addr} {ty : FieldType} {n : Nat} {f : Nat → Value} (V : ownA Z h a ty n f) (E : Ext h h') : ownA Z h' a ty n f := by obtain ⟨c, A, r⟩ := V; exact ⟨c, A.ext E, r⟩
theorem ownA.other {a b : Addr} {ty : FieldType} {n sl : Nat} {v : Value} {f : Nat → Value} (V : ownA Z h a ty n f) (W : Wr h h' b sl v) (q : a ≠ b) : ownA Z h' a ty n f := by obtain ⟨c, A, r⟩ := V; exact ⟨c, A.other W q, r⟩
theorem ownA.keep {a : Addr} {ty : FieldType} {n : Nat} {ws : List Addr} {f : Nat → Value} (V : ownA Z h a ty n f) (K : Keep h h' ws) (q : a ∉ ws) : ownA Z h' a ty n f := by obtain ⟨c, A, r⟩ := V; exact ⟨c, ⟨K.2.1 a c A.1 q, A.2⟩, r⟩
theorem ownA.lt {a : Addr} {ty : FieldType} {n : Nat} {f : Nat → Value} (V : ownA Z h a ty n f) : a < h.size := by obtain ⟨c, A, r⟩ := V; exact A.lt
theorem ownA.eq {a : Addr} {ty : FieldType} {n : Nat} {f f' : Nat → Value} (V : ownA Z h a ty n f) (q : ∀ i, i < n → f i = f' i) : ownA Z h a ty n f' := by
  obtain ⟨c, A, r1, r2, r3⟩ := V
  exact ⟨c, A, r1, r2, fun i hi => by rw [← q i hi]; exact r3 i hi⟩
theorem own_n32 {n : Nat} (q : n < 2147483648) : (Int32.ofNat n).toNatClampNeg = n := by rw [Int32.toNatClampNeg, Int32.toInt_ofNat_of_lt q]; rfl
theorem own_nn {n : Nat} (q : n < 2147483648) : ¬ Int32.ofNat n < 0 := by
  rw [Int32.lt_iff_toInt_lt, Int32.toInt_ofNat_of_lt q, show (0 : Int32).toInt = 0 from rfl]; omega
theorem ownA.new {a : Addr} {k : ClassId} {ty : FieldType} {n : Nat} (A : Arr Z h a (newA k ty (Int32.ofNat n)) ty) (q : n < 2147483648) (d : fits ty (defaultValue ty) = true) : ownA Z h a ty n (fun _ => defaultValue ty) := by
  refine ⟨_, A, by rw [sz_new, own_n32 q], q, fun i hi => ⟨?_, d⟩⟩
  simp [newA, own_n32 q, hi]
theorem own_in {cl : Cell} {n i : Nat} {j : Int32} (S : cl.slots.size = n) (q : n < 2147483648) (hj : j = Int32.ofNat i) (hi : i < n) : ¬ (j < 0 ∨ cl.slots.size ≤ j.toNatClampNeg) := by
  subst hj
  rw [S, own_n32 (by omega)]
  exact fun z => z.elim (own_nn (by omega)) (fun z => by omega)
theorem own_iaload {a : Addr} {n i : Nat} {f : Nat → Value} {j v : Int32} (X : Stand p l e R s m args below meth c T locs cells slots) (hx : p.tables.exec = Jvm.exec) (hZ : Z.Warmed39 s.vm) (eT : T.heap = h) (V : ownA Z h a .int n f) (hj : j = Int32.ofNat i) (hi : i < n) (hv : f i = .int v)
    {g : JFrame} (hg : g.method = m) {rest : List Value} (hs : g.stack = .int j :: .ref a :: rest) (hd : decode c.code g.pc = .ok (.iaload, 1)) :
    ∀ t, Steps p.tables e below (T.setTop { g with pc := g.pc + 1, stack := .int v :: rest }) t → Steps p.tables e below (T.setTop g) t := by
  obtain ⟨cl, A, S, q, H⟩ := V
  have hat : cl.slots[j.toNatClampNeg]? = some (.int v) := by rw [hj, own_n32 (by omega), ← hv]; exact (H i hi).1
  exact X.iaload hx (j := j) (by rw [eT]; exact A.1) (State.isArrayOf_alike hZ.alike A.2.1) A.2.2 (own_in S q hj hi) hat hg hs hd
theorem own_laload {a : Addr} {n i : Nat} {f : Nat → Value} {j : Int32} {v : Int64} (X : Stand p l e R s m args below meth c T locs cells slots) (hx : p.tables.exec = Jvm.exec) (hZ : Z.Warmed39 s.vm) (eT : T.heap = h) (V : ownA Z h a .long n f) (hj : j = Int32.ofNat i) (hi : i < n) (hv : f i = .long v)
    {g : JFrame} (hg : g.method = m) {rest : List Value} (hs : g.stack = .int j :: .ref a :: rest) (hd : decode c.code g.pc = .ok (.laload, 1)) :
    ∀ t, Steps p.tables e below (T.setTop { g with pc := g.pc + 1, stack := .long v :: rest }) t → Steps p.tables e below (T.setTop g) t := by
  obtain ⟨cl, A, S, q, H⟩ := V
  have hat : cl.slots[j.toNatClampNeg]? = some (.long v) := by rw [hj, own_n32 (by omega), ← hv]; exact (H i hi).1
  exact X.laload hx (j := j) (by rw [eT]; exact A.1) (State.isArrayOf_alike hZ.alike A.2.1) A.2.2 (own_in S q hj hi) hat hg hs hd
theorem own_baload {a : Addr} {n i : Nat} {f : Nat → Value} {j v : Int32} (X : Stand p l e R s m args below meth c T locs cells slots) (hx : p.tables.exec = Jvm.exec) (hZ : Z.Warmed39 s.vm) (eT : T.heap = h) (V : ownA Z h a .byte n f) (hj : j = Int32.ofNat i) (hi : i < n) (hv : f i = .int v)
    {g : JFrame} (hg : g.method = m) {rest : List Value} (hs : g.stack = .int j :: .ref a :: rest) (hd : decode c.code g.pc = .ok (.baload, 1)) :
    ∀ t, Steps p.tables e below (T.setTop { g with pc := g.pc + 1, stack := .int v :: rest }) t → Steps p.tables e below (T.setTop g) t := by
  obtain ⟨cl, A, S, q, H⟩ := V
  have hat : cl.slots[j.toNatClampNeg]? = some (.int v) := by rw [hj, own_n32 (by omega), ← hv]; exact (H i hi).1
  exact X.baloadBytes hx (j := j) (by rw [eT]; exact A.1) (State.isArrayOf_alike hZ.alike A.2.1) A.2.2 (own_in S q hj hi) hat hg hs hd
theorem own_alen {a : Addr} {ty : FieldType} {n : Nat} {f : Nat → Value} (X : Stand p l e R s m args below meth c T locs cells slots) (hx : p.tables.exec = Jvm.exec) (hZ : Z.Warmed39 s.vm) (eT : T.heap = h) (V : ownA Z h a ty n f)
    {g : JFrame} (hg : g.method = m) {rest : List Value} (hs : g.stack = .ref a :: rest) (hd : decode c.code g.pc = .ok (.arraylength, 1)) :
    ∀ t, Steps p.tables e below (T.setTop { g with pc := g.pc + 1, stack := .int (Int32.ofNat n) :: rest }) t → Steps p.tables e below (T.setTop g) t := by
  obtain ⟨cl, A, S, q, H⟩ := V
  intro t k
  refine X.arraylength hx (cell := cl) (by rw [eT]; exact A.1) (State.isArrayOf_alike hZ.alike A.2.1) hg hs hd t ?_
  rw [S]; exact k
theorem ownA.put {a : Addr} {ty : FieldType} {n i : Nat} {f : Nat → Value} {v : Value} (V : ownA Z h a ty n f) (W : Wr h h' a i v) (hv : fits ty v = true) : ownA Z h' a ty n (own_up f i v) := by
  obtain ⟨cl, A, S, q, H⟩ := V
  refine ⟨_, A.same W, by rw [sz_set]; exact S, q, fun k hk => ?_⟩
  by_cases z : k = i
  · subst z
    rw [own_up_hit]
    exact ⟨by simp [Cell.setSlot, S, hk], hv⟩
  · rw [own_up_miss z]
    refine ⟨?_, (H k hk).2⟩
    rw [← (H k hk).1]
    exact Array.getElem?_setIfInBounds_ne (Ne.symm z)
theorem own_iastore {a : Addr} {n i : Nat} {f : Nat → Value} {j x : Int32} (X : Stand p l e R s m args below meth c T locs cells slots) (hx : p.tables.exec = Jvm.exec) (hZ : Z.Warmed39 s.vm) (eT : T.heap = h) (V : ownA Z h a .int n f) (hj : j = Int32.ofNat i) (hi : i < n)
    {g : JFrame} (hg : g.method = m) {rest : List Value} (hs : g.stack = .int x :: .int j :: .ref a :: rest) (hd : decode c.code g.pc = .ok (.iastore, 1)) :
    ∃ T' h', Stand p l e R s m args below meth c T' (locs ++ [⟨a, i⟩]) cells slots ∧ T'.heap = h' ∧ Wr h h' a i (.int x) ∧ ownA Z h' a .int n (own_up f i (.int x)) ∧ ∀ t, Steps p.tables e below (T'.setTop { g with pc := g.pc + 1, stack := rest }) t → Steps p.tables e below (T.setTop g) t := by
  have V0 := V
  obtain ⟨cl, A, S, q, H⟩ := V
  obtain ⟨T', h', X', e', W', st⟩ := stI X hx hZ eT A (j := j) (own_in S q hj hi) hg hs hd
  have ej : j.toNatClampNeg = i := by rw [hj]; exact own_n32 (by omega)
  rw [ej] at X' W'
  exact ⟨T', h', X', e', W', V0.put W' rfl, st⟩
theorem own_lastore {a : Addr} {n i : Nat} {f : Nat → Value} {j : Int32} {x : Int64} (X : Stand p l e R s m args below meth c T locs cells slots) (hx : p.tables.exec = Jvm.exec) (hZ : Z.Warmed39 s.vm) (eT : T.heap = h) (V : ownA Z h a .long n f) (hj : j = Int32.ofNat i) (hi : i < n)
    {g : JFrame} (hg : g.method = m) {rest : List Value} (hs : g.stack = .long x :: .int j :: .ref a :: rest) (hd : decode c.code g.pc = .ok (.lastore, 1)) :
    ∃ T' h', Stand p l e R s m args below meth c T' (locs ++ [⟨a, i⟩]) cells slots ∧ T'.heap = h' ∧ Wr h h' a i (.long x) ∧ ownA Z h' a .long n (own_up f i (.long x)) ∧ ∀ t, Steps p.tables e below (T'.setTop { g with pc := g.pc + 1, stack := rest }) t → Steps p.tables e below (T.setTop g) t := by
  have V0 := V
  obtain ⟨cl, A, S, q, H⟩ := V
  obtain ⟨T', h', X', e', W', st⟩ := stJ X hx hZ eT A (j := j) (own_in S q hj hi) hg hs hd
  have ej : j.toNatClampNeg = i := by rw [hj]; exact own_n32 (by omega)
  rw [ej] at X' W'
  exact ⟨T', h', X', e', W', V0.put W' rfl, st⟩
theorem own_bastore {a : Addr} {n i : Nat} {f : Nat → Value} {j x : Int32} (X : Stand p l e R s m args below meth c T locs cells slots) (hx : p.tables.exec = Jvm.exec) (hZ : Z.Warmed39 s.vm) (eT : T.heap = h) (V : ownA Z h a .byte n f) (hj : j = Int32.ofNat i) (hi : i < n)
    {g : JFrame} (hg : g.method = m) {rest : List Value} (hs : g.stack = .int x :: .int j :: .ref a :: rest) (hd : decode c.code g.pc = .ok (.bastore, 1)) :
    ∃ T' h', Stand p l e R s m args below meth c T' (locs ++ [⟨a, i⟩]) cells slots ∧ T'.heap = h' ∧ Wr h h' a i (.int x.toInt8.toInt32) ∧ ownA Z h' a .byte n (own_up f i (.int x.toInt8.toInt32)) ∧ ∀ t, Steps p.tables e below (T'.setTop { g with pc := g.pc + 1, stack := rest }) t → Steps p.tables e below (T.setTop g) t := by
  have V0 := V
  obtain ⟨cl, A, S, q, H⟩ := V
  obtain ⟨T', h', X', e', W', st⟩ := stB X hx hZ eT A (j := j) (own_in S q hj hi) hg hs hd
  have ej : j.toNatClampNeg = i := by rw [hj]; exact own_n32 (by omega)
  rw [ej] at X' W'
  exact ⟨T', h', X', e', W', V0.put W' (fits_nar_byte _), st⟩
/-- newarray of n places, at most cap -/
theorem own_newarray {aty : ArrayType} (X : Stand p l e R s m args below meth c T locs cells slots) (hx : p.tables.exec = Jvm.exec) (hZ : Z.Warmed39 s.vm) (w : (Jvm.Cond.arrayClass (newarray.typeOf aty)).before a0 Z = true) (eT : T.heap = h) (n : Nat) (cap : Nat) (hn : n ≤ cap) (hb : cap * 8 ≤ 536870912) (hc : cells + 1 ≤ R.cells) (hl : slots + cap ≤ R.slots) {ad : String} (had : "[" ++ (newarray.typeOf aty).toString = ad) (d : fits (newarray.typeOf aty) (defaultValue (newarray.typeOf aty)) = true)
    {z : Int32} (hz : z = Int32.ofNat n) {g : JFrame} (hg : g.method = m) (hd : decode c.code g.pc = .ok (.newarray aty, 2)) {rest : List Value} (hs : g.stack = .int z :: rest) :
    ∃ T' h' b, Stand p l e R s m args below meth c T' locs (cells + 1) (slots + cap) ∧ T'.heap = h' ∧ Ext h h' ∧ ownA Z h' b (newarray.typeOf aty) n (fun _ => defaultValue (newarray.typeOf aty)) ∧ Exa Z h' b ad ∧ b = h.size ∧
      ∀ t, Steps p.tables e below (T'.setTop { g with pc := g.pc + 2, stack := .ref b :: rest }) t → Steps p.tables e below (T.setTop g) t := by
  have hn' : n < 2147483648 := by omega
  subst hz
  obtain ⟨T', h', k, X', e', E, A, Ex, st⟩ := newPE X hx hZ w eT hg hd hs (own_nn hn') (by rw [own_n32 hn']; exact hn) hb hc hl had
  exact ⟨T', h', _, X', e', E, ownA.new A hn' d, Ex, rfl, st⟩
end Core
theorem ownA.int {Z : State} {h : Heap} {a : Addr} {n i : Nat} {f : Nat → Value} (V : ownA Z h a .int n f) (hi : i < n) : ∃ v : Int32, f i = .int v := by
  obtain ⟨c, A, S, q, H⟩ := V
  have q := (H i hi).2
  generalize f i = w at q
  cases w <;> first | exact ⟨_, rfl⟩ | simp [fits] at q
theorem own_nn64 (y : Int64) : 0 ≤ y.toInt ↔ y.toBitVec.toNat < 2^63 := by
  have : y.toInt = y.toBitVec.toInt := rfl
  rw [this, BitVec.toInt_eq_toNat_cond]
  have := y.toBitVec.isLt
  split <;> omega
theorem own_lushr_bv (y : Int64) (q : Int32) : ∃ k : Nat, (own_lushr y q).toBitVec.toNat = y.toBitVec.toNat >>> k := by
  refine ⟨((q &&& 0x3f).toInt64.toUInt64.toBitVec.toNat % 64), ?_⟩
  simp [own_lushr]
theorem own_lushr_nn (y : Int64) (q : Int32) (h : 0 ≤ y.toInt) : 0 ≤ (own_lushr y q).toInt := by
  rw [own_nn64] at *
  obtain ⟨k, hk⟩ := own_lushr_bv y q
  rw [hk, Nat.shiftRight_eq_div_pow]
  exact Nat.lt_of_le_of_lt (Nat.div_le_self _ _) h
theorem d2_0 : decode method_3_code 0 = .ok (.lload_n 0, 1) := by decide +kernel
theorem d2_1 : decode method_3_code 1 = .ok (.ldc2_w 22, 3) := by decide +kernel
theorem d2_4 : decode method_3_code 4 = .ok (.lcmp, 1) := by decide +kernel
theorem d2_5 : decode method_3_code 5 = .ok (.ifCond .ge 5, 3) := by decide +kernel
theorem d2_8 : decode method_3_code 8 = .ok (.iconst 1, 1) := by decide +kernel
theorem d2_9 : decode method_3_code 9 = .ok (.ireturn, 1) := by decide +kernel
theorem d2_10 : decode method_3_code 10 = .ok (.lload_n 0, 1) := by decide +kernel
theorem d2_11 : decode method_3_code 11 = .ok (.ldc2_w 24, 3) := by decide +kernel
theorem d2_14 : decode method_3_code 14 = .ok (.lcmp, 1) := by decide +kernel
theorem d2_15 : decode method_3_code 15 = .ok (.ifCond .ge 5, 3) := by decide +kernel
theorem d2_18 : decode method_3_code 18 = .ok (.iconst 2, 1) := by decide +kernel
theorem d2_19 : decode method_3_code 19 = .ok (.ireturn, 1) := by decide +kernel
theorem d2_20 : decode method_3_code 20 = .ok (.lload_n 0, 1) := by decide +kernel
theorem d2_21 : decode method_3_code 21 = .ok (.ldc2_w 26, 3) := by decide +kernel
theorem d2_24 : decode method_3_code 24 = .ok (.lcmp, 1) := by decide +kernel
theorem d2_25 : decode method_3_code 25 = .ok (.ifCond .ge 5, 3) := by decide +kernel
theorem d2_28 : decode method_3_code 28 = .ok (.iconst 3, 1) := by decide +kernel
theorem d2_29 : decode method_3_code 29 = .ok (.ireturn, 1) := by decide +kernel
theorem d2_30 : decode method_3_code 30 = .ok (.lload_n 0, 1) := by decide +kernel
theorem d2_31 : decode method_3_code 31 = .ok (.ldc2_w 28, 3) := by decide +kernel
theorem d2_34 : decode method_3_code 34 = .ok (.lcmp, 1) := by decide +kernel
theorem d2_35 : decode method_3_code 35 = .ok (.ifCond .ge 5, 3) := by decide +kernel
theorem d2_38 : decode method_3_code 38 = .ok (.iconst 4, 1) := by decide +kernel
theorem d2_39 : decode method_3_code 39 = .ok (.ireturn, 1) := by decide +kernel
theorem d2_40 : decode method_3_code 40 = .ok (.lload_n 0, 1) := by decide +kernel
theorem d2_41 : decode method_3_code 41 = .ok (.ldc2_w 30, 3) := by decide +kernel
theorem d2_44 : decode method_3_code 44 = .ok (.lcmp, 1) := by decide +kernel
theorem d2_45 : decode method_3_code 45 = .ok (.ifCond .ge 5, 3) := by decide +kernel
theorem d2_48 : decode method_3_code 48 = .ok (.iconst 5, 1) := by decide +kernel
theorem d2_49 : decode method_3_code 49 = .ok (.ireturn, 1) := by decide +kernel
theorem d2_50 : decode method_3_code 50 = .ok (.lload_n 0, 1) := by decide +kernel
theorem d2_51 : decode method_3_code 51 = .ok (.ldc2_w 32, 3) := by decide +kernel
theorem d2_54 : decode method_3_code 54 = .ok (.lcmp, 1) := by decide +kernel
theorem d2_55 : decode method_3_code 55 = .ok (.ifCond .ge 6, 3) := by decide +kernel
theorem d2_58 : decode method_3_code 58 = .ok (.bipush 6, 2) := by decide +kernel
theorem d2_60 : decode method_3_code 60 = .ok (.ireturn, 1) := by decide +kernel
theorem d2_61 : decode method_3_code 61 = .ok (.lload_n 0, 1) := by decide +kernel
theorem d2_62 : decode method_3_code 62 = .ok (.ldc2_w 34, 3) := by decide +kernel
theorem d2_65 : decode method_3_code 65 = .ok (.lcmp, 1) := by decide +kernel
theorem d2_66 : decode method_3_code 66 = .ok (.ifCond .ge 6, 3) := by decide +kernel
theorem d2_69 : decode method_3_code 69 = .ok (.bipush 7, 2) := by decide +kernel
theorem d2_71 : decode method_3_code 71 = .ok (.ireturn, 1) := by decide +kernel
theorem d2_72 : decode method_3_code 72 = .ok (.lload_n 0, 1) := by decide +kernel
theorem d2_73 : decode method_3_code 73 = .ok (.ldc2_w 36, 3) := by decide +kernel
theorem d2_76 : decode method_3_code 76 = .ok (.lcmp, 1) := by decide +kernel
theorem d2_77 : decode method_3_code 77 = .ok (.ifCond .ge 6, 3) := by decide +kernel
theorem d2_80 : decode method_3_code 80 = .ok (.bipush 8, 2) := by decide +kernel
theorem d2_82 : decode method_3_code 82 = .ok (.ireturn, 1) := by decide +kernel
theorem d2_83 : decode method_3_code 83 = .ok (.bipush 9, 2) := by decide +kernel
theorem d2_85 : decode method_3_code 85 = .ok (.ireturn, 1) := by decide +kernel
abbrev R2 : Room := { frames := 0, cells := 0, slots := 0, locals := 0 }
def f2_0 (x0 : Int64) : Int32 := (if x0 < (128 : Int64) then (1 : Int32) else (if x0 < (16384 : Int64) then (2 : Int32) else (if x0 < (2097152 : Int64) then (3 : Int32) else (if x0 < (268435456 : Int64) then (4 : Int32) else (if x0 < (34359738368 : Int64) then (5 : Int32) else (if x0 < (4398046511104 : Int64) then (6 : Int32) else (if x0 < (562949953421312 : Int64) then (7 : Int32) else (if x0 < (72057594037927936 : Int64) then (8 : Int32) else (9 : Int32)))))))))
set_option maxRecDepth 65536 in
set_option maxHeartbeats 40000000 in
theorem b2_0 {p : Program} {l : Launch} {e : Env} {s : State} {m : MethodId} {args : Array Value} {below : List Frame} {meth : Method} {c : Code} {T0 : State} {locs : List Loc} {Z : State} {a0 : Array Value} {h0 : Heap} {n0 : Nat} (hx : p.tables.exec = Jvm.exec) (hZ : Z.Warmed39 s.vm) (hw : ∀ d ∈ tables_1, d.before a0 Z = true) (hby : c.code = method_3_code) (hml : c.maxLocals = 2) (hown : s.vm.findClass "com/example/oyster/oyster/engine/BytesVarintSizePinLaw" = some m.cls) (hret : meth.sig.returnType = (some .int)) (hlk : meth.locks = false) (X0 : Stand p l e R2 s m args below meth c T0 locs 0 0) (e0 : T0.heap = h0) (N0 : Fr n0 locs) (x0 : Int64) (r : Int32) (hr : r = f2_0 x0) :
    ownGo p.tables e below T0 (mkF m 0 #[.val (.long x0), .second] []) (ownDone s (ownPure (.int r) h0 n0) 0 0) := by
  have hr0 : r = (if x0 < (128 : Int64) then (1 : Int32) else (if x0 < (16384 : Int64) then (2 : Int32) else (if x0 < (2097152 : Int64) then (3 : Int32) else (if x0 < (268435456 : Int64) then (4 : Int32) else (if x0 < (34359738368 : Int64) then (5 : Int32) else (if x0 < (4398046511104 : Int64) then (6 : Int32) else (if x0 < (562949953421312 : Int64) then (7 : Int32) else (if x0 < (72057594037927936 : Int64) then (8 : Int32) else (9 : Int32))))))))) := hr
  refine ownGo.st (fun _ k => XS.lloadN X0.here hx rfl (hb hby d2_0) rfl k) ?_
  show ownGo p.tables e below T0 (mkF m 1 #[.val (.long x0), .second] [(.long x0)]) _
  refine ownGo.st (X0.ldc2Long hx hown (mvT hZ (own_at hw 9 rfl)) (g := (mkF m 1 #[.val (.long x0), .second] [(.long x0)])) rfl (hb hby d2_1)) ?_
  show ownGo p.tables e below T0 (mkF m 4 #[.val (.long x0), .second] [(.long (128 : Int64)), (.long x0)]) _
  refine ownGo.st (fun _ k => XS.lcmp X0.here hx rfl (hb hby d2_4) rfl k) ?_
  show ownGo p.tables e below T0 (mkF m 5 #[.val (.long x0), .second] [(.int (lcmpW x0 (128 : Int64)))]) _
  by_cases hc5 : x0 < (128 : Int64)
  · have hr1 := hr0.trans (if_pos hc5)
    refine ownGo.st (fun _ k => XS.ifNo X0.here hx rfl (hb hby d2_5) rfl ((if0 _ _).trans (tlt ((lw_lt _ _).mpr hc5)).2.1) k) ?_
    show ownGo p.tables e below T0 (mkF m 8 #[.val (.long x0), .second] []) _
    refine ownGo.st (fun _ k => XS.iconst X0.here hx rfl (hb hby d2_8)  k) ?_
    show ownGo p.tables e below T0 (mkF m 9 #[.val (.long x0), .second] [(.int (1 : Int32))]) _
    exact own_retI X0 hx hlk hret (hb hby d2_9) ⟨congrArg (fun z => some (Value.int z)) hr1.symm, N0, e0⟩ (Nat.le_refl _) (Nat.le_refl _)
  · have hr1 := hr0.trans (if_neg hc5)
    refine ownGo.st (fun _ k => XS.ifYes X0.here hx rfl (pc0 := 5) (pc' := 10) rfl (hb hby d2_5) rfl ((if0 _ _).trans (flt (fun q => hc5 ((lw_lt _ _).mp q))).2.1) (by decide) (by decide) k) ?_
    show ownGo p.tables e below T0 (mkF m 10 #[.val (.long x0), .second] []) _
    refine ownGo.st (fun _ k => XS.lloadN X0.here hx rfl (hb hby d2_10) rfl k) ?_
    show ownGo p.tables e below T0 (mkF m 11 #[.val (.long x0), .second] [(.long x0)]) _
    refine ownGo.st (X0.ldc2Long hx hown (mvT hZ (own_at hw 10 rfl)) (g := (mkF m 11 #[.val (.long x0), .second] [(.long x0)])) rfl (hb hby d2_11)) ?_
    show ownGo p.tables e below T0 (mkF m 14 #[.val (.long x0), .second] [(.long (16384 : Int64)), (.long x0)]) _
    refine ownGo.st (fun _ k => XS.lcmp X0.here hx rfl (hb hby d2_14) rfl k) ?_
    show ownGo p.tables e below T0 (mkF m 15 #[.val (.long x0), .second] [(.int (lcmpW x0 (16384 : Int64)))]) _
    by_cases hc15 : x0 < (16384 : Int64)
    · have hr2 := hr1.trans (if_pos hc15)
      refine ownGo.st (fun _ k => XS.ifNo X0.here hx rfl (hb hby d2_15) rfl ((if0 _ _).trans (tlt ((lw_lt _ _).mpr hc15)).2.1) k) ?_
      show ownGo p.tables e below T0 (mkF m 18 #[.val (.long x0), .second] []) _
      refine ownGo.st (fun _ k => XS.iconst X0.here hx rfl (hb hby d2_18)  k) ?_
      show ownGo p.tables e below T0 (mkF m 19 #[.val (.long x0), .second] [(.int (2 : Int32))]) _
      exact own_retI X0 hx hlk hret (hb hby d2_19) ⟨congrArg (fun z => some (Value.int z)) hr2.symm, N0, e0⟩ (Nat.le_refl _) (Nat.le_refl _)
    · have hr2 := hr1.trans (if_neg hc15)
      refine ownGo.st (fun _ k => XS.ifYes X0.here hx rfl (pc0 := 15) (pc' := 20) rfl (hb hby d2_15) rfl ((if0 _ _).trans (flt (fun q => hc15 ((lw_lt _ _).mp q))).2.1) (by decide) (by decide) k) ?_
      show ownGo p.tables e below T0 (mkF m 20 #[.val (.long x0), .second] []) _
      refine ownGo.st (fun _ k => XS.lloadN X0.here hx rfl (hb hby d2_20) rfl k) ?_
      show ownGo p.tables e below T0 (mkF m 21 #[.val (.long x0), .second] [(.long x0)]) _
      refine ownGo.st (X0.ldc2Long hx hown (mvT hZ (own_at hw 11 rfl)) (g := (mkF m 21 #[.val (.long x0), .second] [(.long x0)])) rfl (hb hby d2_21)) ?_
      show ownGo p.tables e below T0 (mkF m 24 #[.val (.long x0), .second] [(.long (2097152 : Int64)), (.long x0)]) _
      refine ownGo.st (fun _ k => XS.lcmp X0.here hx rfl (hb hby d2_24) rfl k) ?_
      show ownGo p.tables e below T0 (mkF m 25 #[.val (.long x0), .second] [(.int (lcmpW x0 (2097152 : Int64)))]) _
      by_cases hc25 : x0 < (2097152 : Int64)
      · have hr3 := hr2.trans (if_pos hc25)
        refine ownGo.st (fun _ k => XS.ifNo X0.here hx rfl (hb hby d2_25) rfl ((if0 _ _).trans (tlt ((lw_lt _ _).mpr hc25)).2.1) k) ?_
        show ownGo p.tables e below T0 (mkF m 28 #[.val (.long x0), .second] []) _
        refine ownGo.st (fun _ k => XS.iconst X0.here hx rfl (hb hby d2_28)  k) ?_
        show ownGo p.tables e below T0 (mkF m 29 #[.val (.long x0), .second] [(.int (3 : Int32))]) _
        exact own_retI X0 hx hlk hret (hb hby d2_29) ⟨congrArg (fun z => some (Value.int z)) hr3.symm, N0, e0⟩ (Nat.le_refl _) (Nat.le_refl _)
      · have hr3 := hr2.trans (if_neg hc25)
        refine ownGo.st (fun _ k => XS.ifYes X0.here hx rfl (pc0 := 25) (pc' := 30) rfl (hb hby d2_25) rfl ((if0 _ _).trans (flt (fun q => hc25 ((lw_lt _ _).mp q))).2.1) (by decide) (by decide) k) ?_
        show ownGo p.tables e below T0 (mkF m 30 #[.val (.long x0), .second] []) _
        refine ownGo.st (fun _ k => XS.lloadN X0.here hx rfl (hb hby d2_30) rfl k) ?_
        show ownGo p.tables e below T0 (mkF m 31 #[.val (.long x0), .second] [(.long x0)]) _
        refine ownGo.st (X0.ldc2Long hx hown (mvT hZ (own_at hw 12 rfl)) (g := (mkF m 31 #[.val (.long x0), .second] [(.long x0)])) rfl (hb hby d2_31)) ?_
        show ownGo p.tables e below T0 (mkF m 34 #[.val (.long x0), .second] [(.long (268435456 : Int64)), (.long x0)]) _
        refine ownGo.st (fun _ k => XS.lcmp X0.here hx rfl (hb hby d2_34) rfl k) ?_
        show ownGo p.tables e below T0 (mkF m 35 #[.val (.long x0), .second] [(.int (lcmpW x0 (268435456 : Int64)))]) _
        by_cases hc35 : x0 < (268435456 : Int64)
        · have hr4 := hr3.trans (if_pos hc35)
          refine ownGo.st (fun _ k => XS.ifNo X0.here hx rfl (hb hby d2_35) rfl ((if0 _ _).trans (tlt ((lw_lt _ _).mpr hc35)).2.1) k) ?_
          show ownGo p.tables e below T0 (mkF m 38 #[.val (.long x0), .second] []) _
          refine ownGo.st (fun _ k => XS.iconst X0.here hx rfl (hb hby d2_38)  k) ?_
          show ownGo p.tables e below T0 (mkF m 39 #[.val (.long x0), .second] [(.int (4 : Int32))]) _
          exact own_retI X0 hx hlk hret (hb hby d2_39) ⟨congrArg (fun z => some (Value.int z)) hr4.symm, N0, e0⟩ (Nat.le_refl _) (Nat.le_refl _)
        · have hr4 := hr3.trans (if_neg hc35)
          refine ownGo.st (fun _ k => XS.ifYes X0.here hx rfl (pc0 := 35) (pc' := 40) rfl (hb hby d2_35) rfl ((if0 _ _).trans (flt (fun q => hc35 ((lw_lt _ _).mp q))).2.1) (by decide) (by decide) k) ?_
          show ownGo p.tables e below T0 (mkF m 40 #[.val (.long x0), .second] []) _
          refine ownGo.st (fun _ k => XS.lloadN X0.here hx rfl (hb hby d2_40) rfl k) ?_
          show ownGo p.tables e below T0 (mkF m 41 #[.val (.long x0), .second] [(.long x0)]) _
          refine ownGo.st (X0.ldc2Long hx hown (mvT hZ (own_at hw 13 rfl)) (g := (mkF m 41 #[.val (.long x0), .second] [(.long x0)])) rfl (hb hby d2_41)) ?_
          show ownGo p.tables e below T0 (mkF m 44 #[.val (.long x0), .second] [(.long (34359738368 : Int64)), (.long x0)]) _
          refine ownGo.st (fun _ k => XS.lcmp X0.here hx rfl (hb hby d2_44) rfl k) ?_
          show ownGo p.tables e below T0 (mkF m 45 #[.val (.long x0), .second] [(.int (lcmpW x0 (34359738368 : Int64)))]) _
          by_cases hc45 : x0 < (34359738368 : Int64)
          · have hr5 := hr4.trans (if_pos hc45)
            refine ownGo.st (fun _ k => XS.ifNo X0.here hx rfl (hb hby d2_45) rfl ((if0 _ _).trans (tlt ((lw_lt _ _).mpr hc45)).2.1) k) ?_
            show ownGo p.tables e below T0 (mkF m 48 #[.val (.long x0), .second] []) _
            refine ownGo.st (fun _ k => XS.iconst X0.here hx rfl (hb hby d2_48)  k) ?_
            show ownGo p.tables e below T0 (mkF m 49 #[.val (.long x0), .second] [(.int (5 : Int32))]) _
            exact own_retI X0 hx hlk hret (hb hby d2_49) ⟨congrArg (fun z => some (Value.int z)) hr5.symm, N0, e0⟩ (Nat.le_refl _) (Nat.le_refl _)
          · have hr5 := hr4.trans (if_neg hc45)
            refine ownGo.st (fun _ k => XS.ifYes X0.here hx rfl (pc0 := 45) (pc' := 50) rfl (hb hby d2_45) rfl ((if0 _ _).trans (flt (fun q => hc45 ((lw_lt _ _).mp q))).2.1) (by decide) (by decide) k) ?_
            show ownGo p.tables e below T0 (mkF m 50 #[.val (.long x0), .second] []) _
            refine ownGo.st (fun _ k => XS.lloadN X0.here hx rfl (hb hby d2_50) rfl k) ?_
            show ownGo p.tables e below T0 (mkF m 51 #[.val (.long x0), .second] [(.long x0)]) _
            refine ownGo.st (X0.ldc2Long hx hown (mvT hZ (own_at hw 14 rfl)) (g := (mkF m 51 #[.val (.long x0), .second] [(.long x0)])) rfl (hb hby d2_51)) ?_
            show ownGo p.tables e below T0 (mkF m 54 #[.val (.long x0), .second] [(.long (4398046511104 : Int64)), (.long x0)]) _
            refine ownGo.st (fun _ k => XS.lcmp X0.here hx rfl (hb hby d2_54) rfl k) ?_
            show ownGo p.tables e below T0 (mkF m 55 #[.val (.long x0), .second] [(.int (lcmpW x0 (4398046511104 : Int64)))]) _
            by_cases hc55 : x0 < (4398046511104 : Int64)
            · have hr6 := hr5.trans (if_pos hc55)
              refine ownGo.st (fun _ k => XS.ifNo X0.here hx rfl (hb hby d2_55) rfl ((if0 _ _).trans (tlt ((lw_lt _ _).mpr hc55)).2.1) k) ?_
              show ownGo p.tables e below T0 (mkF m 58 #[.val (.long x0), .second] []) _
              refine ownGo.st (fun _ k => XS.bipush X0.here hx rfl (hb hby d2_58)  k) ?_
              show ownGo p.tables e below T0 (mkF m 60 #[.val (.long x0), .second] [(.int (6 : Int32))]) _
              exact own_retI X0 hx hlk hret (hb hby d2_60) ⟨congrArg (fun z => some (Value.int z)) hr6.symm, N0, e0⟩ (Nat.le_refl _) (Nat.le_refl _)
            · have hr6 := hr5.trans (if_neg hc55)
              refine ownGo.st (fun _ k => XS.ifYes X0.here hx rfl (pc0 := 55) (pc' := 61) rfl (hb hby d2_55) rfl ((if0 _ _).trans (flt (fun q => hc55 ((lw_lt _ _).mp q))).2.1) (by decide) (by decide) k) ?_
              show ownGo p.tables e below T0 (mkF m 61 #[.val (.long x0), .second] []) _
              refine ownGo.st (fun _ k => XS.lloadN X0.here hx rfl (hb hby d2_61) rfl k) ?_
              show ownGo p.tables e below T0 (mkF m 62 #[.val (.long x0), .second] [(.long x0)]) _
              refine ownGo.st (X0.ldc2Long hx hown (mvT hZ (own_at hw 15 rfl)) (g := (mkF m 62 #[.val (.long x0), .second] [(.long x0)])) rfl (hb hby d2_62)) ?_
              show ownGo p.tables e below T0 (mkF m 65 #[.val (.long x0), .second] [(.long (562949953421312 : Int64)), (.long x0)]) _
              refine ownGo.st (fun _ k => XS.lcmp X0.here hx rfl (hb hby d2_65) rfl k) ?_
              show ownGo p.tables e below T0 (mkF m 66 #[.val (.long x0), .second] [(.int (lcmpW x0 (562949953421312 : Int64)))]) _
              by_cases hc66 : x0 < (562949953421312 : Int64)
              · have hr7 := hr6.trans (if_pos hc66)
                refine ownGo.st (fun _ k => XS.ifNo X0.here hx rfl (hb hby d2_66) rfl ((if0 _ _).trans (tlt ((lw_lt _ _).mpr hc66)).2.1) k) ?_
                show ownGo p.tables e below T0 (mkF m 69 #[.val (.long x0), .second] []) _
                refine ownGo.st (fun _ k => XS.bipush X0.here hx rfl (hb hby d2_69)  k) ?_
                show ownGo p.tables e below T0 (mkF m 71 #[.val (.long x0), .second] [(.int (7 : Int32))]) _
                exact own_retI X0 hx hlk hret (hb hby d2_71) ⟨congrArg (fun z => some (Value.int z)) hr7.symm, N0, e0⟩ (Nat.le_refl _) (Nat.le_refl _)
              · have hr7 := hr6.trans (if_neg hc66)
                refine ownGo.st (fun _ k => XS.ifYes X0.here hx rfl (pc0 := 66) (pc' := 72) rfl (hb hby d2_66) rfl ((if0 _ _).trans (flt (fun q => hc66 ((lw_lt _ _).mp q))).2.1) (by decide) (by decide) k) ?_
                show ownGo p.tables e below T0 (mkF m 72 #[.val (.long x0), .second] []) _
                refine ownGo.st (fun _ k => XS.lloadN X0.here hx rfl (hb hby d2_72) rfl k) ?_
                show ownGo p.tables e below T0 (mkF m 73 #[.val (.long x0), .second] [(.long x0)]) _
                refine ownGo.st (X0.ldc2Long hx hown (mvT hZ (own_at hw 16 rfl)) (g := (mkF m 73 #[.val (.long x0), .second] [(.long x0)])) rfl (hb hby d2_73)) ?_
                show ownGo p.tables e below T0 (mkF m 76 #[.val (.long x0), .second] [(.long (72057594037927936 : Int64)), (.long x0)]) _
                refine ownGo.st (fun _ k => XS.lcmp X0.here hx rfl (hb hby d2_76) rfl k) ?_
                show ownGo p.tables e below T0 (mkF m 77 #[.val (.long x0), .second] [(.int (lcmpW x0 (72057594037927936 : Int64)))]) _
                by_cases hc77 : x0 < (72057594037927936 : Int64)
                · have hr8 := hr7.trans (if_pos hc77)
                  refine ownGo.st (fun _ k => XS.ifNo X0.here hx rfl (hb hby d2_77) rfl ((if0 _ _).trans (tlt ((lw_lt _ _).mpr hc77)).2.1) k) ?_
                  show ownGo p.tables e below T0 (mkF m 80 #[.val (.long x0), .second] []) _
                  refine ownGo.st (fun _ k => XS.bipush X0.here hx rfl (hb hby d2_80)  k) ?_
                  show ownGo p.tables e below T0 (mkF m 82 #[.val (.long x0), .second] [(.int (8 : Int32))]) _
                  exact own_retI X0 hx hlk hret (hb hby d2_82) ⟨congrArg (fun z => some (Value.int z)) hr8.symm, N0, e0⟩ (Nat.le_refl _) (Nat.le_refl _)
                · have hr8 := hr7.trans (if_neg hc77)
                  refine ownGo.st (fun _ k => XS.ifYes X0.here hx rfl (pc0 := 77) (pc' := 83) rfl (hb hby d2_77) rfl ((if0 _ _).trans (flt (fun q => hc77 ((lw_lt _ _).mp q))).2.1) (by decide) (by decide) k) ?_
                  show ownGo p.tables e below T0 (mkF m 83 #[.val (.long x0), .second] []) _
                  refine ownGo.st (fun _ k => XS.bipush X0.here hx rfl (hb hby d2_83)  k) ?_
                  show ownGo p.tables e below T0 (mkF m 85 #[.val (.long x0), .second] [(.int (9 : Int32))]) _
                  exact own_retI X0 hx hlk hret (hb hby d2_85) ⟨congrArg (fun z => some (Value.int z)) hr8.symm, N0, e0⟩ (Nat.le_refl _) (Nat.le_refl _)
abbrev F2 (x0 : Int64) : Int32 := f2_0 x0
theorem pn_2 : plainName "com/example/oyster/oyster/engine/BytesVarintSizePinLaw" = true := by first | (simp [plainName, overriddenIn]; done) | decide +kernel
theorem ef_2 (m : MethodId) (x0 : Int64) : entryFrame m #[(.long x0)] 2 = mkF m 0 #[.val (.long x0), .second] [] := by first | (simp [entryFrame, mkF, argsToLocals, Value.category]; done) | rfl
set_option maxRecDepth 65536 in
set_option maxHeartbeats 40000000 in
theorem rm2 (l : Launch) (Z : State) (a0 : Array Value) (hw : ∀ d ∈ tables_1, d.before a0 Z = true) (x0 : Int64) (h0 : Heap) (n0 : Nat)  :
    MetFree l (⟨"com/example/oyster/oyster/engine/BytesVarintSizePinLaw", "expected", "(J)I"⟩ : MethodName) (head1 [Jvm.Cond.code (⟨"com/example/oyster/oyster/engine/BytesVarintSizePinLaw", "expected", "(J)I"⟩ : MethodName) method_3_code 2 (some .int)] R2) (fun a U => a = #[(.long x0)] ∧ Z.Warmed39 U.vm ∧ U.heap = h0) (fun _ _ _ _ _ => True) (fun _ U o U' => ∃ v L, o = .returned v ∧ ownPure (.int (F2 x0)) h0 n0 v U'.heap L ∧ FrameEnd U o U' L R2.cells R2.slots) := by
  refine MetFree.of_bodySF (plainFor_of_name pn_2) hisR ?_
  intro p e s m args below meth c s₁ Bd hml0 hP hK
  obtain ⟨rfl, hZ, hh⟩ := hP
  have hx := Bd.exec
  have hby := Bd.bytes
  have hml : c.maxLocals = 2 := hml0
  have hown : s.vm.findClass "com/example/oyster/oyster/engine/BytesVarintSizePinLaw" = some m.cls := findClass_of_methodNamed Bd.named
  have hnm := (name_of_methodNamed Bd.named Bd.method).1
  have hret := Bd.returns
  have hlk : meth.locks = false := BodyLoose.notSynchronized Bd
  have X0 : Stand p l e R2 s m #[(.long x0)] below meth c s₁ [] 0 0 := Stand.of_body Bd
  have e0 : s₁.heap = h0 := by rw [← hh, Bd.state]; rfl
  have N0 := Fr.nil n0
  show ownGo p.tables e below s₁ (entryFrame m #[(.long x0)] 2) (ownDone s (ownPure (.int (F2 x0)) h0 n0) R2.cells R2.slots)
  rw [ef_2 m x0]
  exact b2_0 hx hZ hw hby hml hown hret hlk X0 e0 N0 x0 _ rfl
theorem own_s7 (u : Int64) (h : 0 ≤ u.toInt) : (own_lushr u (7 : Int32)).toInt = u.toInt / 128 := by
  have q := c_lushr u 7 7 (by decide) (by decide)
  have r := u.toInt_lt
  rw [q, show ((2 ^ 7 : Nat) : Int) = 128 from rfl]
  omega
def own_cnt : Nat → Int32 → Int64 → Int32
  | 0, n, _ => n
  | k + 1, n, u => if u = 0 then n else own_cnt k (n + 1) (own_lushr u (7 : Int32))
set_option maxHeartbeats 4000000 in
theorem own_same (v : Int64) (h : 0 ≤ v.toInt) : own_cnt 8 1 (own_lushr v (7 : Int32)) = F2 v := by
  have r := v.toInt_lt
  have h1 := own_s7 v h
  generalize own_lushr v (7 : Int32) = u1 at h1
  have h2 : (own_lushr u1 7).toInt = v.toInt / 16384 := by have q := own_s7 u1 (by omega); omega
  have h3 : (own_lushr (own_lushr u1 7) 7).toInt = v.toInt / 2097152 := by have q := own_s7 (own_lushr u1 7) (by omega); omega
  have h4 : (own_lushr (own_lushr (own_lushr u1 7) 7) 7).toInt = v.toInt / 268435456 := by have q := own_s7 (own_lushr (own_lushr u1 7) 7) (by omega); omega
  have h5 : (own_lushr (own_lushr (own_lushr (own_lushr u1 7) 7) 7) 7).toInt = v.toInt / 34359738368 := by have q := own_s7 (own_lushr (own_lushr (own_lushr u1 7) 7) 7) (by omega); omega
  have h6 : (own_lushr (own_lushr (own_lushr (own_lushr (own_lushr u1 7) 7) 7) 7) 7).toInt = v.toInt / 4398046511104 := by have q := own_s7 (own_lushr (own_lushr (own_lushr (own_lushr u1 7) 7) 7) 7) (by omega); omega
  have h7 : (own_lushr (own_lushr (own_lushr (own_lushr (own_lushr (own_lushr u1 7) 7) 7) 7) 7) 7).toInt = v.toInt / 562949953421312 := by have q := own_s7 (own_lushr (own_lushr (own_lushr (own_lushr (own_lushr u1 7) 7) 7) 7) 7) (by omega); omega
  have h8 : (own_lushr (own_lushr (own_lushr (own_lushr (own_lushr (own_lushr (own_lushr u1 7) 7) 7) 7) 7) 7) 7).toInt = v.toInt / 72057594037927936 := by have q := own_s7 (own_lushr (own_lushr (own_lushr (own_lushr (own_lushr (own_lushr u1 7) 7) 7) 7) 7) 7) (by omega); omega
  rw [show F2 v = f2_0 v from rfl]
  show (if u1 = 0 then (1 : Int32) else if own_lushr u1 7 = 0 then (2 : Int32) else if own_lushr (own_lushr u1 7) 7 = 0 then (3 : Int32) else if own_lushr (own_lushr (own_lushr u1 7) 7) 7 = 0 then (4 : Int32) else if own_lushr (own_lushr (own_lushr (own_lushr u1 7) 7) 7) 7 = 0 then (5 : Int32) else if own_lushr (own_lushr (own_lushr (own_lushr (own_lushr u1 7) 7) 7) 7) 7 = 0 then (6 : Int32) else if own_lushr (own_lushr (own_lushr (own_lushr (own_lushr (own_lushr u1 7) 7) 7) 7) 7) 7 = 0 then (7 : Int32) else if own_lushr (own_lushr (own_lushr (own_lushr (own_lushr (own_lushr (own_lushr u1 7) 7) 7) 7) 7) 7) 7 = 0 then (8 : Int32) else (9 : Int32)) = (if v < (128 : Int64) then (1 : Int32) else (if v < (16384 : Int64) then (2 : Int32) else (if v < (2097152 : Int64) then (3 : Int32) else (if v < (268435456 : Int64) then (4 : Int32) else (if v < (34359738368 : Int64) then (5 : Int32) else (if v < (4398046511104 : Int64) then (6 : Int32) else (if v < (562949953421312 : Int64) then (7 : Int32) else (if v < (72057594037927936 : Int64) then (8 : Int32) else (9 : Int32)))))))))
  generalize own_lushr (own_lushr (own_lushr (own_lushr (own_lushr (own_lushr (own_lushr u1 7) 7) 7) 7) 7) 7) 7 = u8 at *
  generalize own_lushr (own_lushr (own_lushr (own_lushr (own_lushr (own_lushr u1 7) 7) 7) 7) 7) 7 = u7 at *
  generalize own_lushr (own_lushr (own_lushr (own_lushr (own_lushr u1 7) 7) 7) 7) 7 = u6 at *
  generalize own_lushr (own_lushr (own_lushr (own_lushr u1 7) 7) 7) 7 = u5 at *
  generalize own_lushr (own_lushr (own_lushr u1 7) 7) 7 = u4 at *
  generalize own_lushr (own_lushr u1 7) 7 = u3 at *
  generalize own_lushr u1 7 = u2 at *
  simp only [Int64.lt_iff_toInt_lt, ← Int64.toInt_inj, show (0 : Int64).toInt = 0 from rfl, show (128 : Int64).toInt = 128 from rfl, show (16384 : Int64).toInt = 16384 from rfl, show (2097152 : Int64).toInt = 2097152 from rfl, show (268435456 : Int64).toInt = 268435456 from rfl, show (34359738368 : Int64).toInt = 34359738368 from rfl, show (4398046511104 : Int64).toInt = 4398046511104 from rfl, show (562949953421312 : Int64).toInt = 562949953421312 from rfl, show (72057594037927936 : Int64).toInt = 72057594037927936 from rfl]
  repeat' split
  all_goals first | rfl | (exfalso; omega)
theorem d1_0 : decode prog_6_method_2_code 0 = .ok (.iconst 1, 1) := by decide +kernel
theorem d1_1 : decode prog_6_method_2_code 1 = .ok (.istore_n 2, 1) := by decide +kernel
theorem d1_2 : decode prog_6_method_2_code 2 = .ok (.lload_n 0, 1) := by decide +kernel
theorem d1_3 : decode prog_6_method_2_code 3 = .ok (.bipush 7, 2) := by decide +kernel
theorem d1_5 : decode prog_6_method_2_code 5 = .ok (.lushr, 1) := by decide +kernel
theorem d1_6 : decode prog_6_method_2_code 6 = .ok (.lstore_n 3, 1) := by decide +kernel
theorem d1_7 : decode prog_6_method_2_code 7 = .ok (.lload_n 3, 1) := by decide +kernel
theorem d1_8 : decode prog_6_method_2_code 8 = .ok (.lconst 0, 1) := by decide +kernel
theorem d1_9 : decode prog_6_method_2_code 9 = .ok (.lcmp, 1) := by decide +kernel
theorem d1_10 : decode prog_6_method_2_code 10 = .ok (.ifCond .eq 14, 3) := by decide +kernel
theorem d1_13 : decode prog_6_method_2_code 13 = .ok (.iinc 2 1, 3) := by decide +kernel
theorem d1_16 : decode prog_6_method_2_code 16 = .ok (.lload_n 3, 1) := by decide +kernel
theorem d1_17 : decode prog_6_method_2_code 17 = .ok (.bipush 7, 2) := by decide +kernel
theorem d1_19 : decode prog_6_method_2_code 19 = .ok (.lushr, 1) := by decide +kernel
theorem d1_20 : decode prog_6_method_2_code 20 = .ok (.lstore_n 3, 1) := by decide +kernel
theorem d1_21 : decode prog_6_method_2_code 21 = .ok (.goto (-14), 3) := by decide +kernel
theorem d1_24 : decode prog_6_method_2_code 24 = .ok (.iload_n 2, 1) := by decide +kernel
theorem d1_25 : decode prog_6_method_2_code 25 = .ok (.ireturn, 1) := by decide +kernel
abbrev R1 : Room := { frames := 0, cells := 0, slots := 0, locals := 0 }
set_option maxRecDepth 65536 in
set_option maxHeartbeats 40000000 in
theorem own_loop1 {p : Program} {l : Launch} {e : Env} {s : State} {m : MethodId} {args : Array Value} {below : List Frame} {meth : Method} {c : Code} {T0 : State} {locs : List Loc} {Z : State} {a0 : Array Value} {h0 : Heap} {n0 : Nat} (hx : p.tables.exec = Jvm.exec) (hZ : Z.Warmed39 s.vm) (hw : ∀ d ∈ tables_1, d.before a0 Z = true) (hby : c.code = prog_6_method_2_code) (hml : c.maxLocals = 5) (hown : s.vm.findClass "com/example/oyster/oyster/engine/Bytes" = some m.cls) (hret : meth.sig.returnType = (some .int)) (hlk : meth.locks = false) (X0 : Stand p l e R1 s m args below meth c T0 locs 0 0) (e0 : T0.heap = h0) (N0 : Fr n0 locs) (x0 : Int64) (r : Int32) :
    ∀ (k : Nat) (n : Int32) (u : Int64), 0 ≤ u.toInt → u.toInt < ((128 ^ k : Nat) : Int) → r = own_cnt k n u → ownGo p.tables e below T0 (mkF m 7 #[.val (.long x0), .second, .val (.int n), .val (.long u), .second] []) (ownDone s (ownPure (.int r) h0 n0) 0 0) := by
  intro k
  induction k with
  | zero =>
    intro n u h0u hk hr
    have hr : r = n := hr
    refine ownGo.st (fun _ k => XS.lloadN X0.here hx rfl (hb hby d1_7) rfl k) ?_
    show ownGo p.tables e below T0 (mkF m 8 #[.val (.long x0), .second, .val (.int n), .val (.long u), .second] [(.long u)]) _
    refine ownGo.st (fun _ k => XS.lconst X0.here hx rfl (hb hby d1_8)  k) ?_
    show ownGo p.tables e below T0 (mkF m 9 #[.val (.long x0), .second, .val (.int n), .val (.long u), .second] [(.long (0 : Int64)), (.long u)]) _
    refine ownGo.st (fun _ k => XS.lcmp X0.here hx rfl (hb hby d1_9) rfl k) ?_
    show ownGo p.tables e below T0 (mkF m 10 #[.val (.long x0), .second, .val (.int n), .val (.long u), .second] [(.int (lcmpW u (0 : Int64)))]) _
    have hc9 : u = (0 : Int64) := Int64.toInt_inj.mp (by rw [show (0 : Int64).toInt = 0 from rfl]; simp only [Nat.pow_zero] at hk; omega)
    refine ownGo.st (fun _ k => XS.ifYes X0.here hx rfl (pc0 := 10) (pc' := 24) rfl (hb hby d1_10) rfl ((if0 _ _).trans (teq ((lw_eq _ _).mpr hc9)).1) (by decide) (by decide) k) ?_
    show ownGo p.tables e below T0 (mkF m 24 #[.val (.long x0), .second, .val (.int n), .val (.long u), .second] []) _
    refine ownGo.st (fun _ k => XS.iloadN X0.here hx rfl (hb hby d1_24) rfl k) ?_
    show ownGo p.tables e below T0 (mkF m 25 #[.val (.long x0), .second, .val (.int n), .val (.long u), .second] [(.int n)]) _
    exact own_retI X0 hx hlk hret (hb hby d1_25) ⟨congrArg (fun z => some (Value.int z)) hr.symm, N0, e0⟩ (Nat.le_refl _) (Nat.le_refl _)
  | succ k ih =>
    intro n u h0u hk hr
    refine ownGo.st (fun _ k => XS.lloadN X0.here hx rfl (hb hby d1_7) rfl k) ?_
    show ownGo p.tables e below T0 (mkF m 8 #[.val (.long x0), .second, .val (.int n), .val (.long u), .second] [(.long u)]) _
    refine ownGo.st (fun _ k => XS.lconst X0.here hx rfl (hb hby d1_8)  k) ?_
    show ownGo p.tables e below T0 (mkF m 9 #[.val (.long x0), .second, .val (.int n), .val (.long u), .second] [(.long (0 : Int64)), (.long u)]) _
    refine ownGo.st (fun _ k => XS.lcmp X0.here hx rfl (hb hby d1_9) rfl k) ?_
    show ownGo p.tables e below T0 (mkF m 10 #[.val (.long x0), .second, .val (.int n), .val (.long u), .second] [(.int (lcmpW u (0 : Int64)))]) _
    by_cases hq : u = (0 : Int64)
    · have hr : r = n := hr.trans (if_pos hq)
      refine ownGo.st (fun _ k => XS.ifYes X0.here hx rfl (pc0 := 10) (pc' := 24) rfl (hb hby d1_10) rfl ((if0 _ _).trans (teq ((lw_eq _ _).mpr hq)).1) (by decide) (by decide) k) ?_
      show ownGo p.tables e below T0 (mkF m 24 #[.val (.long x0), .second, .val (.int n), .val (.long u), .second] []) _
      refine ownGo.st (fun _ k => XS.iloadN X0.here hx rfl (hb hby d1_24) rfl k) ?_
      show ownGo p.tables e below T0 (mkF m 25 #[.val (.long x0), .second, .val (.int n), .val (.long u), .second] [(.int n)]) _
      exact own_retI X0 hx hlk hret (hb hby d1_25) ⟨congrArg (fun z => some (Value.int z)) hr.symm, N0, e0⟩ (Nat.le_refl _) (Nat.le_refl _)
    · have hr := hr.trans (if_neg hq)
      refine ownGo.st (fun _ k => XS.ifNo X0.here hx rfl (hb hby d1_10) rfl ((if0 _ _).trans (feq (fun q => hq ((lw_eq _ _).mp q))).1) k) ?_
      show ownGo p.tables e below T0 (mkF m 13 #[.val (.long x0), .second, .val (.int n), .val (.long u), .second] []) _
      refine ownGo.st (fun _ k => XS.iinc X0.here hx rfl (hb hby d1_13) rfl (l' := #[.val (.long x0), .second, .val (.int (n + (1 : Int32))), .val (.long u), .second]) rfl k) ?_
      show ownGo p.tables e below T0 (mkF m 16 #[.val (.long x0), .second, .val (.int (n + (1 : Int32))), .val (.long u), .second] []) _
      refine ownGo.st (fun _ k => XS.lloadN X0.here hx rfl (hb hby d1_16) rfl k) ?_
      show ownGo p.tables e below T0 (mkF m 17 #[.val (.long x0), .second, .val (.int (n + (1 : Int32))), .val (.long u), .second] [(.long u)]) _
      refine ownGo.st (fun _ k => XS.bipush X0.here hx rfl (hb hby d1_17)  k) ?_
      show ownGo p.tables e below T0 (mkF m 19 #[.val (.long x0), .second, .val (.int (n + (1 : Int32))), .val (.long u), .second] [(.int (7 : Int32)), (.long u)]) _
      refine ownGo.st (fun _ k => XS.lushr X0.here hx rfl (hb hby d1_19) rfl k) ?_
      show ownGo p.tables e below T0 (mkF m 20 #[.val (.long x0), .second, .val (.int (n + (1 : Int32))), .val (.long u), .second] [(.long (own_lushr u (7 : Int32)))]) _
      refine ownGo.st (fun _ k => XS.lstoreN X0.here hx rfl (hb hby d1_20) rfl (l' := #[.val (.long x0), .second, .val (.int (n + (1 : Int32))), .val (.long (own_lushr u (7 : Int32))), .second]) rfl k) ?_
      show ownGo p.tables e below T0 (mkF m 21 #[.val (.long x0), .second, .val (.int (n + (1 : Int32))), .val (.long (own_lushr u (7 : Int32))), .second] []) _
      refine ownGo.st (fun _ k => XS.goto X0.here hx rfl (pc0 := 21) (pc' := 7) rfl (hb hby d1_21) (by decide) (by decide) k) ?_
      show ownGo p.tables e below T0 (mkF m 7 #[.val (.long x0), .second, .val (.int (n + (1 : Int32))), .val (.long (own_lushr u (7 : Int32))), .second] []) _
      refine ih _ _ (own_lushr_nn _ _ h0u) ?_ hr
      rw [own_s7 u h0u]
      rw [Nat.pow_succ] at hk
      omega
abbrev F1 (v : Int64) : Int32 := own_cnt 8 1 (own_lushr v (7 : Int32))
theorem pn_1 : plainName "com/example/oyster/oyster/engine/Bytes" = true := by first | (simp [plainName, overriddenIn]; done) | decide +kernel
theorem ef_1 (m : MethodId) (x0 : Int64) : entryFrame m #[(.long x0)] 5 = mkF m 0 #[.val (.long x0), .second, .unset, .unset, .unset] [] := by first | (simp [entryFrame, mkF, argsToLocals, Value.category]; done) | rfl
set_option maxRecDepth 65536 in
set_option maxHeartbeats 40000000 in
theorem rm1 (l : Launch) (Z : State) (a0 : Array Value) (hw : ∀ d ∈ tables_1, d.before a0 Z = true) (x0 : Int64) (h0 : Heap) (n0 : Nat) (hv : 0 ≤ x0.toInt) :
    MetFree l (⟨"com/example/oyster/oyster/engine/Bytes", "varintSize", "(J)I"⟩ : MethodName) (head1 [Jvm.Cond.code (⟨"com/example/oyster/oyster/engine/Bytes", "varintSize", "(J)I"⟩ : MethodName) prog_6_method_2_code 5 (some .int)] R1) (fun a U => a = #[(.long x0)] ∧ Z.Warmed39 U.vm ∧ U.heap = h0) (fun _ _ _ _ _ => True) (fun _ U o U' => ∃ v L, o = .returned v ∧ ownPure (.int (F1 x0)) h0 n0 v U'.heap L ∧ FrameEnd U o U' L R1.cells R1.slots) := by
  refine MetFree.of_bodySF (plainFor_of_name pn_1) hisR ?_
  intro p e s m args below meth c s₁ Bd hml0 hP hK
  obtain ⟨rfl, hZ, hh⟩ := hP
  have hx := Bd.exec
  have hby := Bd.bytes
  have hml : c.maxLocals = 5 := hml0
  have hown : s.vm.findClass "com/example/oyster/oyster/engine/Bytes" = some m.cls := findClass_of_methodNamed Bd.named
  have hnm := (name_of_methodNamed Bd.named Bd.method).1
  have hret := Bd.returns
  have hlk : meth.locks = false := BodyLoose.notSynchronized Bd
  have X0 : Stand p l e R1 s m #[(.long x0)] below meth c s₁ [] 0 0 := Stand.of_body Bd
  have e0 : s₁.heap = h0 := by rw [← hh, Bd.state]; rfl
  have N0 := Fr.nil n0
  show ownGo p.tables e below s₁ (entryFrame m #[(.long x0)] 5) (ownDone s (ownPure (.int (F1 x0)) h0 n0) R1.cells R1.slots)
  rw [ef_1 m x0]
  show ownGo p.tables e below s₁ (mkF m 0 #[.val (.long x0), .second, .unset, .unset, .unset] []) _
  refine ownGo.st (fun _ k => XS.iconst X0.here hx rfl (hb hby d1_0)  k) ?_
  show ownGo p.tables e below s₁ (mkF m 1 #[.val (.long x0), .second, .unset, .unset, .unset] [(.int (1 : Int32))]) _
  refine ownGo.st (fun _ k => XS.istoreN X0.here hx rfl (hb hby d1_1) rfl (l' := #[.val (.long x0), .second, .val (.int (1 : Int32)), .unset, .unset]) rfl k) ?_
  show ownGo p.tables e below s₁ (mkF m 2 #[.val (.long x0), .second, .val (.int (1 : Int32)), .unset, .unset] []) _
  refine ownGo.st (fun _ k => XS.lloadN X0.here hx rfl (hb hby d1_2) rfl k) ?_
  show ownGo p.tables e below s₁ (mkF m 3 #[.val (.long x0), .second, .val (.int (1 : Int32)), .unset, .unset] [(.long x0)]) _
  refine ownGo.st (fun _ k => XS.bipush X0.here hx rfl (hb hby d1_3)  k) ?_
  show ownGo p.tables e below s₁ (mkF m 5 #[.val (.long x0), .second, .val (.int (1 : Int32)), .unset, .unset] [(.int (7 : Int32)), (.long x0)]) _
  refine ownGo.st (fun _ k => XS.lushr X0.here hx rfl (hb hby d1_5) rfl k) ?_
  show ownGo p.tables e below s₁ (mkF m 6 #[.val (.long x0), .second, .val (.int (1 : Int32)), .unset, .unset] [(.long (own_lushr x0 (7 : Int32)))]) _
  refine ownGo.st (fun _ k => XS.lstoreN X0.here hx rfl (hb hby d1_6) rfl (l' := #[.val (.long x0), .second, .val (.int (1 : Int32)), .val (.long (own_lushr x0 (7 : Int32))), .second]) rfl k) ?_
  show ownGo p.tables e below s₁ (mkF m 7 #[.val (.long x0), .second, .val (.int (1 : Int32)), .val (.long (own_lushr x0 (7 : Int32))), .second] []) _
  exact own_loop1 hx hZ hw hby hml hown hret hlk X0 e0 N0 x0 _ 8 (1 : Int32) _ (own_lushr_nn _ _ hv) (by rw [own_s7 x0 hv]; have := x0.toInt_lt; omega) rfl
def Q0 (n0 : Nat) (v : Option Value) (h : Heap) (L : List Loc) : Prop := v = some (.int 1) ∧ Fr n0 L
theorem pd__J_I : parseMethodDescriptor "(J)I" = some ⟨[.long], some .int⟩ := by decide +kernel
theorem pn_0 : plainName "com/example/oyster/oyster/engine/BytesVarintSizePinLaw" = true := by first | (simp [plainName, overriddenIn]; done) | decide +kernel
theorem ef_0 (m : MethodId) (x0 : Int64) (x1 : Int32) : entryFrame m #[(.long x0), (.int x1)] maxLocals = mkF m 0 #[.val (.long x0), .second, .val (.int x1), .unset, .unset] [] := by first | (simp [entryFrame, mkF, argsToLocals, Value.category, maxLocals]; done) | rfl
set_option maxRecDepth 65536 in
set_option maxHeartbeats 40000000 in
theorem rm0 (l : Launch) (Z : State) (a0 : Array Value) (hw : ∀ d ∈ tables_1, d.before a0 Z = true) (x0 : Int64) (x1 : Int32) (h0 : Heap) (n0 : Nat) (Z0 : n0 ≤ h0.size) :
    MetFree l x (head1 (Jvm.Cond.code x code maxLocals ret :: tables_1) room_1) (fun a U => a = #[(.long x0), (.int x1)] ∧ Z.Warmed39 U.vm ∧ U.heap = h0) (fun _ _ _ _ _ => True) (fun _ U o U' => ∃ v L, o = .returned v ∧ Q0 n0 v U'.heap L ∧ FrameEnd U o U' L room_1.cells room_1.slots) := by
  refine MetFree.of_bodySF (plainFor_of_name pn_0) hisR ?_
  intro p e s m args below meth c s₁ Bd hml0 hP hK
  obtain ⟨rfl, hZ, hh⟩ := hP
  have hx := Bd.exec
  have hby := Bd.bytes
  have hml : c.maxLocals = 5 := hml0
  have hown : s.vm.findClass "com/example/oyster/oyster/engine/BytesVarintSizePinLaw" = some m.cls := findClass_of_methodNamed Bd.named
  have hnm := (name_of_methodNamed Bd.named Bd.method).1
  have hret := Bd.returns
  have hlk : meth.locks = false := BodyLoose.notSynchronized Bd
  have X0 : Stand p l e room_1 s m #[(.long x0), (.int x1)] below meth c s₁ [] 0 0 := Stand.of_body Bd
  have e0 : s₁.heap = h0 := by rw [← hh, Bd.state]; rfl
  have N0 := Fr.nil n0
  show ownGo p.tables e below s₁ (entryFrame m #[(.long x0), (.int x1)] maxLocals) (ownDone s (Q0 n0) room_1.cells room_1.slots)
  rw [ef_0 m x0 x1]
  show ownGo p.tables e below s₁ (mkF m 0 #[.val (.long x0), .second, .val (.int x1), .unset, .unset] []) _
  refine ownGo.st (fun _ k => XS.lloadN X0.here hx rfl (hb hby at_0) rfl k) ?_
  show ownGo p.tables e below s₁ (mkF m 1 #[.val (.long x0), .second, .val (.int x1), .unset, .unset] [(.long x0)]) _
  refine ownGo.st (X0.ldc2Long hx hown (mvT hZ (own_at hw 0 rfl)) (g := (mkF m 1 #[.val (.long x0), .second, .val (.int x1), .unset, .unset] [(.long x0)])) rfl (hb hby at_1)) ?_
  show ownGo p.tables e below s₁ (mkF m 4 #[.val (.long x0), .second, .val (.int x1), .unset, .unset] [(.long (9223372036854775807 : Int64)), (.long x0)]) _
  refine ownGo.st (fun _ k => XS.land X0.here hx rfl (hb hby at_4) rfl k) ?_
  show ownGo p.tables e below s₁ (mkF m 5 #[.val (.long x0), .second, .val (.int x1), .unset, .unset] [(.long (x0 &&& (9223372036854775807 : Int64)))]) _
  refine ownGo.st (fun _ k => XS.iloadN X0.here hx rfl (hb hby at_5) rfl k) ?_
  show ownGo p.tables e below s₁ (mkF m 6 #[.val (.long x0), .second, .val (.int x1), .unset, .unset] [(.int x1), (.long (x0 &&& (9223372036854775807 : Int64)))]) _
  refine ownGo.st (fun _ k => XS.bipush X0.here hx rfl (hb hby at_6)  k) ?_
  show ownGo p.tables e below s₁ (mkF m 8 #[.val (.long x0), .second, .val (.int x1), .unset, .unset] [(.int (63 : Int32)), (.int x1), (.long (x0 &&& (9223372036854775807 : Int64)))]) _
  refine ownGo.st (fun _ k => XS.iand X0.here hx rfl (hb hby at_8) rfl k) ?_
  show ownGo p.tables e below s₁ (mkF m 9 #[.val (.long x0), .second, .val (.int x1), .unset, .unset] [(.int (x1 &&& (63 : Int32))), (.long (x0 &&& (9223372036854775807 : Int64)))]) _
  refine ownGo.st (fun _ k => XS.lushr X0.here hx rfl (hb hby at_9) rfl k) ?_
  show ownGo p.tables e below s₁ (mkF m 10 #[.val (.long x0), .second, .val (.int x1), .unset, .unset] [(.long (own_lushr (x0 &&& (9223372036854775807 : Int64)) (x1 &&& (63 : Int32))))]) _
  refine ownGo.st (fun _ k => XS.lstoreN X0.here hx rfl (hb hby at_10) rfl (l' := #[.val (.long x0), .second, .val (.int x1), .val (.long (own_lushr (x0 &&& (9223372036854775807 : Int64)) (x1 &&& (63 : Int32)))), .second]) rfl k) ?_
  show ownGo p.tables e below s₁ (mkF m 11 #[.val (.long x0), .second, .val (.int x1), .val (.long (own_lushr (x0 &&& (9223372036854775807 : Int64)) (x1 &&& (63 : Int32)))), .second] []) _
  refine ownGo.st (fun _ k => XS.lloadN X0.here hx rfl (hb hby at_11) rfl k) ?_
  show ownGo p.tables e below s₁ (mkF m 12 #[.val (.long x0), .second, .val (.int x1), .val (.long (own_lushr (x0 &&& (9223372036854775807 : Int64)) (x1 &&& (63 : Int32)))), .second] [(.long (own_lushr (x0 &&& (9223372036854775807 : Int64)) (x1 &&& (63 : Int32))))]) _
  have hv : 0 ≤ ((own_lushr (x0 &&& (9223372036854775807 : Int64)) (x1 &&& (63 : Int32)))).toInt := own_lushr_nn _ _ ((c_andSL _ _).2.2 (by decide))
  obtain ⟨_, T10, L10, X10, hQ10, st10⟩ := own_callS X0 hx hZ hown (own_at hw 1 rfl) (own_at hw 2 rfl) (own_at hw 3 rfl) (own_at hw 4 rfl) (by decide) (rm1 l Z a0 hw (own_lushr (x0 &&& (9223372036854775807 : Int64)) (x1 &&& (63 : Int32))) h0 n0 hv) 0 (by decide) (by decide) e0 (by decide) (by decide) (g := (mkF m 12 #[.val (.long x0), .second, .val (.int x1), .val (.long (own_lushr (x0 &&& (9223372036854775807 : Int64)) (x1 &&& (63 : Int32)))), .second] [(.long (own_lushr (x0 &&& (9223372036854775807 : Int64)) (x1 &&& (63 : Int32))))])) rfl (by rw [hml]; rfl) (argsL := [(.long (own_lushr (x0 &&& (9223372036854775807 : Int64)) (x1 &&& (63 : Int32))))]) (rest := []) (lenOf pd__J_I rfl) rfl (by show 2 * 0 + _ ≤ _; exact Nat.le_of_eq rfl) (hb hby at_12)
  obtain ⟨rfl, N10q, e10⟩ := hQ10
  have N10 := Fr.app N0 N10q
  refine ownGo.st st10 ?_
  show ownGo p.tables e below T10 (mkF m 15 #[.val (.long x0), .second, .val (.int x1), .val (.long (own_lushr (x0 &&& (9223372036854775807 : Int64)) (x1 &&& (63 : Int32)))), .second] [(.int (F1 (own_lushr (x0 &&& (9223372036854775807 : Int64)) (x1 &&& (63 : Int32)))))]) _
  refine ownGo.st (fun _ k => XS.lloadN X10.here hx rfl (hb hby at_15) rfl k) ?_
  show ownGo p.tables e below T10 (mkF m 16 #[.val (.long x0), .second, .val (.int x1), .val (.long (own_lushr (x0 &&& (9223372036854775807 : Int64)) (x1 &&& (63 : Int32)))), .second] [(.long (own_lushr (x0 &&& (9223372036854775807 : Int64)) (x1 &&& (63 : Int32)))), (.int (F1 (own_lushr (x0 &&& (9223372036854775807 : Int64)) (x1 &&& (63 : Int32)))))]) _
  obtain ⟨_, T11, L11, X11, hQ11, st11⟩ := own_callS X10 hx hZ hown (own_at hw 5 rfl) (own_at hw 6 rfl) (own_at hw 7 rfl) (own_at hw 8 rfl) (by decide) (rm2 l Z a0 hw (own_lushr (x0 &&& (9223372036854775807 : Int64)) (x1 &&& (63 : Int32))) h0 n0) 1 (by decide) (by decide) e10 (by decide) (by decide) (g := (mkF m 16 #[.val (.long x0), .second, .val (.int x1), .val (.long (own_lushr (x0 &&& (9223372036854775807 : Int64)) (x1 &&& (63 : Int32)))), .second] [(.long (own_lushr (x0 &&& (9223372036854775807 : Int64)) (x1 &&& (63 : Int32)))), (.int (F1 (own_lushr (x0 &&& (9223372036854775807 : Int64)) (x1 &&& (63 : Int32)))))])) rfl (by rw [hml]; rfl) (argsL := [(.long (own_lushr (x0 &&& (9223372036854775807 : Int64)) (x1 &&& (63 : Int32))))]) (rest := [(.int (F1 (own_lushr (x0 &&& (9223372036854775807 : Int64)) (x1 &&& (63 : Int32)))))]) (lenOf pd__J_I rfl) rfl (by show 2 * 0 + _ ≤ _; exact Nat.le_of_eq rfl) (hb hby at_16)
  obtain ⟨rfl, N11q, e11⟩ := hQ11
  have N11 := Fr.app N10 N11q
  refine ownGo.st st11 ?_
  show ownGo p.tables e below T11 (mkF m 19 #[.val (.long x0), .second, .val (.int x1), .val (.long (own_lushr (x0 &&& (9223372036854775807 : Int64)) (x1 &&& (63 : Int32)))), .second] [(.int (F2 (own_lushr (x0 &&& (9223372036854775807 : Int64)) (x1 &&& (63 : Int32))))), (.int (F1 (own_lushr (x0 &&& (9223372036854775807 : Int64)) (x1 &&& (63 : Int32)))))]) _
  have hc12 : (F1 (own_lushr (x0 &&& (9223372036854775807 : Int64)) (x1 &&& (63 : Int32)))) = (F2 (own_lushr (x0 &&& (9223372036854775807 : Int64)) (x1 &&& (63 : Int32)))) := own_same _ hv
  refine ownGo.st (fun _ k => XS.icmpNo X11.here hx rfl (hb hby at_19) rfl (teq hc12).2 k) ?_
  show ownGo p.tables e below T11 (mkF m 22 #[.val (.long x0), .second, .val (.int x1), .val (.long (own_lushr (x0 &&& (9223372036854775807 : Int64)) (x1 &&& (63 : Int32)))), .second] []) _
  refine ownGo.st (fun _ k => XS.iconst X11.here hx rfl (hb hby at_22)  k) ?_
  show ownGo p.tables e below T11 (mkF m 23 #[.val (.long x0), .second, .val (.int x1), .val (.long (own_lushr (x0 &&& (9223372036854775807 : Int64)) (x1 &&& (63 : Int32)))), .second] [(.int (1 : Int32))]) _
  refine ownGo.st (fun _ k => XS.goto X11.here hx rfl (pc0 := 23) (pc' := 27) rfl (hb hby at_23) (by decide) (by decide) k) ?_
  show ownGo p.tables e below T11 (mkF m 27 #[.val (.long x0), .second, .val (.int x1), .val (.long (own_lushr (x0 &&& (9223372036854775807 : Int64)) (x1 &&& (63 : Int32)))), .second] [(.int (1 : Int32))]) _
  exact own_retZ X11 hx hlk hret (hb hby at_27) (Or.inr rfl) ⟨rfl, N11⟩ (Nat.zero_le _) (Nat.zero_le _)
set_option maxRecDepth 65536 in
set_option maxHeartbeats 40000000 in
theorem comes_1 {Post : Tables → Env → Array Value → State → Outcome → State → Prop} (hpost : ∀ tb e args s v u, (limb_1_1.after args s (.returned v) u = true ∧ limb_1_2.after args s (.returned v) u = true ∧ True) → FrameEnd s (.returned v) u (Jvm.fieldLocs frame_1_writes args s ++ Jvm.arrayLocs frame_1_arrays args s ++ Jvm.staticLocs frame_1_statics s) 0 0 → Post tb e args s (.returned v) u) :
    ArmFor flags0 classFile x code maxLocals ret World_1 tables_1 room_1 Calls_1 rest_1 Pre_1 Post := by
  intro l hfl _ _ p e ha hc hk s m args below hf hA hF happ hP
  obtain ⟨hcalls, hrest, hpre⟩ := hP
  obtain ⟨-, -, -, hnamed, -, -, -, hat⟩ := (Spec.applies_iff hf).mp happ
  obtain ⟨hg, hn⟩ := and_e (Cond.before_iff.mp (show (Jvm.Cond.and given_1 narrow_1).before args s = true from hpre))
  obtain ⟨hcount, g1⟩ := and_e hg
  obtain ⟨hv0, hv1⟩ := and_e g1
  obtain ⟨w0, w1, rfl⟩ : ∃ w0 w1 : Value, args = #[w0, w1] := by
    have hs : args.size = 2 := by simpa [Cond.value, given_1] using hcount
    obtain ⟨L⟩ := args
    match L, hs with
    | [w0, w1], _ => exact ⟨w0, w1, rfl⟩
  have hw := fun d (hd : d ∈ tables_1) => atoms_spec (ws := Jvm.Cond.code x code maxLocals ret :: tables_1) hat d (List.mem_cons_of_mem _ hd)
  obtain ⟨i0, ei0⟩ := isL_v hv0
  obtain rfl : w0 = (.long i0) := Option.some.inj ei0
  obtain ⟨i1, ei1⟩ := is_v hv1
  obtain rfl : w1 = (.int i1) := Option.some.inj ei1
  obtain ⟨n, o, h1, h2, h3, _, L, rfl, ⟨rfl, N⟩, hq⟩ := rm0 l s _ hw i0 i1 s.heap s.heap.size (Nat.le_refl _) p e ha hc hk s m _ below hf ((Spec.applies_iff_loose hf).mp happ).1 ⟨rfl, State.Warmed39.refl s, rfl⟩ trivial
  refine ⟨n, _, h1, h2, h3, hpost _ _ _ _ _ _ ⟨Cond.after_iff.mpr rfl, Cond.after_iff.mpr (eq_i res_at (Term.int_eval (1)) rfl), trivial⟩ ⟨hq.1, hq.2.1, (hq.2.2.sift fun y hy => Or.inr (N y hy)).mono (by decide) (by decide)⟩⟩
theorem main_1_1 : Claimed_1_1 := comes_1 fun _ _ _ _ _ _ h hF => ⟨h.1, hF⟩
theorem main_1_2 : Claimed_1_2 := comes_1 fun _ _ _ _ _ _ h hF => ⟨h.2.1, hF⟩
end Jvm.Pilot.@@N@@
namespace Jvm.Pilot.@@N@@
open Jvm Jvm.ClassFile Sem Op Lib Jvm.Free Jvm.Stand Jvm.Pilot.@@N@@.Jvm.D
/-! MADE BY PROGRAM (witnessworld.py) out of the Statement's table words and the real class files: 9 classes; the members and pool entries that the words name. The judged class is class 1, her method 1. -/
namespace start1
open Jvm.ClassFile
def u (s : String) : CpInfo := .utf8 (stringToUtf16 s)
/-- a pool by its gaps: so many unusable entries, then the entry; so many at the end -/
def gap : Nat → List CpInfo → List CpInfo
  | 0, r => r
  | n + 1, r => .unusable :: gap n r
def poolList (es : List (Nat × CpInfo)) (last : Nat) : List CpInfo := es.foldr (fun e r => gap e.1 (e.2 :: r)) (gap last [])
def pool (es : List (Nat × CpInfo)) (last : Nat) : Array CpInfo := ⟨poolList es last⟩
def fileOf (pool : Array CpInfo) (this : Nat) (attrs : Array Attribute := #[]) (ms : Array MethodInfo := #[]) (fl : Nat := 33) (sup : Nat := 0) (ifs : Array Nat := #[]) (fds : Array FieldInfo := #[]) : ClassFile where
  minorVersion := 0
  majorVersion := 65
  constantPool := pool
  accessFlags := fl
  thisClass := this
  superClass := sup
  interfaces := ifs
  fields := fds
  methods := ms
  attributes := attrs
def plain (name : String) (sup : Option ClassId) : Class where
  name := name
  kind := .ordinary
  loader := none
  accessFlags := 33
  super := sup
  interfaces := #[]
  cf := none
  fields := #[]
  methods := #[]
  instanceTypes := #[]
  staticTypes := #[]
  resolved := #[]
  callSites := []
  init := .initialized
  statics := none
  mirror := none

def pool0 : Array CpInfo := pool [(5, u "<init>"), (0, u "()V"), (1, .class_ 10), (1, u "java/lang/Object")] 113

def k0m0 : Method := { name := "<init>", desc := "()V", sig := { parameters := [], returnType := none }, accessFlags := 1, code := none }
/-- java/lang/Object -/
def k0 : Class := { plain "java/lang/Object" none with
  accessFlags := 33
  interfaces := #[]
  cf := some (fileOf pool0 8 #[] #[{ accessFlags := 1, nameIndex := 5, descriptorIndex := 6, attributes := #[] }] 33 0 #[] #[])
  fields := #[]
  methods := #[k0m0]
  instanceTypes := #[]
  staticTypes := #[]
  resolved := Array.replicate 124 none
  statics := none }

def pool1 : Array CpInfo := pool [(2, .class_ 4), (1, u "java/lang/Object"), (0, u "<init>"), (0, u "()V"), (2, .long 9223372036854775807), (1, .methodref 12 13), (0, .class_ 14), (0, .nameAndType 15 16), (0, u "com/example/oyster/oyster/engine/Bytes"), (0, u "varintSize"), (0, u "(J)I"), (0, .methodref 18 19), (0, .class_ 20), (0, .nameAndType 21 16), (0, u "com/example/oyster/oyster/engine/BytesVarintSizePinLaw"), (0, u "expected"), (0, .long 128), (1, .long 16384), (1, .long 2097152), (1, .long 268435456), (1, .long 34359738368), (1, .long 4398046511104), (1, .long 562949953421312), (1, .long 72057594037927936), (3, u "law"), (0, u "(JI)Z")] 3

def k1m0 : Method := { name := "<init>", desc := "()V", sig := { parameters := [], returnType := none }, accessFlags := 2, code := none }
def k1c1 : Code := { maxStack := 4, maxLocals := 5, code := code, exceptionTable := #[], attributes := #[] }
def k1m1 : Method := { name := "law", desc := "(JI)Z", sig := { parameters := [.long, .int], returnType := some .boolean }, accessFlags := 9, code := some k1c1 }
def k1c2 : Code := { maxStack := 4, maxLocals := 2, code := method_3_code, exceptionTable := #[], attributes := #[] }
def k1m2 : Method := { name := "expected", desc := "(J)I", sig := { parameters := [.long], returnType := some .int }, accessFlags := 10, code := some k1c2 }
/-- com/example/oyster/oyster/engine/BytesVarintSizePinLaw -/
def k1 : Class := { plain "com/example/oyster/oyster/engine/BytesVarintSizePinLaw" (some 0) with
  accessFlags := 49
  interfaces := #[]
  cf := some (fileOf pool1 18 #[] #[{ accessFlags := 2, nameIndex := 5, descriptorIndex := 6, attributes := #[] }, { accessFlags := 9, nameIndex := 40, descriptorIndex := 41, attributes := #[] }, { accessFlags := 10, nameIndex := 21, descriptorIndex := 16, attributes := #[] }] 49 2 #[] #[])
  fields := #[]
  methods := #[k1m0, k1m1, k1m2]
  instanceTypes := #[]
  staticTypes := #[]
  resolved := Array.replicate 45 none
  statics := none }

def pool2 : Array CpInfo := pool [(2, .class_ 4), (1, u "java/lang/Object"), (0, u "<init>"), (0, u "()V"), (11, .class_ 19), (0, u "com/example/oyster/oyster/engine/Bytes"), (2, u "varintSize"), (0, u "(J)I"), (8, .class_ 33), (0, u "com/example/oyster/oyster/engine/Bytes$In"), (0, .class_ 35), (0, u "com/example/oyster/oyster/engine/Bytes$Out")] 17

def k2m0 : Method := { name := "<init>", desc := "()V", sig := { parameters := [], returnType := none }, accessFlags := 2, code := none }
def k2c1 : Code := { maxStack := 4, maxLocals := 5, code := prog_6_method_2_code, exceptionTable := #[], attributes := #[] }
def k2m1 : Method := { name := "varintSize", desc := "(J)I", sig := { parameters := [.long], returnType := some .int }, accessFlags := 8, code := some k2c1 }
/-- com/example/oyster/oyster/engine/Bytes -/
def k2 : Class := { plain "com/example/oyster/oyster/engine/Bytes" (some 0) with
  accessFlags := 48
  interfaces := #[]
  cf := some (fileOf pool2 18 #[.nestMembers #[32, 34]] #[{ accessFlags := 2, nameIndex := 5, descriptorIndex := 6, attributes := #[] }, { accessFlags := 8, nameIndex := 22, descriptorIndex := 23, attributes := #[] }] 48 2 #[] #[])
  fields := #[]
  methods := #[k2m0, k2m1]
  instanceTypes := #[]
  staticTypes := #[]
  resolved := Array.replicate 53 none
  statics := none }

def pool3 : Array CpInfo := pool [(1, u "java/lang/Cloneable"), (0, .class_ 1), (0, u "java/lang/Object"), (0, .class_ 3)] 3

/-- java/lang/Cloneable -/
def k3 : Class := { plain "java/lang/Cloneable" (some 0) with
  accessFlags := 1537
  interfaces := #[]
  cf := some (fileOf pool3 2 #[] #[] 1537 4 #[] #[])
  fields := #[]
  methods := #[]
  instanceTypes := #[]
  staticTypes := #[]
  resolved := Array.replicate 8 none
  statics := none }

def pool4 : Array CpInfo := pool [(1, u "java/io/Serializable"), (0, .class_ 1), (0, u "java/lang/Object"), (0, .class_ 3)] 3

/-- java/io/Serializable -/
def k4 : Class := { plain "java/io/Serializable" (some 0) with
  accessFlags := 1537
  interfaces := #[]
  cf := some (fileOf pool4 2 #[] #[] 1537 4 #[] #[])
  fields := #[]
  methods := #[]
  instanceTypes := #[]
  staticTypes := #[]
  resolved := Array.replicate 8 none
  statics := none }

/-- the primitive byte -/
def k5 : Class := { plain "byte" none with kind := .primitive 'B', accessFlags := 0x411 }
/-- [B -/
def k6 : Class := { plain "[B" (some 0) with kind := .array 5 .byte, interfaces := #[3, 4], accessFlags := 1041 }

/-- the primitive int -/
def k7 : Class := { plain "int" none with kind := .primitive 'I', accessFlags := 0x411 }
/-- [I -/
def k8 : Class := { plain "[I" (some 0) with kind := .array 7 .int, interfaces := #[3, 4], accessFlags := 1041 }

def heap : Heap := #[]
def classes : Array Class := #[k0, k1, k2, k3, k4, k5, k6, k7, k8]
def interned : List (Array UInt16 × Addr) := []
def slotsUsed : Nat := 0
def theMethod : MethodId := ⟨1, 1⟩
def args0 : Array Value := #[.long 3, .int 5]
def aboutOver (below : List Frame) : State where
  vm := { classes := classes, interned := interned.toArray }
  heap := heap
  slotsUsed := slotsUsed
  threads := #[{ frames := .invoking theMethod args0 :: below }]
def below0 : List Frame := [.native { method := ⟨0, 0⟩, args := #[] }]
def about1 : State := aboutOver below0
def p0 : Program := .bare "" "" ""
def e0 : Env := launch0.env 0 0 0
theorem w_frames : about1.frames = Frame.invoking theMethod args0 :: below0 := rfl
set_option maxRecDepth 65536 in
theorem w_args : argsFit about1.vm theMethod args0 = true := by decide +kernel
set_option maxRecDepth 65536 in
theorem w_heap : heapFits about1 = true := by decide +kernel
set_option maxRecDepth 65536 in
theorem w_runnable : about1.curStatus? = some .runnable := by decide +kernel
set_option maxRecDepth 65536 in
theorem w_alone : about1.alone = true := by decide +kernel
set_option maxRecDepth 65536 in
theorem w_named : about1.methodNamed? x = some theMethod := by decide +kernel
set_option maxRecDepth 65536 in
theorem w_hears : about1.hears theMethod below0 = true := by decide +kernel
set_option maxRecDepth 65536 in
theorem w_ripe : about1.ripe theMethod args0 below0 = true := by decide +kernel
theorem w_running : about1.status = .running := rfl
set_option maxRecDepth 65536 in
theorem w_room : about1.hasRoom e0.platform room_1 = true :=
  launch0.hasRoom_least _ room_1 (by decide +kernel) (by decide +kernel) (by decide +kernel) (by decide +kernel) (by decide +kernel) (by decide +kernel)
theorem allAtoms_all (ts : List Jvm.Cond) (a : Array Jvm.Value) (st : Jvm.State) : (allAtoms ts).before a st = ts.all (fun c => c.before a st) := by
  induction ts with
  | nil => rfl
  | cons c t ih =>
    show (Jvm.Cond.and c (allAtoms t)).before a st = _
    rw [Jvm.Cond.before_and, ih, List.all_cons]
def words1 : List Jvm.Cond := Jvm.Cond.code x code maxLocals ret :: tables_1
/-- a 'code' word, met by the world's own term for the bytes: nothing is compared byte by byte -/
theorem code_word {y : MethodName} {bytes : ByteArray} {mx : Nat} {rt : Option FieldType} {a : Array Value} {s : State} {m : MethodId} {meth : Method} {c : Code} (h1 : s.methodNamed? y = some m) (h2 : s.vm.method? m = some meth) (h3 : meth.code = some c) (h4 : c.code = bytes)
    (h5 : (c.maxLocals == mx && c.exceptionTable.isEmpty && decide (c.maxStack ≤ mostOperands) && decide (meth.sig.returnType = rt) && !meth.locks && decide (parseMethodDescriptor y.desc = some meth.sig)) = true) : (Jvm.Cond.code y bytes mx rt).before a s = true := by
  simp only [Bool.and_eq_true, beq_iff_eq, Bool.not_eq_true', decide_eq_true_eq] at h5
  obtain ⟨⟨⟨⟨⟨g1, g2⟩, g3⟩, g4⟩, g5⟩, g6⟩ := h5
  simp [Cond.before, Cond.holds, Cond.value, h1, h2, h3, h4, g1, g2, g3, g4, g5, g6]
def isCode : Jvm.Cond → Bool
  | .code _ _ _ _ => true
  | _ => false
theorem all_split {L : List Jvm.Cond} {P : Jvm.Cond → Bool} (h1 : L.all (fun c => isCode c || P c) = true) (h2 : ∀ c ∈ L.filter isCode, P c = true) : L.all P = true := by
  refine List.all_eq_true.mpr fun c hc => ?_
  have h := List.all_eq_true.mp h1 c hc
  rcases Bool.eq_false_or_eq_true (isCode c) with hi | hi
  · exact h2 c (List.mem_filter.mpr ⟨hc, hi⟩)
  · simpa [hi] using h
set_option maxRecDepth 65536 in
theorem w_c0 : (Jvm.Cond.code x code maxLocals ret).before args0 about1 = true := code_word (m := ⟨1, 1⟩) (meth := k1m1) (c := k1c1) (by decide +kernel) rfl rfl rfl (by decide +kernel)
set_option maxRecDepth 65536 in
theorem w_c1 : (Jvm.Cond.code ({ cls := "com/example/oyster/oyster/engine/Bytes", name := "varintSize", desc := "(J)I" } : Jvm.MethodName) prog_6_method_2_code (5 : Nat) (Option.some Jvm.ClassFile.FieldType.int)).before args0 about1 = true := code_word (m := ⟨2, 1⟩) (meth := k2m1) (c := k2c1) (by decide +kernel) rfl rfl rfl (by decide +kernel)
set_option maxRecDepth 65536 in
theorem w_c2 : (Jvm.Cond.code ({ cls := "com/example/oyster/oyster/engine/BytesVarintSizePinLaw", name := "expected", desc := "(J)I" } : Jvm.MethodName) method_3_code (2 : Nat) (Option.some Jvm.ClassFile.FieldType.int)).before args0 about1 = true := code_word (m := ⟨1, 2⟩) (meth := k1m2) (c := k1c2) (by decide +kernel) rfl rfl rfl (by decide +kernel)
def codes1 : List Jvm.Cond := [Jvm.Cond.code x code maxLocals ret, Jvm.Cond.code ({ cls := "com/example/oyster/oyster/engine/Bytes", name := "varintSize", desc := "(J)I" } : Jvm.MethodName) prog_6_method_2_code (5 : Nat) (Option.some Jvm.ClassFile.FieldType.int), Jvm.Cond.code ({ cls := "com/example/oyster/oyster/engine/BytesVarintSizePinLaw", name := "expected", desc := "(J)I" } : Jvm.MethodName) method_3_code (2 : Nat) (Option.some Jvm.ClassFile.FieldType.int)]
set_option maxRecDepth 65536 in
theorem codes_eq : words1.filter isCode = codes1 := rfl
theorem w_codes : ∀ c ∈ words1.filter isCode, c.before args0 about1 = true := by
  rw [codes_eq]
  intro c hc
  simp only [codes1, List.mem_cons, List.not_mem_nil, or_false] at hc
  rcases hc with rfl | rfl | rfl
  · exact w_c0
  · exact w_c1
  · exact w_c2
set_option maxRecDepth 65536 in
theorem w_t1 : words1.all (fun c => isCode c || c.before args0 about1) = true := by decide +kernel
theorem w_tables : (allAtoms (Jvm.Cond.code x code maxLocals ret :: tables_1)).before args0 about1 = true := by
  rw [allAtoms_all]
  show words1.all (fun c => c.before args0 about1) = true
  refine all_split ?_ w_codes
  rw [w_t1]
set_option maxRecDepth 65536 in
theorem w_case : (Jvm.Cond.and given_1 narrow_1).before args0 about1 = true := by decide +kernel
theorem w_applies : (headSpec (Jvm.Cond.code x code maxLocals ret :: tables_1) room_1).applies x e0.platform about1 = true :=
  (Spec.applies_iff w_frames).mpr ⟨w_running, w_runnable, w_alone, w_named, w_hears, w_ripe, w_room, w_tables⟩
theorem atStart : AtStart classFile x code maxLocals ret World_1 tables_1 room_1 Calls_1 rest_1 Pre_1 launch0 p0 e0 about1 theMethod args0 below0 :=
  ⟨lists_1, trivial, launch0.admits_env _ _ _, launch0.least_env, fairChoices_fair.cas, fairChoices_fair.clock, w_frames, w_args, w_heap, w_applies, trivial, trivial, w_case⟩
end start1
theorem witness_1 : WitnessClaimed_1 := ⟨start1.p0, start1.e0, start1.about1, start1.theMethod, start1.args0, start1.below0, start1.atStart⟩
end Jvm.Pilot.@@N@@
