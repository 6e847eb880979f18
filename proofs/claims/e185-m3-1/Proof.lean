import JvmDerived
import JvmDerived.Pilot.@@N@@Statement
import JvmDerived.Pilot.@@N@@Code
set_option linter.unusedVariables false
set_option linter.unusedSimpArgs false
namespace Jvm.Pilot.@@N@@
open Jvm Jvm.ClassFile Sem Op Lib Jvm.Free Jvm.Stand Jvm.LawKit Jvm.RoadKit Bundle Jvm.Pilot.@@N@@.Jvm.D
abbrev own_iushr (x y : Int32) : Int32 := (x.toUInt32 >>> (y &&& 31).toUInt32).toInt32
abbrev own_lshl (x : Int64) (y : Int32) : Int64 := x <<< (y &&& 0x3f).toInt64
abbrev own_lshr (x : Int64) (y : Int32) : Int64 := x >>> (y &&& 0x3f).toInt64
abbrev own_lushr (x : Int64) (y : Int32) : Int64 := (x.toUInt64 >>> (y &&& 0x3f).toInt64.toUInt64).toInt64
section Core
variable {p : Program} {l : Launch} {e : Env} {R : Room} {s : State} {m : MethodId} {args : Array Value} {below : List Frame} {meth : Method} {c : Code} {T T' : State} {locs : List Loc} {cells slots : Nat} {Z : State} {a0 : Array Value} {h h0 h' : Heap} {n0 : Nat}
/-- the i-th word of the sheet -/
theorem own_at (hw : ∀ d ∈ tables_1, d.before a0 Z = true) {d : Jvm.Cond} (i : Nat) (q : tables_1[i]? = some d) : d.before a0 Z = true := hw _ (List.mem_of_getElem? q)
/-- from this frame the method comes to its end, and G says what the end is -/
def ownGo (tb : Tables) (e : Env) (below : List Frame) (T : State) (g : JFrame) (G : Outcome → State → Prop) : Prop :=
  ∃ s₂ o, Steps tb e below (T.setTop g) s₂ ∧ s₂.status = .running ∧ Ended s₂ below o ∧ G o s₂
def ownDone (s : State) (Q : Option Value → Heap → List Loc → Prop) (kc ks : Nat) (o : Outcome) (U : State) : Prop :=
  ∃ v L, o = .returned v ∧ Q v U.heap L ∧ FrameEnd s o U L kc ks
/-- what a method leaves that only reckons -/
def ownPure (r : Value) (h0 : Heap) (n0 : Nat) (v : Option Value) (h : Heap) (L : List Loc) : Prop := v = some r ∧ Fr n0 L ∧ h = h0
theorem ownGo.st {tb : Tables} {g g' : JFrame} {G : Outcome → State → Prop} (q : ∀ t, Steps tb e below (T'.setTop g') t → Steps tb e below (T.setTop g) t) (k : ownGo tb e below T' g' G) : ownGo tb e below T g G := by
  obtain ⟨s₂, o, h1, h2⟩ := k
  exact ⟨s₂, o, q _ h1, h2⟩
theorem ownGo.sq {tb : Tables} {g g' : JFrame} {G : Outcome → State → Prop} (q : Steps tb e below (T.setTop g) (T'.setTop g')) (k : ownGo tb e below T' g' G) : ownGo tb e below T g G := by
  obtain ⟨s₂, o, h1, h2⟩ := k
  exact ⟨s₂, o, q.trans h1, h2⟩
theorem own_ret {Q : Option Value → Heap → List Loc → Prop} {kc ks : Nat} {g : JFrame} {v : Option Value} (X : Stand p l e R s m args below meth c T locs cells slots) (hlk : meth.locks = false) (hv : meth.sig.returnType = none → v = none)
    (hst : ∀ fs, (∀ (f : JFrame) (acts : List Action), f.method = m → f.locked = none → f.entered = [] → (doReturn e (T.setTop f) acts v).1 = T.setFrames fs) → Steps p.tables e below (T.setTop g) (T.setFrames fs))
    (hq : Q v T.heap locs) (hc : cells ≤ kc) (hs : slots ≤ ks) : ownGo p.tables e below T g (ownDone s Q kc ks) := by
  obtain ⟨fs, hr, hrun, hended, hW, hsame⟩ := X.leave (v := v) hv hlk
  exact ⟨_, _, hst fs hr, hrun, hended, _, _, rfl, hq, ⟨_, rfl⟩, hW, hsame.mono hc hs⟩
theorem own_retI {Q : Option Value → Heap → List Loc → Prop} {kc ks : Nat} {pc : Nat} {Ls : Array Slot} {z : Int32} {rest : List Value} (X : Stand p l e R s m args below meth c T locs cells slots) (hx : p.tables.exec = Jvm.exec) (hlk : meth.locks = false) (hret : meth.sig.returnType = some .int)
    (hd : decode c.code pc = .ok (.ireturn, 1)) (hq : Q (some (.int z)) T.heap locs) (hc : cells ≤ kc) (hs : slots ≤ ks) : ownGo p.tables e below T (mkF m pc Ls (.int z :: rest)) (ownDone s Q kc ks) :=
  own_ret X hlk (fun q => by rw [hret] at q; cases q) (fun fs hr => retOut X hx hret rfl (Or.inl ⟨rfl, Or.inl rfl, z, rfl⟩) hd hr) hq hc hs
theorem own_retZ {Q : Option Value → Heap → List Loc → Prop} {kc ks : Nat} {pc : Nat} {Ls : Array Slot} {z : Int32} {rest : List Value} (X : Stand p l e R s m args below meth c T locs cells slots) (hx : p.tables.exec = Jvm.exec) (hlk : meth.locks = false) (hret : meth.sig.returnType = some .boolean)
    (hd : decode c.code pc = .ok (.ireturn, 1)) (hz : z = 0 ∨ z = 1) (hq : Q (some (.int z)) T.heap locs) (hc : cells ≤ kc) (hs : slots ≤ ks) : ownGo p.tables e below T (mkF m pc Ls (.int z :: rest)) (ownDone s Q kc ks) := by
  have e1 : nar .boolean z = z := by rcases hz with rfl | rfl <;> decide
  exact own_ret X hlk (fun q => by rw [hret] at q; cases q) (fun fs hr => retN X hx (t := .boolean) hret (by simp) hd (by rw [e1]; exact hr)) hq hc hs
theorem own_retJ {Q : Option Value → Heap → List Loc → Prop} {kc ks : Nat} {pc : Nat} {Ls : Array Slot} {z : Int64} {rest : List Value} (X : Stand p l e R s m args below meth c T locs cells slots) (hx : p.tables.exec = Jvm.exec) (hlk : meth.locks = false) (hret : meth.sig.returnType = some .long)
    (hd : decode c.code pc = .ok (.lreturn, 1)) (hq : Q (some (.long z)) T.heap locs) (hc : cells ≤ kc) (hs : slots ≤ ks) : ownGo p.tables e below T (mkF m pc Ls (.long z :: rest)) (ownDone s Q kc ks) :=
  own_ret X hlk (fun q => by rw [hret] at q; cases q) (fun fs hr => retOut X hx hret rfl (Or.inr (Or.inl ⟨rfl, rfl, z, rfl⟩)) hd hr) hq hc hs
theorem own_retA {Q : Option Value → Heap → List Loc → Prop} {kc ks : Nat} {pc : Nat} {Ls : Array Slot} {z : Addr} {t : FieldType} {rest : List Value} (X : Stand p l e R s m args below meth c T locs cells slots) (hx : p.tables.exec = Jvm.exec) (hlk : meth.locks = false) (hret : meth.sig.returnType = some (.array t))
    (hd : decode c.code pc = .ok (.areturn, 1)) (hq : Q (some (.ref z)) T.heap locs) (hc : cells ≤ kc) (hs : slots ≤ ks) : ownGo p.tables e below T (mkF m pc Ls (.ref z :: rest)) (ownDone s Q kc ks) :=
  own_ret X hlk (fun q => by rw [hret] at q; cases q) (fun fs hr => retOut X hx hret rfl (Or.inr (Or.inr (Or.inr (Or.inr ⟨rfl, rfl, rfl⟩)))) hd hr) hq hc hs
theorem own_retV {Q : Option Value → Heap → List Loc → Prop} {kc ks : Nat} {pc : Nat} {Ls : Array Slot} (X : Stand p l e R s m args below meth c T locs cells slots) (hx : p.tables.exec = Jvm.exec) (hlk : meth.locks = false) (hret : meth.sig.returnType = none)
    (hd : decode c.code pc = .ok (.return_, 1)) (hq : Q none T.heap locs) (hc : cells ≤ kc) (hs : slots ≤ ks) : ownGo p.tables e below T (mkF m pc Ls []) (ownDone s Q kc ks) :=
  own_ret X hlk (fun _ => rfl) (fun fs hr => X.returnOut hx hret hd hr) hq hc hs
/-- a static call by the callee's contract -/
theorem own_callS (X : Stand p l e R s m args below meth c T locs cells slots) (hx : p.tables.exec = Jvm.exec) (hZ : Z.Warmed39 s.vm) {own : String} {index : Nat} {y : MethodName} {bytes : ByteArray} {maxL : Nat} {ret : Option FieldType} (hown : s.vm.findClass own = some m.cls)
    (w1 : (Jvm.Cond.methodLink own index y).before a0 Z = true) (w2 : (Jvm.Cond.static y).before a0 Z = true) (w3 : (Jvm.Cond.initialized y.cls).before a0 Z = true) (w4 : (Jvm.Cond.code y bytes maxL ret).before a0 Z = true) (hy : y.cls ≠ "java/lang/invoke/MethodHandle" ∧ y.cls ≠ "java/lang/invoke/VarHandle")
    {rm : Room} {argsL rest : List Value} {Q : Option Value → Heap → List Loc → Prop}
    (K : MetFree l y (head1 [Jvm.Cond.code y bytes maxL ret] rm) (fun a U => a = argsL.toArray ∧ Z.Warmed39 U.vm ∧ U.heap = h0) (fun _ _ _ _ _ => True) (fun _ U o U' => ∃ v L, o = .returned v ∧ Q v U'.heap L ∧ FrameEnd U o U' L rm.cells rm.slots))
    (W : Nat) (hf : rm.frames + 1 ≤ R.frames) (hl : W + (maxL + 11) + rm.locals ≤ R.locals) (eT : T.heap = h0) (hcl : cells + rm.cells ≤ R.cells) (hsl : slots + rm.slots ≤ R.slots)
    {g : JFrame} (hg : g.method = m) (hsize : g.locals.size = c.maxLocals) (hlen : ∀ sig, parseMethodDescriptor y.desc = some sig → argsL.length = sig.parameters.length) (hstack : g.stack = argsL.reverse ++ rest) (hW : 2 * g.monitorRoom + (rest.map fun v => v.category).sum ≤ W) (hdg : decode c.code g.pc = .ok (.invokestatic index, 3)) :
    ∃ (v : Option Value) (T' : State) (L : List Loc), Stand p l e R s m args below meth c T' (locs ++ L) (cells + rm.cells) (slots + rm.slots) ∧ Q v T'.heap L ∧ ∀ t, Steps p.tables e below (T'.setTop { g with pc := g.pc + 3, stack := v.toList ++ rest }) t → Steps p.tables e below (T.setTop g) t := by
  obtain ⟨v, _, ⟨T1, L1, k1, n1⟩, -, X1, ⟨Lc, hQ, l1, y1, z1⟩, st⟩ := Jvm.LawKit.callS X hx (y := y) hown (mvT hZ w1) (mvT hZ w2) (mvT hZ w3) (mvT hZ w4) hy (backOf (W := W) K hZ w4 w3 hf hl) (g := g) hg hsize (argsL := argsL) (rest := rest) hlen hstack hW hdg (fun _ _ => ⟨rfl, eT, hcl, hsl⟩)
  dsimp only [Pt.U, Pt.locs, Pt.cells, Pt.slots] at X1 l1 y1 z1 st hQ
  subst l1 y1 z1
  exact ⟨v, T1, Lc, X1, hQ, st⟩
/-! arrays: n places, place i holds f i -/
def ownA (Z : State) (h : Heap) (a : Addr) (ty : FieldType) (n : Nat) (f : Nat → Value) : Prop :=
  ∃ c : Cell, Arr Z h a c ty ∧ c.slots.size = n ∧ n < 2147483648 ∧ ∀ i, i < n → c.slots[i]? = some (f i) ∧ fits ty (f i) = true
def own_up (f : Nat → Value) (j : Nat) (v : Value) (i : Nat) : Value := if i = j then v else f i
theorem own_up_hit {f : Nat → Value} {j : Nat} {v : Value} : own_up f j v j = v := if_pos rfl
theorem own_up_miss {f : Nat → Value} {i j : Nat} {v : Value} (q : i ≠ j) : own_up f j v i = f i := if_neg q
theorem ownA.ext {a : Addr} {ty : FieldType} {n : Nat} {f : Nat → Value} (V : ownA Z h a ty n f) (E : Ext h h') : ownA Z h' a ty n f := by obtain ⟨c, A, r⟩ := V; exact ⟨c, A.ext E, r⟩
theorem ownA.other {a b : Addr} {ty : FieldType} {n sl : Nat} {v : Value} {f : Nat → Value} (V : ownA Z h a ty n f) (W : Wr h h' b sl v) (q : a ≠ b) : ownA Z h' a ty n f := by obtain ⟨c, A, r⟩ := V; exact ⟨c, A.other W q, r⟩
theorem ownA.keep {a : Addr} {ty : FieldType} {n : Nat} {ws : List Addr} {f : Nat → Value} (V : ownA Z h a ty n f) (K : Keep h h' ws) (q : a ∉ ws) : ownA Z h' a ty n f := by obtain ⟨c, A, r⟩ := V; exact ⟨c, ⟨K.2.1 a c A.1 q, A.2⟩, r⟩
theorem ownA.lt {a : Addr} {ty : FieldType} {n : Nat} {f : Nat → Value} (V : ownA Z h a ty n f) : a < h.size := by obtain ⟨c, A, r⟩ := V; exact A.lt
theorem ownA.eq {a : Addr} {ty : FieldType} {n : Nat} {f f' : Nat → Value} (V : ownA Z h a ty n f) (q : ∀ i, i < n → f i = f' i) : ownA Z h a ty n f' := by
  obtain ⟨c, A, r1, r2, r3⟩ := V
  exact ⟨c, A, r1, r2, fun i hi => by rw [← q i hi]; exact r3 i hi⟩
theorem own_n32 {n : Nat} (q : n < 2147483648) : (Int32.ofNat n).toNatClampNeg = n := by rw [Int32.toNatClampNeg, Int32.toInt_ofNat_of_lt q]; rfl
theorem own_nn {n : Nat} (q : n < 2147483648) : ¬ Int32.ofNat n < 0 := by
  rw [Int32.lt_iff_toInt_lt, Int32.toInt_ofNat_of_lt q, show (0 : Int32).toInt = 0 from rfl]; omega
theorem ownA.new {a : Addr} {k : ClassId} {ty : FieldType} {n : Nat} (A : Arr Z h a (newA k ty (Int32.ofNat n)) ty) (q : n < 2147483648) (d : fits ty (defaultValue ty) = true) : ownA Z h a ty n (fun _ => defaultValue ty) := by
  refine ⟨_, A, by rw [sz_new, own_n32 q], q, fun i hi => ⟨?_, d⟩⟩
  simp [newA, own_n32 q, hi]
theorem own_in {cl : Cell} {n i : Nat} {j : Int32} (S : cl.slots.size = n) (q : n < 2147483648) (hj : j = Int32.ofNat i) (hi : i < n) : ¬ (j < 0 ∨ cl.slots.size ≤ j.toNatClampNeg) := by
  subst hj
  rw [S, own_n32 (by omega)]
  exact fun z => z.elim (own_nn (by omega)) (fun z => by omega)
theorem own_iaload {a : Addr} {n i : Nat} {f : Nat → Value} {j v : Int32} (X : Stand p l e R s m args below meth c T locs cells slots) (hx : p.tables.exec = Jvm.exec) (hZ : Z.Warmed39 s.vm) (eT : T.heap = h) (V : ownA Z h a .int n f) (hj : j = Int32.ofNat i) (hi : i < n) (hv : f i = .int v)
    {g : JFrame} (hg : g.method = m) {rest : List Value} (hs : g.stack = .int j :: .ref a :: rest) (hd : decode c.code g.pc = .ok (.iaload, 1)) :
    ∀ t, Steps p.tables e below (T.setTop { g with pc := g.pc + 1, stack := .int v :: rest }) t → Steps p.tables e below (T.setTop g) t := by
  obtain ⟨cl, A, S, q, H⟩ := V
  have hat : cl.slots[j.toNatClampNeg]? = some (.int v) := by rw [hj, own_n32 (by omega), ← hv]; exact (H i hi).1
  exact X.iaload hx (j := j) (by rw [eT]; exact A.1) (State.isArrayOf_alike hZ.alike A.2.1) A.2.2 (own_in S q hj hi) hat hg hs hd
theorem own_laload {a : Addr} {n i : Nat} {f : Nat → Value} {j : Int32} {v : Int64} (X : Stand p l e R s m args below meth c T locs cells slots) (hx : p.tables.exec = Jvm.exec) (hZ : Z.Warmed39 s.vm) (eT : T.heap = h) (V : ownA Z h a .long n f) (hj : j = Int32.ofNat i) (hi : i < n) (hv : f i = .long v)
    {g : JFrame} (hg : g.method = m) {rest : List Value} (hs : g.stack = .int j :: .ref a :: rest) (hd : decode c.code g.pc = .ok (.laload, 1)) :
    ∀ t, Steps p.tables e below (T.setTop { g with pc := g.pc + 1, stack := .long v :: rest }) t → Steps p.tables e below (T.setTop g) t := by
  obtain ⟨cl, A, S, q, H⟩ := V
  have hat : cl.slots[j.toNatClampNeg]? = some (.long v) := by rw [hj, own_n32 (by omega), ← hv]; exact (H i hi).1
  exact X.laload hx (j := j) (by rw [eT]; exact A.1) (State.isArrayOf_alike hZ.alike A.2.1) A.2.2 (own_in S q hj hi) hat hg hs hd
theorem own_baload {a : Addr} {n i : Nat} {f : Nat → Value} {j v : Int32} (X : Stand p l e R s m args below meth c T locs cells slots) (hx : p.tables.exec = Jvm.exec) (hZ : Z.Warmed39 s.vm) (eT : T.heap = h) (V : ownA Z h a .byte n f) (hj : j = Int32.ofNat i) (hi : i < n) (hv : f i = .int v)
    {g : JFrame} (hg : g.method = m) {rest : List Value} (hs : g.stack = .int j :: .ref a :: rest) (hd : decode c.code g.pc = .ok (.baload, 1)) :
    ∀ t, Steps p.tables e below (T.setTop { g with pc := g.pc + 1, stack := .int v :: rest }) t → Steps p.tables e below (T.setTop g) t := by
  obtain ⟨cl, A, S, q, H⟩ := V
  have hat : cl.slots[j.toNatClampNeg]? = some (.int v) := by rw [hj, own_n32 (by omega), ← hv]; exact (H i hi).1
  exact X.baloadBytes hx (j := j) (by rw [eT]; exact A.1) (State.isArrayOf_alike hZ.alike A.2.1) A.2.2 (own_in S q hj hi) hat hg hs hd
theorem own_alen {a : Addr} {ty : FieldType} {n : Nat} {f : Nat → Value} (X : Stand p l e R s m args below meth c T locs cells slots) (hx : p.tables.exec = Jvm.exec) (hZ : Z.Warmed39 s.vm) (eT : T.heap = h) (V : ownA Z h a ty n f)
    {g : JFrame} (hg : g.method = m) {rest : List Value} (hs : g.stack = .ref a :: rest) (hd : decode c.code g.pc = .ok (.arraylength, 1)) :
    ∀ t, Steps p.tables e below (T.setTop { g with pc := g.pc + 1, stack := .int (Int32.ofNat n) :: rest }) t → Steps p.tables e below (T.setTop g) t := by
  obtain ⟨cl, A, S, q, H⟩ := V
  intro t k
  refine X.arraylength hx (cell := cl) (by rw [eT]; exact A.1) (State.isArrayOf_alike hZ.alike A.2.1) hg hs hd t ?_
  rw [S]; exact k
theorem ownA.put {a : Addr} {ty : FieldType} {n i : Nat} {f : Nat → Value} {v : Value} (V : ownA Z h a ty n f) (W : Wr h h' a i v) (hv : fits ty v = true) : ownA Z h' a ty n (own_up f i v) := by
  obtain ⟨cl, A, S, q, H⟩ := V
  refine ⟨_, A.same W, by rw [sz_set]; exact S, q, fun k hk => ?_⟩
  by_cases z : k = i
  · subst z
    rw [own_up_hit]
    exact ⟨by simp [Cell.setSlot, S, hk], hv⟩
  · rw [own_up_miss z]
    refine ⟨?_, (H k hk).2⟩
    rw [← (H k hk).1]
    exact Array.getElem?_setIfInBounds_ne (Ne.symm z)
theorem own_iastore {a : Addr} {n i : Nat} {f : Nat → Value} {j x : Int32} (X : Stand p l e R s m args below meth c T locs cells slots) (hx : p.tables.exec = Jvm.exec) (hZ : Z.Warmed39 s.vm) (eT : T.heap = h) (V : ownA Z h a .int n f) (hj : j = Int32.ofNat i) (hi : i < n)
    {g : JFrame} (hg : g.method = m) {rest : List Value} (hs : g.stack = .int x :: .int j :: .ref a :: rest) (hd : decode c.code g.pc = .ok (.iastore, 1)) :
    ∃ T' h', Stand p l e R s m args below meth c T' (locs ++ [⟨a, i⟩]) cells slots ∧ T'.heap = h' ∧ Wr h h' a i (.int x) ∧ ownA Z h' a .int n (own_up f i (.int x)) ∧ ∀ t, Steps p.tables e below (T'.setTop { g with pc := g.pc + 1, stack := rest }) t → Steps p.tables e below (T.setTop g) t := by
  have V0 := V
  obtain ⟨cl, A, S, q, H⟩ := V
  obtain ⟨T', h', X', e', W', st⟩ := stI X hx hZ eT A (j := j) (own_in S q hj hi) hg hs hd
  have ej : j.toNatClampNeg = i := by rw [hj]; exact own_n32 (by omega)
  rw [ej] at X' W'
  exact ⟨T', h', X', e', W', V0.put W' rfl, st⟩
theorem own_lastore {a : Addr} {n i : Nat} {f : Nat → Value} {j : Int32} {x : Int64} (X : Stand p l e R s m args below meth c T locs cells slots) (hx : p.tables.exec = Jvm.exec) (hZ : Z.Warmed39 s.vm) (eT : T.heap = h) (V : ownA Z h a .long n f) (hj : j = Int32.ofNat i) (hi : i < n)
    {g : JFrame} (hg : g.method = m) {rest : List Value} (hs : g.stack = .long x :: .int j :: .ref a :: rest) (hd : decode c.code g.pc = .ok (.lastore, 1)) :
    ∃ T' h', Stand p l e R s m args below meth c T' (locs ++ [⟨a, i⟩]) cells slots ∧ T'.heap = h' ∧ Wr h h' a i (.long x) ∧ ownA Z h' a .long n (own_up f i (.long x)) ∧ ∀ t, Steps p.tables e below (T'.setTop { g with pc := g.pc + 1, stack := rest }) t → Steps p.tables e below (T.setTop g) t := by
  have V0 := V
  obtain ⟨cl, A, S, q, H⟩ := V
  obtain ⟨T', h', X', e', W', st⟩ := stJ X hx hZ eT A (j := j) (own_in S q hj hi) hg hs hd
  have ej : j.toNatClampNeg = i := by rw [hj]; exact own_n32 (by omega)
  rw [ej] at X' W'
  exact ⟨T', h', X', e', W', V0.put W' rfl, st⟩
theorem own_bastore {a : Addr} {n i : Nat} {f : Nat → Value} {j x : Int32} (X : Stand p l e R s m args below meth c T locs cells slots) (hx : p.tables.exec = Jvm.exec) (hZ : Z.Warmed39 s.vm) (eT : T.heap = h) (V : ownA Z h a .byte n f) (hj : j = Int32.ofNat i) (hi : i < n)
    {g : JFrame} (hg : g.method = m) {rest : List Value} (hs : g.stack = .int x :: .int j :: .ref a :: rest) (hd : decode c.code g.pc = .ok (.bastore, 1)) :
    ∃ T' h', Stand p l e R s m args below meth c T' (locs ++ [⟨a, i⟩]) cells slots ∧ T'.heap = h' ∧ Wr h h' a i (.int x.toInt8.toInt32) ∧ ownA Z h' a .byte n (own_up f i (.int x.toInt8.toInt32)) ∧ ∀ t, Steps p.tables e below (T'.setTop { g with pc := g.pc + 1, stack := rest }) t → Steps p.tables e below (T.setTop g) t := by
  have V0 := V
  obtain ⟨cl, A, S, q, H⟩ := V
  obtain ⟨T', h', X', e', W', st⟩ := stB X hx hZ eT A (j := j) (own_in S q hj hi) hg hs hd
  have ej : j.toNatClampNeg = i := by rw [hj]; exact own_n32 (by omega)
  rw [ej] at X' W'
  exact ⟨T', h', X', e', W', V0.put W' (fits_nar_byte _), st⟩
/-- newarray of n places, at most cap -/
theorem own_newarray {aty : ArrayType} (X : Stand p l e R s m args below meth c T locs cells slots) (hx : p.tables.exec = Jvm.exec) (hZ : Z.Warmed39 s.vm) (w : (Jvm.Cond.arrayClass (newarray.typeOf aty)).before a0 Z = true) (eT : T.heap = h) (n : Nat) (cap : Nat) (hn : n ≤ cap) (hb : cap * 8 ≤ 536870912) (hc : cells + 1 ≤ R.cells) (hl : slots + cap ≤ R.slots) {ad : String} (had : "[" ++ (newarray.typeOf aty).toString = ad) (d : fits (newarray.typeOf aty) (defaultValue (newarray.typeOf aty)) = true)
    {z : Int32} (hz : z = Int32.ofNat n) {g : JFrame} (hg : g.method = m) (hd : decode c.code g.pc = .ok (.newarray aty, 2)) {rest : List Value} (hs : g.stack = .int z :: rest) :
    ∃ T' h' b, Stand p l e R s m args below meth c T' locs (cells + 1) (slots + cap) ∧ T'.heap = h' ∧ Ext h h' ∧ ownA Z h' b (newarray.typeOf aty) n (fun _ => defaultValue (newarray.typeOf aty)) ∧ Exa Z h' b ad ∧ b = h.size ∧
      ∀ t, Steps p.tables e below (T'.setTop { g with pc := g.pc + 2, stack := .ref b :: rest }) t → Steps p.tables e below (T.setTop g) t := by
  have hn' : n < 2147483648 := by omega
  subst hz
  obtain ⟨T', h', k, X', e', E, A, Ex, st⟩ := newPE X hx hZ w eT hg hd hs (own_nn hn') (by rw [own_n32 hn']; exact hn) hb hc hl had
  exact ⟨T', h', _, X', e', E, ownA.new A hn' d, Ex, rfl, st⟩
end Core
theorem ownA.int {Z : State} {h : Heap} {a : Addr} {n i : Nat} {f : Nat → Value} (V : ownA Z h a .int n f) (hi : i < n) : ∃ v : Int32, f i = .int v := by
  obtain ⟨c, A, S, q, H⟩ := V
  have q := (H i hi).2
  generalize f i = w at q
  cases w <;> first | exact ⟨_, rfl⟩ | simp [fits] at q
section Core2
variable {p : Program} {l : Launch} {e : Env} {R : Room} {s : State} {m : MethodId} {args : Array Value} {below : List Frame} {meth : Method} {c : Code} {T T' : State} {locs : List Loc} {cells slots : Nat} {Z : State} {a0 : Array Value} {h h0 h' : Heap} {n0 : Nat}
/-- a constructor by its contract -/
theorem own_callC (X : Stand p l e R s m args below meth c T locs cells slots) (hx : p.tables.exec = Jvm.exec) (hZ : Z.Warmed39 s.vm) {own : String} {index : Nat} {y : MethodName} {bytes : ByteArray} {maxL : Nat} (hown : s.vm.findClass own = some m.cls) (hy1 : y.name = "<init>")
    (w1 : (Jvm.Cond.methodLink own index y).before a0 Z = true) (w2 : (Jvm.Cond.instanceMethod y).before a0 Z = true) (w3 : (Jvm.Cond.initialized y.cls).before a0 Z = true) (w4 : (Jvm.Cond.code y bytes maxL none).before a0 Z = true) (hy : y.cls ≠ "java/lang/invoke/MethodHandle" ∧ y.cls ≠ "java/lang/invoke/VarHandle")
    {rm : Room} {b : Addr} {argsL rest : List Value} {Q : Option Value → Heap → List Loc → Prop}
    (K : MetFree l y (head1 [Jvm.Cond.code y bytes maxL none] rm) (fun a U => a = (.ref b :: argsL).toArray ∧ Z.Warmed39 U.vm ∧ U.heap = h0) (fun _ _ _ _ _ => True) (fun _ U o U' => ∃ v L, o = .returned v ∧ Q v U'.heap L ∧ FrameEnd U o U' L rm.cells rm.slots))
    (W : Nat) (hf : rm.frames + 1 ≤ R.frames) (hl : W + (maxL + 11) + rm.locals ≤ R.locals) (eT : T.heap = h0) (hcl : cells + rm.cells ≤ R.cells) (hsl : slots + rm.slots ≤ R.slots)
    {g : JFrame} (hg : g.method = m) (hsize : g.locals.size = c.maxLocals) (hlen : ∀ sig, parseMethodDescriptor y.desc = some sig → argsL.length = sig.parameters.length) (hstack : g.stack = argsL.reverse ++ .ref b :: rest) (hW : 2 * g.monitorRoom + (rest.map fun v => v.category).sum ≤ W) (hdg : decode c.code g.pc = .ok (.invokespecial index, 3)) :
    ∃ (v : Option Value) (T' : State) (L : List Loc), Stand p l e R s m args below meth c T' (locs ++ L) (cells + rm.cells) (slots + rm.slots) ∧ Q v T'.heap L ∧ ∀ t, Steps p.tables e below (T'.setTop { g with pc := g.pc + 3, stack := v.toList ++ rest }) t → Steps p.tables e below (T.setTop g) t := by
  obtain ⟨v, _, ⟨T1, L1, k1, n1⟩, -, X1, ⟨Lc, hQ, l1, y1, z1⟩, st⟩ := X.specialBack hx (y := y) hy1 hown (mvT hZ w1) (mvT hZ w2) (mvT hZ w4) hy (backOf (W := W) K hZ w4 w3 hf hl) (g := g) hg hsize (Steps.refl _) (a := b) (argsL := argsL) (rest := rest) hlen hstack hW hdg (fun _ _ => ⟨rfl, eT, hcl, hsl⟩)
  dsimp only [Pt.U, Pt.locs, Pt.cells, Pt.slots] at X1 l1 y1 z1 st hQ
  subst l1 y1 z1
  exact ⟨v, T1, Lc, X1, hQ, fun t k => st.trans k⟩
/-- an instance method by its contract -/
theorem own_callV (X : Stand p l e R s m args below meth c T locs cells slots) (hx : p.tables.exec = Jvm.exec) (hZ : Z.Warmed39 s.vm) {own : String} {index : Nat} {y : MethodName} {bytes : ByteArray} {maxL : Nat} {ret : Option FieldType} (hown : s.vm.findClass own = some m.cls)
    (w1 : (Jvm.Cond.methodLink own index y).before a0 Z = true) (w2 : (Jvm.Cond.declares y).before a0 Z = true) (w5 : (Jvm.Cond.selects y.cls y y).before a0 Z = true) (w6 : (Jvm.Cond.instanceMethod y).before a0 Z = true) (w3 : (Jvm.Cond.initialized y.cls).before a0 Z = true) (w4 : (Jvm.Cond.code y bytes maxL ret).before a0 Z = true) (hy : y.cls ≠ "java/lang/invoke/MethodHandle" ∧ y.cls ≠ "java/lang/invoke/VarHandle")
    {rm : Room} {b : Addr} {argsL rest : List Value} {Q : Option Value → Heap → List Loc → Prop}
    (K : MetFree l y (head1 [Jvm.Cond.code y bytes maxL ret] rm) (fun a U => a = (.ref b :: argsL).toArray ∧ Z.Warmed39 U.vm ∧ U.heap = h0) (fun _ _ _ _ _ => True) (fun _ U o U' => ∃ v L, o = .returned v ∧ Q v U'.heap L ∧ FrameEnd U o U' L rm.cells rm.slots))
    (W : Nat) (hf : rm.frames + 1 ≤ R.frames) (hl : W + (maxL + 11) + rm.locals ≤ R.locals) (eT : T.heap = h0) (hcl : cells + rm.cells ≤ R.cells) (hsl : slots + rm.slots ≤ R.slots) (Ex : Exa Z h0 b y.cls)
    {g : JFrame} (hg : g.method = m) (hsize : g.locals.size = c.maxLocals) (hlen : ∀ sig, parseMethodDescriptor y.desc = some sig → argsL.length = sig.parameters.length) (hstack : g.stack = argsL.reverse ++ .ref b :: rest) (hW : 2 * g.monitorRoom + (rest.map fun v => v.category).sum ≤ W) (hdg : decode c.code g.pc = .ok (.invokevirtual index, 3)) :
    ∃ (v : Option Value) (T' : State) (L : List Loc), Stand p l e R s m args below meth c T' (locs ++ L) (cells + rm.cells) (slots + rm.slots) ∧ Q v T'.heap L ∧ ∀ t, Steps p.tables e below (T'.setTop { g with pc := g.pc + 3, stack := v.toList ++ rest }) t → Steps p.tables e below (T.setTop g) t := by
  obtain ⟨cq, kq, q1, q2, q3⟩ := isOf hZ eT Ex
  obtain ⟨v, _, ⟨T1, L1, k1, n1⟩, -, X1, ⟨Lc, hQ, l1, y1, z1⟩, st⟩ := X.virtualBack hx (y := y) (z := y) hown (mvT hZ w1) (mvT hZ w2) (notFace_of_selects (args := #[]) (mvT hZ w5)) (mvT hZ w5) (mvT hZ w6) hy (backOf (W := W) K hZ w4 w3 hf hl) q1 q3 (g := g) hg hsize (Steps.refl _) (argsL := argsL) (rest := rest) hlen hstack hW hdg (fun _ _ => ⟨rfl, eT, hcl, hsl⟩)
  dsimp only [Pt.U, Pt.locs, Pt.cells, Pt.slots] at X1 l1 y1 z1 st hQ
  subst l1 y1 z1
  exact ⟨v, T1, Lc, X1, hQ, fun t k => st.trans k⟩
/-- a private method, called by invokevirtual -/
theorem own_callPr (X : Stand p l e R s m args below meth c T locs cells slots) (hx : p.tables.exec = Jvm.exec) (hZ : Z.Warmed39 s.vm) {own : String} {index kk : Nat} {y : MethodName} {bytes : ByteArray} {maxL : Nat} {ret : Option FieldType} (hown : s.vm.findClass own = some m.cls)
    (w1 : (Jvm.Cond.methodLink own index y).before a0 Z = true) (w2 : (Jvm.Cond.privateMethod y).before a0 Z = true) (w5 : (Jvm.Cond.instantiable y.cls kk).before a0 Z = true) (w6 : (Jvm.Cond.instanceMethod y).before a0 Z = true) (w3 : (Jvm.Cond.initialized y.cls).before a0 Z = true) (w4 : (Jvm.Cond.code y bytes maxL ret).before a0 Z = true) (hy : y.cls ≠ "java/lang/invoke/MethodHandle" ∧ y.cls ≠ "java/lang/invoke/VarHandle")
    {rm : Room} {b : Addr} {argsL rest : List Value} {Q : Option Value → Heap → List Loc → Prop}
    (K : MetFree l y (head1 [Jvm.Cond.code y bytes maxL ret] rm) (fun a U => a = (.ref b :: argsL).toArray ∧ Z.Warmed39 U.vm ∧ U.heap = h0) (fun _ _ _ _ _ => True) (fun _ U o U' => ∃ v L, o = .returned v ∧ Q v U'.heap L ∧ FrameEnd U o U' L rm.cells rm.slots))
    (W : Nat) (hf : rm.frames + 1 ≤ R.frames) (hl : W + (maxL + 11) + rm.locals ≤ R.locals) (eT : T.heap = h0) (hcl : cells + rm.cells ≤ R.cells) (hsl : slots + rm.slots ≤ R.slots) (Ex : Exa Z h0 b y.cls)
    {g : JFrame} (hg : g.method = m) (hsize : g.locals.size = c.maxLocals) (hlen : ∀ sig, parseMethodDescriptor y.desc = some sig → argsL.length = sig.parameters.length) (hstack : g.stack = argsL.reverse ++ .ref b :: rest) (hW : 2 * g.monitorRoom + (rest.map fun v => v.category).sum ≤ W) (hdg : decode c.code g.pc = .ok (.invokevirtual index, 3)) :
    ∃ (v : Option Value) (T' : State) (L : List Loc), Stand p l e R s m args below meth c T' (locs ++ L) (cells + rm.cells) (slots + rm.slots) ∧ Q v T'.heap L ∧ ∀ t, Steps p.tables e below (T'.setTop { g with pc := g.pc + 3, stack := v.toList ++ rest }) t → Steps p.tables e below (T.setTop g) t := by
  obtain ⟨cq, q, q'⟩ := Ex.cell
  have w5' : (Jvm.Cond.instantiable y.cls kk).before args s = true := mvT hZ w5
  obtain ⟨ci, ki, i1, i2, -, i4, -⟩ := Cond.instantiable_spec w5'
  have ni : ki.isInterface = false := by
    cases hq : ki.isInterface with
    | false => rfl
    | true => rw [hq] at i4; exact absurd i4 (by simp)
  have hp : s.PrivateAt y := Cond.privateMethod_at (mvP hZ w2 (args := #[]))
  have hsel : (Jvm.Cond.selects y.cls y y).before args s = true := selects_self_of_private i1 i2 ni hp (mvT hZ w6) hy
  obtain ⟨v, _, ⟨T1, L1, k1, n1⟩, -, X1, ⟨Lc, hQ, l1, y1, z1⟩, st⟩ := X.privateBack hx (y := y) hown (mvT hZ w1) (mvT hZ w6) hsel hp (mvT hZ w4) hy (backOf (W := W) K hZ w4 w3 hf hl) (g := g) hg hsize (Steps.refl _) (a := b) (by rw [eT]; exact q) q' (argsL := argsL) (rest := rest) hlen hstack hW hdg (fun _ _ => ⟨rfl, eT, hcl, hsl⟩)
  dsimp only [Pt.U, Pt.locs, Pt.cells, Pt.slots] at X1 l1 y1 z1 st hQ
  subst l1 y1 z1
  exact ⟨v, T1, Lc, X1, hQ, fun t k => st.trans k⟩
theorem ownA.arv {a : Addr} {ty : FieldType} {n : Nat} {f : Nat → Value} (d : Value) (V : ownA Z h a ty n f) : ∃ k, Arv Z h a k ty (Int32.ofNat n) ((List.range n).map f) d := by
  obtain ⟨cl, A, S, q, H⟩ := V
  have g : ∀ i, i < n → ((List.range n).map f).getD i d = f i := fun i hi => by simp [List.getD_eq_getElem?_getD, hi]
  refine ⟨_, cl, A, rfl, by rw [S, own_n32 q], own_nn q, fun i hi => ?_, fun i hi => ?_⟩
  · rw [g i (by omega)]; exact (H i (by omega)).1
  · rw [g i (by omega)]; exact (H i (by omega)).2
theorem ownA.ofArv {a : Addr} {k : ClassId} {ty : FieldType} {n : Nat} {vs : List Value} {d : Value} (q : n < 2147483648) (V : Arv Z h a k ty (Int32.ofNat n) vs d) : ownA Z h a ty n (fun i => vs.getD i d) := by
  obtain ⟨cl, A, -, S, -, H, G⟩ := V
  rw [own_n32 q] at S
  exact ⟨cl, A, S, q, fun i hi => ⟨H i (by omega), G i (by omega)⟩⟩
end Core2
theorem own_idx (j : Int32) (n : Nat) (q0 : 0 ≤ j.toInt) (q1 : j.toInt < n) : ∃ i, i < n ∧ j = Int32.ofNat i := by
  have q2 := j.toInt_lt
  refine ⟨j.toInt.toNat, by omega, ?_⟩
  apply Int32.toInt_inj.mp
  rw [Int32.toInt_ofNat_of_lt (by omega)]
  omega
theorem own_ltn {i n : Nat} (q : i < n) (hn : n < 2147483648) : Int32.ofNat i < Int32.ofNat n := by
  rw [Int32.lt_iff_toInt_lt, Int32.toInt_ofNat_of_lt (by omega), Int32.toInt_ofNat_of_lt hn]
  omega
def ownNil (h0 : Heap) (n0 : Nat) (v : Option Value) (h : Heap) (L : List Loc) : Prop := v = none ∧ Fr n0 L ∧ h = h0
def ownSome (h0 : Heap) (n0 : Nat) (v : Option Value) (h : Heap) (L : List Loc) : Prop := ∃ b, v = some (.ref b) ∧ Fr n0 L ∧ Keep h0 h []
def ownMoved (Z : State) (o a : Addr) (ps : Int32) (w : Option Value → Prop) (h0 : Heap) (n0 : Nat) (v : Option Value) (h : Heap) (L : List Loc) : Prop := w v ∧ Fr n0 L ∧ Keep h0 h [o] ∧ Fld Z h o "com/example/oyster/oyster/engine/Bytes$In" "bytes" "[B" (.ref a) ∧ Fld Z h o "com/example/oyster/oyster/engine/Bytes$In" "position" "I" (.int ps)
theorem own_sub {a b : Nat} (q : b ≤ a) (hb : a < 2147483648) : Int32.ofNat a - Int32.ofNat b = Int32.ofNat (a - b) := by
  apply Int32.toInt_inj.mp
  have e := c_isub (Int32.ofNat a) (Int32.ofNat b)
  have r := (Int32.ofNat a - Int32.ofNat b).toInt_lt
  have r' := (Int32.ofNat a - Int32.ofNat b).le_toInt
  rw [Int32.toInt_ofNat_of_lt (by omega), Int32.toInt_ofNat_of_lt (by omega)] at e
  rw [Int32.toInt_ofNat_of_lt (by omega)]
  omega
theorem own_le {a b : Nat} (q : b ≤ a) (ha : a < 2147483648) : ¬ (Int32.ofNat a < Int32.ofNat b) := by
  rw [Int32.lt_iff_toInt_lt, Int32.toInt_ofNat_of_lt (by omega), Int32.toInt_ofNat_of_lt (by omega)]
  omega
theorem own_and7 (x : Int32) : ∃ a, a < 8 ∧ x &&& (7 : Int32) = Int32.ofNat a := by
  have q := c_and x (7 : Int32) (by decide)
  rw [show (7 : Int32).toInt = 7 from rfl] at q
  refine own_idx _ 8 q.1 ?_
  omega
theorem own_rem (x : Int32) (d : Nat) (h0 : 0 < d) (h1 : d < 2147483648) : ∃ a, a < d ∧ (x &&& (2147483647 : Int32)) % Int32.ofNat d = Int32.ofNat a := by
  have q := (c_and x (2147483647 : Int32) (by decide)).1
  have e : (Int32.ofNat d).toInt = d := Int32.toInt_ofNat_of_lt h1
  have q2 := (c_iremV (x &&& (2147483647 : Int32)) (Int32.ofNat d)).1 q (by rw [e]; omega)
  rw [e] at q2
  exact own_idx _ d q2.1 q2.2.1
theorem own_nz {d : Nat} (h0 : 0 < d) (h1 : d < 2147483648) : Int32.ofNat d ≠ 0 := fun q => by
  have e : (Int32.ofNat d).toInt = d := Int32.toInt_ofNat_of_lt h1
  rw [q, show (0 : Int32).toInt = 0 from rfl] at e
  omega
theorem ownA.byte {Z : State} {h : Heap} {a : Addr} {n i : Nat} {f : Nat → Value} (V : ownA Z h a .byte n f) (hi : i < n) : ∃ v : Int32, f i = .int v := by
  obtain ⟨c, A, S, q, H⟩ := V
  have q := (H i hi).2
  generalize f i = w at q
  cases w <;> first | exact ⟨_, rfl⟩ | simp [fits] at q
theorem d1_0 : decode prog_7_method_1_code 0 = .ok (.aload_n 0, 1) := by decide +kernel
theorem d1_1 : decode prog_7_method_1_code 1 = .ok (.invokespecial 1, 3) := by decide +kernel
theorem d1_4 : decode prog_7_method_1_code 4 = .ok (.aload_n 0, 1) := by decide +kernel
theorem d1_5 : decode prog_7_method_1_code 5 = .ok (.aload_n 1, 1) := by decide +kernel
theorem d1_6 : decode prog_7_method_1_code 6 = .ok (.putfield 7, 3) := by decide +kernel
theorem d1_9 : decode prog_7_method_1_code 9 = .ok (.aload_n 0, 1) := by decide +kernel
theorem d1_10 : decode prog_7_method_1_code 10 = .ok (.iload_n 2, 1) := by decide +kernel
theorem d1_11 : decode prog_7_method_1_code 11 = .ok (.putfield 13, 3) := by decide +kernel
theorem d1_14 : decode prog_7_method_1_code 14 = .ok (.return_, 1) := by decide +kernel
abbrev R1 : Room := { frames := 1, cells := 0, slots := 0, locals := 12 }
theorem pn_1 : plainName "com/example/oyster/oyster/engine/Bytes$In" = true := by first | (simp [plainName, overriddenIn]; done) | decide +kernel
theorem ef_1 (m : MethodId) (x0 : Addr) (x1 : Addr) (x2 : Int32) : entryFrame m #[(.ref x0), (.ref x1), (.int x2)] 3 = mkF m 0 #[.val (.ref x0), .val (.ref x1), .val (.int x2)] [] := by first | (simp [entryFrame, mkF, argsToLocals, Value.category]; done) | rfl
set_option maxRecDepth 65536 in
set_option maxHeartbeats 40000000 in
theorem rm1 (l : Launch) (Z : State) (a0 : Array Value) (hw : ∀ d ∈ tables_1, d.before a0 Z = true) (x0 x1 : Addr) (x2 : Int32) (h0 : Heap) (n0 : Nat) (Z0 : n0 ≤ h0.size) (gz_x0 : n0 ≤ x0) (E0 : Exa Z h0 x0 "com/example/oyster/oyster/engine/Bytes$In") (F1 : Fld Z h0 x0 "com/example/oyster/oyster/engine/Bytes$In" "bytes" "[B" .null) (F2 : Fld Z h0 x0 "com/example/oyster/oyster/engine/Bytes$In" "position" "I" (.int 0)) :
    MetFree l (⟨"com/example/oyster/oyster/engine/Bytes$In", "<init>", "([BI)V"⟩ : MethodName) (head1 [Jvm.Cond.code (⟨"com/example/oyster/oyster/engine/Bytes$In", "<init>", "([BI)V"⟩ : MethodName) prog_7_method_1_code 3 none] R1) (fun a U => a = #[(.ref x0), (.ref x1), (.int x2)] ∧ Z.Warmed39 U.vm ∧ U.heap = h0) (fun _ _ _ _ _ => True) (fun _ U o U' => ∃ v L, o = .returned v ∧ ownMoved Z x0 x1 x2 (fun v => v = none) h0 n0 v U'.heap L ∧ FrameEnd U o U' L R1.cells R1.slots) := by
  refine MetFree.of_bodySF (plainFor_of_name pn_1) hisR ?_
  intro p e s m args below meth c s₁ Bd hml0 hP hK
  obtain ⟨rfl, hZ, hh⟩ := hP
  have hx := Bd.exec
  have hby := Bd.bytes
  have hml : c.maxLocals = 3 := hml0
  have hown : s.vm.findClass "com/example/oyster/oyster/engine/Bytes$In" = some m.cls := findClass_of_methodNamed Bd.named
  have hnm := (name_of_methodNamed Bd.named Bd.method).1
  have hret := Bd.returns
  have hlk : meth.locks = false := BodyLoose.notSynchronized Bd
  have X0 : Stand p l e R1 s m #[(.ref x0), (.ref x1), (.int x2)] below meth c s₁ [] 0 0 := Stand.of_body Bd
  have e0 : s₁.heap = h0 := by rw [← hh, Bd.state]; rfl
  have N0 := Fr.nil n0
  show ownGo p.tables e below s₁ (entryFrame m #[(.ref x0), (.ref x1), (.int x2)] 3) (ownDone s (ownMoved Z x0 x1 x2 (fun v => v = none) h0 n0) R1.cells R1.slots)
  rw [ef_1 m x0 x1 x2]
  have K0 : Keep h0 h0 [x0] := Keep.refl _ _
  show ownGo p.tables e below s₁ (mkF m 0 #[.val (.ref x0), .val (.ref x1), .val (.int x2)] []) _
  refine ownGo.st (fun _ k => XS.aloadN X0.here hx rfl (hb hby d1_0) rfl rfl k) ?_
  show ownGo p.tables e below s₁ (mkF m 1 #[.val (.ref x0), .val (.ref x1), .val (.int x2)] [(.ref x0)]) _
  obtain ⟨T1, X1, e1, st1⟩ := initO X0 hx hZ hown (own_at hw 7 rfl) (own_at hw 8 rfl) (own_at hw 9 rfl) e0 (g := (mkF m 1 #[.val (.ref x0), .val (.ref x1), .val (.int x2)] [(.ref x0)])) rfl (by rw [hml]; rfl) rfl (hb hby d1_1) (by decide) (W := 0) (by show 2 * 0 + _ ≤ _; exact Nat.le_of_eq rfl) (by decide)
  refine ownGo.st (st1) ?_
  show ownGo p.tables e below T1 (mkF m 4 #[.val (.ref x0), .val (.ref x1), .val (.int x2)] []) _
  refine ownGo.st (fun _ k => XS.aloadN X1.here hx rfl (hb hby d1_4) rfl rfl k) ?_
  show ownGo p.tables e below T1 (mkF m 5 #[.val (.ref x0), .val (.ref x1), .val (.int x2)] [(.ref x0)]) _
  refine ownGo.st (fun _ k => XS.aloadN X1.here hx rfl (hb hby d1_5) rfl rfl k) ?_
  show ownGo p.tables e below T1 (mkF m 6 #[.val (.ref x0), .val (.ref x1), .val (.int x2)] [(.ref x1), (.ref x0)]) _
  obtain ⟨T2, h2, X2, e2, W2, st2⟩ := putF X1 hx hZ hown (host := "") (Or.inl (own_at hw 10 rfl)) Via.refl e1 F1 E0 (Or.inr ⟨(own_at hw 11 rfl), rfl, hnm⟩) (own_at hw 2 rfl) (ty := (.array .byte)) (by decide) rfl rfl (g := (mkF m 6 #[.val (.ref x0), .val (.ref x1), .val (.int x2)] [(.ref x1), (.ref x0)])) rfl rfl (hb hby d1_6)
  have E0_3 := E0.wr W2
  have F1_4 := F1.same W2
  have F2_5 := F2.other W2 (Or.inr (slot_ne (Or.inl (own_at hw 13 rfl)) (Or.inr (own_at hw 11 rfl)) (by decide) (t := .int) (t' := (.array .byte)) (by decide) (by decide)))
  have N2 := Fr.snoc X2 N0 gz_x0
  have Z2 : n0 ≤ h2.size := Nat.le_trans Z0 (Nat.le_of_eq W2.size.symm)
  have K2 := K0.wr W2 (Or.inl (List.mem_singleton.mpr rfl))
  refine ownGo.st (st2) ?_
  show ownGo p.tables e below T2 (mkF m 9 #[.val (.ref x0), .val (.ref x1), .val (.int x2)] []) _
  refine ownGo.st (fun _ k => XS.aloadN X2.here hx rfl (hb hby d1_9) rfl rfl k) ?_
  show ownGo p.tables e below T2 (mkF m 10 #[.val (.ref x0), .val (.ref x1), .val (.int x2)] [(.ref x0)]) _
  refine ownGo.st (fun _ k => XS.iloadN X2.here hx rfl (hb hby d1_10) rfl k) ?_
  show ownGo p.tables e below T2 (mkF m 11 #[.val (.ref x0), .val (.ref x1), .val (.int x2)] [(.int x2), (.ref x0)]) _
  obtain ⟨T6, h6, X6, e6, W6, st6⟩ := putF X2 hx hZ hown (host := "") (Or.inl (own_at hw 12 rfl)) Via.refl e2 F2_5 E0_3 (Or.inl (own_at hw 13 rfl)) (own_at hw 2 rfl) (ty := .int) (by decide) rfl rfl (g := (mkF m 11 #[.val (.ref x0), .val (.ref x1), .val (.int x2)] [(.int x2), (.ref x0)])) rfl rfl (hb hby d1_11)
  have E0_7 := E0_3.wr W6
  have F1_8 := F1_4.other W6 (Or.inr (slot_ne (Or.inr (own_at hw 11 rfl)) (Or.inl (own_at hw 13 rfl)) (by decide) (t := (.array .byte)) (t' := .int) (by decide) (by decide)))
  have F2_9 := F2_5.same W6
  have N6 := Fr.snoc X6 N2 gz_x0
  have Z6 : n0 ≤ h6.size := Nat.le_trans Z2 (Nat.le_of_eq W6.size.symm)
  have K6 := K2.wr W6 (Or.inl (List.mem_singleton.mpr rfl))
  refine ownGo.st (st6) ?_
  show ownGo p.tables e below T6 (mkF m 14 #[.val (.ref x0), .val (.ref x1), .val (.int x2)] []) _
  exact own_retV X6 hx hlk hret (hb hby d1_14) ⟨rfl, N6, by rw [e6]; exact K6, by rw [e6]; exact F1_8, by rw [e6]; exact F2_9⟩ (by decide) (by decide)
def own_end (ps : Int32) (n : Nat) : Int32 := if ps = Int32.ofNat n then 1 else 0
theorem d3_0 : decode prog_7_method_3_code 0 = .ok (.aload_n 0, 1) := by decide +kernel
theorem d3_1 : decode prog_7_method_3_code 1 = .ok (.getfield 13, 3) := by decide +kernel
theorem d3_4 : decode prog_7_method_3_code 4 = .ok (.aload_n 0, 1) := by decide +kernel
theorem d3_5 : decode prog_7_method_3_code 5 = .ok (.getfield 7, 3) := by decide +kernel
theorem d3_8 : decode prog_7_method_3_code 8 = .ok (.arraylength, 1) := by decide +kernel
theorem d3_9 : decode prog_7_method_3_code 9 = .ok (.if_icmp .ne 7, 3) := by decide +kernel
theorem d3_12 : decode prog_7_method_3_code 12 = .ok (.iconst 1, 1) := by decide +kernel
theorem d3_13 : decode prog_7_method_3_code 13 = .ok (.goto 4, 3) := by decide +kernel
theorem d3_16 : decode prog_7_method_3_code 16 = .ok (.iconst 0, 1) := by decide +kernel
theorem d3_17 : decode prog_7_method_3_code 17 = .ok (.ireturn, 1) := by decide +kernel
abbrev R3 : Room := { frames := 0, cells := 0, slots := 0, locals := 0 }
theorem pn_3 : plainName "com/example/oyster/oyster/engine/Bytes$In" = true := by first | (simp [plainName, overriddenIn]; done) | decide +kernel
theorem ef_3 (m : MethodId) (x0 : Addr) : entryFrame m #[(.ref x0)] 1 = mkF m 0 #[.val (.ref x0)] [] := by first | (simp [entryFrame, mkF, argsToLocals, Value.category]; done) | rfl
set_option maxRecDepth 65536 in
set_option maxHeartbeats 40000000 in
theorem rm3 (l : Launch) (Z : State) (a0 : Array Value) (hw : ∀ d ∈ tables_1, d.before a0 Z = true) (x0 a : Addr) (ps : Int32) (n : Nat) (f : Nat → Value) (h0 : Heap) (n0 : Nat) (F1 : Fld Z h0 x0 "com/example/oyster/oyster/engine/Bytes$In" "bytes" "[B" (.ref a)) (F2 : Fld Z h0 x0 "com/example/oyster/oyster/engine/Bytes$In" "position" "I" (.int ps)) (V : ownA Z h0 a .byte n f) :
    MetFree l (⟨"com/example/oyster/oyster/engine/Bytes$In", "atEnd", "()Z"⟩ : MethodName) (head1 [Jvm.Cond.code (⟨"com/example/oyster/oyster/engine/Bytes$In", "atEnd", "()Z"⟩ : MethodName) prog_7_method_3_code 1 (some .boolean)] R3) (fun a U => a = #[(.ref x0)] ∧ Z.Warmed39 U.vm ∧ U.heap = h0) (fun _ _ _ _ _ => True) (fun _ U o U' => ∃ v L, o = .returned v ∧ ownPure (.int (own_end ps n)) h0 n0 v U'.heap L ∧ FrameEnd U o U' L R3.cells R3.slots) := by
  refine MetFree.of_bodySF (plainFor_of_name pn_3) hisR ?_
  intro p e s m args below meth c s₁ Bd hml0 hP hK
  obtain ⟨rfl, hZ, hh⟩ := hP
  have hx := Bd.exec
  have hby := Bd.bytes
  have hml : c.maxLocals = 1 := hml0
  have hown : s.vm.findClass "com/example/oyster/oyster/engine/Bytes$In" = some m.cls := findClass_of_methodNamed Bd.named
  have hnm := (name_of_methodNamed Bd.named Bd.method).1
  have hret := Bd.returns
  have hlk : meth.locks = false := BodyLoose.notSynchronized Bd
  have X0 : Stand p l e R3 s m #[(.ref x0)] below meth c s₁ [] 0 0 := Stand.of_body Bd
  have e0 : s₁.heap = h0 := by rw [← hh, Bd.state]; rfl
  have N0 := Fr.nil n0
  show ownGo p.tables e below s₁ (entryFrame m #[(.ref x0)] 1) (ownDone s (ownPure (.int (own_end ps n)) h0 n0) R3.cells R3.slots)
  rw [ef_3 m x0]
  show ownGo p.tables e below s₁ (mkF m 0 #[.val (.ref x0)] []) _
  refine ownGo.st (fun _ k => XS.aloadN X0.here hx rfl (hb hby d3_0) rfl rfl k) ?_
  show ownGo p.tables e below s₁ (mkF m 1 #[.val (.ref x0)] [(.ref x0)]) _
  obtain ⟨T10, X10, e10, st10⟩ := getF X0 hx hZ hown (host := "") (Or.inl (own_at hw 12 rfl)) Via.refl e0 F2 (g := (mkF m 1 #[.val (.ref x0)] [(.ref x0)])) rfl rfl (hb hby d3_1)
  refine ownGo.st (st10) ?_
  show ownGo p.tables e below T10 (mkF m 4 #[.val (.ref x0)] [(.int ps)]) _
  refine ownGo.st (fun _ k => XS.aloadN X10.here hx rfl (hb hby d3_4) rfl rfl k) ?_
  show ownGo p.tables e below T10 (mkF m 5 #[.val (.ref x0)] [(.ref x0), (.int ps)]) _
  obtain ⟨T11, X11, e11, st11⟩ := getF X10 hx hZ hown (host := "") (Or.inl (own_at hw 10 rfl)) Via.refl e10 F1 (g := (mkF m 5 #[.val (.ref x0)] [(.ref x0), (.int ps)])) rfl rfl (hb hby d3_5)
  refine ownGo.st (st11) ?_
  show ownGo p.tables e below T11 (mkF m 8 #[.val (.ref x0)] [(.ref a), (.int ps)]) _
  refine ownGo.st (own_alen X11 hx hZ e11 V (g := (mkF m 8 #[.val (.ref x0)] [(.ref a), (.int ps)])) rfl rfl (hb hby d3_8)) ?_
  show ownGo p.tables e below T11 (mkF m 9 #[.val (.ref x0)] [(.int (Int32.ofNat n)), (.int ps)]) _
  by_cases hc : ps = (Int32.ofNat n)
  · refine ownGo.st (fun _ k => XS.icmpNo X11.here hx rfl (hb hby d3_9) rfl (teq hc).2 k) ?_
    show ownGo p.tables e below T11 (mkF m 12 #[.val (.ref x0)] []) _
    refine ownGo.st (fun _ k => XS.iconst X11.here hx rfl (hb hby d3_12)  k) ?_
    show ownGo p.tables e below T11 (mkF m 13 #[.val (.ref x0)] [(.int (1 : Int32))]) _
    refine ownGo.st (fun _ k => XS.goto X11.here hx rfl (pc0 := 13) (pc' := 17) rfl (hb hby d3_13) (by decide) (by decide) k) ?_
    show ownGo p.tables e below T11 (mkF m 17 #[.val (.ref x0)] [(.int (1 : Int32))]) _
    exact own_retZ X11 hx hlk hret (hb hby d3_17) (by first | exact Or.inl rfl | exact Or.inr rfl) ⟨congrArg (fun z => some (Value.int z)) (if_pos hc).symm, N0, e11⟩ (Nat.le_refl _) (Nat.le_refl _)
  · refine ownGo.st (fun _ k => XS.icmpYes X11.here hx rfl (pc0 := 9) (pc' := 16) rfl (hb hby d3_9) rfl (feq hc).2 (by decide) (by decide) k) ?_
    show ownGo p.tables e below T11 (mkF m 16 #[.val (.ref x0)] []) _
    refine ownGo.st (fun _ k => XS.iconst X11.here hx rfl (hb hby d3_16)  k) ?_
    show ownGo p.tables e below T11 (mkF m 17 #[.val (.ref x0)] [(.int (0 : Int32))]) _
    exact own_retZ X11 hx hlk hret (hb hby d3_17) (by first | exact Or.inl rfl | exact Or.inr rfl) ⟨congrArg (fun z => some (Value.int z)) (if_neg hc).symm, N0, e11⟩ (Nat.le_refl _) (Nat.le_refl _)
theorem d5_0 : decode prog_7_method_9_code 0 = .ok (.iload_n 1, 1) := by decide +kernel
theorem d5_1 : decode prog_7_method_9_code 1 = .ok (.ifCond .lt 17, 3) := by decide +kernel
theorem d5_4 : decode prog_7_method_9_code 4 = .ok (.iload_n 1, 1) := by decide +kernel
theorem d5_5 : decode prog_7_method_9_code 5 = .ok (.aload_n 0, 1) := by decide +kernel
theorem d5_6 : decode prog_7_method_9_code 6 = .ok (.getfield 7, 3) := by decide +kernel
theorem d5_9 : decode prog_7_method_9_code 9 = .ok (.arraylength, 1) := by decide +kernel
theorem d5_10 : decode prog_7_method_9_code 10 = .ok (.aload_n 0, 1) := by decide +kernel
theorem d5_11 : decode prog_7_method_9_code 11 = .ok (.getfield 13, 3) := by decide +kernel
theorem d5_14 : decode prog_7_method_9_code 14 = .ok (.isub, 1) := by decide +kernel
theorem d5_15 : decode prog_7_method_9_code 15 = .ok (.if_icmp .le 9, 3) := by decide +kernel
theorem d5_24 : decode prog_7_method_9_code 24 = .ok (.return_, 1) := by decide +kernel
abbrev R5 : Room := { frames := 0, cells := 0, slots := 0, locals := 0 }
theorem pn_5 : plainName "com/example/oyster/oyster/engine/Bytes$In" = true := by first | (simp [plainName, overriddenIn]; done) | decide +kernel
theorem ef_5 (m : MethodId) (x0 : Addr) (x1 : Int32) : entryFrame m #[(.ref x0), (.int x1)] 2 = mkF m 0 #[.val (.ref x0), .val (.int x1)] [] := by first | (simp [entryFrame, mkF, argsToLocals, Value.category]; done) | rfl
set_option maxRecDepth 65536 in
set_option maxHeartbeats 40000000 in
theorem rm5 (l : Launch) (Z : State) (a0 : Array Value) (hw : ∀ d ∈ tables_1, d.before a0 Z = true) (x0 : Addr) (x1 : Int32) (a : Addr) (ps : Int32) (n : Nat) (f : Nat → Value) (h0 : Heap) (n0 : Nat) (F1 : Fld Z h0 x0 "com/example/oyster/oyster/engine/Bytes$In" "bytes" "[B" (.ref a)) (F2 : Fld Z h0 x0 "com/example/oyster/oyster/engine/Bytes$In" "position" "I" (.int ps)) (V : ownA Z h0 a .byte n f) (q1 : ¬ (x1 < (0 : Int32))) (q2 : ¬ (Int32.ofNat n - ps < x1)) :
    MetFree l (⟨"com/example/oyster/oyster/engine/Bytes$In", "need", "(I)V"⟩ : MethodName) (head1 [Jvm.Cond.code (⟨"com/example/oyster/oyster/engine/Bytes$In", "need", "(I)V"⟩ : MethodName) prog_7_method_9_code 2 none] R5) (fun a U => a = #[(.ref x0), (.int x1)] ∧ Z.Warmed39 U.vm ∧ U.heap = h0) (fun _ _ _ _ _ => True) (fun _ U o U' => ∃ v L, o = .returned v ∧ ownNil h0 n0 v U'.heap L ∧ FrameEnd U o U' L R5.cells R5.slots) := by
  refine MetFree.of_bodySF (plainFor_of_name pn_5) hisR ?_
  intro p e s m args below meth c s₁ Bd hml0 hP hK
  obtain ⟨rfl, hZ, hh⟩ := hP
  have hx := Bd.exec
  have hby := Bd.bytes
  have hml : c.maxLocals = 2 := hml0
  have hown : s.vm.findClass "com/example/oyster/oyster/engine/Bytes$In" = some m.cls := findClass_of_methodNamed Bd.named
  have hnm := (name_of_methodNamed Bd.named Bd.method).1
  have hret := Bd.returns
  have hlk : meth.locks = false := BodyLoose.notSynchronized Bd
  have X0 : Stand p l e R5 s m #[(.ref x0), (.int x1)] below meth c s₁ [] 0 0 := Stand.of_body Bd
  have e0 : s₁.heap = h0 := by rw [← hh, Bd.state]; rfl
  have N0 := Fr.nil n0
  show ownGo p.tables e below s₁ (entryFrame m #[(.ref x0), (.int x1)] 2) (ownDone s (ownNil h0 n0) R5.cells R5.slots)
  rw [ef_5 m x0 x1]
  show ownGo p.tables e below s₁ (mkF m 0 #[.val (.ref x0), .val (.int x1)] []) _
  refine ownGo.st (fun _ k => XS.iloadN X0.here hx rfl (hb hby d5_0) rfl k) ?_
  show ownGo p.tables e below s₁ (mkF m 1 #[.val (.ref x0), .val (.int x1)] [(.int x1)]) _
  have hc12 : ¬ (x1 < (0 : Int32)) := q1
  refine ownGo.st (fun _ k => XS.ifNo X0.here hx rfl (hb hby d5_1) rfl ((if0 _ _).trans (flt hc12).1) k) ?_
  show ownGo p.tables e below s₁ (mkF m 4 #[.val (.ref x0), .val (.int x1)] []) _
  refine ownGo.st (fun _ k => XS.iloadN X0.here hx rfl (hb hby d5_4) rfl k) ?_
  show ownGo p.tables e below s₁ (mkF m 5 #[.val (.ref x0), .val (.int x1)] [(.int x1)]) _
  refine ownGo.st (fun _ k => XS.aloadN X0.here hx rfl (hb hby d5_5) rfl rfl k) ?_
  show ownGo p.tables e below s₁ (mkF m 6 #[.val (.ref x0), .val (.int x1)] [(.ref x0), (.int x1)]) _
  obtain ⟨T13, X13, e13, st13⟩ := getF X0 hx hZ hown (host := "") (Or.inl (own_at hw 10 rfl)) Via.refl e0 F1 (g := (mkF m 6 #[.val (.ref x0), .val (.int x1)] [(.ref x0), (.int x1)])) rfl rfl (hb hby d5_6)
  refine ownGo.st (st13) ?_
  show ownGo p.tables e below T13 (mkF m 9 #[.val (.ref x0), .val (.int x1)] [(.ref a), (.int x1)]) _
  refine ownGo.st (own_alen X13 hx hZ e13 V (g := (mkF m 9 #[.val (.ref x0), .val (.int x1)] [(.ref a), (.int x1)])) rfl rfl (hb hby d5_9)) ?_
  show ownGo p.tables e below T13 (mkF m 10 #[.val (.ref x0), .val (.int x1)] [(.int (Int32.ofNat n)), (.int x1)]) _
  refine ownGo.st (fun _ k => XS.aloadN X13.here hx rfl (hb hby d5_10) rfl rfl k) ?_
  show ownGo p.tables e below T13 (mkF m 11 #[.val (.ref x0), .val (.int x1)] [(.ref x0), (.int (Int32.ofNat n)), (.int x1)]) _
  obtain ⟨T14, X14, e14, st14⟩ := getF X13 hx hZ hown (host := "") (Or.inl (own_at hw 12 rfl)) Via.refl e13 F2 (g := (mkF m 11 #[.val (.ref x0), .val (.int x1)] [(.ref x0), (.int (Int32.ofNat n)), (.int x1)])) rfl rfl (hb hby d5_11)
  refine ownGo.st (st14) ?_
  show ownGo p.tables e below T14 (mkF m 14 #[.val (.ref x0), .val (.int x1)] [(.int ps), (.int (Int32.ofNat n)), (.int x1)]) _
  refine ownGo.st (fun _ k => XS.isub X14.here hx rfl (hb hby d5_14) rfl k) ?_
  show ownGo p.tables e below T14 (mkF m 15 #[.val (.ref x0), .val (.int x1)] [(.int ((Int32.ofNat n) - ps)), (.int x1)]) _
  have hc15 : ¬ (((Int32.ofNat n) - ps) < x1) := q2
  refine ownGo.st (fun _ k => XS.icmpYes X14.here hx rfl (pc0 := 15) (pc' := 24) rfl (hb hby d5_15) rfl (flt hc15).2.2.2 (by decide) (by decide) k) ?_
  show ownGo p.tables e below T14 (mkF m 24 #[.val (.ref x0), .val (.int x1)] []) _
  exact own_retV X14 hx hlk hret (hb hby d5_24) ⟨rfl, N0, e14⟩ (by decide) (by decide)
theorem d8_0 : decode jdk_65_method_131_code 0 = .ok (.iload_n 1, 1) := by decide +kernel
theorem d8_1 : decode jdk_65_method_131_code 1 = .ok (.iload_n 0, 1) := by decide +kernel
theorem d8_2 : decode jdk_65_method_131_code 2 = .ok (.if_icmp .ge 35, 3) := by decide +kernel
theorem d8_37 : decode jdk_65_method_131_code 37 = .ok (.return_, 1) := by decide +kernel
abbrev R8 : Room := { frames := 0, cells := 0, slots := 0, locals := 0 }
theorem pn_8 : plainName "java/util/Arrays" = true := by first | (simp [plainName, overriddenIn]; done) | decide +kernel
theorem ef_8 (m : MethodId) (x0 : Int32) (x1 : Int32) : entryFrame m #[(.int x0), (.int x1)] 2 = mkF m 0 #[.val (.int x0), .val (.int x1)] [] := by first | (simp [entryFrame, mkF, argsToLocals, Value.category]; done) | rfl
set_option maxRecDepth 65536 in
set_option maxHeartbeats 40000000 in
theorem rm8 (l : Launch) (Z : State) (a0 : Array Value) (hw : ∀ d ∈ tables_1, d.before a0 Z = true) (x0 x1 : Int32) (h0 : Heap) (n0 : Nat) (q : ¬ (x1 < x0)) :
    MetFree l (⟨"java/util/Arrays", "checkLength", "(II)V"⟩ : MethodName) (head1 [Jvm.Cond.code (⟨"java/util/Arrays", "checkLength", "(II)V"⟩ : MethodName) jdk_65_method_131_code 2 none] R8) (fun a U => a = #[(.int x0), (.int x1)] ∧ Z.Warmed39 U.vm ∧ U.heap = h0) (fun _ _ _ _ _ => True) (fun _ U o U' => ∃ v L, o = .returned v ∧ ownNil h0 n0 v U'.heap L ∧ FrameEnd U o U' L R8.cells R8.slots) := by
  refine MetFree.of_bodySF (plainFor_of_name pn_8) hisR ?_
  intro p e s m args below meth c s₁ Bd hml0 hP hK
  obtain ⟨rfl, hZ, hh⟩ := hP
  have hx := Bd.exec
  have hby := Bd.bytes
  have hml : c.maxLocals = 2 := hml0
  have hown : s.vm.findClass "java/util/Arrays" = some m.cls := findClass_of_methodNamed Bd.named
  have hnm := (name_of_methodNamed Bd.named Bd.method).1
  have hret := Bd.returns
  have hlk : meth.locks = false := BodyLoose.notSynchronized Bd
  have X0 : Stand p l e R8 s m #[(.int x0), (.int x1)] below meth c s₁ [] 0 0 := Stand.of_body Bd
  have e0 : s₁.heap = h0 := by rw [← hh, Bd.state]; rfl
  have N0 := Fr.nil n0
  show ownGo p.tables e below s₁ (entryFrame m #[(.int x0), (.int x1)] 2) (ownDone s (ownNil h0 n0) R8.cells R8.slots)
  rw [ef_8 m x0 x1]
  show ownGo p.tables e below s₁ (mkF m 0 #[.val (.int x0), .val (.int x1)] []) _
  refine ownGo.st (fun _ k => XS.iloadN X0.here hx rfl (hb hby d8_0) rfl k) ?_
  show ownGo p.tables e below s₁ (mkF m 1 #[.val (.int x0), .val (.int x1)] [(.int x1)]) _
  refine ownGo.st (fun _ k => XS.iloadN X0.here hx rfl (hb hby d8_1) rfl k) ?_
  show ownGo p.tables e below s₁ (mkF m 2 #[.val (.int x0), .val (.int x1)] [(.int x0), (.int x1)]) _
  have hc16 : ¬ (x1 < x0) := q
  refine ownGo.st (fun _ k => XS.icmpYes X0.here hx rfl (pc0 := 2) (pc' := 37) rfl (hb hby d8_2) rfl (flt hc16).2.1 (by decide) (by decide) k) ?_
  show ownGo p.tables e below s₁ (mkF m 37 #[.val (.int x0), .val (.int x1)] []) _
  exact own_retV X0 hx hlk hret (hb hby d8_37) ⟨rfl, N0, e0⟩ (by decide) (by decide)
theorem d9_0 : decode jdk_29_method_69_code 0 = .ok (.iload_n 0, 1) := by decide +kernel
theorem d9_1 : decode jdk_29_method_69_code 1 = .ok (.iload_n 1, 1) := by decide +kernel
theorem d9_2 : decode jdk_29_method_69_code 2 = .ok (.if_icmp .gt 7, 3) := by decide +kernel
theorem d9_5 : decode jdk_29_method_69_code 5 = .ok (.iload_n 0, 1) := by decide +kernel
theorem d9_6 : decode jdk_29_method_69_code 6 = .ok (.goto 4, 3) := by decide +kernel
theorem d9_9 : decode jdk_29_method_69_code 9 = .ok (.iload_n 1, 1) := by decide +kernel
theorem d9_10 : decode jdk_29_method_69_code 10 = .ok (.ireturn, 1) := by decide +kernel
abbrev R9 : Room := { frames := 0, cells := 0, slots := 0, locals := 0 }
def f9_0 (x0 : Int32) (x1 : Int32) : Int32 := (if x1 < x0 then x1 else x0)
set_option maxRecDepth 65536 in
set_option maxHeartbeats 40000000 in
theorem b9_0 {p : Program} {l : Launch} {e : Env} {s : State} {m : MethodId} {args : Array Value} {below : List Frame} {meth : Method} {c : Code} {T0 : State} {locs : List Loc} {Z : State} {a0 : Array Value} {h0 : Heap} {n0 : Nat} (hx : p.tables.exec = Jvm.exec) (hZ : Z.Warmed39 s.vm) (hw : ∀ d ∈ tables_1, d.before a0 Z = true) (hby : c.code = jdk_29_method_69_code) (hml : c.maxLocals = 2) (hown : s.vm.findClass "java/lang/Math" = some m.cls) (hret : meth.sig.returnType = (some .int)) (hlk : meth.locks = false) (X0 : Stand p l e R9 s m args below meth c T0 locs 0 0) (e0 : T0.heap = h0) (N0 : Fr n0 locs) (x0 : Int32) (x1 : Int32) (r : Int32) (hr : r = f9_0 x0 x1) :
    ownGo p.tables e below T0 (mkF m 0 #[.val (.int x0), .val (.int x1)] []) (ownDone s (ownPure (.int r) h0 n0) 0 0) := by
  have hr0 : r = (if x1 < x0 then x1 else x0) := hr
  refine ownGo.st (fun _ k => XS.iloadN X0.here hx rfl (hb hby d9_0) rfl k) ?_
  show ownGo p.tables e below T0 (mkF m 1 #[.val (.int x0), .val (.int x1)] [(.int x0)]) _
  refine ownGo.st (fun _ k => XS.iloadN X0.here hx rfl (hb hby d9_1) rfl k) ?_
  show ownGo p.tables e below T0 (mkF m 2 #[.val (.int x0), .val (.int x1)] [(.int x1), (.int x0)]) _
  by_cases hc2 : x1 < x0
  · have hr17 := hr0.trans (if_pos hc2)
    refine ownGo.st (fun _ k => XS.icmpYes X0.here hx rfl (pc0 := 2) (pc' := 9) rfl (hb hby d9_2) rfl (tlt hc2).2.2.1 (by decide) (by decide) k) ?_
    show ownGo p.tables e below T0 (mkF m 9 #[.val (.int x0), .val (.int x1)] []) _
    refine ownGo.st (fun _ k => XS.iloadN X0.here hx rfl (hb hby d9_9) rfl k) ?_
    show ownGo p.tables e below T0 (mkF m 10 #[.val (.int x0), .val (.int x1)] [(.int x1)]) _
    exact own_retI X0 hx hlk hret (hb hby d9_10) ⟨congrArg (fun z => some (Value.int z)) hr17.symm, N0, e0⟩ (Nat.le_refl _) (Nat.le_refl _)
  · have hr17 := hr0.trans (if_neg hc2)
    refine ownGo.st (fun _ k => XS.icmpNo X0.here hx rfl (hb hby d9_2) rfl (flt hc2).2.2.1 k) ?_
    show ownGo p.tables e below T0 (mkF m 5 #[.val (.int x0), .val (.int x1)] []) _
    refine ownGo.st (fun _ k => XS.iloadN X0.here hx rfl (hb hby d9_5) rfl k) ?_
    show ownGo p.tables e below T0 (mkF m 6 #[.val (.int x0), .val (.int x1)] [(.int x0)]) _
    refine ownGo.st (fun _ k => XS.goto X0.here hx rfl (pc0 := 6) (pc' := 10) rfl (hb hby d9_6) (by decide) (by decide) k) ?_
    show ownGo p.tables e below T0 (mkF m 10 #[.val (.int x0), .val (.int x1)] [(.int x0)]) _
    exact own_retI X0 hx hlk hret (hb hby d9_10) ⟨congrArg (fun z => some (Value.int z)) hr17.symm, N0, e0⟩ (Nat.le_refl _) (Nat.le_refl _)
abbrev F9 (x0 : Int32) (x1 : Int32) : Int32 := f9_0 x0 x1
theorem ef_9 (m : MethodId) (x0 : Int32) (x1 : Int32) : entryFrame m #[(.int x0), (.int x1)] 2 = mkF m 0 #[.val (.int x0), .val (.int x1)] [] := by first | (simp [entryFrame, mkF, argsToLocals, Value.category]; done) | rfl
set_option maxRecDepth 65536 in
set_option maxHeartbeats 40000000 in
theorem rm9 (l : Launch) (Z : State) (a0 : Array Value) (hw : ∀ d ∈ tables_1, d.before a0 Z = true) (x0 : Int32) (x1 : Int32) (h0 : Heap) (n0 : Nat)  :
    MetFree l (⟨"java/lang/Math", "min", "(II)I"⟩ : MethodName) (head1 [Jvm.Cond.code (⟨"java/lang/Math", "min", "(II)I"⟩ : MethodName) jdk_29_method_69_code 2 (some .int)] R9) (fun a U => a = #[(.int x0), (.int x1)] ∧ Z.Warmed39 U.vm ∧ U.heap = h0) (fun _ _ _ _ _ => True) (fun _ U o U' => ∃ v L, o = .returned v ∧ ownPure (.int (F9 x0 x1)) h0 n0 v U'.heap L ∧ FrameEnd U o U' L R9.cells R9.slots) := by
  refine MetFree.of_bodySF (Jvm.Free.JP.mathPlain rfl (by decide +kernel)) hisR ?_
  intro p e s m args below meth c s₁ Bd hml0 hP hK
  obtain ⟨rfl, hZ, hh⟩ := hP
  have hx := Bd.exec
  have hby := Bd.bytes
  have hml : c.maxLocals = 2 := hml0
  have hown : s.vm.findClass "java/lang/Math" = some m.cls := findClass_of_methodNamed Bd.named
  have hnm := (name_of_methodNamed Bd.named Bd.method).1
  have hret := Bd.returns
  have hlk : meth.locks = false := BodyLoose.notSynchronized Bd
  have X0 : Stand p l e R9 s m #[(.int x0), (.int x1)] below meth c s₁ [] 0 0 := Stand.of_body Bd
  have e0 : s₁.heap = h0 := by rw [← hh, Bd.state]; rfl
  have N0 := Fr.nil n0
  show ownGo p.tables e below s₁ (entryFrame m #[(.int x0), (.int x1)] 2) (ownDone s (ownPure (.int (F9 x0 x1)) h0 n0) R9.cells R9.slots)
  rw [ef_9 m x0 x1]
  exact b9_0 hx hZ hw hby hml hown hret hlk X0 e0 N0 x0 x1 _ rfl
theorem own_min {a b : Nat} (q : b ≤ a) (ha : a < 2147483648) : F9 (Int32.ofNat a) (Int32.ofNat b) = Int32.ofNat b := by
  show (if Int32.ofNat b < Int32.ofNat a then _ else _) = _
  split
  · rfl
  · rename_i z
    rw [Int32.lt_iff_toInt_lt, Int32.toInt_ofNat_of_lt (by omega), Int32.toInt_ofNat_of_lt (by omega)] at z
    rw [show a = b by omega]
theorem d7_0 : decode jdk_65_method_133_code 0 = .ok (.iload_n 1, 1) := by decide +kernel
theorem d7_1 : decode jdk_65_method_133_code 1 = .ok (.iload_n 2, 1) := by decide +kernel
theorem d7_2 : decode jdk_65_method_133_code 2 = .ok (.invokestatic 343, 3) := by decide +kernel
theorem d7_5 : decode jdk_65_method_133_code 5 = .ok (.iload_n 2, 1) := by decide +kernel
theorem d7_6 : decode jdk_65_method_133_code 6 = .ok (.iload_n 1, 1) := by decide +kernel
theorem d7_7 : decode jdk_65_method_133_code 7 = .ok (.isub, 1) := by decide +kernel
theorem d7_8 : decode jdk_65_method_133_code 8 = .ok (.istore_n 3, 1) := by decide +kernel
theorem d7_9 : decode jdk_65_method_133_code 9 = .ok (.iload_n 3, 1) := by decide +kernel
theorem d7_10 : decode jdk_65_method_133_code 10 = .ok (.newarray .byte, 2) := by decide +kernel
theorem d7_12 : decode jdk_65_method_133_code 12 = .ok (.astore 4, 2) := by decide +kernel
theorem d7_14 : decode jdk_65_method_133_code 14 = .ok (.aload_n 0, 1) := by decide +kernel
theorem d7_15 : decode jdk_65_method_133_code 15 = .ok (.iload_n 1, 1) := by decide +kernel
theorem d7_16 : decode jdk_65_method_133_code 16 = .ok (.aload 4, 2) := by decide +kernel
theorem d7_18 : decode jdk_65_method_133_code 18 = .ok (.iconst 0, 1) := by decide +kernel
theorem d7_19 : decode jdk_65_method_133_code 19 = .ok (.aload_n 0, 1) := by decide +kernel
theorem d7_20 : decode jdk_65_method_133_code 20 = .ok (.arraylength, 1) := by decide +kernel
theorem d7_21 : decode jdk_65_method_133_code 21 = .ok (.iload_n 1, 1) := by decide +kernel
theorem d7_22 : decode jdk_65_method_133_code 22 = .ok (.isub, 1) := by decide +kernel
theorem d7_23 : decode jdk_65_method_133_code 23 = .ok (.iload_n 3, 1) := by decide +kernel
theorem d7_24 : decode jdk_65_method_133_code 24 = .ok (.invokestatic 304, 3) := by decide +kernel
theorem d7_27 : decode jdk_65_method_133_code 27 = .ok (.invokestatic 150, 3) := by decide +kernel
theorem d7_30 : decode jdk_65_method_133_code 30 = .ok (.aload 4, 2) := by decide +kernel
theorem d7_32 : decode jdk_65_method_133_code 32 = .ok (.areturn, 1) := by decide +kernel
theorem pd__II_V : parseMethodDescriptor "(II)V" = some ⟨[.int, .int], none⟩ := by decide +kernel
theorem pd__II_I : parseMethodDescriptor "(II)I" = some ⟨[.int, .int], some .int⟩ := by decide +kernel
abbrev R7 : Room := { frames := 1, cells := 1, slots := 7, locals := 40 }
theorem pn_7 : plainName "java/util/Arrays" = true := by first | (simp [plainName, overriddenIn]; done) | decide +kernel
theorem ef_7 (m : MethodId) (x0 : Addr) (x1 : Int32) (x2 : Int32) : entryFrame m #[(.ref x0), (.int x1), (.int x2)] 5 = mkF m 0 #[.val (.ref x0), .val (.int x1), .val (.int x2), .unset, .unset] [] := by first | (simp [entryFrame, mkF, argsToLocals, Value.category]; done) | rfl
set_option maxRecDepth 65536 in
set_option maxHeartbeats 40000000 in
theorem rm7 (l : Launch) (Z : State) (a0 : Array Value) (hw : ∀ d ∈ tables_1, d.before a0 Z = true) (x0 : Addr) (x1 x2 : Int32) (i j n : Nat) (f : Nat → Value) (h0 : Heap) (n0 : Nat) (Z0 : n0 ≤ h0.size) (h1 : x1 = Int32.ofNat i) (h2 : x2 = Int32.ofNat j) (hij : i ≤ j) (hj : j ≤ n) (hn : n < 8) (V : ownA Z h0 x0 .byte n f) :
    MetFree l (⟨"java/util/Arrays", "copyOfRangeByte", "([BII)[B"⟩ : MethodName) (head1 [Jvm.Cond.code (⟨"java/util/Arrays", "copyOfRangeByte", "([BII)[B"⟩ : MethodName) jdk_65_method_133_code 5 (some (.array .byte))] R7) (fun a U => a = #[(.ref x0), (.int x1), (.int x2)] ∧ Z.Warmed39 U.vm ∧ U.heap = h0) (fun _ _ _ _ _ => True) (fun _ U o U' => ∃ v L, o = .returned v ∧ ownSome h0 n0 v U'.heap L ∧ FrameEnd U o U' L R7.cells R7.slots) := by
  refine MetFree.of_bodySF (plainFor_of_name pn_7) hisR ?_
  intro p e s m args below meth c s₁ Bd hml0 hP hK
  obtain ⟨rfl, hZ, hh⟩ := hP
  have hx := Bd.exec
  have hby := Bd.bytes
  have hml : c.maxLocals = 5 := hml0
  have hown : s.vm.findClass "java/util/Arrays" = some m.cls := findClass_of_methodNamed Bd.named
  have hnm := (name_of_methodNamed Bd.named Bd.method).1
  have hret := Bd.returns
  have hlk : meth.locks = false := BodyLoose.notSynchronized Bd
  have X0 : Stand p l e R7 s m #[(.ref x0), (.int x1), (.int x2)] below meth c s₁ [] 0 0 := Stand.of_body Bd
  have e0 : s₁.heap = h0 := by rw [← hh, Bd.state]; rfl
  have N0 := Fr.nil n0
  show ownGo p.tables e below s₁ (entryFrame m #[(.ref x0), (.int x1), (.int x2)] 5) (ownDone s (ownSome h0 n0) R7.cells R7.slots)
  rw [ef_7 m x0 x1 x2]
  have K0 : Keep h0 h0 [] := Keep.refl _ _
  subst h1 h2
  show ownGo p.tables e below s₁ (mkF m 0 #[.val (.ref x0), .val (.int (Int32.ofNat i)), .val (.int (Int32.ofNat j)), .unset, .unset] []) _
  refine ownGo.st (fun _ k => XS.iloadN X0.here hx rfl (hb hby d7_0) rfl k) ?_
  show ownGo p.tables e below s₁ (mkF m 1 #[.val (.ref x0), .val (.int (Int32.ofNat i)), .val (.int (Int32.ofNat j)), .unset, .unset] [(.int (Int32.ofNat i))]) _
  refine ownGo.st (fun _ k => XS.iloadN X0.here hx rfl (hb hby d7_1) rfl k) ?_
  show ownGo p.tables e below s₁ (mkF m 2 #[.val (.ref x0), .val (.int (Int32.ofNat i)), .val (.int (Int32.ofNat j)), .unset, .unset] [(.int (Int32.ofNat j)), (.int (Int32.ofNat i))]) _
  obtain ⟨_, T18, L18, X18, hQ18, st18⟩ := own_callS X0 hx hZ hown (own_at hw 45 rfl) (own_at hw 46 rfl) (own_at hw 31 rfl) (own_at hw 47 rfl) (by decide) (rm8 l Z a0 hw (Int32.ofNat i) (Int32.ofNat j) h0 n0 (own_le hij (by omega))) 0 (by decide) (by decide) e0 (by decide) (by decide) (g := (mkF m 2 #[.val (.ref x0), .val (.int (Int32.ofNat i)), .val (.int (Int32.ofNat j)), .unset, .unset] [(.int (Int32.ofNat j)), (.int (Int32.ofNat i))])) rfl (by rw [hml]; rfl) (argsL := [(.int (Int32.ofNat i)), (.int (Int32.ofNat j))]) (rest := []) (lenOf pd__II_V rfl) rfl (by show 2 * 0 + _ ≤ _; exact Nat.le_of_eq rfl) (hb hby d7_2)
  obtain ⟨rfl, N18q, e18⟩ := hQ18
  have N18 := Fr.app N0 N18q
  refine ownGo.st st18 ?_
  show ownGo p.tables e below T18 (mkF m 5 #[.val (.ref x0), .val (.int (Int32.ofNat i)), .val (.int (Int32.ofNat j)), .unset, .unset] []) _
  refine ownGo.st (fun _ k => XS.iloadN X18.here hx rfl (hb hby d7_5) rfl k) ?_
  show ownGo p.tables e below T18 (mkF m 6 #[.val (.ref x0), .val (.int (Int32.ofNat i)), .val (.int (Int32.ofNat j)), .unset, .unset] [(.int (Int32.ofNat j))]) _
  refine ownGo.st (fun _ k => XS.iloadN X18.here hx rfl (hb hby d7_6) rfl k) ?_
  show ownGo p.tables e below T18 (mkF m 7 #[.val (.ref x0), .val (.int (Int32.ofNat i)), .val (.int (Int32.ofNat j)), .unset, .unset] [(.int (Int32.ofNat i)), (.int (Int32.ofNat j))]) _
  refine ownGo.st (fun _ k => XS.isub X18.here hx rfl (hb hby d7_7) rfl k) ?_
  show ownGo p.tables e below T18 (mkF m 8 #[.val (.ref x0), .val (.int (Int32.ofNat i)), .val (.int (Int32.ofNat j)), .unset, .unset] [(.int ((Int32.ofNat j) - (Int32.ofNat i)))]) _
  rw [own_sub hij (by omega)]
  show ownGo p.tables e below T18 (mkF m 8 #[.val (.ref x0), .val (.int (Int32.ofNat i)), .val (.int (Int32.ofNat j)), .unset, .unset] [(.int (Int32.ofNat (j - i)))]) _
  refine ownGo.st (fun _ k => XS.istoreN X18.here hx rfl (hb hby d7_8) rfl (l' := #[.val (.ref x0), .val (.int (Int32.ofNat i)), .val (.int (Int32.ofNat j)), .val (.int (Int32.ofNat (j - i))), .unset]) rfl k) ?_
  show ownGo p.tables e below T18 (mkF m 9 #[.val (.ref x0), .val (.int (Int32.ofNat i)), .val (.int (Int32.ofNat j)), .val (.int (Int32.ofNat (j - i))), .unset] []) _
  refine ownGo.st (fun _ k => XS.iloadN X18.here hx rfl (hb hby d7_9) rfl k) ?_
  show ownGo p.tables e below T18 (mkF m 10 #[.val (.ref x0), .val (.int (Int32.ofNat i)), .val (.int (Int32.ofNat j)), .val (.int (Int32.ofNat (j - i))), .unset] [(.int (Int32.ofNat (j - i)))]) _
  obtain ⟨T19, h19, b19, X19, e19, E19, V_b19, Ex_b19, g_b19, st19⟩ := own_newarray (aty := .byte) X18 hx hZ (own_at hw 0 rfl) e18 (j - i) 7 (by omega) (by decide) (by decide) (by decide) (ad := "[B") (by rfl) rfl (z := (Int32.ofNat (j - i))) rfl (g := (mkF m 10 #[.val (.ref x0), .val (.int (Int32.ofNat i)), .val (.int (Int32.ofNat j)), .val (.int (Int32.ofNat (j - i))), .unset] [(.int (Int32.ofNat (j - i)))])) rfl (hb hby d7_10) rfl
  have gz_b19 : n0 ≤ b19 := Nat.le_trans Z0 (Nat.le_of_eq g_b19.symm)
  have ne_x0_b19 : x0 ≠ b19 := Nat.ne_of_lt (Nat.lt_of_lt_of_le V.lt (Nat.le_of_eq g_b19.symm))
  have V_20 := V.ext E19
  have Z19 : n0 ≤ h19.size := Nat.le_trans Z0 E19.1
  have K19 := K0.ext E19
  have sz_b19 : h0.size ≤ b19 := Nat.le_trans K0.1 (Nat.le_of_eq g_b19.symm)
  refine ownGo.st (st19) ?_
  show ownGo p.tables e below T19 (mkF m 12 #[.val (.ref x0), .val (.int (Int32.ofNat i)), .val (.int (Int32.ofNat j)), .val (.int (Int32.ofNat (j - i))), .unset] [(.ref b19)]) _
  refine ownGo.st (fun _ k => XS.astore X19.here hx rfl (hb hby d7_12) rfl rfl (l' := #[.val (.ref x0), .val (.int (Int32.ofNat i)), .val (.int (Int32.ofNat j)), .val (.int (Int32.ofNat (j - i))), .val (.ref b19)]) rfl k) ?_
  show ownGo p.tables e below T19 (mkF m 14 #[.val (.ref x0), .val (.int (Int32.ofNat i)), .val (.int (Int32.ofNat j)), .val (.int (Int32.ofNat (j - i))), .val (.ref b19)] []) _
  refine ownGo.st (fun _ k => XS.aloadN X19.here hx rfl (hb hby d7_14) rfl rfl k) ?_
  show ownGo p.tables e below T19 (mkF m 15 #[.val (.ref x0), .val (.int (Int32.ofNat i)), .val (.int (Int32.ofNat j)), .val (.int (Int32.ofNat (j - i))), .val (.ref b19)] [(.ref x0)]) _
  refine ownGo.st (fun _ k => XS.iloadN X19.here hx rfl (hb hby d7_15) rfl k) ?_
  show ownGo p.tables e below T19 (mkF m 16 #[.val (.ref x0), .val (.int (Int32.ofNat i)), .val (.int (Int32.ofNat j)), .val (.int (Int32.ofNat (j - i))), .val (.ref b19)] [(.int (Int32.ofNat i)), (.ref x0)]) _
  refine ownGo.st (fun _ k => XS.aload X19.here hx rfl (hb hby d7_16) rfl rfl k) ?_
  show ownGo p.tables e below T19 (mkF m 18 #[.val (.ref x0), .val (.int (Int32.ofNat i)), .val (.int (Int32.ofNat j)), .val (.int (Int32.ofNat (j - i))), .val (.ref b19)] [(.ref b19), (.int (Int32.ofNat i)), (.ref x0)]) _
  refine ownGo.st (fun _ k => XS.iconst X19.here hx rfl (hb hby d7_18)  k) ?_
  show ownGo p.tables e below T19 (mkF m 19 #[.val (.ref x0), .val (.int (Int32.ofNat i)), .val (.int (Int32.ofNat j)), .val (.int (Int32.ofNat (j - i))), .val (.ref b19)] [(.int (0 : Int32)), (.ref b19), (.int (Int32.ofNat i)), (.ref x0)]) _
  refine ownGo.st (fun _ k => XS.aloadN X19.here hx rfl (hb hby d7_19) rfl rfl k) ?_
  show ownGo p.tables e below T19 (mkF m 20 #[.val (.ref x0), .val (.int (Int32.ofNat i)), .val (.int (Int32.ofNat j)), .val (.int (Int32.ofNat (j - i))), .val (.ref b19)] [(.ref x0), (.int (0 : Int32)), (.ref b19), (.int (Int32.ofNat i)), (.ref x0)]) _
  refine ownGo.st (own_alen X19 hx hZ e19 V_20 (g := (mkF m 20 #[.val (.ref x0), .val (.int (Int32.ofNat i)), .val (.int (Int32.ofNat j)), .val (.int (Int32.ofNat (j - i))), .val (.ref b19)] [(.ref x0), (.int (0 : Int32)), (.ref b19), (.int (Int32.ofNat i)), (.ref x0)])) rfl rfl (hb hby d7_20)) ?_
  show ownGo p.tables e below T19 (mkF m 21 #[.val (.ref x0), .val (.int (Int32.ofNat i)), .val (.int (Int32.ofNat j)), .val (.int (Int32.ofNat (j - i))), .val (.ref b19)] [(.int (Int32.ofNat n)), (.int (0 : Int32)), (.ref b19), (.int (Int32.ofNat i)), (.ref x0)]) _
  refine ownGo.st (fun _ k => XS.iloadN X19.here hx rfl (hb hby d7_21) rfl k) ?_
  show ownGo p.tables e below T19 (mkF m 22 #[.val (.ref x0), .val (.int (Int32.ofNat i)), .val (.int (Int32.ofNat j)), .val (.int (Int32.ofNat (j - i))), .val (.ref b19)] [(.int (Int32.ofNat i)), (.int (Int32.ofNat n)), (.int (0 : Int32)), (.ref b19), (.int (Int32.ofNat i)), (.ref x0)]) _
  refine ownGo.st (fun _ k => XS.isub X19.here hx rfl (hb hby d7_22) rfl k) ?_
  show ownGo p.tables e below T19 (mkF m 23 #[.val (.ref x0), .val (.int (Int32.ofNat i)), .val (.int (Int32.ofNat j)), .val (.int (Int32.ofNat (j - i))), .val (.ref b19)] [(.int ((Int32.ofNat n) - (Int32.ofNat i))), (.int (0 : Int32)), (.ref b19), (.int (Int32.ofNat i)), (.ref x0)]) _
  rw [own_sub (a := n) (b := i) (by omega) (by omega)]
  show ownGo p.tables e below T19 (mkF m 23 #[.val (.ref x0), .val (.int (Int32.ofNat i)), .val (.int (Int32.ofNat j)), .val (.int (Int32.ofNat (j - i))), .val (.ref b19)] [(.int (Int32.ofNat (n - i))), (.int (0 : Int32)), (.ref b19), (.int (Int32.ofNat i)), (.ref x0)]) _
  refine ownGo.st (fun _ k => XS.iloadN X19.here hx rfl (hb hby d7_23) rfl k) ?_
  show ownGo p.tables e below T19 (mkF m 24 #[.val (.ref x0), .val (.int (Int32.ofNat i)), .val (.int (Int32.ofNat j)), .val (.int (Int32.ofNat (j - i))), .val (.ref b19)] [(.int (Int32.ofNat (j - i))), (.int (Int32.ofNat (n - i))), (.int (0 : Int32)), (.ref b19), (.int (Int32.ofNat i)), (.ref x0)]) _
  obtain ⟨_, T21, L21, X21, hQ21, st21⟩ := own_callS X19 hx hZ hown (own_at hw 48 rfl) (own_at hw 49 rfl) (own_at hw 50 rfl) (own_at hw 51 rfl) (by decide) (rm9 l Z a0 hw (Int32.ofNat (n - i)) (Int32.ofNat (j - i)) h19 n0) 4 (by decide) (by decide) e19 (by decide) (by decide) (g := (mkF m 24 #[.val (.ref x0), .val (.int (Int32.ofNat i)), .val (.int (Int32.ofNat j)), .val (.int (Int32.ofNat (j - i))), .val (.ref b19)] [(.int (Int32.ofNat (j - i))), (.int (Int32.ofNat (n - i))), (.int (0 : Int32)), (.ref b19), (.int (Int32.ofNat i)), (.ref x0)])) rfl (by rw [hml]; rfl) (argsL := [(.int (Int32.ofNat (n - i))), (.int (Int32.ofNat (j - i)))]) (rest := [(.int (0 : Int32)), (.ref b19), (.int (Int32.ofNat i)), (.ref x0)]) (lenOf pd__II_I rfl) rfl (by show 2 * 0 + _ ≤ _; exact Nat.le_of_eq rfl) (hb hby d7_24)
  obtain ⟨rfl, N21q, e21⟩ := hQ21
  have N21 := Fr.app N18 N21q
  refine ownGo.st st21 ?_
  show ownGo p.tables e below T21 (mkF m 27 #[.val (.ref x0), .val (.int (Int32.ofNat i)), .val (.int (Int32.ofNat j)), .val (.int (Int32.ofNat (j - i))), .val (.ref b19)] [(.int (F9 (Int32.ofNat (n - i)) (Int32.ofNat (j - i)))), (.int (0 : Int32)), (.ref b19), (.int (Int32.ofNat i)), (.ref x0)]) _
  rw [own_min (a := n - i) (b := j - i) (by omega) (by omega)]
  show ownGo p.tables e below T21 (mkF m 27 #[.val (.ref x0), .val (.int (Int32.ofNat i)), .val (.int (Int32.ofNat j)), .val (.int (Int32.ofNat (j - i))), .val (.ref b19)] [(.int (Int32.ofNat (j - i))), (.int (0 : Int32)), (.ref b19), (.int (Int32.ofNat i)), (.ref x0)]) _
  obtain ⟨k1, A1⟩ := V_20.arv (.int 0)
  obtain ⟨k2, A2⟩ := V_b19.arv (.int 0)
  obtain ⟨T9, h9, L9, X9, e9, N9, K9, V9, st9⟩ := cpA X21 hx hZ hown (own_at hw 52 rfl) (own_at hw 55 rfl) (own_at hw 53 rfl) (own_at hw 54 rfl) e21 A1 A2 (Or.inl ⟨rfl, rfl⟩) (own_nn (by omega)) (by decide) (own_nn (by omega)) (by rw [own_n32 (by omega), own_n32 (by omega), own_n32 (by omega)]; omega) (by rw [own_n32 (by omega), show (0 : Int32).toNatClampNeg = 0 from rfl]; omega) rfl (by rw [own_n32 (by omega), show (0 : Int32).toNatClampNeg = 0 from rfl, List.length_map, List.length_range]; omega) N21 gz_b19 (g := (mkF m 27 #[.val (.ref x0), .val (.int (Int32.ofNat i)), .val (.int (Int32.ofNat j)), .val (.int (Int32.ofNat (j - i))), .val (.ref b19)] [(.int (Int32.ofNat (j - i))), (.int (0 : Int32)), (.ref b19), (.int (Int32.ofNat i)), (.ref x0)])) rfl (by rw [hml]; rfl) rfl (hb hby d7_27) (by decide) (W := 0) (by show 2 * 0 + _ ≤ _; exact Nat.le_of_eq rfl) (by decide)
  refine ownGo.st (st9) ?_
  show ownGo p.tables e below T9 (mkF m 30 #[.val (.ref x0), .val (.int (Int32.ofNat i)), .val (.int (Int32.ofNat j)), .val (.int (Int32.ofNat (j - i))), .val (.ref b19)] []) _
  refine ownGo.st (fun _ k => XS.aload X9.here hx rfl (hb hby d7_30) rfl rfl k) ?_
  show ownGo p.tables e below T9 (mkF m 32 #[.val (.ref x0), .val (.int (Int32.ofNat i)), .val (.int (Int32.ofNat j)), .val (.int (Int32.ofNat (j - i))), .val (.ref b19)] [(.ref b19)]) _
  exact own_retA X9 hx hlk hret (hb hby d7_32) ⟨_, rfl, N9, by rw [e9]; exact K19.trans K9 (fun x hx => by cases List.mem_singleton.mp hx; exact Or.inr sz_b19)⟩ (by decide) (by decide)
theorem d6_0 : decode jdk_65_method_132_code 0 = .ok (.iload_n 1, 1) := by decide +kernel
theorem d6_1 : decode jdk_65_method_132_code 1 = .ok (.ifCond .ne 9, 3) := by decide +kernel
theorem d6_4 : decode jdk_65_method_132_code 4 = .ok (.iload_n 2, 1) := by decide +kernel
theorem d6_5 : decode jdk_65_method_132_code 5 = .ok (.aload_n 0, 1) := by decide +kernel
theorem d6_6 : decode jdk_65_method_132_code 6 = .ok (.arraylength, 1) := by decide +kernel
theorem d6_7 : decode jdk_65_method_132_code 7 = .ok (.if_icmp .eq 10, 3) := by decide +kernel
theorem d6_10 : decode jdk_65_method_132_code 10 = .ok (.aload_n 0, 1) := by decide +kernel
theorem d6_11 : decode jdk_65_method_132_code 11 = .ok (.iload_n 1, 1) := by decide +kernel
theorem d6_12 : decode jdk_65_method_132_code 12 = .ok (.iload_n 2, 1) := by decide +kernel
theorem d6_13 : decode jdk_65_method_132_code 13 = .ok (.invokestatic 339, 3) := by decide +kernel
theorem d6_16 : decode jdk_65_method_132_code 16 = .ok (.areturn, 1) := by decide +kernel
theorem d6_17 : decode jdk_65_method_132_code 17 = .ok (.aload_n 0, 1) := by decide +kernel
theorem d6_18 : decode jdk_65_method_132_code 18 = .ok (.invokevirtual 310, 3) := by decide +kernel
theorem d6_21 : decode jdk_65_method_132_code 21 = .ok (.checkcast 311, 3) := by decide +kernel
theorem d6_24 : decode jdk_65_method_132_code 24 = .ok (.areturn, 1) := by decide +kernel
theorem pd___BII__B : parseMethodDescriptor "([BII)[B" = some ⟨[(.array .byte), .int, .int], some (.array .byte)⟩ := by decide +kernel
abbrev R6 : Room := { frames := 2, cells := 1, slots := 7, locals := 56 }
set_option maxRecDepth 65536 in
set_option maxHeartbeats 40000000 in
theorem t6_10 {p : Program} {l : Launch} {e : Env} {s : State} {m : MethodId} {args : Array Value} {below : List Frame} {meth : Method} {c : Code} {T0 : State} {locs : List Loc} {Z : State} {a0 : Array Value} {h0 : Heap} {n0 : Nat} (hx : p.tables.exec = Jvm.exec) (hZ : Z.Warmed39 s.vm) (hw : ∀ d ∈ tables_1, d.before a0 Z = true) (hby : c.code = jdk_65_method_132_code) (hml : c.maxLocals = 3) (hown : s.vm.findClass "java/util/Arrays" = some m.cls) (hret : meth.sig.returnType = (some (.array .byte))) (hlk : meth.locks = false) (X0 : Stand p l e R6 s m args below meth c T0 locs 0 0) (e0 : T0.heap = h0) (N0 : Fr n0 locs) (x0 : Addr) (x1 x2 : Int32) (i j n : Nat) (f : Nat → Value) (Z0 : n0 ≤ h0.size) (h1 : x1 = Int32.ofNat i) (h2 : x2 = Int32.ofNat j) (hij : i ≤ j) (hj : j ≤ n) (hn : n < 8) (V : ownA Z h0 x0 .byte n f) :
    ownGo p.tables e below T0 (mkF m 10 #[.val (.ref x0), .val (.int x1), .val (.int x2)] []) (ownDone s (ownSome h0 n0) R6.cells R6.slots) := by
  refine ownGo.st (fun _ k => XS.aloadN X0.here hx rfl (hb hby d6_10) rfl rfl k) ?_
  show ownGo p.tables e below T0 (mkF m 11 #[.val (.ref x0), .val (.int x1), .val (.int x2)] [(.ref x0)]) _
  refine ownGo.st (fun _ k => XS.iloadN X0.here hx rfl (hb hby d6_11) rfl k) ?_
  show ownGo p.tables e below T0 (mkF m 12 #[.val (.ref x0), .val (.int x1), .val (.int x2)] [(.int x1), (.ref x0)]) _
  refine ownGo.st (fun _ k => XS.iloadN X0.here hx rfl (hb hby d6_12) rfl k) ?_
  show ownGo p.tables e below T0 (mkF m 13 #[.val (.ref x0), .val (.int x1), .val (.int x2)] [(.int x2), (.int x1), (.ref x0)]) _
  obtain ⟨_, T22, L22, X22, hQ22, st22⟩ := own_callS X0 hx hZ hown (own_at hw 42 rfl) (own_at hw 43 rfl) (own_at hw 31 rfl) (own_at hw 44 rfl) (by decide) (rm7 l Z a0 hw x0 x1 x2 i j n f h0 n0 Z0 h1 h2 hij hj hn V) 0 (by decide) (by decide) e0 (by decide) (by decide) (g := (mkF m 13 #[.val (.ref x0), .val (.int x1), .val (.int x2)] [(.int x2), (.int x1), (.ref x0)])) rfl (by rw [hml]; rfl) (argsL := [(.ref x0), (.int x1), (.int x2)]) (rest := []) (lenOf pd___BII__B rfl) rfl (by show 2 * 0 + _ ≤ _; exact Nat.le_of_eq rfl) (hb hby d6_13)
  obtain ⟨b, rfl, N22q, K22⟩ := hQ22
  have N22 := Fr.app N0 N22q
  refine ownGo.st st22 ?_
  show ownGo p.tables e below T22 (mkF m 16 #[.val (.ref x0), .val (.int x1), .val (.int x2)] [(.ref b)]) _
  exact own_retA X22 hx hlk hret (hb hby d6_16) ⟨_, rfl, N22, K22⟩ (by decide) (by decide)
theorem pn_6 : plainName "java/util/Arrays" = true := by first | (simp [plainName, overriddenIn]; done) | decide +kernel
theorem ef_6 (m : MethodId) (x0 : Addr) (x1 : Int32) (x2 : Int32) : entryFrame m #[(.ref x0), (.int x1), (.int x2)] 3 = mkF m 0 #[.val (.ref x0), .val (.int x1), .val (.int x2)] [] := by first | (simp [entryFrame, mkF, argsToLocals, Value.category]; done) | rfl
set_option maxRecDepth 65536 in
set_option maxHeartbeats 40000000 in
theorem rm6 (l : Launch) (Z : State) (a0 : Array Value) (hw : ∀ d ∈ tables_1, d.before a0 Z = true) (x0 : Addr) (x1 x2 : Int32) (i j n : Nat) (f : Nat → Value) (h0 : Heap) (n0 : Nat) (Z0 : n0 ≤ h0.size) (h1 : x1 = Int32.ofNat i) (h2 : x2 = Int32.ofNat j) (hij : i ≤ j) (hj : j ≤ n) (hn : n < 8) (V : ownA Z h0 x0 .byte n f) (Ex : Exa Z h0 x0 "[B") :
    MetFree l (⟨"java/util/Arrays", "copyOfRange", "([BII)[B"⟩ : MethodName) (head1 [Jvm.Cond.code (⟨"java/util/Arrays", "copyOfRange", "([BII)[B"⟩ : MethodName) jdk_65_method_132_code 3 (some (.array .byte))] R6) (fun a U => a = #[(.ref x0), (.int x1), (.int x2)] ∧ Z.Warmed39 U.vm ∧ U.heap = h0) (fun _ _ _ _ _ => True) (fun _ U o U' => ∃ v L, o = .returned v ∧ ownSome h0 n0 v U'.heap L ∧ FrameEnd U o U' L R6.cells R6.slots) := by
  refine MetFree.of_bodySF (plainFor_of_name pn_6) hisR ?_
  intro p e s m args below meth c s₁ Bd hml0 hP hK
  obtain ⟨rfl, hZ, hh⟩ := hP
  have hx := Bd.exec
  have hby := Bd.bytes
  have hml : c.maxLocals = 3 := hml0
  have hown : s.vm.findClass "java/util/Arrays" = some m.cls := findClass_of_methodNamed Bd.named
  have hnm := (name_of_methodNamed Bd.named Bd.method).1
  have hret := Bd.returns
  have hlk : meth.locks = false := BodyLoose.notSynchronized Bd
  have X0 : Stand p l e R6 s m #[(.ref x0), (.int x1), (.int x2)] below meth c s₁ [] 0 0 := Stand.of_body Bd
  have e0 : s₁.heap = h0 := by rw [← hh, Bd.state]; rfl
  have N0 := Fr.nil n0
  show ownGo p.tables e below s₁ (entryFrame m #[(.ref x0), (.int x1), (.int x2)] 3) (ownDone s (ownSome h0 n0) R6.cells R6.slots)
  rw [ef_6 m x0 x1 x2]
  show ownGo p.tables e below s₁ (mkF m 0 #[.val (.ref x0), .val (.int x1), .val (.int x2)] []) _
  refine ownGo.st (fun _ k => XS.iloadN X0.here hx rfl (hb hby d6_0) rfl k) ?_
  show ownGo p.tables e below s₁ (mkF m 1 #[.val (.ref x0), .val (.int x1), .val (.int x2)] [(.int x1)]) _
  by_cases hc0 : x1 = (0 : Int32)
  · refine ownGo.st (fun _ k => XS.ifNo X0.here hx rfl (hb hby d6_1) rfl ((if0 _ _).trans (teq hc0).2) k) ?_
    show ownGo p.tables e below s₁ (mkF m 4 #[.val (.ref x0), .val (.int x1), .val (.int x2)] []) _
    refine ownGo.st (fun _ k => XS.iloadN X0.here hx rfl (hb hby d6_4) rfl k) ?_
    show ownGo p.tables e below s₁ (mkF m 5 #[.val (.ref x0), .val (.int x1), .val (.int x2)] [(.int x2)]) _
    refine ownGo.st (fun _ k => XS.aloadN X0.here hx rfl (hb hby d6_5) rfl rfl k) ?_
    show ownGo p.tables e below s₁ (mkF m 6 #[.val (.ref x0), .val (.int x1), .val (.int x2)] [(.ref x0), (.int x2)]) _
    refine ownGo.st (own_alen X0 hx hZ e0 V (g := (mkF m 6 #[.val (.ref x0), .val (.int x1), .val (.int x2)] [(.ref x0), (.int x2)])) rfl rfl (hb hby d6_6)) ?_
    show ownGo p.tables e below s₁ (mkF m 7 #[.val (.ref x0), .val (.int x1), .val (.int x2)] [(.int (Int32.ofNat n)), (.int x2)]) _
    by_cases hc1 : x2 = (Int32.ofNat n)
    · refine ownGo.st (fun _ k => XS.icmpYes X0.here hx rfl (pc0 := 7) (pc' := 17) rfl (hb hby d6_7) rfl (teq hc1).1 (by decide) (by decide) k) ?_
      show ownGo p.tables e below s₁ (mkF m 17 #[.val (.ref x0), .val (.int x1), .val (.int x2)] []) _
      refine ownGo.st (fun _ k => XS.aloadN X0.here hx rfl (hb hby d6_17) rfl rfl k) ?_
      show ownGo p.tables e below s₁ (mkF m 18 #[.val (.ref x0), .val (.int x1), .val (.int x2)] [(.ref x0)]) _
      obtain ⟨k1, V1⟩ := V.arv (.int 0)
      obtain ⟨T8, h8, X8, e8, E8, V8, Ex8, st8⟩ := cloneH X0 hx hZ hown (own_at hw 33 rfl) (own_at hw 34 rfl) (own_at hw 38 rfl) (own_at hw 36 rfl) (own_at hw 37 rfl) (own_at hw 39 rfl) e0 V1.arh Ex (g := (mkF m 18 #[.val (.ref x0), .val (.int x1), .val (.int x2)] [(.ref x0)])) rfl (by rw [hml]; rfl) rfl (hb hby d6_18) (by decide) (W := 0) (cap := 7) (by show 2 * 0 + _ ≤ _; exact Nat.le_of_eq rfl) (by decide) (by rw [own_n32 (by omega)]; omega) (by decide) (by decide)
      obtain ⟨bc, gbc⟩ : ∃ z, z = h0.size := ⟨_, rfl⟩
      rw [← gbc] at V8 Ex8 st8
      refine ownGo.st (st8) ?_
      show ownGo p.tables e below T8 (mkF m 21 #[.val (.ref x0), .val (.int x1), .val (.int x2)] [(.ref bc)]) _
      obtain ⟨T9, X9, e9, st9⟩ := castY X8 hx hZ hown (own_at hw 40 rfl) e8 (Ins.self Ex8) (g := (mkF m 21 #[.val (.ref x0), .val (.int x1), .val (.int x2)] [(.ref bc)])) rfl rfl (hb hby d6_21)
      refine ownGo.st (st9) ?_
      show ownGo p.tables e below T9 (mkF m 24 #[.val (.ref x0), .val (.int x1), .val (.int x2)] [(.ref bc)]) _
      exact own_retA X9 hx hlk hret (hb hby d6_24) ⟨_, rfl, N0, by rw [e9]; exact (Keep.refl h0 []).ext E8⟩ (by decide) (by decide)
    · refine ownGo.st (fun _ k => XS.icmpNo X0.here hx rfl (hb hby d6_7) rfl (feq hc1).1 k) ?_
      show ownGo p.tables e below s₁ (mkF m 10 #[.val (.ref x0), .val (.int x1), .val (.int x2)] []) _
      exact t6_10 hx hZ hw hby hml hown hret hlk X0 e0 N0 x0 x1 x2 i j n f Z0 h1 h2 hij hj hn V
  · refine ownGo.st (fun _ k => XS.ifYes X0.here hx rfl (pc0 := 1) (pc' := 10) rfl (hb hby d6_1) rfl ((if0 _ _).trans (feq hc0).2) (by decide) (by decide) k) ?_
    show ownGo p.tables e below s₁ (mkF m 10 #[.val (.ref x0), .val (.int x1), .val (.int x2)] []) _
    exact t6_10 hx hZ hw hby hml hown hret hlk X0 e0 N0 x0 x1 x2 i j n f Z0 h1 h2 hij hj hn V
theorem d4_0 : decode prog_7_method_8_code 0 = .ok (.aload_n 0, 1) := by decide +kernel
theorem d4_1 : decode prog_7_method_8_code 1 = .ok (.iload_n 1, 1) := by decide +kernel
theorem d4_2 : decode prog_7_method_8_code 2 = .ok (.invokevirtual 17, 3) := by decide +kernel
theorem d4_5 : decode prog_7_method_8_code 5 = .ok (.aload_n 0, 1) := by decide +kernel
theorem d4_6 : decode prog_7_method_8_code 6 = .ok (.getfield 7, 3) := by decide +kernel
theorem d4_9 : decode prog_7_method_8_code 9 = .ok (.aload_n 0, 1) := by decide +kernel
theorem d4_10 : decode prog_7_method_8_code 10 = .ok (.getfield 13, 3) := by decide +kernel
theorem d4_13 : decode prog_7_method_8_code 13 = .ok (.aload_n 0, 1) := by decide +kernel
theorem d4_14 : decode prog_7_method_8_code 14 = .ok (.getfield 13, 3) := by decide +kernel
theorem d4_17 : decode prog_7_method_8_code 17 = .ok (.iload_n 1, 1) := by decide +kernel
theorem d4_18 : decode prog_7_method_8_code 18 = .ok (.iadd, 1) := by decide +kernel
theorem d4_19 : decode prog_7_method_8_code 19 = .ok (.invokestatic 47, 3) := by decide +kernel
theorem d4_22 : decode prog_7_method_8_code 22 = .ok (.astore_n 2, 1) := by decide +kernel
theorem d4_23 : decode prog_7_method_8_code 23 = .ok (.aload_n 0, 1) := by decide +kernel
theorem d4_24 : decode prog_7_method_8_code 24 = .ok (.dup, 1) := by decide +kernel
theorem d4_25 : decode prog_7_method_8_code 25 = .ok (.getfield 13, 3) := by decide +kernel
theorem d4_28 : decode prog_7_method_8_code 28 = .ok (.iload_n 1, 1) := by decide +kernel
theorem d4_29 : decode prog_7_method_8_code 29 = .ok (.iadd, 1) := by decide +kernel
theorem d4_30 : decode prog_7_method_8_code 30 = .ok (.putfield 13, 3) := by decide +kernel
theorem d4_33 : decode prog_7_method_8_code 33 = .ok (.aload_n 2, 1) := by decide +kernel
theorem d4_34 : decode prog_7_method_8_code 34 = .ok (.areturn, 1) := by decide +kernel
theorem pd__I_V : parseMethodDescriptor "(I)V" = some ⟨[.int], none⟩ := by decide +kernel
abbrev R4 : Room := { frames := 3, cells := 1, slots := 7, locals := 70 }
theorem pn_4 : plainName "com/example/oyster/oyster/engine/Bytes$In" = true := by first | (simp [plainName, overriddenIn]; done) | decide +kernel
theorem ef_4 (m : MethodId) (x0 : Addr) (x1 : Int32) : entryFrame m #[(.ref x0), (.int x1)] 3 = mkF m 0 #[.val (.ref x0), .val (.int x1), .unset] [] := by first | (simp [entryFrame, mkF, argsToLocals, Value.category]; done) | rfl
set_option maxRecDepth 65536 in
set_option maxHeartbeats 40000000 in
theorem rm4 (l : Launch) (Z : State) (a0 : Array Value) (hw : ∀ d ∈ tables_1, d.before a0 Z = true) (x0 : Addr) (x1 : Int32) (a : Addr) (i j n : Nat) (f : Nat → Value) (h0 : Heap) (n0 : Nat) (Z0 : n0 ≤ h0.size) (gz_x0 : n0 ≤ x0) (hne : x0 ≠ a) (h1 : x1 = Int32.ofNat j) (hij : i + j ≤ n) (hn : n < 8) (E0 : Exa Z h0 x0 "com/example/oyster/oyster/engine/Bytes$In") (ExA : Exa Z h0 a "[B") (F1 : Fld Z h0 x0 "com/example/oyster/oyster/engine/Bytes$In" "bytes" "[B" (.ref a)) (F2 : Fld Z h0 x0 "com/example/oyster/oyster/engine/Bytes$In" "position" "I" (.int (Int32.ofNat i))) (V : ownA Z h0 a .byte n f) :
    MetFree l (⟨"com/example/oyster/oyster/engine/Bytes$In", "bytes", "(I)[B"⟩ : MethodName) (head1 [Jvm.Cond.code (⟨"com/example/oyster/oyster/engine/Bytes$In", "bytes", "(I)[B"⟩ : MethodName) prog_7_method_8_code 3 (some (.array .byte))] R4) (fun a U => a = #[(.ref x0), (.int x1)] ∧ Z.Warmed39 U.vm ∧ U.heap = h0) (fun _ _ _ _ _ => True) (fun _ U o U' => ∃ v L, o = .returned v ∧ ownMoved Z x0 a (Int32.ofNat i + x1) (fun v => ∃ b, v = some (.ref b)) h0 n0 v U'.heap L ∧ FrameEnd U o U' L R4.cells R4.slots) := by
  refine MetFree.of_bodySF (plainFor_of_name pn_4) hisR ?_
  intro p e s m args below meth c s₁ Bd hml0 hP hK
  obtain ⟨rfl, hZ, hh⟩ := hP
  have hx := Bd.exec
  have hby := Bd.bytes
  have hml : c.maxLocals = 3 := hml0
  have hown : s.vm.findClass "com/example/oyster/oyster/engine/Bytes$In" = some m.cls := findClass_of_methodNamed Bd.named
  have hnm := (name_of_methodNamed Bd.named Bd.method).1
  have hret := Bd.returns
  have hlk : meth.locks = false := BodyLoose.notSynchronized Bd
  have X0 : Stand p l e R4 s m #[(.ref x0), (.int x1)] below meth c s₁ [] 0 0 := Stand.of_body Bd
  have e0 : s₁.heap = h0 := by rw [← hh, Bd.state]; rfl
  have N0 := Fr.nil n0
  show ownGo p.tables e below s₁ (entryFrame m #[(.ref x0), (.int x1)] 3) (ownDone s (ownMoved Z x0 a (Int32.ofNat i + x1) (fun v => ∃ b, v = some (.ref b)) h0 n0) R4.cells R4.slots)
  rw [ef_4 m x0 x1]
  have K0 : Keep h0 h0 [x0] := Keep.refl _ _
  subst h1
  show ownGo p.tables e below s₁ (mkF m 0 #[.val (.ref x0), .val (.int (Int32.ofNat j)), .unset] []) _
  refine ownGo.st (fun _ k => XS.aloadN X0.here hx rfl (hb hby d4_0) rfl rfl k) ?_
  show ownGo p.tables e below s₁ (mkF m 1 #[.val (.ref x0), .val (.int (Int32.ofNat j)), .unset] [(.ref x0)]) _
  refine ownGo.st (fun _ k => XS.iloadN X0.here hx rfl (hb hby d4_1) rfl k) ?_
  show ownGo p.tables e below s₁ (mkF m 2 #[.val (.ref x0), .val (.int (Int32.ofNat j)), .unset] [(.int (Int32.ofNat j)), (.ref x0)]) _
  obtain ⟨_, T23, L23, X23, hQ23, st23⟩ := own_callPr X0 hx hZ hown (own_at hw 25 rfl) (own_at hw 27 rfl) (own_at hw 2 rfl) (own_at hw 26 rfl) (own_at hw 3 rfl) (own_at hw 28 rfl) (by decide) (rm5 l Z a0 hw x0 (Int32.ofNat j) a (Int32.ofNat i) n f h0 n0 F1 F2 V (own_nn (by omega)) (by rw [own_sub (by omega) (by omega)]; exact own_le (by omega) (by omega))) 0 (by decide) (by decide) e0 (by decide) (by decide) E0 (g := (mkF m 2 #[.val (.ref x0), .val (.int (Int32.ofNat j)), .unset] [(.int (Int32.ofNat j)), (.ref x0)])) rfl (by rw [hml]; rfl) (argsL := [(.int (Int32.ofNat j))]) (rest := []) (lenOf pd__I_V rfl) rfl (by show 2 * 0 + _ ≤ _; exact Nat.le_of_eq rfl) (hb hby d4_2)
  obtain ⟨rfl, N23q, e23⟩ := hQ23
  have N23 := Fr.app N0 N23q
  refine ownGo.st st23 ?_
  show ownGo p.tables e below T23 (mkF m 5 #[.val (.ref x0), .val (.int (Int32.ofNat j)), .unset] []) _
  refine ownGo.st (fun _ k => XS.aloadN X23.here hx rfl (hb hby d4_5) rfl rfl k) ?_
  show ownGo p.tables e below T23 (mkF m 6 #[.val (.ref x0), .val (.int (Int32.ofNat j)), .unset] [(.ref x0)]) _
  obtain ⟨T24, X24, e24, st24⟩ := getF X23 hx hZ hown (host := "") (Or.inl (own_at hw 10 rfl)) Via.refl e23 F1 (g := (mkF m 6 #[.val (.ref x0), .val (.int (Int32.ofNat j)), .unset] [(.ref x0)])) rfl rfl (hb hby d4_6)
  refine ownGo.st (st24) ?_
  show ownGo p.tables e below T24 (mkF m 9 #[.val (.ref x0), .val (.int (Int32.ofNat j)), .unset] [(.ref a)]) _
  refine ownGo.st (fun _ k => XS.aloadN X24.here hx rfl (hb hby d4_9) rfl rfl k) ?_
  show ownGo p.tables e below T24 (mkF m 10 #[.val (.ref x0), .val (.int (Int32.ofNat j)), .unset] [(.ref x0), (.ref a)]) _
  obtain ⟨T25, X25, e25, st25⟩ := getF X24 hx hZ hown (host := "") (Or.inl (own_at hw 12 rfl)) Via.refl e24 F2 (g := (mkF m 10 #[.val (.ref x0), .val (.int (Int32.ofNat j)), .unset] [(.ref x0), (.ref a)])) rfl rfl (hb hby d4_10)
  refine ownGo.st (st25) ?_
  show ownGo p.tables e below T25 (mkF m 13 #[.val (.ref x0), .val (.int (Int32.ofNat j)), .unset] [(.int (Int32.ofNat i)), (.ref a)]) _
  refine ownGo.st (fun _ k => XS.aloadN X25.here hx rfl (hb hby d4_13) rfl rfl k) ?_
  show ownGo p.tables e below T25 (mkF m 14 #[.val (.ref x0), .val (.int (Int32.ofNat j)), .unset] [(.ref x0), (.int (Int32.ofNat i)), (.ref a)]) _
  obtain ⟨T26, X26, e26, st26⟩ := getF X25 hx hZ hown (host := "") (Or.inl (own_at hw 12 rfl)) Via.refl e25 F2 (g := (mkF m 14 #[.val (.ref x0), .val (.int (Int32.ofNat j)), .unset] [(.ref x0), (.int (Int32.ofNat i)), (.ref a)])) rfl rfl (hb hby d4_14)
  refine ownGo.st (st26) ?_
  show ownGo p.tables e below T26 (mkF m 17 #[.val (.ref x0), .val (.int (Int32.ofNat j)), .unset] [(.int (Int32.ofNat i)), (.int (Int32.ofNat i)), (.ref a)]) _
  refine ownGo.st (fun _ k => XS.iloadN X26.here hx rfl (hb hby d4_17) rfl k) ?_
  show ownGo p.tables e below T26 (mkF m 18 #[.val (.ref x0), .val (.int (Int32.ofNat j)), .unset] [(.int (Int32.ofNat j)), (.int (Int32.ofNat i)), (.int (Int32.ofNat i)), (.ref a)]) _
  refine ownGo.st (fun _ k => XS.iadd X26.here hx rfl (hb hby d4_18) rfl k) ?_
  show ownGo p.tables e below T26 (mkF m 19 #[.val (.ref x0), .val (.int (Int32.ofNat j)), .unset] [(.int ((Int32.ofNat i) + (Int32.ofNat j))), (.int (Int32.ofNat i)), (.ref a)]) _
  rw [← Int32.ofNat_add i j]
  show ownGo p.tables e below T26 (mkF m 19 #[.val (.ref x0), .val (.int (Int32.ofNat j)), .unset] [(.int (Int32.ofNat (i + j))), (.int (Int32.ofNat i)), (.ref a)]) _
  obtain ⟨_, T27, L27, X27, hQ27, st27⟩ := own_callS X26 hx hZ hown (own_at hw 29 rfl) (own_at hw 30 rfl) (own_at hw 31 rfl) (own_at hw 32 rfl) (by decide) (rm6 l Z a0 hw a (Int32.ofNat i) (Int32.ofNat (i + j)) i (i + j) n f h0 n0 Z0 rfl rfl (by omega) (by omega) (by omega) V ExA) 0 (by decide) (by decide) e26 (by decide) (by decide) (g := (mkF m 19 #[.val (.ref x0), .val (.int (Int32.ofNat j)), .unset] [(.int (Int32.ofNat (i + j))), (.int (Int32.ofNat i)), (.ref a)])) rfl (by rw [hml]; rfl) (argsL := [(.ref a), (.int (Int32.ofNat i)), (.int (Int32.ofNat (i + j)))]) (rest := []) (lenOf pd___BII__B rfl) rfl (by show 2 * 0 + _ ≤ _; exact Nat.le_of_eq rfl) (hb hby d4_19)
  obtain ⟨b, rfl, N27q, K27⟩ := hQ27
  have N27 := Fr.app N23 N27q
  have F1_28 := F1.keep K27 nin0
  have F2_29 := F2.keep K27 nin0
  have V_30 := V.keep K27 nin0
  have E0_31 := E0.keep K27
  have ExA_32 := ExA.keep K27
  have Z27 : n0 ≤ T27.heap.size := Nat.le_trans Z0 K27.1
  have Kq27 : Keep h0 T27.heap [x0] := K0.trans K27 (fun x hx => by cases hx)
  refine ownGo.st st27 ?_
  show ownGo p.tables e below T27 (mkF m 22 #[.val (.ref x0), .val (.int (Int32.ofNat j)), .unset] [(.ref b)]) _
  refine ownGo.st (fun _ k => XS.astoreN X27.here hx rfl (hb hby d4_22) rfl rfl (l' := #[.val (.ref x0), .val (.int (Int32.ofNat j)), .val (.ref b)]) rfl k) ?_
  show ownGo p.tables e below T27 (mkF m 23 #[.val (.ref x0), .val (.int (Int32.ofNat j)), .val (.ref b)] []) _
  refine ownGo.st (fun _ k => XS.aloadN X27.here hx rfl (hb hby d4_23) rfl rfl k) ?_
  show ownGo p.tables e below T27 (mkF m 24 #[.val (.ref x0), .val (.int (Int32.ofNat j)), .val (.ref b)] [(.ref x0)]) _
  refine ownGo.st (fun _ k => XS.dup X27.here hx rfl (hb hby d4_24) rfl rfl k) ?_
  show ownGo p.tables e below T27 (mkF m 25 #[.val (.ref x0), .val (.int (Int32.ofNat j)), .val (.ref b)] [(.ref x0), (.ref x0)]) _
  obtain ⟨T33, X33, e33, st33⟩ := getF X27 hx hZ hown (host := "") (Or.inl (own_at hw 12 rfl)) Via.refl rfl F2_29 (g := (mkF m 25 #[.val (.ref x0), .val (.int (Int32.ofNat j)), .val (.ref b)] [(.ref x0), (.ref x0)])) rfl rfl (hb hby d4_25)
  refine ownGo.st (st33) ?_
  show ownGo p.tables e below T33 (mkF m 28 #[.val (.ref x0), .val (.int (Int32.ofNat j)), .val (.ref b)] [(.int (Int32.ofNat i)), (.ref x0)]) _
  refine ownGo.st (fun _ k => XS.iloadN X33.here hx rfl (hb hby d4_28) rfl k) ?_
  show ownGo p.tables e below T33 (mkF m 29 #[.val (.ref x0), .val (.int (Int32.ofNat j)), .val (.ref b)] [(.int (Int32.ofNat j)), (.int (Int32.ofNat i)), (.ref x0)]) _
  refine ownGo.st (fun _ k => XS.iadd X33.here hx rfl (hb hby d4_29) rfl k) ?_
  show ownGo p.tables e below T33 (mkF m 30 #[.val (.ref x0), .val (.int (Int32.ofNat j)), .val (.ref b)] [(.int ((Int32.ofNat i) + (Int32.ofNat j))), (.ref x0)]) _
  obtain ⟨T34, h34, X34, e34, W34, st34⟩ := putF X33 hx hZ hown (host := "") (Or.inl (own_at hw 12 rfl)) Via.refl e33 F2_29 E0_31 (Or.inl (own_at hw 13 rfl)) (own_at hw 2 rfl) (ty := .int) (by decide) rfl rfl (g := (mkF m 30 #[.val (.ref x0), .val (.int (Int32.ofNat j)), .val (.ref b)] [(.int ((Int32.ofNat i) + (Int32.ofNat j))), (.ref x0)])) rfl rfl (hb hby d4_30)
  have F1_35 := F1_28.other W34 (Or.inr (slot_ne (Or.inr (own_at hw 11 rfl)) (Or.inl (own_at hw 13 rfl)) (by decide) (t := (.array .byte)) (t' := .int) (by decide) (by decide)))
  have F2_36 := F2_29.same W34
  have V_37 := V_30.other W34 (Ne.symm hne)
  have E0_38 := E0_31.wr W34
  have ExA_39 := ExA_32.wr W34
  have N34 := Fr.snoc X34 N27 gz_x0
  have Z34 : n0 ≤ h34.size := Nat.le_trans Z27 (Nat.le_of_eq W34.size.symm)
  have K34 := Kq27.wr W34 (Or.inl (List.mem_singleton.mpr rfl))
  refine ownGo.st (st34) ?_
  show ownGo p.tables e below T34 (mkF m 33 #[.val (.ref x0), .val (.int (Int32.ofNat j)), .val (.ref b)] []) _
  refine ownGo.st (fun _ k => XS.aloadN X34.here hx rfl (hb hby d4_33) rfl rfl k) ?_
  show ownGo p.tables e below T34 (mkF m 34 #[.val (.ref x0), .val (.int (Int32.ofNat j)), .val (.ref b)] [(.ref b)]) _
  exact own_retA X34 hx hlk hret (hb hby d4_34) ⟨⟨_, rfl⟩, N34, by rw [e34]; exact K34, by rw [e34]; exact F1_35, by rw [e34, Int32.ofNat_add i j]; exact F2_36⟩ (by decide) (by decide)
theorem d10_0 : decode prog_7_method_4_code 0 = .ok (.aload_n 0, 1) := by decide +kernel
theorem d10_1 : decode prog_7_method_4_code 1 = .ok (.iconst 1, 1) := by decide +kernel
theorem d10_2 : decode prog_7_method_4_code 2 = .ok (.invokevirtual 17, 3) := by decide +kernel
theorem d10_5 : decode prog_7_method_4_code 5 = .ok (.aload_n 0, 1) := by decide +kernel
theorem d10_6 : decode prog_7_method_4_code 6 = .ok (.getfield 7, 3) := by decide +kernel
theorem d10_9 : decode prog_7_method_4_code 9 = .ok (.aload_n 0, 1) := by decide +kernel
theorem d10_10 : decode prog_7_method_4_code 10 = .ok (.getfield 13, 3) := by decide +kernel
theorem d10_13 : decode prog_7_method_4_code 13 = .ok (.baload, 1) := by decide +kernel
theorem d10_14 : decode prog_7_method_4_code 14 = .ok (.sipush 255, 3) := by decide +kernel
theorem d10_17 : decode prog_7_method_4_code 17 = .ok (.iand, 1) := by decide +kernel
theorem d10_18 : decode prog_7_method_4_code 18 = .ok (.istore_n 1, 1) := by decide +kernel
theorem d10_19 : decode prog_7_method_4_code 19 = .ok (.aload_n 0, 1) := by decide +kernel
theorem d10_20 : decode prog_7_method_4_code 20 = .ok (.dup, 1) := by decide +kernel
theorem d10_21 : decode prog_7_method_4_code 21 = .ok (.getfield 13, 3) := by decide +kernel
theorem d10_24 : decode prog_7_method_4_code 24 = .ok (.iconst 1, 1) := by decide +kernel
theorem d10_25 : decode prog_7_method_4_code 25 = .ok (.iadd, 1) := by decide +kernel
theorem d10_26 : decode prog_7_method_4_code 26 = .ok (.putfield 13, 3) := by decide +kernel
theorem d10_29 : decode prog_7_method_4_code 29 = .ok (.iload_n 1, 1) := by decide +kernel
theorem d10_30 : decode prog_7_method_4_code 30 = .ok (.ireturn, 1) := by decide +kernel
abbrev R10 : Room := { frames := 1, cells := 0, slots := 0, locals := 13 }
theorem pn_10 : plainName "com/example/oyster/oyster/engine/Bytes$In" = true := by first | (simp [plainName, overriddenIn]; done) | decide +kernel
theorem ef_10 (m : MethodId) (x0 : Addr) : entryFrame m #[(.ref x0)] 2 = mkF m 0 #[.val (.ref x0), .unset] [] := by first | (simp [entryFrame, mkF, argsToLocals, Value.category]; done) | rfl
set_option maxRecDepth 65536 in
set_option maxHeartbeats 40000000 in
theorem rm10 (l : Launch) (Z : State) (a0 : Array Value) (hw : ∀ d ∈ tables_1, d.before a0 Z = true) (x0 a : Addr) (ps : Int32) (i n : Nat) (f : Nat → Value) (h0 : Heap) (n0 : Nat) (Z0 : n0 ≤ h0.size) (gz_x0 : n0 ≤ x0) (hne : x0 ≠ a) (hp : ps = Int32.ofNat i) (hi : i < n) (hn : n < 8) (E0 : Exa Z h0 x0 "com/example/oyster/oyster/engine/Bytes$In") (F1 : Fld Z h0 x0 "com/example/oyster/oyster/engine/Bytes$In" "bytes" "[B" (.ref a)) (F2 : Fld Z h0 x0 "com/example/oyster/oyster/engine/Bytes$In" "position" "I" (.int ps)) (V : ownA Z h0 a .byte n f) :
    MetFree l (⟨"com/example/oyster/oyster/engine/Bytes$In", "u8", "()I"⟩ : MethodName) (head1 [Jvm.Cond.code (⟨"com/example/oyster/oyster/engine/Bytes$In", "u8", "()I"⟩ : MethodName) prog_7_method_4_code 2 (some .int)] R10) (fun a U => a = #[(.ref x0)] ∧ Z.Warmed39 U.vm ∧ U.heap = h0) (fun _ _ _ _ _ => True) (fun _ U o U' => ∃ v L, o = .returned v ∧ ownMoved Z x0 a (ps + 1) (fun v => ∃ z, v = some (.int z)) h0 n0 v U'.heap L ∧ FrameEnd U o U' L R10.cells R10.slots) := by
  refine MetFree.of_bodySF (plainFor_of_name pn_10) hisR ?_
  intro p e s m args below meth c s₁ Bd hml0 hP hK
  obtain ⟨rfl, hZ, hh⟩ := hP
  have hx := Bd.exec
  have hby := Bd.bytes
  have hml : c.maxLocals = 2 := hml0
  have hown : s.vm.findClass "com/example/oyster/oyster/engine/Bytes$In" = some m.cls := findClass_of_methodNamed Bd.named
  have hnm := (name_of_methodNamed Bd.named Bd.method).1
  have hret := Bd.returns
  have hlk : meth.locks = false := BodyLoose.notSynchronized Bd
  have X0 : Stand p l e R10 s m #[(.ref x0)] below meth c s₁ [] 0 0 := Stand.of_body Bd
  have e0 : s₁.heap = h0 := by rw [← hh, Bd.state]; rfl
  have N0 := Fr.nil n0
  show ownGo p.tables e below s₁ (entryFrame m #[(.ref x0)] 2) (ownDone s (ownMoved Z x0 a (ps + 1) (fun v => ∃ z, v = some (.int z)) h0 n0) R10.cells R10.slots)
  rw [ef_10 m x0]
  have K0 : Keep h0 h0 [x0] := Keep.refl _ _
  show ownGo p.tables e below s₁ (mkF m 0 #[.val (.ref x0), .unset] []) _
  refine ownGo.st (fun _ k => XS.aloadN X0.here hx rfl (hb hby d10_0) rfl rfl k) ?_
  show ownGo p.tables e below s₁ (mkF m 1 #[.val (.ref x0), .unset] [(.ref x0)]) _
  refine ownGo.st (fun _ k => XS.iconst X0.here hx rfl (hb hby d10_1)  k) ?_
  show ownGo p.tables e below s₁ (mkF m 2 #[.val (.ref x0), .unset] [(.int (1 : Int32)), (.ref x0)]) _
  obtain ⟨_, T40, L40, X40, hQ40, st40⟩ := own_callPr X0 hx hZ hown (own_at hw 25 rfl) (own_at hw 27 rfl) (own_at hw 2 rfl) (own_at hw 26 rfl) (own_at hw 3 rfl) (own_at hw 28 rfl) (by decide) (rm5 l Z a0 hw x0 (1 : Int32) a ps n f h0 n0 F1 F2 V (by decide) (by rw [hp, own_sub (by omega) (by omega)]; exact own_le (b := 1) (by omega) (by omega))) 0 (by decide) (by decide) e0 (by decide) (by decide) E0 (g := (mkF m 2 #[.val (.ref x0), .unset] [(.int (1 : Int32)), (.ref x0)])) rfl (by rw [hml]; rfl) (argsL := [(.int (1 : Int32))]) (rest := []) (lenOf pd__I_V rfl) rfl (by show 2 * 0 + _ ≤ _; exact Nat.le_of_eq rfl) (hb hby d10_2)
  obtain ⟨rfl, N40q, e40⟩ := hQ40
  have N40 := Fr.app N0 N40q
  refine ownGo.st st40 ?_
  show ownGo p.tables e below T40 (mkF m 5 #[.val (.ref x0), .unset] []) _
  refine ownGo.st (fun _ k => XS.aloadN X40.here hx rfl (hb hby d10_5) rfl rfl k) ?_
  show ownGo p.tables e below T40 (mkF m 6 #[.val (.ref x0), .unset] [(.ref x0)]) _
  obtain ⟨T41, X41, e41, st41⟩ := getF X40 hx hZ hown (host := "") (Or.inl (own_at hw 10 rfl)) Via.refl e40 F1 (g := (mkF m 6 #[.val (.ref x0), .unset] [(.ref x0)])) rfl rfl (hb hby d10_6)
  refine ownGo.st (st41) ?_
  show ownGo p.tables e below T41 (mkF m 9 #[.val (.ref x0), .unset] [(.ref a)]) _
  refine ownGo.st (fun _ k => XS.aloadN X41.here hx rfl (hb hby d10_9) rfl rfl k) ?_
  show ownGo p.tables e below T41 (mkF m 10 #[.val (.ref x0), .unset] [(.ref x0), (.ref a)]) _
  obtain ⟨T42, X42, e42, st42⟩ := getF X41 hx hZ hown (host := "") (Or.inl (own_at hw 12 rfl)) Via.refl e41 F2 (g := (mkF m 10 #[.val (.ref x0), .unset] [(.ref x0), (.ref a)])) rfl rfl (hb hby d10_10)
  refine ownGo.st (st42) ?_
  show ownGo p.tables e below T42 (mkF m 13 #[.val (.ref x0), .unset] [(.int ps), (.ref a)]) _
  obtain ⟨v, hv⟩ := V.byte hi
  refine ownGo.st (own_baload X42 hx hZ e42 V (i := i) (v := v) hp hi hv (g := (mkF m 13 #[.val (.ref x0), .unset] [(.int ps), (.ref a)])) rfl rfl (hb hby d10_13)) ?_
  show ownGo p.tables e below T42 (mkF m 14 #[.val (.ref x0), .unset] [(.int v)]) _
  refine ownGo.st (fun _ k => XS.sipush X42.here hx rfl (hb hby d10_14)  k) ?_
  show ownGo p.tables e below T42 (mkF m 17 #[.val (.ref x0), .unset] [(.int (255 : Int32)), (.int v)]) _
  refine ownGo.st (fun _ k => XS.iand X42.here hx rfl (hb hby d10_17) rfl k) ?_
  show ownGo p.tables e below T42 (mkF m 18 #[.val (.ref x0), .unset] [(.int (v &&& (255 : Int32)))]) _
  refine ownGo.st (fun _ k => XS.istoreN X42.here hx rfl (hb hby d10_18) rfl (l' := #[.val (.ref x0), .val (.int (v &&& (255 : Int32)))]) rfl k) ?_
  show ownGo p.tables e below T42 (mkF m 19 #[.val (.ref x0), .val (.int (v &&& (255 : Int32)))] []) _
  refine ownGo.st (fun _ k => XS.aloadN X42.here hx rfl (hb hby d10_19) rfl rfl k) ?_
  show ownGo p.tables e below T42 (mkF m 20 #[.val (.ref x0), .val (.int (v &&& (255 : Int32)))] [(.ref x0)]) _
  refine ownGo.st (fun _ k => XS.dup X42.here hx rfl (hb hby d10_20) rfl rfl k) ?_
  show ownGo p.tables e below T42 (mkF m 21 #[.val (.ref x0), .val (.int (v &&& (255 : Int32)))] [(.ref x0), (.ref x0)]) _
  obtain ⟨T43, X43, e43, st43⟩ := getF X42 hx hZ hown (host := "") (Or.inl (own_at hw 12 rfl)) Via.refl e42 F2 (g := (mkF m 21 #[.val (.ref x0), .val (.int (v &&& (255 : Int32)))] [(.ref x0), (.ref x0)])) rfl rfl (hb hby d10_21)
  refine ownGo.st (st43) ?_
  show ownGo p.tables e below T43 (mkF m 24 #[.val (.ref x0), .val (.int (v &&& (255 : Int32)))] [(.int ps), (.ref x0)]) _
  refine ownGo.st (fun _ k => XS.iconst X43.here hx rfl (hb hby d10_24)  k) ?_
  show ownGo p.tables e below T43 (mkF m 25 #[.val (.ref x0), .val (.int (v &&& (255 : Int32)))] [(.int (1 : Int32)), (.int ps), (.ref x0)]) _
  refine ownGo.st (fun _ k => XS.iadd X43.here hx rfl (hb hby d10_25) rfl k) ?_
  show ownGo p.tables e below T43 (mkF m 26 #[.val (.ref x0), .val (.int (v &&& (255 : Int32)))] [(.int (ps + (1 : Int32))), (.ref x0)]) _
  obtain ⟨T44, h44, X44, e44, W44, st44⟩ := putF X43 hx hZ hown (host := "") (Or.inl (own_at hw 12 rfl)) Via.refl e43 F2 E0 (Or.inl (own_at hw 13 rfl)) (own_at hw 2 rfl) (ty := .int) (by decide) rfl rfl (g := (mkF m 26 #[.val (.ref x0), .val (.int (v &&& (255 : Int32)))] [(.int (ps + (1 : Int32))), (.ref x0)])) rfl rfl (hb hby d10_26)
  have F1_45 := F1.other W44 (Or.inr (slot_ne (Or.inr (own_at hw 11 rfl)) (Or.inl (own_at hw 13 rfl)) (by decide) (t := (.array .byte)) (t' := .int) (by decide) (by decide)))
  have F2_46 := F2.same W44
  have V_47 := V.other W44 (Ne.symm hne)
  have E0_48 := E0.wr W44
  have N44 := Fr.snoc X44 N40 gz_x0
  have Z44 : n0 ≤ h44.size := Nat.le_trans Z0 (Nat.le_of_eq W44.size.symm)
  have K44 := K0.wr W44 (Or.inl (List.mem_singleton.mpr rfl))
  refine ownGo.st (st44) ?_
  show ownGo p.tables e below T44 (mkF m 29 #[.val (.ref x0), .val (.int (v &&& (255 : Int32)))] []) _
  refine ownGo.st (fun _ k => XS.iloadN X44.here hx rfl (hb hby d10_29) rfl k) ?_
  show ownGo p.tables e below T44 (mkF m 30 #[.val (.ref x0), .val (.int (v &&& (255 : Int32)))] [(.int (v &&& (255 : Int32)))]) _
  exact own_retI X44 hx hlk hret (hb hby d10_30) ⟨⟨_, rfl⟩, N44, by rw [e44]; exact K44, by rw [e44]; exact F1_45, by rw [e44]; exact F2_46⟩ (by decide) (by decide)
def Q0 (n0 : Nat) (v : Option Value) (h : Heap) (L : List Loc) : Prop := v = some (.int 1) ∧ Fr n0 L
theorem pd___BI_V : parseMethodDescriptor "([BI)V" = some ⟨[(.array .byte), .int], none⟩ := by decide +kernel
theorem pd___Z : parseMethodDescriptor "()Z" = some ⟨[], some .boolean⟩ := by decide +kernel
theorem pd__I__B : parseMethodDescriptor "(I)[B" = some ⟨[.int], some (.array .byte)⟩ := by decide +kernel
theorem pd___I : parseMethodDescriptor "()I" = some ⟨[], some .int⟩ := by decide +kernel
theorem pn_0 : plainName "com/example/oyster/oyster/engine/InAtEndPinLaw" = true := by first | (simp [plainName, overriddenIn]; done) | decide +kernel
theorem ef_0 (m : MethodId) (x0 : Int32) (x1 : Int32) (x2 : Int32) (x3 : Int32) : entryFrame m #[(.int x0), (.int x1), (.int x2), (.int x3)] maxLocals = mkF m 0 #[.val (.int x0), .val (.int x1), .val (.int x2), .val (.int x3), .unset, .unset, .unset, .unset, .unset, .unset, .unset] [] := by first | (simp [entryFrame, mkF, argsToLocals, Value.category, maxLocals]; done) | rfl
set_option maxRecDepth 65536 in
set_option maxHeartbeats 40000000 in
theorem rm0 (l : Launch) (Z : State) (a0 : Array Value) (hw : ∀ d ∈ tables_1, d.before a0 Z = true) (x0 : Int32) (x1 : Int32) (x2 : Int32) (x3 : Int32) (h0 : Heap) (n0 : Nat) (Z0 : n0 ≤ h0.size) :
    MetFree l x (head1 (Jvm.Cond.code x code maxLocals ret :: tables_1) room_1) (fun a U => a = #[(.int x0), (.int x1), (.int x2), (.int x3)] ∧ Z.Warmed39 U.vm ∧ U.heap = h0) (fun _ _ _ _ _ => True) (fun _ U o U' => ∃ v L, o = .returned v ∧ Q0 n0 v U'.heap L ∧ FrameEnd U o U' L room_1.cells room_1.slots) := by
  refine MetFree.of_bodySF (plainFor_of_name pn_0) hisR ?_
  intro p e s m args below meth c s₁ Bd hml0 hP hK
  obtain ⟨rfl, hZ, hh⟩ := hP
  have hx := Bd.exec
  have hby := Bd.bytes
  have hml : c.maxLocals = 11 := hml0
  have hown : s.vm.findClass "com/example/oyster/oyster/engine/InAtEndPinLaw" = some m.cls := findClass_of_methodNamed Bd.named
  have hnm := (name_of_methodNamed Bd.named Bd.method).1
  have hret := Bd.returns
  have hlk : meth.locks = false := BodyLoose.notSynchronized Bd
  have X0 : Stand p l e room_1 s m #[(.int x0), (.int x1), (.int x2), (.int x3)] below meth c s₁ [] 0 0 := Stand.of_body Bd
  have e0 : s₁.heap = h0 := by rw [← hh, Bd.state]; rfl
  have N0 := Fr.nil n0
  show ownGo p.tables e below s₁ (entryFrame m #[(.int x0), (.int x1), (.int x2), (.int x3)] maxLocals) (ownDone s (Q0 n0) room_1.cells room_1.slots)
  rw [ef_0 m x0 x1 x2 x3]
  show ownGo p.tables e below s₁ (mkF m 0 #[.val (.int x0), .val (.int x1), .val (.int x2), .val (.int x3), .unset, .unset, .unset, .unset, .unset, .unset, .unset] []) _
  refine ownGo.st (fun _ k => XS.iloadN X0.here hx rfl (hb hby at_0) rfl k) ?_
  show ownGo p.tables e below s₁ (mkF m 1 #[.val (.int x0), .val (.int x1), .val (.int x2), .val (.int x3), .unset, .unset, .unset, .unset, .unset, .unset, .unset] [(.int x0)]) _
  refine ownGo.st (fun _ k => XS.bipush X0.here hx rfl (hb hby at_1)  k) ?_
  show ownGo p.tables e below s₁ (mkF m 3 #[.val (.int x0), .val (.int x1), .val (.int x2), .val (.int x3), .unset, .unset, .unset, .unset, .unset, .unset, .unset] [(.int (7 : Int32)), (.int x0)]) _
  refine ownGo.st (fun _ k => XS.iand X0.here hx rfl (hb hby at_3) rfl k) ?_
  show ownGo p.tables e below s₁ (mkF m 4 #[.val (.int x0), .val (.int x1), .val (.int x2), .val (.int x3), .unset, .unset, .unset, .unset, .unset, .unset, .unset] [(.int (x0 &&& (7 : Int32)))]) _
  obtain ⟨n, hn, en⟩ := own_and7 x0
  rw [en]
  show ownGo p.tables e below s₁ (mkF m 4 #[.val (.int x0), .val (.int x1), .val (.int x2), .val (.int x3), .unset, .unset, .unset, .unset, .unset, .unset, .unset] [(.int (Int32.ofNat n))]) _
  refine ownGo.st (fun _ k => XS.istore X0.here hx rfl (hb hby at_4) rfl (l' := #[.val (.int x0), .val (.int x1), .val (.int x2), .val (.int x3), .val (.int (Int32.ofNat n)), .unset, .unset, .unset, .unset, .unset, .unset]) rfl k) ?_
  show ownGo p.tables e below s₁ (mkF m 6 #[.val (.int x0), .val (.int x1), .val (.int x2), .val (.int x3), .val (.int (Int32.ofNat n)), .unset, .unset, .unset, .unset, .unset, .unset] []) _
  refine ownGo.st (fun _ k => XS.iload X0.here hx rfl (hb hby at_6) rfl k) ?_
  show ownGo p.tables e below s₁ (mkF m 8 #[.val (.int x0), .val (.int x1), .val (.int x2), .val (.int x3), .val (.int (Int32.ofNat n)), .unset, .unset, .unset, .unset, .unset, .unset] [(.int (Int32.ofNat n))]) _
  obtain ⟨T49, h49, aa, X49, e49, E49, V_aa, Ex_aa, g_aa, st49⟩ := own_newarray (aty := .byte) X0 hx hZ (own_at hw 0 rfl) e0 n 7 (by omega) (by decide) (by decide) (by decide) (ad := "[B") (by rfl) rfl (z := (Int32.ofNat n)) rfl (g := (mkF m 8 #[.val (.int x0), .val (.int x1), .val (.int x2), .val (.int x3), .val (.int (Int32.ofNat n)), .unset, .unset, .unset, .unset, .unset, .unset] [(.int (Int32.ofNat n))])) rfl (hb hby at_8) rfl
  have gz_aa : n0 ≤ aa := Nat.le_trans Z0 (Nat.le_of_eq g_aa.symm)
  have Z49 : n0 ≤ h49.size := Nat.le_trans Z0 E49.1
  refine ownGo.st (st49) ?_
  show ownGo p.tables e below T49 (mkF m 10 #[.val (.int x0), .val (.int x1), .val (.int x2), .val (.int x3), .val (.int (Int32.ofNat n)), .unset, .unset, .unset, .unset, .unset, .unset] [(.ref aa)]) _
  refine ownGo.st (fun _ k => XS.astore X49.here hx rfl (hb hby at_10) rfl rfl (l' := #[.val (.int x0), .val (.int x1), .val (.int x2), .val (.int x3), .val (.int (Int32.ofNat n)), .val (.ref aa), .unset, .unset, .unset, .unset, .unset]) rfl k) ?_
  show ownGo p.tables e below T49 (mkF m 12 #[.val (.int x0), .val (.int x1), .val (.int x2), .val (.int x3), .val (.int (Int32.ofNat n)), .val (.ref aa), .unset, .unset, .unset, .unset, .unset] []) _
  obtain ⟨T50, h50, X50, e50, E50, Ex_o1, D50, -, st50⟩ := newO X49 hx hZ hown (own_at hw 1 rfl) (own_at hw 2 rfl) (own_at hw 3 rfl) e49 (g := (mkF m 12 #[.val (.int x0), .val (.int x1), .val (.int x2), .val (.int x3), .val (.int (Int32.ofNat n)), .val (.ref aa), .unset, .unset, .unset, .unset, .unset] [])) rfl (hb hby at_12) (by decide) (by decide)
  obtain ⟨o1, g_o1⟩ : ∃ z, z = h49.size := ⟨_, rfl⟩
  rw [← g_o1] at Ex_o1 D50 st50
  have gz_o1 : n0 ≤ o1 := Nat.le_trans Z49 (Nat.le_of_eq g_o1.symm)
  have ne_aa_o1 : aa ≠ o1 := Nat.ne_of_lt (Nat.lt_of_lt_of_le V_aa.lt (Nat.le_of_eq g_o1.symm))
  have V_aa_51 := V_aa.ext E50
  have Ex_aa_52 := Ex_aa.ext E50
  have Z50 : n0 ≤ h50.size := Nat.le_trans Z49 E50.1
  have F_bytes_o1 : Fld Z h50 o1 "com/example/oyster/oyster/engine/Bytes$In" "bytes" "[B" .null := D50 (Or.inr (own_at hw 11 rfl)) (ty := (.array .byte)) (by decide)
  have F_position_o1 : Fld Z h50 o1 "com/example/oyster/oyster/engine/Bytes$In" "position" "I" (.int (0 : Int32)) := D50 (Or.inl (own_at hw 13 rfl)) (ty := .int) (by decide)
  refine ownGo.st (st50) ?_
  show ownGo p.tables e below T50 (mkF m 15 #[.val (.int x0), .val (.int x1), .val (.int x2), .val (.int x3), .val (.int (Int32.ofNat n)), .val (.ref aa), .unset, .unset, .unset, .unset, .unset] [(.ref o1)]) _
  refine ownGo.st (fun _ k => XS.dup X50.here hx rfl (hb hby at_15) rfl rfl k) ?_
  show ownGo p.tables e below T50 (mkF m 16 #[.val (.int x0), .val (.int x1), .val (.int x2), .val (.int x3), .val (.int (Int32.ofNat n)), .val (.ref aa), .unset, .unset, .unset, .unset, .unset] [(.ref o1), (.ref o1)]) _
  refine ownGo.st (fun _ k => XS.aload X50.here hx rfl (hb hby at_16) rfl rfl k) ?_
  show ownGo p.tables e below T50 (mkF m 18 #[.val (.int x0), .val (.int x1), .val (.int x2), .val (.int x3), .val (.int (Int32.ofNat n)), .val (.ref aa), .unset, .unset, .unset, .unset, .unset] [(.ref aa), (.ref o1), (.ref o1)]) _
  refine ownGo.st (fun _ k => XS.iloadN X50.here hx rfl (hb hby at_18) rfl k) ?_
  show ownGo p.tables e below T50 (mkF m 19 #[.val (.int x0), .val (.int x1), .val (.int x2), .val (.int x3), .val (.int (Int32.ofNat n)), .val (.ref aa), .unset, .unset, .unset, .unset, .unset] [(.int x1), (.ref aa), (.ref o1), (.ref o1)]) _
  obtain ⟨_, T53, L53, X53, hQ53, st53⟩ := own_callC X50 hx hZ hown rfl (own_at hw 4 rfl) (own_at hw 5 rfl) (own_at hw 3 rfl) (own_at hw 6 rfl) (by decide) (rm1 l Z a0 hw o1 aa x1 h50 n0 Z50 gz_o1 Ex_o1 F_bytes_o1 F_position_o1) 1 (by decide) (by decide) e50 (by decide) (by decide) (g := (mkF m 19 #[.val (.int x0), .val (.int x1), .val (.int x2), .val (.int x3), .val (.int (Int32.ofNat n)), .val (.ref aa), .unset, .unset, .unset, .unset, .unset] [(.int x1), (.ref aa), (.ref o1), (.ref o1)])) rfl (by rw [hml]; rfl) (argsL := [(.ref aa), (.int x1)]) (rest := [(.ref o1)]) (lenOf pd___BI_V rfl) rfl (by show 2 * 0 + _ ≤ _; exact Nat.le_of_eq rfl) (hb hby at_19)
  obtain ⟨rfl, N53q, K53, Fb_o1, Fp_o1⟩ := hQ53
  have N53 := Fr.app N0 N53q
  have V_aa_54 := V_aa_51.keep K53 (ninS ne_aa_o1 nin0)
  have Ex_aa_55 := Ex_aa_52.keep K53
  have Ex_o1_56 := Ex_o1.keep K53
  have Z53 : n0 ≤ T53.heap.size := Nat.le_trans Z50 K53.1
  refine ownGo.st st53 ?_
  show ownGo p.tables e below T53 (mkF m 22 #[.val (.int x0), .val (.int x1), .val (.int x2), .val (.int x3), .val (.int (Int32.ofNat n)), .val (.ref aa), .unset, .unset, .unset, .unset, .unset] [(.ref o1)]) _
  refine ownGo.st (fun _ k => XS.astore X53.here hx rfl (hb hby at_22) rfl rfl (l' := #[.val (.int x0), .val (.int x1), .val (.int x2), .val (.int x3), .val (.int (Int32.ofNat n)), .val (.ref aa), .val (.ref o1), .unset, .unset, .unset, .unset]) rfl k) ?_
  show ownGo p.tables e below T53 (mkF m 24 #[.val (.int x0), .val (.int x1), .val (.int x2), .val (.int x3), .val (.int (Int32.ofNat n)), .val (.ref aa), .val (.ref o1), .unset, .unset, .unset, .unset] []) _
  refine ownGo.st (fun _ k => XS.aload X53.here hx rfl (hb hby at_24) rfl rfl k) ?_
  show ownGo p.tables e below T53 (mkF m 26 #[.val (.int x0), .val (.int x1), .val (.int x2), .val (.int x3), .val (.int (Int32.ofNat n)), .val (.ref aa), .val (.ref o1), .unset, .unset, .unset, .unset] [(.ref o1)]) _
  obtain ⟨_, T57, L57, X57, hQ57, st57⟩ := own_callV X53 hx hZ hown (own_at hw 14 rfl) (own_at hw 15 rfl) (own_at hw 17 rfl) (own_at hw 16 rfl) (own_at hw 3 rfl) (own_at hw 18 rfl) (by decide) (rm3 l Z a0 hw o1 aa x1 n _ T53.heap n0 Fb_o1 Fp_o1 V_aa_54) 0 (by decide) (by decide) rfl (by decide) (by decide) Ex_o1_56 (g := (mkF m 26 #[.val (.int x0), .val (.int x1), .val (.int x2), .val (.int x3), .val (.int (Int32.ofNat n)), .val (.ref aa), .val (.ref o1), .unset, .unset, .unset, .unset] [(.ref o1)])) rfl (by rw [hml]; rfl) (argsL := []) (rest := []) (lenOf pd___Z rfl) rfl (by show 2 * 0 + _ ≤ _; exact Nat.le_of_eq rfl) (hb hby at_26)
  obtain ⟨rfl, N57q, e57⟩ := hQ57
  have N57 := Fr.app N53 N57q
  refine ownGo.st st57 ?_
  show ownGo p.tables e below T57 (mkF m 29 #[.val (.int x0), .val (.int x1), .val (.int x2), .val (.int x3), .val (.int (Int32.ofNat n)), .val (.ref aa), .val (.ref o1), .unset, .unset, .unset, .unset] [(.int (own_end x1 n))]) _
  have J61 : ∀ G, ownGo p.tables e below T57 (mkF m 48 #[.val (.int x0), .val (.int x1), .val (.int x2), .val (.int x3), .val (.int (Int32.ofNat n)), .val (.ref aa), .val (.ref o1), .unset, .unset, .unset, .unset] [(.int (1 : Int32))]) G → ownGo p.tables e below T57 (mkF m 29 #[.val (.int x0), .val (.int x1), .val (.int x2), .val (.int x3), .val (.int (Int32.ofNat n)), .val (.ref aa), .val (.ref o1), .unset, .unset, .unset, .unset] [(.int (own_end x1 n))]) G := by
    intro G kk
    refine ownGo.st (fun _ k => XS.iloadN X57.here hx rfl (hb hby at_29) rfl k) ?_
    show ownGo p.tables e below T57 (mkF m 30 #[.val (.int x0), .val (.int x1), .val (.int x2), .val (.int x3), .val (.int (Int32.ofNat n)), .val (.ref aa), .val (.ref o1), .unset, .unset, .unset, .unset] [(.int x1), (.int (own_end x1 n))]) _
    refine ownGo.st (fun _ k => XS.iload X57.here hx rfl (hb hby at_30) rfl k) ?_
    show ownGo p.tables e below T57 (mkF m 32 #[.val (.int x0), .val (.int x1), .val (.int x2), .val (.int x3), .val (.int (Int32.ofNat n)), .val (.ref aa), .val (.ref o1), .unset, .unset, .unset, .unset] [(.int (Int32.ofNat n)), (.int x1), (.int (own_end x1 n))]) _
    by_cases hq58 : x1 = (Int32.ofNat n)
    · refine ownGo.st (fun _ k => XS.icmpNo X57.here hx rfl (hb hby at_32) rfl (teq hq58).2 k) ?_
      show ownGo p.tables e below T57 (mkF m 35 #[.val (.int x0), .val (.int x1), .val (.int x2), .val (.int x3), .val (.int (Int32.ofNat n)), .val (.ref aa), .val (.ref o1), .unset, .unset, .unset, .unset] [(.int (own_end x1 n))]) _
      refine ownGo.st (fun _ k => XS.iconst X57.here hx rfl (hb hby at_35)  k) ?_
      show ownGo p.tables e below T57 (mkF m 36 #[.val (.int x0), .val (.int x1), .val (.int x2), .val (.int x3), .val (.int (Int32.ofNat n)), .val (.ref aa), .val (.ref o1), .unset, .unset, .unset, .unset] [(.int (1 : Int32)), (.int (own_end x1 n))]) _
      refine ownGo.st (fun _ k => XS.goto X57.here hx rfl (pc0 := 36) (pc' := 40) rfl (hb hby at_36) (by decide) (by decide) k) ?_
      show ownGo p.tables e below T57 (mkF m 40 #[.val (.int x0), .val (.int x1), .val (.int x2), .val (.int x3), .val (.int (Int32.ofNat n)), .val (.ref aa), .val (.ref o1), .unset, .unset, .unset, .unset] [(.int (1 : Int32)), (.int (own_end x1 n))]) _
      have hc59 : (own_end x1 n) = (1 : Int32) := if_pos hq58
      refine ownGo.st (fun _ k => XS.icmpNo X57.here hx rfl (hb hby at_40) rfl (teq hc59).2 k) ?_
      show ownGo p.tables e below T57 (mkF m 43 #[.val (.int x0), .val (.int x1), .val (.int x2), .val (.int x3), .val (.int (Int32.ofNat n)), .val (.ref aa), .val (.ref o1), .unset, .unset, .unset, .unset] []) _
      refine ownGo.st (fun _ k => XS.iconst X57.here hx rfl (hb hby at_43)  k) ?_
      show ownGo p.tables e below T57 (mkF m 44 #[.val (.int x0), .val (.int x1), .val (.int x2), .val (.int x3), .val (.int (Int32.ofNat n)), .val (.ref aa), .val (.ref o1), .unset, .unset, .unset, .unset] [(.int (1 : Int32))]) _
      refine ownGo.st (fun _ k => XS.goto X57.here hx rfl (pc0 := 44) (pc' := 48) rfl (hb hby at_44) (by decide) (by decide) k) ?_
      show ownGo p.tables e below T57 (mkF m 48 #[.val (.int x0), .val (.int x1), .val (.int x2), .val (.int x3), .val (.int (Int32.ofNat n)), .val (.ref aa), .val (.ref o1), .unset, .unset, .unset, .unset] [(.int (1 : Int32))]) _
      exact kk
    · refine ownGo.st (fun _ k => XS.icmpYes X57.here hx rfl (pc0 := 32) (pc' := 39) rfl (hb hby at_32) rfl (feq hq58).2 (by decide) (by decide) k) ?_
      show ownGo p.tables e below T57 (mkF m 39 #[.val (.int x0), .val (.int x1), .val (.int x2), .val (.int x3), .val (.int (Int32.ofNat n)), .val (.ref aa), .val (.ref o1), .unset, .unset, .unset, .unset] [(.int (own_end x1 n))]) _
      refine ownGo.st (fun _ k => XS.iconst X57.here hx rfl (hb hby at_39)  k) ?_
      show ownGo p.tables e below T57 (mkF m 40 #[.val (.int x0), .val (.int x1), .val (.int x2), .val (.int x3), .val (.int (Int32.ofNat n)), .val (.ref aa), .val (.ref o1), .unset, .unset, .unset, .unset] [(.int (0 : Int32)), (.int (own_end x1 n))]) _
      have hc60 : (own_end x1 n) = (0 : Int32) := if_neg hq58
      refine ownGo.st (fun _ k => XS.icmpNo X57.here hx rfl (hb hby at_40) rfl (teq hc60).2 k) ?_
      show ownGo p.tables e below T57 (mkF m 43 #[.val (.int x0), .val (.int x1), .val (.int x2), .val (.int x3), .val (.int (Int32.ofNat n)), .val (.ref aa), .val (.ref o1), .unset, .unset, .unset, .unset] []) _
      refine ownGo.st (fun _ k => XS.iconst X57.here hx rfl (hb hby at_43)  k) ?_
      show ownGo p.tables e below T57 (mkF m 44 #[.val (.int x0), .val (.int x1), .val (.int x2), .val (.int x3), .val (.int (Int32.ofNat n)), .val (.ref aa), .val (.ref o1), .unset, .unset, .unset, .unset] [(.int (1 : Int32))]) _
      refine ownGo.st (fun _ k => XS.goto X57.here hx rfl (pc0 := 44) (pc' := 48) rfl (hb hby at_44) (by decide) (by decide) k) ?_
      show ownGo p.tables e below T57 (mkF m 48 #[.val (.int x0), .val (.int x1), .val (.int x2), .val (.int x3), .val (.int (Int32.ofNat n)), .val (.ref aa), .val (.ref o1), .unset, .unset, .unset, .unset] [(.int (1 : Int32))]) _
      exact kk
  refine J61 _ ?_
  show ownGo p.tables e below T57 (mkF m 48 #[.val (.int x0), .val (.int x1), .val (.int x2), .val (.int x3), .val (.int (Int32.ofNat n)), .val (.ref aa), .val (.ref o1), .unset, .unset, .unset, .unset] [(.int (1 : Int32))]) _
  refine ownGo.st (fun _ k => XS.istore X57.here hx rfl (hb hby at_48) rfl (l' := #[.val (.int x0), .val (.int x1), .val (.int x2), .val (.int x3), .val (.int (Int32.ofNat n)), .val (.ref aa), .val (.ref o1), .val (.int (1 : Int32)), .unset, .unset, .unset]) rfl k) ?_
  show ownGo p.tables e below T57 (mkF m 50 #[.val (.int x0), .val (.int x1), .val (.int x2), .val (.int x3), .val (.int (Int32.ofNat n)), .val (.ref aa), .val (.ref o1), .val (.int (1 : Int32)), .unset, .unset, .unset] []) _
  refine ownGo.st (fun _ k => XS.iloadN X57.here hx rfl (hb hby at_50) rfl k) ?_
  show ownGo p.tables e below T57 (mkF m 51 #[.val (.int x0), .val (.int x1), .val (.int x2), .val (.int x3), .val (.int (Int32.ofNat n)), .val (.ref aa), .val (.ref o1), .val (.int (1 : Int32)), .unset, .unset, .unset] [(.int x1)]) _
  refine ownGo.st (X57.ldcInt hx hown (mvT hZ (own_at hw 19 rfl)) (g := (mkF m 51 #[.val (.int x0), .val (.int x1), .val (.int x2), .val (.int x3), .val (.int (Int32.ofNat n)), .val (.ref aa), .val (.ref o1), .val (.int (1 : Int32)), .unset, .unset, .unset] [(.int x1)])) rfl (hb hby at_51)) ?_
  show ownGo p.tables e below T57 (mkF m 53 #[.val (.int x0), .val (.int x1), .val (.int x2), .val (.int x3), .val (.int (Int32.ofNat n)), .val (.ref aa), .val (.ref o1), .val (.int (1 : Int32)), .unset, .unset, .unset] [(.int (2147483647 : Int32)), (.int x1)]) _
  refine ownGo.st (fun _ k => XS.iand X57.here hx rfl (hb hby at_53) rfl k) ?_
  show ownGo p.tables e below T57 (mkF m 54 #[.val (.int x0), .val (.int x1), .val (.int x2), .val (.int x3), .val (.int (Int32.ofNat n)), .val (.ref aa), .val (.ref o1), .val (.int (1 : Int32)), .unset, .unset, .unset] [(.int (x1 &&& (2147483647 : Int32)))]) _
  refine ownGo.st (fun _ k => XS.iload X57.here hx rfl (hb hby at_54) rfl k) ?_
  show ownGo p.tables e below T57 (mkF m 56 #[.val (.int x0), .val (.int x1), .val (.int x2), .val (.int x3), .val (.int (Int32.ofNat n)), .val (.ref aa), .val (.ref o1), .val (.int (1 : Int32)), .unset, .unset, .unset] [(.int (Int32.ofNat n)), (.int (x1 &&& (2147483647 : Int32)))]) _
  refine ownGo.st (fun _ k => XS.iconst X57.here hx rfl (hb hby at_56)  k) ?_
  show ownGo p.tables e below T57 (mkF m 57 #[.val (.int x0), .val (.int x1), .val (.int x2), .val (.int x3), .val (.int (Int32.ofNat n)), .val (.ref aa), .val (.ref o1), .val (.int (1 : Int32)), .unset, .unset, .unset] [(.int (1 : Int32)), (.int (Int32.ofNat n)), (.int (x1 &&& (2147483647 : Int32)))]) _
  refine ownGo.st (fun _ k => XS.iadd X57.here hx rfl (hb hby at_57) rfl k) ?_
  show ownGo p.tables e below T57 (mkF m 58 #[.val (.int x0), .val (.int x1), .val (.int x2), .val (.int x3), .val (.int (Int32.ofNat n)), .val (.ref aa), .val (.ref o1), .val (.int (1 : Int32)), .unset, .unset, .unset] [(.int ((Int32.ofNat n) + (1 : Int32))), (.int (x1 &&& (2147483647 : Int32)))]) _
  rw [show Int32.ofNat n + (1 : Int32) = Int32.ofNat (n + 1) from (Int32.ofNat_add n 1).symm]
  show ownGo p.tables e below T57 (mkF m 58 #[.val (.int x0), .val (.int x1), .val (.int x2), .val (.int x3), .val (.int (Int32.ofNat n)), .val (.ref aa), .val (.ref o1), .val (.int (1 : Int32)), .unset, .unset, .unset] [(.int (Int32.ofNat (n + 1))), (.int (x1 &&& (2147483647 : Int32)))]) _
  refine ownGo.st (fun _ k => iremM X57 hx rfl (hb hby at_58) rfl (own_nz (by omega) (by omega)) k) ?_
  show ownGo p.tables e below T57 (mkF m 59 #[.val (.int x0), .val (.int x1), .val (.int x2), .val (.int x3), .val (.int (Int32.ofNat n)), .val (.ref aa), .val (.ref o1), .val (.int (1 : Int32)), .unset, .unset, .unset] [(.int ((x1 &&& (2147483647 : Int32)) % (Int32.ofNat (n + 1))))]) _
  obtain ⟨i, hi, ei⟩ := own_rem x1 (n + 1) (by omega) (by omega)
  rw [ei]
  show ownGo p.tables e below T57 (mkF m 59 #[.val (.int x0), .val (.int x1), .val (.int x2), .val (.int x3), .val (.int (Int32.ofNat n)), .val (.ref aa), .val (.ref o1), .val (.int (1 : Int32)), .unset, .unset, .unset] [(.int (Int32.ofNat i))]) _
  refine ownGo.st (fun _ k => XS.istore X57.here hx rfl (hb hby at_59) rfl (l' := #[.val (.int x0), .val (.int x1), .val (.int x2), .val (.int x3), .val (.int (Int32.ofNat n)), .val (.ref aa), .val (.ref o1), .val (.int (1 : Int32)), .val (.int (Int32.ofNat i)), .unset, .unset]) rfl k) ?_
  show ownGo p.tables e below T57 (mkF m 61 #[.val (.int x0), .val (.int x1), .val (.int x2), .val (.int x3), .val (.int (Int32.ofNat n)), .val (.ref aa), .val (.ref o1), .val (.int (1 : Int32)), .val (.int (Int32.ofNat i)), .unset, .unset] []) _
  refine ownGo.st (fun _ k => XS.iloadN X57.here hx rfl (hb hby at_61) rfl k) ?_
  show ownGo p.tables e below T57 (mkF m 62 #[.val (.int x0), .val (.int x1), .val (.int x2), .val (.int x3), .val (.int (Int32.ofNat n)), .val (.ref aa), .val (.ref o1), .val (.int (1 : Int32)), .val (.int (Int32.ofNat i)), .unset, .unset] [(.int x2)]) _
  refine ownGo.st (X57.ldcInt hx hown (mvT hZ (own_at hw 19 rfl)) (g := (mkF m 62 #[.val (.int x0), .val (.int x1), .val (.int x2), .val (.int x3), .val (.int (Int32.ofNat n)), .val (.ref aa), .val (.ref o1), .val (.int (1 : Int32)), .val (.int (Int32.ofNat i)), .unset, .unset] [(.int x2)])) rfl (hb hby at_62)) ?_
  show ownGo p.tables e below T57 (mkF m 64 #[.val (.int x0), .val (.int x1), .val (.int x2), .val (.int x3), .val (.int (Int32.ofNat n)), .val (.ref aa), .val (.ref o1), .val (.int (1 : Int32)), .val (.int (Int32.ofNat i)), .unset, .unset] [(.int (2147483647 : Int32)), (.int x2)]) _
  refine ownGo.st (fun _ k => XS.iand X57.here hx rfl (hb hby at_64) rfl k) ?_
  show ownGo p.tables e below T57 (mkF m 65 #[.val (.int x0), .val (.int x1), .val (.int x2), .val (.int x3), .val (.int (Int32.ofNat n)), .val (.ref aa), .val (.ref o1), .val (.int (1 : Int32)), .val (.int (Int32.ofNat i)), .unset, .unset] [(.int (x2 &&& (2147483647 : Int32)))]) _
  refine ownGo.st (fun _ k => XS.iload X57.here hx rfl (hb hby at_65) rfl k) ?_
  show ownGo p.tables e below T57 (mkF m 67 #[.val (.int x0), .val (.int x1), .val (.int x2), .val (.int x3), .val (.int (Int32.ofNat n)), .val (.ref aa), .val (.ref o1), .val (.int (1 : Int32)), .val (.int (Int32.ofNat i)), .unset, .unset] [(.int (Int32.ofNat n)), (.int (x2 &&& (2147483647 : Int32)))]) _
  refine ownGo.st (fun _ k => XS.iload X57.here hx rfl (hb hby at_67) rfl k) ?_
  show ownGo p.tables e below T57 (mkF m 69 #[.val (.int x0), .val (.int x1), .val (.int x2), .val (.int x3), .val (.int (Int32.ofNat n)), .val (.ref aa), .val (.ref o1), .val (.int (1 : Int32)), .val (.int (Int32.ofNat i)), .unset, .unset] [(.int (Int32.ofNat i)), (.int (Int32.ofNat n)), (.int (x2 &&& (2147483647 : Int32)))]) _
  refine ownGo.st (fun _ k => XS.isub X57.here hx rfl (hb hby at_69) rfl k) ?_
  show ownGo p.tables e below T57 (mkF m 70 #[.val (.int x0), .val (.int x1), .val (.int x2), .val (.int x3), .val (.int (Int32.ofNat n)), .val (.ref aa), .val (.ref o1), .val (.int (1 : Int32)), .val (.int (Int32.ofNat i)), .unset, .unset] [(.int ((Int32.ofNat n) - (Int32.ofNat i))), (.int (x2 &&& (2147483647 : Int32)))]) _
  rw [own_sub (a := n) (b := i) (by omega) (by omega)]
  show ownGo p.tables e below T57 (mkF m 70 #[.val (.int x0), .val (.int x1), .val (.int x2), .val (.int x3), .val (.int (Int32.ofNat n)), .val (.ref aa), .val (.ref o1), .val (.int (1 : Int32)), .val (.int (Int32.ofNat i)), .unset, .unset] [(.int (Int32.ofNat (n - i))), (.int (x2 &&& (2147483647 : Int32)))]) _
  refine ownGo.st (fun _ k => XS.iconst X57.here hx rfl (hb hby at_70)  k) ?_
  show ownGo p.tables e below T57 (mkF m 71 #[.val (.int x0), .val (.int x1), .val (.int x2), .val (.int x3), .val (.int (Int32.ofNat n)), .val (.ref aa), .val (.ref o1), .val (.int (1 : Int32)), .val (.int (Int32.ofNat i)), .unset, .unset] [(.int (1 : Int32)), (.int (Int32.ofNat (n - i))), (.int (x2 &&& (2147483647 : Int32)))]) _
  refine ownGo.st (fun _ k => XS.iadd X57.here hx rfl (hb hby at_71) rfl k) ?_
  show ownGo p.tables e below T57 (mkF m 72 #[.val (.int x0), .val (.int x1), .val (.int x2), .val (.int x3), .val (.int (Int32.ofNat n)), .val (.ref aa), .val (.ref o1), .val (.int (1 : Int32)), .val (.int (Int32.ofNat i)), .unset, .unset] [(.int ((Int32.ofNat (n - i)) + (1 : Int32))), (.int (x2 &&& (2147483647 : Int32)))]) _
  rw [show Int32.ofNat (n - i) + (1 : Int32) = Int32.ofNat (n - i + 1) from (Int32.ofNat_add (n - i) 1).symm]
  show ownGo p.tables e below T57 (mkF m 72 #[.val (.int x0), .val (.int x1), .val (.int x2), .val (.int x3), .val (.int (Int32.ofNat n)), .val (.ref aa), .val (.ref o1), .val (.int (1 : Int32)), .val (.int (Int32.ofNat i)), .unset, .unset] [(.int (Int32.ofNat (n - i + 1))), (.int (x2 &&& (2147483647 : Int32)))]) _
  refine ownGo.st (fun _ k => iremM X57 hx rfl (hb hby at_72) rfl (own_nz (by omega) (by omega)) k) ?_
  show ownGo p.tables e below T57 (mkF m 73 #[.val (.int x0), .val (.int x1), .val (.int x2), .val (.int x3), .val (.int (Int32.ofNat n)), .val (.ref aa), .val (.ref o1), .val (.int (1 : Int32)), .val (.int (Int32.ofNat i)), .unset, .unset] [(.int ((x2 &&& (2147483647 : Int32)) % (Int32.ofNat (n - i + 1))))]) _
  obtain ⟨j, hj, ej⟩ := own_rem x2 (n - i + 1) (by omega) (by omega)
  rw [ej]
  show ownGo p.tables e below T57 (mkF m 73 #[.val (.int x0), .val (.int x1), .val (.int x2), .val (.int x3), .val (.int (Int32.ofNat n)), .val (.ref aa), .val (.ref o1), .val (.int (1 : Int32)), .val (.int (Int32.ofNat i)), .unset, .unset] [(.int (Int32.ofNat j))]) _
  refine ownGo.st (fun _ k => XS.istore X57.here hx rfl (hb hby at_73) rfl (l' := #[.val (.int x0), .val (.int x1), .val (.int x2), .val (.int x3), .val (.int (Int32.ofNat n)), .val (.ref aa), .val (.ref o1), .val (.int (1 : Int32)), .val (.int (Int32.ofNat i)), .val (.int (Int32.ofNat j)), .unset]) rfl k) ?_
  show ownGo p.tables e below T57 (mkF m 75 #[.val (.int x0), .val (.int x1), .val (.int x2), .val (.int x3), .val (.int (Int32.ofNat n)), .val (.ref aa), .val (.ref o1), .val (.int (1 : Int32)), .val (.int (Int32.ofNat i)), .val (.int (Int32.ofNat j)), .unset] []) _
  obtain ⟨T62, h62, X62, e62, E62, Ex_o2, D62, -, st62⟩ := newO X57 hx hZ hown (own_at hw 1 rfl) (own_at hw 2 rfl) (own_at hw 3 rfl) e57 (g := (mkF m 75 #[.val (.int x0), .val (.int x1), .val (.int x2), .val (.int x3), .val (.int (Int32.ofNat n)), .val (.ref aa), .val (.ref o1), .val (.int (1 : Int32)), .val (.int (Int32.ofNat i)), .val (.int (Int32.ofNat j)), .unset] [])) rfl (hb hby at_75) (by decide) (by decide)
  obtain ⟨o2, g_o2⟩ : ∃ z, z = T53.heap.size := ⟨_, rfl⟩
  rw [← g_o2] at Ex_o2 D62 st62
  have gz_o2 : n0 ≤ o2 := Nat.le_trans Z53 (Nat.le_of_eq g_o2.symm)
  have ne_aa_o2 : aa ≠ o2 := Nat.ne_of_lt (Nat.lt_of_lt_of_le V_aa_54.lt (Nat.le_of_eq g_o2.symm))
  have V_aa_63 := V_aa_54.ext E62
  have Ex_aa_64 := Ex_aa_55.ext E62
  have Z62 : n0 ≤ h62.size := Nat.le_trans Z53 E62.1
  have F_bytes_o2 : Fld Z h62 o2 "com/example/oyster/oyster/engine/Bytes$In" "bytes" "[B" .null := D62 (Or.inr (own_at hw 11 rfl)) (ty := (.array .byte)) (by decide)
  have F_position_o2 : Fld Z h62 o2 "com/example/oyster/oyster/engine/Bytes$In" "position" "I" (.int (0 : Int32)) := D62 (Or.inl (own_at hw 13 rfl)) (ty := .int) (by decide)
  refine ownGo.st (st62) ?_
  show ownGo p.tables e below T62 (mkF m 78 #[.val (.int x0), .val (.int x1), .val (.int x2), .val (.int x3), .val (.int (Int32.ofNat n)), .val (.ref aa), .val (.ref o1), .val (.int (1 : Int32)), .val (.int (Int32.ofNat i)), .val (.int (Int32.ofNat j)), .unset] [(.ref o2)]) _
  refine ownGo.st (fun _ k => XS.dup X62.here hx rfl (hb hby at_78) rfl rfl k) ?_
  show ownGo p.tables e below T62 (mkF m 79 #[.val (.int x0), .val (.int x1), .val (.int x2), .val (.int x3), .val (.int (Int32.ofNat n)), .val (.ref aa), .val (.ref o1), .val (.int (1 : Int32)), .val (.int (Int32.ofNat i)), .val (.int (Int32.ofNat j)), .unset] [(.ref o2), (.ref o2)]) _
  refine ownGo.st (fun _ k => XS.aload X62.here hx rfl (hb hby at_79) rfl rfl k) ?_
  show ownGo p.tables e below T62 (mkF m 81 #[.val (.int x0), .val (.int x1), .val (.int x2), .val (.int x3), .val (.int (Int32.ofNat n)), .val (.ref aa), .val (.ref o1), .val (.int (1 : Int32)), .val (.int (Int32.ofNat i)), .val (.int (Int32.ofNat j)), .unset] [(.ref aa), (.ref o2), (.ref o2)]) _
  refine ownGo.st (fun _ k => XS.iload X62.here hx rfl (hb hby at_81) rfl k) ?_
  show ownGo p.tables e below T62 (mkF m 83 #[.val (.int x0), .val (.int x1), .val (.int x2), .val (.int x3), .val (.int (Int32.ofNat n)), .val (.ref aa), .val (.ref o1), .val (.int (1 : Int32)), .val (.int (Int32.ofNat i)), .val (.int (Int32.ofNat j)), .unset] [(.int (Int32.ofNat i)), (.ref aa), (.ref o2), (.ref o2)]) _
  obtain ⟨_, T65, L65, X65, hQ65, st65⟩ := own_callC X62 hx hZ hown rfl (own_at hw 4 rfl) (own_at hw 5 rfl) (own_at hw 3 rfl) (own_at hw 6 rfl) (by decide) (rm1 l Z a0 hw o2 aa (Int32.ofNat i) h62 n0 Z62 gz_o2 Ex_o2 F_bytes_o2 F_position_o2) 1 (by decide) (by decide) e62 (by decide) (by decide) (g := (mkF m 83 #[.val (.int x0), .val (.int x1), .val (.int x2), .val (.int x3), .val (.int (Int32.ofNat n)), .val (.ref aa), .val (.ref o1), .val (.int (1 : Int32)), .val (.int (Int32.ofNat i)), .val (.int (Int32.ofNat j)), .unset] [(.int (Int32.ofNat i)), (.ref aa), (.ref o2), (.ref o2)])) rfl (by rw [hml]; rfl) (argsL := [(.ref aa), (.int (Int32.ofNat i))]) (rest := [(.ref o2)]) (lenOf pd___BI_V rfl) rfl (by show 2 * 0 + _ ≤ _; exact Nat.le_of_eq rfl) (hb hby at_83)
  obtain ⟨rfl, N65q, K65, Fb_o2, Fp_o2⟩ := hQ65
  have N65 := Fr.app N57 N65q
  have V_aa_66 := V_aa_63.keep K65 (ninS ne_aa_o2 nin0)
  have Ex_aa_67 := Ex_aa_64.keep K65
  have Ex_o2_68 := Ex_o2.keep K65
  have Z65 : n0 ≤ T65.heap.size := Nat.le_trans Z62 K65.1
  refine ownGo.st st65 ?_
  show ownGo p.tables e below T65 (mkF m 86 #[.val (.int x0), .val (.int x1), .val (.int x2), .val (.int x3), .val (.int (Int32.ofNat n)), .val (.ref aa), .val (.ref o1), .val (.int (1 : Int32)), .val (.int (Int32.ofNat i)), .val (.int (Int32.ofNat j)), .unset] [(.ref o2)]) _
  refine ownGo.st (fun _ k => XS.astore X65.here hx rfl (hb hby at_86) rfl rfl (l' := #[.val (.int x0), .val (.int x1), .val (.int x2), .val (.int x3), .val (.int (Int32.ofNat n)), .val (.ref aa), .val (.ref o1), .val (.int (1 : Int32)), .val (.int (Int32.ofNat i)), .val (.int (Int32.ofNat j)), .val (.ref o2)]) rfl k) ?_
  show ownGo p.tables e below T65 (mkF m 88 #[.val (.int x0), .val (.int x1), .val (.int x2), .val (.int x3), .val (.int (Int32.ofNat n)), .val (.ref aa), .val (.ref o1), .val (.int (1 : Int32)), .val (.int (Int32.ofNat i)), .val (.int (Int32.ofNat j)), .val (.ref o2)] []) _
  refine ownGo.st (fun _ k => XS.iload X65.here hx rfl (hb hby at_88) rfl k) ?_
  show ownGo p.tables e below T65 (mkF m 90 #[.val (.int x0), .val (.int x1), .val (.int x2), .val (.int x3), .val (.int (Int32.ofNat n)), .val (.ref aa), .val (.ref o1), .val (.int (1 : Int32)), .val (.int (Int32.ofNat i)), .val (.int (Int32.ofNat j)), .val (.ref o2)] [(.int (1 : Int32))]) _
  have hc69 : ¬ ((1 : Int32) = (0 : Int32)) := (by decide)
  refine ownGo.st (fun _ k => XS.ifNo X65.here hx rfl (hb hby at_90) rfl ((if0 _ _).trans (feq hc69).1) k) ?_
  show ownGo p.tables e below T65 (mkF m 93 #[.val (.int x0), .val (.int x1), .val (.int x2), .val (.int x3), .val (.int (Int32.ofNat n)), .val (.ref aa), .val (.ref o1), .val (.int (1 : Int32)), .val (.int (Int32.ofNat i)), .val (.int (Int32.ofNat j)), .val (.ref o2)] []) _
  refine ownGo.st (fun _ k => XS.aload X65.here hx rfl (hb hby at_93) rfl rfl k) ?_
  show ownGo p.tables e below T65 (mkF m 95 #[.val (.int x0), .val (.int x1), .val (.int x2), .val (.int x3), .val (.int (Int32.ofNat n)), .val (.ref aa), .val (.ref o1), .val (.int (1 : Int32)), .val (.int (Int32.ofNat i)), .val (.int (Int32.ofNat j)), .val (.ref o2)] [(.ref o2)]) _
  obtain ⟨_, T70, L70, X70, hQ70, st70⟩ := own_callV X65 hx hZ hown (own_at hw 14 rfl) (own_at hw 15 rfl) (own_at hw 17 rfl) (own_at hw 16 rfl) (own_at hw 3 rfl) (own_at hw 18 rfl) (by decide) (rm3 l Z a0 hw o2 aa (Int32.ofNat i) n _ T65.heap n0 Fb_o2 Fp_o2 V_aa_66) 0 (by decide) (by decide) rfl (by decide) (by decide) Ex_o2_68 (g := (mkF m 95 #[.val (.int x0), .val (.int x1), .val (.int x2), .val (.int x3), .val (.int (Int32.ofNat n)), .val (.ref aa), .val (.ref o1), .val (.int (1 : Int32)), .val (.int (Int32.ofNat i)), .val (.int (Int32.ofNat j)), .val (.ref o2)] [(.ref o2)])) rfl (by rw [hml]; rfl) (argsL := []) (rest := []) (lenOf pd___Z rfl) rfl (by show 2 * 0 + _ ≤ _; exact Nat.le_of_eq rfl) (hb hby at_95)
  obtain ⟨rfl, N70q, e70⟩ := hQ70
  have N70 := Fr.app N65 N70q
  refine ownGo.st st70 ?_
  show ownGo p.tables e below T70 (mkF m 98 #[.val (.int x0), .val (.int x1), .val (.int x2), .val (.int x3), .val (.int (Int32.ofNat n)), .val (.ref aa), .val (.ref o1), .val (.int (1 : Int32)), .val (.int (Int32.ofNat i)), .val (.int (Int32.ofNat j)), .val (.ref o2)] [(.int (own_end (Int32.ofNat i) n))]) _
  have J74 : ∀ G, ownGo p.tables e below T70 (mkF m 118 #[.val (.int x0), .val (.int x1), .val (.int x2), .val (.int x3), .val (.int (Int32.ofNat n)), .val (.ref aa), .val (.ref o1), .val (.int (1 : Int32)), .val (.int (Int32.ofNat i)), .val (.int (Int32.ofNat j)), .val (.ref o2)] [(.int (1 : Int32))]) G → ownGo p.tables e below T70 (mkF m 98 #[.val (.int x0), .val (.int x1), .val (.int x2), .val (.int x3), .val (.int (Int32.ofNat n)), .val (.ref aa), .val (.ref o1), .val (.int (1 : Int32)), .val (.int (Int32.ofNat i)), .val (.int (Int32.ofNat j)), .val (.ref o2)] [(.int (own_end (Int32.ofNat i) n))]) G := by
    intro G kk
    refine ownGo.st (fun _ k => XS.iload X70.here hx rfl (hb hby at_98) rfl k) ?_
    show ownGo p.tables e below T70 (mkF m 100 #[.val (.int x0), .val (.int x1), .val (.int x2), .val (.int x3), .val (.int (Int32.ofNat n)), .val (.ref aa), .val (.ref o1), .val (.int (1 : Int32)), .val (.int (Int32.ofNat i)), .val (.int (Int32.ofNat j)), .val (.ref o2)] [(.int (Int32.ofNat i)), (.int (own_end (Int32.ofNat i) n))]) _
    refine ownGo.st (fun _ k => XS.iload X70.here hx rfl (hb hby at_100) rfl k) ?_
    show ownGo p.tables e below T70 (mkF m 102 #[.val (.int x0), .val (.int x1), .val (.int x2), .val (.int x3), .val (.int (Int32.ofNat n)), .val (.ref aa), .val (.ref o1), .val (.int (1 : Int32)), .val (.int (Int32.ofNat i)), .val (.int (Int32.ofNat j)), .val (.ref o2)] [(.int (Int32.ofNat n)), (.int (Int32.ofNat i)), (.int (own_end (Int32.ofNat i) n))]) _
    by_cases hq71 : (Int32.ofNat i) = (Int32.ofNat n)
    · refine ownGo.st (fun _ k => XS.icmpNo X70.here hx rfl (hb hby at_102) rfl (teq hq71).2 k) ?_
      show ownGo p.tables e below T70 (mkF m 105 #[.val (.int x0), .val (.int x1), .val (.int x2), .val (.int x3), .val (.int (Int32.ofNat n)), .val (.ref aa), .val (.ref o1), .val (.int (1 : Int32)), .val (.int (Int32.ofNat i)), .val (.int (Int32.ofNat j)), .val (.ref o2)] [(.int (own_end (Int32.ofNat i) n))]) _
      refine ownGo.st (fun _ k => XS.iconst X70.here hx rfl (hb hby at_105)  k) ?_
      show ownGo p.tables e below T70 (mkF m 106 #[.val (.int x0), .val (.int x1), .val (.int x2), .val (.int x3), .val (.int (Int32.ofNat n)), .val (.ref aa), .val (.ref o1), .val (.int (1 : Int32)), .val (.int (Int32.ofNat i)), .val (.int (Int32.ofNat j)), .val (.ref o2)] [(.int (1 : Int32)), (.int (own_end (Int32.ofNat i) n))]) _
      refine ownGo.st (fun _ k => XS.goto X70.here hx rfl (pc0 := 106) (pc' := 110) rfl (hb hby at_106) (by decide) (by decide) k) ?_
      show ownGo p.tables e below T70 (mkF m 110 #[.val (.int x0), .val (.int x1), .val (.int x2), .val (.int x3), .val (.int (Int32.ofNat n)), .val (.ref aa), .val (.ref o1), .val (.int (1 : Int32)), .val (.int (Int32.ofNat i)), .val (.int (Int32.ofNat j)), .val (.ref o2)] [(.int (1 : Int32)), (.int (own_end (Int32.ofNat i) n))]) _
      have hc72 : (own_end (Int32.ofNat i) n) = (1 : Int32) := if_pos hq71
      refine ownGo.st (fun _ k => XS.icmpNo X70.here hx rfl (hb hby at_110) rfl (teq hc72).2 k) ?_
      show ownGo p.tables e below T70 (mkF m 113 #[.val (.int x0), .val (.int x1), .val (.int x2), .val (.int x3), .val (.int (Int32.ofNat n)), .val (.ref aa), .val (.ref o1), .val (.int (1 : Int32)), .val (.int (Int32.ofNat i)), .val (.int (Int32.ofNat j)), .val (.ref o2)] []) _
      refine ownGo.st (fun _ k => XS.iconst X70.here hx rfl (hb hby at_113)  k) ?_
      show ownGo p.tables e below T70 (mkF m 114 #[.val (.int x0), .val (.int x1), .val (.int x2), .val (.int x3), .val (.int (Int32.ofNat n)), .val (.ref aa), .val (.ref o1), .val (.int (1 : Int32)), .val (.int (Int32.ofNat i)), .val (.int (Int32.ofNat j)), .val (.ref o2)] [(.int (1 : Int32))]) _
      refine ownGo.st (fun _ k => XS.goto X70.here hx rfl (pc0 := 114) (pc' := 118) rfl (hb hby at_114) (by decide) (by decide) k) ?_
      show ownGo p.tables e below T70 (mkF m 118 #[.val (.int x0), .val (.int x1), .val (.int x2), .val (.int x3), .val (.int (Int32.ofNat n)), .val (.ref aa), .val (.ref o1), .val (.int (1 : Int32)), .val (.int (Int32.ofNat i)), .val (.int (Int32.ofNat j)), .val (.ref o2)] [(.int (1 : Int32))]) _
      exact kk
    · refine ownGo.st (fun _ k => XS.icmpYes X70.here hx rfl (pc0 := 102) (pc' := 109) rfl (hb hby at_102) rfl (feq hq71).2 (by decide) (by decide) k) ?_
      show ownGo p.tables e below T70 (mkF m 109 #[.val (.int x0), .val (.int x1), .val (.int x2), .val (.int x3), .val (.int (Int32.ofNat n)), .val (.ref aa), .val (.ref o1), .val (.int (1 : Int32)), .val (.int (Int32.ofNat i)), .val (.int (Int32.ofNat j)), .val (.ref o2)] [(.int (own_end (Int32.ofNat i) n))]) _
      refine ownGo.st (fun _ k => XS.iconst X70.here hx rfl (hb hby at_109)  k) ?_
      show ownGo p.tables e below T70 (mkF m 110 #[.val (.int x0), .val (.int x1), .val (.int x2), .val (.int x3), .val (.int (Int32.ofNat n)), .val (.ref aa), .val (.ref o1), .val (.int (1 : Int32)), .val (.int (Int32.ofNat i)), .val (.int (Int32.ofNat j)), .val (.ref o2)] [(.int (0 : Int32)), (.int (own_end (Int32.ofNat i) n))]) _
      have hc73 : (own_end (Int32.ofNat i) n) = (0 : Int32) := if_neg hq71
      refine ownGo.st (fun _ k => XS.icmpNo X70.here hx rfl (hb hby at_110) rfl (teq hc73).2 k) ?_
      show ownGo p.tables e below T70 (mkF m 113 #[.val (.int x0), .val (.int x1), .val (.int x2), .val (.int x3), .val (.int (Int32.ofNat n)), .val (.ref aa), .val (.ref o1), .val (.int (1 : Int32)), .val (.int (Int32.ofNat i)), .val (.int (Int32.ofNat j)), .val (.ref o2)] []) _
      refine ownGo.st (fun _ k => XS.iconst X70.here hx rfl (hb hby at_113)  k) ?_
      show ownGo p.tables e below T70 (mkF m 114 #[.val (.int x0), .val (.int x1), .val (.int x2), .val (.int x3), .val (.int (Int32.ofNat n)), .val (.ref aa), .val (.ref o1), .val (.int (1 : Int32)), .val (.int (Int32.ofNat i)), .val (.int (Int32.ofNat j)), .val (.ref o2)] [(.int (1 : Int32))]) _
      refine ownGo.st (fun _ k => XS.goto X70.here hx rfl (pc0 := 114) (pc' := 118) rfl (hb hby at_114) (by decide) (by decide) k) ?_
      show ownGo p.tables e below T70 (mkF m 118 #[.val (.int x0), .val (.int x1), .val (.int x2), .val (.int x3), .val (.int (Int32.ofNat n)), .val (.ref aa), .val (.ref o1), .val (.int (1 : Int32)), .val (.int (Int32.ofNat i)), .val (.int (Int32.ofNat j)), .val (.ref o2)] [(.int (1 : Int32))]) _
      exact kk
  refine J74 _ ?_
  show ownGo p.tables e below T70 (mkF m 118 #[.val (.int x0), .val (.int x1), .val (.int x2), .val (.int x3), .val (.int (Int32.ofNat n)), .val (.ref aa), .val (.ref o1), .val (.int (1 : Int32)), .val (.int (Int32.ofNat i)), .val (.int (Int32.ofNat j)), .val (.ref o2)] [(.int (1 : Int32))]) _
  refine ownGo.st (fun _ k => XS.istore X70.here hx rfl (hb hby at_118) rfl (l' := #[.val (.int x0), .val (.int x1), .val (.int x2), .val (.int x3), .val (.int (Int32.ofNat n)), .val (.ref aa), .val (.ref o1), .val (.int (1 : Int32)), .val (.int (Int32.ofNat i)), .val (.int (Int32.ofNat j)), .val (.ref o2)]) rfl k) ?_
  show ownGo p.tables e below T70 (mkF m 120 #[.val (.int x0), .val (.int x1), .val (.int x2), .val (.int x3), .val (.int (Int32.ofNat n)), .val (.ref aa), .val (.ref o1), .val (.int (1 : Int32)), .val (.int (Int32.ofNat i)), .val (.int (Int32.ofNat j)), .val (.ref o2)] []) _
  refine ownGo.st (fun _ k => XS.aload X70.here hx rfl (hb hby at_120) rfl rfl k) ?_
  show ownGo p.tables e below T70 (mkF m 122 #[.val (.int x0), .val (.int x1), .val (.int x2), .val (.int x3), .val (.int (Int32.ofNat n)), .val (.ref aa), .val (.ref o1), .val (.int (1 : Int32)), .val (.int (Int32.ofNat i)), .val (.int (Int32.ofNat j)), .val (.ref o2)] [(.ref o2)]) _
  refine ownGo.st (fun _ k => XS.iload X70.here hx rfl (hb hby at_122) rfl k) ?_
  show ownGo p.tables e below T70 (mkF m 124 #[.val (.int x0), .val (.int x1), .val (.int x2), .val (.int x3), .val (.int (Int32.ofNat n)), .val (.ref aa), .val (.ref o1), .val (.int (1 : Int32)), .val (.int (Int32.ofNat i)), .val (.int (Int32.ofNat j)), .val (.ref o2)] [(.int (Int32.ofNat j)), (.ref o2)]) _
  obtain ⟨_, T75, L75, X75, hQ75, st75⟩ := own_callV X70 hx hZ hown (own_at hw 20 rfl) (own_at hw 21 rfl) (own_at hw 23 rfl) (own_at hw 22 rfl) (own_at hw 3 rfl) (own_at hw 24 rfl) (by decide) (rm4 l Z a0 hw o2 (Int32.ofNat j) aa i j n _ T65.heap n0 Z65 gz_o2 (Ne.symm ne_aa_o2) rfl (by omega) (by omega) Ex_o2_68 Ex_aa_67 Fb_o2 Fp_o2 V_aa_66) 0 (by decide) (by decide) e70 (by decide) (by decide) Ex_o2_68 (g := (mkF m 124 #[.val (.int x0), .val (.int x1), .val (.int x2), .val (.int x3), .val (.int (Int32.ofNat n)), .val (.ref aa), .val (.ref o1), .val (.int (1 : Int32)), .val (.int (Int32.ofNat i)), .val (.int (Int32.ofNat j)), .val (.ref o2)] [(.int (Int32.ofNat j)), (.ref o2)])) rfl (by rw [hml]; rfl) (argsL := [(.int (Int32.ofNat j))]) (rest := []) (lenOf pd__I__B rfl) rfl (by show 2 * 0 + _ ≤ _; exact Nat.le_of_eq rfl) (hb hby at_124)
  obtain ⟨⟨zz75, rfl⟩, N75q, K75, Fb75, Fp75⟩ := hQ75
  have N75 := Fr.app N70 N75q
  have V_aa_76 := V_aa_66.keep K75 (ninS ne_aa_o2 nin0)
  have Ex_aa_77 := Ex_aa_67.keep K75
  have Ex_o2_78 := Ex_o2_68.keep K75
  have Z75 : n0 ≤ T75.heap.size := Nat.le_trans Z65 K75.1
  refine ownGo.st st75 ?_
  show ownGo p.tables e below T75 (mkF m 127 #[.val (.int x0), .val (.int x1), .val (.int x2), .val (.int x3), .val (.int (Int32.ofNat n)), .val (.ref aa), .val (.ref o1), .val (.int (1 : Int32)), .val (.int (Int32.ofNat i)), .val (.int (Int32.ofNat j)), .val (.ref o2)] [(.ref zz75)]) _
  refine ownGo.st (fun _ k => XS.pop X75.here hx rfl (hb hby at_127) rfl rfl k) ?_
  show ownGo p.tables e below T75 (mkF m 128 #[.val (.int x0), .val (.int x1), .val (.int x2), .val (.int x3), .val (.int (Int32.ofNat n)), .val (.ref aa), .val (.ref o1), .val (.int (1 : Int32)), .val (.int (Int32.ofNat i)), .val (.int (Int32.ofNat j)), .val (.ref o2)] []) _
  refine ownGo.st (fun _ k => XS.iload X75.here hx rfl (hb hby at_128) rfl k) ?_
  show ownGo p.tables e below T75 (mkF m 130 #[.val (.int x0), .val (.int x1), .val (.int x2), .val (.int x3), .val (.int (Int32.ofNat n)), .val (.ref aa), .val (.ref o1), .val (.int (1 : Int32)), .val (.int (Int32.ofNat i)), .val (.int (Int32.ofNat j)), .val (.ref o2)] [(.int (1 : Int32))]) _
  have hc79 : ¬ ((1 : Int32) = (0 : Int32)) := (by decide)
  refine ownGo.st (fun _ k => XS.ifNo X75.here hx rfl (hb hby at_130) rfl ((if0 _ _).trans (feq hc79).1) k) ?_
  show ownGo p.tables e below T75 (mkF m 133 #[.val (.int x0), .val (.int x1), .val (.int x2), .val (.int x3), .val (.int (Int32.ofNat n)), .val (.ref aa), .val (.ref o1), .val (.int (1 : Int32)), .val (.int (Int32.ofNat i)), .val (.int (Int32.ofNat j)), .val (.ref o2)] []) _
  refine ownGo.st (fun _ k => XS.aload X75.here hx rfl (hb hby at_133) rfl rfl k) ?_
  show ownGo p.tables e below T75 (mkF m 135 #[.val (.int x0), .val (.int x1), .val (.int x2), .val (.int x3), .val (.int (Int32.ofNat n)), .val (.ref aa), .val (.ref o1), .val (.int (1 : Int32)), .val (.int (Int32.ofNat i)), .val (.int (Int32.ofNat j)), .val (.ref o2)] [(.ref o2)]) _
  obtain ⟨_, T80, L80, X80, hQ80, st80⟩ := own_callV X75 hx hZ hown (own_at hw 14 rfl) (own_at hw 15 rfl) (own_at hw 17 rfl) (own_at hw 16 rfl) (own_at hw 3 rfl) (own_at hw 18 rfl) (by decide) (rm3 l Z a0 hw o2 aa (Int32.ofNat i + Int32.ofNat j) n _ T75.heap n0 Fb75 Fp75 V_aa_76) 0 (by decide) (by decide) rfl (by decide) (by decide) Ex_o2_78 (g := (mkF m 135 #[.val (.int x0), .val (.int x1), .val (.int x2), .val (.int x3), .val (.int (Int32.ofNat n)), .val (.ref aa), .val (.ref o1), .val (.int (1 : Int32)), .val (.int (Int32.ofNat i)), .val (.int (Int32.ofNat j)), .val (.ref o2)] [(.ref o2)])) rfl (by rw [hml]; rfl) (argsL := []) (rest := []) (lenOf pd___Z rfl) rfl (by show 2 * 0 + _ ≤ _; exact Nat.le_of_eq rfl) (hb hby at_135)
  obtain ⟨rfl, N80q, e80⟩ := hQ80
  have N80 := Fr.app N75 N80q
  refine ownGo.st st80 ?_
  show ownGo p.tables e below T80 (mkF m 138 #[.val (.int x0), .val (.int x1), .val (.int x2), .val (.int x3), .val (.int (Int32.ofNat n)), .val (.ref aa), .val (.ref o1), .val (.int (1 : Int32)), .val (.int (Int32.ofNat i)), .val (.int (Int32.ofNat j)), .val (.ref o2)] [(.int (own_end (Int32.ofNat i + Int32.ofNat j) n))]) _
  have J84 : ∀ G, ownGo p.tables e below T80 (mkF m 161 #[.val (.int x0), .val (.int x1), .val (.int x2), .val (.int x3), .val (.int (Int32.ofNat n)), .val (.ref aa), .val (.ref o1), .val (.int (1 : Int32)), .val (.int (Int32.ofNat i)), .val (.int (Int32.ofNat j)), .val (.ref o2)] [(.int (1 : Int32))]) G → ownGo p.tables e below T80 (mkF m 138 #[.val (.int x0), .val (.int x1), .val (.int x2), .val (.int x3), .val (.int (Int32.ofNat n)), .val (.ref aa), .val (.ref o1), .val (.int (1 : Int32)), .val (.int (Int32.ofNat i)), .val (.int (Int32.ofNat j)), .val (.ref o2)] [(.int (own_end (Int32.ofNat i + Int32.ofNat j) n))]) G := by
    intro G kk
    refine ownGo.st (fun _ k => XS.iload X80.here hx rfl (hb hby at_138) rfl k) ?_
    show ownGo p.tables e below T80 (mkF m 140 #[.val (.int x0), .val (.int x1), .val (.int x2), .val (.int x3), .val (.int (Int32.ofNat n)), .val (.ref aa), .val (.ref o1), .val (.int (1 : Int32)), .val (.int (Int32.ofNat i)), .val (.int (Int32.ofNat j)), .val (.ref o2)] [(.int (Int32.ofNat i)), (.int (own_end (Int32.ofNat i + Int32.ofNat j) n))]) _
    refine ownGo.st (fun _ k => XS.iload X80.here hx rfl (hb hby at_140) rfl k) ?_
    show ownGo p.tables e below T80 (mkF m 142 #[.val (.int x0), .val (.int x1), .val (.int x2), .val (.int x3), .val (.int (Int32.ofNat n)), .val (.ref aa), .val (.ref o1), .val (.int (1 : Int32)), .val (.int (Int32.ofNat i)), .val (.int (Int32.ofNat j)), .val (.ref o2)] [(.int (Int32.ofNat j)), (.int (Int32.ofNat i)), (.int (own_end (Int32.ofNat i + Int32.ofNat j) n))]) _
    refine ownGo.st (fun _ k => XS.iadd X80.here hx rfl (hb hby at_142) rfl k) ?_
    show ownGo p.tables e below T80 (mkF m 143 #[.val (.int x0), .val (.int x1), .val (.int x2), .val (.int x3), .val (.int (Int32.ofNat n)), .val (.ref aa), .val (.ref o1), .val (.int (1 : Int32)), .val (.int (Int32.ofNat i)), .val (.int (Int32.ofNat j)), .val (.ref o2)] [(.int ((Int32.ofNat i) + (Int32.ofNat j))), (.int (own_end (Int32.ofNat i + Int32.ofNat j) n))]) _
    refine ownGo.st (fun _ k => XS.iload X80.here hx rfl (hb hby at_143) rfl k) ?_
    show ownGo p.tables e below T80 (mkF m 145 #[.val (.int x0), .val (.int x1), .val (.int x2), .val (.int x3), .val (.int (Int32.ofNat n)), .val (.ref aa), .val (.ref o1), .val (.int (1 : Int32)), .val (.int (Int32.ofNat i)), .val (.int (Int32.ofNat j)), .val (.ref o2)] [(.int (Int32.ofNat n)), (.int ((Int32.ofNat i) + (Int32.ofNat j))), (.int (own_end (Int32.ofNat i + Int32.ofNat j) n))]) _
    by_cases hq81 : ((Int32.ofNat i) + (Int32.ofNat j)) = (Int32.ofNat n)
    · refine ownGo.st (fun _ k => XS.icmpNo X80.here hx rfl (hb hby at_145) rfl (teq hq81).2 k) ?_
      show ownGo p.tables e below T80 (mkF m 148 #[.val (.int x0), .val (.int x1), .val (.int x2), .val (.int x3), .val (.int (Int32.ofNat n)), .val (.ref aa), .val (.ref o1), .val (.int (1 : Int32)), .val (.int (Int32.ofNat i)), .val (.int (Int32.ofNat j)), .val (.ref o2)] [(.int (own_end (Int32.ofNat i + Int32.ofNat j) n))]) _
      refine ownGo.st (fun _ k => XS.iconst X80.here hx rfl (hb hby at_148)  k) ?_
      show ownGo p.tables e below T80 (mkF m 149 #[.val (.int x0), .val (.int x1), .val (.int x2), .val (.int x3), .val (.int (Int32.ofNat n)), .val (.ref aa), .val (.ref o1), .val (.int (1 : Int32)), .val (.int (Int32.ofNat i)), .val (.int (Int32.ofNat j)), .val (.ref o2)] [(.int (1 : Int32)), (.int (own_end (Int32.ofNat i + Int32.ofNat j) n))]) _
      refine ownGo.st (fun _ k => XS.goto X80.here hx rfl (pc0 := 149) (pc' := 153) rfl (hb hby at_149) (by decide) (by decide) k) ?_
      show ownGo p.tables e below T80 (mkF m 153 #[.val (.int x0), .val (.int x1), .val (.int x2), .val (.int x3), .val (.int (Int32.ofNat n)), .val (.ref aa), .val (.ref o1), .val (.int (1 : Int32)), .val (.int (Int32.ofNat i)), .val (.int (Int32.ofNat j)), .val (.ref o2)] [(.int (1 : Int32)), (.int (own_end (Int32.ofNat i + Int32.ofNat j) n))]) _
      have hc82 : (own_end (Int32.ofNat i + Int32.ofNat j) n) = (1 : Int32) := if_pos hq81
      refine ownGo.st (fun _ k => XS.icmpNo X80.here hx rfl (hb hby at_153) rfl (teq hc82).2 k) ?_
      show ownGo p.tables e below T80 (mkF m 156 #[.val (.int x0), .val (.int x1), .val (.int x2), .val (.int x3), .val (.int (Int32.ofNat n)), .val (.ref aa), .val (.ref o1), .val (.int (1 : Int32)), .val (.int (Int32.ofNat i)), .val (.int (Int32.ofNat j)), .val (.ref o2)] []) _
      refine ownGo.st (fun _ k => XS.iconst X80.here hx rfl (hb hby at_156)  k) ?_
      show ownGo p.tables e below T80 (mkF m 157 #[.val (.int x0), .val (.int x1), .val (.int x2), .val (.int x3), .val (.int (Int32.ofNat n)), .val (.ref aa), .val (.ref o1), .val (.int (1 : Int32)), .val (.int (Int32.ofNat i)), .val (.int (Int32.ofNat j)), .val (.ref o2)] [(.int (1 : Int32))]) _
      refine ownGo.st (fun _ k => XS.goto X80.here hx rfl (pc0 := 157) (pc' := 161) rfl (hb hby at_157) (by decide) (by decide) k) ?_
      show ownGo p.tables e below T80 (mkF m 161 #[.val (.int x0), .val (.int x1), .val (.int x2), .val (.int x3), .val (.int (Int32.ofNat n)), .val (.ref aa), .val (.ref o1), .val (.int (1 : Int32)), .val (.int (Int32.ofNat i)), .val (.int (Int32.ofNat j)), .val (.ref o2)] [(.int (1 : Int32))]) _
      exact kk
    · refine ownGo.st (fun _ k => XS.icmpYes X80.here hx rfl (pc0 := 145) (pc' := 152) rfl (hb hby at_145) rfl (feq hq81).2 (by decide) (by decide) k) ?_
      show ownGo p.tables e below T80 (mkF m 152 #[.val (.int x0), .val (.int x1), .val (.int x2), .val (.int x3), .val (.int (Int32.ofNat n)), .val (.ref aa), .val (.ref o1), .val (.int (1 : Int32)), .val (.int (Int32.ofNat i)), .val (.int (Int32.ofNat j)), .val (.ref o2)] [(.int (own_end (Int32.ofNat i + Int32.ofNat j) n))]) _
      refine ownGo.st (fun _ k => XS.iconst X80.here hx rfl (hb hby at_152)  k) ?_
      show ownGo p.tables e below T80 (mkF m 153 #[.val (.int x0), .val (.int x1), .val (.int x2), .val (.int x3), .val (.int (Int32.ofNat n)), .val (.ref aa), .val (.ref o1), .val (.int (1 : Int32)), .val (.int (Int32.ofNat i)), .val (.int (Int32.ofNat j)), .val (.ref o2)] [(.int (0 : Int32)), (.int (own_end (Int32.ofNat i + Int32.ofNat j) n))]) _
      have hc83 : (own_end (Int32.ofNat i + Int32.ofNat j) n) = (0 : Int32) := if_neg hq81
      refine ownGo.st (fun _ k => XS.icmpNo X80.here hx rfl (hb hby at_153) rfl (teq hc83).2 k) ?_
      show ownGo p.tables e below T80 (mkF m 156 #[.val (.int x0), .val (.int x1), .val (.int x2), .val (.int x3), .val (.int (Int32.ofNat n)), .val (.ref aa), .val (.ref o1), .val (.int (1 : Int32)), .val (.int (Int32.ofNat i)), .val (.int (Int32.ofNat j)), .val (.ref o2)] []) _
      refine ownGo.st (fun _ k => XS.iconst X80.here hx rfl (hb hby at_156)  k) ?_
      show ownGo p.tables e below T80 (mkF m 157 #[.val (.int x0), .val (.int x1), .val (.int x2), .val (.int x3), .val (.int (Int32.ofNat n)), .val (.ref aa), .val (.ref o1), .val (.int (1 : Int32)), .val (.int (Int32.ofNat i)), .val (.int (Int32.ofNat j)), .val (.ref o2)] [(.int (1 : Int32))]) _
      refine ownGo.st (fun _ k => XS.goto X80.here hx rfl (pc0 := 157) (pc' := 161) rfl (hb hby at_157) (by decide) (by decide) k) ?_
      show ownGo p.tables e below T80 (mkF m 161 #[.val (.int x0), .val (.int x1), .val (.int x2), .val (.int x3), .val (.int (Int32.ofNat n)), .val (.ref aa), .val (.ref o1), .val (.int (1 : Int32)), .val (.int (Int32.ofNat i)), .val (.int (Int32.ofNat j)), .val (.ref o2)] [(.int (1 : Int32))]) _
      exact kk
  refine J84 _ ?_
  show ownGo p.tables e below T80 (mkF m 161 #[.val (.int x0), .val (.int x1), .val (.int x2), .val (.int x3), .val (.int (Int32.ofNat n)), .val (.ref aa), .val (.ref o1), .val (.int (1 : Int32)), .val (.int (Int32.ofNat i)), .val (.int (Int32.ofNat j)), .val (.ref o2)] [(.int (1 : Int32))]) _
  refine ownGo.st (fun _ k => XS.istore X80.here hx rfl (hb hby at_161) rfl (l' := #[.val (.int x0), .val (.int x1), .val (.int x2), .val (.int x3), .val (.int (Int32.ofNat n)), .val (.ref aa), .val (.ref o1), .val (.int (1 : Int32)), .val (.int (Int32.ofNat i)), .val (.int (Int32.ofNat j)), .val (.ref o2)]) rfl k) ?_
  show ownGo p.tables e below T80 (mkF m 163 #[.val (.int x0), .val (.int x1), .val (.int x2), .val (.int x3), .val (.int (Int32.ofNat n)), .val (.ref aa), .val (.ref o1), .val (.int (1 : Int32)), .val (.int (Int32.ofNat i)), .val (.int (Int32.ofNat j)), .val (.ref o2)] []) _
  refine ownGo.st (fun _ k => XS.iloadN X80.here hx rfl (hb hby at_163) rfl k) ?_
  show ownGo p.tables e below T80 (mkF m 164 #[.val (.int x0), .val (.int x1), .val (.int x2), .val (.int x3), .val (.int (Int32.ofNat n)), .val (.ref aa), .val (.ref o1), .val (.int (1 : Int32)), .val (.int (Int32.ofNat i)), .val (.int (Int32.ofNat j)), .val (.ref o2)] [(.int x3)]) _
  refine ownGo.st (fun _ k => XS.iconst X80.here hx rfl (hb hby at_164)  k) ?_
  show ownGo p.tables e below T80 (mkF m 165 #[.val (.int x0), .val (.int x1), .val (.int x2), .val (.int x3), .val (.int (Int32.ofNat n)), .val (.ref aa), .val (.ref o1), .val (.int (1 : Int32)), .val (.int (Int32.ofNat i)), .val (.int (Int32.ofNat j)), .val (.ref o2)] [(.int (1 : Int32)), (.int x3)]) _
  refine ownGo.st (fun _ k => XS.iand X80.here hx rfl (hb hby at_165) rfl k) ?_
  show ownGo p.tables e below T80 (mkF m 166 #[.val (.int x0), .val (.int x1), .val (.int x2), .val (.int x3), .val (.int (Int32.ofNat n)), .val (.ref aa), .val (.ref o1), .val (.int (1 : Int32)), .val (.int (Int32.ofNat i)), .val (.int (Int32.ofNat j)), .val (.ref o2)] [(.int (x3 &&& (1 : Int32)))]) _
  by_cases hf0 : (x3 &&& (1 : Int32)) = (0 : Int32)
  · refine ownGo.st (fun _ k => XS.ifYes X80.here hx rfl (pc0 := 166) (pc' := 222) rfl (hb hby at_166) rfl ((if0 _ _).trans (teq hf0).1) (by decide) (by decide) k) ?_
    show ownGo p.tables e below T80 (mkF m 222 #[.val (.int x0), .val (.int x1), .val (.int x2), .val (.int x3), .val (.int (Int32.ofNat n)), .val (.ref aa), .val (.ref o1), .val (.int (1 : Int32)), .val (.int (Int32.ofNat i)), .val (.int (Int32.ofNat j)), .val (.ref o2)] []) _
    refine ownGo.st (fun _ k => XS.iload X80.here hx rfl (hb hby at_222) rfl k) ?_
    show ownGo p.tables e below T80 (mkF m 224 #[.val (.int x0), .val (.int x1), .val (.int x2), .val (.int x3), .val (.int (Int32.ofNat n)), .val (.ref aa), .val (.ref o1), .val (.int (1 : Int32)), .val (.int (Int32.ofNat i)), .val (.int (Int32.ofNat j)), .val (.ref o2)] [(.int (1 : Int32))]) _
    exact own_retZ X80 hx hlk hret (hb hby at_224) (Or.inr rfl) ⟨rfl, N80⟩ (by decide) (by decide)
  · refine ownGo.st (fun _ k => XS.ifNo X80.here hx rfl (hb hby at_166) rfl ((if0 _ _).trans (feq hf0).1) k) ?_
    show ownGo p.tables e below T80 (mkF m 169 #[.val (.int x0), .val (.int x1), .val (.int x2), .val (.int x3), .val (.int (Int32.ofNat n)), .val (.ref aa), .val (.ref o1), .val (.int (1 : Int32)), .val (.int (Int32.ofNat i)), .val (.int (Int32.ofNat j)), .val (.ref o2)] []) _
    refine ownGo.st (fun _ k => XS.iload X80.here hx rfl (hb hby at_169) rfl k) ?_
    show ownGo p.tables e below T80 (mkF m 171 #[.val (.int x0), .val (.int x1), .val (.int x2), .val (.int x3), .val (.int (Int32.ofNat n)), .val (.ref aa), .val (.ref o1), .val (.int (1 : Int32)), .val (.int (Int32.ofNat i)), .val (.int (Int32.ofNat j)), .val (.ref o2)] [(.int (Int32.ofNat i))]) _
    refine ownGo.st (fun _ k => XS.iload X80.here hx rfl (hb hby at_171) rfl k) ?_
    show ownGo p.tables e below T80 (mkF m 173 #[.val (.int x0), .val (.int x1), .val (.int x2), .val (.int x3), .val (.int (Int32.ofNat n)), .val (.ref aa), .val (.ref o1), .val (.int (1 : Int32)), .val (.int (Int32.ofNat i)), .val (.int (Int32.ofNat j)), .val (.ref o2)] [(.int (Int32.ofNat j)), (.int (Int32.ofNat i))]) _
    refine ownGo.st (fun _ k => XS.iadd X80.here hx rfl (hb hby at_173) rfl k) ?_
    show ownGo p.tables e below T80 (mkF m 174 #[.val (.int x0), .val (.int x1), .val (.int x2), .val (.int x3), .val (.int (Int32.ofNat n)), .val (.ref aa), .val (.ref o1), .val (.int (1 : Int32)), .val (.int (Int32.ofNat i)), .val (.int (Int32.ofNat j)), .val (.ref o2)] [(.int ((Int32.ofNat i) + (Int32.ofNat j)))]) _
    refine ownGo.st (fun _ k => XS.iload X80.here hx rfl (hb hby at_174) rfl k) ?_
    show ownGo p.tables e below T80 (mkF m 176 #[.val (.int x0), .val (.int x1), .val (.int x2), .val (.int x3), .val (.int (Int32.ofNat n)), .val (.ref aa), .val (.ref o1), .val (.int (1 : Int32)), .val (.int (Int32.ofNat i)), .val (.int (Int32.ofNat j)), .val (.ref o2)] [(.int (Int32.ofNat n)), (.int ((Int32.ofNat i) + (Int32.ofNat j)))]) _
    by_cases hf1 : ((Int32.ofNat i) + (Int32.ofNat j)) < (Int32.ofNat n)
    · refine ownGo.st (fun _ k => XS.icmpNo X80.here hx rfl (hb hby at_176) rfl (tlt hf1).2.1 k) ?_
      show ownGo p.tables e below T80 (mkF m 179 #[.val (.int x0), .val (.int x1), .val (.int x2), .val (.int x3), .val (.int (Int32.ofNat n)), .val (.ref aa), .val (.ref o1), .val (.int (1 : Int32)), .val (.int (Int32.ofNat i)), .val (.int (Int32.ofNat j)), .val (.ref o2)] []) _
      refine ownGo.st (fun _ k => XS.aload X80.here hx rfl (hb hby at_179) rfl rfl k) ?_
      show ownGo p.tables e below T80 (mkF m 181 #[.val (.int x0), .val (.int x1), .val (.int x2), .val (.int x3), .val (.int (Int32.ofNat n)), .val (.ref aa), .val (.ref o1), .val (.int (1 : Int32)), .val (.int (Int32.ofNat i)), .val (.int (Int32.ofNat j)), .val (.ref o2)] [(.ref o2)]) _
      have hlt : i + j < n := by
        rw [← Int32.ofNat_add, Int32.lt_iff_toInt_lt, Int32.toInt_ofNat_of_lt (by omega), Int32.toInt_ofNat_of_lt (by omega)] at hf1
        omega
      obtain ⟨_, T85, L85, X85, hQ85, st85⟩ := own_callV X80 hx hZ hown (own_at hw 56 rfl) (own_at hw 57 rfl) (own_at hw 59 rfl) (own_at hw 58 rfl) (own_at hw 3 rfl) (own_at hw 60 rfl) (by decide) (rm10 l Z a0 hw o2 aa (Int32.ofNat i + Int32.ofNat j) (i + j) n _ T75.heap n0 Z75 gz_o2 (Ne.symm ne_aa_o2) (Int32.ofNat_add i j).symm hlt (by omega) Ex_o2_78 Fb75 Fp75 V_aa_76) 0 (by decide) (by decide) e80 (by decide) (by decide) Ex_o2_78 (g := (mkF m 181 #[.val (.int x0), .val (.int x1), .val (.int x2), .val (.int x3), .val (.int (Int32.ofNat n)), .val (.ref aa), .val (.ref o1), .val (.int (1 : Int32)), .val (.int (Int32.ofNat i)), .val (.int (Int32.ofNat j)), .val (.ref o2)] [(.ref o2)])) rfl (by rw [hml]; rfl) (argsL := []) (rest := []) (lenOf pd___I rfl) rfl (by show 2 * 0 + _ ≤ _; exact Nat.le_of_eq rfl) (hb hby at_181)
      obtain ⟨⟨zz85, rfl⟩, N85q, K85, Fb85, Fp85⟩ := hQ85
      have N85 := Fr.app N80 N85q
      have V_aa_86 := V_aa_76.keep K85 (ninS ne_aa_o2 nin0)
      have Ex_aa_87 := Ex_aa_77.keep K85
      have Ex_o2_88 := Ex_o2_78.keep K85
      have Z85 : n0 ≤ T85.heap.size := Nat.le_trans Z75 K85.1
      refine ownGo.st st85 ?_
      show ownGo p.tables e below T85 (mkF m 184 #[.val (.int x0), .val (.int x1), .val (.int x2), .val (.int x3), .val (.int (Int32.ofNat n)), .val (.ref aa), .val (.ref o1), .val (.int (1 : Int32)), .val (.int (Int32.ofNat i)), .val (.int (Int32.ofNat j)), .val (.ref o2)] [(.int zz85)]) _
      refine ownGo.st (fun _ k => XS.pop X85.here hx rfl (hb hby at_184) rfl rfl k) ?_
      show ownGo p.tables e below T85 (mkF m 185 #[.val (.int x0), .val (.int x1), .val (.int x2), .val (.int x3), .val (.int (Int32.ofNat n)), .val (.ref aa), .val (.ref o1), .val (.int (1 : Int32)), .val (.int (Int32.ofNat i)), .val (.int (Int32.ofNat j)), .val (.ref o2)] []) _
      refine ownGo.st (fun _ k => XS.iload X85.here hx rfl (hb hby at_185) rfl k) ?_
      show ownGo p.tables e below T85 (mkF m 187 #[.val (.int x0), .val (.int x1), .val (.int x2), .val (.int x3), .val (.int (Int32.ofNat n)), .val (.ref aa), .val (.ref o1), .val (.int (1 : Int32)), .val (.int (Int32.ofNat i)), .val (.int (Int32.ofNat j)), .val (.ref o2)] [(.int (1 : Int32))]) _
      have hc89 : ¬ ((1 : Int32) = (0 : Int32)) := (by decide)
      refine ownGo.st (fun _ k => XS.ifNo X85.here hx rfl (hb hby at_187) rfl ((if0 _ _).trans (feq hc89).1) k) ?_
      show ownGo p.tables e below T85 (mkF m 190 #[.val (.int x0), .val (.int x1), .val (.int x2), .val (.int x3), .val (.int (Int32.ofNat n)), .val (.ref aa), .val (.ref o1), .val (.int (1 : Int32)), .val (.int (Int32.ofNat i)), .val (.int (Int32.ofNat j)), .val (.ref o2)] []) _
      refine ownGo.st (fun _ k => XS.aload X85.here hx rfl (hb hby at_190) rfl rfl k) ?_
      show ownGo p.tables e below T85 (mkF m 192 #[.val (.int x0), .val (.int x1), .val (.int x2), .val (.int x3), .val (.int (Int32.ofNat n)), .val (.ref aa), .val (.ref o1), .val (.int (1 : Int32)), .val (.int (Int32.ofNat i)), .val (.int (Int32.ofNat j)), .val (.ref o2)] [(.ref o2)]) _
      obtain ⟨_, T90, L90, X90, hQ90, st90⟩ := own_callV X85 hx hZ hown (own_at hw 14 rfl) (own_at hw 15 rfl) (own_at hw 17 rfl) (own_at hw 16 rfl) (own_at hw 3 rfl) (own_at hw 18 rfl) (by decide) (rm3 l Z a0 hw o2 aa ((Int32.ofNat i + Int32.ofNat j) + (1 : Int32)) n _ T85.heap n0 Fb85 Fp85 V_aa_86) 0 (by decide) (by decide) rfl (by decide) (by decide) Ex_o2_88 (g := (mkF m 192 #[.val (.int x0), .val (.int x1), .val (.int x2), .val (.int x3), .val (.int (Int32.ofNat n)), .val (.ref aa), .val (.ref o1), .val (.int (1 : Int32)), .val (.int (Int32.ofNat i)), .val (.int (Int32.ofNat j)), .val (.ref o2)] [(.ref o2)])) rfl (by rw [hml]; rfl) (argsL := []) (rest := []) (lenOf pd___Z rfl) rfl (by show 2 * 0 + _ ≤ _; exact Nat.le_of_eq rfl) (hb hby at_192)
      obtain ⟨rfl, N90q, e90⟩ := hQ90
      have N90 := Fr.app N85 N90q
      refine ownGo.st st90 ?_
      show ownGo p.tables e below T90 (mkF m 195 #[.val (.int x0), .val (.int x1), .val (.int x2), .val (.int x3), .val (.int (Int32.ofNat n)), .val (.ref aa), .val (.ref o1), .val (.int (1 : Int32)), .val (.int (Int32.ofNat i)), .val (.int (Int32.ofNat j)), .val (.ref o2)] [(.int (own_end ((Int32.ofNat i + Int32.ofNat j) + (1 : Int32)) n))]) _
      have J94 : ∀ G, ownGo p.tables e below T90 (mkF m 220 #[.val (.int x0), .val (.int x1), .val (.int x2), .val (.int x3), .val (.int (Int32.ofNat n)), .val (.ref aa), .val (.ref o1), .val (.int (1 : Int32)), .val (.int (Int32.ofNat i)), .val (.int (Int32.ofNat j)), .val (.ref o2)] [(.int (1 : Int32))]) G → ownGo p.tables e below T90 (mkF m 195 #[.val (.int x0), .val (.int x1), .val (.int x2), .val (.int x3), .val (.int (Int32.ofNat n)), .val (.ref aa), .val (.ref o1), .val (.int (1 : Int32)), .val (.int (Int32.ofNat i)), .val (.int (Int32.ofNat j)), .val (.ref o2)] [(.int (own_end ((Int32.ofNat i + Int32.ofNat j) + (1 : Int32)) n))]) G := by
        intro G kk
        refine ownGo.st (fun _ k => XS.iload X90.here hx rfl (hb hby at_195) rfl k) ?_
        show ownGo p.tables e below T90 (mkF m 197 #[.val (.int x0), .val (.int x1), .val (.int x2), .val (.int x3), .val (.int (Int32.ofNat n)), .val (.ref aa), .val (.ref o1), .val (.int (1 : Int32)), .val (.int (Int32.ofNat i)), .val (.int (Int32.ofNat j)), .val (.ref o2)] [(.int (Int32.ofNat i)), (.int (own_end ((Int32.ofNat i + Int32.ofNat j) + (1 : Int32)) n))]) _
        refine ownGo.st (fun _ k => XS.iload X90.here hx rfl (hb hby at_197) rfl k) ?_
        show ownGo p.tables e below T90 (mkF m 199 #[.val (.int x0), .val (.int x1), .val (.int x2), .val (.int x3), .val (.int (Int32.ofNat n)), .val (.ref aa), .val (.ref o1), .val (.int (1 : Int32)), .val (.int (Int32.ofNat i)), .val (.int (Int32.ofNat j)), .val (.ref o2)] [(.int (Int32.ofNat j)), (.int (Int32.ofNat i)), (.int (own_end ((Int32.ofNat i + Int32.ofNat j) + (1 : Int32)) n))]) _
        refine ownGo.st (fun _ k => XS.iadd X90.here hx rfl (hb hby at_199) rfl k) ?_
        show ownGo p.tables e below T90 (mkF m 200 #[.val (.int x0), .val (.int x1), .val (.int x2), .val (.int x3), .val (.int (Int32.ofNat n)), .val (.ref aa), .val (.ref o1), .val (.int (1 : Int32)), .val (.int (Int32.ofNat i)), .val (.int (Int32.ofNat j)), .val (.ref o2)] [(.int ((Int32.ofNat i) + (Int32.ofNat j))), (.int (own_end ((Int32.ofNat i + Int32.ofNat j) + (1 : Int32)) n))]) _
        refine ownGo.st (fun _ k => XS.iconst X90.here hx rfl (hb hby at_200)  k) ?_
        show ownGo p.tables e below T90 (mkF m 201 #[.val (.int x0), .val (.int x1), .val (.int x2), .val (.int x3), .val (.int (Int32.ofNat n)), .val (.ref aa), .val (.ref o1), .val (.int (1 : Int32)), .val (.int (Int32.ofNat i)), .val (.int (Int32.ofNat j)), .val (.ref o2)] [(.int (1 : Int32)), (.int ((Int32.ofNat i) + (Int32.ofNat j))), (.int (own_end ((Int32.ofNat i + Int32.ofNat j) + (1 : Int32)) n))]) _
        refine ownGo.st (fun _ k => XS.iadd X90.here hx rfl (hb hby at_201) rfl k) ?_
        show ownGo p.tables e below T90 (mkF m 202 #[.val (.int x0), .val (.int x1), .val (.int x2), .val (.int x3), .val (.int (Int32.ofNat n)), .val (.ref aa), .val (.ref o1), .val (.int (1 : Int32)), .val (.int (Int32.ofNat i)), .val (.int (Int32.ofNat j)), .val (.ref o2)] [(.int (((Int32.ofNat i) + (Int32.ofNat j)) + (1 : Int32))), (.int (own_end ((Int32.ofNat i + Int32.ofNat j) + (1 : Int32)) n))]) _
        refine ownGo.st (fun _ k => XS.iload X90.here hx rfl (hb hby at_202) rfl k) ?_
        show ownGo p.tables e below T90 (mkF m 204 #[.val (.int x0), .val (.int x1), .val (.int x2), .val (.int x3), .val (.int (Int32.ofNat n)), .val (.ref aa), .val (.ref o1), .val (.int (1 : Int32)), .val (.int (Int32.ofNat i)), .val (.int (Int32.ofNat j)), .val (.ref o2)] [(.int (Int32.ofNat n)), (.int (((Int32.ofNat i) + (Int32.ofNat j)) + (1 : Int32))), (.int (own_end ((Int32.ofNat i + Int32.ofNat j) + (1 : Int32)) n))]) _
        by_cases hq91 : (((Int32.ofNat i) + (Int32.ofNat j)) + (1 : Int32)) = (Int32.ofNat n)
        · refine ownGo.st (fun _ k => XS.icmpNo X90.here hx rfl (hb hby at_204) rfl (teq hq91).2 k) ?_
          show ownGo p.tables e below T90 (mkF m 207 #[.val (.int x0), .val (.int x1), .val (.int x2), .val (.int x3), .val (.int (Int32.ofNat n)), .val (.ref aa), .val (.ref o1), .val (.int (1 : Int32)), .val (.int (Int32.ofNat i)), .val (.int (Int32.ofNat j)), .val (.ref o2)] [(.int (own_end ((Int32.ofNat i + Int32.ofNat j) + (1 : Int32)) n))]) _
          refine ownGo.st (fun _ k => XS.iconst X90.here hx rfl (hb hby at_207)  k) ?_
          show ownGo p.tables e below T90 (mkF m 208 #[.val (.int x0), .val (.int x1), .val (.int x2), .val (.int x3), .val (.int (Int32.ofNat n)), .val (.ref aa), .val (.ref o1), .val (.int (1 : Int32)), .val (.int (Int32.ofNat i)), .val (.int (Int32.ofNat j)), .val (.ref o2)] [(.int (1 : Int32)), (.int (own_end ((Int32.ofNat i + Int32.ofNat j) + (1 : Int32)) n))]) _
          refine ownGo.st (fun _ k => XS.goto X90.here hx rfl (pc0 := 208) (pc' := 212) rfl (hb hby at_208) (by decide) (by decide) k) ?_
          show ownGo p.tables e below T90 (mkF m 212 #[.val (.int x0), .val (.int x1), .val (.int x2), .val (.int x3), .val (.int (Int32.ofNat n)), .val (.ref aa), .val (.ref o1), .val (.int (1 : Int32)), .val (.int (Int32.ofNat i)), .val (.int (Int32.ofNat j)), .val (.ref o2)] [(.int (1 : Int32)), (.int (own_end ((Int32.ofNat i + Int32.ofNat j) + (1 : Int32)) n))]) _
          have hc92 : (own_end ((Int32.ofNat i + Int32.ofNat j) + (1 : Int32)) n) = (1 : Int32) := if_pos hq91
          refine ownGo.st (fun _ k => XS.icmpNo X90.here hx rfl (hb hby at_212) rfl (teq hc92).2 k) ?_
          show ownGo p.tables e below T90 (mkF m 215 #[.val (.int x0), .val (.int x1), .val (.int x2), .val (.int x3), .val (.int (Int32.ofNat n)), .val (.ref aa), .val (.ref o1), .val (.int (1 : Int32)), .val (.int (Int32.ofNat i)), .val (.int (Int32.ofNat j)), .val (.ref o2)] []) _
          refine ownGo.st (fun _ k => XS.iconst X90.here hx rfl (hb hby at_215)  k) ?_
          show ownGo p.tables e below T90 (mkF m 216 #[.val (.int x0), .val (.int x1), .val (.int x2), .val (.int x3), .val (.int (Int32.ofNat n)), .val (.ref aa), .val (.ref o1), .val (.int (1 : Int32)), .val (.int (Int32.ofNat i)), .val (.int (Int32.ofNat j)), .val (.ref o2)] [(.int (1 : Int32))]) _
          refine ownGo.st (fun _ k => XS.goto X90.here hx rfl (pc0 := 216) (pc' := 220) rfl (hb hby at_216) (by decide) (by decide) k) ?_
          show ownGo p.tables e below T90 (mkF m 220 #[.val (.int x0), .val (.int x1), .val (.int x2), .val (.int x3), .val (.int (Int32.ofNat n)), .val (.ref aa), .val (.ref o1), .val (.int (1 : Int32)), .val (.int (Int32.ofNat i)), .val (.int (Int32.ofNat j)), .val (.ref o2)] [(.int (1 : Int32))]) _
          exact kk
        · refine ownGo.st (fun _ k => XS.icmpYes X90.here hx rfl (pc0 := 204) (pc' := 211) rfl (hb hby at_204) rfl (feq hq91).2 (by decide) (by decide) k) ?_
          show ownGo p.tables e below T90 (mkF m 211 #[.val (.int x0), .val (.int x1), .val (.int x2), .val (.int x3), .val (.int (Int32.ofNat n)), .val (.ref aa), .val (.ref o1), .val (.int (1 : Int32)), .val (.int (Int32.ofNat i)), .val (.int (Int32.ofNat j)), .val (.ref o2)] [(.int (own_end ((Int32.ofNat i + Int32.ofNat j) + (1 : Int32)) n))]) _
          refine ownGo.st (fun _ k => XS.iconst X90.here hx rfl (hb hby at_211)  k) ?_
          show ownGo p.tables e below T90 (mkF m 212 #[.val (.int x0), .val (.int x1), .val (.int x2), .val (.int x3), .val (.int (Int32.ofNat n)), .val (.ref aa), .val (.ref o1), .val (.int (1 : Int32)), .val (.int (Int32.ofNat i)), .val (.int (Int32.ofNat j)), .val (.ref o2)] [(.int (0 : Int32)), (.int (own_end ((Int32.ofNat i + Int32.ofNat j) + (1 : Int32)) n))]) _
          have hc93 : (own_end ((Int32.ofNat i + Int32.ofNat j) + (1 : Int32)) n) = (0 : Int32) := if_neg hq91
          refine ownGo.st (fun _ k => XS.icmpNo X90.here hx rfl (hb hby at_212) rfl (teq hc93).2 k) ?_
          show ownGo p.tables e below T90 (mkF m 215 #[.val (.int x0), .val (.int x1), .val (.int x2), .val (.int x3), .val (.int (Int32.ofNat n)), .val (.ref aa), .val (.ref o1), .val (.int (1 : Int32)), .val (.int (Int32.ofNat i)), .val (.int (Int32.ofNat j)), .val (.ref o2)] []) _
          refine ownGo.st (fun _ k => XS.iconst X90.here hx rfl (hb hby at_215)  k) ?_
          show ownGo p.tables e below T90 (mkF m 216 #[.val (.int x0), .val (.int x1), .val (.int x2), .val (.int x3), .val (.int (Int32.ofNat n)), .val (.ref aa), .val (.ref o1), .val (.int (1 : Int32)), .val (.int (Int32.ofNat i)), .val (.int (Int32.ofNat j)), .val (.ref o2)] [(.int (1 : Int32))]) _
          refine ownGo.st (fun _ k => XS.goto X90.here hx rfl (pc0 := 216) (pc' := 220) rfl (hb hby at_216) (by decide) (by decide) k) ?_
          show ownGo p.tables e below T90 (mkF m 220 #[.val (.int x0), .val (.int x1), .val (.int x2), .val (.int x3), .val (.int (Int32.ofNat n)), .val (.ref aa), .val (.ref o1), .val (.int (1 : Int32)), .val (.int (Int32.ofNat i)), .val (.int (Int32.ofNat j)), .val (.ref o2)] [(.int (1 : Int32))]) _
          exact kk
      refine J94 _ ?_
      show ownGo p.tables e below T90 (mkF m 220 #[.val (.int x0), .val (.int x1), .val (.int x2), .val (.int x3), .val (.int (Int32.ofNat n)), .val (.ref aa), .val (.ref o1), .val (.int (1 : Int32)), .val (.int (Int32.ofNat i)), .val (.int (Int32.ofNat j)), .val (.ref o2)] [(.int (1 : Int32))]) _
      refine ownGo.st (fun _ k => XS.istore X90.here hx rfl (hb hby at_220) rfl (l' := #[.val (.int x0), .val (.int x1), .val (.int x2), .val (.int x3), .val (.int (Int32.ofNat n)), .val (.ref aa), .val (.ref o1), .val (.int (1 : Int32)), .val (.int (Int32.ofNat i)), .val (.int (Int32.ofNat j)), .val (.ref o2)]) rfl k) ?_
      show ownGo p.tables e below T90 (mkF m 222 #[.val (.int x0), .val (.int x1), .val (.int x2), .val (.int x3), .val (.int (Int32.ofNat n)), .val (.ref aa), .val (.ref o1), .val (.int (1 : Int32)), .val (.int (Int32.ofNat i)), .val (.int (Int32.ofNat j)), .val (.ref o2)] []) _
      refine ownGo.st (fun _ k => XS.iload X90.here hx rfl (hb hby at_222) rfl k) ?_
      show ownGo p.tables e below T90 (mkF m 224 #[.val (.int x0), .val (.int x1), .val (.int x2), .val (.int x3), .val (.int (Int32.ofNat n)), .val (.ref aa), .val (.ref o1), .val (.int (1 : Int32)), .val (.int (Int32.ofNat i)), .val (.int (Int32.ofNat j)), .val (.ref o2)] [(.int (1 : Int32))]) _
      exact own_retZ X90 hx hlk hret (hb hby at_224) (Or.inr rfl) ⟨rfl, N90⟩ (by decide) (by decide)
    · refine ownGo.st (fun _ k => XS.icmpYes X80.here hx rfl (pc0 := 176) (pc' := 222) rfl (hb hby at_176) rfl (flt hf1).2.1 (by decide) (by decide) k) ?_
      show ownGo p.tables e below T80 (mkF m 222 #[.val (.int x0), .val (.int x1), .val (.int x2), .val (.int x3), .val (.int (Int32.ofNat n)), .val (.ref aa), .val (.ref o1), .val (.int (1 : Int32)), .val (.int (Int32.ofNat i)), .val (.int (Int32.ofNat j)), .val (.ref o2)] []) _
      refine ownGo.st (fun _ k => XS.iload X80.here hx rfl (hb hby at_222) rfl k) ?_
      show ownGo p.tables e below T80 (mkF m 224 #[.val (.int x0), .val (.int x1), .val (.int x2), .val (.int x3), .val (.int (Int32.ofNat n)), .val (.ref aa), .val (.ref o1), .val (.int (1 : Int32)), .val (.int (Int32.ofNat i)), .val (.int (Int32.ofNat j)), .val (.ref o2)] [(.int (1 : Int32))]) _
      exact own_retZ X80 hx hlk hret (hb hby at_224) (Or.inr rfl) ⟨rfl, N80⟩ (by decide) (by decide)
set_option maxRecDepth 65536 in
set_option maxHeartbeats 40000000 in
theorem comes_1 {Post : Tables → Env → Array Value → State → Outcome → State → Prop} (hpost : ∀ tb e args s v u, (limb_1_1.after args s (.returned v) u = true ∧ limb_1_2.after args s (.returned v) u = true ∧ True) → FrameEnd s (.returned v) u (Jvm.fieldLocs frame_1_writes args s ++ Jvm.arrayLocs frame_1_arrays args s ++ Jvm.staticLocs frame_1_statics s) 16 128 → Post tb e args s (.returned v) u) :
    ArmFor flags0 classFile x code maxLocals ret World_1 tables_1 room_1 Calls_1 rest_1 Pre_1 Post := by
  intro l hfl _ _ p e ha hc hk s m args below hf hA hF happ hP
  obtain ⟨hcalls, hrest, hpre⟩ := hP
  obtain ⟨-, -, -, hnamed, -, -, -, hat⟩ := (Spec.applies_iff hf).mp happ
  obtain ⟨hg, hn⟩ := and_e (Cond.before_iff.mp (show (Jvm.Cond.and given_1 narrow_1).before args s = true from hpre))
  obtain ⟨hcount, g1⟩ := and_e hg
  obtain ⟨hv0, g3⟩ := and_e g1
  obtain ⟨hv1, g5⟩ := and_e g3
  obtain ⟨hv2, hv3⟩ := and_e g5
  obtain ⟨w0, w1, w2, w3, rfl⟩ : ∃ w0 w1 w2 w3 : Value, args = #[w0, w1, w2, w3] := by
    have hs : args.size = 4 := by simpa [Cond.value, given_1] using hcount
    obtain ⟨L⟩ := args
    match L, hs with
    | [w0, w1, w2, w3], _ => exact ⟨w0, w1, w2, w3, rfl⟩
  have hw := fun d (hd : d ∈ tables_1) => atoms_spec (ws := Jvm.Cond.code x code maxLocals ret :: tables_1) hat d (List.mem_cons_of_mem _ hd)
  obtain ⟨i0, ei0⟩ := is_v hv0
  obtain rfl : w0 = (.int i0) := Option.some.inj ei0
  obtain ⟨i1, ei1⟩ := is_v hv1
  obtain rfl : w1 = (.int i1) := Option.some.inj ei1
  obtain ⟨i2, ei2⟩ := is_v hv2
  obtain rfl : w2 = (.int i2) := Option.some.inj ei2
  obtain ⟨i3, ei3⟩ := is_v hv3
  obtain rfl : w3 = (.int i3) := Option.some.inj ei3
  obtain ⟨n, o, h1, h2, h3, _, L, rfl, ⟨rfl, N⟩, hq⟩ := rm0 l s _ hw i0 i1 i2 i3 s.heap s.heap.size (Nat.le_refl _) p e ha hc hk s m _ below hf ((Spec.applies_iff_loose hf).mp happ).1 ⟨rfl, State.Warmed39.refl s, rfl⟩ trivial
  refine ⟨n, _, h1, h2, h3, hpost _ _ _ _ _ _ ⟨Cond.after_iff.mpr rfl, Cond.after_iff.mpr (eq_i res_at (Term.int_eval (1)) rfl), trivial⟩ ⟨hq.1, hq.2.1, (hq.2.2.sift fun y hy => Or.inr (N y hy)).mono (by decide) (by decide)⟩⟩
theorem main_1_1 : Claimed_1_1 := comes_1 fun _ _ _ _ _ _ h hF => ⟨h.1, hF⟩
theorem main_1_2 : Claimed_1_2 := comes_1 fun _ _ _ _ _ _ h hF => ⟨h.2.1, hF⟩
end Jvm.Pilot.@@N@@
namespace Jvm.Pilot.@@N@@
open Jvm Jvm.ClassFile Sem Op Lib Jvm.Free Jvm.Stand Jvm.Pilot.@@N@@.Jvm.D
/-! MADE BY PROGRAM (witnessworld.py) out of the Statement's table words and the real class files: 12 classes; the members and pool entries that the words name. The judged class is class 1, her method 1. -/
namespace start1
open Jvm.ClassFile
def u (s : String) : CpInfo := .utf8 (stringToUtf16 s)
/-- a pool by its gaps: so many unusable entries, then the entry; so many at the end -/
def gap : Nat → List CpInfo → List CpInfo
  | 0, r => r
  | n + 1, r => .unusable :: gap n r
def poolList (es : List (Nat × CpInfo)) (last : Nat) : List CpInfo := es.foldr (fun e r => gap e.1 (e.2 :: r)) (gap last [])
def pool (es : List (Nat × CpInfo)) (last : Nat) : Array CpInfo := ⟨poolList es last⟩
def fileOf (pool : Array CpInfo) (this : Nat) (attrs : Array Attribute := #[]) (ms : Array MethodInfo := #[]) (fl : Nat := 33) (sup : Nat := 0) (ifs : Array Nat := #[]) (fds : Array FieldInfo := #[]) : ClassFile where
  minorVersion := 0
  majorVersion := 65
  constantPool := pool
  accessFlags := fl
  thisClass := this
  superClass := sup
  interfaces := ifs
  fields := fds
  methods := ms
  attributes := attrs
def plain (name : String) (sup : Option ClassId) : Class where
  name := name
  kind := .ordinary
  loader := none
  accessFlags := 33
  super := sup
  interfaces := #[]
  cf := none
  fields := #[]
  methods := #[]
  instanceTypes := #[]
  staticTypes := #[]
  resolved := #[]
  callSites := []
  init := .initialized
  statics := none
  mirror := none

def pool0 : Array CpInfo := pool [(5, u "<init>"), (0, u "()V"), (1, .class_ 10), (1, u "java/lang/Object"), (85, u "clone"), (0, u "()Ljava/lang/Object;")] 26

def k0c0 : Code := { maxStack := 0, maxLocals := 1, code := object_method_1_code, exceptionTable := #[], attributes := #[] }
def k0m0 : Method := { name := "<init>", desc := "()V", sig := { parameters := [], returnType := none }, accessFlags := 1, code := some k0c0 }
def k0m1 : Method := { name := "clone", desc := "()Ljava/lang/Object;", sig := { parameters := [], returnType := some (.object "java/lang/Object") }, accessFlags := 260, code := none }
/-- java/lang/Object -/
def k0 : Class := { plain "java/lang/Object" none with
  accessFlags := 33
  interfaces := #[]
  cf := some (fileOf pool0 8 #[] #[{ accessFlags := 1, nameIndex := 5, descriptorIndex := 6, attributes := #[] }, { accessFlags := 260, nameIndex := 96, descriptorIndex := 97, attributes := #[] }] 33 0 #[] #[])
  fields := #[]
  methods := #[k0m0, k0m1]
  instanceTypes := #[]
  staticTypes := #[]
  resolved := Array.replicate 124 none
  statics := none }

def pool1 : Array CpInfo := pool [(2, .class_ 4), (1, u "java/lang/Object"), (0, u "<init>"), (0, u "()V"), (0, .class_ 8), (0, u "com/example/oyster/oyster/engine/Bytes$In"), (0, .methodref 7 10), (0, .nameAndType 5 11), (0, u "([BI)V"), (0, .methodref 7 13), (0, .nameAndType 14 15), (0, u "atEnd"), (0, u "()Z"), (0, .integer 2147483647), (0, .methodref 7 18), (0, .nameAndType 19 20), (0, u "bytes"), (0, u "(I)[B"), (0, .methodref 7 22), (0, .nameAndType 23 24), (0, u "u8"), (0, u "()I"), (0, .class_ 26), (0, u "com/example/oyster/oyster/engine/InAtEndPinLaw"), (2, u "law"), (0, u "(IIII)Z")] 12

def k1m0 : Method := { name := "<init>", desc := "()V", sig := { parameters := [], returnType := none }, accessFlags := 1, code := none }
def k1c1 : Code := { maxStack := 4, maxLocals := 11, code := code, exceptionTable := #[], attributes := #[] }
def k1m1 : Method := { name := "law", desc := "(IIII)Z", sig := { parameters := [.int, .int, .int, .int], returnType := some .boolean }, accessFlags := 9, code := some k1c1 }
/-- com/example/oyster/oyster/engine/InAtEndPinLaw -/
def k1 : Class := { plain "com/example/oyster/oyster/engine/InAtEndPinLaw" (some 0) with
  accessFlags := 49
  interfaces := #[]
  cf := some (fileOf pool1 25 #[] #[{ accessFlags := 1, nameIndex := 5, descriptorIndex := 6, attributes := #[] }, { accessFlags := 9, nameIndex := 29, descriptorIndex := 30, attributes := #[] }] 49 2 #[] #[])
  fields := #[]
  methods := #[k1m0, k1m1]
  instanceTypes := #[]
  staticTypes := #[]
  resolved := Array.replicate 43 none
  statics := none }

def pool2 : Array CpInfo := pool [(1, .methodref 2 3), (0, .class_ 4), (0, .nameAndType 5 6), (0, u "java/lang/Object"), (0, u "<init>"), (0, u "()V"), (0, .fieldref 8 9), (0, .class_ 10), (0, .nameAndType 11 12), (0, u "com/example/oyster/oyster/engine/Bytes$In"), (0, u "bytes"), (0, u "[B"), (0, .fieldref 8 14), (0, .nameAndType 15 16), (0, u "position"), (0, u "I"), (0, .methodref 8 18), (0, .nameAndType 19 20), (0, u "need"), (0, u "(I)V"), (2, u "u8"), (0, u "()I"), (3, .class_ 30), (1, u "com/example/oyster/oyster/engine/Bytes"), (16, .methodref 48 49), (0, .class_ 50), (0, .nameAndType 51 52), (0, u "java/util/Arrays"), (0, u "copyOfRange"), (0, u "([BII)[B"), (2, u "([BI)V"), (2, u "atEnd"), (0, u "()Z"), (6, u "(I)[B")] 19

def k2c0 : Code := { maxStack := 2, maxLocals := 3, code := prog_7_method_1_code, exceptionTable := #[], attributes := #[] }
def k2m0 : Method := { name := "<init>", desc := "([BI)V", sig := { parameters := [(.array .byte), .int], returnType := none }, accessFlags := 0, code := some k2c0 }
def k2c1 : Code := { maxStack := 2, maxLocals := 1, code := prog_7_method_3_code, exceptionTable := #[], attributes := #[] }
def k2m1 : Method := { name := "atEnd", desc := "()Z", sig := { parameters := [], returnType := some .boolean }, accessFlags := 0, code := some k2c1 }
def k2c2 : Code := { maxStack := 3, maxLocals := 2, code := prog_7_method_4_code, exceptionTable := #[], attributes := #[] }
def k2m2 : Method := { name := "u8", desc := "()I", sig := { parameters := [], returnType := some .int }, accessFlags := 0, code := some k2c2 }
def k2c3 : Code := { maxStack := 4, maxLocals := 3, code := prog_7_method_8_code, exceptionTable := #[], attributes := #[] }
def k2m3 : Method := { name := "bytes", desc := "(I)[B", sig := { parameters := [.int], returnType := some (.array .byte) }, accessFlags := 0, code := some k2c3 }
def k2c4 : Code := { maxStack := 3, maxLocals := 2, code := prog_7_method_9_code, exceptionTable := #[], attributes := #[] }
def k2m4 : Method := { name := "need", desc := "(I)V", sig := { parameters := [.int], returnType := none }, accessFlags := 2, code := some k2c4 }
/-- com/example/oyster/oyster/engine/Bytes$In -/
def k2 : Class := { plain "com/example/oyster/oyster/engine/Bytes$In" (some 0) with
  accessFlags := 48
  interfaces := #[]
  cf := some (fileOf pool2 8 #[.nestHost 28] #[{ accessFlags := 0, nameIndex := 5, descriptorIndex := 55, attributes := #[] }, { accessFlags := 0, nameIndex := 58, descriptorIndex := 59, attributes := #[] }, { accessFlags := 0, nameIndex := 23, descriptorIndex := 24, attributes := #[] }, { accessFlags := 0, nameIndex := 11, descriptorIndex := 66, attributes := #[] }, { accessFlags := 2, nameIndex := 19, descriptorIndex := 20, attributes := #[] }] 48 2 #[] #[{ accessFlags := 18, nameIndex := 11, descriptorIndex := 12, attributes := #[] }, { accessFlags := 2, nameIndex := 15, descriptorIndex := 16, attributes := #[] }])
  fields := #[{ name := "bytes", type := (.array .byte), accessFlags := 18, slot := 0, constantValue := 0 }, { name := "position", type := .int, accessFlags := 2, slot := 1, constantValue := 0 }]
  methods := #[k2m0, k2m1, k2m2, k2m3, k2m4]
  instanceTypes := #[(.array .byte), .int]
  staticTypes := #[]
  resolved := Array.replicate 86 none
  statics := none }

def pool3 : Array CpInfo := pool [(2, .class_ 4), (1, u "java/lang/Object"), (0, u "<init>"), (0, u "()V"), (7, .class_ 16), (1, u "java/util/Arrays"), (57, .class_ 76), (1, u "java/util/Arrays$NaturalOrder"), (32, u "()Ljava/lang/Object;"), (3, .class_ 115), (1, u "java/util/Arrays$LegacyMergeSort"), (1, u "Z"), (10, .nameAndType 129 109), (0, u "clone"), (9, u "copyOfRange"), (10, .methodref 151 152), (0, .class_ 153), (0, .nameAndType 154 155), (0, u "java/lang/System"), (0, u "arraycopy"), (0, u "(Ljava/lang/Object;ILjava/lang/Object;II)V"), (148, .methodref 305 306), (0, .class_ 307), (0, .nameAndType 308 309), (0, u "java/lang/Math"), (0, u "min"), (0, u "(II)I"), (0, .methodref 311 128), (0, .class_ 312), (0, u "[B"), (26, .methodref 14 340), (0, .nameAndType 341 342), (0, u "copyOfRangeByte"), (0, u "([BII)[B"), (0, .methodref 14 344), (0, .nameAndType 345 346), (0, u "checkLength"), (0, u "(II)V"), (28, .class_ 376), (0, u "java/util/Arrays$ArrayList"), (68, u "$assertionsDisabled"), (269, u "MIN_ARRAY_SORT_GRAN"), (0, u "I"), (2, u "INSERTIONSORT_THRESHOLD"), (255, .class_ 976), (0, u "java/util/Arrays$ArrayItr")] 52

def k3m0 : Method := { name := "<init>", desc := "()V", sig := { parameters := [], returnType := none }, accessFlags := 2, code := none }
def k3c1 : Code := { maxStack := 4, maxLocals := 2, code := jdk_65_method_131_code, exceptionTable := #[], attributes := #[] }
def k3m1 : Method := { name := "checkLength", desc := "(II)V", sig := { parameters := [.int, .int], returnType := none }, accessFlags := 10, code := some k3c1 }
def k3c2 : Code := { maxStack := 3, maxLocals := 3, code := jdk_65_method_132_code, exceptionTable := #[], attributes := #[] }
def k3m2 : Method := { name := "copyOfRange", desc := "([BII)[B", sig := { parameters := [(.array .byte), .int, .int], returnType := some (.array .byte) }, accessFlags := 9, code := some k3c2 }
def k3c3 : Code := { maxStack := 6, maxLocals := 5, code := jdk_65_method_133_code, exceptionTable := #[], attributes := #[] }
def k3m3 : Method := { name := "copyOfRangeByte", desc := "([BII)[B", sig := { parameters := [(.array .byte), .int, .int], returnType := some (.array .byte) }, accessFlags := 10, code := some k3c3 }
/-- java/util/Arrays -/
def k3 : Class := { plain "java/util/Arrays" (some 0) with
  accessFlags := 49
  interfaces := #[]
  cf := some (fileOf pool3 14 #[.nestMembers #[975, 375, 113, 74]] #[{ accessFlags := 2, nameIndex := 5, descriptorIndex := 6, attributes := #[] }, { accessFlags := 10, nameIndex := 345, descriptorIndex := 346, attributes := #[] }, { accessFlags := 9, nameIndex := 139, descriptorIndex := 342, attributes := #[] }, { accessFlags := 10, nameIndex := 341, descriptorIndex := 342, attributes := #[] }] 49 2 #[] #[{ accessFlags := 26, nameIndex := 715, descriptorIndex := 716, attributes := #[] }, { accessFlags := 26, nameIndex := 719, descriptorIndex := 716, attributes := #[] }, { accessFlags := 4120, nameIndex := 445, descriptorIndex := 117, attributes := #[] }])
  fields := #[{ name := "MIN_ARRAY_SORT_GRAN", type := .int, accessFlags := 26, slot := 0, constantValue := 0 }, { name := "INSERTIONSORT_THRESHOLD", type := .int, accessFlags := 26, slot := 1, constantValue := 0 }, { name := "$assertionsDisabled", type := .boolean, accessFlags := 4120, slot := 2, constantValue := 0 }]
  methods := #[k3m0, k3m1, k3m2, k3m3]
  instanceTypes := #[]
  staticTypes := #[.int, .int, .boolean]
  resolved := Array.replicate 1029 none
  statics := none }

def pool4 : Array CpInfo := pool [(1, .class_ 2), (0, u "java/lang/Cloneable"), (0, .class_ 4), (0, u "java/lang/Object")] 2

/-- java/lang/Cloneable -/
def k4 : Class := { plain "java/lang/Cloneable" (some 0) with
  accessFlags := 1537
  interfaces := #[]
  cf := some (fileOf pool4 1 #[] #[] 1537 3 #[] #[])
  fields := #[]
  methods := #[]
  instanceTypes := #[]
  staticTypes := #[]
  resolved := Array.replicate 7 none
  statics := none }

def pool5 : Array CpInfo := pool [(1, .class_ 2), (0, u "java/lang/Math"), (1, .class_ 6), (1, u "java/lang/Object"), (0, u "<init>"), (0, u "()V"), (89, .class_ 100), (1, u "java/lang/Math$RandomNumberGeneratorHolder"), (71, u "negativeZeroFloatBits"), (0, u "J"), (2, u "negativeZeroDoubleBits"), (24, u "min"), (43, u "$assertionsDisabled"), (0, u "Z"), (88, u "(II)I"), (2, u "twoToTheDoubleScaleDown"), (0, u "D"), (4, u "twoToTheDoubleScaleUp"), (9, u "E"), (3, u "PI"), (2, u "TAU"), (2, u "DEGREES_TO_RADIANS"), (0, u "RADIANS_TO_DEGREES")] 94

def k5m0 : Method := { name := "<init>", desc := "()V", sig := { parameters := [], returnType := none }, accessFlags := 2, code := none }
def k5c1 : Code := { maxStack := 2, maxLocals := 2, code := jdk_29_method_69_code, exceptionTable := #[], attributes := #[] }
def k5m1 : Method := { name := "min", desc := "(II)I", sig := { parameters := [.int, .int], returnType := some .int }, accessFlags := 9, code := some k5c1 }
/-- java/lang/Math -/
def k5 : Class := { plain "java/lang/Math" (some 0) with
  accessFlags := 49
  interfaces := #[]
  cf := some (fileOf pool5 1 #[.nestMembers #[98]] #[{ accessFlags := 2, nameIndex := 7, descriptorIndex := 8, attributes := #[] }, { accessFlags := 9, nameIndex := 201, descriptorIndex := 335, attributes := #[] }] 49 4 #[] #[{ accessFlags := 25, nameIndex := 354, descriptorIndex := 339, attributes := #[] }, { accessFlags := 25, nameIndex := 358, descriptorIndex := 339, attributes := #[] }, { accessFlags := 25, nameIndex := 361, descriptorIndex := 339, attributes := #[] }, { accessFlags := 26, nameIndex := 364, descriptorIndex := 339, attributes := #[] }, { accessFlags := 26, nameIndex := 365, descriptorIndex := 339, attributes := #[] }, { accessFlags := 26, nameIndex := 172, descriptorIndex := 173, attributes := #[] }, { accessFlags := 26, nameIndex := 176, descriptorIndex := 173, attributes := #[] }, { accessFlags := 8, nameIndex := 344, descriptorIndex := 339, attributes := #[] }, { accessFlags := 8, nameIndex := 338, descriptorIndex := 339, attributes := #[] }, { accessFlags := 4120, nameIndex := 245, descriptorIndex := 246, attributes := #[] }])
  fields := #[{ name := "E", type := .double, accessFlags := 25, slot := 0, constantValue := 0 }, { name := "PI", type := .double, accessFlags := 25, slot := 1, constantValue := 0 }, { name := "TAU", type := .double, accessFlags := 25, slot := 2, constantValue := 0 }, { name := "DEGREES_TO_RADIANS", type := .double, accessFlags := 26, slot := 3, constantValue := 0 }, { name := "RADIANS_TO_DEGREES", type := .double, accessFlags := 26, slot := 4, constantValue := 0 }, { name := "negativeZeroFloatBits", type := .long, accessFlags := 26, slot := 5, constantValue := 0 }, { name := "negativeZeroDoubleBits", type := .long, accessFlags := 26, slot := 6, constantValue := 0 }, { name := "twoToTheDoubleScaleUp", type := .double, accessFlags := 8, slot := 7, constantValue := 0 }, { name := "twoToTheDoubleScaleDown", type := .double, accessFlags := 8, slot := 8, constantValue := 0 }, { name := "$assertionsDisabled", type := .boolean, accessFlags := 4120, slot := 9, constantValue := 0 }]
  methods := #[k5m0, k5m1]
  instanceTypes := #[]
  staticTypes := #[.double, .double, .double, .double, .double, .long, .long, .double, .double, .boolean]
  resolved := Array.replicate 460 none
  statics := none }

def pool6 : Array CpInfo := pool [(2, .class_ 4), (1, u "java/lang/Object"), (0, u "<init>"), (0, u "()V"), (1, .class_ 10), (1, u "java/lang/System"), (0, u "allowSecurityManager"), (0, u "I"), (16, u "cons"), (0, u "Ljava/io/Console;"), (77, .class_ 110), (1, u "java/lang/System$CallersHolder"), (43, u "initialErrStream"), (0, u "Ljava/io/PrintStream;"), (19, u "security"), (0, u "Ljava/lang/SecurityManager;"), (31, .class_ 209), (0, u "java/lang/System$1"), (7, u "props"), (0, u "Ljava/util/Properties;"), (2, u "lineSeparator"), (0, u "Ljava/lang/String;"), (96, .class_ 321), (1, u "java/lang/System$LoggerFinder"), (5, .class_ 328), (0, u "java/lang/System$Logger"), (67, u "err"), (2, u "out"), (91, u "notSupportedJnuEncoding"), (15, u "in"), (17, u "initialIn"), (0, u "Ljava/io/InputStream;"), (35, u "bootLayer"), (0, u "Ljava/lang/ModuleLayer;"), (99, .class_ 664), (0, u "java/lang/System$2"), (9, u "NEVER"), (2, u "MAYBE"), (49, u "arraycopy"), (0, u "(Ljava/lang/Object;ILjava/lang/Object;II)V"), (72, .class_ 802), (0, u "java/lang/System$Logger$Level")] 31

def k6m0 : Method := { name := "<init>", desc := "()V", sig := { parameters := [], returnType := none }, accessFlags := 2, code := none }
def k6m1 : Method := { name := "arraycopy", desc := "(Ljava/lang/Object;ILjava/lang/Object;II)V", sig := { parameters := [(.object "java/lang/Object"), .int, (.object "java/lang/Object"), .int, .int], returnType := none }, accessFlags := 265, code := none }
/-- java/lang/System -/
def k6 : Class := { plain "java/lang/System" (some 0) with
  accessFlags := 49
  interfaces := #[]
  cf := some (fileOf pool6 8 #[.nestMembers #[319, 327, 801, 108, 663, 208]] #[{ accessFlags := 2, nameIndex := 5, descriptorIndex := 6, attributes := #[] }, { accessFlags := 265, nameIndex := 727, descriptorIndex := 728, attributes := #[] }] 49 2 #[] #[{ accessFlags := 25, nameIndex := 507, descriptorIndex := 526, attributes := #[] }, { accessFlags := 25, nameIndex := 399, descriptorIndex := 155, attributes := #[] }, { accessFlags := 25, nameIndex := 396, descriptorIndex := 155, attributes := #[] }, { accessFlags := 10, nameIndex := 525, descriptorIndex := 526, attributes := #[] }, { accessFlags := 26, nameIndex := 674, descriptorIndex := 12, attributes := #[] }, { accessFlags := 26, nameIndex := 677, descriptorIndex := 12, attributes := #[] }, { accessFlags := 10, nameIndex := 11, descriptorIndex := 12, attributes := #[] }, { accessFlags := 74, nameIndex := 175, descriptorIndex := 176, attributes := #[] }, { accessFlags := 10, nameIndex := 491, descriptorIndex := 222, attributes := #[] }, { accessFlags := 74, nameIndex := 29, descriptorIndex := 30, attributes := #[] }, { accessFlags := 74, nameIndex := 154, descriptorIndex := 155, attributes := #[] }, { accessFlags := 10, nameIndex := 217, descriptorIndex := 218, attributes := #[] }, { accessFlags := 10, nameIndex := 221, descriptorIndex := 222, attributes := #[] }, { accessFlags := 8, nameIndex := 562, descriptorIndex := 563, attributes := #[] }])
  fields := #[{ name := "in", type := (.object "java/io/InputStream"), accessFlags := 25, slot := 0, constantValue := 0 }, { name := "out", type := (.object "java/io/PrintStream"), accessFlags := 25, slot := 1, constantValue := 0 }, { name := "err", type := (.object "java/io/PrintStream"), accessFlags := 25, slot := 2, constantValue := 0 }, { name := "initialIn", type := (.object "java/io/InputStream"), accessFlags := 10, slot := 3, constantValue := 0 }, { name := "NEVER", type := .int, accessFlags := 26, slot := 4, constantValue := 0 }, { name := "MAYBE", type := .int, accessFlags := 26, slot := 5, constantValue := 0 }, { name := "allowSecurityManager", type := .int, accessFlags := 10, slot := 6, constantValue := 0 }, { name := "security", type := (.object "java/lang/SecurityManager"), accessFlags := 74, slot := 7, constantValue := 0 }, { name := "notSupportedJnuEncoding", type := (.object "java/lang/String"), accessFlags := 10, slot := 8, constantValue := 0 }, { name := "cons", type := (.object "java/io/Console"), accessFlags := 74, slot := 9, constantValue := 0 }, { name := "initialErrStream", type := (.object "java/io/PrintStream"), accessFlags := 74, slot := 10, constantValue := 0 }, { name := "props", type := (.object "java/util/Properties"), accessFlags := 10, slot := 11, constantValue := 0 }, { name := "lineSeparator", type := (.object "java/lang/String"), accessFlags := 10, slot := 12, constantValue := 0 }, { name := "bootLayer", type := (.object "java/lang/ModuleLayer"), accessFlags := 8, slot := 13, constantValue := 0 }]
  methods := #[k6m0, k6m1]
  instanceTypes := #[]
  staticTypes := #[(.object "java/io/InputStream"), (.object "java/io/PrintStream"), (.object "java/io/PrintStream"), (.object "java/io/InputStream"), .int, .int, .int, (.object "java/lang/SecurityManager"), (.object "java/lang/String"), (.object "java/io/Console"), (.object "java/io/PrintStream"), (.object "java/util/Properties"), (.object "java/lang/String"), (.object "java/lang/ModuleLayer")]
  resolved := Array.replicate 834 none
  statics := none }

def pool7 : Array CpInfo := pool [(1, u "java/io/Serializable"), (0, .class_ 1), (0, u "java/lang/Object"), (0, .class_ 3)] 3

/-- java/io/Serializable -/
def k7 : Class := { plain "java/io/Serializable" (some 0) with
  accessFlags := 1537
  interfaces := #[]
  cf := some (fileOf pool7 2 #[] #[] 1537 4 #[] #[])
  fields := #[]
  methods := #[]
  instanceTypes := #[]
  staticTypes := #[]
  resolved := Array.replicate 8 none
  statics := none }

/-- the primitive byte -/
def k8 : Class := { plain "byte" none with kind := .primitive 'B', accessFlags := 0x411 }
/-- [B -/
def k9 : Class := { plain "[B" (some 0) with kind := .array 8 .byte, interfaces := #[4, 7], accessFlags := 1041 }

/-- the primitive int -/
def k10 : Class := { plain "int" none with kind := .primitive 'I', accessFlags := 0x411 }
/-- [I -/
def k11 : Class := { plain "[I" (some 0) with kind := .array 10 .int, interfaces := #[4, 7], accessFlags := 1041 }

def heap : Heap := #[]
def classes : Array Class := #[k0, k1, k2, k3, k4, k5, k6, k7, k8, k9, k10, k11]
def interned : List (Array UInt16 × Addr) := []
def slotsUsed : Nat := 0
def theMethod : MethodId := ⟨1, 1⟩
def args0 : Array Value := #[.int 3, .int 5, .int 7, .int 9]
def aboutOver (below : List Frame) : State where
  vm := { classes := classes, interned := interned.toArray }
  heap := heap
  slotsUsed := slotsUsed
  threads := #[{ frames := .invoking theMethod args0 :: below }]
def below0 : List Frame := [.native { method := ⟨0, 0⟩, args := #[] }]
def about1 : State := aboutOver below0
def p0 : Program := .bare "" "" ""
def e0 : Env := launch0.env 0 0 0
theorem w_frames : about1.frames = Frame.invoking theMethod args0 :: below0 := rfl
set_option maxRecDepth 65536 in
theorem w_args : argsFit about1.vm theMethod args0 = true := by decide +kernel
set_option maxRecDepth 65536 in
theorem w_heap : heapFits about1 = true := by decide +kernel
set_option maxRecDepth 65536 in
theorem w_runnable : about1.curStatus? = some .runnable := by decide +kernel
set_option maxRecDepth 65536 in
theorem w_alone : about1.alone = true := by decide +kernel
set_option maxRecDepth 65536 in
theorem w_named : about1.methodNamed? x = some theMethod := by decide +kernel
set_option maxRecDepth 65536 in
theorem w_hears : about1.hears theMethod below0 = true := by decide +kernel
set_option maxRecDepth 65536 in
theorem w_ripe : about1.ripe theMethod args0 below0 = true := by decide +kernel
theorem w_running : about1.status = .running := rfl
set_option maxRecDepth 65536 in
theorem w_room : about1.hasRoom e0.platform room_1 = true :=
  launch0.hasRoom_least _ room_1 (by decide +kernel) (by decide +kernel) (by decide +kernel) (by decide +kernel) (by decide +kernel) (by decide +kernel)
theorem allAtoms_all (ts : List Jvm.Cond) (a : Array Jvm.Value) (st : Jvm.State) : (allAtoms ts).before a st = ts.all (fun c => c.before a st) := by
  induction ts with
  | nil => rfl
  | cons c t ih =>
    show (Jvm.Cond.and c (allAtoms t)).before a st = _
    rw [Jvm.Cond.before_and, ih, List.all_cons]
def words1 : List Jvm.Cond := Jvm.Cond.code x code maxLocals ret :: tables_1
/-- a 'code' word, met by the world's own term for the bytes: nothing is compared byte by byte -/
theorem code_word {y : MethodName} {bytes : ByteArray} {mx : Nat} {rt : Option FieldType} {a : Array Value} {s : State} {m : MethodId} {meth : Method} {c : Code} (h1 : s.methodNamed? y = some m) (h2 : s.vm.method? m = some meth) (h3 : meth.code = some c) (h4 : c.code = bytes)
    (h5 : (c.maxLocals == mx && c.exceptionTable.isEmpty && decide (c.maxStack ≤ mostOperands) && decide (meth.sig.returnType = rt) && !meth.locks && decide (parseMethodDescriptor y.desc = some meth.sig)) = true) : (Jvm.Cond.code y bytes mx rt).before a s = true := by
  simp only [Bool.and_eq_true, beq_iff_eq, Bool.not_eq_true', decide_eq_true_eq] at h5
  obtain ⟨⟨⟨⟨⟨g1, g2⟩, g3⟩, g4⟩, g5⟩, g6⟩ := h5
  simp [Cond.before, Cond.holds, Cond.value, h1, h2, h3, h4, g1, g2, g3, g4, g5, g6]
def isCode : Jvm.Cond → Bool
  | .code _ _ _ _ => true
  | _ => false
theorem all_split {L : List Jvm.Cond} {P : Jvm.Cond → Bool} (h1 : L.all (fun c => isCode c || P c) = true) (h2 : ∀ c ∈ L.filter isCode, P c = true) : L.all P = true := by
  refine List.all_eq_true.mpr fun c hc => ?_
  have h := List.all_eq_true.mp h1 c hc
  rcases Bool.eq_false_or_eq_true (isCode c) with hi | hi
  · exact h2 c (List.mem_filter.mpr ⟨hc, hi⟩)
  · simpa [hi] using h
set_option maxRecDepth 65536 in
theorem w_c0 : (Jvm.Cond.code x code maxLocals ret).before args0 about1 = true := code_word (m := ⟨1, 1⟩) (meth := k1m1) (c := k1c1) (by decide +kernel) rfl rfl rfl (by decide +kernel)
set_option maxRecDepth 65536 in
theorem w_c1 : (Jvm.Cond.code ({ cls := "com/example/oyster/oyster/engine/Bytes$In", name := "<init>", desc := "([BI)V" } : Jvm.MethodName) prog_7_method_1_code (3 : Nat) (Option.none : Option Jvm.ClassFile.FieldType)).before args0 about1 = true := code_word (m := ⟨2, 0⟩) (meth := k2m0) (c := k2c0) (by decide +kernel) rfl rfl rfl (by decide +kernel)
set_option maxRecDepth 65536 in
theorem w_c2 : (Jvm.Cond.code ({ cls := "java/lang/Object", name := "<init>", desc := "()V" } : Jvm.MethodName) object_method_1_code (1 : Nat) (Option.none : Option Jvm.ClassFile.FieldType)).before args0 about1 = true := code_word (m := ⟨0, 0⟩) (meth := k0m0) (c := k0c0) (by decide +kernel) rfl rfl rfl (by decide +kernel)
set_option maxRecDepth 65536 in
theorem w_c3 : (Jvm.Cond.code ({ cls := "com/example/oyster/oyster/engine/Bytes$In", name := "atEnd", desc := "()Z" } : Jvm.MethodName) prog_7_method_3_code (1 : Nat) (Option.some Jvm.ClassFile.FieldType.boolean)).before args0 about1 = true := code_word (m := ⟨2, 1⟩) (meth := k2m1) (c := k2c1) (by decide +kernel) rfl rfl rfl (by decide +kernel)
set_option maxRecDepth 65536 in
theorem w_c4 : (Jvm.Cond.code ({ cls := "com/example/oyster/oyster/engine/Bytes$In", name := "bytes", desc := "(I)[B" } : Jvm.MethodName) prog_7_method_8_code (3 : Nat) (Option.some (Jvm.ClassFile.FieldType.array Jvm.ClassFile.FieldType.byte))).before args0 about1 = true := code_word (m := ⟨2, 3⟩) (meth := k2m3) (c := k2c3) (by decide +kernel) rfl rfl rfl (by decide +kernel)
set_option maxRecDepth 65536 in
theorem w_c5 : (Jvm.Cond.code ({ cls := "com/example/oyster/oyster/engine/Bytes$In", name := "need", desc := "(I)V" } : Jvm.MethodName) prog_7_method_9_code (2 : Nat) (Option.none : Option Jvm.ClassFile.FieldType)).before args0 about1 = true := code_word (m := ⟨2, 4⟩) (meth := k2m4) (c := k2c4) (by decide +kernel) rfl rfl rfl (by decide +kernel)
set_option maxRecDepth 65536 in
theorem w_c6 : (Jvm.Cond.code ({ cls := "java/util/Arrays", name := "copyOfRange", desc := "([BII)[B" } : Jvm.MethodName) jdk_65_method_132_code (3 : Nat) (Option.some (Jvm.ClassFile.FieldType.array Jvm.ClassFile.FieldType.byte))).before args0 about1 = true := code_word (m := ⟨3, 2⟩) (meth := k3m2) (c := k3c2) (by decide +kernel) rfl rfl rfl (by decide +kernel)
set_option maxRecDepth 65536 in
theorem w_c7 : (Jvm.Cond.code ({ cls := "java/util/Arrays", name := "copyOfRangeByte", desc := "([BII)[B" } : Jvm.MethodName) jdk_65_method_133_code (5 : Nat) (Option.some (Jvm.ClassFile.FieldType.array Jvm.ClassFile.FieldType.byte))).before args0 about1 = true := code_word (m := ⟨3, 3⟩) (meth := k3m3) (c := k3c3) (by decide +kernel) rfl rfl rfl (by decide +kernel)
set_option maxRecDepth 65536 in
theorem w_c8 : (Jvm.Cond.code ({ cls := "java/util/Arrays", name := "checkLength", desc := "(II)V" } : Jvm.MethodName) jdk_65_method_131_code (2 : Nat) (Option.none : Option Jvm.ClassFile.FieldType)).before args0 about1 = true := code_word (m := ⟨3, 1⟩) (meth := k3m1) (c := k3c1) (by decide +kernel) rfl rfl rfl (by decide +kernel)
set_option maxRecDepth 65536 in
theorem w_c9 : (Jvm.Cond.code ({ cls := "java/lang/Math", name := "min", desc := "(II)I" } : Jvm.MethodName) jdk_29_method_69_code (2 : Nat) (Option.some Jvm.ClassFile.FieldType.int)).before args0 about1 = true := code_word (m := ⟨5, 1⟩) (meth := k5m1) (c := k5c1) (by decide +kernel) rfl rfl rfl (by decide +kernel)
set_option maxRecDepth 65536 in
theorem w_c10 : (Jvm.Cond.code ({ cls := "com/example/oyster/oyster/engine/Bytes$In", name := "u8", desc := "()I" } : Jvm.MethodName) prog_7_method_4_code (2 : Nat) (Option.some Jvm.ClassFile.FieldType.int)).before args0 about1 = true := code_word (m := ⟨2, 2⟩) (meth := k2m2) (c := k2c2) (by decide +kernel) rfl rfl rfl (by decide +kernel)
def codes1 : List Jvm.Cond := [Jvm.Cond.code x code maxLocals ret, Jvm.Cond.code ({ cls := "com/example/oyster/oyster/engine/Bytes$In", name := "<init>", desc := "([BI)V" } : Jvm.MethodName) prog_7_method_1_code (3 : Nat) (Option.none : Option Jvm.ClassFile.FieldType), Jvm.Cond.code ({ cls := "java/lang/Object", name := "<init>", desc := "()V" } : Jvm.MethodName) object_method_1_code (1 : Nat) (Option.none : Option Jvm.ClassFile.FieldType), Jvm.Cond.code ({ cls := "com/example/oyster/oyster/engine/Bytes$In", name := "atEnd", desc := "()Z" } : Jvm.MethodName) prog_7_method_3_code (1 : Nat) (Option.some Jvm.ClassFile.FieldType.boolean), Jvm.Cond.code ({ cls := "com/example/oyster/oyster/engine/Bytes$In", name := "bytes", desc := "(I)[B" } : Jvm.MethodName) prog_7_method_8_code (3 : Nat) (Option.some (Jvm.ClassFile.FieldType.array Jvm.ClassFile.FieldType.byte)), Jvm.Cond.code ({ cls := "com/example/oyster/oyster/engine/Bytes$In", name := "need", desc := "(I)V" } : Jvm.MethodName) prog_7_method_9_code (2 : Nat) (Option.none : Option Jvm.ClassFile.FieldType), Jvm.Cond.code ({ cls := "java/util/Arrays", name := "copyOfRange", desc := "([BII)[B" } : Jvm.MethodName) jdk_65_method_132_code (3 : Nat) (Option.some (Jvm.ClassFile.FieldType.array Jvm.ClassFile.FieldType.byte)), Jvm.Cond.code ({ cls := "java/util/Arrays", name := "copyOfRangeByte", desc := "([BII)[B" } : Jvm.MethodName) jdk_65_method_133_code (5 : Nat) (Option.some (Jvm.ClassFile.FieldType.array Jvm.ClassFile.FieldType.byte)), Jvm.Cond.code ({ cls := "java/util/Arrays", name := "checkLength", desc := "(II)V" } : Jvm.MethodName) jdk_65_method_131_code (2 : Nat) (Option.none : Option Jvm.ClassFile.FieldType), Jvm.Cond.code ({ cls := "java/lang/Math", name := "min", desc := "(II)I" } : Jvm.MethodName) jdk_29_method_69_code (2 : Nat) (Option.some Jvm.ClassFile.FieldType.int), Jvm.Cond.code ({ cls := "com/example/oyster/oyster/engine/Bytes$In", name := "u8", desc := "()I" } : Jvm.MethodName) prog_7_method_4_code (2 : Nat) (Option.some Jvm.ClassFile.FieldType.int)]
set_option maxRecDepth 65536 in
theorem codes_eq : words1.filter isCode = codes1 := rfl
theorem w_codes : ∀ c ∈ words1.filter isCode, c.before args0 about1 = true := by
  rw [codes_eq]
  intro c hc
  simp only [codes1, List.mem_cons, List.not_mem_nil, or_false] at hc
  rcases hc with rfl | rfl | rfl | rfl | rfl | rfl | rfl | rfl | rfl | rfl | rfl
  · exact w_c0
  · exact w_c1
  · exact w_c2
  · exact w_c3
  · exact w_c4
  · exact w_c5
  · exact w_c6
  · exact w_c7
  · exact w_c8
  · exact w_c9
  · exact w_c10
set_option maxRecDepth 65536 in
theorem w_t1 : (words1.take 24).all (fun c => isCode c || c.before args0 about1) = true := by decide +kernel
set_option maxRecDepth 65536 in
theorem w_t2 : ((words1.drop 24).take 24).all (fun c => isCode c || c.before args0 about1) = true := by decide +kernel
set_option maxRecDepth 65536 in
theorem w_t3 : ((words1.drop 24).drop 24).all (fun c => isCode c || c.before args0 about1) = true := by decide +kernel
theorem w_tables : (allAtoms (Jvm.Cond.code x code maxLocals ret :: tables_1)).before args0 about1 = true := by
  rw [allAtoms_all]
  show words1.all (fun c => c.before args0 about1) = true
  refine all_split ?_ w_codes
  rw [← List.take_append_drop 24 words1, List.all_append, w_t1, ← List.take_append_drop 24 (words1.drop 24), List.all_append, w_t2, w_t3]
  rfl
set_option maxRecDepth 65536 in
theorem w_case : (Jvm.Cond.and given_1 narrow_1).before args0 about1 = true := by decide +kernel
theorem w_applies : (headSpec (Jvm.Cond.code x code maxLocals ret :: tables_1) room_1).applies x e0.platform about1 = true :=
  (Spec.applies_iff w_frames).mpr ⟨w_running, w_runnable, w_alone, w_named, w_hears, w_ripe, w_room, w_tables⟩
theorem atStart : AtStart classFile x code maxLocals ret World_1 tables_1 room_1 Calls_1 rest_1 Pre_1 launch0 p0 e0 about1 theMethod args0 below0 :=
  ⟨lists_1, trivial, launch0.admits_env _ _ _, launch0.least_env, fairChoices_fair.cas, fairChoices_fair.clock, w_frames, w_args, w_heap, w_applies, trivial, trivial, w_case⟩
end start1
theorem witness_1 : WitnessClaimed_1 := ⟨start1.p0, start1.e0, start1.about1, start1.theMethod, start1.args0, start1.below0, start1.atStart⟩
end Jvm.Pilot.@@N@@
