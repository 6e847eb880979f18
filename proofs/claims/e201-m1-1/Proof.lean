import JvmDerived
import JvmDerived.Pilot.@@N@@Statement
import JvmDerived.Pilot.@@N@@Code
set_option linter.unusedVariables false
set_option linter.unusedSimpArgs false
namespace Jvm.Pilot.@@N@@
open Jvm Jvm.ClassFile Sem Op Lib Jvm.Free Jvm.Stand Jvm.LawKit Jvm.RoadKit Bundle Jvm.Pilot.@@N@@.Jvm.D
abbrev own_iushr (x y : Int32) : Int32 := (x.toUInt32 >>> (y &&& 31).toUInt32).toInt32
abbrev own_lshl (x : Int64) (y : Int32) : Int64 := x <<< (y &&& 0x3f).toInt64
abbrev own_lshr (x : Int64) (y : Int32) : Int64 := x >>> (y &&& 0x3f).toInt64
abbrev own_lushr (x : Int64) (y : Int32) : Int64 := (x.toUInt64 >>> (y &&& 0x3f).toInt64.toUInt64).toInt64
section Core
variable {p : Program} {l : Launch} {e : Env} {R : Room} {s : State} {m : MethodId} {args : Array Value} {below : List Frame} {meth : Method} {c : Code} {T T' : State} {locs : List Loc} {cells slots : Nat} {Z : State} {a0 : Array Value} {h h0 h' : Heap} {n0 : Nat}
/-- the i-th word of the sheet -/
theorem own_at (hw : ∀ d ∈ tables_1, d.before a0 Z = true) {d : Jvm.Cond} (i : Nat) (q : tables_1[i]? = some d) : d.before a0 Z = true := hw _ (List.mem_of_getElem? q)
/-- from this frame the method comes to its end, and G says what the end is -/
def ownGo (tb : Tables) (e : Env) (below : List Frame) (T : State) (g : JFrame) (G : Outcome → State → Prop) : Prop :=
  ∃ s₂ o, Steps tb e below (T.setTop g) s₂ ∧ s₂.status = .running ∧ Ended s₂ below o ∧ G o s₂
def ownDone (s : State) (Q : Option Value → Heap → List Loc → Prop) (kc ks : Nat) (o : Outcome) (U : State) : Prop :=
  ∃ v L, o = .returned v ∧ Q v U.heap L ∧ FrameEnd s o U L kc ks
/-- what a method leaves that only reckons -/
def ownPure (r : Value) (h0 : Heap) (n0 : Nat) (v : Option Value) (h : Heap) (L : List Loc) : Prop := v = some r ∧ Fr n0 L ∧ h = h0
theorem ownGo.st {tb : Tables} {g g' : JFrame} {G : Outcome → State → Prop} (q : ∀ t, Steps tb e below (T'.setTop g') t → Steps tb e below (T.setTop g) t) (k : ownGo tb e below T' g' G) : ownGo tb e below T g G := by
  obtain ⟨s₂, o, h1, h2⟩ := k
  exact ⟨s₂, o, q _ h1, h2⟩
theorem ownGo.sq {tb : Tables} {g g' : JFrame} {G : Outcome → State → Prop} (q : Steps tb e below (T.setTop g) (T'.setTop g')) (k : ownGo tb e below T' g' G) : ownGo tb e below T g G := by
  obtain ⟨s₂, o, h1, h2⟩ := k
  exact ⟨s₂, o, q.trans h1, h2⟩
theorem own_ret {Q : Option Value → Heap → List Loc → Prop} {kc ks : Nat} {g : JFrame} {v : Option Value} (X : Stand p l e R s m args below meth c T locs cells slots) (hlk : meth.locks = false) (hv : meth.sig.returnType = none → v = none)
    (hst : ∀ fs, (∀ (f : JFrame) (acts : List Action), f.method = m → f.locked = none → f.entered = [] → (doReturn e (T.setTop f) acts v).1 = T.setFrames fs) → Steps p.tables e below (T.setTop g) (T.setFrames fs))
    (hq : Q v T.heap locs) (hc : cells ≤ kc) (hs : slots ≤ ks) : ownGo p.tables e below T g (ownDone s Q kc ks) := by
  obtain ⟨fs, hr, hrun, hended, hW, hsame⟩ := X.leave (v := v) hv hlk
  exact ⟨_, _, hst fs hr, hrun, hended, _, _, rfl, hq, ⟨_, rfl⟩, hW, hsame.mono hc hs⟩
theorem own_retI {Q : Option Value → Heap → List Loc → Prop} {kc ks : Nat} {pc : Nat} {Ls : Array Slot} {z : Int32} {rest : List Value} (X : Stand p l e R s m args below meth c T locs cells slots) (hx : p.tables.exec = Jvm.exec) (hlk : meth.locks = false) (hret : meth.sig.returnType = some .int)
    (hd : decode c.code pc = .ok (.ireturn, 1)) (hq : Q (some (.int z)) T.heap locs) (hc : cells ≤ kc) (hs : slots ≤ ks) : ownGo p.tables e below T (mkF m pc Ls (.int z :: rest)) (ownDone s Q kc ks) :=
  own_ret X hlk (fun q => by rw [hret] at q; cases q) (fun fs hr => retOut X hx hret rfl (Or.inl ⟨rfl, Or.inl rfl, z, rfl⟩) hd hr) hq hc hs
theorem own_retZ {Q : Option Value → Heap → List Loc → Prop} {kc ks : Nat} {pc : Nat} {Ls : Array Slot} {z : Int32} {rest : List Value} (X : Stand p l e R s m args below meth c T locs cells slots) (hx : p.tables.exec = Jvm.exec) (hlk : meth.locks = false) (hret : meth.sig.returnType = some .boolean)
    (hd : decode c.code pc = .ok (.ireturn, 1)) (hz : z = 0 ∨ z = 1) (hq : Q (some (.int z)) T.heap locs) (hc : cells ≤ kc) (hs : slots ≤ ks) : ownGo p.tables e below T (mkF m pc Ls (.int z :: rest)) (ownDone s Q kc ks) := by
  have e1 : nar .boolean z = z := by rcases hz with rfl | rfl <;> decide
  exact own_ret X hlk (fun q => by rw [hret] at q; cases q) (fun fs hr => retN X hx (t := .boolean) hret (by simp) hd (by rw [e1]; exact hr)) hq hc hs
theorem own_retJ {Q : Option Value → Heap → List Loc → Prop} {kc ks : Nat} {pc : Nat} {Ls : Array Slot} {z : Int64} {rest : List Value} (X : Stand p l e R s m args below meth c T locs cells slots) (hx : p.tables.exec = Jvm.exec) (hlk : meth.locks = false) (hret : meth.sig.returnType = some .long)
    (hd : decode c.code pc = .ok (.lreturn, 1)) (hq : Q (some (.long z)) T.heap locs) (hc : cells ≤ kc) (hs : slots ≤ ks) : ownGo p.tables e below T (mkF m pc Ls (.long z :: rest)) (ownDone s Q kc ks) :=
  own_ret X hlk (fun q => by rw [hret] at q; cases q) (fun fs hr => retOut X hx hret rfl (Or.inr (Or.inl ⟨rfl, rfl, z, rfl⟩)) hd hr) hq hc hs
theorem own_retA {Q : Option Value → Heap → List Loc → Prop} {kc ks : Nat} {pc : Nat} {Ls : Array Slot} {z : Addr} {t : FieldType} {rest : List Value} (X : Stand p l e R s m args below meth c T locs cells slots) (hx : p.tables.exec = Jvm.exec) (hlk : meth.locks = false) (hret : meth.sig.returnType = some (.array t))
    (hd : decode c.code pc = .ok (.areturn, 1)) (hq : Q (some (.ref z)) T.heap locs) (hc : cells ≤ kc) (hs : slots ≤ ks) : ownGo p.tables e below T (mkF m pc Ls (.ref z :: rest)) (ownDone s Q kc ks) :=
  own_ret X hlk (fun q => by rw [hret] at q; cases q) (fun fs hr => retOut X hx hret rfl (Or.inr (Or.inr (Or.inr (Or.inr ⟨rfl, rfl, rfl⟩)))) hd hr) hq hc hs
theorem own_retV {Q : Option Value → Heap → List Loc → Prop} {kc ks : Nat} {pc : Nat} {Ls : Array Slot} (X : Stand p l e R s m args below meth c T locs cells slots) (hx : p.tables.exec = Jvm.exec) (hlk : meth.locks = false) (hret : meth.sig.returnType = none)
    (hd : decode c.code pc = .ok (.return_, 1)) (hq : Q none T.heap locs) (hc : cells ≤ kc) (hs : slots ≤ ks) : ownGo p.tables e below T (mkF m pc Ls []) (ownDone s Q kc ks) :=
  own_ret X hlk (fun _ => rfl) (fun fs hr => X.returnOut hx hret hd hr) hq hc hs
/-- a static call by the callee's contract -/
theorem own_callS (X : Stand p l e R s m args below meth c T locs cells slots) (hx : p.tables.exec = Jvm.exec) (hZ : Z.Warmed39 s.vm) {own : String} {index : Nat} {y : MethodName} {bytes : ByteArray} {maxL : Nat} {ret : Option FieldType} (hown : s.vm.findClass own = some m.cls)
    (w1 : (Jvm.Cond.methodLink own index y).before a0 Z = true) (w2 : (Jvm.Cond.static y).before a0 Z = true) (w3 : (Jvm.Cond.initialized y.cls).before a0 Z = true) (w4 : (Jvm.Cond.code y bytes maxL ret).before a0 Z = true) (hy : y.cls ≠ "java/lang/invoke/MethodHandle" ∧ y.cls ≠ "java/lang/invoke/VarHandle")
    {rm : Room} {argsL rest : List Value} {Q : Option Value → Heap → List Loc → Prop}
    (K : MetFree l y (head1 [Jvm.Cond.code y bytes maxL ret] rm) (fun a U => a = argsL.toArray ∧ Z.Warmed39 U.vm ∧ U.heap = h0) (fun _ _ _ _ _ => True) (fun _ U o U' => ∃ v L, o = .returned v ∧ Q v U'.heap L ∧ FrameEnd U o U' L rm.cells rm.slots))
    (W : Nat) (hf : rm.frames + 1 ≤ R.frames) (hl : W + (maxL + 11) + rm.locals ≤ R.locals) (eT : T.heap = h0) (hcl : cells + rm.cells ≤ R.cells) (hsl : slots + rm.slots ≤ R.slots)
    {g : JFrame} (hg : g.method = m) (hsize : g.locals.size = c.maxLocals) (hlen : ∀ sig, parseMethodDescriptor y.desc = some sig → argsL.length = sig.parameters.length) (hstack : g.stack = argsL.reverse ++ rest) (hW : 2 * g.monitorRoom + (rest.map fun v => v.category).sum ≤ W) (hdg : decode c.code g.pc = .ok (.invokestatic index, 3)) :
    ∃ (v : Option Value) (T' : State) (L : List Loc), Stand p l e R s m args below meth c T' (locs ++ L) (cells + rm.cells) (slots + rm.slots) ∧ Q v T'.heap L ∧ ∀ t, Steps p.tables e below (T'.setTop { g with pc := g.pc + 3, stack := v.toList ++ rest }) t → Steps p.tables e below (T.setTop g) t := by
  obtain ⟨v, _, ⟨T1, L1, k1, n1⟩, -, X1, ⟨Lc, hQ, l1, y1, z1⟩, st⟩ := Jvm.LawKit.callS X hx (y := y) hown (mvT hZ w1) (mvT hZ w2) (mvT hZ w3) (mvT hZ w4) hy (backOf (W := W) K hZ w4 w3 hf hl) (g := g) hg hsize (argsL := argsL) (rest := rest) hlen hstack hW hdg (fun _ _ => ⟨rfl, eT, hcl, hsl⟩)
  dsimp only [Pt.U, Pt.locs, Pt.cells, Pt.slots] at X1 l1 y1 z1 st hQ
  subst l1 y1 z1
  exact ⟨v, T1, Lc, X1, hQ, st⟩
/-! arrays: n places, place i holds f i -/
def ownA (Z : State) (h : Heap) (a : Addr) (ty : FieldType) (n : Nat) (f : Nat → Value) : Prop :=
  ∃ c : Cell, Arr Z h a c ty ∧ c.slots.size = n ∧ n < 2147483648 ∧ ∀ i, i < n → c.slots[i]? = some (f i) ∧ fits ty (f i) = true
def own_up (f : Nat → Value) (j : Nat) (v : Value) (i : Nat) : Value := if i = j then v else f i
theorem own_up_hit {f : Nat → Value} {j : Nat} {v : Value} : own_up f j v j = v := if_pos rfl
theorem own_up_miss {f : Nat → Value} {i j : Nat} {v : Value} (q : i ≠ j) : own_up f j v i = f i := if_neg q
theorem ownA.ext {a : Addr} {ty : FieldType} {n : Nat} {f : Nat → Value} (V : ownA Z h a ty n f) (E : Ext h h') : ownA Z h' a ty n f := by obtain ⟨c, A, r⟩ := V; exact ⟨c, A.ext E, r⟩
theorem ownA.other {a b : Addr} {ty : FieldType} {n sl : Nat} {v : Value} {f : Nat → Value} (V : ownA Z h a ty n f) (W : Wr h h' b sl v) (q : a ≠ b) : ownA Z h' a ty n f := by obtain ⟨c, A, r⟩ := V; exact ⟨c, A.other W q, r⟩
theorem ownA.keep {a : Addr} {ty : FieldType} {n : Nat} {ws : List Addr} {f : Nat → Value} (V : ownA Z h a ty n f) (K : Keep h h' ws) (q : a ∉ ws) : ownA Z h' a ty n f := by obtain ⟨c, A, r⟩ := V; exact ⟨c, ⟨K.2.1 a c A.1 q, A.2⟩, r⟩
theorem ownA.lt {a : Addr} {ty : FieldType} {n : Nat} {f : Nat → Value} (V : ownA Z h a ty n f) : a < h.size := by obtain ⟨c, A, r⟩ := V; exact A.lt
theorem ownA.eq {a : Addr} {ty : FieldType} {n : Nat} {f f' : Nat → Value} (V : ownA Z h a ty n f) (q : ∀ i, i < n → f i = f' i) : ownA Z h a ty n f' := by
  obtain ⟨c, A, r1, r2, r3⟩ := V
  exact ⟨c, A, r1, r2, fun i hi => by rw [← q i hi]; exact r3 i hi⟩
theorem own_n32 {n : Nat} (q : n < 2147483648) : (Int32.ofNat n).toNatClampNeg = n := by rw [Int32.toNatClampNeg, Int32.toInt_ofNat_of_lt q]; rfl
theorem own_nn {n : Nat} (q : n < 2147483648) : ¬ Int32.ofNat n < 0 := by
  rw [Int32.lt_iff_toInt_lt, Int32.toInt_ofNat_of_lt q, show (0 : Int32).toInt = 0 from rfl]; omega
theorem ownA.new {a : Addr} {k : ClassId} {ty : FieldType} {n : Nat} (A : Arr Z h a (newA k ty (Int32.ofNat n)) ty) (q : n < 2147483648) (d : fits ty (defaultValue ty) = true) : ownA Z h a ty n (fun _ => defaultValue ty) := by
  refine ⟨_, A, by rw [sz_new, own_n32 q], q, fun i hi => ⟨?_, d⟩⟩
  simp [newA, own_n32 q, hi]
theorem own_in {cl : Cell} {n i : Nat} {j : Int32} (S : cl.slots.size = n) (q : n < 2147483648) (hj : j = Int32.ofNat i) (hi : i < n) : ¬ (j < 0 ∨ cl.slots.size ≤ j.toNatClampNeg) := by
  subst hj
  rw [S, own_n32 (by omega)]
  exact fun z => z.elim (own_nn (by omega)) (fun z => by omega)
theorem own_iaload {a : Addr} {n i : Nat} {f : Nat → Value} {j v : Int32} (X : Stand p l e R s m args below meth c T locs cells slots) (hx : p.tables.exec = Jvm.exec) (hZ : Z.Warmed39 s.vm) (eT : T.heap = h) (V : ownA Z h a .int n f) (hj : j = Int32.ofNat i) (hi : i < n) (hv : f i = .int v)
    {g : JFrame} (hg : g.method = m) {rest : List Value} (hs : g.stack = .int j :: .ref a :: rest) (hd : decode c.code g.pc = .ok (.iaload, 1)) :
    ∀ t, Steps p.tables e below (T.setTop { g with pc := g.pc + 1, stack := .int v :: rest }) t → Steps p.tables e below (T.setTop g) t := by
  obtain ⟨cl, A, S, q, H⟩ := V
  have hat : cl.slots[j.toNatClampNeg]? = some (.int v) := by rw [hj, own_n32 (by omega), ← hv]; exact (H i hi).1
  exact X.iaload hx (j := j) (by rw [eT]; exact A.1) (State.isArrayOf_alike hZ.alike A.2.1) A.2.2 (own_in S q hj hi) hat hg hs hd
theorem own_laload {a : Addr} {n i : Nat} {f : Nat → Value} {j : Int32} {v : Int64} (X : Stand p l e R s m args below meth c T locs cells slots) (hx : p.tables.exec = Jvm.exec) (hZ : Z.Warmed39 s.vm) (eT : T.heap = h) (V : ownA Z h a .long n f) (hj : j = Int32.ofNat i) (hi : i < n) (hv : f i = .long v)
    {g : JFrame} (hg : g.method = m) {rest : List Value} (hs : g.stack = .int j :: .ref a :: rest) (hd : decode c.code g.pc = .ok (.laload, 1)) :
    ∀ t, Steps p.tables e below (T.setTop { g with pc := g.pc + 1, stack := .long v :: rest }) t → Steps p.tables e below (T.setTop g) t := by
  obtain ⟨cl, A, S, q, H⟩ := V
  have hat : cl.slots[j.toNatClampNeg]? = some (.long v) := by rw [hj, own_n32 (by omega), ← hv]; exact (H i hi).1
  exact X.laload hx (j := j) (by rw [eT]; exact A.1) (State.isArrayOf_alike hZ.alike A.2.1) A.2.2 (own_in S q hj hi) hat hg hs hd
theorem own_baload {a : Addr} {n i : Nat} {f : Nat → Value} {j v : Int32} (X : Stand p l e R s m args below meth c T locs cells slots) (hx : p.tables.exec = Jvm.exec) (hZ : Z.Warmed39 s.vm) (eT : T.heap = h) (V : ownA Z h a .byte n f) (hj : j = Int32.ofNat i) (hi : i < n) (hv : f i = .int v)
    {g : JFrame} (hg : g.method = m) {rest : List Value} (hs : g.stack = .int j :: .ref a :: rest) (hd : decode c.code g.pc = .ok (.baload, 1)) :
    ∀ t, Steps p.tables e below (T.setTop { g with pc := g.pc + 1, stack := .int v :: rest }) t → Steps p.tables e below (T.setTop g) t := by
  obtain ⟨cl, A, S, q, H⟩ := V
  have hat : cl.slots[j.toNatClampNeg]? = some (.int v) := by rw [hj, own_n32 (by omega), ← hv]; exact (H i hi).1
  exact X.baloadBytes hx (j := j) (by rw [eT]; exact A.1) (State.isArrayOf_alike hZ.alike A.2.1) A.2.2 (own_in S q hj hi) hat hg hs hd
theorem own_alen {a : Addr} {ty : FieldType} {n : Nat} {f : Nat → Value} (X : Stand p l e R s m args below meth c T locs cells slots) (hx : p.tables.exec = Jvm.exec) (hZ : Z.Warmed39 s.vm) (eT : T.heap = h) (V : ownA Z h a ty n f)
    {g : JFrame} (hg : g.method = m) {rest : List Value} (hs : g.stack = .ref a :: rest) (hd : decode c.code g.pc = .ok (.arraylength, 1)) :
    ∀ t, Steps p.tables e below (T.setTop { g with pc := g.pc + 1, stack := .int (Int32.ofNat n) :: rest }) t → Steps p.tables e below (T.setTop g) t := by
  obtain ⟨cl, A, S, q, H⟩ := V
  intro t k
  refine X.arraylength hx (cell := cl) (by rw [eT]; exact A.1) (State.isArrayOf_alike hZ.alike A.2.1) hg hs hd t ?_
  rw [S]; exact k
theorem ownA.put {a : Addr} {ty : FieldType} {n i : Nat} {f : Nat → Value} {v : Value} (V : ownA Z h a ty n f) (W : Wr h h' a i v) (hv : fits ty v = true) : ownA Z h' a ty n (own_up f i v) := by
  obtain ⟨cl, A, S, q, H⟩ := V
  refine ⟨_, A.same W, by rw [sz_set]; exact S, q, fun k hk => ?_⟩
  by_cases z : k = i
  · subst z
    rw [own_up_hit]
    exact ⟨by simp [Cell.setSlot, S, hk], hv⟩
  · rw [own_up_miss z]
    refine ⟨?_, (H k hk).2⟩
    rw [← (H k hk).1]
    exact Array.getElem?_setIfInBounds_ne (Ne.symm z)
theorem own_iastore {a : Addr} {n i : Nat} {f : Nat → Value} {j x : Int32} (X : Stand p l e R s m args below meth c T locs cells slots) (hx : p.tables.exec = Jvm.exec) (hZ : Z.Warmed39 s.vm) (eT : T.heap = h) (V : ownA Z h a .int n f) (hj : j = Int32.ofNat i) (hi : i < n)
    {g : JFrame} (hg : g.method = m) {rest : List Value} (hs : g.stack = .int x :: .int j :: .ref a :: rest) (hd : decode c.code g.pc = .ok (.iastore, 1)) :
    ∃ T' h', Stand p l e R s m args below meth c T' (locs ++ [⟨a, i⟩]) cells slots ∧ T'.heap = h' ∧ Wr h h' a i (.int x) ∧ ownA Z h' a .int n (own_up f i (.int x)) ∧ ∀ t, Steps p.tables e below (T'.setTop { g with pc := g.pc + 1, stack := rest }) t → Steps p.tables e below (T.setTop g) t := by
  have V0 := V
  obtain ⟨cl, A, S, q, H⟩ := V
  obtain ⟨T', h', X', e', W', st⟩ := stI X hx hZ eT A (j := j) (own_in S q hj hi) hg hs hd
  have ej : j.toNatClampNeg = i := by rw [hj]; exact own_n32 (by omega)
  rw [ej] at X' W'
  exact ⟨T', h', X', e', W', V0.put W' rfl, st⟩
theorem own_lastore {a : Addr} {n i : Nat} {f : Nat → Value} {j : Int32} {x : Int64} (X : Stand p l e R s m args below meth c T locs cells slots) (hx : p.tables.exec = Jvm.exec) (hZ : Z.Warmed39 s.vm) (eT : T.heap = h) (V : ownA Z h a .long n f) (hj : j = Int32.ofNat i) (hi : i < n)
    {g : JFrame} (hg : g.method = m) {rest : List Value} (hs : g.stack = .long x :: .int j :: .ref a :: rest) (hd : decode c.code g.pc = .ok (.lastore, 1)) :
    ∃ T' h', Stand p l e R s m args below meth c T' (locs ++ [⟨a, i⟩]) cells slots ∧ T'.heap = h' ∧ Wr h h' a i (.long x) ∧ ownA Z h' a .long n (own_up f i (.long x)) ∧ ∀ t, Steps p.tables e below (T'.setTop { g with pc := g.pc + 1, stack := rest }) t → Steps p.tables e below (T.setTop g) t := by
  have V0 := V
  obtain ⟨cl, A, S, q, H⟩ := V
  obtain ⟨T', h', X', e', W', st⟩ := stJ X hx hZ eT A (j := j) (own_in S q hj hi) hg hs hd
  have ej : j.toNatClampNeg = i := by rw [hj]; exact own_n32 (by omega)
  rw [ej] at X' W'
  exact ⟨T', h', X', e', W', V0.put W' rfl, st⟩
theorem own_bastore {a : Addr} {n i : Nat} {f : Nat → Value} {j x : Int32} (X : Stand p l e R s m args below meth c T locs cells slots) (hx : p.tables.exec = Jvm.exec) (hZ : Z.Warmed39 s.vm) (eT : T.heap = h) (V : ownA Z h a .byte n f) (hj : j = Int32.ofNat i) (hi : i < n)
    {g : JFrame} (hg : g.method = m) {rest : List Value} (hs : g.stack = .int x :: .int j :: .ref a :: rest) (hd : decode c.code g.pc = .ok (.bastore, 1)) :
    ∃ T' h', Stand p l e R s m args below meth c T' (locs ++ [⟨a, i⟩]) cells slots ∧ T'.heap = h' ∧ Wr h h' a i (.int x.toInt8.toInt32) ∧ ownA Z h' a .byte n (own_up f i (.int x.toInt8.toInt32)) ∧ ∀ t, Steps p.tables e below (T'.setTop { g with pc := g.pc + 1, stack := rest }) t → Steps p.tables e below (T.setTop g) t := by
  have V0 := V
  obtain ⟨cl, A, S, q, H⟩ := V
  obtain ⟨T', h', X', e', W', st⟩ := stB X hx hZ eT A (j := j) (own_in S q hj hi) hg hs hd
  have ej : j.toNatClampNeg = i := by rw [hj]; exact own_n32 (by omega)
  rw [ej] at X' W'
  exact ⟨T', h', X', e', W', V0.put W' (fits_nar_byte _), st⟩
/-- newarray of n places, at most cap -/
theorem own_newarray {aty : ArrayType} (X : Stand p l e R s m args below meth c T locs cells slots) (hx : p.tables.exec = Jvm.exec) (hZ : Z.Warmed39 s.vm) (w : (Jvm.Cond.arrayClass (newarray.typeOf aty)).before a0 Z = true) (eT : T.heap = h) (n : Nat) (cap : Nat) (hn : n ≤ cap) (hb : cap * 8 ≤ 536870912) (hc : cells + 1 ≤ R.cells) (hl : slots + cap ≤ R.slots) {ad : String} (had : "[" ++ (newarray.typeOf aty).toString = ad) (d : fits (newarray.typeOf aty) (defaultValue (newarray.typeOf aty)) = true)
    {z : Int32} (hz : z = Int32.ofNat n) {g : JFrame} (hg : g.method = m) (hd : decode c.code g.pc = .ok (.newarray aty, 2)) {rest : List Value} (hs : g.stack = .int z :: rest) :
    ∃ T' h' b, Stand p l e R s m args below meth c T' locs (cells + 1) (slots + cap) ∧ T'.heap = h' ∧ Ext h h' ∧ ownA Z h' b (newarray.typeOf aty) n (fun _ => defaultValue (newarray.typeOf aty)) ∧ Exa Z h' b ad ∧ b = h.size ∧
      ∀ t, Steps p.tables e below (T'.setTop { g with pc := g.pc + 2, stack := .ref b :: rest }) t → Steps p.tables e below (T.setTop g) t := by
  have hn' : n < 2147483648 := by omega
  subst hz
  obtain ⟨T', h', k, X', e', E, A, Ex, st⟩ := newPE X hx hZ w eT hg hd hs (own_nn hn') (by rw [own_n32 hn']; exact hn) hb hc hl had
  exact ⟨T', h', _, X', e', E, ownA.new A hn' d, Ex, rfl, st⟩
end Core
theorem ownA.int {Z : State} {h : Heap} {a : Addr} {n i : Nat} {f : Nat → Value} (V : ownA Z h a .int n f) (hi : i < n) : ∃ v : Int32, f i = .int v := by
  obtain ⟨c, A, S, q, H⟩ := V
  have q := (H i hi).2
  generalize f i = w at q
  cases w <;> first | exact ⟨_, rfl⟩ | simp [fits] at q
theorem own_idx (j : Int32) (n : Nat) (q0 : 0 ≤ j.toInt) (q1 : j.toInt < n) : ∃ i, i < n ∧ j = Int32.ofNat i := by
  have q2 := j.toInt_lt
  refine ⟨j.toInt.toNat, by omega, ?_⟩
  apply Int32.toInt_inj.mp
  rw [Int32.toInt_ofNat_of_lt (by omega)]
  omega
theorem own_ltn {i n : Nat} (q : i < n) (hn : n < 2147483648) : Int32.ofNat i < Int32.ofNat n := by
  rw [Int32.lt_iff_toInt_lt, Int32.toInt_ofNat_of_lt (by omega), Int32.toInt_ofNat_of_lt hn]
  omega
theorem d1_0 : decode prog_405_method_8_code 0 = .ok (.iload_n 0, 1) := by decide +kernel
theorem d1_1 : decode prog_405_method_8_code 1 = .ok (.bipush 97, 2) := by decide +kernel
theorem d1_3 : decode prog_405_method_8_code 3 = .ok (.if_icmp .lt 9, 3) := by decide +kernel
theorem d1_6 : decode prog_405_method_8_code 6 = .ok (.iload_n 0, 1) := by decide +kernel
theorem d1_7 : decode prog_405_method_8_code 7 = .ok (.bipush 122, 2) := by decide +kernel
theorem d1_9 : decode prog_405_method_8_code 9 = .ok (.if_icmp .le 182, 3) := by decide +kernel
theorem d1_12 : decode prog_405_method_8_code 12 = .ok (.iload_n 0, 1) := by decide +kernel
theorem d1_13 : decode prog_405_method_8_code 13 = .ok (.bipush 65, 2) := by decide +kernel
theorem d1_15 : decode prog_405_method_8_code 15 = .ok (.if_icmp .lt 9, 3) := by decide +kernel
theorem d1_18 : decode prog_405_method_8_code 18 = .ok (.iload_n 0, 1) := by decide +kernel
theorem d1_19 : decode prog_405_method_8_code 19 = .ok (.bipush 90, 2) := by decide +kernel
theorem d1_21 : decode prog_405_method_8_code 21 = .ok (.if_icmp .le 170, 3) := by decide +kernel
theorem d1_24 : decode prog_405_method_8_code 24 = .ok (.iload_n 0, 1) := by decide +kernel
theorem d1_25 : decode prog_405_method_8_code 25 = .ok (.bipush 95, 2) := by decide +kernel
theorem d1_27 : decode prog_405_method_8_code 27 = .ok (.if_icmp .eq 164, 3) := by decide +kernel
theorem d1_30 : decode prog_405_method_8_code 30 = .ok (.iload_n 0, 1) := by decide +kernel
theorem d1_31 : decode prog_405_method_8_code 31 = .ok (.sipush 192, 3) := by decide +kernel
theorem d1_34 : decode prog_405_method_8_code 34 = .ok (.if_icmp .lt 10, 3) := by decide +kernel
theorem d1_37 : decode prog_405_method_8_code 37 = .ok (.iload_n 0, 1) := by decide +kernel
theorem d1_38 : decode prog_405_method_8_code 38 = .ok (.sipush 214, 3) := by decide +kernel
theorem d1_41 : decode prog_405_method_8_code 41 = .ok (.if_icmp .le 150, 3) := by decide +kernel
theorem d1_44 : decode prog_405_method_8_code 44 = .ok (.iload_n 0, 1) := by decide +kernel
theorem d1_45 : decode prog_405_method_8_code 45 = .ok (.sipush 216, 3) := by decide +kernel
theorem d1_48 : decode prog_405_method_8_code 48 = .ok (.if_icmp .lt 10, 3) := by decide +kernel
theorem d1_51 : decode prog_405_method_8_code 51 = .ok (.iload_n 0, 1) := by decide +kernel
theorem d1_52 : decode prog_405_method_8_code 52 = .ok (.sipush 246, 3) := by decide +kernel
theorem d1_55 : decode prog_405_method_8_code 55 = .ok (.if_icmp .le 136, 3) := by decide +kernel
theorem d1_58 : decode prog_405_method_8_code 58 = .ok (.iload_n 0, 1) := by decide +kernel
theorem d1_59 : decode prog_405_method_8_code 59 = .ok (.sipush 248, 3) := by decide +kernel
theorem d1_62 : decode prog_405_method_8_code 62 = .ok (.if_icmp .lt 10, 3) := by decide +kernel
theorem d1_65 : decode prog_405_method_8_code 65 = .ok (.iload_n 0, 1) := by decide +kernel
theorem d1_66 : decode prog_405_method_8_code 66 = .ok (.sipush 767, 3) := by decide +kernel
theorem d1_69 : decode prog_405_method_8_code 69 = .ok (.if_icmp .le 122, 3) := by decide +kernel
theorem d1_72 : decode prog_405_method_8_code 72 = .ok (.iload_n 0, 1) := by decide +kernel
theorem d1_73 : decode prog_405_method_8_code 73 = .ok (.sipush 880, 3) := by decide +kernel
theorem d1_76 : decode prog_405_method_8_code 76 = .ok (.if_icmp .lt 10, 3) := by decide +kernel
theorem d1_79 : decode prog_405_method_8_code 79 = .ok (.iload_n 0, 1) := by decide +kernel
theorem d1_80 : decode prog_405_method_8_code 80 = .ok (.sipush 893, 3) := by decide +kernel
theorem d1_83 : decode prog_405_method_8_code 83 = .ok (.if_icmp .le 108, 3) := by decide +kernel
theorem d1_86 : decode prog_405_method_8_code 86 = .ok (.iload_n 0, 1) := by decide +kernel
theorem d1_87 : decode prog_405_method_8_code 87 = .ok (.sipush 895, 3) := by decide +kernel
theorem d1_90 : decode prog_405_method_8_code 90 = .ok (.if_icmp .lt 10, 3) := by decide +kernel
theorem d1_93 : decode prog_405_method_8_code 93 = .ok (.iload_n 0, 1) := by decide +kernel
theorem d1_94 : decode prog_405_method_8_code 94 = .ok (.sipush 8191, 3) := by decide +kernel
theorem d1_97 : decode prog_405_method_8_code 97 = .ok (.if_icmp .le 94, 3) := by decide +kernel
theorem d1_100 : decode prog_405_method_8_code 100 = .ok (.iload_n 0, 1) := by decide +kernel
theorem d1_101 : decode prog_405_method_8_code 101 = .ok (.sipush 8204, 3) := by decide +kernel
theorem d1_104 : decode prog_405_method_8_code 104 = .ok (.if_icmp .lt 10, 3) := by decide +kernel
theorem d1_107 : decode prog_405_method_8_code 107 = .ok (.iload_n 0, 1) := by decide +kernel
theorem d1_108 : decode prog_405_method_8_code 108 = .ok (.sipush 8205, 3) := by decide +kernel
theorem d1_111 : decode prog_405_method_8_code 111 = .ok (.if_icmp .le 80, 3) := by decide +kernel
theorem d1_114 : decode prog_405_method_8_code 114 = .ok (.iload_n 0, 1) := by decide +kernel
theorem d1_115 : decode prog_405_method_8_code 115 = .ok (.sipush 8304, 3) := by decide +kernel
theorem d1_118 : decode prog_405_method_8_code 118 = .ok (.if_icmp .lt 10, 3) := by decide +kernel
theorem d1_121 : decode prog_405_method_8_code 121 = .ok (.iload_n 0, 1) := by decide +kernel
theorem d1_122 : decode prog_405_method_8_code 122 = .ok (.sipush 8591, 3) := by decide +kernel
theorem d1_125 : decode prog_405_method_8_code 125 = .ok (.if_icmp .le 66, 3) := by decide +kernel
theorem d1_128 : decode prog_405_method_8_code 128 = .ok (.iload_n 0, 1) := by decide +kernel
theorem d1_129 : decode prog_405_method_8_code 129 = .ok (.sipush 11264, 3) := by decide +kernel
theorem d1_132 : decode prog_405_method_8_code 132 = .ok (.if_icmp .lt 10, 3) := by decide +kernel
theorem d1_135 : decode prog_405_method_8_code 135 = .ok (.iload_n 0, 1) := by decide +kernel
theorem d1_136 : decode prog_405_method_8_code 136 = .ok (.sipush 12271, 3) := by decide +kernel
theorem d1_139 : decode prog_405_method_8_code 139 = .ok (.if_icmp .le 52, 3) := by decide +kernel
theorem d1_142 : decode prog_405_method_8_code 142 = .ok (.iload_n 0, 1) := by decide +kernel
theorem d1_143 : decode prog_405_method_8_code 143 = .ok (.sipush 12289, 3) := by decide +kernel
theorem d1_146 : decode prog_405_method_8_code 146 = .ok (.if_icmp .lt 9, 3) := by decide +kernel
theorem d1_149 : decode prog_405_method_8_code 149 = .ok (.iload_n 0, 1) := by decide +kernel
theorem d1_150 : decode prog_405_method_8_code 150 = .ok (.ldc 25, 2) := by decide +kernel
theorem d1_152 : decode prog_405_method_8_code 152 = .ok (.if_icmp .le 39, 3) := by decide +kernel
theorem d1_155 : decode prog_405_method_8_code 155 = .ok (.iload_n 0, 1) := by decide +kernel
theorem d1_156 : decode prog_405_method_8_code 156 = .ok (.ldc 76, 2) := by decide +kernel
theorem d1_158 : decode prog_405_method_8_code 158 = .ok (.if_icmp .lt 9, 3) := by decide +kernel
theorem d1_161 : decode prog_405_method_8_code 161 = .ok (.iload_n 0, 1) := by decide +kernel
theorem d1_162 : decode prog_405_method_8_code 162 = .ok (.ldc 77, 2) := by decide +kernel
theorem d1_164 : decode prog_405_method_8_code 164 = .ok (.if_icmp .le 27, 3) := by decide +kernel
theorem d1_167 : decode prog_405_method_8_code 167 = .ok (.iload_n 0, 1) := by decide +kernel
theorem d1_168 : decode prog_405_method_8_code 168 = .ok (.ldc 78, 2) := by decide +kernel
theorem d1_170 : decode prog_405_method_8_code 170 = .ok (.if_icmp .lt 9, 3) := by decide +kernel
theorem d1_173 : decode prog_405_method_8_code 173 = .ok (.iload_n 0, 1) := by decide +kernel
theorem d1_174 : decode prog_405_method_8_code 174 = .ok (.ldc 27, 2) := by decide +kernel
theorem d1_176 : decode prog_405_method_8_code 176 = .ok (.if_icmp .le 15, 3) := by decide +kernel
theorem d1_179 : decode prog_405_method_8_code 179 = .ok (.iload_n 0, 1) := by decide +kernel
theorem d1_180 : decode prog_405_method_8_code 180 = .ok (.ldc 28, 2) := by decide +kernel
theorem d1_182 : decode prog_405_method_8_code 182 = .ok (.if_icmp .lt 13, 3) := by decide +kernel
theorem d1_185 : decode prog_405_method_8_code 185 = .ok (.iload_n 0, 1) := by decide +kernel
theorem d1_186 : decode prog_405_method_8_code 186 = .ok (.ldc 79, 2) := by decide +kernel
theorem d1_188 : decode prog_405_method_8_code 188 = .ok (.if_icmp .gt 7, 3) := by decide +kernel
theorem d1_191 : decode prog_405_method_8_code 191 = .ok (.iconst 1, 1) := by decide +kernel
theorem d1_192 : decode prog_405_method_8_code 192 = .ok (.goto 4, 3) := by decide +kernel
theorem d1_195 : decode prog_405_method_8_code 195 = .ok (.iconst 0, 1) := by decide +kernel
theorem d1_196 : decode prog_405_method_8_code 196 = .ok (.ireturn, 1) := by decide +kernel
abbrev R1 : Room := { frames := 0, cells := 0, slots := 0, locals := 0 }
def f1_191 (x0 : Int32) : Int32 := (1 : Int32)
set_option maxRecDepth 65536 in
set_option maxHeartbeats 40000000 in
theorem b1_191 {p : Program} {l : Launch} {e : Env} {s : State} {m : MethodId} {args : Array Value} {below : List Frame} {meth : Method} {c : Code} {T0 : State} {locs : List Loc} {Z : State} {a0 : Array Value} {h0 : Heap} {n0 : Nat} (hx : p.tables.exec = Jvm.exec) (hZ : Z.Warmed39 s.vm) (hw : ∀ d ∈ tables_1, d.before a0 Z = true) (hby : c.code = prog_405_method_8_code) (hml : c.maxLocals = 1) (hown : s.vm.findClass "com/example/lexipath/lexipath/xml/XmlNames" = some m.cls) (hret : meth.sig.returnType = (some .boolean)) (hlk : meth.locks = false) (X0 : Stand p l e R1 s m args below meth c T0 locs 0 0) (e0 : T0.heap = h0) (N0 : Fr n0 locs) (x0 : Int32) (r : Int32) (hr : r = f1_191 x0) :
    ownGo p.tables e below T0 (mkF m 191 #[.val (.int x0)] []) (ownDone s (ownPure (.int r) h0 n0) 0 0) := by
  have hr0 : r = (1 : Int32) := hr
  refine ownGo.st (fun _ k => XS.iconst X0.here hx rfl (hb hby d1_191)  k) ?_
  show ownGo p.tables e below T0 (mkF m 192 #[.val (.int x0)] [(.int (1 : Int32))]) _
  refine ownGo.st (fun _ k => XS.goto X0.here hx rfl (pc0 := 192) (pc' := 196) rfl (hb hby d1_192) (by decide) (by decide) k) ?_
  show ownGo p.tables e below T0 (mkF m 196 #[.val (.int x0)] [(.int (1 : Int32))]) _
  exact own_retZ X0 hx hlk hret (hb hby d1_196) (by first | exact Or.inl rfl | exact Or.inr rfl) ⟨congrArg (fun z => some (Value.int z)) hr0.symm, N0, e0⟩ (Nat.le_refl _) (Nat.le_refl _)
def f1_195 (x0 : Int32) : Int32 := (0 : Int32)
set_option maxRecDepth 65536 in
set_option maxHeartbeats 40000000 in
theorem b1_195 {p : Program} {l : Launch} {e : Env} {s : State} {m : MethodId} {args : Array Value} {below : List Frame} {meth : Method} {c : Code} {T0 : State} {locs : List Loc} {Z : State} {a0 : Array Value} {h0 : Heap} {n0 : Nat} (hx : p.tables.exec = Jvm.exec) (hZ : Z.Warmed39 s.vm) (hw : ∀ d ∈ tables_1, d.before a0 Z = true) (hby : c.code = prog_405_method_8_code) (hml : c.maxLocals = 1) (hown : s.vm.findClass "com/example/lexipath/lexipath/xml/XmlNames" = some m.cls) (hret : meth.sig.returnType = (some .boolean)) (hlk : meth.locks = false) (X0 : Stand p l e R1 s m args below meth c T0 locs 0 0) (e0 : T0.heap = h0) (N0 : Fr n0 locs) (x0 : Int32) (r : Int32) (hr : r = f1_195 x0) :
    ownGo p.tables e below T0 (mkF m 195 #[.val (.int x0)] []) (ownDone s (ownPure (.int r) h0 n0) 0 0) := by
  have hr0 : r = (0 : Int32) := hr
  refine ownGo.st (fun _ k => XS.iconst X0.here hx rfl (hb hby d1_195)  k) ?_
  show ownGo p.tables e below T0 (mkF m 196 #[.val (.int x0)] [(.int (0 : Int32))]) _
  exact own_retZ X0 hx hlk hret (hb hby d1_196) (by first | exact Or.inl rfl | exact Or.inr rfl) ⟨congrArg (fun z => some (Value.int z)) hr0.symm, N0, e0⟩ (Nat.le_refl _) (Nat.le_refl _)
def f1_179 (x0 : Int32) : Int32 := (if x0 < (65536 : Int32) then (f1_195 x0) else (if (983039 : Int32) < x0 then (f1_195 x0) else (f1_191 x0)))
set_option maxRecDepth 65536 in
set_option maxHeartbeats 40000000 in
theorem b1_179 {p : Program} {l : Launch} {e : Env} {s : State} {m : MethodId} {args : Array Value} {below : List Frame} {meth : Method} {c : Code} {T0 : State} {locs : List Loc} {Z : State} {a0 : Array Value} {h0 : Heap} {n0 : Nat} (hx : p.tables.exec = Jvm.exec) (hZ : Z.Warmed39 s.vm) (hw : ∀ d ∈ tables_1, d.before a0 Z = true) (hby : c.code = prog_405_method_8_code) (hml : c.maxLocals = 1) (hown : s.vm.findClass "com/example/lexipath/lexipath/xml/XmlNames" = some m.cls) (hret : meth.sig.returnType = (some .boolean)) (hlk : meth.locks = false) (X0 : Stand p l e R1 s m args below meth c T0 locs 0 0) (e0 : T0.heap = h0) (N0 : Fr n0 locs) (x0 : Int32) (r : Int32) (hr : r = f1_179 x0) :
    ownGo p.tables e below T0 (mkF m 179 #[.val (.int x0)] []) (ownDone s (ownPure (.int r) h0 n0) 0 0) := by
  have hr0 : r = (if x0 < (65536 : Int32) then (f1_195 x0) else (if (983039 : Int32) < x0 then (f1_195 x0) else (f1_191 x0))) := hr
  refine ownGo.st (fun _ k => XS.iloadN X0.here hx rfl (hb hby d1_179) rfl k) ?_
  show ownGo p.tables e below T0 (mkF m 180 #[.val (.int x0)] [(.int x0)]) _
  refine ownGo.st (X0.ldcInt hx hown (mvT hZ (own_at hw 16 rfl)) (g := (mkF m 180 #[.val (.int x0)] [(.int x0)])) rfl (hb hby d1_180)) ?_
  show ownGo p.tables e below T0 (mkF m 182 #[.val (.int x0)] [(.int (65536 : Int32)), (.int x0)]) _
  by_cases hc182 : x0 < (65536 : Int32)
  · have hr15 := hr0.trans (if_pos hc182)
    refine ownGo.st (fun _ k => XS.icmpYes X0.here hx rfl (pc0 := 182) (pc' := 195) rfl (hb hby d1_182) rfl (tlt hc182).1 (by decide) (by decide) k) ?_
    show ownGo p.tables e below T0 (mkF m 195 #[.val (.int x0)] []) _
    exact b1_195 hx hZ hw hby hml hown hret hlk X0 e0 N0 x0 r hr15
  · have hr15 := hr0.trans (if_neg hc182)
    refine ownGo.st (fun _ k => XS.icmpNo X0.here hx rfl (hb hby d1_182) rfl (flt hc182).1 k) ?_
    show ownGo p.tables e below T0 (mkF m 185 #[.val (.int x0)] []) _
    refine ownGo.st (fun _ k => XS.iloadN X0.here hx rfl (hb hby d1_185) rfl k) ?_
    show ownGo p.tables e below T0 (mkF m 186 #[.val (.int x0)] [(.int x0)]) _
    refine ownGo.st (X0.ldcInt hx hown (mvT hZ (own_at hw 28 rfl)) (g := (mkF m 186 #[.val (.int x0)] [(.int x0)])) rfl (hb hby d1_186)) ?_
    show ownGo p.tables e below T0 (mkF m 188 #[.val (.int x0)] [(.int (983039 : Int32)), (.int x0)]) _
    by_cases hc188 : (983039 : Int32) < x0
    · have hr16 := hr15.trans (if_pos hc188)
      refine ownGo.st (fun _ k => XS.icmpYes X0.here hx rfl (pc0 := 188) (pc' := 195) rfl (hb hby d1_188) rfl (tlt hc188).2.2.1 (by decide) (by decide) k) ?_
      show ownGo p.tables e below T0 (mkF m 195 #[.val (.int x0)] []) _
      exact b1_195 hx hZ hw hby hml hown hret hlk X0 e0 N0 x0 r hr16
    · have hr16 := hr15.trans (if_neg hc188)
      refine ownGo.st (fun _ k => XS.icmpNo X0.here hx rfl (hb hby d1_188) rfl (flt hc188).2.2.1 k) ?_
      show ownGo p.tables e below T0 (mkF m 191 #[.val (.int x0)] []) _
      exact b1_191 hx hZ hw hby hml hown hret hlk X0 e0 N0 x0 r hr16
def f1_167 (x0 : Int32) : Int32 := (if x0 < (65008 : Int32) then (f1_179 x0) else (if (65533 : Int32) < x0 then (f1_179 x0) else (f1_191 x0)))
set_option maxRecDepth 65536 in
set_option maxHeartbeats 40000000 in
theorem b1_167 {p : Program} {l : Launch} {e : Env} {s : State} {m : MethodId} {args : Array Value} {below : List Frame} {meth : Method} {c : Code} {T0 : State} {locs : List Loc} {Z : State} {a0 : Array Value} {h0 : Heap} {n0 : Nat} (hx : p.tables.exec = Jvm.exec) (hZ : Z.Warmed39 s.vm) (hw : ∀ d ∈ tables_1, d.before a0 Z = true) (hby : c.code = prog_405_method_8_code) (hml : c.maxLocals = 1) (hown : s.vm.findClass "com/example/lexipath/lexipath/xml/XmlNames" = some m.cls) (hret : meth.sig.returnType = (some .boolean)) (hlk : meth.locks = false) (X0 : Stand p l e R1 s m args below meth c T0 locs 0 0) (e0 : T0.heap = h0) (N0 : Fr n0 locs) (x0 : Int32) (r : Int32) (hr : r = f1_167 x0) :
    ownGo p.tables e below T0 (mkF m 167 #[.val (.int x0)] []) (ownDone s (ownPure (.int r) h0 n0) 0 0) := by
  have hr0 : r = (if x0 < (65008 : Int32) then (f1_179 x0) else (if (65533 : Int32) < x0 then (f1_179 x0) else (f1_191 x0))) := hr
  refine ownGo.st (fun _ k => XS.iloadN X0.here hx rfl (hb hby d1_167) rfl k) ?_
  show ownGo p.tables e below T0 (mkF m 168 #[.val (.int x0)] [(.int x0)]) _
  refine ownGo.st (X0.ldcInt hx hown (mvT hZ (own_at hw 15 rfl)) (g := (mkF m 168 #[.val (.int x0)] [(.int x0)])) rfl (hb hby d1_168)) ?_
  show ownGo p.tables e below T0 (mkF m 170 #[.val (.int x0)] [(.int (65008 : Int32)), (.int x0)]) _
  by_cases hc170 : x0 < (65008 : Int32)
  · have hr14 := hr0.trans (if_pos hc170)
    refine ownGo.st (fun _ k => XS.icmpYes X0.here hx rfl (pc0 := 170) (pc' := 179) rfl (hb hby d1_170) rfl (tlt hc170).1 (by decide) (by decide) k) ?_
    show ownGo p.tables e below T0 (mkF m 179 #[.val (.int x0)] []) _
    exact b1_179 hx hZ hw hby hml hown hret hlk X0 e0 N0 x0 r hr14
  · have hr14 := hr0.trans (if_neg hc170)
    refine ownGo.st (fun _ k => XS.icmpNo X0.here hx rfl (hb hby d1_170) rfl (flt hc170).1 k) ?_
    show ownGo p.tables e below T0 (mkF m 173 #[.val (.int x0)] []) _
    refine ownGo.st (fun _ k => XS.iloadN X0.here hx rfl (hb hby d1_173) rfl k) ?_
    show ownGo p.tables e below T0 (mkF m 174 #[.val (.int x0)] [(.int x0)]) _
    refine ownGo.st (X0.ldcInt hx hown (mvT hZ (own_at hw 24 rfl)) (g := (mkF m 174 #[.val (.int x0)] [(.int x0)])) rfl (hb hby d1_174)) ?_
    show ownGo p.tables e below T0 (mkF m 176 #[.val (.int x0)] [(.int (65533 : Int32)), (.int x0)]) _
    by_cases hc176 : (65533 : Int32) < x0
    · have hr17 := hr14.trans (if_pos hc176)
      refine ownGo.st (fun _ k => XS.icmpNo X0.here hx rfl (hb hby d1_176) rfl (tlt hc176).2.2.2 k) ?_
      show ownGo p.tables e below T0 (mkF m 179 #[.val (.int x0)] []) _
      exact b1_179 hx hZ hw hby hml hown hret hlk X0 e0 N0 x0 r hr17
    · have hr17 := hr14.trans (if_neg hc176)
      refine ownGo.st (fun _ k => XS.icmpYes X0.here hx rfl (pc0 := 176) (pc' := 191) rfl (hb hby d1_176) rfl (flt hc176).2.2.2 (by decide) (by decide) k) ?_
      show ownGo p.tables e below T0 (mkF m 191 #[.val (.int x0)] []) _
      exact b1_191 hx hZ hw hby hml hown hret hlk X0 e0 N0 x0 r hr17
def f1_155 (x0 : Int32) : Int32 := (if x0 < (63744 : Int32) then (f1_167 x0) else (if (64975 : Int32) < x0 then (f1_167 x0) else (f1_191 x0)))
set_option maxRecDepth 65536 in
set_option maxHeartbeats 40000000 in
theorem b1_155 {p : Program} {l : Launch} {e : Env} {s : State} {m : MethodId} {args : Array Value} {below : List Frame} {meth : Method} {c : Code} {T0 : State} {locs : List Loc} {Z : State} {a0 : Array Value} {h0 : Heap} {n0 : Nat} (hx : p.tables.exec = Jvm.exec) (hZ : Z.Warmed39 s.vm) (hw : ∀ d ∈ tables_1, d.before a0 Z = true) (hby : c.code = prog_405_method_8_code) (hml : c.maxLocals = 1) (hown : s.vm.findClass "com/example/lexipath/lexipath/xml/XmlNames" = some m.cls) (hret : meth.sig.returnType = (some .boolean)) (hlk : meth.locks = false) (X0 : Stand p l e R1 s m args below meth c T0 locs 0 0) (e0 : T0.heap = h0) (N0 : Fr n0 locs) (x0 : Int32) (r : Int32) (hr : r = f1_155 x0) :
    ownGo p.tables e below T0 (mkF m 155 #[.val (.int x0)] []) (ownDone s (ownPure (.int r) h0 n0) 0 0) := by
  have hr0 : r = (if x0 < (63744 : Int32) then (f1_167 x0) else (if (64975 : Int32) < x0 then (f1_167 x0) else (f1_191 x0))) := hr
  refine ownGo.st (fun _ k => XS.iloadN X0.here hx rfl (hb hby d1_155) rfl k) ?_
  show ownGo p.tables e below T0 (mkF m 156 #[.val (.int x0)] [(.int x0)]) _
  refine ownGo.st (X0.ldcInt hx hown (mvT hZ (own_at hw 14 rfl)) (g := (mkF m 156 #[.val (.int x0)] [(.int x0)])) rfl (hb hby d1_156)) ?_
  show ownGo p.tables e below T0 (mkF m 158 #[.val (.int x0)] [(.int (63744 : Int32)), (.int x0)]) _
  by_cases hc158 : x0 < (63744 : Int32)
  · have hr13 := hr0.trans (if_pos hc158)
    refine ownGo.st (fun _ k => XS.icmpYes X0.here hx rfl (pc0 := 158) (pc' := 167) rfl (hb hby d1_158) rfl (tlt hc158).1 (by decide) (by decide) k) ?_
    show ownGo p.tables e below T0 (mkF m 167 #[.val (.int x0)] []) _
    exact b1_167 hx hZ hw hby hml hown hret hlk X0 e0 N0 x0 r hr13
  · have hr13 := hr0.trans (if_neg hc158)
    refine ownGo.st (fun _ k => XS.icmpNo X0.here hx rfl (hb hby d1_158) rfl (flt hc158).1 k) ?_
    show ownGo p.tables e below T0 (mkF m 161 #[.val (.int x0)] []) _
    refine ownGo.st (fun _ k => XS.iloadN X0.here hx rfl (hb hby d1_161) rfl k) ?_
    show ownGo p.tables e below T0 (mkF m 162 #[.val (.int x0)] [(.int x0)]) _
    refine ownGo.st (X0.ldcInt hx hown (mvT hZ (own_at hw 23 rfl)) (g := (mkF m 162 #[.val (.int x0)] [(.int x0)])) rfl (hb hby d1_162)) ?_
    show ownGo p.tables e below T0 (mkF m 164 #[.val (.int x0)] [(.int (64975 : Int32)), (.int x0)]) _
    by_cases hc164 : (64975 : Int32) < x0
    · have hr18 := hr13.trans (if_pos hc164)
      refine ownGo.st (fun _ k => XS.icmpNo X0.here hx rfl (hb hby d1_164) rfl (tlt hc164).2.2.2 k) ?_
      show ownGo p.tables e below T0 (mkF m 167 #[.val (.int x0)] []) _
      exact b1_167 hx hZ hw hby hml hown hret hlk X0 e0 N0 x0 r hr18
    · have hr18 := hr13.trans (if_neg hc164)
      refine ownGo.st (fun _ k => XS.icmpYes X0.here hx rfl (pc0 := 164) (pc' := 191) rfl (hb hby d1_164) rfl (flt hc164).2.2.2 (by decide) (by decide) k) ?_
      show ownGo p.tables e below T0 (mkF m 191 #[.val (.int x0)] []) _
      exact b1_191 hx hZ hw hby hml hown hret hlk X0 e0 N0 x0 r hr18
def f1_142 (x0 : Int32) : Int32 := (if x0 < (12289 : Int32) then (f1_155 x0) else (if (55295 : Int32) < x0 then (f1_155 x0) else (f1_191 x0)))
set_option maxRecDepth 65536 in
set_option maxHeartbeats 40000000 in
theorem b1_142 {p : Program} {l : Launch} {e : Env} {s : State} {m : MethodId} {args : Array Value} {below : List Frame} {meth : Method} {c : Code} {T0 : State} {locs : List Loc} {Z : State} {a0 : Array Value} {h0 : Heap} {n0 : Nat} (hx : p.tables.exec = Jvm.exec) (hZ : Z.Warmed39 s.vm) (hw : ∀ d ∈ tables_1, d.before a0 Z = true) (hby : c.code = prog_405_method_8_code) (hml : c.maxLocals = 1) (hown : s.vm.findClass "com/example/lexipath/lexipath/xml/XmlNames" = some m.cls) (hret : meth.sig.returnType = (some .boolean)) (hlk : meth.locks = false) (X0 : Stand p l e R1 s m args below meth c T0 locs 0 0) (e0 : T0.heap = h0) (N0 : Fr n0 locs) (x0 : Int32) (r : Int32) (hr : r = f1_142 x0) :
    ownGo p.tables e below T0 (mkF m 142 #[.val (.int x0)] []) (ownDone s (ownPure (.int r) h0 n0) 0 0) := by
  have hr0 : r = (if x0 < (12289 : Int32) then (f1_155 x0) else (if (55295 : Int32) < x0 then (f1_155 x0) else (f1_191 x0))) := hr
  refine ownGo.st (fun _ k => XS.iloadN X0.here hx rfl (hb hby d1_142) rfl k) ?_
  show ownGo p.tables e below T0 (mkF m 143 #[.val (.int x0)] [(.int x0)]) _
  refine ownGo.st (fun _ k => XS.sipush X0.here hx rfl (hb hby d1_143)  k) ?_
  show ownGo p.tables e below T0 (mkF m 146 #[.val (.int x0)] [(.int (12289 : Int32)), (.int x0)]) _
  by_cases hc146 : x0 < (12289 : Int32)
  · have hr12 := hr0.trans (if_pos hc146)
    refine ownGo.st (fun _ k => XS.icmpYes X0.here hx rfl (pc0 := 146) (pc' := 155) rfl (hb hby d1_146) rfl (tlt hc146).1 (by decide) (by decide) k) ?_
    show ownGo p.tables e below T0 (mkF m 155 #[.val (.int x0)] []) _
    exact b1_155 hx hZ hw hby hml hown hret hlk X0 e0 N0 x0 r hr12
  · have hr12 := hr0.trans (if_neg hc146)
    refine ownGo.st (fun _ k => XS.icmpNo X0.here hx rfl (hb hby d1_146) rfl (flt hc146).1 k) ?_
    show ownGo p.tables e below T0 (mkF m 149 #[.val (.int x0)] []) _
    refine ownGo.st (fun _ k => XS.iloadN X0.here hx rfl (hb hby d1_149) rfl k) ?_
    show ownGo p.tables e below T0 (mkF m 150 #[.val (.int x0)] [(.int x0)]) _
    refine ownGo.st (X0.ldcInt hx hown (mvT hZ (own_at hw 22 rfl)) (g := (mkF m 150 #[.val (.int x0)] [(.int x0)])) rfl (hb hby d1_150)) ?_
    show ownGo p.tables e below T0 (mkF m 152 #[.val (.int x0)] [(.int (55295 : Int32)), (.int x0)]) _
    by_cases hc152 : (55295 : Int32) < x0
    · have hr19 := hr12.trans (if_pos hc152)
      refine ownGo.st (fun _ k => XS.icmpNo X0.here hx rfl (hb hby d1_152) rfl (tlt hc152).2.2.2 k) ?_
      show ownGo p.tables e below T0 (mkF m 155 #[.val (.int x0)] []) _
      exact b1_155 hx hZ hw hby hml hown hret hlk X0 e0 N0 x0 r hr19
    · have hr19 := hr12.trans (if_neg hc152)
      refine ownGo.st (fun _ k => XS.icmpYes X0.here hx rfl (pc0 := 152) (pc' := 191) rfl (hb hby d1_152) rfl (flt hc152).2.2.2 (by decide) (by decide) k) ?_
      show ownGo p.tables e below T0 (mkF m 191 #[.val (.int x0)] []) _
      exact b1_191 hx hZ hw hby hml hown hret hlk X0 e0 N0 x0 r hr19
def f1_128 (x0 : Int32) : Int32 := (if x0 < (11264 : Int32) then (f1_142 x0) else (if (12271 : Int32) < x0 then (f1_142 x0) else (f1_191 x0)))
set_option maxRecDepth 65536 in
set_option maxHeartbeats 40000000 in
theorem b1_128 {p : Program} {l : Launch} {e : Env} {s : State} {m : MethodId} {args : Array Value} {below : List Frame} {meth : Method} {c : Code} {T0 : State} {locs : List Loc} {Z : State} {a0 : Array Value} {h0 : Heap} {n0 : Nat} (hx : p.tables.exec = Jvm.exec) (hZ : Z.Warmed39 s.vm) (hw : ∀ d ∈ tables_1, d.before a0 Z = true) (hby : c.code = prog_405_method_8_code) (hml : c.maxLocals = 1) (hown : s.vm.findClass "com/example/lexipath/lexipath/xml/XmlNames" = some m.cls) (hret : meth.sig.returnType = (some .boolean)) (hlk : meth.locks = false) (X0 : Stand p l e R1 s m args below meth c T0 locs 0 0) (e0 : T0.heap = h0) (N0 : Fr n0 locs) (x0 : Int32) (r : Int32) (hr : r = f1_128 x0) :
    ownGo p.tables e below T0 (mkF m 128 #[.val (.int x0)] []) (ownDone s (ownPure (.int r) h0 n0) 0 0) := by
  have hr0 : r = (if x0 < (11264 : Int32) then (f1_142 x0) else (if (12271 : Int32) < x0 then (f1_142 x0) else (f1_191 x0))) := hr
  refine ownGo.st (fun _ k => XS.iloadN X0.here hx rfl (hb hby d1_128) rfl k) ?_
  show ownGo p.tables e below T0 (mkF m 129 #[.val (.int x0)] [(.int x0)]) _
  refine ownGo.st (fun _ k => XS.sipush X0.here hx rfl (hb hby d1_129)  k) ?_
  show ownGo p.tables e below T0 (mkF m 132 #[.val (.int x0)] [(.int (11264 : Int32)), (.int x0)]) _
  by_cases hc132 : x0 < (11264 : Int32)
  · have hr11 := hr0.trans (if_pos hc132)
    refine ownGo.st (fun _ k => XS.icmpYes X0.here hx rfl (pc0 := 132) (pc' := 142) rfl (hb hby d1_132) rfl (tlt hc132).1 (by decide) (by decide) k) ?_
    show ownGo p.tables e below T0 (mkF m 142 #[.val (.int x0)] []) _
    exact b1_142 hx hZ hw hby hml hown hret hlk X0 e0 N0 x0 r hr11
  · have hr11 := hr0.trans (if_neg hc132)
    refine ownGo.st (fun _ k => XS.icmpNo X0.here hx rfl (hb hby d1_132) rfl (flt hc132).1 k) ?_
    show ownGo p.tables e below T0 (mkF m 135 #[.val (.int x0)] []) _
    refine ownGo.st (fun _ k => XS.iloadN X0.here hx rfl (hb hby d1_135) rfl k) ?_
    show ownGo p.tables e below T0 (mkF m 136 #[.val (.int x0)] [(.int x0)]) _
    refine ownGo.st (fun _ k => XS.sipush X0.here hx rfl (hb hby d1_136)  k) ?_
    show ownGo p.tables e below T0 (mkF m 139 #[.val (.int x0)] [(.int (12271 : Int32)), (.int x0)]) _
    by_cases hc139 : (12271 : Int32) < x0
    · have hr20 := hr11.trans (if_pos hc139)
      refine ownGo.st (fun _ k => XS.icmpNo X0.here hx rfl (hb hby d1_139) rfl (tlt hc139).2.2.2 k) ?_
      show ownGo p.tables e below T0 (mkF m 142 #[.val (.int x0)] []) _
      exact b1_142 hx hZ hw hby hml hown hret hlk X0 e0 N0 x0 r hr20
    · have hr20 := hr11.trans (if_neg hc139)
      refine ownGo.st (fun _ k => XS.icmpYes X0.here hx rfl (pc0 := 139) (pc' := 191) rfl (hb hby d1_139) rfl (flt hc139).2.2.2 (by decide) (by decide) k) ?_
      show ownGo p.tables e below T0 (mkF m 191 #[.val (.int x0)] []) _
      exact b1_191 hx hZ hw hby hml hown hret hlk X0 e0 N0 x0 r hr20
def f1_114 (x0 : Int32) : Int32 := (if x0 < (8304 : Int32) then (f1_128 x0) else (if (8591 : Int32) < x0 then (f1_128 x0) else (f1_191 x0)))
set_option maxRecDepth 65536 in
set_option maxHeartbeats 40000000 in
theorem b1_114 {p : Program} {l : Launch} {e : Env} {s : State} {m : MethodId} {args : Array Value} {below : List Frame} {meth : Method} {c : Code} {T0 : State} {locs : List Loc} {Z : State} {a0 : Array Value} {h0 : Heap} {n0 : Nat} (hx : p.tables.exec = Jvm.exec) (hZ : Z.Warmed39 s.vm) (hw : ∀ d ∈ tables_1, d.before a0 Z = true) (hby : c.code = prog_405_method_8_code) (hml : c.maxLocals = 1) (hown : s.vm.findClass "com/example/lexipath/lexipath/xml/XmlNames" = some m.cls) (hret : meth.sig.returnType = (some .boolean)) (hlk : meth.locks = false) (X0 : Stand p l e R1 s m args below meth c T0 locs 0 0) (e0 : T0.heap = h0) (N0 : Fr n0 locs) (x0 : Int32) (r : Int32) (hr : r = f1_114 x0) :
    ownGo p.tables e below T0 (mkF m 114 #[.val (.int x0)] []) (ownDone s (ownPure (.int r) h0 n0) 0 0) := by
  have hr0 : r = (if x0 < (8304 : Int32) then (f1_128 x0) else (if (8591 : Int32) < x0 then (f1_128 x0) else (f1_191 x0))) := hr
  refine ownGo.st (fun _ k => XS.iloadN X0.here hx rfl (hb hby d1_114) rfl k) ?_
  show ownGo p.tables e below T0 (mkF m 115 #[.val (.int x0)] [(.int x0)]) _
  refine ownGo.st (fun _ k => XS.sipush X0.here hx rfl (hb hby d1_115)  k) ?_
  show ownGo p.tables e below T0 (mkF m 118 #[.val (.int x0)] [(.int (8304 : Int32)), (.int x0)]) _
  by_cases hc118 : x0 < (8304 : Int32)
  · have hr10 := hr0.trans (if_pos hc118)
    refine ownGo.st (fun _ k => XS.icmpYes X0.here hx rfl (pc0 := 118) (pc' := 128) rfl (hb hby d1_118) rfl (tlt hc118).1 (by decide) (by decide) k) ?_
    show ownGo p.tables e below T0 (mkF m 128 #[.val (.int x0)] []) _
    exact b1_128 hx hZ hw hby hml hown hret hlk X0 e0 N0 x0 r hr10
  · have hr10 := hr0.trans (if_neg hc118)
    refine ownGo.st (fun _ k => XS.icmpNo X0.here hx rfl (hb hby d1_118) rfl (flt hc118).1 k) ?_
    show ownGo p.tables e below T0 (mkF m 121 #[.val (.int x0)] []) _
    refine ownGo.st (fun _ k => XS.iloadN X0.here hx rfl (hb hby d1_121) rfl k) ?_
    show ownGo p.tables e below T0 (mkF m 122 #[.val (.int x0)] [(.int x0)]) _
    refine ownGo.st (fun _ k => XS.sipush X0.here hx rfl (hb hby d1_122)  k) ?_
    show ownGo p.tables e below T0 (mkF m 125 #[.val (.int x0)] [(.int (8591 : Int32)), (.int x0)]) _
    by_cases hc125 : (8591 : Int32) < x0
    · have hr21 := hr10.trans (if_pos hc125)
      refine ownGo.st (fun _ k => XS.icmpNo X0.here hx rfl (hb hby d1_125) rfl (tlt hc125).2.2.2 k) ?_
      show ownGo p.tables e below T0 (mkF m 128 #[.val (.int x0)] []) _
      exact b1_128 hx hZ hw hby hml hown hret hlk X0 e0 N0 x0 r hr21
    · have hr21 := hr10.trans (if_neg hc125)
      refine ownGo.st (fun _ k => XS.icmpYes X0.here hx rfl (pc0 := 125) (pc' := 191) rfl (hb hby d1_125) rfl (flt hc125).2.2.2 (by decide) (by decide) k) ?_
      show ownGo p.tables e below T0 (mkF m 191 #[.val (.int x0)] []) _
      exact b1_191 hx hZ hw hby hml hown hret hlk X0 e0 N0 x0 r hr21
def f1_100 (x0 : Int32) : Int32 := (if x0 < (8204 : Int32) then (f1_114 x0) else (if (8205 : Int32) < x0 then (f1_114 x0) else (f1_191 x0)))
set_option maxRecDepth 65536 in
set_option maxHeartbeats 40000000 in
theorem b1_100 {p : Program} {l : Launch} {e : Env} {s : State} {m : MethodId} {args : Array Value} {below : List Frame} {meth : Method} {c : Code} {T0 : State} {locs : List Loc} {Z : State} {a0 : Array Value} {h0 : Heap} {n0 : Nat} (hx : p.tables.exec = Jvm.exec) (hZ : Z.Warmed39 s.vm) (hw : ∀ d ∈ tables_1, d.before a0 Z = true) (hby : c.code = prog_405_method_8_code) (hml : c.maxLocals = 1) (hown : s.vm.findClass "com/example/lexipath/lexipath/xml/XmlNames" = some m.cls) (hret : meth.sig.returnType = (some .boolean)) (hlk : meth.locks = false) (X0 : Stand p l e R1 s m args below meth c T0 locs 0 0) (e0 : T0.heap = h0) (N0 : Fr n0 locs) (x0 : Int32) (r : Int32) (hr : r = f1_100 x0) :
    ownGo p.tables e below T0 (mkF m 100 #[.val (.int x0)] []) (ownDone s (ownPure (.int r) h0 n0) 0 0) := by
  have hr0 : r = (if x0 < (8204 : Int32) then (f1_114 x0) else (if (8205 : Int32) < x0 then (f1_114 x0) else (f1_191 x0))) := hr
  refine ownGo.st (fun _ k => XS.iloadN X0.here hx rfl (hb hby d1_100) rfl k) ?_
  show ownGo p.tables e below T0 (mkF m 101 #[.val (.int x0)] [(.int x0)]) _
  refine ownGo.st (fun _ k => XS.sipush X0.here hx rfl (hb hby d1_101)  k) ?_
  show ownGo p.tables e below T0 (mkF m 104 #[.val (.int x0)] [(.int (8204 : Int32)), (.int x0)]) _
  by_cases hc104 : x0 < (8204 : Int32)
  · have hr9 := hr0.trans (if_pos hc104)
    refine ownGo.st (fun _ k => XS.icmpYes X0.here hx rfl (pc0 := 104) (pc' := 114) rfl (hb hby d1_104) rfl (tlt hc104).1 (by decide) (by decide) k) ?_
    show ownGo p.tables e below T0 (mkF m 114 #[.val (.int x0)] []) _
    exact b1_114 hx hZ hw hby hml hown hret hlk X0 e0 N0 x0 r hr9
  · have hr9 := hr0.trans (if_neg hc104)
    refine ownGo.st (fun _ k => XS.icmpNo X0.here hx rfl (hb hby d1_104) rfl (flt hc104).1 k) ?_
    show ownGo p.tables e below T0 (mkF m 107 #[.val (.int x0)] []) _
    refine ownGo.st (fun _ k => XS.iloadN X0.here hx rfl (hb hby d1_107) rfl k) ?_
    show ownGo p.tables e below T0 (mkF m 108 #[.val (.int x0)] [(.int x0)]) _
    refine ownGo.st (fun _ k => XS.sipush X0.here hx rfl (hb hby d1_108)  k) ?_
    show ownGo p.tables e below T0 (mkF m 111 #[.val (.int x0)] [(.int (8205 : Int32)), (.int x0)]) _
    by_cases hc111 : (8205 : Int32) < x0
    · have hr22 := hr9.trans (if_pos hc111)
      refine ownGo.st (fun _ k => XS.icmpNo X0.here hx rfl (hb hby d1_111) rfl (tlt hc111).2.2.2 k) ?_
      show ownGo p.tables e below T0 (mkF m 114 #[.val (.int x0)] []) _
      exact b1_114 hx hZ hw hby hml hown hret hlk X0 e0 N0 x0 r hr22
    · have hr22 := hr9.trans (if_neg hc111)
      refine ownGo.st (fun _ k => XS.icmpYes X0.here hx rfl (pc0 := 111) (pc' := 191) rfl (hb hby d1_111) rfl (flt hc111).2.2.2 (by decide) (by decide) k) ?_
      show ownGo p.tables e below T0 (mkF m 191 #[.val (.int x0)] []) _
      exact b1_191 hx hZ hw hby hml hown hret hlk X0 e0 N0 x0 r hr22
def f1_86 (x0 : Int32) : Int32 := (if x0 < (895 : Int32) then (f1_100 x0) else (if (8191 : Int32) < x0 then (f1_100 x0) else (f1_191 x0)))
set_option maxRecDepth 65536 in
set_option maxHeartbeats 40000000 in
theorem b1_86 {p : Program} {l : Launch} {e : Env} {s : State} {m : MethodId} {args : Array Value} {below : List Frame} {meth : Method} {c : Code} {T0 : State} {locs : List Loc} {Z : State} {a0 : Array Value} {h0 : Heap} {n0 : Nat} (hx : p.tables.exec = Jvm.exec) (hZ : Z.Warmed39 s.vm) (hw : ∀ d ∈ tables_1, d.before a0 Z = true) (hby : c.code = prog_405_method_8_code) (hml : c.maxLocals = 1) (hown : s.vm.findClass "com/example/lexipath/lexipath/xml/XmlNames" = some m.cls) (hret : meth.sig.returnType = (some .boolean)) (hlk : meth.locks = false) (X0 : Stand p l e R1 s m args below meth c T0 locs 0 0) (e0 : T0.heap = h0) (N0 : Fr n0 locs) (x0 : Int32) (r : Int32) (hr : r = f1_86 x0) :
    ownGo p.tables e below T0 (mkF m 86 #[.val (.int x0)] []) (ownDone s (ownPure (.int r) h0 n0) 0 0) := by
  have hr0 : r = (if x0 < (895 : Int32) then (f1_100 x0) else (if (8191 : Int32) < x0 then (f1_100 x0) else (f1_191 x0))) := hr
  refine ownGo.st (fun _ k => XS.iloadN X0.here hx rfl (hb hby d1_86) rfl k) ?_
  show ownGo p.tables e below T0 (mkF m 87 #[.val (.int x0)] [(.int x0)]) _
  refine ownGo.st (fun _ k => XS.sipush X0.here hx rfl (hb hby d1_87)  k) ?_
  show ownGo p.tables e below T0 (mkF m 90 #[.val (.int x0)] [(.int (895 : Int32)), (.int x0)]) _
  by_cases hc90 : x0 < (895 : Int32)
  · have hr8 := hr0.trans (if_pos hc90)
    refine ownGo.st (fun _ k => XS.icmpYes X0.here hx rfl (pc0 := 90) (pc' := 100) rfl (hb hby d1_90) rfl (tlt hc90).1 (by decide) (by decide) k) ?_
    show ownGo p.tables e below T0 (mkF m 100 #[.val (.int x0)] []) _
    exact b1_100 hx hZ hw hby hml hown hret hlk X0 e0 N0 x0 r hr8
  · have hr8 := hr0.trans (if_neg hc90)
    refine ownGo.st (fun _ k => XS.icmpNo X0.here hx rfl (hb hby d1_90) rfl (flt hc90).1 k) ?_
    show ownGo p.tables e below T0 (mkF m 93 #[.val (.int x0)] []) _
    refine ownGo.st (fun _ k => XS.iloadN X0.here hx rfl (hb hby d1_93) rfl k) ?_
    show ownGo p.tables e below T0 (mkF m 94 #[.val (.int x0)] [(.int x0)]) _
    refine ownGo.st (fun _ k => XS.sipush X0.here hx rfl (hb hby d1_94)  k) ?_
    show ownGo p.tables e below T0 (mkF m 97 #[.val (.int x0)] [(.int (8191 : Int32)), (.int x0)]) _
    by_cases hc97 : (8191 : Int32) < x0
    · have hr23 := hr8.trans (if_pos hc97)
      refine ownGo.st (fun _ k => XS.icmpNo X0.here hx rfl (hb hby d1_97) rfl (tlt hc97).2.2.2 k) ?_
      show ownGo p.tables e below T0 (mkF m 100 #[.val (.int x0)] []) _
      exact b1_100 hx hZ hw hby hml hown hret hlk X0 e0 N0 x0 r hr23
    · have hr23 := hr8.trans (if_neg hc97)
      refine ownGo.st (fun _ k => XS.icmpYes X0.here hx rfl (pc0 := 97) (pc' := 191) rfl (hb hby d1_97) rfl (flt hc97).2.2.2 (by decide) (by decide) k) ?_
      show ownGo p.tables e below T0 (mkF m 191 #[.val (.int x0)] []) _
      exact b1_191 hx hZ hw hby hml hown hret hlk X0 e0 N0 x0 r hr23
def f1_72 (x0 : Int32) : Int32 := (if x0 < (880 : Int32) then (f1_86 x0) else (if (893 : Int32) < x0 then (f1_86 x0) else (f1_191 x0)))
set_option maxRecDepth 65536 in
set_option maxHeartbeats 40000000 in
theorem b1_72 {p : Program} {l : Launch} {e : Env} {s : State} {m : MethodId} {args : Array Value} {below : List Frame} {meth : Method} {c : Code} {T0 : State} {locs : List Loc} {Z : State} {a0 : Array Value} {h0 : Heap} {n0 : Nat} (hx : p.tables.exec = Jvm.exec) (hZ : Z.Warmed39 s.vm) (hw : ∀ d ∈ tables_1, d.before a0 Z = true) (hby : c.code = prog_405_method_8_code) (hml : c.maxLocals = 1) (hown : s.vm.findClass "com/example/lexipath/lexipath/xml/XmlNames" = some m.cls) (hret : meth.sig.returnType = (some .boolean)) (hlk : meth.locks = false) (X0 : Stand p l e R1 s m args below meth c T0 locs 0 0) (e0 : T0.heap = h0) (N0 : Fr n0 locs) (x0 : Int32) (r : Int32) (hr : r = f1_72 x0) :
    ownGo p.tables e below T0 (mkF m 72 #[.val (.int x0)] []) (ownDone s (ownPure (.int r) h0 n0) 0 0) := by
  have hr0 : r = (if x0 < (880 : Int32) then (f1_86 x0) else (if (893 : Int32) < x0 then (f1_86 x0) else (f1_191 x0))) := hr
  refine ownGo.st (fun _ k => XS.iloadN X0.here hx rfl (hb hby d1_72) rfl k) ?_
  show ownGo p.tables e below T0 (mkF m 73 #[.val (.int x0)] [(.int x0)]) _
  refine ownGo.st (fun _ k => XS.sipush X0.here hx rfl (hb hby d1_73)  k) ?_
  show ownGo p.tables e below T0 (mkF m 76 #[.val (.int x0)] [(.int (880 : Int32)), (.int x0)]) _
  by_cases hc76 : x0 < (880 : Int32)
  · have hr7 := hr0.trans (if_pos hc76)
    refine ownGo.st (fun _ k => XS.icmpYes X0.here hx rfl (pc0 := 76) (pc' := 86) rfl (hb hby d1_76) rfl (tlt hc76).1 (by decide) (by decide) k) ?_
    show ownGo p.tables e below T0 (mkF m 86 #[.val (.int x0)] []) _
    exact b1_86 hx hZ hw hby hml hown hret hlk X0 e0 N0 x0 r hr7
  · have hr7 := hr0.trans (if_neg hc76)
    refine ownGo.st (fun _ k => XS.icmpNo X0.here hx rfl (hb hby d1_76) rfl (flt hc76).1 k) ?_
    show ownGo p.tables e below T0 (mkF m 79 #[.val (.int x0)] []) _
    refine ownGo.st (fun _ k => XS.iloadN X0.here hx rfl (hb hby d1_79) rfl k) ?_
    show ownGo p.tables e below T0 (mkF m 80 #[.val (.int x0)] [(.int x0)]) _
    refine ownGo.st (fun _ k => XS.sipush X0.here hx rfl (hb hby d1_80)  k) ?_
    show ownGo p.tables e below T0 (mkF m 83 #[.val (.int x0)] [(.int (893 : Int32)), (.int x0)]) _
    by_cases hc83 : (893 : Int32) < x0
    · have hr24 := hr7.trans (if_pos hc83)
      refine ownGo.st (fun _ k => XS.icmpNo X0.here hx rfl (hb hby d1_83) rfl (tlt hc83).2.2.2 k) ?_
      show ownGo p.tables e below T0 (mkF m 86 #[.val (.int x0)] []) _
      exact b1_86 hx hZ hw hby hml hown hret hlk X0 e0 N0 x0 r hr24
    · have hr24 := hr7.trans (if_neg hc83)
      refine ownGo.st (fun _ k => XS.icmpYes X0.here hx rfl (pc0 := 83) (pc' := 191) rfl (hb hby d1_83) rfl (flt hc83).2.2.2 (by decide) (by decide) k) ?_
      show ownGo p.tables e below T0 (mkF m 191 #[.val (.int x0)] []) _
      exact b1_191 hx hZ hw hby hml hown hret hlk X0 e0 N0 x0 r hr24
def f1_58 (x0 : Int32) : Int32 := (if x0 < (248 : Int32) then (f1_72 x0) else (if (767 : Int32) < x0 then (f1_72 x0) else (f1_191 x0)))
set_option maxRecDepth 65536 in
set_option maxHeartbeats 40000000 in
theorem b1_58 {p : Program} {l : Launch} {e : Env} {s : State} {m : MethodId} {args : Array Value} {below : List Frame} {meth : Method} {c : Code} {T0 : State} {locs : List Loc} {Z : State} {a0 : Array Value} {h0 : Heap} {n0 : Nat} (hx : p.tables.exec = Jvm.exec) (hZ : Z.Warmed39 s.vm) (hw : ∀ d ∈ tables_1, d.before a0 Z = true) (hby : c.code = prog_405_method_8_code) (hml : c.maxLocals = 1) (hown : s.vm.findClass "com/example/lexipath/lexipath/xml/XmlNames" = some m.cls) (hret : meth.sig.returnType = (some .boolean)) (hlk : meth.locks = false) (X0 : Stand p l e R1 s m args below meth c T0 locs 0 0) (e0 : T0.heap = h0) (N0 : Fr n0 locs) (x0 : Int32) (r : Int32) (hr : r = f1_58 x0) :
    ownGo p.tables e below T0 (mkF m 58 #[.val (.int x0)] []) (ownDone s (ownPure (.int r) h0 n0) 0 0) := by
  have hr0 : r = (if x0 < (248 : Int32) then (f1_72 x0) else (if (767 : Int32) < x0 then (f1_72 x0) else (f1_191 x0))) := hr
  refine ownGo.st (fun _ k => XS.iloadN X0.here hx rfl (hb hby d1_58) rfl k) ?_
  show ownGo p.tables e below T0 (mkF m 59 #[.val (.int x0)] [(.int x0)]) _
  refine ownGo.st (fun _ k => XS.sipush X0.here hx rfl (hb hby d1_59)  k) ?_
  show ownGo p.tables e below T0 (mkF m 62 #[.val (.int x0)] [(.int (248 : Int32)), (.int x0)]) _
  by_cases hc62 : x0 < (248 : Int32)
  · have hr6 := hr0.trans (if_pos hc62)
    refine ownGo.st (fun _ k => XS.icmpYes X0.here hx rfl (pc0 := 62) (pc' := 72) rfl (hb hby d1_62) rfl (tlt hc62).1 (by decide) (by decide) k) ?_
    show ownGo p.tables e below T0 (mkF m 72 #[.val (.int x0)] []) _
    exact b1_72 hx hZ hw hby hml hown hret hlk X0 e0 N0 x0 r hr6
  · have hr6 := hr0.trans (if_neg hc62)
    refine ownGo.st (fun _ k => XS.icmpNo X0.here hx rfl (hb hby d1_62) rfl (flt hc62).1 k) ?_
    show ownGo p.tables e below T0 (mkF m 65 #[.val (.int x0)] []) _
    refine ownGo.st (fun _ k => XS.iloadN X0.here hx rfl (hb hby d1_65) rfl k) ?_
    show ownGo p.tables e below T0 (mkF m 66 #[.val (.int x0)] [(.int x0)]) _
    refine ownGo.st (fun _ k => XS.sipush X0.here hx rfl (hb hby d1_66)  k) ?_
    show ownGo p.tables e below T0 (mkF m 69 #[.val (.int x0)] [(.int (767 : Int32)), (.int x0)]) _
    by_cases hc69 : (767 : Int32) < x0
    · have hr25 := hr6.trans (if_pos hc69)
      refine ownGo.st (fun _ k => XS.icmpNo X0.here hx rfl (hb hby d1_69) rfl (tlt hc69).2.2.2 k) ?_
      show ownGo p.tables e below T0 (mkF m 72 #[.val (.int x0)] []) _
      exact b1_72 hx hZ hw hby hml hown hret hlk X0 e0 N0 x0 r hr25
    · have hr25 := hr6.trans (if_neg hc69)
      refine ownGo.st (fun _ k => XS.icmpYes X0.here hx rfl (pc0 := 69) (pc' := 191) rfl (hb hby d1_69) rfl (flt hc69).2.2.2 (by decide) (by decide) k) ?_
      show ownGo p.tables e below T0 (mkF m 191 #[.val (.int x0)] []) _
      exact b1_191 hx hZ hw hby hml hown hret hlk X0 e0 N0 x0 r hr25
def f1_44 (x0 : Int32) : Int32 := (if x0 < (216 : Int32) then (f1_58 x0) else (if (246 : Int32) < x0 then (f1_58 x0) else (f1_191 x0)))
set_option maxRecDepth 65536 in
set_option maxHeartbeats 40000000 in
theorem b1_44 {p : Program} {l : Launch} {e : Env} {s : State} {m : MethodId} {args : Array Value} {below : List Frame} {meth : Method} {c : Code} {T0 : State} {locs : List Loc} {Z : State} {a0 : Array Value} {h0 : Heap} {n0 : Nat} (hx : p.tables.exec = Jvm.exec) (hZ : Z.Warmed39 s.vm) (hw : ∀ d ∈ tables_1, d.before a0 Z = true) (hby : c.code = prog_405_method_8_code) (hml : c.maxLocals = 1) (hown : s.vm.findClass "com/example/lexipath/lexipath/xml/XmlNames" = some m.cls) (hret : meth.sig.returnType = (some .boolean)) (hlk : meth.locks = false) (X0 : Stand p l e R1 s m args below meth c T0 locs 0 0) (e0 : T0.heap = h0) (N0 : Fr n0 locs) (x0 : Int32) (r : Int32) (hr : r = f1_44 x0) :
    ownGo p.tables e below T0 (mkF m 44 #[.val (.int x0)] []) (ownDone s (ownPure (.int r) h0 n0) 0 0) := by
  have hr0 : r = (if x0 < (216 : Int32) then (f1_58 x0) else (if (246 : Int32) < x0 then (f1_58 x0) else (f1_191 x0))) := hr
  refine ownGo.st (fun _ k => XS.iloadN X0.here hx rfl (hb hby d1_44) rfl k) ?_
  show ownGo p.tables e below T0 (mkF m 45 #[.val (.int x0)] [(.int x0)]) _
  refine ownGo.st (fun _ k => XS.sipush X0.here hx rfl (hb hby d1_45)  k) ?_
  show ownGo p.tables e below T0 (mkF m 48 #[.val (.int x0)] [(.int (216 : Int32)), (.int x0)]) _
  by_cases hc48 : x0 < (216 : Int32)
  · have hr5 := hr0.trans (if_pos hc48)
    refine ownGo.st (fun _ k => XS.icmpYes X0.here hx rfl (pc0 := 48) (pc' := 58) rfl (hb hby d1_48) rfl (tlt hc48).1 (by decide) (by decide) k) ?_
    show ownGo p.tables e below T0 (mkF m 58 #[.val (.int x0)] []) _
    exact b1_58 hx hZ hw hby hml hown hret hlk X0 e0 N0 x0 r hr5
  · have hr5 := hr0.trans (if_neg hc48)
    refine ownGo.st (fun _ k => XS.icmpNo X0.here hx rfl (hb hby d1_48) rfl (flt hc48).1 k) ?_
    show ownGo p.tables e below T0 (mkF m 51 #[.val (.int x0)] []) _
    refine ownGo.st (fun _ k => XS.iloadN X0.here hx rfl (hb hby d1_51) rfl k) ?_
    show ownGo p.tables e below T0 (mkF m 52 #[.val (.int x0)] [(.int x0)]) _
    refine ownGo.st (fun _ k => XS.sipush X0.here hx rfl (hb hby d1_52)  k) ?_
    show ownGo p.tables e below T0 (mkF m 55 #[.val (.int x0)] [(.int (246 : Int32)), (.int x0)]) _
    by_cases hc55 : (246 : Int32) < x0
    · have hr26 := hr5.trans (if_pos hc55)
      refine ownGo.st (fun _ k => XS.icmpNo X0.here hx rfl (hb hby d1_55) rfl (tlt hc55).2.2.2 k) ?_
      show ownGo p.tables e below T0 (mkF m 58 #[.val (.int x0)] []) _
      exact b1_58 hx hZ hw hby hml hown hret hlk X0 e0 N0 x0 r hr26
    · have hr26 := hr5.trans (if_neg hc55)
      refine ownGo.st (fun _ k => XS.icmpYes X0.here hx rfl (pc0 := 55) (pc' := 191) rfl (hb hby d1_55) rfl (flt hc55).2.2.2 (by decide) (by decide) k) ?_
      show ownGo p.tables e below T0 (mkF m 191 #[.val (.int x0)] []) _
      exact b1_191 hx hZ hw hby hml hown hret hlk X0 e0 N0 x0 r hr26
def f1_24 (x0 : Int32) : Int32 := (if x0 = (95 : Int32) then (f1_191 x0) else (if x0 < (192 : Int32) then (f1_44 x0) else (if (214 : Int32) < x0 then (f1_44 x0) else (f1_191 x0))))
set_option maxRecDepth 65536 in
set_option maxHeartbeats 40000000 in
theorem b1_24 {p : Program} {l : Launch} {e : Env} {s : State} {m : MethodId} {args : Array Value} {below : List Frame} {meth : Method} {c : Code} {T0 : State} {locs : List Loc} {Z : State} {a0 : Array Value} {h0 : Heap} {n0 : Nat} (hx : p.tables.exec = Jvm.exec) (hZ : Z.Warmed39 s.vm) (hw : ∀ d ∈ tables_1, d.before a0 Z = true) (hby : c.code = prog_405_method_8_code) (hml : c.maxLocals = 1) (hown : s.vm.findClass "com/example/lexipath/lexipath/xml/XmlNames" = some m.cls) (hret : meth.sig.returnType = (some .boolean)) (hlk : meth.locks = false) (X0 : Stand p l e R1 s m args below meth c T0 locs 0 0) (e0 : T0.heap = h0) (N0 : Fr n0 locs) (x0 : Int32) (r : Int32) (hr : r = f1_24 x0) :
    ownGo p.tables e below T0 (mkF m 24 #[.val (.int x0)] []) (ownDone s (ownPure (.int r) h0 n0) 0 0) := by
  have hr0 : r = (if x0 = (95 : Int32) then (f1_191 x0) else (if x0 < (192 : Int32) then (f1_44 x0) else (if (214 : Int32) < x0 then (f1_44 x0) else (f1_191 x0)))) := hr
  refine ownGo.st (fun _ k => XS.iloadN X0.here hx rfl (hb hby d1_24) rfl k) ?_
  show ownGo p.tables e below T0 (mkF m 25 #[.val (.int x0)] [(.int x0)]) _
  refine ownGo.st (fun _ k => XS.bipush X0.here hx rfl (hb hby d1_25)  k) ?_
  show ownGo p.tables e below T0 (mkF m 27 #[.val (.int x0)] [(.int (95 : Int32)), (.int x0)]) _
  by_cases hc27 : x0 = (95 : Int32)
  · have hr3 := hr0.trans (if_pos hc27)
    refine ownGo.st (fun _ k => XS.icmpYes X0.here hx rfl (pc0 := 27) (pc' := 191) rfl (hb hby d1_27) rfl (teq hc27).1 (by decide) (by decide) k) ?_
    show ownGo p.tables e below T0 (mkF m 191 #[.val (.int x0)] []) _
    exact b1_191 hx hZ hw hby hml hown hret hlk X0 e0 N0 x0 r hr3
  · have hr3 := hr0.trans (if_neg hc27)
    refine ownGo.st (fun _ k => XS.icmpNo X0.here hx rfl (hb hby d1_27) rfl (feq hc27).1 k) ?_
    show ownGo p.tables e below T0 (mkF m 30 #[.val (.int x0)] []) _
    refine ownGo.st (fun _ k => XS.iloadN X0.here hx rfl (hb hby d1_30) rfl k) ?_
    show ownGo p.tables e below T0 (mkF m 31 #[.val (.int x0)] [(.int x0)]) _
    refine ownGo.st (fun _ k => XS.sipush X0.here hx rfl (hb hby d1_31)  k) ?_
    show ownGo p.tables e below T0 (mkF m 34 #[.val (.int x0)] [(.int (192 : Int32)), (.int x0)]) _
    by_cases hc34 : x0 < (192 : Int32)
    · have hr4 := hr3.trans (if_pos hc34)
      refine ownGo.st (fun _ k => XS.icmpYes X0.here hx rfl (pc0 := 34) (pc' := 44) rfl (hb hby d1_34) rfl (tlt hc34).1 (by decide) (by decide) k) ?_
      show ownGo p.tables e below T0 (mkF m 44 #[.val (.int x0)] []) _
      exact b1_44 hx hZ hw hby hml hown hret hlk X0 e0 N0 x0 r hr4
    · have hr4 := hr3.trans (if_neg hc34)
      refine ownGo.st (fun _ k => XS.icmpNo X0.here hx rfl (hb hby d1_34) rfl (flt hc34).1 k) ?_
      show ownGo p.tables e below T0 (mkF m 37 #[.val (.int x0)] []) _
      refine ownGo.st (fun _ k => XS.iloadN X0.here hx rfl (hb hby d1_37) rfl k) ?_
      show ownGo p.tables e below T0 (mkF m 38 #[.val (.int x0)] [(.int x0)]) _
      refine ownGo.st (fun _ k => XS.sipush X0.here hx rfl (hb hby d1_38)  k) ?_
      show ownGo p.tables e below T0 (mkF m 41 #[.val (.int x0)] [(.int (214 : Int32)), (.int x0)]) _
      by_cases hc41 : (214 : Int32) < x0
      · have hr27 := hr4.trans (if_pos hc41)
        refine ownGo.st (fun _ k => XS.icmpNo X0.here hx rfl (hb hby d1_41) rfl (tlt hc41).2.2.2 k) ?_
        show ownGo p.tables e below T0 (mkF m 44 #[.val (.int x0)] []) _
        exact b1_44 hx hZ hw hby hml hown hret hlk X0 e0 N0 x0 r hr27
      · have hr27 := hr4.trans (if_neg hc41)
        refine ownGo.st (fun _ k => XS.icmpYes X0.here hx rfl (pc0 := 41) (pc' := 191) rfl (hb hby d1_41) rfl (flt hc41).2.2.2 (by decide) (by decide) k) ?_
        show ownGo p.tables e below T0 (mkF m 191 #[.val (.int x0)] []) _
        exact b1_191 hx hZ hw hby hml hown hret hlk X0 e0 N0 x0 r hr27
def f1_12 (x0 : Int32) : Int32 := (if x0 < (65 : Int32) then (f1_24 x0) else (if (90 : Int32) < x0 then (f1_24 x0) else (f1_191 x0)))
set_option maxRecDepth 65536 in
set_option maxHeartbeats 40000000 in
theorem b1_12 {p : Program} {l : Launch} {e : Env} {s : State} {m : MethodId} {args : Array Value} {below : List Frame} {meth : Method} {c : Code} {T0 : State} {locs : List Loc} {Z : State} {a0 : Array Value} {h0 : Heap} {n0 : Nat} (hx : p.tables.exec = Jvm.exec) (hZ : Z.Warmed39 s.vm) (hw : ∀ d ∈ tables_1, d.before a0 Z = true) (hby : c.code = prog_405_method_8_code) (hml : c.maxLocals = 1) (hown : s.vm.findClass "com/example/lexipath/lexipath/xml/XmlNames" = some m.cls) (hret : meth.sig.returnType = (some .boolean)) (hlk : meth.locks = false) (X0 : Stand p l e R1 s m args below meth c T0 locs 0 0) (e0 : T0.heap = h0) (N0 : Fr n0 locs) (x0 : Int32) (r : Int32) (hr : r = f1_12 x0) :
    ownGo p.tables e below T0 (mkF m 12 #[.val (.int x0)] []) (ownDone s (ownPure (.int r) h0 n0) 0 0) := by
  have hr0 : r = (if x0 < (65 : Int32) then (f1_24 x0) else (if (90 : Int32) < x0 then (f1_24 x0) else (f1_191 x0))) := hr
  refine ownGo.st (fun _ k => XS.iloadN X0.here hx rfl (hb hby d1_12) rfl k) ?_
  show ownGo p.tables e below T0 (mkF m 13 #[.val (.int x0)] [(.int x0)]) _
  refine ownGo.st (fun _ k => XS.bipush X0.here hx rfl (hb hby d1_13)  k) ?_
  show ownGo p.tables e below T0 (mkF m 15 #[.val (.int x0)] [(.int (65 : Int32)), (.int x0)]) _
  by_cases hc15 : x0 < (65 : Int32)
  · have hr2 := hr0.trans (if_pos hc15)
    refine ownGo.st (fun _ k => XS.icmpYes X0.here hx rfl (pc0 := 15) (pc' := 24) rfl (hb hby d1_15) rfl (tlt hc15).1 (by decide) (by decide) k) ?_
    show ownGo p.tables e below T0 (mkF m 24 #[.val (.int x0)] []) _
    exact b1_24 hx hZ hw hby hml hown hret hlk X0 e0 N0 x0 r hr2
  · have hr2 := hr0.trans (if_neg hc15)
    refine ownGo.st (fun _ k => XS.icmpNo X0.here hx rfl (hb hby d1_15) rfl (flt hc15).1 k) ?_
    show ownGo p.tables e below T0 (mkF m 18 #[.val (.int x0)] []) _
    refine ownGo.st (fun _ k => XS.iloadN X0.here hx rfl (hb hby d1_18) rfl k) ?_
    show ownGo p.tables e below T0 (mkF m 19 #[.val (.int x0)] [(.int x0)]) _
    refine ownGo.st (fun _ k => XS.bipush X0.here hx rfl (hb hby d1_19)  k) ?_
    show ownGo p.tables e below T0 (mkF m 21 #[.val (.int x0)] [(.int (90 : Int32)), (.int x0)]) _
    by_cases hc21 : (90 : Int32) < x0
    · have hr28 := hr2.trans (if_pos hc21)
      refine ownGo.st (fun _ k => XS.icmpNo X0.here hx rfl (hb hby d1_21) rfl (tlt hc21).2.2.2 k) ?_
      show ownGo p.tables e below T0 (mkF m 24 #[.val (.int x0)] []) _
      exact b1_24 hx hZ hw hby hml hown hret hlk X0 e0 N0 x0 r hr28
    · have hr28 := hr2.trans (if_neg hc21)
      refine ownGo.st (fun _ k => XS.icmpYes X0.here hx rfl (pc0 := 21) (pc' := 191) rfl (hb hby d1_21) rfl (flt hc21).2.2.2 (by decide) (by decide) k) ?_
      show ownGo p.tables e below T0 (mkF m 191 #[.val (.int x0)] []) _
      exact b1_191 hx hZ hw hby hml hown hret hlk X0 e0 N0 x0 r hr28
def f1_0 (x0 : Int32) : Int32 := (if x0 < (97 : Int32) then (f1_12 x0) else (if (122 : Int32) < x0 then (f1_12 x0) else (f1_191 x0)))
set_option maxRecDepth 65536 in
set_option maxHeartbeats 40000000 in
theorem b1_0 {p : Program} {l : Launch} {e : Env} {s : State} {m : MethodId} {args : Array Value} {below : List Frame} {meth : Method} {c : Code} {T0 : State} {locs : List Loc} {Z : State} {a0 : Array Value} {h0 : Heap} {n0 : Nat} (hx : p.tables.exec = Jvm.exec) (hZ : Z.Warmed39 s.vm) (hw : ∀ d ∈ tables_1, d.before a0 Z = true) (hby : c.code = prog_405_method_8_code) (hml : c.maxLocals = 1) (hown : s.vm.findClass "com/example/lexipath/lexipath/xml/XmlNames" = some m.cls) (hret : meth.sig.returnType = (some .boolean)) (hlk : meth.locks = false) (X0 : Stand p l e R1 s m args below meth c T0 locs 0 0) (e0 : T0.heap = h0) (N0 : Fr n0 locs) (x0 : Int32) (r : Int32) (hr : r = f1_0 x0) :
    ownGo p.tables e below T0 (mkF m 0 #[.val (.int x0)] []) (ownDone s (ownPure (.int r) h0 n0) 0 0) := by
  have hr0 : r = (if x0 < (97 : Int32) then (f1_12 x0) else (if (122 : Int32) < x0 then (f1_12 x0) else (f1_191 x0))) := hr
  refine ownGo.st (fun _ k => XS.iloadN X0.here hx rfl (hb hby d1_0) rfl k) ?_
  show ownGo p.tables e below T0 (mkF m 1 #[.val (.int x0)] [(.int x0)]) _
  refine ownGo.st (fun _ k => XS.bipush X0.here hx rfl (hb hby d1_1)  k) ?_
  show ownGo p.tables e below T0 (mkF m 3 #[.val (.int x0)] [(.int (97 : Int32)), (.int x0)]) _
  by_cases hc3 : x0 < (97 : Int32)
  · have hr1 := hr0.trans (if_pos hc3)
    refine ownGo.st (fun _ k => XS.icmpYes X0.here hx rfl (pc0 := 3) (pc' := 12) rfl (hb hby d1_3) rfl (tlt hc3).1 (by decide) (by decide) k) ?_
    show ownGo p.tables e below T0 (mkF m 12 #[.val (.int x0)] []) _
    exact b1_12 hx hZ hw hby hml hown hret hlk X0 e0 N0 x0 r hr1
  · have hr1 := hr0.trans (if_neg hc3)
    refine ownGo.st (fun _ k => XS.icmpNo X0.here hx rfl (hb hby d1_3) rfl (flt hc3).1 k) ?_
    show ownGo p.tables e below T0 (mkF m 6 #[.val (.int x0)] []) _
    refine ownGo.st (fun _ k => XS.iloadN X0.here hx rfl (hb hby d1_6) rfl k) ?_
    show ownGo p.tables e below T0 (mkF m 7 #[.val (.int x0)] [(.int x0)]) _
    refine ownGo.st (fun _ k => XS.bipush X0.here hx rfl (hb hby d1_7)  k) ?_
    show ownGo p.tables e below T0 (mkF m 9 #[.val (.int x0)] [(.int (122 : Int32)), (.int x0)]) _
    by_cases hc9 : (122 : Int32) < x0
    · have hr29 := hr1.trans (if_pos hc9)
      refine ownGo.st (fun _ k => XS.icmpNo X0.here hx rfl (hb hby d1_9) rfl (tlt hc9).2.2.2 k) ?_
      show ownGo p.tables e below T0 (mkF m 12 #[.val (.int x0)] []) _
      exact b1_12 hx hZ hw hby hml hown hret hlk X0 e0 N0 x0 r hr29
    · have hr29 := hr1.trans (if_neg hc9)
      refine ownGo.st (fun _ k => XS.icmpYes X0.here hx rfl (pc0 := 9) (pc' := 191) rfl (hb hby d1_9) rfl (flt hc9).2.2.2 (by decide) (by decide) k) ?_
      show ownGo p.tables e below T0 (mkF m 191 #[.val (.int x0)] []) _
      exact b1_191 hx hZ hw hby hml hown hret hlk X0 e0 N0 x0 r hr29
abbrev F1 (x0 : Int32) : Int32 := f1_0 x0
theorem pn_1 : plainName "com/example/lexipath/lexipath/xml/XmlNames" = true := by first | (simp [plainName, overriddenIn]; done) | decide +kernel
theorem ef_1 (m : MethodId) (x0 : Int32) : entryFrame m #[(.int x0)] 1 = mkF m 0 #[.val (.int x0)] [] := by first | (simp [entryFrame, mkF, argsToLocals, Value.category]; done) | rfl
set_option maxRecDepth 65536 in
set_option maxHeartbeats 40000000 in
theorem rm1 (l : Launch) (Z : State) (a0 : Array Value) (hw : ∀ d ∈ tables_1, d.before a0 Z = true) (x0 : Int32) (h0 : Heap) (n0 : Nat)  :
    MetFree l (⟨"com/example/lexipath/lexipath/xml/XmlNames", "isNameStart", "(I)Z"⟩ : MethodName) (head1 [Jvm.Cond.code (⟨"com/example/lexipath/lexipath/xml/XmlNames", "isNameStart", "(I)Z"⟩ : MethodName) prog_405_method_8_code 1 (some .boolean)] R1) (fun a U => a = #[(.int x0)] ∧ Z.Warmed39 U.vm ∧ U.heap = h0) (fun _ _ _ _ _ => True) (fun _ U o U' => ∃ v L, o = .returned v ∧ ownPure (.int (F1 x0)) h0 n0 v U'.heap L ∧ FrameEnd U o U' L R1.cells R1.slots) := by
  refine MetFree.of_bodySF (plainFor_of_name pn_1) hisR ?_
  intro p e s m args below meth c s₁ Bd hml0 hP hK
  obtain ⟨rfl, hZ, hh⟩ := hP
  have hx := Bd.exec
  have hby := Bd.bytes
  have hml : c.maxLocals = 1 := hml0
  have hown : s.vm.findClass "com/example/lexipath/lexipath/xml/XmlNames" = some m.cls := findClass_of_methodNamed Bd.named
  have hnm := (name_of_methodNamed Bd.named Bd.method).1
  have hret := Bd.returns
  have hlk : meth.locks = false := BodyLoose.notSynchronized Bd
  have X0 : Stand p l e R1 s m #[(.int x0)] below meth c s₁ [] 0 0 := Stand.of_body Bd
  have e0 : s₁.heap = h0 := by rw [← hh, Bd.state]; rfl
  have N0 := Fr.nil n0
  show ownGo p.tables e below s₁ (entryFrame m #[(.int x0)] 1) (ownDone s (ownPure (.int (F1 x0)) h0 n0) R1.cells R1.slots)
  rw [ef_1 m x0]
  exact b1_0 hx hZ hw hby hml hown hret hlk X0 e0 N0 x0 _ rfl
theorem own_p1_191 (x0 : Int32) : f1_191 x0 = if (-2147483648 ≤ x0.toInt ∧ x0.toInt ≤ 2147483647) then 1 else 0 := by
  have r1 := x0.toInt_lt
  have r2 := x0.le_toInt
  show (1 : Int32) = _
  simp only [Int32.lt_iff_toInt_lt, ← Int32.toInt_inj, show (1 : Int32).toInt = 1 from rfl]
  repeat' split
  all_goals first | rfl | (exfalso; omega)
theorem own_p1_195 (x0 : Int32) : f1_195 x0 = if x0.toInt < x0.toInt then 1 else 0 := by
  have r1 := x0.toInt_lt
  have r2 := x0.le_toInt
  show (0 : Int32) = _
  simp only [Int32.lt_iff_toInt_lt, ← Int32.toInt_inj, show (0 : Int32).toInt = 0 from rfl]
  repeat' split
  all_goals first | rfl | (exfalso; omega)
theorem own_p1_179 (x0 : Int32) : f1_179 x0 = if (65536 ≤ x0.toInt ∧ x0.toInt ≤ 983039) then 1 else 0 := by
  have r1 := x0.toInt_lt
  have r2 := x0.le_toInt
  show (if x0 < (65536 : Int32) then (f1_195 x0) else (if (983039 : Int32) < x0 then (f1_195 x0) else (f1_191 x0))) = _
  rw [own_p1_195, own_p1_191]
  simp only [Int32.lt_iff_toInt_lt, ← Int32.toInt_inj, show (65536 : Int32).toInt = 65536 from rfl, show (983039 : Int32).toInt = 983039 from rfl]
  repeat' split
  all_goals first | rfl | (exfalso; omega)
theorem own_p1_167 (x0 : Int32) : f1_167 x0 = if (65008 ≤ x0.toInt ∧ x0.toInt ≤ 65533) ∨ (65536 ≤ x0.toInt ∧ x0.toInt ≤ 983039) then 1 else 0 := by
  have r1 := x0.toInt_lt
  have r2 := x0.le_toInt
  show (if x0 < (65008 : Int32) then (f1_179 x0) else (if (65533 : Int32) < x0 then (f1_179 x0) else (f1_191 x0))) = _
  rw [own_p1_179, own_p1_191]
  simp only [Int32.lt_iff_toInt_lt, ← Int32.toInt_inj, show (65008 : Int32).toInt = 65008 from rfl, show (65533 : Int32).toInt = 65533 from rfl]
  repeat' split
  all_goals first | rfl | (exfalso; omega)
theorem own_p1_155 (x0 : Int32) : f1_155 x0 = if (63744 ≤ x0.toInt ∧ x0.toInt ≤ 64975) ∨ (65008 ≤ x0.toInt ∧ x0.toInt ≤ 65533) ∨ (65536 ≤ x0.toInt ∧ x0.toInt ≤ 983039) then 1 else 0 := by
  have r1 := x0.toInt_lt
  have r2 := x0.le_toInt
  show (if x0 < (63744 : Int32) then (f1_167 x0) else (if (64975 : Int32) < x0 then (f1_167 x0) else (f1_191 x0))) = _
  rw [own_p1_167, own_p1_191]
  simp only [Int32.lt_iff_toInt_lt, ← Int32.toInt_inj, show (63744 : Int32).toInt = 63744 from rfl, show (64975 : Int32).toInt = 64975 from rfl]
  repeat' split
  all_goals first | rfl | (exfalso; omega)
theorem own_p1_142 (x0 : Int32) : f1_142 x0 = if (12289 ≤ x0.toInt ∧ x0.toInt ≤ 55295) ∨ (63744 ≤ x0.toInt ∧ x0.toInt ≤ 64975) ∨ (65008 ≤ x0.toInt ∧ x0.toInt ≤ 65533) ∨ (65536 ≤ x0.toInt ∧ x0.toInt ≤ 983039) then 1 else 0 := by
  have r1 := x0.toInt_lt
  have r2 := x0.le_toInt
  show (if x0 < (12289 : Int32) then (f1_155 x0) else (if (55295 : Int32) < x0 then (f1_155 x0) else (f1_191 x0))) = _
  rw [own_p1_155, own_p1_191]
  simp only [Int32.lt_iff_toInt_lt, ← Int32.toInt_inj, show (12289 : Int32).toInt = 12289 from rfl, show (55295 : Int32).toInt = 55295 from rfl]
  repeat' split
  all_goals first | rfl | (exfalso; omega)
theorem own_p1_128 (x0 : Int32) : f1_128 x0 = if (11264 ≤ x0.toInt ∧ x0.toInt ≤ 12271) ∨ (12289 ≤ x0.toInt ∧ x0.toInt ≤ 55295) ∨ (63744 ≤ x0.toInt ∧ x0.toInt ≤ 64975) ∨ (65008 ≤ x0.toInt ∧ x0.toInt ≤ 65533) ∨ (65536 ≤ x0.toInt ∧ x0.toInt ≤ 983039) then 1 else 0 := by
  have r1 := x0.toInt_lt
  have r2 := x0.le_toInt
  show (if x0 < (11264 : Int32) then (f1_142 x0) else (if (12271 : Int32) < x0 then (f1_142 x0) else (f1_191 x0))) = _
  rw [own_p1_142, own_p1_191]
  simp only [Int32.lt_iff_toInt_lt, ← Int32.toInt_inj, show (11264 : Int32).toInt = 11264 from rfl, show (12271 : Int32).toInt = 12271 from rfl]
  repeat' split
  all_goals first | rfl | (exfalso; omega)
theorem own_p1_114 (x0 : Int32) : f1_114 x0 = if (8304 ≤ x0.toInt ∧ x0.toInt ≤ 8591) ∨ (11264 ≤ x0.toInt ∧ x0.toInt ≤ 12271) ∨ (12289 ≤ x0.toInt ∧ x0.toInt ≤ 55295) ∨ (63744 ≤ x0.toInt ∧ x0.toInt ≤ 64975) ∨ (65008 ≤ x0.toInt ∧ x0.toInt ≤ 65533) ∨ (65536 ≤ x0.toInt ∧ x0.toInt ≤ 983039) then 1 else 0 := by
  have r1 := x0.toInt_lt
  have r2 := x0.le_toInt
  show (if x0 < (8304 : Int32) then (f1_128 x0) else (if (8591 : Int32) < x0 then (f1_128 x0) else (f1_191 x0))) = _
  rw [own_p1_128, own_p1_191]
  simp only [Int32.lt_iff_toInt_lt, ← Int32.toInt_inj, show (8304 : Int32).toInt = 8304 from rfl, show (8591 : Int32).toInt = 8591 from rfl]
  repeat' split
  all_goals first | rfl | (exfalso; omega)
theorem own_p1_100 (x0 : Int32) : f1_100 x0 = if (8204 ≤ x0.toInt ∧ x0.toInt ≤ 8205) ∨ (8304 ≤ x0.toInt ∧ x0.toInt ≤ 8591) ∨ (11264 ≤ x0.toInt ∧ x0.toInt ≤ 12271) ∨ (12289 ≤ x0.toInt ∧ x0.toInt ≤ 55295) ∨ (63744 ≤ x0.toInt ∧ x0.toInt ≤ 64975) ∨ (65008 ≤ x0.toInt ∧ x0.toInt ≤ 65533) ∨ (65536 ≤ x0.toInt ∧ x0.toInt ≤ 983039) then 1 else 0 := by
  have r1 := x0.toInt_lt
  have r2 := x0.le_toInt
  show (if x0 < (8204 : Int32) then (f1_114 x0) else (if (8205 : Int32) < x0 then (f1_114 x0) else (f1_191 x0))) = _
  rw [own_p1_114, own_p1_191]
  simp only [Int32.lt_iff_toInt_lt, ← Int32.toInt_inj, show (8204 : Int32).toInt = 8204 from rfl, show (8205 : Int32).toInt = 8205 from rfl]
  repeat' split
  all_goals first | rfl | (exfalso; omega)
theorem own_p1_86 (x0 : Int32) : f1_86 x0 = if (895 ≤ x0.toInt ∧ x0.toInt ≤ 8191) ∨ (8204 ≤ x0.toInt ∧ x0.toInt ≤ 8205) ∨ (8304 ≤ x0.toInt ∧ x0.toInt ≤ 8591) ∨ (11264 ≤ x0.toInt ∧ x0.toInt ≤ 12271) ∨ (12289 ≤ x0.toInt ∧ x0.toInt ≤ 55295) ∨ (63744 ≤ x0.toInt ∧ x0.toInt ≤ 64975) ∨ (65008 ≤ x0.toInt ∧ x0.toInt ≤ 65533) ∨ (65536 ≤ x0.toInt ∧ x0.toInt ≤ 983039) then 1 else 0 := by
  have r1 := x0.toInt_lt
  have r2 := x0.le_toInt
  show (if x0 < (895 : Int32) then (f1_100 x0) else (if (8191 : Int32) < x0 then (f1_100 x0) else (f1_191 x0))) = _
  rw [own_p1_100, own_p1_191]
  simp only [Int32.lt_iff_toInt_lt, ← Int32.toInt_inj, show (895 : Int32).toInt = 895 from rfl, show (8191 : Int32).toInt = 8191 from rfl]
  repeat' split
  all_goals first | rfl | (exfalso; omega)
theorem own_p1_72 (x0 : Int32) : f1_72 x0 = if (880 ≤ x0.toInt ∧ x0.toInt ≤ 893) ∨ (895 ≤ x0.toInt ∧ x0.toInt ≤ 8191) ∨ (8204 ≤ x0.toInt ∧ x0.toInt ≤ 8205) ∨ (8304 ≤ x0.toInt ∧ x0.toInt ≤ 8591) ∨ (11264 ≤ x0.toInt ∧ x0.toInt ≤ 12271) ∨ (12289 ≤ x0.toInt ∧ x0.toInt ≤ 55295) ∨ (63744 ≤ x0.toInt ∧ x0.toInt ≤ 64975) ∨ (65008 ≤ x0.toInt ∧ x0.toInt ≤ 65533) ∨ (65536 ≤ x0.toInt ∧ x0.toInt ≤ 983039) then 1 else 0 := by
  have r1 := x0.toInt_lt
  have r2 := x0.le_toInt
  show (if x0 < (880 : Int32) then (f1_86 x0) else (if (893 : Int32) < x0 then (f1_86 x0) else (f1_191 x0))) = _
  rw [own_p1_86, own_p1_191]
  simp only [Int32.lt_iff_toInt_lt, ← Int32.toInt_inj, show (880 : Int32).toInt = 880 from rfl, show (893 : Int32).toInt = 893 from rfl]
  repeat' split
  all_goals first | rfl | (exfalso; omega)
theorem own_p1_58 (x0 : Int32) : f1_58 x0 = if (248 ≤ x0.toInt ∧ x0.toInt ≤ 767) ∨ (880 ≤ x0.toInt ∧ x0.toInt ≤ 893) ∨ (895 ≤ x0.toInt ∧ x0.toInt ≤ 8191) ∨ (8204 ≤ x0.toInt ∧ x0.toInt ≤ 8205) ∨ (8304 ≤ x0.toInt ∧ x0.toInt ≤ 8591) ∨ (11264 ≤ x0.toInt ∧ x0.toInt ≤ 12271) ∨ (12289 ≤ x0.toInt ∧ x0.toInt ≤ 55295) ∨ (63744 ≤ x0.toInt ∧ x0.toInt ≤ 64975) ∨ (65008 ≤ x0.toInt ∧ x0.toInt ≤ 65533) ∨ (65536 ≤ x0.toInt ∧ x0.toInt ≤ 983039) then 1 else 0 := by
  have r1 := x0.toInt_lt
  have r2 := x0.le_toInt
  show (if x0 < (248 : Int32) then (f1_72 x0) else (if (767 : Int32) < x0 then (f1_72 x0) else (f1_191 x0))) = _
  rw [own_p1_72, own_p1_191]
  simp only [Int32.lt_iff_toInt_lt, ← Int32.toInt_inj, show (248 : Int32).toInt = 248 from rfl, show (767 : Int32).toInt = 767 from rfl]
  repeat' split
  all_goals first | rfl | (exfalso; omega)
theorem own_p1_44 (x0 : Int32) : f1_44 x0 = if (216 ≤ x0.toInt ∧ x0.toInt ≤ 246) ∨ (248 ≤ x0.toInt ∧ x0.toInt ≤ 767) ∨ (880 ≤ x0.toInt ∧ x0.toInt ≤ 893) ∨ (895 ≤ x0.toInt ∧ x0.toInt ≤ 8191) ∨ (8204 ≤ x0.toInt ∧ x0.toInt ≤ 8205) ∨ (8304 ≤ x0.toInt ∧ x0.toInt ≤ 8591) ∨ (11264 ≤ x0.toInt ∧ x0.toInt ≤ 12271) ∨ (12289 ≤ x0.toInt ∧ x0.toInt ≤ 55295) ∨ (63744 ≤ x0.toInt ∧ x0.toInt ≤ 64975) ∨ (65008 ≤ x0.toInt ∧ x0.toInt ≤ 65533) ∨ (65536 ≤ x0.toInt ∧ x0.toInt ≤ 983039) then 1 else 0 := by
  have r1 := x0.toInt_lt
  have r2 := x0.le_toInt
  show (if x0 < (216 : Int32) then (f1_58 x0) else (if (246 : Int32) < x0 then (f1_58 x0) else (f1_191 x0))) = _
  rw [own_p1_58, own_p1_191]
  simp only [Int32.lt_iff_toInt_lt, ← Int32.toInt_inj, show (216 : Int32).toInt = 216 from rfl, show (246 : Int32).toInt = 246 from rfl]
  repeat' split
  all_goals first | rfl | (exfalso; omega)
theorem own_p1_24 (x0 : Int32) : f1_24 x0 = if (95 ≤ x0.toInt ∧ x0.toInt ≤ 95) ∨ (192 ≤ x0.toInt ∧ x0.toInt ≤ 214) ∨ (216 ≤ x0.toInt ∧ x0.toInt ≤ 246) ∨ (248 ≤ x0.toInt ∧ x0.toInt ≤ 767) ∨ (880 ≤ x0.toInt ∧ x0.toInt ≤ 893) ∨ (895 ≤ x0.toInt ∧ x0.toInt ≤ 8191) ∨ (8204 ≤ x0.toInt ∧ x0.toInt ≤ 8205) ∨ (8304 ≤ x0.toInt ∧ x0.toInt ≤ 8591) ∨ (11264 ≤ x0.toInt ∧ x0.toInt ≤ 12271) ∨ (12289 ≤ x0.toInt ∧ x0.toInt ≤ 55295) ∨ (63744 ≤ x0.toInt ∧ x0.toInt ≤ 64975) ∨ (65008 ≤ x0.toInt ∧ x0.toInt ≤ 65533) ∨ (65536 ≤ x0.toInt ∧ x0.toInt ≤ 983039) then 1 else 0 := by
  have r1 := x0.toInt_lt
  have r2 := x0.le_toInt
  show (if x0 = (95 : Int32) then (f1_191 x0) else (if x0 < (192 : Int32) then (f1_44 x0) else (if (214 : Int32) < x0 then (f1_44 x0) else (f1_191 x0)))) = _
  rw [own_p1_191, own_p1_44]
  simp only [Int32.lt_iff_toInt_lt, ← Int32.toInt_inj, show (95 : Int32).toInt = 95 from rfl, show (192 : Int32).toInt = 192 from rfl, show (214 : Int32).toInt = 214 from rfl]
  repeat' split
  all_goals first | rfl | (exfalso; omega)
theorem own_p1_12 (x0 : Int32) : f1_12 x0 = if (65 ≤ x0.toInt ∧ x0.toInt ≤ 90) ∨ (95 ≤ x0.toInt ∧ x0.toInt ≤ 95) ∨ (192 ≤ x0.toInt ∧ x0.toInt ≤ 214) ∨ (216 ≤ x0.toInt ∧ x0.toInt ≤ 246) ∨ (248 ≤ x0.toInt ∧ x0.toInt ≤ 767) ∨ (880 ≤ x0.toInt ∧ x0.toInt ≤ 893) ∨ (895 ≤ x0.toInt ∧ x0.toInt ≤ 8191) ∨ (8204 ≤ x0.toInt ∧ x0.toInt ≤ 8205) ∨ (8304 ≤ x0.toInt ∧ x0.toInt ≤ 8591) ∨ (11264 ≤ x0.toInt ∧ x0.toInt ≤ 12271) ∨ (12289 ≤ x0.toInt ∧ x0.toInt ≤ 55295) ∨ (63744 ≤ x0.toInt ∧ x0.toInt ≤ 64975) ∨ (65008 ≤ x0.toInt ∧ x0.toInt ≤ 65533) ∨ (65536 ≤ x0.toInt ∧ x0.toInt ≤ 983039) then 1 else 0 := by
  have r1 := x0.toInt_lt
  have r2 := x0.le_toInt
  show (if x0 < (65 : Int32) then (f1_24 x0) else (if (90 : Int32) < x0 then (f1_24 x0) else (f1_191 x0))) = _
  rw [own_p1_24, own_p1_191]
  simp only [Int32.lt_iff_toInt_lt, ← Int32.toInt_inj, show (65 : Int32).toInt = 65 from rfl, show (90 : Int32).toInt = 90 from rfl]
  repeat' split
  all_goals first | rfl | (exfalso; omega)
theorem own_p1_0 (x0 : Int32) : f1_0 x0 = if (65 ≤ x0.toInt ∧ x0.toInt ≤ 90) ∨ (95 ≤ x0.toInt ∧ x0.toInt ≤ 95) ∨ (97 ≤ x0.toInt ∧ x0.toInt ≤ 122) ∨ (192 ≤ x0.toInt ∧ x0.toInt ≤ 214) ∨ (216 ≤ x0.toInt ∧ x0.toInt ≤ 246) ∨ (248 ≤ x0.toInt ∧ x0.toInt ≤ 767) ∨ (880 ≤ x0.toInt ∧ x0.toInt ≤ 893) ∨ (895 ≤ x0.toInt ∧ x0.toInt ≤ 8191) ∨ (8204 ≤ x0.toInt ∧ x0.toInt ≤ 8205) ∨ (8304 ≤ x0.toInt ∧ x0.toInt ≤ 8591) ∨ (11264 ≤ x0.toInt ∧ x0.toInt ≤ 12271) ∨ (12289 ≤ x0.toInt ∧ x0.toInt ≤ 55295) ∨ (63744 ≤ x0.toInt ∧ x0.toInt ≤ 64975) ∨ (65008 ≤ x0.toInt ∧ x0.toInt ≤ 65533) ∨ (65536 ≤ x0.toInt ∧ x0.toInt ≤ 983039) then 1 else 0 := by
  have r1 := x0.toInt_lt
  have r2 := x0.le_toInt
  show (if x0 < (97 : Int32) then (f1_12 x0) else (if (122 : Int32) < x0 then (f1_12 x0) else (f1_191 x0))) = _
  rw [own_p1_12, own_p1_191]
  simp only [Int32.lt_iff_toInt_lt, ← Int32.toInt_inj, show (97 : Int32).toInt = 97 from rfl, show (122 : Int32).toInt = 122 from rfl]
  repeat' split
  all_goals first | rfl | (exfalso; omega)
theorem d2_0 : decode method_2_code 0 = .ok (.iload_n 0, 1) := by decide +kernel
theorem d2_1 : decode method_2_code 1 = .ok (.bipush 65, 2) := by decide +kernel
theorem d2_3 : decode method_2_code 3 = .ok (.if_icmp .lt 167, 3) := by decide +kernel
theorem d2_6 : decode method_2_code 6 = .ok (.iload_n 0, 1) := by decide +kernel
theorem d2_7 : decode method_2_code 7 = .ok (.bipush 91, 2) := by decide +kernel
theorem d2_9 : decode method_2_code 9 = .ok (.if_icmp .lt 9, 3) := by decide +kernel
theorem d2_12 : decode method_2_code 12 = .ok (.iload_n 0, 1) := by decide +kernel
theorem d2_13 : decode method_2_code 13 = .ok (.bipush 94, 2) := by decide +kernel
theorem d2_15 : decode method_2_code 15 = .ok (.if_icmp .le 155, 3) := by decide +kernel
theorem d2_18 : decode method_2_code 18 = .ok (.iload_n 0, 1) := by decide +kernel
theorem d2_19 : decode method_2_code 19 = .ok (.bipush 96, 2) := by decide +kernel
theorem d2_21 : decode method_2_code 21 = .ok (.if_icmp .eq 149, 3) := by decide +kernel
theorem d2_24 : decode method_2_code 24 = .ok (.iload_n 0, 1) := by decide +kernel
theorem d2_25 : decode method_2_code 25 = .ok (.bipush 123, 2) := by decide +kernel
theorem d2_27 : decode method_2_code 27 = .ok (.if_icmp .lt 10, 3) := by decide +kernel
theorem d2_30 : decode method_2_code 30 = .ok (.iload_n 0, 1) := by decide +kernel
theorem d2_31 : decode method_2_code 31 = .ok (.sipush 191, 3) := by decide +kernel
theorem d2_34 : decode method_2_code 34 = .ok (.if_icmp .le 136, 3) := by decide +kernel
theorem d2_37 : decode method_2_code 37 = .ok (.iload_n 0, 1) := by decide +kernel
theorem d2_38 : decode method_2_code 38 = .ok (.sipush 215, 3) := by decide +kernel
theorem d2_41 : decode method_2_code 41 = .ok (.if_icmp .eq 129, 3) := by decide +kernel
theorem d2_44 : decode method_2_code 44 = .ok (.iload_n 0, 1) := by decide +kernel
theorem d2_45 : decode method_2_code 45 = .ok (.sipush 247, 3) := by decide +kernel
theorem d2_48 : decode method_2_code 48 = .ok (.if_icmp .eq 122, 3) := by decide +kernel
theorem d2_51 : decode method_2_code 51 = .ok (.iload_n 0, 1) := by decide +kernel
theorem d2_52 : decode method_2_code 52 = .ok (.sipush 768, 3) := by decide +kernel
theorem d2_55 : decode method_2_code 55 = .ok (.if_icmp .lt 10, 3) := by decide +kernel
theorem d2_58 : decode method_2_code 58 = .ok (.iload_n 0, 1) := by decide +kernel
theorem d2_59 : decode method_2_code 59 = .ok (.sipush 879, 3) := by decide +kernel
theorem d2_62 : decode method_2_code 62 = .ok (.if_icmp .le 108, 3) := by decide +kernel
theorem d2_65 : decode method_2_code 65 = .ok (.iload_n 0, 1) := by decide +kernel
theorem d2_66 : decode method_2_code 66 = .ok (.sipush 894, 3) := by decide +kernel
theorem d2_69 : decode method_2_code 69 = .ok (.if_icmp .eq 101, 3) := by decide +kernel
theorem d2_72 : decode method_2_code 72 = .ok (.iload_n 0, 1) := by decide +kernel
theorem d2_73 : decode method_2_code 73 = .ok (.sipush 8192, 3) := by decide +kernel
theorem d2_76 : decode method_2_code 76 = .ok (.if_icmp .lt 10, 3) := by decide +kernel
theorem d2_79 : decode method_2_code 79 = .ok (.iload_n 0, 1) := by decide +kernel
theorem d2_80 : decode method_2_code 80 = .ok (.sipush 8203, 3) := by decide +kernel
theorem d2_83 : decode method_2_code 83 = .ok (.if_icmp .le 87, 3) := by decide +kernel
theorem d2_86 : decode method_2_code 86 = .ok (.iload_n 0, 1) := by decide +kernel
theorem d2_87 : decode method_2_code 87 = .ok (.sipush 8206, 3) := by decide +kernel
theorem d2_90 : decode method_2_code 90 = .ok (.if_icmp .lt 10, 3) := by decide +kernel
theorem d2_93 : decode method_2_code 93 = .ok (.iload_n 0, 1) := by decide +kernel
theorem d2_94 : decode method_2_code 94 = .ok (.sipush 8303, 3) := by decide +kernel
theorem d2_97 : decode method_2_code 97 = .ok (.if_icmp .le 73, 3) := by decide +kernel
theorem d2_100 : decode method_2_code 100 = .ok (.iload_n 0, 1) := by decide +kernel
theorem d2_101 : decode method_2_code 101 = .ok (.sipush 8592, 3) := by decide +kernel
theorem d2_104 : decode method_2_code 104 = .ok (.if_icmp .lt 10, 3) := by decide +kernel
theorem d2_107 : decode method_2_code 107 = .ok (.iload_n 0, 1) := by decide +kernel
theorem d2_108 : decode method_2_code 108 = .ok (.sipush 11263, 3) := by decide +kernel
theorem d2_111 : decode method_2_code 111 = .ok (.if_icmp .le 59, 3) := by decide +kernel
theorem d2_114 : decode method_2_code 114 = .ok (.iload_n 0, 1) := by decide +kernel
theorem d2_115 : decode method_2_code 115 = .ok (.sipush 12272, 3) := by decide +kernel
theorem d2_118 : decode method_2_code 118 = .ok (.if_icmp .lt 10, 3) := by decide +kernel
theorem d2_121 : decode method_2_code 121 = .ok (.iload_n 0, 1) := by decide +kernel
theorem d2_122 : decode method_2_code 122 = .ok (.sipush 12288, 3) := by decide +kernel
theorem d2_125 : decode method_2_code 125 = .ok (.if_icmp .le 45, 3) := by decide +kernel
theorem d2_128 : decode method_2_code 128 = .ok (.iload_n 0, 1) := by decide +kernel
theorem d2_129 : decode method_2_code 129 = .ok (.ldc 7, 2) := by decide +kernel
theorem d2_131 : decode method_2_code 131 = .ok (.if_icmp .lt 9, 3) := by decide +kernel
theorem d2_134 : decode method_2_code 134 = .ok (.iload_n 0, 1) := by decide +kernel
theorem d2_135 : decode method_2_code 135 = .ok (.ldc 8, 2) := by decide +kernel
theorem d2_137 : decode method_2_code 137 = .ok (.if_icmp .le 33, 3) := by decide +kernel
theorem d2_140 : decode method_2_code 140 = .ok (.iload_n 0, 1) := by decide +kernel
theorem d2_141 : decode method_2_code 141 = .ok (.ldc 9, 2) := by decide +kernel
theorem d2_143 : decode method_2_code 143 = .ok (.if_icmp .lt 9, 3) := by decide +kernel
theorem d2_146 : decode method_2_code 146 = .ok (.iload_n 0, 1) := by decide +kernel
theorem d2_147 : decode method_2_code 147 = .ok (.ldc 10, 2) := by decide +kernel
theorem d2_149 : decode method_2_code 149 = .ok (.if_icmp .le 21, 3) := by decide +kernel
theorem d2_152 : decode method_2_code 152 = .ok (.iload_n 0, 1) := by decide +kernel
theorem d2_153 : decode method_2_code 153 = .ok (.ldc 11, 2) := by decide +kernel
theorem d2_155 : decode method_2_code 155 = .ok (.if_icmp .lt 9, 3) := by decide +kernel
theorem d2_158 : decode method_2_code 158 = .ok (.iload_n 0, 1) := by decide +kernel
theorem d2_159 : decode method_2_code 159 = .ok (.ldc 12, 2) := by decide +kernel
theorem d2_161 : decode method_2_code 161 = .ok (.if_icmp .le 9, 3) := by decide +kernel
theorem d2_164 : decode method_2_code 164 = .ok (.iload_n 0, 1) := by decide +kernel
theorem d2_165 : decode method_2_code 165 = .ok (.ldc 13, 2) := by decide +kernel
theorem d2_167 : decode method_2_code 167 = .ok (.if_icmp .le 7, 3) := by decide +kernel
theorem d2_170 : decode method_2_code 170 = .ok (.iconst 1, 1) := by decide +kernel
theorem d2_171 : decode method_2_code 171 = .ok (.goto 4, 3) := by decide +kernel
theorem d2_174 : decode method_2_code 174 = .ok (.iconst 0, 1) := by decide +kernel
theorem d2_175 : decode method_2_code 175 = .ok (.ireturn, 1) := by decide +kernel
abbrev R2 : Room := { frames := 0, cells := 0, slots := 0, locals := 0 }
def f2_170 (x0 : Int32) : Int32 := (1 : Int32)
set_option maxRecDepth 65536 in
set_option maxHeartbeats 40000000 in
theorem b2_170 {p : Program} {l : Launch} {e : Env} {s : State} {m : MethodId} {args : Array Value} {below : List Frame} {meth : Method} {c : Code} {T0 : State} {locs : List Loc} {Z : State} {a0 : Array Value} {h0 : Heap} {n0 : Nat} (hx : p.tables.exec = Jvm.exec) (hZ : Z.Warmed39 s.vm) (hw : ∀ d ∈ tables_1, d.before a0 Z = true) (hby : c.code = method_2_code) (hml : c.maxLocals = 1) (hown : s.vm.findClass "com/example/lexipath/lexipath/xml/XmlNamesIsNameStartPinLaw" = some m.cls) (hret : meth.sig.returnType = (some .boolean)) (hlk : meth.locks = false) (X0 : Stand p l e R2 s m args below meth c T0 locs 0 0) (e0 : T0.heap = h0) (N0 : Fr n0 locs) (x0 : Int32) (r : Int32) (hr : r = f2_170 x0) :
    ownGo p.tables e below T0 (mkF m 170 #[.val (.int x0)] []) (ownDone s (ownPure (.int r) h0 n0) 0 0) := by
  have hr0 : r = (1 : Int32) := hr
  refine ownGo.st (fun _ k => XS.iconst X0.here hx rfl (hb hby d2_170)  k) ?_
  show ownGo p.tables e below T0 (mkF m 171 #[.val (.int x0)] [(.int (1 : Int32))]) _
  refine ownGo.st (fun _ k => XS.goto X0.here hx rfl (pc0 := 171) (pc' := 175) rfl (hb hby d2_171) (by decide) (by decide) k) ?_
  show ownGo p.tables e below T0 (mkF m 175 #[.val (.int x0)] [(.int (1 : Int32))]) _
  exact own_retZ X0 hx hlk hret (hb hby d2_175) (by first | exact Or.inl rfl | exact Or.inr rfl) ⟨congrArg (fun z => some (Value.int z)) hr0.symm, N0, e0⟩ (Nat.le_refl _) (Nat.le_refl _)
def f2_164 (x0 : Int32) : Int32 := (if (983039 : Int32) < x0 then (f2_170 x0) else (0 : Int32))
set_option maxRecDepth 65536 in
set_option maxHeartbeats 40000000 in
theorem b2_164 {p : Program} {l : Launch} {e : Env} {s : State} {m : MethodId} {args : Array Value} {below : List Frame} {meth : Method} {c : Code} {T0 : State} {locs : List Loc} {Z : State} {a0 : Array Value} {h0 : Heap} {n0 : Nat} (hx : p.tables.exec = Jvm.exec) (hZ : Z.Warmed39 s.vm) (hw : ∀ d ∈ tables_1, d.before a0 Z = true) (hby : c.code = method_2_code) (hml : c.maxLocals = 1) (hown : s.vm.findClass "com/example/lexipath/lexipath/xml/XmlNamesIsNameStartPinLaw" = some m.cls) (hret : meth.sig.returnType = (some .boolean)) (hlk : meth.locks = false) (X0 : Stand p l e R2 s m args below meth c T0 locs 0 0) (e0 : T0.heap = h0) (N0 : Fr n0 locs) (x0 : Int32) (r : Int32) (hr : r = f2_164 x0) :
    ownGo p.tables e below T0 (mkF m 164 #[.val (.int x0)] []) (ownDone s (ownPure (.int r) h0 n0) 0 0) := by
  have hr0 : r = (if (983039 : Int32) < x0 then (f2_170 x0) else (0 : Int32)) := hr
  refine ownGo.st (fun _ k => XS.iloadN X0.here hx rfl (hb hby d2_164) rfl k) ?_
  show ownGo p.tables e below T0 (mkF m 165 #[.val (.int x0)] [(.int x0)]) _
  refine ownGo.st (X0.ldcInt hx hown (mvT hZ (own_at hw 21 rfl)) (g := (mkF m 165 #[.val (.int x0)] [(.int x0)])) rfl (hb hby d2_165)) ?_
  show ownGo p.tables e below T0 (mkF m 167 #[.val (.int x0)] [(.int (983039 : Int32)), (.int x0)]) _
  by_cases hc167 : (983039 : Int32) < x0
  · have hr45 := hr0.trans (if_pos hc167)
    refine ownGo.st (fun _ k => XS.icmpNo X0.here hx rfl (hb hby d2_167) rfl (tlt hc167).2.2.2 k) ?_
    show ownGo p.tables e below T0 (mkF m 170 #[.val (.int x0)] []) _
    exact b2_170 hx hZ hw hby hml hown hret hlk X0 e0 N0 x0 r hr45
  · have hr45 := hr0.trans (if_neg hc167)
    refine ownGo.st (fun _ k => XS.icmpYes X0.here hx rfl (pc0 := 167) (pc' := 174) rfl (hb hby d2_167) rfl (flt hc167).2.2.2 (by decide) (by decide) k) ?_
    show ownGo p.tables e below T0 (mkF m 174 #[.val (.int x0)] []) _
    refine ownGo.st (fun _ k => XS.iconst X0.here hx rfl (hb hby d2_174)  k) ?_
    show ownGo p.tables e below T0 (mkF m 175 #[.val (.int x0)] [(.int (0 : Int32))]) _
    exact own_retZ X0 hx hlk hret (hb hby d2_175) (by first | exact Or.inl rfl | exact Or.inr rfl) ⟨congrArg (fun z => some (Value.int z)) hr45.symm, N0, e0⟩ (Nat.le_refl _) (Nat.le_refl _)
def f2_152 (x0 : Int32) : Int32 := (if x0 < (65534 : Int32) then (f2_164 x0) else (if (65535 : Int32) < x0 then (f2_164 x0) else (f2_170 x0)))
set_option maxRecDepth 65536 in
set_option maxHeartbeats 40000000 in
theorem b2_152 {p : Program} {l : Launch} {e : Env} {s : State} {m : MethodId} {args : Array Value} {below : List Frame} {meth : Method} {c : Code} {T0 : State} {locs : List Loc} {Z : State} {a0 : Array Value} {h0 : Heap} {n0 : Nat} (hx : p.tables.exec = Jvm.exec) (hZ : Z.Warmed39 s.vm) (hw : ∀ d ∈ tables_1, d.before a0 Z = true) (hby : c.code = method_2_code) (hml : c.maxLocals = 1) (hown : s.vm.findClass "com/example/lexipath/lexipath/xml/XmlNamesIsNameStartPinLaw" = some m.cls) (hret : meth.sig.returnType = (some .boolean)) (hlk : meth.locks = false) (X0 : Stand p l e R2 s m args below meth c T0 locs 0 0) (e0 : T0.heap = h0) (N0 : Fr n0 locs) (x0 : Int32) (r : Int32) (hr : r = f2_152 x0) :
    ownGo p.tables e below T0 (mkF m 152 #[.val (.int x0)] []) (ownDone s (ownPure (.int r) h0 n0) 0 0) := by
  have hr0 : r = (if x0 < (65534 : Int32) then (f2_164 x0) else (if (65535 : Int32) < x0 then (f2_164 x0) else (f2_170 x0))) := hr
  refine ownGo.st (fun _ k => XS.iloadN X0.here hx rfl (hb hby d2_152) rfl k) ?_
  show ownGo p.tables e below T0 (mkF m 153 #[.val (.int x0)] [(.int x0)]) _
  refine ownGo.st (X0.ldcInt hx hown (mvT hZ (own_at hw 6 rfl)) (g := (mkF m 153 #[.val (.int x0)] [(.int x0)])) rfl (hb hby d2_153)) ?_
  show ownGo p.tables e below T0 (mkF m 155 #[.val (.int x0)] [(.int (65534 : Int32)), (.int x0)]) _
  by_cases hc155 : x0 < (65534 : Int32)
  · have hr44 := hr0.trans (if_pos hc155)
    refine ownGo.st (fun _ k => XS.icmpYes X0.here hx rfl (pc0 := 155) (pc' := 164) rfl (hb hby d2_155) rfl (tlt hc155).1 (by decide) (by decide) k) ?_
    show ownGo p.tables e below T0 (mkF m 164 #[.val (.int x0)] []) _
    exact b2_164 hx hZ hw hby hml hown hret hlk X0 e0 N0 x0 r hr44
  · have hr44 := hr0.trans (if_neg hc155)
    refine ownGo.st (fun _ k => XS.icmpNo X0.here hx rfl (hb hby d2_155) rfl (flt hc155).1 k) ?_
    show ownGo p.tables e below T0 (mkF m 158 #[.val (.int x0)] []) _
    refine ownGo.st (fun _ k => XS.iloadN X0.here hx rfl (hb hby d2_158) rfl k) ?_
    show ownGo p.tables e below T0 (mkF m 159 #[.val (.int x0)] [(.int x0)]) _
    refine ownGo.st (X0.ldcInt hx hown (mvT hZ (own_at hw 27 rfl)) (g := (mkF m 159 #[.val (.int x0)] [(.int x0)])) rfl (hb hby d2_159)) ?_
    show ownGo p.tables e below T0 (mkF m 161 #[.val (.int x0)] [(.int (65535 : Int32)), (.int x0)]) _
    by_cases hc161 : (65535 : Int32) < x0
    · have hr46 := hr44.trans (if_pos hc161)
      refine ownGo.st (fun _ k => XS.icmpNo X0.here hx rfl (hb hby d2_161) rfl (tlt hc161).2.2.2 k) ?_
      show ownGo p.tables e below T0 (mkF m 164 #[.val (.int x0)] []) _
      exact b2_164 hx hZ hw hby hml hown hret hlk X0 e0 N0 x0 r hr46
    · have hr46 := hr44.trans (if_neg hc161)
      refine ownGo.st (fun _ k => XS.icmpYes X0.here hx rfl (pc0 := 161) (pc' := 170) rfl (hb hby d2_161) rfl (flt hc161).2.2.2 (by decide) (by decide) k) ?_
      show ownGo p.tables e below T0 (mkF m 170 #[.val (.int x0)] []) _
      exact b2_170 hx hZ hw hby hml hown hret hlk X0 e0 N0 x0 r hr46
def f2_140 (x0 : Int32) : Int32 := (if x0 < (64976 : Int32) then (f2_152 x0) else (if (65007 : Int32) < x0 then (f2_152 x0) else (f2_170 x0)))
set_option maxRecDepth 65536 in
set_option maxHeartbeats 40000000 in
theorem b2_140 {p : Program} {l : Launch} {e : Env} {s : State} {m : MethodId} {args : Array Value} {below : List Frame} {meth : Method} {c : Code} {T0 : State} {locs : List Loc} {Z : State} {a0 : Array Value} {h0 : Heap} {n0 : Nat} (hx : p.tables.exec = Jvm.exec) (hZ : Z.Warmed39 s.vm) (hw : ∀ d ∈ tables_1, d.before a0 Z = true) (hby : c.code = method_2_code) (hml : c.maxLocals = 1) (hown : s.vm.findClass "com/example/lexipath/lexipath/xml/XmlNamesIsNameStartPinLaw" = some m.cls) (hret : meth.sig.returnType = (some .boolean)) (hlk : meth.locks = false) (X0 : Stand p l e R2 s m args below meth c T0 locs 0 0) (e0 : T0.heap = h0) (N0 : Fr n0 locs) (x0 : Int32) (r : Int32) (hr : r = f2_140 x0) :
    ownGo p.tables e below T0 (mkF m 140 #[.val (.int x0)] []) (ownDone s (ownPure (.int r) h0 n0) 0 0) := by
  have hr0 : r = (if x0 < (64976 : Int32) then (f2_152 x0) else (if (65007 : Int32) < x0 then (f2_152 x0) else (f2_170 x0))) := hr
  refine ownGo.st (fun _ k => XS.iloadN X0.here hx rfl (hb hby d2_140) rfl k) ?_
  show ownGo p.tables e below T0 (mkF m 141 #[.val (.int x0)] [(.int x0)]) _
  refine ownGo.st (X0.ldcInt hx hown (mvT hZ (own_at hw 4 rfl)) (g := (mkF m 141 #[.val (.int x0)] [(.int x0)])) rfl (hb hby d2_141)) ?_
  show ownGo p.tables e below T0 (mkF m 143 #[.val (.int x0)] [(.int (64976 : Int32)), (.int x0)]) _
  by_cases hc143 : x0 < (64976 : Int32)
  · have hr43 := hr0.trans (if_pos hc143)
    refine ownGo.st (fun _ k => XS.icmpYes X0.here hx rfl (pc0 := 143) (pc' := 152) rfl (hb hby d2_143) rfl (tlt hc143).1 (by decide) (by decide) k) ?_
    show ownGo p.tables e below T0 (mkF m 152 #[.val (.int x0)] []) _
    exact b2_152 hx hZ hw hby hml hown hret hlk X0 e0 N0 x0 r hr43
  · have hr43 := hr0.trans (if_neg hc143)
    refine ownGo.st (fun _ k => XS.icmpNo X0.here hx rfl (hb hby d2_143) rfl (flt hc143).1 k) ?_
    show ownGo p.tables e below T0 (mkF m 146 #[.val (.int x0)] []) _
    refine ownGo.st (fun _ k => XS.iloadN X0.here hx rfl (hb hby d2_146) rfl k) ?_
    show ownGo p.tables e below T0 (mkF m 147 #[.val (.int x0)] [(.int x0)]) _
    refine ownGo.st (X0.ldcInt hx hown (mvT hZ (own_at hw 26 rfl)) (g := (mkF m 147 #[.val (.int x0)] [(.int x0)])) rfl (hb hby d2_147)) ?_
    show ownGo p.tables e below T0 (mkF m 149 #[.val (.int x0)] [(.int (65007 : Int32)), (.int x0)]) _
    by_cases hc149 : (65007 : Int32) < x0
    · have hr47 := hr43.trans (if_pos hc149)
      refine ownGo.st (fun _ k => XS.icmpNo X0.here hx rfl (hb hby d2_149) rfl (tlt hc149).2.2.2 k) ?_
      show ownGo p.tables e below T0 (mkF m 152 #[.val (.int x0)] []) _
      exact b2_152 hx hZ hw hby hml hown hret hlk X0 e0 N0 x0 r hr47
    · have hr47 := hr43.trans (if_neg hc149)
      refine ownGo.st (fun _ k => XS.icmpYes X0.here hx rfl (pc0 := 149) (pc' := 170) rfl (hb hby d2_149) rfl (flt hc149).2.2.2 (by decide) (by decide) k) ?_
      show ownGo p.tables e below T0 (mkF m 170 #[.val (.int x0)] []) _
      exact b2_170 hx hZ hw hby hml hown hret hlk X0 e0 N0 x0 r hr47
def f2_128 (x0 : Int32) : Int32 := (if x0 < (55296 : Int32) then (f2_140 x0) else (if (63743 : Int32) < x0 then (f2_140 x0) else (f2_170 x0)))
set_option maxRecDepth 65536 in
set_option maxHeartbeats 40000000 in
theorem b2_128 {p : Program} {l : Launch} {e : Env} {s : State} {m : MethodId} {args : Array Value} {below : List Frame} {meth : Method} {c : Code} {T0 : State} {locs : List Loc} {Z : State} {a0 : Array Value} {h0 : Heap} {n0 : Nat} (hx : p.tables.exec = Jvm.exec) (hZ : Z.Warmed39 s.vm) (hw : ∀ d ∈ tables_1, d.before a0 Z = true) (hby : c.code = method_2_code) (hml : c.maxLocals = 1) (hown : s.vm.findClass "com/example/lexipath/lexipath/xml/XmlNamesIsNameStartPinLaw" = some m.cls) (hret : meth.sig.returnType = (some .boolean)) (hlk : meth.locks = false) (X0 : Stand p l e R2 s m args below meth c T0 locs 0 0) (e0 : T0.heap = h0) (N0 : Fr n0 locs) (x0 : Int32) (r : Int32) (hr : r = f2_128 x0) :
    ownGo p.tables e below T0 (mkF m 128 #[.val (.int x0)] []) (ownDone s (ownPure (.int r) h0 n0) 0 0) := by
  have hr0 : r = (if x0 < (55296 : Int32) then (f2_140 x0) else (if (63743 : Int32) < x0 then (f2_140 x0) else (f2_170 x0))) := hr
  refine ownGo.st (fun _ k => XS.iloadN X0.here hx rfl (hb hby d2_128) rfl k) ?_
  show ownGo p.tables e below T0 (mkF m 129 #[.val (.int x0)] [(.int x0)]) _
  refine ownGo.st (X0.ldcInt hx hown (mvT hZ (own_at hw 2 rfl)) (g := (mkF m 129 #[.val (.int x0)] [(.int x0)])) rfl (hb hby d2_129)) ?_
  show ownGo p.tables e below T0 (mkF m 131 #[.val (.int x0)] [(.int (55296 : Int32)), (.int x0)]) _
  by_cases hc131 : x0 < (55296 : Int32)
  · have hr42 := hr0.trans (if_pos hc131)
    refine ownGo.st (fun _ k => XS.icmpYes X0.here hx rfl (pc0 := 131) (pc' := 140) rfl (hb hby d2_131) rfl (tlt hc131).1 (by decide) (by decide) k) ?_
    show ownGo p.tables e below T0 (mkF m 140 #[.val (.int x0)] []) _
    exact b2_140 hx hZ hw hby hml hown hret hlk X0 e0 N0 x0 r hr42
  · have hr42 := hr0.trans (if_neg hc131)
    refine ownGo.st (fun _ k => XS.icmpNo X0.here hx rfl (hb hby d2_131) rfl (flt hc131).1 k) ?_
    show ownGo p.tables e below T0 (mkF m 134 #[.val (.int x0)] []) _
    refine ownGo.st (fun _ k => XS.iloadN X0.here hx rfl (hb hby d2_134) rfl k) ?_
    show ownGo p.tables e below T0 (mkF m 135 #[.val (.int x0)] [(.int x0)]) _
    refine ownGo.st (X0.ldcInt hx hown (mvT hZ (own_at hw 25 rfl)) (g := (mkF m 135 #[.val (.int x0)] [(.int x0)])) rfl (hb hby d2_135)) ?_
    show ownGo p.tables e below T0 (mkF m 137 #[.val (.int x0)] [(.int (63743 : Int32)), (.int x0)]) _
    by_cases hc137 : (63743 : Int32) < x0
    · have hr48 := hr42.trans (if_pos hc137)
      refine ownGo.st (fun _ k => XS.icmpNo X0.here hx rfl (hb hby d2_137) rfl (tlt hc137).2.2.2 k) ?_
      show ownGo p.tables e below T0 (mkF m 140 #[.val (.int x0)] []) _
      exact b2_140 hx hZ hw hby hml hown hret hlk X0 e0 N0 x0 r hr48
    · have hr48 := hr42.trans (if_neg hc137)
      refine ownGo.st (fun _ k => XS.icmpYes X0.here hx rfl (pc0 := 137) (pc' := 170) rfl (hb hby d2_137) rfl (flt hc137).2.2.2 (by decide) (by decide) k) ?_
      show ownGo p.tables e below T0 (mkF m 170 #[.val (.int x0)] []) _
      exact b2_170 hx hZ hw hby hml hown hret hlk X0 e0 N0 x0 r hr48
def f2_114 (x0 : Int32) : Int32 := (if x0 < (12272 : Int32) then (f2_128 x0) else (if (12288 : Int32) < x0 then (f2_128 x0) else (f2_170 x0)))
set_option maxRecDepth 65536 in
set_option maxHeartbeats 40000000 in
theorem b2_114 {p : Program} {l : Launch} {e : Env} {s : State} {m : MethodId} {args : Array Value} {below : List Frame} {meth : Method} {c : Code} {T0 : State} {locs : List Loc} {Z : State} {a0 : Array Value} {h0 : Heap} {n0 : Nat} (hx : p.tables.exec = Jvm.exec) (hZ : Z.Warmed39 s.vm) (hw : ∀ d ∈ tables_1, d.before a0 Z = true) (hby : c.code = method_2_code) (hml : c.maxLocals = 1) (hown : s.vm.findClass "com/example/lexipath/lexipath/xml/XmlNamesIsNameStartPinLaw" = some m.cls) (hret : meth.sig.returnType = (some .boolean)) (hlk : meth.locks = false) (X0 : Stand p l e R2 s m args below meth c T0 locs 0 0) (e0 : T0.heap = h0) (N0 : Fr n0 locs) (x0 : Int32) (r : Int32) (hr : r = f2_114 x0) :
    ownGo p.tables e below T0 (mkF m 114 #[.val (.int x0)] []) (ownDone s (ownPure (.int r) h0 n0) 0 0) := by
  have hr0 : r = (if x0 < (12272 : Int32) then (f2_128 x0) else (if (12288 : Int32) < x0 then (f2_128 x0) else (f2_170 x0))) := hr
  refine ownGo.st (fun _ k => XS.iloadN X0.here hx rfl (hb hby d2_114) rfl k) ?_
  show ownGo p.tables e below T0 (mkF m 115 #[.val (.int x0)] [(.int x0)]) _
  refine ownGo.st (fun _ k => XS.sipush X0.here hx rfl (hb hby d2_115)  k) ?_
  show ownGo p.tables e below T0 (mkF m 118 #[.val (.int x0)] [(.int (12272 : Int32)), (.int x0)]) _
  by_cases hc118 : x0 < (12272 : Int32)
  · have hr41 := hr0.trans (if_pos hc118)
    refine ownGo.st (fun _ k => XS.icmpYes X0.here hx rfl (pc0 := 118) (pc' := 128) rfl (hb hby d2_118) rfl (tlt hc118).1 (by decide) (by decide) k) ?_
    show ownGo p.tables e below T0 (mkF m 128 #[.val (.int x0)] []) _
    exact b2_128 hx hZ hw hby hml hown hret hlk X0 e0 N0 x0 r hr41
  · have hr41 := hr0.trans (if_neg hc118)
    refine ownGo.st (fun _ k => XS.icmpNo X0.here hx rfl (hb hby d2_118) rfl (flt hc118).1 k) ?_
    show ownGo p.tables e below T0 (mkF m 121 #[.val (.int x0)] []) _
    refine ownGo.st (fun _ k => XS.iloadN X0.here hx rfl (hb hby d2_121) rfl k) ?_
    show ownGo p.tables e below T0 (mkF m 122 #[.val (.int x0)] [(.int x0)]) _
    refine ownGo.st (fun _ k => XS.sipush X0.here hx rfl (hb hby d2_122)  k) ?_
    show ownGo p.tables e below T0 (mkF m 125 #[.val (.int x0)] [(.int (12288 : Int32)), (.int x0)]) _
    by_cases hc125 : (12288 : Int32) < x0
    · have hr49 := hr41.trans (if_pos hc125)
      refine ownGo.st (fun _ k => XS.icmpNo X0.here hx rfl (hb hby d2_125) rfl (tlt hc125).2.2.2 k) ?_
      show ownGo p.tables e below T0 (mkF m 128 #[.val (.int x0)] []) _
      exact b2_128 hx hZ hw hby hml hown hret hlk X0 e0 N0 x0 r hr49
    · have hr49 := hr41.trans (if_neg hc125)
      refine ownGo.st (fun _ k => XS.icmpYes X0.here hx rfl (pc0 := 125) (pc' := 170) rfl (hb hby d2_125) rfl (flt hc125).2.2.2 (by decide) (by decide) k) ?_
      show ownGo p.tables e below T0 (mkF m 170 #[.val (.int x0)] []) _
      exact b2_170 hx hZ hw hby hml hown hret hlk X0 e0 N0 x0 r hr49
def f2_100 (x0 : Int32) : Int32 := (if x0 < (8592 : Int32) then (f2_114 x0) else (if (11263 : Int32) < x0 then (f2_114 x0) else (f2_170 x0)))
set_option maxRecDepth 65536 in
set_option maxHeartbeats 40000000 in
theorem b2_100 {p : Program} {l : Launch} {e : Env} {s : State} {m : MethodId} {args : Array Value} {below : List Frame} {meth : Method} {c : Code} {T0 : State} {locs : List Loc} {Z : State} {a0 : Array Value} {h0 : Heap} {n0 : Nat} (hx : p.tables.exec = Jvm.exec) (hZ : Z.Warmed39 s.vm) (hw : ∀ d ∈ tables_1, d.before a0 Z = true) (hby : c.code = method_2_code) (hml : c.maxLocals = 1) (hown : s.vm.findClass "com/example/lexipath/lexipath/xml/XmlNamesIsNameStartPinLaw" = some m.cls) (hret : meth.sig.returnType = (some .boolean)) (hlk : meth.locks = false) (X0 : Stand p l e R2 s m args below meth c T0 locs 0 0) (e0 : T0.heap = h0) (N0 : Fr n0 locs) (x0 : Int32) (r : Int32) (hr : r = f2_100 x0) :
    ownGo p.tables e below T0 (mkF m 100 #[.val (.int x0)] []) (ownDone s (ownPure (.int r) h0 n0) 0 0) := by
  have hr0 : r = (if x0 < (8592 : Int32) then (f2_114 x0) else (if (11263 : Int32) < x0 then (f2_114 x0) else (f2_170 x0))) := hr
  refine ownGo.st (fun _ k => XS.iloadN X0.here hx rfl (hb hby d2_100) rfl k) ?_
  show ownGo p.tables e below T0 (mkF m 101 #[.val (.int x0)] [(.int x0)]) _
  refine ownGo.st (fun _ k => XS.sipush X0.here hx rfl (hb hby d2_101)  k) ?_
  show ownGo p.tables e below T0 (mkF m 104 #[.val (.int x0)] [(.int (8592 : Int32)), (.int x0)]) _
  by_cases hc104 : x0 < (8592 : Int32)
  · have hr40 := hr0.trans (if_pos hc104)
    refine ownGo.st (fun _ k => XS.icmpYes X0.here hx rfl (pc0 := 104) (pc' := 114) rfl (hb hby d2_104) rfl (tlt hc104).1 (by decide) (by decide) k) ?_
    show ownGo p.tables e below T0 (mkF m 114 #[.val (.int x0)] []) _
    exact b2_114 hx hZ hw hby hml hown hret hlk X0 e0 N0 x0 r hr40
  · have hr40 := hr0.trans (if_neg hc104)
    refine ownGo.st (fun _ k => XS.icmpNo X0.here hx rfl (hb hby d2_104) rfl (flt hc104).1 k) ?_
    show ownGo p.tables e below T0 (mkF m 107 #[.val (.int x0)] []) _
    refine ownGo.st (fun _ k => XS.iloadN X0.here hx rfl (hb hby d2_107) rfl k) ?_
    show ownGo p.tables e below T0 (mkF m 108 #[.val (.int x0)] [(.int x0)]) _
    refine ownGo.st (fun _ k => XS.sipush X0.here hx rfl (hb hby d2_108)  k) ?_
    show ownGo p.tables e below T0 (mkF m 111 #[.val (.int x0)] [(.int (11263 : Int32)), (.int x0)]) _
    by_cases hc111 : (11263 : Int32) < x0
    · have hr50 := hr40.trans (if_pos hc111)
      refine ownGo.st (fun _ k => XS.icmpNo X0.here hx rfl (hb hby d2_111) rfl (tlt hc111).2.2.2 k) ?_
      show ownGo p.tables e below T0 (mkF m 114 #[.val (.int x0)] []) _
      exact b2_114 hx hZ hw hby hml hown hret hlk X0 e0 N0 x0 r hr50
    · have hr50 := hr40.trans (if_neg hc111)
      refine ownGo.st (fun _ k => XS.icmpYes X0.here hx rfl (pc0 := 111) (pc' := 170) rfl (hb hby d2_111) rfl (flt hc111).2.2.2 (by decide) (by decide) k) ?_
      show ownGo p.tables e below T0 (mkF m 170 #[.val (.int x0)] []) _
      exact b2_170 hx hZ hw hby hml hown hret hlk X0 e0 N0 x0 r hr50
def f2_86 (x0 : Int32) : Int32 := (if x0 < (8206 : Int32) then (f2_100 x0) else (if (8303 : Int32) < x0 then (f2_100 x0) else (f2_170 x0)))
set_option maxRecDepth 65536 in
set_option maxHeartbeats 40000000 in
theorem b2_86 {p : Program} {l : Launch} {e : Env} {s : State} {m : MethodId} {args : Array Value} {below : List Frame} {meth : Method} {c : Code} {T0 : State} {locs : List Loc} {Z : State} {a0 : Array Value} {h0 : Heap} {n0 : Nat} (hx : p.tables.exec = Jvm.exec) (hZ : Z.Warmed39 s.vm) (hw : ∀ d ∈ tables_1, d.before a0 Z = true) (hby : c.code = method_2_code) (hml : c.maxLocals = 1) (hown : s.vm.findClass "com/example/lexipath/lexipath/xml/XmlNamesIsNameStartPinLaw" = some m.cls) (hret : meth.sig.returnType = (some .boolean)) (hlk : meth.locks = false) (X0 : Stand p l e R2 s m args below meth c T0 locs 0 0) (e0 : T0.heap = h0) (N0 : Fr n0 locs) (x0 : Int32) (r : Int32) (hr : r = f2_86 x0) :
    ownGo p.tables e below T0 (mkF m 86 #[.val (.int x0)] []) (ownDone s (ownPure (.int r) h0 n0) 0 0) := by
  have hr0 : r = (if x0 < (8206 : Int32) then (f2_100 x0) else (if (8303 : Int32) < x0 then (f2_100 x0) else (f2_170 x0))) := hr
  refine ownGo.st (fun _ k => XS.iloadN X0.here hx rfl (hb hby d2_86) rfl k) ?_
  show ownGo p.tables e below T0 (mkF m 87 #[.val (.int x0)] [(.int x0)]) _
  refine ownGo.st (fun _ k => XS.sipush X0.here hx rfl (hb hby d2_87)  k) ?_
  show ownGo p.tables e below T0 (mkF m 90 #[.val (.int x0)] [(.int (8206 : Int32)), (.int x0)]) _
  by_cases hc90 : x0 < (8206 : Int32)
  · have hr39 := hr0.trans (if_pos hc90)
    refine ownGo.st (fun _ k => XS.icmpYes X0.here hx rfl (pc0 := 90) (pc' := 100) rfl (hb hby d2_90) rfl (tlt hc90).1 (by decide) (by decide) k) ?_
    show ownGo p.tables e below T0 (mkF m 100 #[.val (.int x0)] []) _
    exact b2_100 hx hZ hw hby hml hown hret hlk X0 e0 N0 x0 r hr39
  · have hr39 := hr0.trans (if_neg hc90)
    refine ownGo.st (fun _ k => XS.icmpNo X0.here hx rfl (hb hby d2_90) rfl (flt hc90).1 k) ?_
    show ownGo p.tables e below T0 (mkF m 93 #[.val (.int x0)] []) _
    refine ownGo.st (fun _ k => XS.iloadN X0.here hx rfl (hb hby d2_93) rfl k) ?_
    show ownGo p.tables e below T0 (mkF m 94 #[.val (.int x0)] [(.int x0)]) _
    refine ownGo.st (fun _ k => XS.sipush X0.here hx rfl (hb hby d2_94)  k) ?_
    show ownGo p.tables e below T0 (mkF m 97 #[.val (.int x0)] [(.int (8303 : Int32)), (.int x0)]) _
    by_cases hc97 : (8303 : Int32) < x0
    · have hr51 := hr39.trans (if_pos hc97)
      refine ownGo.st (fun _ k => XS.icmpNo X0.here hx rfl (hb hby d2_97) rfl (tlt hc97).2.2.2 k) ?_
      show ownGo p.tables e below T0 (mkF m 100 #[.val (.int x0)] []) _
      exact b2_100 hx hZ hw hby hml hown hret hlk X0 e0 N0 x0 r hr51
    · have hr51 := hr39.trans (if_neg hc97)
      refine ownGo.st (fun _ k => XS.icmpYes X0.here hx rfl (pc0 := 97) (pc' := 170) rfl (hb hby d2_97) rfl (flt hc97).2.2.2 (by decide) (by decide) k) ?_
      show ownGo p.tables e below T0 (mkF m 170 #[.val (.int x0)] []) _
      exact b2_170 hx hZ hw hby hml hown hret hlk X0 e0 N0 x0 r hr51
def f2_65 (x0 : Int32) : Int32 := (if x0 = (894 : Int32) then (f2_170 x0) else (if x0 < (8192 : Int32) then (f2_86 x0) else (if (8203 : Int32) < x0 then (f2_86 x0) else (f2_170 x0))))
set_option maxRecDepth 65536 in
set_option maxHeartbeats 40000000 in
theorem b2_65 {p : Program} {l : Launch} {e : Env} {s : State} {m : MethodId} {args : Array Value} {below : List Frame} {meth : Method} {c : Code} {T0 : State} {locs : List Loc} {Z : State} {a0 : Array Value} {h0 : Heap} {n0 : Nat} (hx : p.tables.exec = Jvm.exec) (hZ : Z.Warmed39 s.vm) (hw : ∀ d ∈ tables_1, d.before a0 Z = true) (hby : c.code = method_2_code) (hml : c.maxLocals = 1) (hown : s.vm.findClass "com/example/lexipath/lexipath/xml/XmlNamesIsNameStartPinLaw" = some m.cls) (hret : meth.sig.returnType = (some .boolean)) (hlk : meth.locks = false) (X0 : Stand p l e R2 s m args below meth c T0 locs 0 0) (e0 : T0.heap = h0) (N0 : Fr n0 locs) (x0 : Int32) (r : Int32) (hr : r = f2_65 x0) :
    ownGo p.tables e below T0 (mkF m 65 #[.val (.int x0)] []) (ownDone s (ownPure (.int r) h0 n0) 0 0) := by
  have hr0 : r = (if x0 = (894 : Int32) then (f2_170 x0) else (if x0 < (8192 : Int32) then (f2_86 x0) else (if (8203 : Int32) < x0 then (f2_86 x0) else (f2_170 x0)))) := hr
  refine ownGo.st (fun _ k => XS.iloadN X0.here hx rfl (hb hby d2_65) rfl k) ?_
  show ownGo p.tables e below T0 (mkF m 66 #[.val (.int x0)] [(.int x0)]) _
  refine ownGo.st (fun _ k => XS.sipush X0.here hx rfl (hb hby d2_66)  k) ?_
  show ownGo p.tables e below T0 (mkF m 69 #[.val (.int x0)] [(.int (894 : Int32)), (.int x0)]) _
  by_cases hc69 : x0 = (894 : Int32)
  · have hr37 := hr0.trans (if_pos hc69)
    refine ownGo.st (fun _ k => XS.icmpYes X0.here hx rfl (pc0 := 69) (pc' := 170) rfl (hb hby d2_69) rfl (teq hc69).1 (by decide) (by decide) k) ?_
    show ownGo p.tables e below T0 (mkF m 170 #[.val (.int x0)] []) _
    exact b2_170 hx hZ hw hby hml hown hret hlk X0 e0 N0 x0 r hr37
  · have hr37 := hr0.trans (if_neg hc69)
    refine ownGo.st (fun _ k => XS.icmpNo X0.here hx rfl (hb hby d2_69) rfl (feq hc69).1 k) ?_
    show ownGo p.tables e below T0 (mkF m 72 #[.val (.int x0)] []) _
    refine ownGo.st (fun _ k => XS.iloadN X0.here hx rfl (hb hby d2_72) rfl k) ?_
    show ownGo p.tables e below T0 (mkF m 73 #[.val (.int x0)] [(.int x0)]) _
    refine ownGo.st (fun _ k => XS.sipush X0.here hx rfl (hb hby d2_73)  k) ?_
    show ownGo p.tables e below T0 (mkF m 76 #[.val (.int x0)] [(.int (8192 : Int32)), (.int x0)]) _
    by_cases hc76 : x0 < (8192 : Int32)
    · have hr38 := hr37.trans (if_pos hc76)
      refine ownGo.st (fun _ k => XS.icmpYes X0.here hx rfl (pc0 := 76) (pc' := 86) rfl (hb hby d2_76) rfl (tlt hc76).1 (by decide) (by decide) k) ?_
      show ownGo p.tables e below T0 (mkF m 86 #[.val (.int x0)] []) _
      exact b2_86 hx hZ hw hby hml hown hret hlk X0 e0 N0 x0 r hr38
    · have hr38 := hr37.trans (if_neg hc76)
      refine ownGo.st (fun _ k => XS.icmpNo X0.here hx rfl (hb hby d2_76) rfl (flt hc76).1 k) ?_
      show ownGo p.tables e below T0 (mkF m 79 #[.val (.int x0)] []) _
      refine ownGo.st (fun _ k => XS.iloadN X0.here hx rfl (hb hby d2_79) rfl k) ?_
      show ownGo p.tables e below T0 (mkF m 80 #[.val (.int x0)] [(.int x0)]) _
      refine ownGo.st (fun _ k => XS.sipush X0.here hx rfl (hb hby d2_80)  k) ?_
      show ownGo p.tables e below T0 (mkF m 83 #[.val (.int x0)] [(.int (8203 : Int32)), (.int x0)]) _
      by_cases hc83 : (8203 : Int32) < x0
      · have hr52 := hr38.trans (if_pos hc83)
        refine ownGo.st (fun _ k => XS.icmpNo X0.here hx rfl (hb hby d2_83) rfl (tlt hc83).2.2.2 k) ?_
        show ownGo p.tables e below T0 (mkF m 86 #[.val (.int x0)] []) _
        exact b2_86 hx hZ hw hby hml hown hret hlk X0 e0 N0 x0 r hr52
      · have hr52 := hr38.trans (if_neg hc83)
        refine ownGo.st (fun _ k => XS.icmpYes X0.here hx rfl (pc0 := 83) (pc' := 170) rfl (hb hby d2_83) rfl (flt hc83).2.2.2 (by decide) (by decide) k) ?_
        show ownGo p.tables e below T0 (mkF m 170 #[.val (.int x0)] []) _
        exact b2_170 hx hZ hw hby hml hown hret hlk X0 e0 N0 x0 r hr52
def f2_37 (x0 : Int32) : Int32 := (if x0 = (215 : Int32) then (f2_170 x0) else (if x0 = (247 : Int32) then (f2_170 x0) else (if x0 < (768 : Int32) then (f2_65 x0) else (if (879 : Int32) < x0 then (f2_65 x0) else (f2_170 x0)))))
set_option maxRecDepth 65536 in
set_option maxHeartbeats 40000000 in
theorem b2_37 {p : Program} {l : Launch} {e : Env} {s : State} {m : MethodId} {args : Array Value} {below : List Frame} {meth : Method} {c : Code} {T0 : State} {locs : List Loc} {Z : State} {a0 : Array Value} {h0 : Heap} {n0 : Nat} (hx : p.tables.exec = Jvm.exec) (hZ : Z.Warmed39 s.vm) (hw : ∀ d ∈ tables_1, d.before a0 Z = true) (hby : c.code = method_2_code) (hml : c.maxLocals = 1) (hown : s.vm.findClass "com/example/lexipath/lexipath/xml/XmlNamesIsNameStartPinLaw" = some m.cls) (hret : meth.sig.returnType = (some .boolean)) (hlk : meth.locks = false) (X0 : Stand p l e R2 s m args below meth c T0 locs 0 0) (e0 : T0.heap = h0) (N0 : Fr n0 locs) (x0 : Int32) (r : Int32) (hr : r = f2_37 x0) :
    ownGo p.tables e below T0 (mkF m 37 #[.val (.int x0)] []) (ownDone s (ownPure (.int r) h0 n0) 0 0) := by
  have hr0 : r = (if x0 = (215 : Int32) then (f2_170 x0) else (if x0 = (247 : Int32) then (f2_170 x0) else (if x0 < (768 : Int32) then (f2_65 x0) else (if (879 : Int32) < x0 then (f2_65 x0) else (f2_170 x0))))) := hr
  refine ownGo.st (fun _ k => XS.iloadN X0.here hx rfl (hb hby d2_37) rfl k) ?_
  show ownGo p.tables e below T0 (mkF m 38 #[.val (.int x0)] [(.int x0)]) _
  refine ownGo.st (fun _ k => XS.sipush X0.here hx rfl (hb hby d2_38)  k) ?_
  show ownGo p.tables e below T0 (mkF m 41 #[.val (.int x0)] [(.int (215 : Int32)), (.int x0)]) _
  by_cases hc41 : x0 = (215 : Int32)
  · have hr34 := hr0.trans (if_pos hc41)
    refine ownGo.st (fun _ k => XS.icmpYes X0.here hx rfl (pc0 := 41) (pc' := 170) rfl (hb hby d2_41) rfl (teq hc41).1 (by decide) (by decide) k) ?_
    show ownGo p.tables e below T0 (mkF m 170 #[.val (.int x0)] []) _
    exact b2_170 hx hZ hw hby hml hown hret hlk X0 e0 N0 x0 r hr34
  · have hr34 := hr0.trans (if_neg hc41)
    refine ownGo.st (fun _ k => XS.icmpNo X0.here hx rfl (hb hby d2_41) rfl (feq hc41).1 k) ?_
    show ownGo p.tables e below T0 (mkF m 44 #[.val (.int x0)] []) _
    refine ownGo.st (fun _ k => XS.iloadN X0.here hx rfl (hb hby d2_44) rfl k) ?_
    show ownGo p.tables e below T0 (mkF m 45 #[.val (.int x0)] [(.int x0)]) _
    refine ownGo.st (fun _ k => XS.sipush X0.here hx rfl (hb hby d2_45)  k) ?_
    show ownGo p.tables e below T0 (mkF m 48 #[.val (.int x0)] [(.int (247 : Int32)), (.int x0)]) _
    by_cases hc48 : x0 = (247 : Int32)
    · have hr35 := hr34.trans (if_pos hc48)
      refine ownGo.st (fun _ k => XS.icmpYes X0.here hx rfl (pc0 := 48) (pc' := 170) rfl (hb hby d2_48) rfl (teq hc48).1 (by decide) (by decide) k) ?_
      show ownGo p.tables e below T0 (mkF m 170 #[.val (.int x0)] []) _
      exact b2_170 hx hZ hw hby hml hown hret hlk X0 e0 N0 x0 r hr35
    · have hr35 := hr34.trans (if_neg hc48)
      refine ownGo.st (fun _ k => XS.icmpNo X0.here hx rfl (hb hby d2_48) rfl (feq hc48).1 k) ?_
      show ownGo p.tables e below T0 (mkF m 51 #[.val (.int x0)] []) _
      refine ownGo.st (fun _ k => XS.iloadN X0.here hx rfl (hb hby d2_51) rfl k) ?_
      show ownGo p.tables e below T0 (mkF m 52 #[.val (.int x0)] [(.int x0)]) _
      refine ownGo.st (fun _ k => XS.sipush X0.here hx rfl (hb hby d2_52)  k) ?_
      show ownGo p.tables e below T0 (mkF m 55 #[.val (.int x0)] [(.int (768 : Int32)), (.int x0)]) _
      by_cases hc55 : x0 < (768 : Int32)
      · have hr36 := hr35.trans (if_pos hc55)
        refine ownGo.st (fun _ k => XS.icmpYes X0.here hx rfl (pc0 := 55) (pc' := 65) rfl (hb hby d2_55) rfl (tlt hc55).1 (by decide) (by decide) k) ?_
        show ownGo p.tables e below T0 (mkF m 65 #[.val (.int x0)] []) _
        exact b2_65 hx hZ hw hby hml hown hret hlk X0 e0 N0 x0 r hr36
      · have hr36 := hr35.trans (if_neg hc55)
        refine ownGo.st (fun _ k => XS.icmpNo X0.here hx rfl (hb hby d2_55) rfl (flt hc55).1 k) ?_
        show ownGo p.tables e below T0 (mkF m 58 #[.val (.int x0)] []) _
        refine ownGo.st (fun _ k => XS.iloadN X0.here hx rfl (hb hby d2_58) rfl k) ?_
        show ownGo p.tables e below T0 (mkF m 59 #[.val (.int x0)] [(.int x0)]) _
        refine ownGo.st (fun _ k => XS.sipush X0.here hx rfl (hb hby d2_59)  k) ?_
        show ownGo p.tables e below T0 (mkF m 62 #[.val (.int x0)] [(.int (879 : Int32)), (.int x0)]) _
        by_cases hc62 : (879 : Int32) < x0
        · have hr53 := hr36.trans (if_pos hc62)
          refine ownGo.st (fun _ k => XS.icmpNo X0.here hx rfl (hb hby d2_62) rfl (tlt hc62).2.2.2 k) ?_
          show ownGo p.tables e below T0 (mkF m 65 #[.val (.int x0)] []) _
          exact b2_65 hx hZ hw hby hml hown hret hlk X0 e0 N0 x0 r hr53
        · have hr53 := hr36.trans (if_neg hc62)
          refine ownGo.st (fun _ k => XS.icmpYes X0.here hx rfl (pc0 := 62) (pc' := 170) rfl (hb hby d2_62) rfl (flt hc62).2.2.2 (by decide) (by decide) k) ?_
          show ownGo p.tables e below T0 (mkF m 170 #[.val (.int x0)] []) _
          exact b2_170 hx hZ hw hby hml hown hret hlk X0 e0 N0 x0 r hr53
def f2_18 (x0 : Int32) : Int32 := (if x0 = (96 : Int32) then (f2_170 x0) else (if x0 < (123 : Int32) then (f2_37 x0) else (if (191 : Int32) < x0 then (f2_37 x0) else (f2_170 x0))))
set_option maxRecDepth 65536 in
set_option maxHeartbeats 40000000 in
theorem b2_18 {p : Program} {l : Launch} {e : Env} {s : State} {m : MethodId} {args : Array Value} {below : List Frame} {meth : Method} {c : Code} {T0 : State} {locs : List Loc} {Z : State} {a0 : Array Value} {h0 : Heap} {n0 : Nat} (hx : p.tables.exec = Jvm.exec) (hZ : Z.Warmed39 s.vm) (hw : ∀ d ∈ tables_1, d.before a0 Z = true) (hby : c.code = method_2_code) (hml : c.maxLocals = 1) (hown : s.vm.findClass "com/example/lexipath/lexipath/xml/XmlNamesIsNameStartPinLaw" = some m.cls) (hret : meth.sig.returnType = (some .boolean)) (hlk : meth.locks = false) (X0 : Stand p l e R2 s m args below meth c T0 locs 0 0) (e0 : T0.heap = h0) (N0 : Fr n0 locs) (x0 : Int32) (r : Int32) (hr : r = f2_18 x0) :
    ownGo p.tables e below T0 (mkF m 18 #[.val (.int x0)] []) (ownDone s (ownPure (.int r) h0 n0) 0 0) := by
  have hr0 : r = (if x0 = (96 : Int32) then (f2_170 x0) else (if x0 < (123 : Int32) then (f2_37 x0) else (if (191 : Int32) < x0 then (f2_37 x0) else (f2_170 x0)))) := hr
  refine ownGo.st (fun _ k => XS.iloadN X0.here hx rfl (hb hby d2_18) rfl k) ?_
  show ownGo p.tables e below T0 (mkF m 19 #[.val (.int x0)] [(.int x0)]) _
  refine ownGo.st (fun _ k => XS.bipush X0.here hx rfl (hb hby d2_19)  k) ?_
  show ownGo p.tables e below T0 (mkF m 21 #[.val (.int x0)] [(.int (96 : Int32)), (.int x0)]) _
  by_cases hc21 : x0 = (96 : Int32)
  · have hr32 := hr0.trans (if_pos hc21)
    refine ownGo.st (fun _ k => XS.icmpYes X0.here hx rfl (pc0 := 21) (pc' := 170) rfl (hb hby d2_21) rfl (teq hc21).1 (by decide) (by decide) k) ?_
    show ownGo p.tables e below T0 (mkF m 170 #[.val (.int x0)] []) _
    exact b2_170 hx hZ hw hby hml hown hret hlk X0 e0 N0 x0 r hr32
  · have hr32 := hr0.trans (if_neg hc21)
    refine ownGo.st (fun _ k => XS.icmpNo X0.here hx rfl (hb hby d2_21) rfl (feq hc21).1 k) ?_
    show ownGo p.tables e below T0 (mkF m 24 #[.val (.int x0)] []) _
    refine ownGo.st (fun _ k => XS.iloadN X0.here hx rfl (hb hby d2_24) rfl k) ?_
    show ownGo p.tables e below T0 (mkF m 25 #[.val (.int x0)] [(.int x0)]) _
    refine ownGo.st (fun _ k => XS.bipush X0.here hx rfl (hb hby d2_25)  k) ?_
    show ownGo p.tables e below T0 (mkF m 27 #[.val (.int x0)] [(.int (123 : Int32)), (.int x0)]) _
    by_cases hc27 : x0 < (123 : Int32)
    · have hr33 := hr32.trans (if_pos hc27)
      refine ownGo.st (fun _ k => XS.icmpYes X0.here hx rfl (pc0 := 27) (pc' := 37) rfl (hb hby d2_27) rfl (tlt hc27).1 (by decide) (by decide) k) ?_
      show ownGo p.tables e below T0 (mkF m 37 #[.val (.int x0)] []) _
      exact b2_37 hx hZ hw hby hml hown hret hlk X0 e0 N0 x0 r hr33
    · have hr33 := hr32.trans (if_neg hc27)
      refine ownGo.st (fun _ k => XS.icmpNo X0.here hx rfl (hb hby d2_27) rfl (flt hc27).1 k) ?_
      show ownGo p.tables e below T0 (mkF m 30 #[.val (.int x0)] []) _
      refine ownGo.st (fun _ k => XS.iloadN X0.here hx rfl (hb hby d2_30) rfl k) ?_
      show ownGo p.tables e below T0 (mkF m 31 #[.val (.int x0)] [(.int x0)]) _
      refine ownGo.st (fun _ k => XS.sipush X0.here hx rfl (hb hby d2_31)  k) ?_
      show ownGo p.tables e below T0 (mkF m 34 #[.val (.int x0)] [(.int (191 : Int32)), (.int x0)]) _
      by_cases hc34 : (191 : Int32) < x0
      · have hr54 := hr33.trans (if_pos hc34)
        refine ownGo.st (fun _ k => XS.icmpNo X0.here hx rfl (hb hby d2_34) rfl (tlt hc34).2.2.2 k) ?_
        show ownGo p.tables e below T0 (mkF m 37 #[.val (.int x0)] []) _
        exact b2_37 hx hZ hw hby hml hown hret hlk X0 e0 N0 x0 r hr54
      · have hr54 := hr33.trans (if_neg hc34)
        refine ownGo.st (fun _ k => XS.icmpYes X0.here hx rfl (pc0 := 34) (pc' := 170) rfl (hb hby d2_34) rfl (flt hc34).2.2.2 (by decide) (by decide) k) ?_
        show ownGo p.tables e below T0 (mkF m 170 #[.val (.int x0)] []) _
        exact b2_170 hx hZ hw hby hml hown hret hlk X0 e0 N0 x0 r hr54
def f2_0 (x0 : Int32) : Int32 := (if x0 < (65 : Int32) then (f2_170 x0) else (if x0 < (91 : Int32) then (f2_18 x0) else (if (94 : Int32) < x0 then (f2_18 x0) else (f2_170 x0))))
set_option maxRecDepth 65536 in
set_option maxHeartbeats 40000000 in
theorem b2_0 {p : Program} {l : Launch} {e : Env} {s : State} {m : MethodId} {args : Array Value} {below : List Frame} {meth : Method} {c : Code} {T0 : State} {locs : List Loc} {Z : State} {a0 : Array Value} {h0 : Heap} {n0 : Nat} (hx : p.tables.exec = Jvm.exec) (hZ : Z.Warmed39 s.vm) (hw : ∀ d ∈ tables_1, d.before a0 Z = true) (hby : c.code = method_2_code) (hml : c.maxLocals = 1) (hown : s.vm.findClass "com/example/lexipath/lexipath/xml/XmlNamesIsNameStartPinLaw" = some m.cls) (hret : meth.sig.returnType = (some .boolean)) (hlk : meth.locks = false) (X0 : Stand p l e R2 s m args below meth c T0 locs 0 0) (e0 : T0.heap = h0) (N0 : Fr n0 locs) (x0 : Int32) (r : Int32) (hr : r = f2_0 x0) :
    ownGo p.tables e below T0 (mkF m 0 #[.val (.int x0)] []) (ownDone s (ownPure (.int r) h0 n0) 0 0) := by
  have hr0 : r = (if x0 < (65 : Int32) then (f2_170 x0) else (if x0 < (91 : Int32) then (f2_18 x0) else (if (94 : Int32) < x0 then (f2_18 x0) else (f2_170 x0)))) := hr
  refine ownGo.st (fun _ k => XS.iloadN X0.here hx rfl (hb hby d2_0) rfl k) ?_
  show ownGo p.tables e below T0 (mkF m 1 #[.val (.int x0)] [(.int x0)]) _
  refine ownGo.st (fun _ k => XS.bipush X0.here hx rfl (hb hby d2_1)  k) ?_
  show ownGo p.tables e below T0 (mkF m 3 #[.val (.int x0)] [(.int (65 : Int32)), (.int x0)]) _
  by_cases hc3 : x0 < (65 : Int32)
  · have hr30 := hr0.trans (if_pos hc3)
    refine ownGo.st (fun _ k => XS.icmpYes X0.here hx rfl (pc0 := 3) (pc' := 170) rfl (hb hby d2_3) rfl (tlt hc3).1 (by decide) (by decide) k) ?_
    show ownGo p.tables e below T0 (mkF m 170 #[.val (.int x0)] []) _
    exact b2_170 hx hZ hw hby hml hown hret hlk X0 e0 N0 x0 r hr30
  · have hr30 := hr0.trans (if_neg hc3)
    refine ownGo.st (fun _ k => XS.icmpNo X0.here hx rfl (hb hby d2_3) rfl (flt hc3).1 k) ?_
    show ownGo p.tables e below T0 (mkF m 6 #[.val (.int x0)] []) _
    refine ownGo.st (fun _ k => XS.iloadN X0.here hx rfl (hb hby d2_6) rfl k) ?_
    show ownGo p.tables e below T0 (mkF m 7 #[.val (.int x0)] [(.int x0)]) _
    refine ownGo.st (fun _ k => XS.bipush X0.here hx rfl (hb hby d2_7)  k) ?_
    show ownGo p.tables e below T0 (mkF m 9 #[.val (.int x0)] [(.int (91 : Int32)), (.int x0)]) _
    by_cases hc9 : x0 < (91 : Int32)
    · have hr31 := hr30.trans (if_pos hc9)
      refine ownGo.st (fun _ k => XS.icmpYes X0.here hx rfl (pc0 := 9) (pc' := 18) rfl (hb hby d2_9) rfl (tlt hc9).1 (by decide) (by decide) k) ?_
      show ownGo p.tables e below T0 (mkF m 18 #[.val (.int x0)] []) _
      exact b2_18 hx hZ hw hby hml hown hret hlk X0 e0 N0 x0 r hr31
    · have hr31 := hr30.trans (if_neg hc9)
      refine ownGo.st (fun _ k => XS.icmpNo X0.here hx rfl (hb hby d2_9) rfl (flt hc9).1 k) ?_
      show ownGo p.tables e below T0 (mkF m 12 #[.val (.int x0)] []) _
      refine ownGo.st (fun _ k => XS.iloadN X0.here hx rfl (hb hby d2_12) rfl k) ?_
      show ownGo p.tables e below T0 (mkF m 13 #[.val (.int x0)] [(.int x0)]) _
      refine ownGo.st (fun _ k => XS.bipush X0.here hx rfl (hb hby d2_13)  k) ?_
      show ownGo p.tables e below T0 (mkF m 15 #[.val (.int x0)] [(.int (94 : Int32)), (.int x0)]) _
      by_cases hc15 : (94 : Int32) < x0
      · have hr55 := hr31.trans (if_pos hc15)
        refine ownGo.st (fun _ k => XS.icmpNo X0.here hx rfl (hb hby d2_15) rfl (tlt hc15).2.2.2 k) ?_
        show ownGo p.tables e below T0 (mkF m 18 #[.val (.int x0)] []) _
        exact b2_18 hx hZ hw hby hml hown hret hlk X0 e0 N0 x0 r hr55
      · have hr55 := hr31.trans (if_neg hc15)
        refine ownGo.st (fun _ k => XS.icmpYes X0.here hx rfl (pc0 := 15) (pc' := 170) rfl (hb hby d2_15) rfl (flt hc15).2.2.2 (by decide) (by decide) k) ?_
        show ownGo p.tables e below T0 (mkF m 170 #[.val (.int x0)] []) _
        exact b2_170 hx hZ hw hby hml hown hret hlk X0 e0 N0 x0 r hr55
abbrev F2 (x0 : Int32) : Int32 := f2_0 x0
theorem pn_2 : plainName "com/example/lexipath/lexipath/xml/XmlNamesIsNameStartPinLaw" = true := by first | (simp [plainName, overriddenIn]; done) | decide +kernel
theorem ef_2 (m : MethodId) (x0 : Int32) : entryFrame m #[(.int x0)] 1 = mkF m 0 #[.val (.int x0)] [] := by first | (simp [entryFrame, mkF, argsToLocals, Value.category]; done) | rfl
set_option maxRecDepth 65536 in
set_option maxHeartbeats 40000000 in
theorem rm2 (l : Launch) (Z : State) (a0 : Array Value) (hw : ∀ d ∈ tables_1, d.before a0 Z = true) (x0 : Int32) (h0 : Heap) (n0 : Nat)  :
    MetFree l (⟨"com/example/lexipath/lexipath/xml/XmlNamesIsNameStartPinLaw", "notStart", "(I)Z"⟩ : MethodName) (head1 [Jvm.Cond.code (⟨"com/example/lexipath/lexipath/xml/XmlNamesIsNameStartPinLaw", "notStart", "(I)Z"⟩ : MethodName) method_2_code 1 (some .boolean)] R2) (fun a U => a = #[(.int x0)] ∧ Z.Warmed39 U.vm ∧ U.heap = h0) (fun _ _ _ _ _ => True) (fun _ U o U' => ∃ v L, o = .returned v ∧ ownPure (.int (F2 x0)) h0 n0 v U'.heap L ∧ FrameEnd U o U' L R2.cells R2.slots) := by
  refine MetFree.of_bodySF (plainFor_of_name pn_2) hisR ?_
  intro p e s m args below meth c s₁ Bd hml0 hP hK
  obtain ⟨rfl, hZ, hh⟩ := hP
  have hx := Bd.exec
  have hby := Bd.bytes
  have hml : c.maxLocals = 1 := hml0
  have hown : s.vm.findClass "com/example/lexipath/lexipath/xml/XmlNamesIsNameStartPinLaw" = some m.cls := findClass_of_methodNamed Bd.named
  have hnm := (name_of_methodNamed Bd.named Bd.method).1
  have hret := Bd.returns
  have hlk : meth.locks = false := BodyLoose.notSynchronized Bd
  have X0 : Stand p l e R2 s m #[(.int x0)] below meth c s₁ [] 0 0 := Stand.of_body Bd
  have e0 : s₁.heap = h0 := by rw [← hh, Bd.state]; rfl
  have N0 := Fr.nil n0
  show ownGo p.tables e below s₁ (entryFrame m #[(.int x0)] 1) (ownDone s (ownPure (.int (F2 x0)) h0 n0) R2.cells R2.slots)
  rw [ef_2 m x0]
  exact b2_0 hx hZ hw hby hml hown hret hlk X0 e0 N0 x0 _ rfl
theorem own_p2_170 (x0 : Int32) : f2_170 x0 = if (-2147483648 ≤ x0.toInt ∧ x0.toInt ≤ 2147483647) then 1 else 0 := by
  have r1 := x0.toInt_lt
  have r2 := x0.le_toInt
  show (1 : Int32) = _
  simp only [Int32.lt_iff_toInt_lt, ← Int32.toInt_inj, show (1 : Int32).toInt = 1 from rfl]
  repeat' split
  all_goals first | rfl | (exfalso; omega)
theorem own_p2_164 (x0 : Int32) : f2_164 x0 = if (983040 ≤ x0.toInt ∧ x0.toInt ≤ 2147483647) then 1 else 0 := by
  have r1 := x0.toInt_lt
  have r2 := x0.le_toInt
  show (if (983039 : Int32) < x0 then (f2_170 x0) else (0 : Int32)) = _
  rw [own_p2_170]
  simp only [Int32.lt_iff_toInt_lt, ← Int32.toInt_inj, show (0 : Int32).toInt = 0 from rfl, show (983039 : Int32).toInt = 983039 from rfl]
  repeat' split
  all_goals first | rfl | (exfalso; omega)
theorem own_p2_152 (x0 : Int32) : f2_152 x0 = if (65534 ≤ x0.toInt ∧ x0.toInt ≤ 65535) ∨ (983040 ≤ x0.toInt ∧ x0.toInt ≤ 2147483647) then 1 else 0 := by
  have r1 := x0.toInt_lt
  have r2 := x0.le_toInt
  show (if x0 < (65534 : Int32) then (f2_164 x0) else (if (65535 : Int32) < x0 then (f2_164 x0) else (f2_170 x0))) = _
  rw [own_p2_164, own_p2_170]
  simp only [Int32.lt_iff_toInt_lt, ← Int32.toInt_inj, show (65534 : Int32).toInt = 65534 from rfl, show (65535 : Int32).toInt = 65535 from rfl]
  repeat' split
  all_goals first | rfl | (exfalso; omega)
theorem own_p2_140 (x0 : Int32) : f2_140 x0 = if (64976 ≤ x0.toInt ∧ x0.toInt ≤ 65007) ∨ (65534 ≤ x0.toInt ∧ x0.toInt ≤ 65535) ∨ (983040 ≤ x0.toInt ∧ x0.toInt ≤ 2147483647) then 1 else 0 := by
  have r1 := x0.toInt_lt
  have r2 := x0.le_toInt
  show (if x0 < (64976 : Int32) then (f2_152 x0) else (if (65007 : Int32) < x0 then (f2_152 x0) else (f2_170 x0))) = _
  rw [own_p2_152, own_p2_170]
  simp only [Int32.lt_iff_toInt_lt, ← Int32.toInt_inj, show (64976 : Int32).toInt = 64976 from rfl, show (65007 : Int32).toInt = 65007 from rfl]
  repeat' split
  all_goals first | rfl | (exfalso; omega)
theorem own_p2_128 (x0 : Int32) : f2_128 x0 = if (55296 ≤ x0.toInt ∧ x0.toInt ≤ 63743) ∨ (64976 ≤ x0.toInt ∧ x0.toInt ≤ 65007) ∨ (65534 ≤ x0.toInt ∧ x0.toInt ≤ 65535) ∨ (983040 ≤ x0.toInt ∧ x0.toInt ≤ 2147483647) then 1 else 0 := by
  have r1 := x0.toInt_lt
  have r2 := x0.le_toInt
  show (if x0 < (55296 : Int32) then (f2_140 x0) else (if (63743 : Int32) < x0 then (f2_140 x0) else (f2_170 x0))) = _
  rw [own_p2_140, own_p2_170]
  simp only [Int32.lt_iff_toInt_lt, ← Int32.toInt_inj, show (55296 : Int32).toInt = 55296 from rfl, show (63743 : Int32).toInt = 63743 from rfl]
  repeat' split
  all_goals first | rfl | (exfalso; omega)
theorem own_p2_114 (x0 : Int32) : f2_114 x0 = if (12272 ≤ x0.toInt ∧ x0.toInt ≤ 12288) ∨ (55296 ≤ x0.toInt ∧ x0.toInt ≤ 63743) ∨ (64976 ≤ x0.toInt ∧ x0.toInt ≤ 65007) ∨ (65534 ≤ x0.toInt ∧ x0.toInt ≤ 65535) ∨ (983040 ≤ x0.toInt ∧ x0.toInt ≤ 2147483647) then 1 else 0 := by
  have r1 := x0.toInt_lt
  have r2 := x0.le_toInt
  show (if x0 < (12272 : Int32) then (f2_128 x0) else (if (12288 : Int32) < x0 then (f2_128 x0) else (f2_170 x0))) = _
  rw [own_p2_128, own_p2_170]
  simp only [Int32.lt_iff_toInt_lt, ← Int32.toInt_inj, show (12272 : Int32).toInt = 12272 from rfl, show (12288 : Int32).toInt = 12288 from rfl]
  repeat' split
  all_goals first | rfl | (exfalso; omega)
theorem own_p2_100 (x0 : Int32) : f2_100 x0 = if (8592 ≤ x0.toInt ∧ x0.toInt ≤ 11263) ∨ (12272 ≤ x0.toInt ∧ x0.toInt ≤ 12288) ∨ (55296 ≤ x0.toInt ∧ x0.toInt ≤ 63743) ∨ (64976 ≤ x0.toInt ∧ x0.toInt ≤ 65007) ∨ (65534 ≤ x0.toInt ∧ x0.toInt ≤ 65535) ∨ (983040 ≤ x0.toInt ∧ x0.toInt ≤ 2147483647) then 1 else 0 := by
  have r1 := x0.toInt_lt
  have r2 := x0.le_toInt
  show (if x0 < (8592 : Int32) then (f2_114 x0) else (if (11263 : Int32) < x0 then (f2_114 x0) else (f2_170 x0))) = _
  rw [own_p2_114, own_p2_170]
  simp only [Int32.lt_iff_toInt_lt, ← Int32.toInt_inj, show (8592 : Int32).toInt = 8592 from rfl, show (11263 : Int32).toInt = 11263 from rfl]
  repeat' split
  all_goals first | rfl | (exfalso; omega)
theorem own_p2_86 (x0 : Int32) : f2_86 x0 = if (8206 ≤ x0.toInt ∧ x0.toInt ≤ 8303) ∨ (8592 ≤ x0.toInt ∧ x0.toInt ≤ 11263) ∨ (12272 ≤ x0.toInt ∧ x0.toInt ≤ 12288) ∨ (55296 ≤ x0.toInt ∧ x0.toInt ≤ 63743) ∨ (64976 ≤ x0.toInt ∧ x0.toInt ≤ 65007) ∨ (65534 ≤ x0.toInt ∧ x0.toInt ≤ 65535) ∨ (983040 ≤ x0.toInt ∧ x0.toInt ≤ 2147483647) then 1 else 0 := by
  have r1 := x0.toInt_lt
  have r2 := x0.le_toInt
  show (if x0 < (8206 : Int32) then (f2_100 x0) else (if (8303 : Int32) < x0 then (f2_100 x0) else (f2_170 x0))) = _
  rw [own_p2_100, own_p2_170]
  simp only [Int32.lt_iff_toInt_lt, ← Int32.toInt_inj, show (8206 : Int32).toInt = 8206 from rfl, show (8303 : Int32).toInt = 8303 from rfl]
  repeat' split
  all_goals first | rfl | (exfalso; omega)
theorem own_p2_65 (x0 : Int32) : f2_65 x0 = if (894 ≤ x0.toInt ∧ x0.toInt ≤ 894) ∨ (8192 ≤ x0.toInt ∧ x0.toInt ≤ 8203) ∨ (8206 ≤ x0.toInt ∧ x0.toInt ≤ 8303) ∨ (8592 ≤ x0.toInt ∧ x0.toInt ≤ 11263) ∨ (12272 ≤ x0.toInt ∧ x0.toInt ≤ 12288) ∨ (55296 ≤ x0.toInt ∧ x0.toInt ≤ 63743) ∨ (64976 ≤ x0.toInt ∧ x0.toInt ≤ 65007) ∨ (65534 ≤ x0.toInt ∧ x0.toInt ≤ 65535) ∨ (983040 ≤ x0.toInt ∧ x0.toInt ≤ 2147483647) then 1 else 0 := by
  have r1 := x0.toInt_lt
  have r2 := x0.le_toInt
  show (if x0 = (894 : Int32) then (f2_170 x0) else (if x0 < (8192 : Int32) then (f2_86 x0) else (if (8203 : Int32) < x0 then (f2_86 x0) else (f2_170 x0)))) = _
  rw [own_p2_170, own_p2_86]
  simp only [Int32.lt_iff_toInt_lt, ← Int32.toInt_inj, show (894 : Int32).toInt = 894 from rfl, show (8192 : Int32).toInt = 8192 from rfl, show (8203 : Int32).toInt = 8203 from rfl]
  repeat' split
  all_goals first | rfl | (exfalso; omega)
theorem own_p2_37 (x0 : Int32) : f2_37 x0 = if (215 ≤ x0.toInt ∧ x0.toInt ≤ 215) ∨ (247 ≤ x0.toInt ∧ x0.toInt ≤ 247) ∨ (768 ≤ x0.toInt ∧ x0.toInt ≤ 879) ∨ (894 ≤ x0.toInt ∧ x0.toInt ≤ 894) ∨ (8192 ≤ x0.toInt ∧ x0.toInt ≤ 8203) ∨ (8206 ≤ x0.toInt ∧ x0.toInt ≤ 8303) ∨ (8592 ≤ x0.toInt ∧ x0.toInt ≤ 11263) ∨ (12272 ≤ x0.toInt ∧ x0.toInt ≤ 12288) ∨ (55296 ≤ x0.toInt ∧ x0.toInt ≤ 63743) ∨ (64976 ≤ x0.toInt ∧ x0.toInt ≤ 65007) ∨ (65534 ≤ x0.toInt ∧ x0.toInt ≤ 65535) ∨ (983040 ≤ x0.toInt ∧ x0.toInt ≤ 2147483647) then 1 else 0 := by
  have r1 := x0.toInt_lt
  have r2 := x0.le_toInt
  show (if x0 = (215 : Int32) then (f2_170 x0) else (if x0 = (247 : Int32) then (f2_170 x0) else (if x0 < (768 : Int32) then (f2_65 x0) else (if (879 : Int32) < x0 then (f2_65 x0) else (f2_170 x0))))) = _
  rw [own_p2_170, own_p2_65]
  simp only [Int32.lt_iff_toInt_lt, ← Int32.toInt_inj, show (215 : Int32).toInt = 215 from rfl, show (247 : Int32).toInt = 247 from rfl, show (768 : Int32).toInt = 768 from rfl, show (879 : Int32).toInt = 879 from rfl]
  repeat' split
  all_goals first | rfl | (exfalso; omega)
theorem own_p2_18 (x0 : Int32) : f2_18 x0 = if (96 ≤ x0.toInt ∧ x0.toInt ≤ 96) ∨ (123 ≤ x0.toInt ∧ x0.toInt ≤ 191) ∨ (215 ≤ x0.toInt ∧ x0.toInt ≤ 215) ∨ (247 ≤ x0.toInt ∧ x0.toInt ≤ 247) ∨ (768 ≤ x0.toInt ∧ x0.toInt ≤ 879) ∨ (894 ≤ x0.toInt ∧ x0.toInt ≤ 894) ∨ (8192 ≤ x0.toInt ∧ x0.toInt ≤ 8203) ∨ (8206 ≤ x0.toInt ∧ x0.toInt ≤ 8303) ∨ (8592 ≤ x0.toInt ∧ x0.toInt ≤ 11263) ∨ (12272 ≤ x0.toInt ∧ x0.toInt ≤ 12288) ∨ (55296 ≤ x0.toInt ∧ x0.toInt ≤ 63743) ∨ (64976 ≤ x0.toInt ∧ x0.toInt ≤ 65007) ∨ (65534 ≤ x0.toInt ∧ x0.toInt ≤ 65535) ∨ (983040 ≤ x0.toInt ∧ x0.toInt ≤ 2147483647) then 1 else 0 := by
  have r1 := x0.toInt_lt
  have r2 := x0.le_toInt
  show (if x0 = (96 : Int32) then (f2_170 x0) else (if x0 < (123 : Int32) then (f2_37 x0) else (if (191 : Int32) < x0 then (f2_37 x0) else (f2_170 x0)))) = _
  rw [own_p2_170, own_p2_37]
  simp only [Int32.lt_iff_toInt_lt, ← Int32.toInt_inj, show (96 : Int32).toInt = 96 from rfl, show (123 : Int32).toInt = 123 from rfl, show (191 : Int32).toInt = 191 from rfl]
  repeat' split
  all_goals first | rfl | (exfalso; omega)
theorem own_p2_0 (x0 : Int32) : f2_0 x0 = if (-2147483648 ≤ x0.toInt ∧ x0.toInt ≤ 64) ∨ (91 ≤ x0.toInt ∧ x0.toInt ≤ 94) ∨ (96 ≤ x0.toInt ∧ x0.toInt ≤ 96) ∨ (123 ≤ x0.toInt ∧ x0.toInt ≤ 191) ∨ (215 ≤ x0.toInt ∧ x0.toInt ≤ 215) ∨ (247 ≤ x0.toInt ∧ x0.toInt ≤ 247) ∨ (768 ≤ x0.toInt ∧ x0.toInt ≤ 879) ∨ (894 ≤ x0.toInt ∧ x0.toInt ≤ 894) ∨ (8192 ≤ x0.toInt ∧ x0.toInt ≤ 8203) ∨ (8206 ≤ x0.toInt ∧ x0.toInt ≤ 8303) ∨ (8592 ≤ x0.toInt ∧ x0.toInt ≤ 11263) ∨ (12272 ≤ x0.toInt ∧ x0.toInt ≤ 12288) ∨ (55296 ≤ x0.toInt ∧ x0.toInt ≤ 63743) ∨ (64976 ≤ x0.toInt ∧ x0.toInt ≤ 65007) ∨ (65534 ≤ x0.toInt ∧ x0.toInt ≤ 65535) ∨ (983040 ≤ x0.toInt ∧ x0.toInt ≤ 2147483647) then 1 else 0 := by
  have r1 := x0.toInt_lt
  have r2 := x0.le_toInt
  show (if x0 < (65 : Int32) then (f2_170 x0) else (if x0 < (91 : Int32) then (f2_18 x0) else (if (94 : Int32) < x0 then (f2_18 x0) else (f2_170 x0)))) = _
  rw [own_p2_170, own_p2_18]
  simp only [Int32.lt_iff_toInt_lt, ← Int32.toInt_inj, show (65 : Int32).toInt = 65 from rfl, show (91 : Int32).toInt = 91 from rfl, show (94 : Int32).toInt = 94 from rfl]
  repeat' split
  all_goals first | rfl | (exfalso; omega)
theorem own_same (c : Int32) : (F2 c = 0 → F1 c = 1) ∧ (¬ F2 c = 0 → F1 c = 0) := by
  rw [show F1 c = f1_0 c from rfl, show F2 c = f2_0 c from rfl, own_p1_0, own_p2_0]
  have r1 := c.toInt_lt
  have r2 := c.le_toInt
  constructor
  · intro q
    split at q
    · exact absurd q (by decide)
    · rw [if_pos (by omega)]
  · intro q
    split at q
    · rw [if_neg (by omega)]
    · exact absurd rfl q
theorem own_ix (x : Int32) : ∃ i, i < 33 ∧ (own_iushr x (1 : Int32)) % (33 : Int32) = Int32.ofNat i := by
  have q := c_iushr x 1 1 (by decide) (by decide)
  have r := x.toInt_lt
  have r' := x.le_toInt
  have q2 := c_irem (own_iushr x (1 : Int32)) (33 : Int32) 33 rfl
  refine own_idx _ 33 ?_ ?_
  all_goals (have q3 := q2.1 (by rw [q]; omega); rw [q3, q]; omega)
def Q0 (n0 : Nat) (v : Option Value) (h : Heap) (L : List Loc) : Prop := v = some (.int 1) ∧ Fr n0 L
theorem pd__I_Z : parseMethodDescriptor "(I)Z" = some ⟨[.int], some .boolean⟩ := by decide +kernel
set_option maxRecDepth 65536 in
set_option maxHeartbeats 40000000 in
theorem t0_249 {p : Program} {l : Launch} {e : Env} {s : State} {m : MethodId} {args : Array Value} {below : List Frame} {meth : Method} {c : Code} {T0 : State} {locs : List Loc} {Z : State} {a0 : Array Value} {h0 : Heap} {n0 : Nat} (hx : p.tables.exec = Jvm.exec) (hZ : Z.Warmed39 s.vm) (hw : ∀ d ∈ tables_1, d.before a0 Z = true) (hby : c.code = code) (hml : c.maxLocals = 6) (hown : s.vm.findClass "com/example/lexipath/lexipath/xml/XmlNamesIsNameStartPinLaw" = some m.cls) (hret : meth.sig.returnType = (some .boolean)) (hlk : meth.locks = false) {cells slots : Nat} (hcl : cells ≤ room_1.cells) (hsl : slots ≤ room_1.slots) (X0 : Stand p l e room_1 s m args below meth c T0 locs cells slots) (e0 : T0.heap = h0) (N0 : Fr n0 locs) (x0 x1 x2 x4 x5 : Int32) (o3 : Addr) :
    ownGo p.tables e below T0 (mkF m 249 #[.val (.int x0), .val (.int x1), .val (.int x2), .val (.ref o3), .val (.int x4), .unset] [(.int x5)]) (ownDone s (Q0 n0) room_1.cells room_1.slots) := by
  refine ownGo.st (fun _ k => XS.istore X0.here hx rfl (hb hby at_249) rfl (l' := #[.val (.int x0), .val (.int x1), .val (.int x2), .val (.ref o3), .val (.int x4), .val (.int x5)]) rfl k) ?_
  show ownGo p.tables e below T0 (mkF m 251 #[.val (.int x0), .val (.int x1), .val (.int x2), .val (.ref o3), .val (.int x4), .val (.int x5)] []) _
  refine ownGo.st (fun _ k => XS.iload X0.here hx rfl (hb hby at_251) rfl k) ?_
  show ownGo p.tables e below T0 (mkF m 253 #[.val (.int x0), .val (.int x1), .val (.int x2), .val (.ref o3), .val (.int x4), .val (.int x5)] [(.int x5)]) _
  obtain ⟨_, T56, L56, X56, hQ56, st56⟩ := own_callS X0 hx hZ hown (own_at hw 10 rfl) (own_at hw 11 rfl) (own_at hw 12 rfl) (own_at hw 13 rfl) (by decide) (rm1 l Z a0 hw x5 h0 n0) 0 (by decide) (by decide) e0 hcl hsl (g := (mkF m 253 #[.val (.int x0), .val (.int x1), .val (.int x2), .val (.ref o3), .val (.int x4), .val (.int x5)] [(.int x5)])) rfl (by rw [hml]; rfl) (argsL := [(.int x5)]) (rest := []) (lenOf pd__I_Z rfl) rfl (by show 2 * 0 + _ ≤ _; exact Nat.le_of_eq rfl) (hb hby at_253)
  obtain ⟨rfl, N56q, e56⟩ := hQ56
  have N56 := Fr.app N0 N56q
  refine ownGo.st st56 ?_
  show ownGo p.tables e below T56 (mkF m 256 #[.val (.int x0), .val (.int x1), .val (.int x2), .val (.ref o3), .val (.int x4), .val (.int x5)] [(.int (F1 x5))]) _
  refine ownGo.st (fun _ k => XS.iload X56.here hx rfl (hb hby at_256) rfl k) ?_
  show ownGo p.tables e below T56 (mkF m 258 #[.val (.int x0), .val (.int x1), .val (.int x2), .val (.ref o3), .val (.int x4), .val (.int x5)] [(.int x5), (.int (F1 x5))]) _
  obtain ⟨_, T57, L57, X57, hQ57, st57⟩ := own_callS X56 hx hZ hown (own_at hw 17 rfl) (own_at hw 18 rfl) (own_at hw 19 rfl) (own_at hw 20 rfl) (by decide) (rm2 l Z a0 hw x5 h0 n0) 1 (by decide) (by decide) e56 hcl hsl (g := (mkF m 258 #[.val (.int x0), .val (.int x1), .val (.int x2), .val (.ref o3), .val (.int x4), .val (.int x5)] [(.int x5), (.int (F1 x5))])) rfl (by rw [hml]; rfl) (argsL := [(.int x5)]) (rest := [(.int (F1 x5))]) (lenOf pd__I_Z rfl) rfl (by show 2 * 0 + _ ≤ _; exact Nat.le_of_eq rfl) (hb hby at_258)
  obtain ⟨rfl, N57q, e57⟩ := hQ57
  have N57 := Fr.app N56 N57q
  refine ownGo.st st57 ?_
  show ownGo p.tables e below T57 (mkF m 261 #[.val (.int x0), .val (.int x1), .val (.int x2), .val (.ref o3), .val (.int x4), .val (.int x5)] [(.int (F2 x5)), (.int (F1 x5))]) _
  by_cases hc58 : (F2 x5) = (0 : Int32)
  · refine ownGo.st (fun _ k => XS.ifNo X57.here hx rfl (hb hby at_261) rfl ((if0 _ _).trans (teq hc58).2) k) ?_
    show ownGo p.tables e below T57 (mkF m 264 #[.val (.int x0), .val (.int x1), .val (.int x2), .val (.ref o3), .val (.int x4), .val (.int x5)] [(.int (F1 x5))]) _
    refine ownGo.st (fun _ k => XS.iconst X57.here hx rfl (hb hby at_264)  k) ?_
    show ownGo p.tables e below T57 (mkF m 265 #[.val (.int x0), .val (.int x1), .val (.int x2), .val (.ref o3), .val (.int x4), .val (.int x5)] [(.int (1 : Int32)), (.int (F1 x5))]) _
    refine ownGo.st (fun _ k => XS.goto X57.here hx rfl (pc0 := 265) (pc' := 269) rfl (hb hby at_265) (by decide) (by decide) k) ?_
    show ownGo p.tables e below T57 (mkF m 269 #[.val (.int x0), .val (.int x1), .val (.int x2), .val (.ref o3), .val (.int x4), .val (.int x5)] [(.int (1 : Int32)), (.int (F1 x5))]) _
    have hc59 : (F1 x5) = (1 : Int32) := (own_same x5).1 hc58
    refine ownGo.st (fun _ k => XS.icmpNo X57.here hx rfl (hb hby at_269) rfl (teq hc59).2 k) ?_
    show ownGo p.tables e below T57 (mkF m 272 #[.val (.int x0), .val (.int x1), .val (.int x2), .val (.ref o3), .val (.int x4), .val (.int x5)] []) _
    refine ownGo.st (fun _ k => XS.iconst X57.here hx rfl (hb hby at_272)  k) ?_
    show ownGo p.tables e below T57 (mkF m 273 #[.val (.int x0), .val (.int x1), .val (.int x2), .val (.ref o3), .val (.int x4), .val (.int x5)] [(.int (1 : Int32))]) _
    refine ownGo.st (fun _ k => XS.goto X57.here hx rfl (pc0 := 273) (pc' := 277) rfl (hb hby at_273) (by decide) (by decide) k) ?_
    show ownGo p.tables e below T57 (mkF m 277 #[.val (.int x0), .val (.int x1), .val (.int x2), .val (.ref o3), .val (.int x4), .val (.int x5)] [(.int (1 : Int32))]) _
    exact own_retZ X57 hx hlk hret (hb hby at_277) (Or.inr rfl) ⟨rfl, N57⟩ hcl hsl
  · refine ownGo.st (fun _ k => XS.ifYes X57.here hx rfl (pc0 := 261) (pc' := 268) rfl (hb hby at_261) rfl ((if0 _ _).trans (feq hc58).2) (by decide) (by decide) k) ?_
    show ownGo p.tables e below T57 (mkF m 268 #[.val (.int x0), .val (.int x1), .val (.int x2), .val (.ref o3), .val (.int x4), .val (.int x5)] [(.int (F1 x5))]) _
    refine ownGo.st (fun _ k => XS.iconst X57.here hx rfl (hb hby at_268)  k) ?_
    show ownGo p.tables e below T57 (mkF m 269 #[.val (.int x0), .val (.int x1), .val (.int x2), .val (.ref o3), .val (.int x4), .val (.int x5)] [(.int (0 : Int32)), (.int (F1 x5))]) _
    have hc60 : (F1 x5) = (0 : Int32) := (own_same x5).2 hc58
    refine ownGo.st (fun _ k => XS.icmpNo X57.here hx rfl (hb hby at_269) rfl (teq hc60).2 k) ?_
    show ownGo p.tables e below T57 (mkF m 272 #[.val (.int x0), .val (.int x1), .val (.int x2), .val (.ref o3), .val (.int x4), .val (.int x5)] []) _
    refine ownGo.st (fun _ k => XS.iconst X57.here hx rfl (hb hby at_272)  k) ?_
    show ownGo p.tables e below T57 (mkF m 273 #[.val (.int x0), .val (.int x1), .val (.int x2), .val (.ref o3), .val (.int x4), .val (.int x5)] [(.int (1 : Int32))]) _
    refine ownGo.st (fun _ k => XS.goto X57.here hx rfl (pc0 := 273) (pc' := 277) rfl (hb hby at_273) (by decide) (by decide) k) ?_
    show ownGo p.tables e below T57 (mkF m 277 #[.val (.int x0), .val (.int x1), .val (.int x2), .val (.ref o3), .val (.int x4), .val (.int x5)] [(.int (1 : Int32))]) _
    exact own_retZ X57 hx hlk hret (hb hby at_277) (Or.inr rfl) ⟨rfl, N57⟩ hcl hsl
theorem pn_0 : plainName "com/example/lexipath/lexipath/xml/XmlNamesIsNameStartPinLaw" = true := by first | (simp [plainName, overriddenIn]; done) | decide +kernel
theorem ef_0 (m : MethodId) (x0 : Int32) (x1 : Int32) (x2 : Int32) : entryFrame m #[(.int x0), (.int x1), (.int x2)] maxLocals = mkF m 0 #[.val (.int x0), .val (.int x1), .val (.int x2), .unset, .unset, .unset] [] := by first | (simp [entryFrame, mkF, argsToLocals, Value.category, maxLocals]; done) | rfl
set_option maxRecDepth 65536 in
set_option maxHeartbeats 40000000 in
theorem rm0 (l : Launch) (Z : State) (a0 : Array Value) (hw : ∀ d ∈ tables_1, d.before a0 Z = true) (x0 : Int32) (x1 : Int32) (x2 : Int32) (h0 : Heap) (n0 : Nat) (Z0 : n0 ≤ h0.size) :
    MetFree l x (head1 (Jvm.Cond.code x code maxLocals ret :: tables_1) room_1) (fun a U => a = #[(.int x0), (.int x1), (.int x2)] ∧ Z.Warmed39 U.vm ∧ U.heap = h0) (fun _ _ _ _ _ => True) (fun _ U o U' => ∃ v L, o = .returned v ∧ Q0 n0 v U'.heap L ∧ FrameEnd U o U' L room_1.cells room_1.slots) := by
  refine MetFree.of_bodySF (plainFor_of_name pn_0) hisR ?_
  intro p e s m args below meth c s₁ Bd hml0 hP hK
  obtain ⟨rfl, hZ, hh⟩ := hP
  have hx := Bd.exec
  have hby := Bd.bytes
  have hml : c.maxLocals = 6 := hml0
  have hown : s.vm.findClass "com/example/lexipath/lexipath/xml/XmlNamesIsNameStartPinLaw" = some m.cls := findClass_of_methodNamed Bd.named
  have hnm := (name_of_methodNamed Bd.named Bd.method).1
  have hret := Bd.returns
  have hlk : meth.locks = false := BodyLoose.notSynchronized Bd
  have X0 : Stand p l e room_1 s m #[(.int x0), (.int x1), (.int x2)] below meth c s₁ [] 0 0 := Stand.of_body Bd
  have e0 : s₁.heap = h0 := by rw [← hh, Bd.state]; rfl
  have N0 := Fr.nil n0
  show ownGo p.tables e below s₁ (entryFrame m #[(.int x0), (.int x1), (.int x2)] maxLocals) (ownDone s (Q0 n0) room_1.cells room_1.slots)
  rw [ef_0 m x0 x1 x2]
  show ownGo p.tables e below s₁ (mkF m 0 #[.val (.int x0), .val (.int x1), .val (.int x2), .unset, .unset, .unset] []) _
  refine ownGo.st (fun _ k => XS.bipush X0.here hx rfl (hb hby at_0)  k) ?_
  show ownGo p.tables e below s₁ (mkF m 2 #[.val (.int x0), .val (.int x1), .val (.int x2), .unset, .unset, .unset] [(.int (33 : Int32))]) _
  obtain ⟨T61, h61, b61, X61, e61, E61, V_b61, Ex_b61, g_b61, st61⟩ := own_newarray (aty := .int) X0 hx hZ (own_at hw 0 rfl) e0 33 33 (by decide) (by decide) (by decide) (by decide) (ad := "[I") (by rfl) rfl (z := (33 : Int32)) rfl (g := (mkF m 2 #[.val (.int x0), .val (.int x1), .val (.int x2), .unset, .unset, .unset] [(.int (33 : Int32))])) rfl (hb hby at_2) rfl
  have gz_b61 : n0 ≤ b61 := Nat.le_trans Z0 (Nat.le_of_eq g_b61.symm)
  have Z61 : n0 ≤ h61.size := Nat.le_trans Z0 E61.1
  refine ownGo.st (st61) ?_
  show ownGo p.tables e below T61 (mkF m 4 #[.val (.int x0), .val (.int x1), .val (.int x2), .unset, .unset, .unset] [(.ref b61)]) _
  refine ownGo.st (fun _ k => XS.dup X61.here hx rfl (hb hby at_4) rfl rfl k) ?_
  show ownGo p.tables e below T61 (mkF m 5 #[.val (.int x0), .val (.int x1), .val (.int x2), .unset, .unset, .unset] [(.ref b61), (.ref b61)]) _
  refine ownGo.st (fun _ k => XS.iconst X61.here hx rfl (hb hby at_5)  k) ?_
  show ownGo p.tables e below T61 (mkF m 6 #[.val (.int x0), .val (.int x1), .val (.int x2), .unset, .unset, .unset] [(.int (0 : Int32)), (.ref b61), (.ref b61)]) _
  refine ownGo.st (X61.ldcInt hx hown (mvT hZ (own_at hw 1 rfl)) (g := (mkF m 6 #[.val (.int x0), .val (.int x1), .val (.int x2), .unset, .unset, .unset] [(.int (0 : Int32)), (.ref b61), (.ref b61)])) rfl (hb hby at_6)) ?_
  show ownGo p.tables e below T61 (mkF m 8 #[.val (.int x0), .val (.int x1), .val (.int x2), .unset, .unset, .unset] [(.int (-2147483646 : Int32)), (.int (0 : Int32)), (.ref b61), (.ref b61)]) _
  obtain ⟨T62, h62, X62, e62, W62, V_b61_62, st62⟩ := own_iastore X61 hx hZ e61 V_b61 (i := 0) rfl (by decide) (g := (mkF m 8 #[.val (.int x0), .val (.int x1), .val (.int x2), .unset, .unset, .unset] [(.int (-2147483646 : Int32)), (.int (0 : Int32)), (.ref b61), (.ref b61)])) rfl rfl (hb hby at_8)
  have Ex_b61_63 := Ex_b61.wr W62
  have N62 := Fr.snoc X62 N0 gz_b61
  have Z62 : n0 ≤ h62.size := Nat.le_trans Z61 (Nat.le_of_eq W62.size.symm)
  refine ownGo.st (st62) ?_
  show ownGo p.tables e below T62 (mkF m 9 #[.val (.int x0), .val (.int x1), .val (.int x2), .unset, .unset, .unset] [(.ref b61)]) _
  refine ownGo.st (fun _ k => XS.dup X62.here hx rfl (hb hby at_9) rfl rfl k) ?_
  show ownGo p.tables e below T62 (mkF m 10 #[.val (.int x0), .val (.int x1), .val (.int x2), .unset, .unset, .unset] [(.ref b61), (.ref b61)]) _
  refine ownGo.st (fun _ k => XS.iconst X62.here hx rfl (hb hby at_10)  k) ?_
  show ownGo p.tables e below T62 (mkF m 11 #[.val (.int x0), .val (.int x1), .val (.int x2), .unset, .unset, .unset] [(.int (1 : Int32)), (.ref b61), (.ref b61)]) _
  refine ownGo.st (fun _ k => XS.iconst X62.here hx rfl (hb hby at_11)  k) ?_
  show ownGo p.tables e below T62 (mkF m 12 #[.val (.int x0), .val (.int x1), .val (.int x2), .unset, .unset, .unset] [(.int (0 : Int32)), (.int (1 : Int32)), (.ref b61), (.ref b61)]) _
  obtain ⟨T64, h64, X64, e64, W64, V_b61_64, st64⟩ := own_iastore X62 hx hZ e62 V_b61_62 (i := 1) rfl (by decide) (g := (mkF m 12 #[.val (.int x0), .val (.int x1), .val (.int x2), .unset, .unset, .unset] [(.int (0 : Int32)), (.int (1 : Int32)), (.ref b61), (.ref b61)])) rfl rfl (hb hby at_12)
  have Ex_b61_65 := Ex_b61_63.wr W64
  have N64 := Fr.snoc X64 N62 gz_b61
  have Z64 : n0 ≤ h64.size := Nat.le_trans Z62 (Nat.le_of_eq W64.size.symm)
  refine ownGo.st (st64) ?_
  show ownGo p.tables e below T64 (mkF m 13 #[.val (.int x0), .val (.int x1), .val (.int x2), .unset, .unset, .unset] [(.ref b61)]) _
  refine ownGo.st (fun _ k => XS.dup X64.here hx rfl (hb hby at_13) rfl rfl k) ?_
  show ownGo p.tables e below T64 (mkF m 14 #[.val (.int x0), .val (.int x1), .val (.int x2), .unset, .unset, .unset] [(.ref b61), (.ref b61)]) _
  refine ownGo.st (fun _ k => XS.iconst X64.here hx rfl (hb hby at_14)  k) ?_
  show ownGo p.tables e below T64 (mkF m 15 #[.val (.int x0), .val (.int x1), .val (.int x2), .unset, .unset, .unset] [(.int (2 : Int32)), (.ref b61), (.ref b61)]) _
  refine ownGo.st (fun _ k => XS.bipush X64.here hx rfl (hb hby at_15)  k) ?_
  show ownGo p.tables e below T64 (mkF m 17 #[.val (.int x0), .val (.int x1), .val (.int x2), .unset, .unset, .unset] [(.int (65 : Int32)), (.int (2 : Int32)), (.ref b61), (.ref b61)]) _
  obtain ⟨T66, h66, X66, e66, W66, V_b61_66, st66⟩ := own_iastore X64 hx hZ e64 V_b61_64 (i := 2) rfl (by decide) (g := (mkF m 17 #[.val (.int x0), .val (.int x1), .val (.int x2), .unset, .unset, .unset] [(.int (65 : Int32)), (.int (2 : Int32)), (.ref b61), (.ref b61)])) rfl rfl (hb hby at_17)
  have Ex_b61_67 := Ex_b61_65.wr W66
  have N66 := Fr.snoc X66 N64 gz_b61
  have Z66 : n0 ≤ h66.size := Nat.le_trans Z64 (Nat.le_of_eq W66.size.symm)
  refine ownGo.st (st66) ?_
  show ownGo p.tables e below T66 (mkF m 18 #[.val (.int x0), .val (.int x1), .val (.int x2), .unset, .unset, .unset] [(.ref b61)]) _
  refine ownGo.st (fun _ k => XS.dup X66.here hx rfl (hb hby at_18) rfl rfl k) ?_
  show ownGo p.tables e below T66 (mkF m 19 #[.val (.int x0), .val (.int x1), .val (.int x2), .unset, .unset, .unset] [(.ref b61), (.ref b61)]) _
  refine ownGo.st (fun _ k => XS.iconst X66.here hx rfl (hb hby at_19)  k) ?_
  show ownGo p.tables e below T66 (mkF m 20 #[.val (.int x0), .val (.int x1), .val (.int x2), .unset, .unset, .unset] [(.int (3 : Int32)), (.ref b61), (.ref b61)]) _
  refine ownGo.st (fun _ k => XS.bipush X66.here hx rfl (hb hby at_20)  k) ?_
  show ownGo p.tables e below T66 (mkF m 22 #[.val (.int x0), .val (.int x1), .val (.int x2), .unset, .unset, .unset] [(.int (91 : Int32)), (.int (3 : Int32)), (.ref b61), (.ref b61)]) _
  obtain ⟨T68, h68, X68, e68, W68, V_b61_68, st68⟩ := own_iastore X66 hx hZ e66 V_b61_66 (i := 3) rfl (by decide) (g := (mkF m 22 #[.val (.int x0), .val (.int x1), .val (.int x2), .unset, .unset, .unset] [(.int (91 : Int32)), (.int (3 : Int32)), (.ref b61), (.ref b61)])) rfl rfl (hb hby at_22)
  have Ex_b61_69 := Ex_b61_67.wr W68
  have N68 := Fr.snoc X68 N66 gz_b61
  have Z68 : n0 ≤ h68.size := Nat.le_trans Z66 (Nat.le_of_eq W68.size.symm)
  refine ownGo.st (st68) ?_
  show ownGo p.tables e below T68 (mkF m 23 #[.val (.int x0), .val (.int x1), .val (.int x2), .unset, .unset, .unset] [(.ref b61)]) _
  refine ownGo.st (fun _ k => XS.dup X68.here hx rfl (hb hby at_23) rfl rfl k) ?_
  show ownGo p.tables e below T68 (mkF m 24 #[.val (.int x0), .val (.int x1), .val (.int x2), .unset, .unset, .unset] [(.ref b61), (.ref b61)]) _
  refine ownGo.st (fun _ k => XS.iconst X68.here hx rfl (hb hby at_24)  k) ?_
  show ownGo p.tables e below T68 (mkF m 25 #[.val (.int x0), .val (.int x1), .val (.int x2), .unset, .unset, .unset] [(.int (4 : Int32)), (.ref b61), (.ref b61)]) _
  refine ownGo.st (fun _ k => XS.bipush X68.here hx rfl (hb hby at_25)  k) ?_
  show ownGo p.tables e below T68 (mkF m 27 #[.val (.int x0), .val (.int x1), .val (.int x2), .unset, .unset, .unset] [(.int (95 : Int32)), (.int (4 : Int32)), (.ref b61), (.ref b61)]) _
  obtain ⟨T70, h70, X70, e70, W70, V_b61_70, st70⟩ := own_iastore X68 hx hZ e68 V_b61_68 (i := 4) rfl (by decide) (g := (mkF m 27 #[.val (.int x0), .val (.int x1), .val (.int x2), .unset, .unset, .unset] [(.int (95 : Int32)), (.int (4 : Int32)), (.ref b61), (.ref b61)])) rfl rfl (hb hby at_27)
  have Ex_b61_71 := Ex_b61_69.wr W70
  have N70 := Fr.snoc X70 N68 gz_b61
  have Z70 : n0 ≤ h70.size := Nat.le_trans Z68 (Nat.le_of_eq W70.size.symm)
  refine ownGo.st (st70) ?_
  show ownGo p.tables e below T70 (mkF m 28 #[.val (.int x0), .val (.int x1), .val (.int x2), .unset, .unset, .unset] [(.ref b61)]) _
  refine ownGo.st (fun _ k => XS.dup X70.here hx rfl (hb hby at_28) rfl rfl k) ?_
  show ownGo p.tables e below T70 (mkF m 29 #[.val (.int x0), .val (.int x1), .val (.int x2), .unset, .unset, .unset] [(.ref b61), (.ref b61)]) _
  refine ownGo.st (fun _ k => XS.iconst X70.here hx rfl (hb hby at_29)  k) ?_
  show ownGo p.tables e below T70 (mkF m 30 #[.val (.int x0), .val (.int x1), .val (.int x2), .unset, .unset, .unset] [(.int (5 : Int32)), (.ref b61), (.ref b61)]) _
  refine ownGo.st (fun _ k => XS.bipush X70.here hx rfl (hb hby at_30)  k) ?_
  show ownGo p.tables e below T70 (mkF m 32 #[.val (.int x0), .val (.int x1), .val (.int x2), .unset, .unset, .unset] [(.int (96 : Int32)), (.int (5 : Int32)), (.ref b61), (.ref b61)]) _
  obtain ⟨T72, h72, X72, e72, W72, V_b61_72, st72⟩ := own_iastore X70 hx hZ e70 V_b61_70 (i := 5) rfl (by decide) (g := (mkF m 32 #[.val (.int x0), .val (.int x1), .val (.int x2), .unset, .unset, .unset] [(.int (96 : Int32)), (.int (5 : Int32)), (.ref b61), (.ref b61)])) rfl rfl (hb hby at_32)
  have Ex_b61_73 := Ex_b61_71.wr W72
  have N72 := Fr.snoc X72 N70 gz_b61
  have Z72 : n0 ≤ h72.size := Nat.le_trans Z70 (Nat.le_of_eq W72.size.symm)
  refine ownGo.st (st72) ?_
  show ownGo p.tables e below T72 (mkF m 33 #[.val (.int x0), .val (.int x1), .val (.int x2), .unset, .unset, .unset] [(.ref b61)]) _
  refine ownGo.st (fun _ k => XS.dup X72.here hx rfl (hb hby at_33) rfl rfl k) ?_
  show ownGo p.tables e below T72 (mkF m 34 #[.val (.int x0), .val (.int x1), .val (.int x2), .unset, .unset, .unset] [(.ref b61), (.ref b61)]) _
  refine ownGo.st (fun _ k => XS.bipush X72.here hx rfl (hb hby at_34)  k) ?_
  show ownGo p.tables e below T72 (mkF m 36 #[.val (.int x0), .val (.int x1), .val (.int x2), .unset, .unset, .unset] [(.int (6 : Int32)), (.ref b61), (.ref b61)]) _
  refine ownGo.st (fun _ k => XS.bipush X72.here hx rfl (hb hby at_36)  k) ?_
  show ownGo p.tables e below T72 (mkF m 38 #[.val (.int x0), .val (.int x1), .val (.int x2), .unset, .unset, .unset] [(.int (97 : Int32)), (.int (6 : Int32)), (.ref b61), (.ref b61)]) _
  obtain ⟨T74, h74, X74, e74, W74, V_b61_74, st74⟩ := own_iastore X72 hx hZ e72 V_b61_72 (i := 6) rfl (by decide) (g := (mkF m 38 #[.val (.int x0), .val (.int x1), .val (.int x2), .unset, .unset, .unset] [(.int (97 : Int32)), (.int (6 : Int32)), (.ref b61), (.ref b61)])) rfl rfl (hb hby at_38)
  have Ex_b61_75 := Ex_b61_73.wr W74
  have N74 := Fr.snoc X74 N72 gz_b61
  have Z74 : n0 ≤ h74.size := Nat.le_trans Z72 (Nat.le_of_eq W74.size.symm)
  refine ownGo.st (st74) ?_
  show ownGo p.tables e below T74 (mkF m 39 #[.val (.int x0), .val (.int x1), .val (.int x2), .unset, .unset, .unset] [(.ref b61)]) _
  refine ownGo.st (fun _ k => XS.dup X74.here hx rfl (hb hby at_39) rfl rfl k) ?_
  show ownGo p.tables e below T74 (mkF m 40 #[.val (.int x0), .val (.int x1), .val (.int x2), .unset, .unset, .unset] [(.ref b61), (.ref b61)]) _
  refine ownGo.st (fun _ k => XS.bipush X74.here hx rfl (hb hby at_40)  k) ?_
  show ownGo p.tables e below T74 (mkF m 42 #[.val (.int x0), .val (.int x1), .val (.int x2), .unset, .unset, .unset] [(.int (7 : Int32)), (.ref b61), (.ref b61)]) _
  refine ownGo.st (fun _ k => XS.bipush X74.here hx rfl (hb hby at_42)  k) ?_
  show ownGo p.tables e below T74 (mkF m 44 #[.val (.int x0), .val (.int x1), .val (.int x2), .unset, .unset, .unset] [(.int (123 : Int32)), (.int (7 : Int32)), (.ref b61), (.ref b61)]) _
  obtain ⟨T76, h76, X76, e76, W76, V_b61_76, st76⟩ := own_iastore X74 hx hZ e74 V_b61_74 (i := 7) rfl (by decide) (g := (mkF m 44 #[.val (.int x0), .val (.int x1), .val (.int x2), .unset, .unset, .unset] [(.int (123 : Int32)), (.int (7 : Int32)), (.ref b61), (.ref b61)])) rfl rfl (hb hby at_44)
  have Ex_b61_77 := Ex_b61_75.wr W76
  have N76 := Fr.snoc X76 N74 gz_b61
  have Z76 : n0 ≤ h76.size := Nat.le_trans Z74 (Nat.le_of_eq W76.size.symm)
  refine ownGo.st (st76) ?_
  show ownGo p.tables e below T76 (mkF m 45 #[.val (.int x0), .val (.int x1), .val (.int x2), .unset, .unset, .unset] [(.ref b61)]) _
  refine ownGo.st (fun _ k => XS.dup X76.here hx rfl (hb hby at_45) rfl rfl k) ?_
  show ownGo p.tables e below T76 (mkF m 46 #[.val (.int x0), .val (.int x1), .val (.int x2), .unset, .unset, .unset] [(.ref b61), (.ref b61)]) _
  refine ownGo.st (fun _ k => XS.bipush X76.here hx rfl (hb hby at_46)  k) ?_
  show ownGo p.tables e below T76 (mkF m 48 #[.val (.int x0), .val (.int x1), .val (.int x2), .unset, .unset, .unset] [(.int (8 : Int32)), (.ref b61), (.ref b61)]) _
  refine ownGo.st (fun _ k => XS.sipush X76.here hx rfl (hb hby at_48)  k) ?_
  show ownGo p.tables e below T76 (mkF m 51 #[.val (.int x0), .val (.int x1), .val (.int x2), .unset, .unset, .unset] [(.int (192 : Int32)), (.int (8 : Int32)), (.ref b61), (.ref b61)]) _
  obtain ⟨T78, h78, X78, e78, W78, V_b61_78, st78⟩ := own_iastore X76 hx hZ e76 V_b61_76 (i := 8) rfl (by decide) (g := (mkF m 51 #[.val (.int x0), .val (.int x1), .val (.int x2), .unset, .unset, .unset] [(.int (192 : Int32)), (.int (8 : Int32)), (.ref b61), (.ref b61)])) rfl rfl (hb hby at_51)
  have Ex_b61_79 := Ex_b61_77.wr W78
  have N78 := Fr.snoc X78 N76 gz_b61
  have Z78 : n0 ≤ h78.size := Nat.le_trans Z76 (Nat.le_of_eq W78.size.symm)
  refine ownGo.st (st78) ?_
  show ownGo p.tables e below T78 (mkF m 52 #[.val (.int x0), .val (.int x1), .val (.int x2), .unset, .unset, .unset] [(.ref b61)]) _
  refine ownGo.st (fun _ k => XS.dup X78.here hx rfl (hb hby at_52) rfl rfl k) ?_
  show ownGo p.tables e below T78 (mkF m 53 #[.val (.int x0), .val (.int x1), .val (.int x2), .unset, .unset, .unset] [(.ref b61), (.ref b61)]) _
  refine ownGo.st (fun _ k => XS.bipush X78.here hx rfl (hb hby at_53)  k) ?_
  show ownGo p.tables e below T78 (mkF m 55 #[.val (.int x0), .val (.int x1), .val (.int x2), .unset, .unset, .unset] [(.int (9 : Int32)), (.ref b61), (.ref b61)]) _
  refine ownGo.st (fun _ k => XS.sipush X78.here hx rfl (hb hby at_55)  k) ?_
  show ownGo p.tables e below T78 (mkF m 58 #[.val (.int x0), .val (.int x1), .val (.int x2), .unset, .unset, .unset] [(.int (215 : Int32)), (.int (9 : Int32)), (.ref b61), (.ref b61)]) _
  obtain ⟨T80, h80, X80, e80, W80, V_b61_80, st80⟩ := own_iastore X78 hx hZ e78 V_b61_78 (i := 9) rfl (by decide) (g := (mkF m 58 #[.val (.int x0), .val (.int x1), .val (.int x2), .unset, .unset, .unset] [(.int (215 : Int32)), (.int (9 : Int32)), (.ref b61), (.ref b61)])) rfl rfl (hb hby at_58)
  have Ex_b61_81 := Ex_b61_79.wr W80
  have N80 := Fr.snoc X80 N78 gz_b61
  have Z80 : n0 ≤ h80.size := Nat.le_trans Z78 (Nat.le_of_eq W80.size.symm)
  refine ownGo.st (st80) ?_
  show ownGo p.tables e below T80 (mkF m 59 #[.val (.int x0), .val (.int x1), .val (.int x2), .unset, .unset, .unset] [(.ref b61)]) _
  refine ownGo.st (fun _ k => XS.dup X80.here hx rfl (hb hby at_59) rfl rfl k) ?_
  show ownGo p.tables e below T80 (mkF m 60 #[.val (.int x0), .val (.int x1), .val (.int x2), .unset, .unset, .unset] [(.ref b61), (.ref b61)]) _
  refine ownGo.st (fun _ k => XS.bipush X80.here hx rfl (hb hby at_60)  k) ?_
  show ownGo p.tables e below T80 (mkF m 62 #[.val (.int x0), .val (.int x1), .val (.int x2), .unset, .unset, .unset] [(.int (10 : Int32)), (.ref b61), (.ref b61)]) _
  refine ownGo.st (fun _ k => XS.sipush X80.here hx rfl (hb hby at_62)  k) ?_
  show ownGo p.tables e below T80 (mkF m 65 #[.val (.int x0), .val (.int x1), .val (.int x2), .unset, .unset, .unset] [(.int (216 : Int32)), (.int (10 : Int32)), (.ref b61), (.ref b61)]) _
  obtain ⟨T82, h82, X82, e82, W82, V_b61_82, st82⟩ := own_iastore X80 hx hZ e80 V_b61_80 (i := 10) rfl (by decide) (g := (mkF m 65 #[.val (.int x0), .val (.int x1), .val (.int x2), .unset, .unset, .unset] [(.int (216 : Int32)), (.int (10 : Int32)), (.ref b61), (.ref b61)])) rfl rfl (hb hby at_65)
  have Ex_b61_83 := Ex_b61_81.wr W82
  have N82 := Fr.snoc X82 N80 gz_b61
  have Z82 : n0 ≤ h82.size := Nat.le_trans Z80 (Nat.le_of_eq W82.size.symm)
  refine ownGo.st (st82) ?_
  show ownGo p.tables e below T82 (mkF m 66 #[.val (.int x0), .val (.int x1), .val (.int x2), .unset, .unset, .unset] [(.ref b61)]) _
  refine ownGo.st (fun _ k => XS.dup X82.here hx rfl (hb hby at_66) rfl rfl k) ?_
  show ownGo p.tables e below T82 (mkF m 67 #[.val (.int x0), .val (.int x1), .val (.int x2), .unset, .unset, .unset] [(.ref b61), (.ref b61)]) _
  refine ownGo.st (fun _ k => XS.bipush X82.here hx rfl (hb hby at_67)  k) ?_
  show ownGo p.tables e below T82 (mkF m 69 #[.val (.int x0), .val (.int x1), .val (.int x2), .unset, .unset, .unset] [(.int (11 : Int32)), (.ref b61), (.ref b61)]) _
  refine ownGo.st (fun _ k => XS.sipush X82.here hx rfl (hb hby at_69)  k) ?_
  show ownGo p.tables e below T82 (mkF m 72 #[.val (.int x0), .val (.int x1), .val (.int x2), .unset, .unset, .unset] [(.int (247 : Int32)), (.int (11 : Int32)), (.ref b61), (.ref b61)]) _
  obtain ⟨T84, h84, X84, e84, W84, V_b61_84, st84⟩ := own_iastore X82 hx hZ e82 V_b61_82 (i := 11) rfl (by decide) (g := (mkF m 72 #[.val (.int x0), .val (.int x1), .val (.int x2), .unset, .unset, .unset] [(.int (247 : Int32)), (.int (11 : Int32)), (.ref b61), (.ref b61)])) rfl rfl (hb hby at_72)
  have Ex_b61_85 := Ex_b61_83.wr W84
  have N84 := Fr.snoc X84 N82 gz_b61
  have Z84 : n0 ≤ h84.size := Nat.le_trans Z82 (Nat.le_of_eq W84.size.symm)
  refine ownGo.st (st84) ?_
  show ownGo p.tables e below T84 (mkF m 73 #[.val (.int x0), .val (.int x1), .val (.int x2), .unset, .unset, .unset] [(.ref b61)]) _
  refine ownGo.st (fun _ k => XS.dup X84.here hx rfl (hb hby at_73) rfl rfl k) ?_
  show ownGo p.tables e below T84 (mkF m 74 #[.val (.int x0), .val (.int x1), .val (.int x2), .unset, .unset, .unset] [(.ref b61), (.ref b61)]) _
  refine ownGo.st (fun _ k => XS.bipush X84.here hx rfl (hb hby at_74)  k) ?_
  show ownGo p.tables e below T84 (mkF m 76 #[.val (.int x0), .val (.int x1), .val (.int x2), .unset, .unset, .unset] [(.int (12 : Int32)), (.ref b61), (.ref b61)]) _
  refine ownGo.st (fun _ k => XS.sipush X84.here hx rfl (hb hby at_76)  k) ?_
  show ownGo p.tables e below T84 (mkF m 79 #[.val (.int x0), .val (.int x1), .val (.int x2), .unset, .unset, .unset] [(.int (248 : Int32)), (.int (12 : Int32)), (.ref b61), (.ref b61)]) _
  obtain ⟨T86, h86, X86, e86, W86, V_b61_86, st86⟩ := own_iastore X84 hx hZ e84 V_b61_84 (i := 12) rfl (by decide) (g := (mkF m 79 #[.val (.int x0), .val (.int x1), .val (.int x2), .unset, .unset, .unset] [(.int (248 : Int32)), (.int (12 : Int32)), (.ref b61), (.ref b61)])) rfl rfl (hb hby at_79)
  have Ex_b61_87 := Ex_b61_85.wr W86
  have N86 := Fr.snoc X86 N84 gz_b61
  have Z86 : n0 ≤ h86.size := Nat.le_trans Z84 (Nat.le_of_eq W86.size.symm)
  refine ownGo.st (st86) ?_
  show ownGo p.tables e below T86 (mkF m 80 #[.val (.int x0), .val (.int x1), .val (.int x2), .unset, .unset, .unset] [(.ref b61)]) _
  refine ownGo.st (fun _ k => XS.dup X86.here hx rfl (hb hby at_80) rfl rfl k) ?_
  show ownGo p.tables e below T86 (mkF m 81 #[.val (.int x0), .val (.int x1), .val (.int x2), .unset, .unset, .unset] [(.ref b61), (.ref b61)]) _
  refine ownGo.st (fun _ k => XS.bipush X86.here hx rfl (hb hby at_81)  k) ?_
  show ownGo p.tables e below T86 (mkF m 83 #[.val (.int x0), .val (.int x1), .val (.int x2), .unset, .unset, .unset] [(.int (13 : Int32)), (.ref b61), (.ref b61)]) _
  refine ownGo.st (fun _ k => XS.sipush X86.here hx rfl (hb hby at_83)  k) ?_
  show ownGo p.tables e below T86 (mkF m 86 #[.val (.int x0), .val (.int x1), .val (.int x2), .unset, .unset, .unset] [(.int (768 : Int32)), (.int (13 : Int32)), (.ref b61), (.ref b61)]) _
  obtain ⟨T88, h88, X88, e88, W88, V_b61_88, st88⟩ := own_iastore X86 hx hZ e86 V_b61_86 (i := 13) rfl (by decide) (g := (mkF m 86 #[.val (.int x0), .val (.int x1), .val (.int x2), .unset, .unset, .unset] [(.int (768 : Int32)), (.int (13 : Int32)), (.ref b61), (.ref b61)])) rfl rfl (hb hby at_86)
  have Ex_b61_89 := Ex_b61_87.wr W88
  have N88 := Fr.snoc X88 N86 gz_b61
  have Z88 : n0 ≤ h88.size := Nat.le_trans Z86 (Nat.le_of_eq W88.size.symm)
  refine ownGo.st (st88) ?_
  show ownGo p.tables e below T88 (mkF m 87 #[.val (.int x0), .val (.int x1), .val (.int x2), .unset, .unset, .unset] [(.ref b61)]) _
  refine ownGo.st (fun _ k => XS.dup X88.here hx rfl (hb hby at_87) rfl rfl k) ?_
  show ownGo p.tables e below T88 (mkF m 88 #[.val (.int x0), .val (.int x1), .val (.int x2), .unset, .unset, .unset] [(.ref b61), (.ref b61)]) _
  refine ownGo.st (fun _ k => XS.bipush X88.here hx rfl (hb hby at_88)  k) ?_
  show ownGo p.tables e below T88 (mkF m 90 #[.val (.int x0), .val (.int x1), .val (.int x2), .unset, .unset, .unset] [(.int (14 : Int32)), (.ref b61), (.ref b61)]) _
  refine ownGo.st (fun _ k => XS.sipush X88.here hx rfl (hb hby at_90)  k) ?_
  show ownGo p.tables e below T88 (mkF m 93 #[.val (.int x0), .val (.int x1), .val (.int x2), .unset, .unset, .unset] [(.int (880 : Int32)), (.int (14 : Int32)), (.ref b61), (.ref b61)]) _
  obtain ⟨T90, h90, X90, e90, W90, V_b61_90, st90⟩ := own_iastore X88 hx hZ e88 V_b61_88 (i := 14) rfl (by decide) (g := (mkF m 93 #[.val (.int x0), .val (.int x1), .val (.int x2), .unset, .unset, .unset] [(.int (880 : Int32)), (.int (14 : Int32)), (.ref b61), (.ref b61)])) rfl rfl (hb hby at_93)
  have Ex_b61_91 := Ex_b61_89.wr W90
  have N90 := Fr.snoc X90 N88 gz_b61
  have Z90 : n0 ≤ h90.size := Nat.le_trans Z88 (Nat.le_of_eq W90.size.symm)
  refine ownGo.st (st90) ?_
  show ownGo p.tables e below T90 (mkF m 94 #[.val (.int x0), .val (.int x1), .val (.int x2), .unset, .unset, .unset] [(.ref b61)]) _
  refine ownGo.st (fun _ k => XS.dup X90.here hx rfl (hb hby at_94) rfl rfl k) ?_
  show ownGo p.tables e below T90 (mkF m 95 #[.val (.int x0), .val (.int x1), .val (.int x2), .unset, .unset, .unset] [(.ref b61), (.ref b61)]) _
  refine ownGo.st (fun _ k => XS.bipush X90.here hx rfl (hb hby at_95)  k) ?_
  show ownGo p.tables e below T90 (mkF m 97 #[.val (.int x0), .val (.int x1), .val (.int x2), .unset, .unset, .unset] [(.int (15 : Int32)), (.ref b61), (.ref b61)]) _
  refine ownGo.st (fun _ k => XS.sipush X90.here hx rfl (hb hby at_97)  k) ?_
  show ownGo p.tables e below T90 (mkF m 100 #[.val (.int x0), .val (.int x1), .val (.int x2), .unset, .unset, .unset] [(.int (894 : Int32)), (.int (15 : Int32)), (.ref b61), (.ref b61)]) _
  obtain ⟨T92, h92, X92, e92, W92, V_b61_92, st92⟩ := own_iastore X90 hx hZ e90 V_b61_90 (i := 15) rfl (by decide) (g := (mkF m 100 #[.val (.int x0), .val (.int x1), .val (.int x2), .unset, .unset, .unset] [(.int (894 : Int32)), (.int (15 : Int32)), (.ref b61), (.ref b61)])) rfl rfl (hb hby at_100)
  have Ex_b61_93 := Ex_b61_91.wr W92
  have N92 := Fr.snoc X92 N90 gz_b61
  have Z92 : n0 ≤ h92.size := Nat.le_trans Z90 (Nat.le_of_eq W92.size.symm)
  refine ownGo.st (st92) ?_
  show ownGo p.tables e below T92 (mkF m 101 #[.val (.int x0), .val (.int x1), .val (.int x2), .unset, .unset, .unset] [(.ref b61)]) _
  refine ownGo.st (fun _ k => XS.dup X92.here hx rfl (hb hby at_101) rfl rfl k) ?_
  show ownGo p.tables e below T92 (mkF m 102 #[.val (.int x0), .val (.int x1), .val (.int x2), .unset, .unset, .unset] [(.ref b61), (.ref b61)]) _
  refine ownGo.st (fun _ k => XS.bipush X92.here hx rfl (hb hby at_102)  k) ?_
  show ownGo p.tables e below T92 (mkF m 104 #[.val (.int x0), .val (.int x1), .val (.int x2), .unset, .unset, .unset] [(.int (16 : Int32)), (.ref b61), (.ref b61)]) _
  refine ownGo.st (fun _ k => XS.sipush X92.here hx rfl (hb hby at_104)  k) ?_
  show ownGo p.tables e below T92 (mkF m 107 #[.val (.int x0), .val (.int x1), .val (.int x2), .unset, .unset, .unset] [(.int (895 : Int32)), (.int (16 : Int32)), (.ref b61), (.ref b61)]) _
  obtain ⟨T94, h94, X94, e94, W94, V_b61_94, st94⟩ := own_iastore X92 hx hZ e92 V_b61_92 (i := 16) rfl (by decide) (g := (mkF m 107 #[.val (.int x0), .val (.int x1), .val (.int x2), .unset, .unset, .unset] [(.int (895 : Int32)), (.int (16 : Int32)), (.ref b61), (.ref b61)])) rfl rfl (hb hby at_107)
  have Ex_b61_95 := Ex_b61_93.wr W94
  have N94 := Fr.snoc X94 N92 gz_b61
  have Z94 : n0 ≤ h94.size := Nat.le_trans Z92 (Nat.le_of_eq W94.size.symm)
  refine ownGo.st (st94) ?_
  show ownGo p.tables e below T94 (mkF m 108 #[.val (.int x0), .val (.int x1), .val (.int x2), .unset, .unset, .unset] [(.ref b61)]) _
  refine ownGo.st (fun _ k => XS.dup X94.here hx rfl (hb hby at_108) rfl rfl k) ?_
  show ownGo p.tables e below T94 (mkF m 109 #[.val (.int x0), .val (.int x1), .val (.int x2), .unset, .unset, .unset] [(.ref b61), (.ref b61)]) _
  refine ownGo.st (fun _ k => XS.bipush X94.here hx rfl (hb hby at_109)  k) ?_
  show ownGo p.tables e below T94 (mkF m 111 #[.val (.int x0), .val (.int x1), .val (.int x2), .unset, .unset, .unset] [(.int (17 : Int32)), (.ref b61), (.ref b61)]) _
  refine ownGo.st (fun _ k => XS.sipush X94.here hx rfl (hb hby at_111)  k) ?_
  show ownGo p.tables e below T94 (mkF m 114 #[.val (.int x0), .val (.int x1), .val (.int x2), .unset, .unset, .unset] [(.int (8192 : Int32)), (.int (17 : Int32)), (.ref b61), (.ref b61)]) _
  obtain ⟨T96, h96, X96, e96, W96, V_b61_96, st96⟩ := own_iastore X94 hx hZ e94 V_b61_94 (i := 17) rfl (by decide) (g := (mkF m 114 #[.val (.int x0), .val (.int x1), .val (.int x2), .unset, .unset, .unset] [(.int (8192 : Int32)), (.int (17 : Int32)), (.ref b61), (.ref b61)])) rfl rfl (hb hby at_114)
  have Ex_b61_97 := Ex_b61_95.wr W96
  have N96 := Fr.snoc X96 N94 gz_b61
  have Z96 : n0 ≤ h96.size := Nat.le_trans Z94 (Nat.le_of_eq W96.size.symm)
  refine ownGo.st (st96) ?_
  show ownGo p.tables e below T96 (mkF m 115 #[.val (.int x0), .val (.int x1), .val (.int x2), .unset, .unset, .unset] [(.ref b61)]) _
  refine ownGo.st (fun _ k => XS.dup X96.here hx rfl (hb hby at_115) rfl rfl k) ?_
  show ownGo p.tables e below T96 (mkF m 116 #[.val (.int x0), .val (.int x1), .val (.int x2), .unset, .unset, .unset] [(.ref b61), (.ref b61)]) _
  refine ownGo.st (fun _ k => XS.bipush X96.here hx rfl (hb hby at_116)  k) ?_
  show ownGo p.tables e below T96 (mkF m 118 #[.val (.int x0), .val (.int x1), .val (.int x2), .unset, .unset, .unset] [(.int (18 : Int32)), (.ref b61), (.ref b61)]) _
  refine ownGo.st (fun _ k => XS.sipush X96.here hx rfl (hb hby at_118)  k) ?_
  show ownGo p.tables e below T96 (mkF m 121 #[.val (.int x0), .val (.int x1), .val (.int x2), .unset, .unset, .unset] [(.int (8204 : Int32)), (.int (18 : Int32)), (.ref b61), (.ref b61)]) _
  obtain ⟨T98, h98, X98, e98, W98, V_b61_98, st98⟩ := own_iastore X96 hx hZ e96 V_b61_96 (i := 18) rfl (by decide) (g := (mkF m 121 #[.val (.int x0), .val (.int x1), .val (.int x2), .unset, .unset, .unset] [(.int (8204 : Int32)), (.int (18 : Int32)), (.ref b61), (.ref b61)])) rfl rfl (hb hby at_121)
  have Ex_b61_99 := Ex_b61_97.wr W98
  have N98 := Fr.snoc X98 N96 gz_b61
  have Z98 : n0 ≤ h98.size := Nat.le_trans Z96 (Nat.le_of_eq W98.size.symm)
  refine ownGo.st (st98) ?_
  show ownGo p.tables e below T98 (mkF m 122 #[.val (.int x0), .val (.int x1), .val (.int x2), .unset, .unset, .unset] [(.ref b61)]) _
  refine ownGo.st (fun _ k => XS.dup X98.here hx rfl (hb hby at_122) rfl rfl k) ?_
  show ownGo p.tables e below T98 (mkF m 123 #[.val (.int x0), .val (.int x1), .val (.int x2), .unset, .unset, .unset] [(.ref b61), (.ref b61)]) _
  refine ownGo.st (fun _ k => XS.bipush X98.here hx rfl (hb hby at_123)  k) ?_
  show ownGo p.tables e below T98 (mkF m 125 #[.val (.int x0), .val (.int x1), .val (.int x2), .unset, .unset, .unset] [(.int (19 : Int32)), (.ref b61), (.ref b61)]) _
  refine ownGo.st (fun _ k => XS.sipush X98.here hx rfl (hb hby at_125)  k) ?_
  show ownGo p.tables e below T98 (mkF m 128 #[.val (.int x0), .val (.int x1), .val (.int x2), .unset, .unset, .unset] [(.int (8206 : Int32)), (.int (19 : Int32)), (.ref b61), (.ref b61)]) _
  obtain ⟨T100, h100, X100, e100, W100, V_b61_100, st100⟩ := own_iastore X98 hx hZ e98 V_b61_98 (i := 19) rfl (by decide) (g := (mkF m 128 #[.val (.int x0), .val (.int x1), .val (.int x2), .unset, .unset, .unset] [(.int (8206 : Int32)), (.int (19 : Int32)), (.ref b61), (.ref b61)])) rfl rfl (hb hby at_128)
  have Ex_b61_101 := Ex_b61_99.wr W100
  have N100 := Fr.snoc X100 N98 gz_b61
  have Z100 : n0 ≤ h100.size := Nat.le_trans Z98 (Nat.le_of_eq W100.size.symm)
  refine ownGo.st (st100) ?_
  show ownGo p.tables e below T100 (mkF m 129 #[.val (.int x0), .val (.int x1), .val (.int x2), .unset, .unset, .unset] [(.ref b61)]) _
  refine ownGo.st (fun _ k => XS.dup X100.here hx rfl (hb hby at_129) rfl rfl k) ?_
  show ownGo p.tables e below T100 (mkF m 130 #[.val (.int x0), .val (.int x1), .val (.int x2), .unset, .unset, .unset] [(.ref b61), (.ref b61)]) _
  refine ownGo.st (fun _ k => XS.bipush X100.here hx rfl (hb hby at_130)  k) ?_
  show ownGo p.tables e below T100 (mkF m 132 #[.val (.int x0), .val (.int x1), .val (.int x2), .unset, .unset, .unset] [(.int (20 : Int32)), (.ref b61), (.ref b61)]) _
  refine ownGo.st (fun _ k => XS.sipush X100.here hx rfl (hb hby at_132)  k) ?_
  show ownGo p.tables e below T100 (mkF m 135 #[.val (.int x0), .val (.int x1), .val (.int x2), .unset, .unset, .unset] [(.int (8304 : Int32)), (.int (20 : Int32)), (.ref b61), (.ref b61)]) _
  obtain ⟨T102, h102, X102, e102, W102, V_b61_102, st102⟩ := own_iastore X100 hx hZ e100 V_b61_100 (i := 20) rfl (by decide) (g := (mkF m 135 #[.val (.int x0), .val (.int x1), .val (.int x2), .unset, .unset, .unset] [(.int (8304 : Int32)), (.int (20 : Int32)), (.ref b61), (.ref b61)])) rfl rfl (hb hby at_135)
  have Ex_b61_103 := Ex_b61_101.wr W102
  have N102 := Fr.snoc X102 N100 gz_b61
  have Z102 : n0 ≤ h102.size := Nat.le_trans Z100 (Nat.le_of_eq W102.size.symm)
  refine ownGo.st (st102) ?_
  show ownGo p.tables e below T102 (mkF m 136 #[.val (.int x0), .val (.int x1), .val (.int x2), .unset, .unset, .unset] [(.ref b61)]) _
  refine ownGo.st (fun _ k => XS.dup X102.here hx rfl (hb hby at_136) rfl rfl k) ?_
  show ownGo p.tables e below T102 (mkF m 137 #[.val (.int x0), .val (.int x1), .val (.int x2), .unset, .unset, .unset] [(.ref b61), (.ref b61)]) _
  refine ownGo.st (fun _ k => XS.bipush X102.here hx rfl (hb hby at_137)  k) ?_
  show ownGo p.tables e below T102 (mkF m 139 #[.val (.int x0), .val (.int x1), .val (.int x2), .unset, .unset, .unset] [(.int (21 : Int32)), (.ref b61), (.ref b61)]) _
  refine ownGo.st (fun _ k => XS.sipush X102.here hx rfl (hb hby at_139)  k) ?_
  show ownGo p.tables e below T102 (mkF m 142 #[.val (.int x0), .val (.int x1), .val (.int x2), .unset, .unset, .unset] [(.int (8592 : Int32)), (.int (21 : Int32)), (.ref b61), (.ref b61)]) _
  obtain ⟨T104, h104, X104, e104, W104, V_b61_104, st104⟩ := own_iastore X102 hx hZ e102 V_b61_102 (i := 21) rfl (by decide) (g := (mkF m 142 #[.val (.int x0), .val (.int x1), .val (.int x2), .unset, .unset, .unset] [(.int (8592 : Int32)), (.int (21 : Int32)), (.ref b61), (.ref b61)])) rfl rfl (hb hby at_142)
  have Ex_b61_105 := Ex_b61_103.wr W104
  have N104 := Fr.snoc X104 N102 gz_b61
  have Z104 : n0 ≤ h104.size := Nat.le_trans Z102 (Nat.le_of_eq W104.size.symm)
  refine ownGo.st (st104) ?_
  show ownGo p.tables e below T104 (mkF m 143 #[.val (.int x0), .val (.int x1), .val (.int x2), .unset, .unset, .unset] [(.ref b61)]) _
  refine ownGo.st (fun _ k => XS.dup X104.here hx rfl (hb hby at_143) rfl rfl k) ?_
  show ownGo p.tables e below T104 (mkF m 144 #[.val (.int x0), .val (.int x1), .val (.int x2), .unset, .unset, .unset] [(.ref b61), (.ref b61)]) _
  refine ownGo.st (fun _ k => XS.bipush X104.here hx rfl (hb hby at_144)  k) ?_
  show ownGo p.tables e below T104 (mkF m 146 #[.val (.int x0), .val (.int x1), .val (.int x2), .unset, .unset, .unset] [(.int (22 : Int32)), (.ref b61), (.ref b61)]) _
  refine ownGo.st (fun _ k => XS.sipush X104.here hx rfl (hb hby at_146)  k) ?_
  show ownGo p.tables e below T104 (mkF m 149 #[.val (.int x0), .val (.int x1), .val (.int x2), .unset, .unset, .unset] [(.int (11264 : Int32)), (.int (22 : Int32)), (.ref b61), (.ref b61)]) _
  obtain ⟨T106, h106, X106, e106, W106, V_b61_106, st106⟩ := own_iastore X104 hx hZ e104 V_b61_104 (i := 22) rfl (by decide) (g := (mkF m 149 #[.val (.int x0), .val (.int x1), .val (.int x2), .unset, .unset, .unset] [(.int (11264 : Int32)), (.int (22 : Int32)), (.ref b61), (.ref b61)])) rfl rfl (hb hby at_149)
  have Ex_b61_107 := Ex_b61_105.wr W106
  have N106 := Fr.snoc X106 N104 gz_b61
  have Z106 : n0 ≤ h106.size := Nat.le_trans Z104 (Nat.le_of_eq W106.size.symm)
  refine ownGo.st (st106) ?_
  show ownGo p.tables e below T106 (mkF m 150 #[.val (.int x0), .val (.int x1), .val (.int x2), .unset, .unset, .unset] [(.ref b61)]) _
  refine ownGo.st (fun _ k => XS.dup X106.here hx rfl (hb hby at_150) rfl rfl k) ?_
  show ownGo p.tables e below T106 (mkF m 151 #[.val (.int x0), .val (.int x1), .val (.int x2), .unset, .unset, .unset] [(.ref b61), (.ref b61)]) _
  refine ownGo.st (fun _ k => XS.bipush X106.here hx rfl (hb hby at_151)  k) ?_
  show ownGo p.tables e below T106 (mkF m 153 #[.val (.int x0), .val (.int x1), .val (.int x2), .unset, .unset, .unset] [(.int (23 : Int32)), (.ref b61), (.ref b61)]) _
  refine ownGo.st (fun _ k => XS.sipush X106.here hx rfl (hb hby at_153)  k) ?_
  show ownGo p.tables e below T106 (mkF m 156 #[.val (.int x0), .val (.int x1), .val (.int x2), .unset, .unset, .unset] [(.int (12272 : Int32)), (.int (23 : Int32)), (.ref b61), (.ref b61)]) _
  obtain ⟨T108, h108, X108, e108, W108, V_b61_108, st108⟩ := own_iastore X106 hx hZ e106 V_b61_106 (i := 23) rfl (by decide) (g := (mkF m 156 #[.val (.int x0), .val (.int x1), .val (.int x2), .unset, .unset, .unset] [(.int (12272 : Int32)), (.int (23 : Int32)), (.ref b61), (.ref b61)])) rfl rfl (hb hby at_156)
  have Ex_b61_109 := Ex_b61_107.wr W108
  have N108 := Fr.snoc X108 N106 gz_b61
  have Z108 : n0 ≤ h108.size := Nat.le_trans Z106 (Nat.le_of_eq W108.size.symm)
  refine ownGo.st (st108) ?_
  show ownGo p.tables e below T108 (mkF m 157 #[.val (.int x0), .val (.int x1), .val (.int x2), .unset, .unset, .unset] [(.ref b61)]) _
  refine ownGo.st (fun _ k => XS.dup X108.here hx rfl (hb hby at_157) rfl rfl k) ?_
  show ownGo p.tables e below T108 (mkF m 158 #[.val (.int x0), .val (.int x1), .val (.int x2), .unset, .unset, .unset] [(.ref b61), (.ref b61)]) _
  refine ownGo.st (fun _ k => XS.bipush X108.here hx rfl (hb hby at_158)  k) ?_
  show ownGo p.tables e below T108 (mkF m 160 #[.val (.int x0), .val (.int x1), .val (.int x2), .unset, .unset, .unset] [(.int (24 : Int32)), (.ref b61), (.ref b61)]) _
  refine ownGo.st (fun _ k => XS.sipush X108.here hx rfl (hb hby at_160)  k) ?_
  show ownGo p.tables e below T108 (mkF m 163 #[.val (.int x0), .val (.int x1), .val (.int x2), .unset, .unset, .unset] [(.int (12289 : Int32)), (.int (24 : Int32)), (.ref b61), (.ref b61)]) _
  obtain ⟨T110, h110, X110, e110, W110, V_b61_110, st110⟩ := own_iastore X108 hx hZ e108 V_b61_108 (i := 24) rfl (by decide) (g := (mkF m 163 #[.val (.int x0), .val (.int x1), .val (.int x2), .unset, .unset, .unset] [(.int (12289 : Int32)), (.int (24 : Int32)), (.ref b61), (.ref b61)])) rfl rfl (hb hby at_163)
  have Ex_b61_111 := Ex_b61_109.wr W110
  have N110 := Fr.snoc X110 N108 gz_b61
  have Z110 : n0 ≤ h110.size := Nat.le_trans Z108 (Nat.le_of_eq W110.size.symm)
  refine ownGo.st (st110) ?_
  show ownGo p.tables e below T110 (mkF m 164 #[.val (.int x0), .val (.int x1), .val (.int x2), .unset, .unset, .unset] [(.ref b61)]) _
  refine ownGo.st (fun _ k => XS.dup X110.here hx rfl (hb hby at_164) rfl rfl k) ?_
  show ownGo p.tables e below T110 (mkF m 165 #[.val (.int x0), .val (.int x1), .val (.int x2), .unset, .unset, .unset] [(.ref b61), (.ref b61)]) _
  refine ownGo.st (fun _ k => XS.bipush X110.here hx rfl (hb hby at_165)  k) ?_
  show ownGo p.tables e below T110 (mkF m 167 #[.val (.int x0), .val (.int x1), .val (.int x2), .unset, .unset, .unset] [(.int (25 : Int32)), (.ref b61), (.ref b61)]) _
  refine ownGo.st (X110.ldcInt hx hown (mvT hZ (own_at hw 2 rfl)) (g := (mkF m 167 #[.val (.int x0), .val (.int x1), .val (.int x2), .unset, .unset, .unset] [(.int (25 : Int32)), (.ref b61), (.ref b61)])) rfl (hb hby at_167)) ?_
  show ownGo p.tables e below T110 (mkF m 169 #[.val (.int x0), .val (.int x1), .val (.int x2), .unset, .unset, .unset] [(.int (55296 : Int32)), (.int (25 : Int32)), (.ref b61), (.ref b61)]) _
  obtain ⟨T112, h112, X112, e112, W112, V_b61_112, st112⟩ := own_iastore X110 hx hZ e110 V_b61_110 (i := 25) rfl (by decide) (g := (mkF m 169 #[.val (.int x0), .val (.int x1), .val (.int x2), .unset, .unset, .unset] [(.int (55296 : Int32)), (.int (25 : Int32)), (.ref b61), (.ref b61)])) rfl rfl (hb hby at_169)
  have Ex_b61_113 := Ex_b61_111.wr W112
  have N112 := Fr.snoc X112 N110 gz_b61
  have Z112 : n0 ≤ h112.size := Nat.le_trans Z110 (Nat.le_of_eq W112.size.symm)
  refine ownGo.st (st112) ?_
  show ownGo p.tables e below T112 (mkF m 170 #[.val (.int x0), .val (.int x1), .val (.int x2), .unset, .unset, .unset] [(.ref b61)]) _
  refine ownGo.st (fun _ k => XS.dup X112.here hx rfl (hb hby at_170) rfl rfl k) ?_
  show ownGo p.tables e below T112 (mkF m 171 #[.val (.int x0), .val (.int x1), .val (.int x2), .unset, .unset, .unset] [(.ref b61), (.ref b61)]) _
  refine ownGo.st (fun _ k => XS.bipush X112.here hx rfl (hb hby at_171)  k) ?_
  show ownGo p.tables e below T112 (mkF m 173 #[.val (.int x0), .val (.int x1), .val (.int x2), .unset, .unset, .unset] [(.int (26 : Int32)), (.ref b61), (.ref b61)]) _
  refine ownGo.st (X112.ldcInt hx hown (mvT hZ (own_at hw 3 rfl)) (g := (mkF m 173 #[.val (.int x0), .val (.int x1), .val (.int x2), .unset, .unset, .unset] [(.int (26 : Int32)), (.ref b61), (.ref b61)])) rfl (hb hby at_173)) ?_
  show ownGo p.tables e below T112 (mkF m 175 #[.val (.int x0), .val (.int x1), .val (.int x2), .unset, .unset, .unset] [(.int (63744 : Int32)), (.int (26 : Int32)), (.ref b61), (.ref b61)]) _
  obtain ⟨T114, h114, X114, e114, W114, V_b61_114, st114⟩ := own_iastore X112 hx hZ e112 V_b61_112 (i := 26) rfl (by decide) (g := (mkF m 175 #[.val (.int x0), .val (.int x1), .val (.int x2), .unset, .unset, .unset] [(.int (63744 : Int32)), (.int (26 : Int32)), (.ref b61), (.ref b61)])) rfl rfl (hb hby at_175)
  have Ex_b61_115 := Ex_b61_113.wr W114
  have N114 := Fr.snoc X114 N112 gz_b61
  have Z114 : n0 ≤ h114.size := Nat.le_trans Z112 (Nat.le_of_eq W114.size.symm)
  refine ownGo.st (st114) ?_
  show ownGo p.tables e below T114 (mkF m 176 #[.val (.int x0), .val (.int x1), .val (.int x2), .unset, .unset, .unset] [(.ref b61)]) _
  refine ownGo.st (fun _ k => XS.dup X114.here hx rfl (hb hby at_176) rfl rfl k) ?_
  show ownGo p.tables e below T114 (mkF m 177 #[.val (.int x0), .val (.int x1), .val (.int x2), .unset, .unset, .unset] [(.ref b61), (.ref b61)]) _
  refine ownGo.st (fun _ k => XS.bipush X114.here hx rfl (hb hby at_177)  k) ?_
  show ownGo p.tables e below T114 (mkF m 179 #[.val (.int x0), .val (.int x1), .val (.int x2), .unset, .unset, .unset] [(.int (27 : Int32)), (.ref b61), (.ref b61)]) _
  refine ownGo.st (X114.ldcInt hx hown (mvT hZ (own_at hw 4 rfl)) (g := (mkF m 179 #[.val (.int x0), .val (.int x1), .val (.int x2), .unset, .unset, .unset] [(.int (27 : Int32)), (.ref b61), (.ref b61)])) rfl (hb hby at_179)) ?_
  show ownGo p.tables e below T114 (mkF m 181 #[.val (.int x0), .val (.int x1), .val (.int x2), .unset, .unset, .unset] [(.int (64976 : Int32)), (.int (27 : Int32)), (.ref b61), (.ref b61)]) _
  obtain ⟨T116, h116, X116, e116, W116, V_b61_116, st116⟩ := own_iastore X114 hx hZ e114 V_b61_114 (i := 27) rfl (by decide) (g := (mkF m 181 #[.val (.int x0), .val (.int x1), .val (.int x2), .unset, .unset, .unset] [(.int (64976 : Int32)), (.int (27 : Int32)), (.ref b61), (.ref b61)])) rfl rfl (hb hby at_181)
  have Ex_b61_117 := Ex_b61_115.wr W116
  have N116 := Fr.snoc X116 N114 gz_b61
  have Z116 : n0 ≤ h116.size := Nat.le_trans Z114 (Nat.le_of_eq W116.size.symm)
  refine ownGo.st (st116) ?_
  show ownGo p.tables e below T116 (mkF m 182 #[.val (.int x0), .val (.int x1), .val (.int x2), .unset, .unset, .unset] [(.ref b61)]) _
  refine ownGo.st (fun _ k => XS.dup X116.here hx rfl (hb hby at_182) rfl rfl k) ?_
  show ownGo p.tables e below T116 (mkF m 183 #[.val (.int x0), .val (.int x1), .val (.int x2), .unset, .unset, .unset] [(.ref b61), (.ref b61)]) _
  refine ownGo.st (fun _ k => XS.bipush X116.here hx rfl (hb hby at_183)  k) ?_
  show ownGo p.tables e below T116 (mkF m 185 #[.val (.int x0), .val (.int x1), .val (.int x2), .unset, .unset, .unset] [(.int (28 : Int32)), (.ref b61), (.ref b61)]) _
  refine ownGo.st (X116.ldcInt hx hown (mvT hZ (own_at hw 5 rfl)) (g := (mkF m 185 #[.val (.int x0), .val (.int x1), .val (.int x2), .unset, .unset, .unset] [(.int (28 : Int32)), (.ref b61), (.ref b61)])) rfl (hb hby at_185)) ?_
  show ownGo p.tables e below T116 (mkF m 187 #[.val (.int x0), .val (.int x1), .val (.int x2), .unset, .unset, .unset] [(.int (65008 : Int32)), (.int (28 : Int32)), (.ref b61), (.ref b61)]) _
  obtain ⟨T118, h118, X118, e118, W118, V_b61_118, st118⟩ := own_iastore X116 hx hZ e116 V_b61_116 (i := 28) rfl (by decide) (g := (mkF m 187 #[.val (.int x0), .val (.int x1), .val (.int x2), .unset, .unset, .unset] [(.int (65008 : Int32)), (.int (28 : Int32)), (.ref b61), (.ref b61)])) rfl rfl (hb hby at_187)
  have Ex_b61_119 := Ex_b61_117.wr W118
  have N118 := Fr.snoc X118 N116 gz_b61
  have Z118 : n0 ≤ h118.size := Nat.le_trans Z116 (Nat.le_of_eq W118.size.symm)
  refine ownGo.st (st118) ?_
  show ownGo p.tables e below T118 (mkF m 188 #[.val (.int x0), .val (.int x1), .val (.int x2), .unset, .unset, .unset] [(.ref b61)]) _
  refine ownGo.st (fun _ k => XS.dup X118.here hx rfl (hb hby at_188) rfl rfl k) ?_
  show ownGo p.tables e below T118 (mkF m 189 #[.val (.int x0), .val (.int x1), .val (.int x2), .unset, .unset, .unset] [(.ref b61), (.ref b61)]) _
  refine ownGo.st (fun _ k => XS.bipush X118.here hx rfl (hb hby at_189)  k) ?_
  show ownGo p.tables e below T118 (mkF m 191 #[.val (.int x0), .val (.int x1), .val (.int x2), .unset, .unset, .unset] [(.int (29 : Int32)), (.ref b61), (.ref b61)]) _
  refine ownGo.st (X118.ldcInt hx hown (mvT hZ (own_at hw 6 rfl)) (g := (mkF m 191 #[.val (.int x0), .val (.int x1), .val (.int x2), .unset, .unset, .unset] [(.int (29 : Int32)), (.ref b61), (.ref b61)])) rfl (hb hby at_191)) ?_
  show ownGo p.tables e below T118 (mkF m 193 #[.val (.int x0), .val (.int x1), .val (.int x2), .unset, .unset, .unset] [(.int (65534 : Int32)), (.int (29 : Int32)), (.ref b61), (.ref b61)]) _
  obtain ⟨T120, h120, X120, e120, W120, V_b61_120, st120⟩ := own_iastore X118 hx hZ e118 V_b61_118 (i := 29) rfl (by decide) (g := (mkF m 193 #[.val (.int x0), .val (.int x1), .val (.int x2), .unset, .unset, .unset] [(.int (65534 : Int32)), (.int (29 : Int32)), (.ref b61), (.ref b61)])) rfl rfl (hb hby at_193)
  have Ex_b61_121 := Ex_b61_119.wr W120
  have N120 := Fr.snoc X120 N118 gz_b61
  have Z120 : n0 ≤ h120.size := Nat.le_trans Z118 (Nat.le_of_eq W120.size.symm)
  refine ownGo.st (st120) ?_
  show ownGo p.tables e below T120 (mkF m 194 #[.val (.int x0), .val (.int x1), .val (.int x2), .unset, .unset, .unset] [(.ref b61)]) _
  refine ownGo.st (fun _ k => XS.dup X120.here hx rfl (hb hby at_194) rfl rfl k) ?_
  show ownGo p.tables e below T120 (mkF m 195 #[.val (.int x0), .val (.int x1), .val (.int x2), .unset, .unset, .unset] [(.ref b61), (.ref b61)]) _
  refine ownGo.st (fun _ k => XS.bipush X120.here hx rfl (hb hby at_195)  k) ?_
  show ownGo p.tables e below T120 (mkF m 197 #[.val (.int x0), .val (.int x1), .val (.int x2), .unset, .unset, .unset] [(.int (30 : Int32)), (.ref b61), (.ref b61)]) _
  refine ownGo.st (X120.ldcInt hx hown (mvT hZ (own_at hw 7 rfl)) (g := (mkF m 197 #[.val (.int x0), .val (.int x1), .val (.int x2), .unset, .unset, .unset] [(.int (30 : Int32)), (.ref b61), (.ref b61)])) rfl (hb hby at_197)) ?_
  show ownGo p.tables e below T120 (mkF m 199 #[.val (.int x0), .val (.int x1), .val (.int x2), .unset, .unset, .unset] [(.int (65536 : Int32)), (.int (30 : Int32)), (.ref b61), (.ref b61)]) _
  obtain ⟨T122, h122, X122, e122, W122, V_b61_122, st122⟩ := own_iastore X120 hx hZ e120 V_b61_120 (i := 30) rfl (by decide) (g := (mkF m 199 #[.val (.int x0), .val (.int x1), .val (.int x2), .unset, .unset, .unset] [(.int (65536 : Int32)), (.int (30 : Int32)), (.ref b61), (.ref b61)])) rfl rfl (hb hby at_199)
  have Ex_b61_123 := Ex_b61_121.wr W122
  have N122 := Fr.snoc X122 N120 gz_b61
  have Z122 : n0 ≤ h122.size := Nat.le_trans Z120 (Nat.le_of_eq W122.size.symm)
  refine ownGo.st (st122) ?_
  show ownGo p.tables e below T122 (mkF m 200 #[.val (.int x0), .val (.int x1), .val (.int x2), .unset, .unset, .unset] [(.ref b61)]) _
  refine ownGo.st (fun _ k => XS.dup X122.here hx rfl (hb hby at_200) rfl rfl k) ?_
  show ownGo p.tables e below T122 (mkF m 201 #[.val (.int x0), .val (.int x1), .val (.int x2), .unset, .unset, .unset] [(.ref b61), (.ref b61)]) _
  refine ownGo.st (fun _ k => XS.bipush X122.here hx rfl (hb hby at_201)  k) ?_
  show ownGo p.tables e below T122 (mkF m 203 #[.val (.int x0), .val (.int x1), .val (.int x2), .unset, .unset, .unset] [(.int (31 : Int32)), (.ref b61), (.ref b61)]) _
  refine ownGo.st (X122.ldcInt hx hown (mvT hZ (own_at hw 8 rfl)) (g := (mkF m 203 #[.val (.int x0), .val (.int x1), .val (.int x2), .unset, .unset, .unset] [(.int (31 : Int32)), (.ref b61), (.ref b61)])) rfl (hb hby at_203)) ?_
  show ownGo p.tables e below T122 (mkF m 205 #[.val (.int x0), .val (.int x1), .val (.int x2), .unset, .unset, .unset] [(.int (983040 : Int32)), (.int (31 : Int32)), (.ref b61), (.ref b61)]) _
  obtain ⟨T124, h124, X124, e124, W124, V_b61_124, st124⟩ := own_iastore X122 hx hZ e122 V_b61_122 (i := 31) rfl (by decide) (g := (mkF m 205 #[.val (.int x0), .val (.int x1), .val (.int x2), .unset, .unset, .unset] [(.int (983040 : Int32)), (.int (31 : Int32)), (.ref b61), (.ref b61)])) rfl rfl (hb hby at_205)
  have Ex_b61_125 := Ex_b61_123.wr W124
  have N124 := Fr.snoc X124 N122 gz_b61
  have Z124 : n0 ≤ h124.size := Nat.le_trans Z122 (Nat.le_of_eq W124.size.symm)
  refine ownGo.st (st124) ?_
  show ownGo p.tables e below T124 (mkF m 206 #[.val (.int x0), .val (.int x1), .val (.int x2), .unset, .unset, .unset] [(.ref b61)]) _
  refine ownGo.st (fun _ k => XS.dup X124.here hx rfl (hb hby at_206) rfl rfl k) ?_
  show ownGo p.tables e below T124 (mkF m 207 #[.val (.int x0), .val (.int x1), .val (.int x2), .unset, .unset, .unset] [(.ref b61), (.ref b61)]) _
  refine ownGo.st (fun _ k => XS.bipush X124.here hx rfl (hb hby at_207)  k) ?_
  show ownGo p.tables e below T124 (mkF m 209 #[.val (.int x0), .val (.int x1), .val (.int x2), .unset, .unset, .unset] [(.int (32 : Int32)), (.ref b61), (.ref b61)]) _
  refine ownGo.st (X124.ldcInt hx hown (mvT hZ (own_at hw 9 rfl)) (g := (mkF m 209 #[.val (.int x0), .val (.int x1), .val (.int x2), .unset, .unset, .unset] [(.int (32 : Int32)), (.ref b61), (.ref b61)])) rfl (hb hby at_209)) ?_
  show ownGo p.tables e below T124 (mkF m 211 #[.val (.int x0), .val (.int x1), .val (.int x2), .unset, .unset, .unset] [(.int (2147483646 : Int32)), (.int (32 : Int32)), (.ref b61), (.ref b61)]) _
  obtain ⟨T126, h126, X126, e126, W126, V_b61_126, st126⟩ := own_iastore X124 hx hZ e124 V_b61_124 (i := 32) rfl (by decide) (g := (mkF m 211 #[.val (.int x0), .val (.int x1), .val (.int x2), .unset, .unset, .unset] [(.int (2147483646 : Int32)), (.int (32 : Int32)), (.ref b61), (.ref b61)])) rfl rfl (hb hby at_211)
  have Ex_b61_127 := Ex_b61_125.wr W126
  have N126 := Fr.snoc X126 N124 gz_b61
  have Z126 : n0 ≤ h126.size := Nat.le_trans Z124 (Nat.le_of_eq W126.size.symm)
  refine ownGo.st (st126) ?_
  show ownGo p.tables e below T126 (mkF m 212 #[.val (.int x0), .val (.int x1), .val (.int x2), .unset, .unset, .unset] [(.ref b61)]) _
  refine ownGo.st (fun _ k => XS.astoreN X126.here hx rfl (hb hby at_212) rfl rfl (l' := #[.val (.int x0), .val (.int x1), .val (.int x2), .val (.ref b61), .unset, .unset]) rfl k) ?_
  show ownGo p.tables e below T126 (mkF m 213 #[.val (.int x0), .val (.int x1), .val (.int x2), .val (.ref b61), .unset, .unset] []) _
  refine ownGo.st (fun _ k => XS.iloadN X126.here hx rfl (hb hby at_213) rfl k) ?_
  show ownGo p.tables e below T126 (mkF m 214 #[.val (.int x0), .val (.int x1), .val (.int x2), .val (.ref b61), .unset, .unset] [(.int x1)]) _
  refine ownGo.st (fun _ k => XS.iconst X126.here hx rfl (hb hby at_214)  k) ?_
  show ownGo p.tables e below T126 (mkF m 215 #[.val (.int x0), .val (.int x1), .val (.int x2), .val (.ref b61), .unset, .unset] [(.int (1 : Int32)), (.int x1)]) _
  refine ownGo.st (fun _ k => XS.iand X126.here hx rfl (hb hby at_215) rfl k) ?_
  show ownGo p.tables e below T126 (mkF m 216 #[.val (.int x0), .val (.int x1), .val (.int x2), .val (.ref b61), .unset, .unset] [(.int (x1 &&& (1 : Int32)))]) _
  by_cases hc128 : (x1 &&& (1 : Int32)) = (0 : Int32)
  · refine ownGo.st (fun _ k => XS.ifYes X126.here hx rfl (pc0 := 216) (pc' := 223) rfl (hb hby at_216) rfl ((if0 _ _).trans (teq hc128).1) (by decide) (by decide) k) ?_
    show ownGo p.tables e below T126 (mkF m 223 #[.val (.int x0), .val (.int x1), .val (.int x2), .val (.ref b61), .unset, .unset] []) _
    refine ownGo.st (fun _ k => XS.iconst X126.here hx rfl (hb hby at_223)  k) ?_
    show ownGo p.tables e below T126 (mkF m 224 #[.val (.int x0), .val (.int x1), .val (.int x2), .val (.ref b61), .unset, .unset] [(.int (0 : Int32))]) _
    refine ownGo.st (fun _ k => XS.istore X126.here hx rfl (hb hby at_224) rfl (l' := #[.val (.int x0), .val (.int x1), .val (.int x2), .val (.ref b61), .val (.int (0 : Int32)), .unset]) rfl k) ?_
    show ownGo p.tables e below T126 (mkF m 226 #[.val (.int x0), .val (.int x1), .val (.int x2), .val (.ref b61), .val (.int (0 : Int32)), .unset] []) _
    refine ownGo.st (fun _ k => XS.iload X126.here hx rfl (hb hby at_226) rfl k) ?_
    show ownGo p.tables e below T126 (mkF m 228 #[.val (.int x0), .val (.int x1), .val (.int x2), .val (.ref b61), .val (.int (0 : Int32)), .unset] [(.int (0 : Int32))]) _
    have hc129 : (0 : Int32) = (0 : Int32) := rfl
    refine ownGo.st (fun _ k => XS.ifYes X126.here hx rfl (pc0 := 228) (pc' := 235) rfl (hb hby at_228) rfl ((if0 _ _).trans (teq hc129).1) (by decide) (by decide) k) ?_
    show ownGo p.tables e below T126 (mkF m 235 #[.val (.int x0), .val (.int x1), .val (.int x2), .val (.ref b61), .val (.int (0 : Int32)), .unset] []) _
    refine ownGo.st (fun _ k => XS.aloadN X126.here hx rfl (hb hby at_235) rfl rfl k) ?_
    show ownGo p.tables e below T126 (mkF m 236 #[.val (.int x0), .val (.int x1), .val (.int x2), .val (.ref b61), .val (.int (0 : Int32)), .unset] [(.ref b61)]) _
    refine ownGo.st (fun _ k => XS.iloadN X126.here hx rfl (hb hby at_236) rfl k) ?_
    show ownGo p.tables e below T126 (mkF m 237 #[.val (.int x0), .val (.int x1), .val (.int x2), .val (.ref b61), .val (.int (0 : Int32)), .unset] [(.int x1), (.ref b61)]) _
    refine ownGo.st (fun _ k => XS.iconst X126.here hx rfl (hb hby at_237)  k) ?_
    show ownGo p.tables e below T126 (mkF m 238 #[.val (.int x0), .val (.int x1), .val (.int x2), .val (.ref b61), .val (.int (0 : Int32)), .unset] [(.int (1 : Int32)), (.int x1), (.ref b61)]) _
    refine ownGo.st (fun _ k => XS.iushr X126.here hx rfl (hb hby at_238) rfl k) ?_
    show ownGo p.tables e below T126 (mkF m 239 #[.val (.int x0), .val (.int x1), .val (.int x2), .val (.ref b61), .val (.int (0 : Int32)), .unset] [(.int (own_iushr x1 (1 : Int32))), (.ref b61)]) _
    refine ownGo.st (fun _ k => XS.aloadN X126.here hx rfl (hb hby at_239) rfl rfl k) ?_
    show ownGo p.tables e below T126 (mkF m 240 #[.val (.int x0), .val (.int x1), .val (.int x2), .val (.ref b61), .val (.int (0 : Int32)), .unset] [(.ref b61), (.int (own_iushr x1 (1 : Int32))), (.ref b61)]) _
    refine ownGo.st (own_alen X126 hx hZ e126 V_b61_126 (g := (mkF m 240 #[.val (.int x0), .val (.int x1), .val (.int x2), .val (.ref b61), .val (.int (0 : Int32)), .unset] [(.ref b61), (.int (own_iushr x1 (1 : Int32))), (.ref b61)])) rfl rfl (hb hby at_240)) ?_
    show ownGo p.tables e below T126 (mkF m 241 #[.val (.int x0), .val (.int x1), .val (.int x2), .val (.ref b61), .val (.int (0 : Int32)), .unset] [(.int (33 : Int32)), (.int (own_iushr x1 (1 : Int32))), (.ref b61)]) _
    refine ownGo.st (fun _ k => iremM X126 hx rfl (hb hby at_241) rfl (by decide) k) ?_
    show ownGo p.tables e below T126 (mkF m 242 #[.val (.int x0), .val (.int x1), .val (.int x2), .val (.ref b61), .val (.int (0 : Int32)), .unset] [(.int ((own_iushr x1 (1 : Int32)) % (33 : Int32))), (.ref b61)]) _
    obtain ⟨ix, hix, ej⟩ := own_ix x1
    obtain ⟨v, hv⟩ := V_b61_126.int hix
    refine ownGo.st (own_iaload X126 hx hZ e126 V_b61_126 (i := ix) (v := v) ej hix hv (g := (mkF m 242 #[.val (.int x0), .val (.int x1), .val (.int x2), .val (.ref b61), .val (.int (0 : Int32)), .unset] [(.int ((own_iushr x1 (1 : Int32)) % (33 : Int32))), (.ref b61)])) rfl rfl (hb hby at_242)) ?_
    show ownGo p.tables e below T126 (mkF m 243 #[.val (.int x0), .val (.int x1), .val (.int x2), .val (.ref b61), .val (.int (0 : Int32)), .unset] [(.int v)]) _
    refine ownGo.st (fun _ k => XS.iloadN X126.here hx rfl (hb hby at_243) rfl k) ?_
    show ownGo p.tables e below T126 (mkF m 244 #[.val (.int x0), .val (.int x1), .val (.int x2), .val (.ref b61), .val (.int (0 : Int32)), .unset] [(.int x2), (.int v)]) _
    refine ownGo.st (fun _ k => XS.iconst X126.here hx rfl (hb hby at_244)  k) ?_
    show ownGo p.tables e below T126 (mkF m 245 #[.val (.int x0), .val (.int x1), .val (.int x2), .val (.ref b61), .val (.int (0 : Int32)), .unset] [(.int (3 : Int32)), (.int x2), (.int v)]) _
    refine ownGo.st (fun _ k => XS.iand X126.here hx rfl (hb hby at_245) rfl k) ?_
    show ownGo p.tables e below T126 (mkF m 246 #[.val (.int x0), .val (.int x1), .val (.int x2), .val (.ref b61), .val (.int (0 : Int32)), .unset] [(.int (x2 &&& (3 : Int32))), (.int v)]) _
    refine ownGo.st (fun _ k => XS.iconst X126.here hx rfl (hb hby at_246)  k) ?_
    show ownGo p.tables e below T126 (mkF m 247 #[.val (.int x0), .val (.int x1), .val (.int x2), .val (.ref b61), .val (.int (0 : Int32)), .unset] [(.int (2 : Int32)), (.int (x2 &&& (3 : Int32))), (.int v)]) _
    refine ownGo.st (fun _ k => XS.isub X126.here hx rfl (hb hby at_247) rfl k) ?_
    show ownGo p.tables e below T126 (mkF m 248 #[.val (.int x0), .val (.int x1), .val (.int x2), .val (.ref b61), .val (.int (0 : Int32)), .unset] [(.int ((x2 &&& (3 : Int32)) - (2 : Int32))), (.int v)]) _
    refine ownGo.st (fun _ k => XS.iadd X126.here hx rfl (hb hby at_248) rfl k) ?_
    show ownGo p.tables e below T126 (mkF m 249 #[.val (.int x0), .val (.int x1), .val (.int x2), .val (.ref b61), .val (.int (0 : Int32)), .unset] [(.int (v + ((x2 &&& (3 : Int32)) - (2 : Int32))))]) _
    exact t0_249 hx hZ hw hby hml hown hret hlk (by decide) (by decide) X126 e126 N126 x0 x1 x2 _ _ _
  · refine ownGo.st (fun _ k => XS.ifNo X126.here hx rfl (hb hby at_216) rfl ((if0 _ _).trans (feq hc128).1) k) ?_
    show ownGo p.tables e below T126 (mkF m 219 #[.val (.int x0), .val (.int x1), .val (.int x2), .val (.ref b61), .unset, .unset] []) _
    refine ownGo.st (fun _ k => XS.iconst X126.here hx rfl (hb hby at_219)  k) ?_
    show ownGo p.tables e below T126 (mkF m 220 #[.val (.int x0), .val (.int x1), .val (.int x2), .val (.ref b61), .unset, .unset] [(.int (1 : Int32))]) _
    refine ownGo.st (fun _ k => XS.goto X126.here hx rfl (pc0 := 220) (pc' := 224) rfl (hb hby at_220) (by decide) (by decide) k) ?_
    show ownGo p.tables e below T126 (mkF m 224 #[.val (.int x0), .val (.int x1), .val (.int x2), .val (.ref b61), .unset, .unset] [(.int (1 : Int32))]) _
    refine ownGo.st (fun _ k => XS.istore X126.here hx rfl (hb hby at_224) rfl (l' := #[.val (.int x0), .val (.int x1), .val (.int x2), .val (.ref b61), .val (.int (1 : Int32)), .unset]) rfl k) ?_
    show ownGo p.tables e below T126 (mkF m 226 #[.val (.int x0), .val (.int x1), .val (.int x2), .val (.ref b61), .val (.int (1 : Int32)), .unset] []) _
    refine ownGo.st (fun _ k => XS.iload X126.here hx rfl (hb hby at_226) rfl k) ?_
    show ownGo p.tables e below T126 (mkF m 228 #[.val (.int x0), .val (.int x1), .val (.int x2), .val (.ref b61), .val (.int (1 : Int32)), .unset] [(.int (1 : Int32))]) _
    have hc130 : ¬ ((1 : Int32) = (0 : Int32)) := (by decide)
    refine ownGo.st (fun _ k => XS.ifNo X126.here hx rfl (hb hby at_228) rfl ((if0 _ _).trans (feq hc130).1) k) ?_
    show ownGo p.tables e below T126 (mkF m 231 #[.val (.int x0), .val (.int x1), .val (.int x2), .val (.ref b61), .val (.int (1 : Int32)), .unset] []) _
    refine ownGo.st (fun _ k => XS.iloadN X126.here hx rfl (hb hby at_231) rfl k) ?_
    show ownGo p.tables e below T126 (mkF m 232 #[.val (.int x0), .val (.int x1), .val (.int x2), .val (.ref b61), .val (.int (1 : Int32)), .unset] [(.int x0)]) _
    refine ownGo.st (fun _ k => XS.goto X126.here hx rfl (pc0 := 232) (pc' := 249) rfl (hb hby at_232) (by decide) (by decide) k) ?_
    show ownGo p.tables e below T126 (mkF m 249 #[.val (.int x0), .val (.int x1), .val (.int x2), .val (.ref b61), .val (.int (1 : Int32)), .unset] [(.int x0)]) _
    exact t0_249 hx hZ hw hby hml hown hret hlk (by decide) (by decide) X126 e126 N126 x0 x1 x2 _ _ _
set_option maxRecDepth 65536 in
set_option maxHeartbeats 40000000 in
theorem comes_1 {Post : Tables → Env → Array Value → State → Outcome → State → Prop} (hpost : ∀ tb e args s v u, (limb_1_1.after args s (.returned v) u = true ∧ limb_1_2.after args s (.returned v) u = true ∧ True) → FrameEnd s (.returned v) u (Jvm.fieldLocs frame_1_writes args s ++ Jvm.arrayLocs frame_1_arrays args s ++ Jvm.staticLocs frame_1_statics s) 16 192 → Post tb e args s (.returned v) u) :
    ArmFor flags0 classFile x code maxLocals ret World_1 tables_1 room_1 Calls_1 rest_1 Pre_1 Post := by
  intro l hfl _ _ p e ha hc hk s m args below hf hA hF happ hP
  obtain ⟨hcalls, hrest, hpre⟩ := hP
  obtain ⟨-, -, -, hnamed, -, -, -, hat⟩ := (Spec.applies_iff hf).mp happ
  obtain ⟨hg, hn⟩ := and_e (Cond.before_iff.mp (show (Jvm.Cond.and given_1 narrow_1).before args s = true from hpre))
  obtain ⟨hcount, g1⟩ := and_e hg
  obtain ⟨hv0, g3⟩ := and_e g1
  obtain ⟨hv1, hv2⟩ := and_e g3
  obtain ⟨w0, w1, w2, rfl⟩ : ∃ w0 w1 w2 : Value, args = #[w0, w1, w2] := by
    have hs : args.size = 3 := by simpa [Cond.value, given_1] using hcount
    obtain ⟨L⟩ := args
    match L, hs with
    | [w0, w1, w2], _ => exact ⟨w0, w1, w2, rfl⟩
  have hw := fun d (hd : d ∈ tables_1) => atoms_spec (ws := Jvm.Cond.code x code maxLocals ret :: tables_1) hat d (List.mem_cons_of_mem _ hd)
  obtain ⟨i0, ei0⟩ := is_v hv0
  obtain rfl : w0 = (.int i0) := Option.some.inj ei0
  obtain ⟨i1, ei1⟩ := is_v hv1
  obtain rfl : w1 = (.int i1) := Option.some.inj ei1
  obtain ⟨i2, ei2⟩ := is_v hv2
  obtain rfl : w2 = (.int i2) := Option.some.inj ei2
  obtain ⟨n, o, h1, h2, h3, _, L, rfl, ⟨rfl, N⟩, hq⟩ := rm0 l s _ hw i0 i1 i2 s.heap s.heap.size (Nat.le_refl _) p e ha hc hk s m _ below hf ((Spec.applies_iff_loose hf).mp happ).1 ⟨rfl, State.Warmed39.refl s, rfl⟩ trivial
  refine ⟨n, _, h1, h2, h3, hpost _ _ _ _ _ _ ⟨Cond.after_iff.mpr rfl, Cond.after_iff.mpr (eq_i res_at (Term.int_eval (1)) rfl), trivial⟩ ⟨hq.1, hq.2.1, (hq.2.2.sift fun y hy => Or.inr (N y hy)).mono (by decide) (by decide)⟩⟩
theorem main_1_1 : Claimed_1_1 := comes_1 fun _ _ _ _ _ _ h hF => ⟨h.1, hF⟩
theorem main_1_2 : Claimed_1_2 := comes_1 fun _ _ _ _ _ _ h hF => ⟨h.2.1, hF⟩
end Jvm.Pilot.@@N@@
namespace Jvm.Pilot.@@N@@
open Jvm Jvm.ClassFile Sem Op Lib Jvm.Free Jvm.Stand Jvm.Pilot.@@N@@.Jvm.D
/-! MADE BY PROGRAM (witnessworld.py) out of the Statement's table words and the real class files: 9 classes; the members and pool entries that the words name. The judged class is class 1, her method 2. -/
namespace start1
open Jvm.ClassFile
def u (s : String) : CpInfo := .utf8 (stringToUtf16 s)
/-- a pool by its gaps: so many unusable entries, then the entry; so many at the end -/
def gap : Nat → List CpInfo → List CpInfo
  | 0, r => r
  | n + 1, r => .unusable :: gap n r
def poolList (es : List (Nat × CpInfo)) (last : Nat) : List CpInfo := es.foldr (fun e r => gap e.1 (e.2 :: r)) (gap last [])
def pool (es : List (Nat × CpInfo)) (last : Nat) : Array CpInfo := ⟨poolList es last⟩
def fileOf (pool : Array CpInfo) (this : Nat) (attrs : Array Attribute := #[]) (ms : Array MethodInfo := #[]) (fl : Nat := 33) (sup : Nat := 0) (ifs : Array Nat := #[]) (fds : Array FieldInfo := #[]) : ClassFile where
  minorVersion := 0
  majorVersion := 65
  constantPool := pool
  accessFlags := fl
  thisClass := this
  superClass := sup
  interfaces := ifs
  fields := fds
  methods := ms
  attributes := attrs
def plain (name : String) (sup : Option ClassId) : Class where
  name := name
  kind := .ordinary
  loader := none
  accessFlags := 33
  super := sup
  interfaces := #[]
  cf := none
  fields := #[]
  methods := #[]
  instanceTypes := #[]
  staticTypes := #[]
  resolved := #[]
  callSites := []
  init := .initialized
  statics := none
  mirror := none

def pool0 : Array CpInfo := pool [(5, u "<init>"), (0, u "()V"), (1, .class_ 10), (1, u "java/lang/Object")] 113

def k0m0 : Method := { name := "<init>", desc := "()V", sig := { parameters := [], returnType := none }, accessFlags := 1, code := none }
/-- java/lang/Object -/
def k0 : Class := { plain "java/lang/Object" none with
  accessFlags := 33
  interfaces := #[]
  cf := some (fileOf pool0 8 #[] #[{ accessFlags := 1, nameIndex := 5, descriptorIndex := 6, attributes := #[] }] 33 0 #[] #[])
  fields := #[]
  methods := #[k0m0]
  instanceTypes := #[]
  staticTypes := #[]
  resolved := Array.replicate 124 none
  statics := none }

def pool1 : Array CpInfo := pool [(2, .class_ 4), (1, u "java/lang/Object"), (0, u "<init>"), (0, u "()V"), (0, .integer 55296), (0, .integer 63743), (0, .integer 64976), (0, .integer 65007), (0, .integer 65534), (0, .integer 65535), (0, .integer 983039), (2, .integer 2147483650), (0, .integer 63744), (0, .integer 65008), (0, .integer 65536), (0, .integer 983040), (0, .integer 2147483646), (0, .methodref 23 24), (0, .class_ 25), (0, .nameAndType 26 27), (0, u "com/example/lexipath/lexipath/xml/XmlNames"), (0, u "isNameStart"), (0, u "(I)Z"), (0, .methodref 29 30), (0, .class_ 31), (0, .nameAndType 32 27), (0, u "com/example/lexipath/lexipath/xml/XmlNamesIsNameStartPinLaw"), (0, u "notStart"), (3, u "law"), (0, u "(III)Z")] 4

def k1m0 : Method := { name := "<init>", desc := "()V", sig := { parameters := [], returnType := none }, accessFlags := 2, code := none }
def k1c1 : Code := { maxStack := 2, maxLocals := 1, code := method_2_code, exceptionTable := #[], attributes := #[] }
def k1m1 : Method := { name := "notStart", desc := "(I)Z", sig := { parameters := [.int], returnType := some .boolean }, accessFlags := 10, code := some k1c1 }
def k1c2 : Code := { maxStack := 4, maxLocals := 6, code := code, exceptionTable := #[], attributes := #[] }
def k1m2 : Method := { name := "law", desc := "(III)Z", sig := { parameters := [.int, .int, .int], returnType := some .boolean }, accessFlags := 9, code := some k1c2 }
/-- com/example/lexipath/lexipath/xml/XmlNamesIsNameStartPinLaw -/
def k1 : Class := { plain "com/example/lexipath/lexipath/xml/XmlNamesIsNameStartPinLaw" (some 0) with
  accessFlags := 49
  interfaces := #[]
  cf := some (fileOf pool1 29 #[] #[{ accessFlags := 2, nameIndex := 5, descriptorIndex := 6, attributes := #[] }, { accessFlags := 10, nameIndex := 32, descriptorIndex := 27, attributes := #[] }, { accessFlags := 9, nameIndex := 36, descriptorIndex := 37, attributes := #[] }] 49 2 #[] #[])
  fields := #[]
  methods := #[k1m0, k1m1, k1m2]
  instanceTypes := #[]
  staticTypes := #[]
  resolved := Array.replicate 42 none
  statics := none }

def pool2 : Array CpInfo := pool [(2, .class_ 4), (1, u "java/lang/Object"), (0, u "<init>"), (0, u "()V"), (1, .class_ 10), (1, u "com/example/lexipath/lexipath/xml/XmlNames"), (0, u "LANGUAGE_TAG"), (0, u "Ljava/util/regex/Pattern;"), (12, .integer 55295), (1, .integer 65533), (0, .integer 65536), (13, u "isNameStart"), (0, u "(I)Z"), (32, .integer 63744), (0, .integer 64975), (0, .integer 65008), (0, .integer 983039)] 18

def k2m0 : Method := { name := "<init>", desc := "()V", sig := { parameters := [], returnType := none }, accessFlags := 2, code := none }
def k2c1 : Code := { maxStack := 2, maxLocals := 1, code := prog_405_method_8_code, exceptionTable := #[], attributes := #[] }
def k2m1 : Method := { name := "isNameStart", desc := "(I)Z", sig := { parameters := [.int], returnType := some .boolean }, accessFlags := 9, code := some k2c1 }
/-- com/example/lexipath/lexipath/xml/XmlNames -/
def k2 : Class := { plain "com/example/lexipath/lexipath/xml/XmlNames" (some 0) with
  accessFlags := 49
  interfaces := #[]
  cf := some (fileOf pool2 8 #[] #[{ accessFlags := 2, nameIndex := 5, descriptorIndex := 6, attributes := #[] }, { accessFlags := 9, nameIndex := 42, descriptorIndex := 43, attributes := #[] }] 49 2 #[] #[{ accessFlags := 26, nameIndex := 11, descriptorIndex := 12, attributes := #[] }])
  fields := #[{ name := "LANGUAGE_TAG", type := (.object "java/util/regex/Pattern"), accessFlags := 26, slot := 0, constantValue := 0 }]
  methods := #[k2m0, k2m1]
  instanceTypes := #[]
  staticTypes := #[(.object "java/util/regex/Pattern")]
  resolved := Array.replicate 98 none
  statics := none }

def pool3 : Array CpInfo := pool [(1, u "java/lang/Cloneable"), (0, .class_ 1), (0, u "java/lang/Object"), (0, .class_ 3)] 3

/-- java/lang/Cloneable -/
def k3 : Class := { plain "java/lang/Cloneable" (some 0) with
  accessFlags := 1537
  interfaces := #[]
  cf := some (fileOf pool3 2 #[] #[] 1537 4 #[] #[])
  fields := #[]
  methods := #[]
  instanceTypes := #[]
  staticTypes := #[]
  resolved := Array.replicate 8 none
  statics := none }

def pool4 : Array CpInfo := pool [(1, u "java/io/Serializable"), (0, .class_ 1), (0, u "java/lang/Object"), (0, .class_ 3)] 3

/-- java/io/Serializable -/
def k4 : Class := { plain "java/io/Serializable" (some 0) with
  accessFlags := 1537
  interfaces := #[]
  cf := some (fileOf pool4 2 #[] #[] 1537 4 #[] #[])
  fields := #[]
  methods := #[]
  instanceTypes := #[]
  staticTypes := #[]
  resolved := Array.replicate 8 none
  statics := none }

/-- the primitive byte -/
def k5 : Class := { plain "byte" none with kind := .primitive 'B', accessFlags := 0x411 }
/-- [B -/
def k6 : Class := { plain "[B" (some 0) with kind := .array 5 .byte, interfaces := #[3, 4], accessFlags := 1041 }

/-- the primitive int -/
def k7 : Class := { plain "int" none with kind := .primitive 'I', accessFlags := 0x411 }
/-- [I -/
def k8 : Class := { plain "[I" (some 0) with kind := .array 7 .int, interfaces := #[3, 4], accessFlags := 1041 }

def heap : Heap := #[]
def classes : Array Class := #[k0, k1, k2, k3, k4, k5, k6, k7, k8]
def interned : List (Array UInt16 × Addr) := []
def slotsUsed : Nat := 0
def theMethod : MethodId := ⟨1, 2⟩
def args0 : Array Value := #[.int 3, .int 5, .int 7]
def aboutOver (below : List Frame) : State where
  vm := { classes := classes, interned := interned.toArray }
  heap := heap
  slotsUsed := slotsUsed
  threads := #[{ frames := .invoking theMethod args0 :: below }]
def below0 : List Frame := [.native { method := ⟨0, 0⟩, args := #[] }]
def about1 : State := aboutOver below0
def p0 : Program := .bare "" "" ""
def e0 : Env := launch0.env 0 0 0
theorem w_frames : about1.frames = Frame.invoking theMethod args0 :: below0 := rfl
set_option maxRecDepth 65536 in
theorem w_args : argsFit about1.vm theMethod args0 = true := by decide +kernel
set_option maxRecDepth 65536 in
theorem w_heap : heapFits about1 = true := by decide +kernel
set_option maxRecDepth 65536 in
theorem w_runnable : about1.curStatus? = some .runnable := by decide +kernel
set_option maxRecDepth 65536 in
theorem w_alone : about1.alone = true := by decide +kernel
set_option maxRecDepth 65536 in
theorem w_named : about1.methodNamed? x = some theMethod := by decide +kernel
set_option maxRecDepth 65536 in
theorem w_hears : about1.hears theMethod below0 = true := by decide +kernel
set_option maxRecDepth 65536 in
theorem w_ripe : about1.ripe theMethod args0 below0 = true := by decide +kernel
theorem w_running : about1.status = .running := rfl
set_option maxRecDepth 65536 in
theorem w_room : about1.hasRoom e0.platform room_1 = true :=
  launch0.hasRoom_least _ room_1 (by decide +kernel) (by decide +kernel) (by decide +kernel) (by decide +kernel) (by decide +kernel) (by decide +kernel)
theorem allAtoms_all (ts : List Jvm.Cond) (a : Array Jvm.Value) (st : Jvm.State) : (allAtoms ts).before a st = ts.all (fun c => c.before a st) := by
  induction ts with
  | nil => rfl
  | cons c t ih =>
    show (Jvm.Cond.and c (allAtoms t)).before a st = _
    rw [Jvm.Cond.before_and, ih, List.all_cons]
def words1 : List Jvm.Cond := Jvm.Cond.code x code maxLocals ret :: tables_1
/-- a 'code' word, met by the world's own term for the bytes: nothing is compared byte by byte -/
theorem code_word {y : MethodName} {bytes : ByteArray} {mx : Nat} {rt : Option FieldType} {a : Array Value} {s : State} {m : MethodId} {meth : Method} {c : Code} (h1 : s.methodNamed? y = some m) (h2 : s.vm.method? m = some meth) (h3 : meth.code = some c) (h4 : c.code = bytes)
    (h5 : (c.maxLocals == mx && c.exceptionTable.isEmpty && decide (c.maxStack ≤ mostOperands) && decide (meth.sig.returnType = rt) && !meth.locks && decide (parseMethodDescriptor y.desc = some meth.sig)) = true) : (Jvm.Cond.code y bytes mx rt).before a s = true := by
  simp only [Bool.and_eq_true, beq_iff_eq, Bool.not_eq_true', decide_eq_true_eq] at h5
  obtain ⟨⟨⟨⟨⟨g1, g2⟩, g3⟩, g4⟩, g5⟩, g6⟩ := h5
  simp [Cond.before, Cond.holds, Cond.value, h1, h2, h3, h4, g1, g2, g3, g4, g5, g6]
def isCode : Jvm.Cond → Bool
  | .code _ _ _ _ => true
  | _ => false
theorem all_split {L : List Jvm.Cond} {P : Jvm.Cond → Bool} (h1 : L.all (fun c => isCode c || P c) = true) (h2 : ∀ c ∈ L.filter isCode, P c = true) : L.all P = true := by
  refine List.all_eq_true.mpr fun c hc => ?_
  have h := List.all_eq_true.mp h1 c hc
  rcases Bool.eq_false_or_eq_true (isCode c) with hi | hi
  · exact h2 c (List.mem_filter.mpr ⟨hc, hi⟩)
  · simpa [hi] using h
set_option maxRecDepth 65536 in
theorem w_c0 : (Jvm.Cond.code x code maxLocals ret).before args0 about1 = true := code_word (m := ⟨1, 2⟩) (meth := k1m2) (c := k1c2) (by decide +kernel) rfl rfl rfl (by decide +kernel)
set_option maxRecDepth 65536 in
theorem w_c1 : (Jvm.Cond.code ({ cls := "com/example/lexipath/lexipath/xml/XmlNames", name := "isNameStart", desc := "(I)Z" } : Jvm.MethodName) prog_405_method_8_code (1 : Nat) (Option.some Jvm.ClassFile.FieldType.boolean)).before args0 about1 = true := code_word (m := ⟨2, 1⟩) (meth := k2m1) (c := k2c1) (by decide +kernel) rfl rfl rfl (by decide +kernel)
set_option maxRecDepth 65536 in
theorem w_c2 : (Jvm.Cond.code ({ cls := "com/example/lexipath/lexipath/xml/XmlNamesIsNameStartPinLaw", name := "notStart", desc := "(I)Z" } : Jvm.MethodName) method_2_code (1 : Nat) (Option.some Jvm.ClassFile.FieldType.boolean)).before args0 about1 = true := code_word (m := ⟨1, 1⟩) (meth := k1m1) (c := k1c1) (by decide +kernel) rfl rfl rfl (by decide +kernel)
def codes1 : List Jvm.Cond := [Jvm.Cond.code x code maxLocals ret, Jvm.Cond.code ({ cls := "com/example/lexipath/lexipath/xml/XmlNames", name := "isNameStart", desc := "(I)Z" } : Jvm.MethodName) prog_405_method_8_code (1 : Nat) (Option.some Jvm.ClassFile.FieldType.boolean), Jvm.Cond.code ({ cls := "com/example/lexipath/lexipath/xml/XmlNamesIsNameStartPinLaw", name := "notStart", desc := "(I)Z" } : Jvm.MethodName) method_2_code (1 : Nat) (Option.some Jvm.ClassFile.FieldType.boolean)]
set_option maxRecDepth 65536 in
theorem codes_eq : words1.filter isCode = codes1 := rfl
theorem w_codes : ∀ c ∈ words1.filter isCode, c.before args0 about1 = true := by
  rw [codes_eq]
  intro c hc
  simp only [codes1, List.mem_cons, List.not_mem_nil, or_false] at hc
  rcases hc with rfl | rfl | rfl
  · exact w_c0
  · exact w_c1
  · exact w_c2
set_option maxRecDepth 65536 in
theorem w_t1 : (words1.take 24).all (fun c => isCode c || c.before args0 about1) = true := by decide +kernel
set_option maxRecDepth 65536 in
theorem w_t2 : (words1.drop 24).all (fun c => isCode c || c.before args0 about1) = true := by decide +kernel
theorem w_tables : (allAtoms (Jvm.Cond.code x code maxLocals ret :: tables_1)).before args0 about1 = true := by
  rw [allAtoms_all]
  show words1.all (fun c => c.before args0 about1) = true
  refine all_split ?_ w_codes
  rw [← List.take_append_drop 24 words1, List.all_append, w_t1, w_t2]
  rfl
set_option maxRecDepth 65536 in
theorem w_case : (Jvm.Cond.and given_1 narrow_1).before args0 about1 = true := by decide +kernel
theorem w_applies : (headSpec (Jvm.Cond.code x code maxLocals ret :: tables_1) room_1).applies x e0.platform about1 = true :=
  (Spec.applies_iff w_frames).mpr ⟨w_running, w_runnable, w_alone, w_named, w_hears, w_ripe, w_room, w_tables⟩
theorem atStart : AtStart classFile x code maxLocals ret World_1 tables_1 room_1 Calls_1 rest_1 Pre_1 launch0 p0 e0 about1 theMethod args0 below0 :=
  ⟨lists_1, trivial, launch0.admits_env _ _ _, launch0.least_env, fairChoices_fair.cas, fairChoices_fair.clock, w_frames, w_args, w_heap, w_applies, trivial, trivial, w_case⟩
end start1
theorem witness_1 : WitnessClaimed_1 := ⟨start1.p0, start1.e0, start1.about1, start1.theMethod, start1.args0, start1.below0, start1.atStart⟩
end Jvm.Pilot.@@N@@
