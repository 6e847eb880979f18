import JvmDerived
import JvmDerived.Pilot.@@N@@Statement
import JvmDerived.Pilot.@@N@@Code
set_option linter.unusedVariables false
set_option linter.unusedSimpArgs false
namespace Jvm.Pilot.@@N@@
open Jvm Jvm.ClassFile Sem Op Lib Jvm.Free Jvm.Stand Jvm.LawKit Jvm.RoadKit Bundle Jvm.Pilot.@@N@@.Jvm.D
abbrev own_iushr (x y : Int32) : Int32 := (x.toUInt32 >>> (y &&& 31).toUInt32).toInt32
abbrev own_lshl (x : Int64) (y : Int32) : Int64 := x <<< (y &&& 0x3f).toInt64
abbrev own_lshr (x : Int64) (y : Int32) : Int64 := x >>> (y &&& 0x3f).toInt64
abbrev own_lushr (x : Int64) (y : Int32) : Int64 := (x.toUInt64 >>> (y &&& 0x3f).toInt64.toUInt64).toInt64
section Core
variable {p : Program} {l : Launch} {e : Env} {R : Room} {s : State} {m : MethodId} {args : Array Value} {below : List Frame} {meth : Method} {c : Code} {T T' : State} {locs : List Loc} {cells slots : Nat} {Z : State} {a0 : Array Value} {h h0 h' : Heap} {n0 : Nat}
/-- the i-th word of the sheet -/
theorem own_at (hw : ∀ d ∈ tables_1, d.before a0 Z = true) {d : Jvm.Cond} (i : Nat) (q : tables_1[i]? = some d) : d.before a0 Z = true := hw _ (List.mem_of_getElem? q)
/-- from this frame the method comes to its end, and G says what the end is -/
def ownGo (tb : Tables) (e : Env) (below : List Frame) (T : State) (g : JFrame) (G : Outcome → State → Prop) : Prop :=
  ∃ s₂ o, Steps tb e below (T.setTop g) s₂ ∧ s₂.status = .running ∧ Ended s₂ below o ∧ G o s₂
def ownDone (s : State) (Q : Option Value → Heap → List Loc → Prop) (kc ks : Nat) (o : Outcome) (U : State) : Prop :=
  ∃ v L, o = .returned v ∧ Q v U.heap L ∧ FrameEnd s o U L kc ks
/-- what a method leaves that only reckons -/
def ownPure (r : Value) (h0 : Heap) (n0 : Nat) (v : Option Value) (h : Heap) (L : List Loc) : Prop := v = some r ∧ Fr n0 L ∧ h = h0
theorem ownGo.st {tb : Tables} {g g' : JFrame} {G : Outcome → State → Prop} (q : ∀ t, Steps tb e below (T'.setTop g') t → Steps tb e below (T.setTop g) t) (k : ownGo tb e below T' g' G) : ownGo tb e below T g G := by
  obtain ⟨s₂, o, h1, h2⟩ := k
  exact ⟨s₂, o, q _ h1, h2⟩
theorem ownGo.sq {tb : Tables} {g g' : JFrame} {G : Outcome → State → Prop} (q : Steps tb e below (T.setTop g) (T'.setTop g')) (k : ownGo tb e below T' g' G) : ownGo tb e below T g G := by
  obtain ⟨s₂, o, h1, h2⟩ := k
  exact ⟨s₂, o, q.trans h1, h2⟩
theorem own_ret {Q : Option Value → Heap → List Loc → Prop} {kc ks : Nat} {g : JFrame} {v : Option Value} (X : Stand p l e R s m args below meth c T locs cells slots) (hlk : meth.locks = false) (hv : meth.sig.returnType = none → v = none)
    (hst : ∀ fs, (∀ (f : JFrame) (acts : List Action), f.method = m → f.locked = none → f.entered = [] → (doReturn e (T.setTop f) acts v).1 = T.setFrames fs) → Steps p.tables e below (T.setTop g) (T.setFrames fs))
    (hq : Q v T.heap locs) (hc : cells ≤ kc) (hs : slots ≤ ks) : ownGo p.tables e below T g (ownDone s Q kc ks) := by
  obtain ⟨fs, hr, hrun, hended, hW, hsame⟩ := X.leave (v := v) hv hlk
  exact ⟨_, _, hst fs hr, hrun, hended, _, _, rfl, hq, ⟨_, rfl⟩, hW, hsame.mono hc hs⟩
theorem own_retI {Q : Option Value → Heap → List Loc → Prop} {kc ks : Nat} {pc : Nat} {Ls : Array Slot} {z : Int32} {rest : List Value} (X : Stand p l e R s m args below meth c T locs cells slots) (hx : p.tables.exec = Jvm.exec) (hlk : meth.locks = false) (hret : meth.sig.returnType = some .int)
    (hd : decode c.code pc = .ok (.ireturn, 1)) (hq : Q (some (.int z)) T.heap locs) (hc : cells ≤ kc) (hs : slots ≤ ks) : ownGo p.tables e below T (mkF m pc Ls (.int z :: rest)) (ownDone s Q kc ks) :=
  own_ret X hlk (fun q => by rw [hret] at q; cases q) (fun fs hr => retOut X hx hret rfl (Or.inl ⟨rfl, Or.inl rfl, z, rfl⟩) hd hr) hq hc hs
theorem own_retZ {Q : Option Value → Heap → List Loc → Prop} {kc ks : Nat} {pc : Nat} {Ls : Array Slot} {z : Int32} {rest : List Value} (X : Stand p l e R s m args below meth c T locs cells slots) (hx : p.tables.exec = Jvm.exec) (hlk : meth.locks = false) (hret : meth.sig.returnType = some .boolean)
    (hd : decode c.code pc = .ok (.ireturn, 1)) (hz : z = 0 ∨ z = 1) (hq : Q (some (.int z)) T.heap locs) (hc : cells ≤ kc) (hs : slots ≤ ks) : ownGo p.tables e below T (mkF m pc Ls (.int z :: rest)) (ownDone s Q kc ks) := by
  have e1 : nar .boolean z = z := by rcases hz with rfl | rfl <;> decide
  exact own_ret X hlk (fun q => by rw [hret] at q; cases q) (fun fs hr => retN X hx (t := .boolean) hret (by simp) hd (by rw [e1]; exact hr)) hq hc hs
theorem own_retJ {Q : Option Value → Heap → List Loc → Prop} {kc ks : Nat} {pc : Nat} {Ls : Array Slot} {z : Int64} {rest : List Value} (X : Stand p l e R s m args below meth c T locs cells slots) (hx : p.tables.exec = Jvm.exec) (hlk : meth.locks = false) (hret : meth.sig.returnType = some .long)
    (hd : decode c.code pc = .ok (.lreturn, 1)) (hq : Q (some (.long z)) T.heap locs) (hc : cells ≤ kc) (hs : slots ≤ ks) : ownGo p.tables e below T (mkF m pc Ls (.long z :: rest)) (ownDone s Q kc ks) :=
  own_ret X hlk (fun q => by rw [hret] at q; cases q) (fun fs hr => retOut X hx hret rfl (Or.inr (Or.inl ⟨rfl, rfl, z, rfl⟩)) hd hr) hq hc hs
theorem own_retA {Q : Option Value → Heap → List Loc → Prop} {kc ks : Nat} {pc : Nat} {Ls : Array Slot} {z : Addr} {t : FieldType} {rest : List Value} (X : Stand p l e R s m args below meth c T locs cells slots) (hx : p.tables.exec = Jvm.exec) (hlk : meth.locks = false) (hret : meth.sig.returnType = some (.array t))
    (hd : decode c.code pc = .ok (.areturn, 1)) (hq : Q (some (.ref z)) T.heap locs) (hc : cells ≤ kc) (hs : slots ≤ ks) : ownGo p.tables e below T (mkF m pc Ls (.ref z :: rest)) (ownDone s Q kc ks) :=
  own_ret X hlk (fun q => by rw [hret] at q; cases q) (fun fs hr => retOut X hx hret rfl (Or.inr (Or.inr (Or.inr (Or.inr ⟨rfl, rfl, rfl⟩)))) hd hr) hq hc hs
theorem own_retV {Q : Option Value → Heap → List Loc → Prop} {kc ks : Nat} {pc : Nat} {Ls : Array Slot} (X : Stand p l e R s m args below meth c T locs cells slots) (hx : p.tables.exec = Jvm.exec) (hlk : meth.locks = false) (hret : meth.sig.returnType = none)
    (hd : decode c.code pc = .ok (.return_, 1)) (hq : Q none T.heap locs) (hc : cells ≤ kc) (hs : slots ≤ ks) : ownGo p.tables e below T (mkF m pc Ls []) (ownDone s Q kc ks) :=
  own_ret X hlk (fun _ => rfl) (fun fs hr => X.returnOut hx hret hd hr) hq hc hs
/-- a static call by the callee's contract -/
theorem own_callS (X : Stand p l e R s m args below meth c T locs cells slots) (hx : p.tables.exec = Jvm.exec) (hZ : Z.Warmed39 s.vm) {own : String} {index : Nat} {y : MethodName} {bytes : ByteArray} {maxL : Nat} {ret : Option FieldType} (hown : s.vm.findClass own = some m.cls)
    (w1 : (Jvm.Cond.methodLink own index y).before a0 Z = true) (w2 : (Jvm.Cond.static y).before a0 Z = true) (w3 : (Jvm.Cond.initialized y.cls).before a0 Z = true) (w4 : (Jvm.Cond.code y bytes maxL ret).before a0 Z = true) (hy : y.cls ≠ "java/lang/invoke/MethodHandle" ∧ y.cls ≠ "java/lang/invoke/VarHandle")
    {rm : Room} {argsL rest : List Value} {Q : Option Value → Heap → List Loc → Prop}
    (K : MetFree l y (head1 [Jvm.Cond.code y bytes maxL ret] rm) (fun a U => a = argsL.toArray ∧ Z.Warmed39 U.vm ∧ U.heap = h0) (fun _ _ _ _ _ => True) (fun _ U o U' => ∃ v L, o = .returned v ∧ Q v U'.heap L ∧ FrameEnd U o U' L rm.cells rm.slots))
    (W : Nat) (hf : rm.frames + 1 ≤ R.frames) (hl : W + (maxL + 11) + rm.locals ≤ R.locals) (eT : T.heap = h0) (hcl : cells + rm.cells ≤ R.cells) (hsl : slots + rm.slots ≤ R.slots)
    {g : JFrame} (hg : g.method = m) (hsize : g.locals.size = c.maxLocals) (hlen : ∀ sig, parseMethodDescriptor y.desc = some sig → argsL.length = sig.parameters.length) (hstack : g.stack = argsL.reverse ++ rest) (hW : 2 * g.monitorRoom + (rest.map fun v => v.category).sum ≤ W) (hdg : decode c.code g.pc = .ok (.invokestatic index, 3)) :
    ∃ (v : Option Value) (T' : State) (L : List Loc), Stand p l e R s m args below meth c T' (locs ++ L) (cells + rm.cells) (slots + rm.slots) ∧ Q v T'.heap L ∧ ∀ t, Steps p.tables e below (T'.setTop { g with pc := g.pc + 3, stack := v.toList ++ rest }) t → Steps p.tables e below (T.setTop g) t := by
  obtain ⟨v, _, ⟨T1, L1, k1, n1⟩, -, X1, ⟨Lc, hQ, l1, y1, z1⟩, st⟩ := Jvm.LawKit.callS X hx (y := y) hown (mvT hZ w1) (mvT hZ w2) (mvT hZ w3) (mvT hZ w4) hy (backOf (W := W) K hZ w4 w3 hf hl) (g := g) hg hsize (argsL := argsL) (rest := rest) hlen hstack hW hdg (fun _ _ => ⟨rfl, eT, hcl, hsl⟩)
  dsimp only [Pt.U, Pt.locs, Pt.cells, Pt.slots] at X1 l1 y1 z1 st hQ
  subst l1 y1 z1
  exact ⟨v, T1, Lc, X1, hQ, st⟩
/-! arrays: n places, place i holds f i -/
def ownA (Z : State) (h : Heap) (a : Addr) (ty : FieldType) (n : Nat) (f : Nat → Value) : Prop :=
  ∃ c : Cell, Arr Z h a c ty ∧ c.slots.size = n ∧ n < 2147483648 ∧ ∀ i, i < n → c.slots[i]? = some (f i) ∧ fits ty (f i) = true
def own_up (f : Nat → Value) (j : Nat) (v : Value) (i : Nat) : Value := if i = j then v else f i
theorem own_up_hit {f : Nat → Value} {j : Nat} {v : Value} : own_up f j v j = v := if_pos rfl
theorem own_up_miss {f : Nat → Value} {i j : Nat} {v : Value} (q : i ≠ j) : own_up f j v i = f i := if_neg q
theorem ownA.ext {a : Addr} {ty : FieldType} {n : Nat} {f : Nat → Value} (V : ownA Z h a ty n f) (E : Ext h h') : ownA Z h' a ty n f := by obtain ⟨c, A, r⟩ := V; exact ⟨c, A.ext E, r⟩
theorem ownA.other {a b : Addr} {ty : FieldType} {n sl : Nat} {v : Value} {f : Nat → Value} (V : ownA Z h a ty n f) (W : Wr h h' b sl v) (q : a ≠ b) : ownA Z h' a ty n f := by obtain ⟨c, A, r⟩ := V; exact ⟨c, A.other W q, r⟩
theorem ownA.keep {a : Addr} {ty : FieldType} {n : Nat} {ws : List Addr} {f : Nat → Value} (V : ownA Z h a ty n f) (K : Keep h h' ws) (q : a ∉ ws) : ownA Z h' a ty n f := by obtain ⟨c, A, r⟩ := V; exact ⟨c, ⟨K.2.1 a c A.1 q, A.2⟩, r⟩
theorem ownA.lt {a : Addr} {ty : FieldType} {n : Nat} {f : Nat → Value} (V : ownA Z h a ty n f) : a < h.size := by obtain ⟨c, A, r⟩ := V; exact A.lt
theorem ownA.eq {a : Addr} {ty : FieldType} {n : Nat} {f f' : Nat → Value} (V : ownA Z h a ty n f) (q : ∀ i, i < n → f i = f' i) : ownA Z h a ty n f' := by
  obtain ⟨c, A, r1, r2, r3⟩ := V
  exact ⟨c, A, r1, r2, fun i hi => by rw [← q i hi]; exact r3 i hi⟩
theorem own_n32 {n : Nat} (q : n < 2147483648) : (Int32.ofNat n).toNatClampNeg = n := by rw [Int32.toNatClampNeg, Int32.toInt_ofNat_of_lt q]; rfl
theorem own_nn {n : Nat} (q : n < 2147483648) : ¬ Int32.ofNat n < 0 := by
  rw [Int32.lt_iff_toInt_lt, Int32.toInt_ofNat_of_lt q, show (0 : Int32).toInt = 0 from rfl]; omega
theorem ownA.new {a : Addr} {k : ClassId} {ty : FieldType} {n : Nat} (A : Arr Z h a (newA k ty (Int32.ofNat n)) ty) (q : n < 2147483648) (d : fits ty (defaultValue ty) = true) : ownA Z h a ty n (fun _ => defaultValue ty) := by
  refine ⟨_, A, by rw [sz_new, own_n32 q], q, fun i hi => ⟨?_, d⟩⟩
  simp [newA, own_n32 q, hi]
theorem own_in {cl : Cell} {n i : Nat} {j : Int32} (S : cl.slots.size = n) (q : n < 2147483648) (hj : j = Int32.ofNat i) (hi : i < n) : ¬ (j < 0 ∨ cl.slots.size ≤ j.toNatClampNeg) := by
  subst hj
  rw [S, own_n32 (by omega)]
  exact fun z => z.elim (own_nn (by omega)) (fun z => by omega)
theorem own_iaload {a : Addr} {n i : Nat} {f : Nat → Value} {j v : Int32} (X : Stand p l e R s m args below meth c T locs cells slots) (hx : p.tables.exec = Jvm.exec) (hZ : Z.Warmed39 s.vm) (eT : T.heap = h) (V : ownA Z h a .int n f) (hj : j = Int32.ofNat i) (hi : i < n) (hv : f i = .int v)
    {g : JFrame} (hg : g.method = m) {rest : List Value} (hs : g.stack = .int j :: .ref a :: rest) (hd : decode c.code g.pc = .ok (.iaload, 1)) :
    ∀ t, Steps p.tables e below (T.setTop { g with pc := g.pc + 1, stack := .int v :: rest }) t → Steps p.tables e below (T.setTop g) t := by
  obtain ⟨cl, A, S, q, H⟩ := V
  have hat : cl.slots[j.toNatClampNeg]? = some (.int v) := by rw [hj, own_n32 (by omega), ← hv]; exact (H i hi).1
  exact X.iaload hx (j := j) (by rw [eT]; exact A.1) (State.isArrayOf_alike hZ.alike A.2.1) A.2.2 (own_in S q hj hi) hat hg hs hd
theorem own_laload {a : Addr} {n i : Nat} {f : Nat → Value} {j : Int32} {v : Int64} (X : Stand p l e R s m args below meth c T locs cells slots) (hx : p.tables.exec = Jvm.exec) (hZ : Z.Warmed39 s.vm) (eT : T.heap = h) (V : ownA Z h a .long n f) (hj : j = Int32.ofNat i) (hi : i < n) (hv : f i = .long v)
    {g : JFrame} (hg : g.method = m) {rest : List Value} (hs : g.stack = .int j :: .ref a :: rest) (hd : decode c.code g.pc = .ok (.laload, 1)) :
    ∀ t, Steps p.tables e below (T.setTop { g with pc := g.pc + 1, stack := .long v :: rest }) t → Steps p.tables e below (T.setTop g) t := by
  obtain ⟨cl, A, S, q, H⟩ := V
  have hat : cl.slots[j.toNatClampNeg]? = some (.long v) := by rw [hj, own_n32 (by omega), ← hv]; exact (H i hi).1
  exact X.laload hx (j := j) (by rw [eT]; exact A.1) (State.isArrayOf_alike hZ.alike A.2.1) A.2.2 (own_in S q hj hi) hat hg hs hd
theorem own_baload {a : Addr} {n i : Nat} {f : Nat → Value} {j v : Int32} (X : Stand p l e R s m args below meth c T locs cells slots) (hx : p.tables.exec = Jvm.exec) (hZ : Z.Warmed39 s.vm) (eT : T.heap = h) (V : ownA Z h a .byte n f) (hj : j = Int32.ofNat i) (hi : i < n) (hv : f i = .int v)
    {g : JFrame} (hg : g.method = m) {rest : List Value} (hs : g.stack = .int j :: .ref a :: rest) (hd : decode c.code g.pc = .ok (.baload, 1)) :
    ∀ t, Steps p.tables e below (T.setTop { g with pc := g.pc + 1, stack := .int v :: rest }) t → Steps p.tables e below (T.setTop g) t := by
  obtain ⟨cl, A, S, q, H⟩ := V
  have hat : cl.slots[j.toNatClampNeg]? = some (.int v) := by rw [hj, own_n32 (by omega), ← hv]; exact (H i hi).1
  exact X.baloadBytes hx (j := j) (by rw [eT]; exact A.1) (State.isArrayOf_alike hZ.alike A.2.1) A.2.2 (own_in S q hj hi) hat hg hs hd
theorem own_alen {a : Addr} {ty : FieldType} {n : Nat} {f : Nat → Value} (X : Stand p l e R s m args below meth c T locs cells slots) (hx : p.tables.exec = Jvm.exec) (hZ : Z.Warmed39 s.vm) (eT : T.heap = h) (V : ownA Z h a ty n f)
    {g : JFrame} (hg : g.method = m) {rest : List Value} (hs : g.stack = .ref a :: rest) (hd : decode c.code g.pc = .ok (.arraylength, 1)) :
    ∀ t, Steps p.tables e below (T.setTop { g with pc := g.pc + 1, stack := .int (Int32.ofNat n) :: rest }) t → Steps p.tables e below (T.setTop g) t := by
  obtain ⟨cl, A, S, q, H⟩ := V
  intro t k
  refine X.arraylength hx (cell := cl) (by rw [eT]; exact A.1) (State.isArrayOf_alike hZ.alike A.2.1) hg hs hd t ?_
  rw [S]; exact k
theorem ownA.put {a : Addr} {ty : FieldType} {n i : Nat} {f : Nat → Value} {v : Value} (V : ownA Z h a ty n f) (W : Wr h h' a i v) (hv : fits ty v = true) : ownA Z h' a ty n (own_up f i v) := by
  obtain ⟨cl, A, S, q, H⟩ := V
  refine ⟨_, A.same W, by rw [sz_set]; exact S, q, fun k hk => ?_⟩
  by_cases z : k = i
  · subst z
    rw [own_up_hit]
    exact ⟨by simp [Cell.setSlot, S, hk], hv⟩
  · rw [own_up_miss z]
    refine ⟨?_, (H k hk).2⟩
    rw [← (H k hk).1]
    exact Array.getElem?_setIfInBounds_ne (Ne.symm z)
theorem own_iastore {a : Addr} {n i : Nat} {f : Nat → Value} {j x : Int32} (X : Stand p l e R s m args below meth c T locs cells slots) (hx : p.tables.exec = Jvm.exec) (hZ : Z.Warmed39 s.vm) (eT : T.heap = h) (V : ownA Z h a .int n f) (hj : j = Int32.ofNat i) (hi : i < n)
    {g : JFrame} (hg : g.method = m) {rest : List Value} (hs : g.stack = .int x :: .int j :: .ref a :: rest) (hd : decode c.code g.pc = .ok (.iastore, 1)) :
    ∃ T' h', Stand p l e R s m args below meth c T' (locs ++ [⟨a, i⟩]) cells slots ∧ T'.heap = h' ∧ Wr h h' a i (.int x) ∧ ownA Z h' a .int n (own_up f i (.int x)) ∧ ∀ t, Steps p.tables e below (T'.setTop { g with pc := g.pc + 1, stack := rest }) t → Steps p.tables e below (T.setTop g) t := by
  have V0 := V
  obtain ⟨cl, A, S, q, H⟩ := V
  obtain ⟨T', h', X', e', W', st⟩ := stI X hx hZ eT A (j := j) (own_in S q hj hi) hg hs hd
  have ej : j.toNatClampNeg = i := by rw [hj]; exact own_n32 (by omega)
  rw [ej] at X' W'
  exact ⟨T', h', X', e', W', V0.put W' rfl, st⟩
theorem own_lastore {a : Addr} {n i : Nat} {f : Nat → Value} {j : Int32} {x : Int64} (X : Stand p l e R s m args below meth c T locs cells slots) (hx : p.tables.exec = Jvm.exec) (hZ : Z.Warmed39 s.vm) (eT : T.heap = h) (V : ownA Z h a .long n f) (hj : j = Int32.ofNat i) (hi : i < n)
    {g : JFrame} (hg : g.method = m) {rest : List Value} (hs : g.stack = .long x :: .int j :: .ref a :: rest) (hd : decode c.code g.pc = .ok (.lastore, 1)) :
    ∃ T' h', Stand p l e R s m args below meth c T' (locs ++ [⟨a, i⟩]) cells slots ∧ T'.heap = h' ∧ Wr h h' a i (.long x) ∧ ownA Z h' a .long n (own_up f i (.long x)) ∧ ∀ t, Steps p.tables e below (T'.setTop { g with pc := g.pc + 1, stack := rest }) t → Steps p.tables e below (T.setTop g) t := by
  have V0 := V
  obtain ⟨cl, A, S, q, H⟩ := V
  obtain ⟨T', h', X', e', W', st⟩ := stJ X hx hZ eT A (j := j) (own_in S q hj hi) hg hs hd
  have ej : j.toNatClampNeg = i := by rw [hj]; exact own_n32 (by omega)
  rw [ej] at X' W'
  exact ⟨T', h', X', e', W', V0.put W' rfl, st⟩
theorem own_bastore {a : Addr} {n i : Nat} {f : Nat → Value} {j x : Int32} (X : Stand p l e R s m args below meth c T locs cells slots) (hx : p.tables.exec = Jvm.exec) (hZ : Z.Warmed39 s.vm) (eT : T.heap = h) (V : ownA Z h a .byte n f) (hj : j = Int32.ofNat i) (hi : i < n)
    {g : JFrame} (hg : g.method = m) {rest : List Value} (hs : g.stack = .int x :: .int j :: .ref a :: rest) (hd : decode c.code g.pc = .ok (.bastore, 1)) :
    ∃ T' h', Stand p l e R s m args below meth c T' (locs ++ [⟨a, i⟩]) cells slots ∧ T'.heap = h' ∧ Wr h h' a i (.int x.toInt8.toInt32) ∧ ownA Z h' a .byte n (own_up f i (.int x.toInt8.toInt32)) ∧ ∀ t, Steps p.tables e below (T'.setTop { g with pc := g.pc + 1, stack := rest }) t → Steps p.tables e below (T.setTop g) t := by
  have V0 := V
  obtain ⟨cl, A, S, q, H⟩ := V
  obtain ⟨T', h', X', e', W', st⟩ := stB X hx hZ eT A (j := j) (own_in S q hj hi) hg hs hd
  have ej : j.toNatClampNeg = i := by rw [hj]; exact own_n32 (by omega)
  rw [ej] at X' W'
  exact ⟨T', h', X', e', W', V0.put W' (fits_nar_byte _), st⟩
/-- newarray of n places, at most cap -/
theorem own_newarray {aty : ArrayType} (X : Stand p l e R s m args below meth c T locs cells slots) (hx : p.tables.exec = Jvm.exec) (hZ : Z.Warmed39 s.vm) (w : (Jvm.Cond.arrayClass (newarray.typeOf aty)).before a0 Z = true) (eT : T.heap = h) (n : Nat) (cap : Nat) (hn : n ≤ cap) (hb : cap * 8 ≤ 536870912) (hc : cells + 1 ≤ R.cells) (hl : slots + cap ≤ R.slots) {ad : String} (had : "[" ++ (newarray.typeOf aty).toString = ad) (d : fits (newarray.typeOf aty) (defaultValue (newarray.typeOf aty)) = true)
    {z : Int32} (hz : z = Int32.ofNat n) {g : JFrame} (hg : g.method = m) (hd : decode c.code g.pc = .ok (.newarray aty, 2)) {rest : List Value} (hs : g.stack = .int z :: rest) :
    ∃ T' h' b, Stand p l e R s m args below meth c T' locs (cells + 1) (slots + cap) ∧ T'.heap = h' ∧ Ext h h' ∧ ownA Z h' b (newarray.typeOf aty) n (fun _ => defaultValue (newarray.typeOf aty)) ∧ Exa Z h' b ad ∧ b = h.size ∧
      ∀ t, Steps p.tables e below (T'.setTop { g with pc := g.pc + 2, stack := .ref b :: rest }) t → Steps p.tables e below (T.setTop g) t := by
  have hn' : n < 2147483648 := by omega
  subst hz
  obtain ⟨T', h', k, X', e', E, A, Ex, st⟩ := newPE X hx hZ w eT hg hd hs (own_nn hn') (by rw [own_n32 hn']; exact hn) hb hc hl had
  exact ⟨T', h', _, X', e', E, ownA.new A hn' d, Ex, rfl, st⟩
end Core
theorem ownA.int {Z : State} {h : Heap} {a : Addr} {n i : Nat} {f : Nat → Value} (V : ownA Z h a .int n f) (hi : i < n) : ∃ v : Int32, f i = .int v := by
  obtain ⟨c, A, S, q, H⟩ := V
  have q := (H i hi).2
  generalize f i = w at q
  cases w <;> first | exact ⟨_, rfl⟩ | simp [fits] at q
theorem own_idx (j : Int32) (n : Nat) (q0 : 0 ≤ j.toInt) (q1 : j.toInt < n) : ∃ i, i < n ∧ j = Int32.ofNat i := by
  have q2 := j.toInt_lt
  refine ⟨j.toInt.toNat, by omega, ?_⟩
  apply Int32.toInt_inj.mp
  rw [Int32.toInt_ofNat_of_lt (by omega)]
  omega
theorem own_ltn {i n : Nat} (q : i < n) (hn : n < 2147483648) : Int32.ofNat i < Int32.ofNat n := by
  rw [Int32.lt_iff_toInt_lt, Int32.toInt_ofNat_of_lt (by omega), Int32.toInt_ofNat_of_lt hn]
  omega
theorem d1_0 : decode prog_405_method_3_code 0 = .ok (.iload_n 0, 1) := by decide +kernel
theorem d1_1 : decode prog_405_method_3_code 1 = .ok (.bipush 9, 2) := by decide +kernel
theorem d1_3 : decode prog_405_method_3_code 3 = .ok (.if_icmp .eq 51, 3) := by decide +kernel
theorem d1_6 : decode prog_405_method_3_code 6 = .ok (.iload_n 0, 1) := by decide +kernel
theorem d1_7 : decode prog_405_method_3_code 7 = .ok (.bipush 10, 2) := by decide +kernel
theorem d1_9 : decode prog_405_method_3_code 9 = .ok (.if_icmp .eq 45, 3) := by decide +kernel
theorem d1_12 : decode prog_405_method_3_code 12 = .ok (.iload_n 0, 1) := by decide +kernel
theorem d1_13 : decode prog_405_method_3_code 13 = .ok (.bipush 13, 2) := by decide +kernel
theorem d1_15 : decode prog_405_method_3_code 15 = .ok (.if_icmp .eq 39, 3) := by decide +kernel
theorem d1_18 : decode prog_405_method_3_code 18 = .ok (.iload_n 0, 1) := by decide +kernel
theorem d1_19 : decode prog_405_method_3_code 19 = .ok (.bipush 32, 2) := by decide +kernel
theorem d1_21 : decode prog_405_method_3_code 21 = .ok (.if_icmp .lt 9, 3) := by decide +kernel
theorem d1_24 : decode prog_405_method_3_code 24 = .ok (.iload_n 0, 1) := by decide +kernel
theorem d1_25 : decode prog_405_method_3_code 25 = .ok (.ldc 25, 2) := by decide +kernel
theorem d1_27 : decode prog_405_method_3_code 27 = .ok (.if_icmp .le 27, 3) := by decide +kernel
theorem d1_30 : decode prog_405_method_3_code 30 = .ok (.iload_n 0, 1) := by decide +kernel
theorem d1_31 : decode prog_405_method_3_code 31 = .ok (.ldc 26, 2) := by decide +kernel
theorem d1_33 : decode prog_405_method_3_code 33 = .ok (.if_icmp .lt 9, 3) := by decide +kernel
theorem d1_36 : decode prog_405_method_3_code 36 = .ok (.iload_n 0, 1) := by decide +kernel
theorem d1_37 : decode prog_405_method_3_code 37 = .ok (.ldc 27, 2) := by decide +kernel
theorem d1_39 : decode prog_405_method_3_code 39 = .ok (.if_icmp .le 15, 3) := by decide +kernel
theorem d1_42 : decode prog_405_method_3_code 42 = .ok (.iload_n 0, 1) := by decide +kernel
theorem d1_43 : decode prog_405_method_3_code 43 = .ok (.ldc 28, 2) := by decide +kernel
theorem d1_45 : decode prog_405_method_3_code 45 = .ok (.if_icmp .lt 13, 3) := by decide +kernel
theorem d1_48 : decode prog_405_method_3_code 48 = .ok (.iload_n 0, 1) := by decide +kernel
theorem d1_49 : decode prog_405_method_3_code 49 = .ok (.ldc 29, 2) := by decide +kernel
theorem d1_51 : decode prog_405_method_3_code 51 = .ok (.if_icmp .gt 7, 3) := by decide +kernel
theorem d1_54 : decode prog_405_method_3_code 54 = .ok (.iconst 1, 1) := by decide +kernel
theorem d1_55 : decode prog_405_method_3_code 55 = .ok (.goto 4, 3) := by decide +kernel
theorem d1_58 : decode prog_405_method_3_code 58 = .ok (.iconst 0, 1) := by decide +kernel
theorem d1_59 : decode prog_405_method_3_code 59 = .ok (.ireturn, 1) := by decide +kernel
abbrev R1 : Room := { frames := 0, cells := 0, slots := 0, locals := 0 }
def f1_54 (x0 : Int32) : Int32 := (1 : Int32)
set_option maxRecDepth 65536 in
set_option maxHeartbeats 40000000 in
theorem b1_54 {p : Program} {l : Launch} {e : Env} {s : State} {m : MethodId} {args : Array Value} {below : List Frame} {meth : Method} {c : Code} {T0 : State} {locs : List Loc} {Z : State} {a0 : Array Value} {h0 : Heap} {n0 : Nat} (hx : p.tables.exec = Jvm.exec) (hZ : Z.Warmed39 s.vm) (hw : ∀ d ∈ tables_1, d.before a0 Z = true) (hby : c.code = prog_405_method_3_code) (hml : c.maxLocals = 1) (hown : s.vm.findClass "com/example/lexipath/lexipath/xml/XmlNames" = some m.cls) (hret : meth.sig.returnType = (some .boolean)) (hlk : meth.locks = false) (X0 : Stand p l e R1 s m args below meth c T0 locs 0 0) (e0 : T0.heap = h0) (N0 : Fr n0 locs) (x0 : Int32) (r : Int32) (hr : r = f1_54 x0) :
    ownGo p.tables e below T0 (mkF m 54 #[.val (.int x0)] []) (ownDone s (ownPure (.int r) h0 n0) 0 0) := by
  have hr0 : r = (1 : Int32) := hr
  refine ownGo.st (fun _ k => XS.iconst X0.here hx rfl (hb hby d1_54)  k) ?_
  show ownGo p.tables e below T0 (mkF m 55 #[.val (.int x0)] [(.int (1 : Int32))]) _
  refine ownGo.st (fun _ k => XS.goto X0.here hx rfl (pc0 := 55) (pc' := 59) rfl (hb hby d1_55) (by decide) (by decide) k) ?_
  show ownGo p.tables e below T0 (mkF m 59 #[.val (.int x0)] [(.int (1 : Int32))]) _
  exact own_retZ X0 hx hlk hret (hb hby d1_59) (by first | exact Or.inl rfl | exact Or.inr rfl) ⟨congrArg (fun z => some (Value.int z)) hr0.symm, N0, e0⟩ (Nat.le_refl _) (Nat.le_refl _)
def f1_58 (x0 : Int32) : Int32 := (0 : Int32)
set_option maxRecDepth 65536 in
set_option maxHeartbeats 40000000 in
theorem b1_58 {p : Program} {l : Launch} {e : Env} {s : State} {m : MethodId} {args : Array Value} {below : List Frame} {meth : Method} {c : Code} {T0 : State} {locs : List Loc} {Z : State} {a0 : Array Value} {h0 : Heap} {n0 : Nat} (hx : p.tables.exec = Jvm.exec) (hZ : Z.Warmed39 s.vm) (hw : ∀ d ∈ tables_1, d.before a0 Z = true) (hby : c.code = prog_405_method_3_code) (hml : c.maxLocals = 1) (hown : s.vm.findClass "com/example/lexipath/lexipath/xml/XmlNames" = some m.cls) (hret : meth.sig.returnType = (some .boolean)) (hlk : meth.locks = false) (X0 : Stand p l e R1 s m args below meth c T0 locs 0 0) (e0 : T0.heap = h0) (N0 : Fr n0 locs) (x0 : Int32) (r : Int32) (hr : r = f1_58 x0) :
    ownGo p.tables e below T0 (mkF m 58 #[.val (.int x0)] []) (ownDone s (ownPure (.int r) h0 n0) 0 0) := by
  have hr0 : r = (0 : Int32) := hr
  refine ownGo.st (fun _ k => XS.iconst X0.here hx rfl (hb hby d1_58)  k) ?_
  show ownGo p.tables e below T0 (mkF m 59 #[.val (.int x0)] [(.int (0 : Int32))]) _
  exact own_retZ X0 hx hlk hret (hb hby d1_59) (by first | exact Or.inl rfl | exact Or.inr rfl) ⟨congrArg (fun z => some (Value.int z)) hr0.symm, N0, e0⟩ (Nat.le_refl _) (Nat.le_refl _)
def f1_42 (x0 : Int32) : Int32 := (if x0 < (65536 : Int32) then (f1_58 x0) else (if (1114111 : Int32) < x0 then (f1_58 x0) else (f1_54 x0)))
set_option maxRecDepth 65536 in
set_option maxHeartbeats 40000000 in
theorem b1_42 {p : Program} {l : Launch} {e : Env} {s : State} {m : MethodId} {args : Array Value} {below : List Frame} {meth : Method} {c : Code} {T0 : State} {locs : List Loc} {Z : State} {a0 : Array Value} {h0 : Heap} {n0 : Nat} (hx : p.tables.exec = Jvm.exec) (hZ : Z.Warmed39 s.vm) (hw : ∀ d ∈ tables_1, d.before a0 Z = true) (hby : c.code = prog_405_method_3_code) (hml : c.maxLocals = 1) (hown : s.vm.findClass "com/example/lexipath/lexipath/xml/XmlNames" = some m.cls) (hret : meth.sig.returnType = (some .boolean)) (hlk : meth.locks = false) (X0 : Stand p l e R1 s m args below meth c T0 locs 0 0) (e0 : T0.heap = h0) (N0 : Fr n0 locs) (x0 : Int32) (r : Int32) (hr : r = f1_42 x0) :
    ownGo p.tables e below T0 (mkF m 42 #[.val (.int x0)] []) (ownDone s (ownPure (.int r) h0 n0) 0 0) := by
  have hr0 : r = (if x0 < (65536 : Int32) then (f1_58 x0) else (if (1114111 : Int32) < x0 then (f1_58 x0) else (f1_54 x0))) := hr
  refine ownGo.st (fun _ k => XS.iloadN X0.here hx rfl (hb hby d1_42) rfl k) ?_
  show ownGo p.tables e below T0 (mkF m 43 #[.val (.int x0)] [(.int x0)]) _
  refine ownGo.st (X0.ldcInt hx hown (mvT hZ (own_at hw 19 rfl)) (g := (mkF m 43 #[.val (.int x0)] [(.int x0)])) rfl (hb hby d1_43)) ?_
  show ownGo p.tables e below T0 (mkF m 45 #[.val (.int x0)] [(.int (65536 : Int32)), (.int x0)]) _
  by_cases hc45 : x0 < (65536 : Int32)
  · have hr6 := hr0.trans (if_pos hc45)
    refine ownGo.st (fun _ k => XS.icmpYes X0.here hx rfl (pc0 := 45) (pc' := 58) rfl (hb hby d1_45) rfl (tlt hc45).1 (by decide) (by decide) k) ?_
    show ownGo p.tables e below T0 (mkF m 58 #[.val (.int x0)] []) _
    exact b1_58 hx hZ hw hby hml hown hret hlk X0 e0 N0 x0 r hr6
  · have hr6 := hr0.trans (if_neg hc45)
    refine ownGo.st (fun _ k => XS.icmpNo X0.here hx rfl (hb hby d1_45) rfl (flt hc45).1 k) ?_
    show ownGo p.tables e below T0 (mkF m 48 #[.val (.int x0)] []) _
    refine ownGo.st (fun _ k => XS.iloadN X0.here hx rfl (hb hby d1_48) rfl k) ?_
    show ownGo p.tables e below T0 (mkF m 49 #[.val (.int x0)] [(.int x0)]) _
    refine ownGo.st (X0.ldcInt hx hown (mvT hZ (own_at hw 24 rfl)) (g := (mkF m 49 #[.val (.int x0)] [(.int x0)])) rfl (hb hby d1_49)) ?_
    show ownGo p.tables e below T0 (mkF m 51 #[.val (.int x0)] [(.int (1114111 : Int32)), (.int x0)]) _
    by_cases hc51 : (1114111 : Int32) < x0
    · have hr7 := hr6.trans (if_pos hc51)
      refine ownGo.st (fun _ k => XS.icmpYes X0.here hx rfl (pc0 := 51) (pc' := 58) rfl (hb hby d1_51) rfl (tlt hc51).2.2.1 (by decide) (by decide) k) ?_
      show ownGo p.tables e below T0 (mkF m 58 #[.val (.int x0)] []) _
      exact b1_58 hx hZ hw hby hml hown hret hlk X0 e0 N0 x0 r hr7
    · have hr7 := hr6.trans (if_neg hc51)
      refine ownGo.st (fun _ k => XS.icmpNo X0.here hx rfl (hb hby d1_51) rfl (flt hc51).2.2.1 k) ?_
      show ownGo p.tables e below T0 (mkF m 54 #[.val (.int x0)] []) _
      exact b1_54 hx hZ hw hby hml hown hret hlk X0 e0 N0 x0 r hr7
def f1_30 (x0 : Int32) : Int32 := (if x0 < (57344 : Int32) then (f1_42 x0) else (if (65533 : Int32) < x0 then (f1_42 x0) else (f1_54 x0)))
set_option maxRecDepth 65536 in
set_option maxHeartbeats 40000000 in
theorem b1_30 {p : Program} {l : Launch} {e : Env} {s : State} {m : MethodId} {args : Array Value} {below : List Frame} {meth : Method} {c : Code} {T0 : State} {locs : List Loc} {Z : State} {a0 : Array Value} {h0 : Heap} {n0 : Nat} (hx : p.tables.exec = Jvm.exec) (hZ : Z.Warmed39 s.vm) (hw : ∀ d ∈ tables_1, d.before a0 Z = true) (hby : c.code = prog_405_method_3_code) (hml : c.maxLocals = 1) (hown : s.vm.findClass "com/example/lexipath/lexipath/xml/XmlNames" = some m.cls) (hret : meth.sig.returnType = (some .boolean)) (hlk : meth.locks = false) (X0 : Stand p l e R1 s m args below meth c T0 locs 0 0) (e0 : T0.heap = h0) (N0 : Fr n0 locs) (x0 : Int32) (r : Int32) (hr : r = f1_30 x0) :
    ownGo p.tables e below T0 (mkF m 30 #[.val (.int x0)] []) (ownDone s (ownPure (.int r) h0 n0) 0 0) := by
  have hr0 : r = (if x0 < (57344 : Int32) then (f1_42 x0) else (if (65533 : Int32) < x0 then (f1_42 x0) else (f1_54 x0))) := hr
  refine ownGo.st (fun _ k => XS.iloadN X0.here hx rfl (hb hby d1_30) rfl k) ?_
  show ownGo p.tables e below T0 (mkF m 31 #[.val (.int x0)] [(.int x0)]) _
  refine ownGo.st (X0.ldcInt hx hown (mvT hZ (own_at hw 18 rfl)) (g := (mkF m 31 #[.val (.int x0)] [(.int x0)])) rfl (hb hby d1_31)) ?_
  show ownGo p.tables e below T0 (mkF m 33 #[.val (.int x0)] [(.int (57344 : Int32)), (.int x0)]) _
  by_cases hc33 : x0 < (57344 : Int32)
  · have hr5 := hr0.trans (if_pos hc33)
    refine ownGo.st (fun _ k => XS.icmpYes X0.here hx rfl (pc0 := 33) (pc' := 42) rfl (hb hby d1_33) rfl (tlt hc33).1 (by decide) (by decide) k) ?_
    show ownGo p.tables e below T0 (mkF m 42 #[.val (.int x0)] []) _
    exact b1_42 hx hZ hw hby hml hown hret hlk X0 e0 N0 x0 r hr5
  · have hr5 := hr0.trans (if_neg hc33)
    refine ownGo.st (fun _ k => XS.icmpNo X0.here hx rfl (hb hby d1_33) rfl (flt hc33).1 k) ?_
    show ownGo p.tables e below T0 (mkF m 36 #[.val (.int x0)] []) _
    refine ownGo.st (fun _ k => XS.iloadN X0.here hx rfl (hb hby d1_36) rfl k) ?_
    show ownGo p.tables e below T0 (mkF m 37 #[.val (.int x0)] [(.int x0)]) _
    refine ownGo.st (X0.ldcInt hx hown (mvT hZ (own_at hw 23 rfl)) (g := (mkF m 37 #[.val (.int x0)] [(.int x0)])) rfl (hb hby d1_37)) ?_
    show ownGo p.tables e below T0 (mkF m 39 #[.val (.int x0)] [(.int (65533 : Int32)), (.int x0)]) _
    by_cases hc39 : (65533 : Int32) < x0
    · have hr8 := hr5.trans (if_pos hc39)
      refine ownGo.st (fun _ k => XS.icmpNo X0.here hx rfl (hb hby d1_39) rfl (tlt hc39).2.2.2 k) ?_
      show ownGo p.tables e below T0 (mkF m 42 #[.val (.int x0)] []) _
      exact b1_42 hx hZ hw hby hml hown hret hlk X0 e0 N0 x0 r hr8
    · have hr8 := hr5.trans (if_neg hc39)
      refine ownGo.st (fun _ k => XS.icmpYes X0.here hx rfl (pc0 := 39) (pc' := 54) rfl (hb hby d1_39) rfl (flt hc39).2.2.2 (by decide) (by decide) k) ?_
      show ownGo p.tables e below T0 (mkF m 54 #[.val (.int x0)] []) _
      exact b1_54 hx hZ hw hby hml hown hret hlk X0 e0 N0 x0 r hr8
def f1_0 (x0 : Int32) : Int32 := (if x0 = (9 : Int32) then (f1_54 x0) else (if x0 = (10 : Int32) then (f1_54 x0) else (if x0 = (13 : Int32) then (f1_54 x0) else (if x0 < (32 : Int32) then (f1_30 x0) else (if (55295 : Int32) < x0 then (f1_30 x0) else (f1_54 x0))))))
set_option maxRecDepth 65536 in
set_option maxHeartbeats 40000000 in
theorem b1_0 {p : Program} {l : Launch} {e : Env} {s : State} {m : MethodId} {args : Array Value} {below : List Frame} {meth : Method} {c : Code} {T0 : State} {locs : List Loc} {Z : State} {a0 : Array Value} {h0 : Heap} {n0 : Nat} (hx : p.tables.exec = Jvm.exec) (hZ : Z.Warmed39 s.vm) (hw : ∀ d ∈ tables_1, d.before a0 Z = true) (hby : c.code = prog_405_method_3_code) (hml : c.maxLocals = 1) (hown : s.vm.findClass "com/example/lexipath/lexipath/xml/XmlNames" = some m.cls) (hret : meth.sig.returnType = (some .boolean)) (hlk : meth.locks = false) (X0 : Stand p l e R1 s m args below meth c T0 locs 0 0) (e0 : T0.heap = h0) (N0 : Fr n0 locs) (x0 : Int32) (r : Int32) (hr : r = f1_0 x0) :
    ownGo p.tables e below T0 (mkF m 0 #[.val (.int x0)] []) (ownDone s (ownPure (.int r) h0 n0) 0 0) := by
  have hr0 : r = (if x0 = (9 : Int32) then (f1_54 x0) else (if x0 = (10 : Int32) then (f1_54 x0) else (if x0 = (13 : Int32) then (f1_54 x0) else (if x0 < (32 : Int32) then (f1_30 x0) else (if (55295 : Int32) < x0 then (f1_30 x0) else (f1_54 x0)))))) := hr
  refine ownGo.st (fun _ k => XS.iloadN X0.here hx rfl (hb hby d1_0) rfl k) ?_
  show ownGo p.tables e below T0 (mkF m 1 #[.val (.int x0)] [(.int x0)]) _
  refine ownGo.st (fun _ k => XS.bipush X0.here hx rfl (hb hby d1_1)  k) ?_
  show ownGo p.tables e below T0 (mkF m 3 #[.val (.int x0)] [(.int (9 : Int32)), (.int x0)]) _
  by_cases hc3 : x0 = (9 : Int32)
  · have hr1 := hr0.trans (if_pos hc3)
    refine ownGo.st (fun _ k => XS.icmpYes X0.here hx rfl (pc0 := 3) (pc' := 54) rfl (hb hby d1_3) rfl (teq hc3).1 (by decide) (by decide) k) ?_
    show ownGo p.tables e below T0 (mkF m 54 #[.val (.int x0)] []) _
    exact b1_54 hx hZ hw hby hml hown hret hlk X0 e0 N0 x0 r hr1
  · have hr1 := hr0.trans (if_neg hc3)
    refine ownGo.st (fun _ k => XS.icmpNo X0.here hx rfl (hb hby d1_3) rfl (feq hc3).1 k) ?_
    show ownGo p.tables e below T0 (mkF m 6 #[.val (.int x0)] []) _
    refine ownGo.st (fun _ k => XS.iloadN X0.here hx rfl (hb hby d1_6) rfl k) ?_
    show ownGo p.tables e below T0 (mkF m 7 #[.val (.int x0)] [(.int x0)]) _
    refine ownGo.st (fun _ k => XS.bipush X0.here hx rfl (hb hby d1_7)  k) ?_
    show ownGo p.tables e below T0 (mkF m 9 #[.val (.int x0)] [(.int (10 : Int32)), (.int x0)]) _
    by_cases hc9 : x0 = (10 : Int32)
    · have hr2 := hr1.trans (if_pos hc9)
      refine ownGo.st (fun _ k => XS.icmpYes X0.here hx rfl (pc0 := 9) (pc' := 54) rfl (hb hby d1_9) rfl (teq hc9).1 (by decide) (by decide) k) ?_
      show ownGo p.tables e below T0 (mkF m 54 #[.val (.int x0)] []) _
      exact b1_54 hx hZ hw hby hml hown hret hlk X0 e0 N0 x0 r hr2
    · have hr2 := hr1.trans (if_neg hc9)
      refine ownGo.st (fun _ k => XS.icmpNo X0.here hx rfl (hb hby d1_9) rfl (feq hc9).1 k) ?_
      show ownGo p.tables e below T0 (mkF m 12 #[.val (.int x0)] []) _
      refine ownGo.st (fun _ k => XS.iloadN X0.here hx rfl (hb hby d1_12) rfl k) ?_
      show ownGo p.tables e below T0 (mkF m 13 #[.val (.int x0)] [(.int x0)]) _
      refine ownGo.st (fun _ k => XS.bipush X0.here hx rfl (hb hby d1_13)  k) ?_
      show ownGo p.tables e below T0 (mkF m 15 #[.val (.int x0)] [(.int (13 : Int32)), (.int x0)]) _
      by_cases hc15 : x0 = (13 : Int32)
      · have hr3 := hr2.trans (if_pos hc15)
        refine ownGo.st (fun _ k => XS.icmpYes X0.here hx rfl (pc0 := 15) (pc' := 54) rfl (hb hby d1_15) rfl (teq hc15).1 (by decide) (by decide) k) ?_
        show ownGo p.tables e below T0 (mkF m 54 #[.val (.int x0)] []) _
        exact b1_54 hx hZ hw hby hml hown hret hlk X0 e0 N0 x0 r hr3
      · have hr3 := hr2.trans (if_neg hc15)
        refine ownGo.st (fun _ k => XS.icmpNo X0.here hx rfl (hb hby d1_15) rfl (feq hc15).1 k) ?_
        show ownGo p.tables e below T0 (mkF m 18 #[.val (.int x0)] []) _
        refine ownGo.st (fun _ k => XS.iloadN X0.here hx rfl (hb hby d1_18) rfl k) ?_
        show ownGo p.tables e below T0 (mkF m 19 #[.val (.int x0)] [(.int x0)]) _
        refine ownGo.st (fun _ k => XS.bipush X0.here hx rfl (hb hby d1_19)  k) ?_
        show ownGo p.tables e below T0 (mkF m 21 #[.val (.int x0)] [(.int (32 : Int32)), (.int x0)]) _
        by_cases hc21 : x0 < (32 : Int32)
        · have hr4 := hr3.trans (if_pos hc21)
          refine ownGo.st (fun _ k => XS.icmpYes X0.here hx rfl (pc0 := 21) (pc' := 30) rfl (hb hby d1_21) rfl (tlt hc21).1 (by decide) (by decide) k) ?_
          show ownGo p.tables e below T0 (mkF m 30 #[.val (.int x0)] []) _
          exact b1_30 hx hZ hw hby hml hown hret hlk X0 e0 N0 x0 r hr4
        · have hr4 := hr3.trans (if_neg hc21)
          refine ownGo.st (fun _ k => XS.icmpNo X0.here hx rfl (hb hby d1_21) rfl (flt hc21).1 k) ?_
          show ownGo p.tables e below T0 (mkF m 24 #[.val (.int x0)] []) _
          refine ownGo.st (fun _ k => XS.iloadN X0.here hx rfl (hb hby d1_24) rfl k) ?_
          show ownGo p.tables e below T0 (mkF m 25 #[.val (.int x0)] [(.int x0)]) _
          refine ownGo.st (X0.ldcInt hx hown (mvT hZ (own_at hw 20 rfl)) (g := (mkF m 25 #[.val (.int x0)] [(.int x0)])) rfl (hb hby d1_25)) ?_
          show ownGo p.tables e below T0 (mkF m 27 #[.val (.int x0)] [(.int (55295 : Int32)), (.int x0)]) _
          by_cases hc27 : (55295 : Int32) < x0
          · have hr9 := hr4.trans (if_pos hc27)
            refine ownGo.st (fun _ k => XS.icmpNo X0.here hx rfl (hb hby d1_27) rfl (tlt hc27).2.2.2 k) ?_
            show ownGo p.tables e below T0 (mkF m 30 #[.val (.int x0)] []) _
            exact b1_30 hx hZ hw hby hml hown hret hlk X0 e0 N0 x0 r hr9
          · have hr9 := hr4.trans (if_neg hc27)
            refine ownGo.st (fun _ k => XS.icmpYes X0.here hx rfl (pc0 := 27) (pc' := 54) rfl (hb hby d1_27) rfl (flt hc27).2.2.2 (by decide) (by decide) k) ?_
            show ownGo p.tables e below T0 (mkF m 54 #[.val (.int x0)] []) _
            exact b1_54 hx hZ hw hby hml hown hret hlk X0 e0 N0 x0 r hr9
abbrev F1 (x0 : Int32) : Int32 := f1_0 x0
theorem pn_1 : plainName "com/example/lexipath/lexipath/xml/XmlNames" = true := by first | (simp [plainName, overriddenIn]; done) | decide +kernel
theorem ef_1 (m : MethodId) (x0 : Int32) : entryFrame m #[(.int x0)] 1 = mkF m 0 #[.val (.int x0)] [] := by first | (simp [entryFrame, mkF, argsToLocals, Value.category]; done) | rfl
set_option maxRecDepth 65536 in
set_option maxHeartbeats 40000000 in
theorem rm1 (l : Launch) (Z : State) (a0 : Array Value) (hw : ∀ d ∈ tables_1, d.before a0 Z = true) (x0 : Int32) (h0 : Heap) (n0 : Nat)  :
    MetFree l (⟨"com/example/lexipath/lexipath/xml/XmlNames", "isCharacter", "(I)Z"⟩ : MethodName) (head1 [Jvm.Cond.code (⟨"com/example/lexipath/lexipath/xml/XmlNames", "isCharacter", "(I)Z"⟩ : MethodName) prog_405_method_3_code 1 (some .boolean)] R1) (fun a U => a = #[(.int x0)] ∧ Z.Warmed39 U.vm ∧ U.heap = h0) (fun _ _ _ _ _ => True) (fun _ U o U' => ∃ v L, o = .returned v ∧ ownPure (.int (F1 x0)) h0 n0 v U'.heap L ∧ FrameEnd U o U' L R1.cells R1.slots) := by
  refine MetFree.of_bodySF (plainFor_of_name pn_1) hisR ?_
  intro p e s m args below meth c s₁ Bd hml0 hP hK
  obtain ⟨rfl, hZ, hh⟩ := hP
  have hx := Bd.exec
  have hby := Bd.bytes
  have hml : c.maxLocals = 1 := hml0
  have hown : s.vm.findClass "com/example/lexipath/lexipath/xml/XmlNames" = some m.cls := findClass_of_methodNamed Bd.named
  have hnm := (name_of_methodNamed Bd.named Bd.method).1
  have hret := Bd.returns
  have hlk : meth.locks = false := BodyLoose.notSynchronized Bd
  have X0 : Stand p l e R1 s m #[(.int x0)] below meth c s₁ [] 0 0 := Stand.of_body Bd
  have e0 : s₁.heap = h0 := by rw [← hh, Bd.state]; rfl
  have N0 := Fr.nil n0
  show ownGo p.tables e below s₁ (entryFrame m #[(.int x0)] 1) (ownDone s (ownPure (.int (F1 x0)) h0 n0) R1.cells R1.slots)
  rw [ef_1 m x0]
  exact b1_0 hx hZ hw hby hml hown hret hlk X0 e0 N0 x0 _ rfl
theorem own_p1_54 (x0 : Int32) : f1_54 x0 = if (-2147483648 ≤ x0.toInt ∧ x0.toInt ≤ 2147483647) then 1 else 0 := by
  have r1 := x0.toInt_lt
  have r2 := x0.le_toInt
  show (1 : Int32) = _
  simp only [Int32.lt_iff_toInt_lt, ← Int32.toInt_inj, show (1 : Int32).toInt = 1 from rfl]
  repeat' split
  all_goals first | rfl | (exfalso; omega)
theorem own_p1_58 (x0 : Int32) : f1_58 x0 = if x0.toInt < x0.toInt then 1 else 0 := by
  have r1 := x0.toInt_lt
  have r2 := x0.le_toInt
  show (0 : Int32) = _
  simp only [Int32.lt_iff_toInt_lt, ← Int32.toInt_inj, show (0 : Int32).toInt = 0 from rfl]
  repeat' split
  all_goals first | rfl | (exfalso; omega)
theorem own_p1_42 (x0 : Int32) : f1_42 x0 = if (65536 ≤ x0.toInt ∧ x0.toInt ≤ 1114111) then 1 else 0 := by
  have r1 := x0.toInt_lt
  have r2 := x0.le_toInt
  show (if x0 < (65536 : Int32) then (f1_58 x0) else (if (1114111 : Int32) < x0 then (f1_58 x0) else (f1_54 x0))) = _
  rw [own_p1_58, own_p1_54]
  simp only [Int32.lt_iff_toInt_lt, ← Int32.toInt_inj, show (65536 : Int32).toInt = 65536 from rfl, show (1114111 : Int32).toInt = 1114111 from rfl]
  repeat' split
  all_goals first | rfl | (exfalso; omega)
theorem own_p1_30 (x0 : Int32) : f1_30 x0 = if (57344 ≤ x0.toInt ∧ x0.toInt ≤ 65533) ∨ (65536 ≤ x0.toInt ∧ x0.toInt ≤ 1114111) then 1 else 0 := by
  have r1 := x0.toInt_lt
  have r2 := x0.le_toInt
  show (if x0 < (57344 : Int32) then (f1_42 x0) else (if (65533 : Int32) < x0 then (f1_42 x0) else (f1_54 x0))) = _
  rw [own_p1_42, own_p1_54]
  simp only [Int32.lt_iff_toInt_lt, ← Int32.toInt_inj, show (57344 : Int32).toInt = 57344 from rfl, show (65533 : Int32).toInt = 65533 from rfl]
  repeat' split
  all_goals first | rfl | (exfalso; omega)
theorem own_p1_0 (x0 : Int32) : f1_0 x0 = if (9 ≤ x0.toInt ∧ x0.toInt ≤ 10) ∨ (13 ≤ x0.toInt ∧ x0.toInt ≤ 13) ∨ (32 ≤ x0.toInt ∧ x0.toInt ≤ 55295) ∨ (57344 ≤ x0.toInt ∧ x0.toInt ≤ 65533) ∨ (65536 ≤ x0.toInt ∧ x0.toInt ≤ 1114111) then 1 else 0 := by
  have r1 := x0.toInt_lt
  have r2 := x0.le_toInt
  show (if x0 = (9 : Int32) then (f1_54 x0) else (if x0 = (10 : Int32) then (f1_54 x0) else (if x0 = (13 : Int32) then (f1_54 x0) else (if x0 < (32 : Int32) then (f1_30 x0) else (if (55295 : Int32) < x0 then (f1_30 x0) else (f1_54 x0)))))) = _
  rw [own_p1_54, own_p1_30]
  simp only [Int32.lt_iff_toInt_lt, ← Int32.toInt_inj, show (9 : Int32).toInt = 9 from rfl, show (10 : Int32).toInt = 10 from rfl, show (13 : Int32).toInt = 13 from rfl, show (32 : Int32).toInt = 32 from rfl, show (55295 : Int32).toInt = 55295 from rfl]
  repeat' split
  all_goals first | rfl | (exfalso; omega)
theorem d2_0 : decode method_3_code 0 = .ok (.iload_n 0, 1) := by decide +kernel
theorem d2_1 : decode method_3_code 1 = .ok (.ifCond .lt 9, 3) := by decide +kernel
theorem d2_4 : decode method_3_code 4 = .ok (.iload_n 0, 1) := by decide +kernel
theorem d2_5 : decode method_3_code 5 = .ok (.ldc 11, 2) := by decide +kernel
theorem d2_7 : decode method_3_code 7 = .ok (.if_icmp .le 5, 3) := by decide +kernel
theorem d2_10 : decode method_3_code 10 = .ok (.iconst 0, 1) := by decide +kernel
theorem d2_11 : decode method_3_code 11 = .ok (.ireturn, 1) := by decide +kernel
theorem d2_12 : decode method_3_code 12 = .ok (.iload_n 0, 1) := by decide +kernel
theorem d2_13 : decode method_3_code 13 = .ok (.bipush 32, 2) := by decide +kernel
theorem d2_15 : decode method_3_code 15 = .ok (.if_icmp .ge 27, 3) := by decide +kernel
theorem d2_18 : decode method_3_code 18 = .ok (.iload_n 0, 1) := by decide +kernel
theorem d2_19 : decode method_3_code 19 = .ok (.bipush 9, 2) := by decide +kernel
theorem d2_21 : decode method_3_code 21 = .ok (.if_icmp .eq 15, 3) := by decide +kernel
theorem d2_24 : decode method_3_code 24 = .ok (.iload_n 0, 1) := by decide +kernel
theorem d2_25 : decode method_3_code 25 = .ok (.bipush 10, 2) := by decide +kernel
theorem d2_27 : decode method_3_code 27 = .ok (.if_icmp .eq 9, 3) := by decide +kernel
theorem d2_30 : decode method_3_code 30 = .ok (.iload_n 0, 1) := by decide +kernel
theorem d2_31 : decode method_3_code 31 = .ok (.bipush 13, 2) := by decide +kernel
theorem d2_33 : decode method_3_code 33 = .ok (.if_icmp .ne 7, 3) := by decide +kernel
theorem d2_36 : decode method_3_code 36 = .ok (.iconst 1, 1) := by decide +kernel
theorem d2_37 : decode method_3_code 37 = .ok (.goto 4, 3) := by decide +kernel
theorem d2_40 : decode method_3_code 40 = .ok (.iconst 0, 1) := by decide +kernel
theorem d2_41 : decode method_3_code 41 = .ok (.ireturn, 1) := by decide +kernel
theorem d2_42 : decode method_3_code 42 = .ok (.iload_n 0, 1) := by decide +kernel
theorem d2_43 : decode method_3_code 43 = .ok (.ldc 29, 2) := by decide +kernel
theorem d2_45 : decode method_3_code 45 = .ok (.if_icmp .lt 11, 3) := by decide +kernel
theorem d2_48 : decode method_3_code 48 = .ok (.iload_n 0, 1) := by decide +kernel
theorem d2_49 : decode method_3_code 49 = .ok (.ldc 16, 2) := by decide +kernel
theorem d2_51 : decode method_3_code 51 = .ok (.if_icmp .gt 5, 3) := by decide +kernel
theorem d2_54 : decode method_3_code 54 = .ok (.iconst 0, 1) := by decide +kernel
theorem d2_55 : decode method_3_code 55 = .ok (.ireturn, 1) := by decide +kernel
theorem d2_56 : decode method_3_code 56 = .ok (.iload_n 0, 1) := by decide +kernel
theorem d2_57 : decode method_3_code 57 = .ok (.ldc 30, 2) := by decide +kernel
theorem d2_59 : decode method_3_code 59 = .ok (.if_icmp .eq 13, 3) := by decide +kernel
theorem d2_62 : decode method_3_code 62 = .ok (.iload_n 0, 1) := by decide +kernel
theorem d2_63 : decode method_3_code 63 = .ok (.ldc 17, 2) := by decide +kernel
theorem d2_65 : decode method_3_code 65 = .ok (.if_icmp .eq 7, 3) := by decide +kernel
theorem d2_68 : decode method_3_code 68 = .ok (.iconst 1, 1) := by decide +kernel
theorem d2_69 : decode method_3_code 69 = .ok (.goto 4, 3) := by decide +kernel
theorem d2_72 : decode method_3_code 72 = .ok (.iconst 0, 1) := by decide +kernel
theorem d2_73 : decode method_3_code 73 = .ok (.ireturn, 1) := by decide +kernel
abbrev R2 : Room := { frames := 0, cells := 0, slots := 0, locals := 0 }
def f2_10 (x0 : Int32) : Int32 := (0 : Int32)
set_option maxRecDepth 65536 in
set_option maxHeartbeats 40000000 in
theorem b2_10 {p : Program} {l : Launch} {e : Env} {s : State} {m : MethodId} {args : Array Value} {below : List Frame} {meth : Method} {c : Code} {T0 : State} {locs : List Loc} {Z : State} {a0 : Array Value} {h0 : Heap} {n0 : Nat} (hx : p.tables.exec = Jvm.exec) (hZ : Z.Warmed39 s.vm) (hw : ∀ d ∈ tables_1, d.before a0 Z = true) (hby : c.code = method_3_code) (hml : c.maxLocals = 1) (hown : s.vm.findClass "com/example/lexipath/lexipath/xml/XmlNamesIsCharacterPinLaw" = some m.cls) (hret : meth.sig.returnType = (some .boolean)) (hlk : meth.locks = false) (X0 : Stand p l e R2 s m args below meth c T0 locs 0 0) (e0 : T0.heap = h0) (N0 : Fr n0 locs) (x0 : Int32) (r : Int32) (hr : r = f2_10 x0) :
    ownGo p.tables e below T0 (mkF m 10 #[.val (.int x0)] []) (ownDone s (ownPure (.int r) h0 n0) 0 0) := by
  have hr0 : r = (0 : Int32) := hr
  refine ownGo.st (fun _ k => XS.iconst X0.here hx rfl (hb hby d2_10)  k) ?_
  show ownGo p.tables e below T0 (mkF m 11 #[.val (.int x0)] [(.int (0 : Int32))]) _
  exact own_retZ X0 hx hlk hret (hb hby d2_11) (by first | exact Or.inl rfl | exact Or.inr rfl) ⟨congrArg (fun z => some (Value.int z)) hr0.symm, N0, e0⟩ (Nat.le_refl _) (Nat.le_refl _)
def f2_36 (x0 : Int32) : Int32 := (1 : Int32)
set_option maxRecDepth 65536 in
set_option maxHeartbeats 40000000 in
theorem b2_36 {p : Program} {l : Launch} {e : Env} {s : State} {m : MethodId} {args : Array Value} {below : List Frame} {meth : Method} {c : Code} {T0 : State} {locs : List Loc} {Z : State} {a0 : Array Value} {h0 : Heap} {n0 : Nat} (hx : p.tables.exec = Jvm.exec) (hZ : Z.Warmed39 s.vm) (hw : ∀ d ∈ tables_1, d.before a0 Z = true) (hby : c.code = method_3_code) (hml : c.maxLocals = 1) (hown : s.vm.findClass "com/example/lexipath/lexipath/xml/XmlNamesIsCharacterPinLaw" = some m.cls) (hret : meth.sig.returnType = (some .boolean)) (hlk : meth.locks = false) (X0 : Stand p l e R2 s m args below meth c T0 locs 0 0) (e0 : T0.heap = h0) (N0 : Fr n0 locs) (x0 : Int32) (r : Int32) (hr : r = f2_36 x0) :
    ownGo p.tables e below T0 (mkF m 36 #[.val (.int x0)] []) (ownDone s (ownPure (.int r) h0 n0) 0 0) := by
  have hr0 : r = (1 : Int32) := hr
  refine ownGo.st (fun _ k => XS.iconst X0.here hx rfl (hb hby d2_36)  k) ?_
  show ownGo p.tables e below T0 (mkF m 37 #[.val (.int x0)] [(.int (1 : Int32))]) _
  refine ownGo.st (fun _ k => XS.goto X0.here hx rfl (pc0 := 37) (pc' := 41) rfl (hb hby d2_37) (by decide) (by decide) k) ?_
  show ownGo p.tables e below T0 (mkF m 41 #[.val (.int x0)] [(.int (1 : Int32))]) _
  exact own_retZ X0 hx hlk hret (hb hby d2_41) (by first | exact Or.inl rfl | exact Or.inr rfl) ⟨congrArg (fun z => some (Value.int z)) hr0.symm, N0, e0⟩ (Nat.le_refl _) (Nat.le_refl _)
def f2_72 (x0 : Int32) : Int32 := (0 : Int32)
set_option maxRecDepth 65536 in
set_option maxHeartbeats 40000000 in
theorem b2_72 {p : Program} {l : Launch} {e : Env} {s : State} {m : MethodId} {args : Array Value} {below : List Frame} {meth : Method} {c : Code} {T0 : State} {locs : List Loc} {Z : State} {a0 : Array Value} {h0 : Heap} {n0 : Nat} (hx : p.tables.exec = Jvm.exec) (hZ : Z.Warmed39 s.vm) (hw : ∀ d ∈ tables_1, d.before a0 Z = true) (hby : c.code = method_3_code) (hml : c.maxLocals = 1) (hown : s.vm.findClass "com/example/lexipath/lexipath/xml/XmlNamesIsCharacterPinLaw" = some m.cls) (hret : meth.sig.returnType = (some .boolean)) (hlk : meth.locks = false) (X0 : Stand p l e R2 s m args below meth c T0 locs 0 0) (e0 : T0.heap = h0) (N0 : Fr n0 locs) (x0 : Int32) (r : Int32) (hr : r = f2_72 x0) :
    ownGo p.tables e below T0 (mkF m 72 #[.val (.int x0)] []) (ownDone s (ownPure (.int r) h0 n0) 0 0) := by
  have hr0 : r = (0 : Int32) := hr
  refine ownGo.st (fun _ k => XS.iconst X0.here hx rfl (hb hby d2_72)  k) ?_
  show ownGo p.tables e below T0 (mkF m 73 #[.val (.int x0)] [(.int (0 : Int32))]) _
  exact own_retZ X0 hx hlk hret (hb hby d2_73) (by first | exact Or.inl rfl | exact Or.inr rfl) ⟨congrArg (fun z => some (Value.int z)) hr0.symm, N0, e0⟩ (Nat.le_refl _) (Nat.le_refl _)
def f2_56 (x0 : Int32) : Int32 := (if x0 = (65534 : Int32) then (f2_72 x0) else (if x0 = (65535 : Int32) then (f2_72 x0) else (1 : Int32)))
set_option maxRecDepth 65536 in
set_option maxHeartbeats 40000000 in
theorem b2_56 {p : Program} {l : Launch} {e : Env} {s : State} {m : MethodId} {args : Array Value} {below : List Frame} {meth : Method} {c : Code} {T0 : State} {locs : List Loc} {Z : State} {a0 : Array Value} {h0 : Heap} {n0 : Nat} (hx : p.tables.exec = Jvm.exec) (hZ : Z.Warmed39 s.vm) (hw : ∀ d ∈ tables_1, d.before a0 Z = true) (hby : c.code = method_3_code) (hml : c.maxLocals = 1) (hown : s.vm.findClass "com/example/lexipath/lexipath/xml/XmlNamesIsCharacterPinLaw" = some m.cls) (hret : meth.sig.returnType = (some .boolean)) (hlk : meth.locks = false) (X0 : Stand p l e R2 s m args below meth c T0 locs 0 0) (e0 : T0.heap = h0) (N0 : Fr n0 locs) (x0 : Int32) (r : Int32) (hr : r = f2_56 x0) :
    ownGo p.tables e below T0 (mkF m 56 #[.val (.int x0)] []) (ownDone s (ownPure (.int r) h0 n0) 0 0) := by
  have hr0 : r = (if x0 = (65534 : Int32) then (f2_72 x0) else (if x0 = (65535 : Int32) then (f2_72 x0) else (1 : Int32))) := hr
  refine ownGo.st (fun _ k => XS.iloadN X0.here hx rfl (hb hby d2_56) rfl k) ?_
  show ownGo p.tables e below T0 (mkF m 57 #[.val (.int x0)] [(.int x0)]) _
  refine ownGo.st (X0.ldcInt hx hown (mvT hZ (own_at hw 22 rfl)) (g := (mkF m 57 #[.val (.int x0)] [(.int x0)])) rfl (hb hby d2_57)) ?_
  show ownGo p.tables e below T0 (mkF m 59 #[.val (.int x0)] [(.int (65534 : Int32)), (.int x0)]) _
  by_cases hc59 : x0 = (65534 : Int32)
  · have hr17 := hr0.trans (if_pos hc59)
    refine ownGo.st (fun _ k => XS.icmpYes X0.here hx rfl (pc0 := 59) (pc' := 72) rfl (hb hby d2_59) rfl (teq hc59).1 (by decide) (by decide) k) ?_
    show ownGo p.tables e below T0 (mkF m 72 #[.val (.int x0)] []) _
    exact b2_72 hx hZ hw hby hml hown hret hlk X0 e0 N0 x0 r hr17
  · have hr17 := hr0.trans (if_neg hc59)
    refine ownGo.st (fun _ k => XS.icmpNo X0.here hx rfl (hb hby d2_59) rfl (feq hc59).1 k) ?_
    show ownGo p.tables e below T0 (mkF m 62 #[.val (.int x0)] []) _
    refine ownGo.st (fun _ k => XS.iloadN X0.here hx rfl (hb hby d2_62) rfl k) ?_
    show ownGo p.tables e below T0 (mkF m 63 #[.val (.int x0)] [(.int x0)]) _
    refine ownGo.st (X0.ldcInt hx hown (mvT hZ (own_at hw 9 rfl)) (g := (mkF m 63 #[.val (.int x0)] [(.int x0)])) rfl (hb hby d2_63)) ?_
    show ownGo p.tables e below T0 (mkF m 65 #[.val (.int x0)] [(.int (65535 : Int32)), (.int x0)]) _
    by_cases hc65 : x0 = (65535 : Int32)
    · have hr18 := hr17.trans (if_pos hc65)
      refine ownGo.st (fun _ k => XS.icmpYes X0.here hx rfl (pc0 := 65) (pc' := 72) rfl (hb hby d2_65) rfl (teq hc65).1 (by decide) (by decide) k) ?_
      show ownGo p.tables e below T0 (mkF m 72 #[.val (.int x0)] []) _
      exact b2_72 hx hZ hw hby hml hown hret hlk X0 e0 N0 x0 r hr18
    · have hr18 := hr17.trans (if_neg hc65)
      refine ownGo.st (fun _ k => XS.icmpNo X0.here hx rfl (hb hby d2_65) rfl (feq hc65).1 k) ?_
      show ownGo p.tables e below T0 (mkF m 68 #[.val (.int x0)] []) _
      refine ownGo.st (fun _ k => XS.iconst X0.here hx rfl (hb hby d2_68)  k) ?_
      show ownGo p.tables e below T0 (mkF m 69 #[.val (.int x0)] [(.int (1 : Int32))]) _
      refine ownGo.st (fun _ k => XS.goto X0.here hx rfl (pc0 := 69) (pc' := 73) rfl (hb hby d2_69) (by decide) (by decide) k) ?_
      show ownGo p.tables e below T0 (mkF m 73 #[.val (.int x0)] [(.int (1 : Int32))]) _
      exact own_retZ X0 hx hlk hret (hb hby d2_73) (by first | exact Or.inl rfl | exact Or.inr rfl) ⟨congrArg (fun z => some (Value.int z)) hr18.symm, N0, e0⟩ (Nat.le_refl _) (Nat.le_refl _)
def f2_0 (x0 : Int32) : Int32 := (if x0 < (0 : Int32) then (f2_10 x0) else (if (1114111 : Int32) < x0 then (f2_10 x0) else (if x0 < (32 : Int32) then (if x0 = (9 : Int32) then (f2_36 x0) else (if x0 = (10 : Int32) then (f2_36 x0) else (if x0 = (13 : Int32) then (f2_36 x0) else (0 : Int32)))) else (if x0 < (55296 : Int32) then (f2_56 x0) else (if (57343 : Int32) < x0 then (f2_56 x0) else (0 : Int32))))))
set_option maxRecDepth 65536 in
set_option maxHeartbeats 40000000 in
theorem b2_0 {p : Program} {l : Launch} {e : Env} {s : State} {m : MethodId} {args : Array Value} {below : List Frame} {meth : Method} {c : Code} {T0 : State} {locs : List Loc} {Z : State} {a0 : Array Value} {h0 : Heap} {n0 : Nat} (hx : p.tables.exec = Jvm.exec) (hZ : Z.Warmed39 s.vm) (hw : ∀ d ∈ tables_1, d.before a0 Z = true) (hby : c.code = method_3_code) (hml : c.maxLocals = 1) (hown : s.vm.findClass "com/example/lexipath/lexipath/xml/XmlNamesIsCharacterPinLaw" = some m.cls) (hret : meth.sig.returnType = (some .boolean)) (hlk : meth.locks = false) (X0 : Stand p l e R2 s m args below meth c T0 locs 0 0) (e0 : T0.heap = h0) (N0 : Fr n0 locs) (x0 : Int32) (r : Int32) (hr : r = f2_0 x0) :
    ownGo p.tables e below T0 (mkF m 0 #[.val (.int x0)] []) (ownDone s (ownPure (.int r) h0 n0) 0 0) := by
  have hr0 : r = (if x0 < (0 : Int32) then (f2_10 x0) else (if (1114111 : Int32) < x0 then (f2_10 x0) else (if x0 < (32 : Int32) then (if x0 = (9 : Int32) then (f2_36 x0) else (if x0 = (10 : Int32) then (f2_36 x0) else (if x0 = (13 : Int32) then (f2_36 x0) else (0 : Int32)))) else (if x0 < (55296 : Int32) then (f2_56 x0) else (if (57343 : Int32) < x0 then (f2_56 x0) else (0 : Int32)))))) := hr
  refine ownGo.st (fun _ k => XS.iloadN X0.here hx rfl (hb hby d2_0) rfl k) ?_
  show ownGo p.tables e below T0 (mkF m 1 #[.val (.int x0)] [(.int x0)]) _
  by_cases hc1 : x0 < (0 : Int32)
  · have hr10 := hr0.trans (if_pos hc1)
    refine ownGo.st (fun _ k => XS.ifYes X0.here hx rfl (pc0 := 1) (pc' := 10) rfl (hb hby d2_1) rfl ((if0 _ _).trans (tlt hc1).1) (by decide) (by decide) k) ?_
    show ownGo p.tables e below T0 (mkF m 10 #[.val (.int x0)] []) _
    exact b2_10 hx hZ hw hby hml hown hret hlk X0 e0 N0 x0 r hr10
  · have hr10 := hr0.trans (if_neg hc1)
    refine ownGo.st (fun _ k => XS.ifNo X0.here hx rfl (hb hby d2_1) rfl ((if0 _ _).trans (flt hc1).1) k) ?_
    show ownGo p.tables e below T0 (mkF m 4 #[.val (.int x0)] []) _
    refine ownGo.st (fun _ k => XS.iloadN X0.here hx rfl (hb hby d2_4) rfl k) ?_
    show ownGo p.tables e below T0 (mkF m 5 #[.val (.int x0)] [(.int x0)]) _
    refine ownGo.st (X0.ldcInt hx hown (mvT hZ (own_at hw 5 rfl)) (g := (mkF m 5 #[.val (.int x0)] [(.int x0)])) rfl (hb hby d2_5)) ?_
    show ownGo p.tables e below T0 (mkF m 7 #[.val (.int x0)] [(.int (1114111 : Int32)), (.int x0)]) _
    by_cases hc7 : (1114111 : Int32) < x0
    · have hr11 := hr10.trans (if_pos hc7)
      refine ownGo.st (fun _ k => XS.icmpNo X0.here hx rfl (hb hby d2_7) rfl (tlt hc7).2.2.2 k) ?_
      show ownGo p.tables e below T0 (mkF m 10 #[.val (.int x0)] []) _
      exact b2_10 hx hZ hw hby hml hown hret hlk X0 e0 N0 x0 r hr11
    · have hr11 := hr10.trans (if_neg hc7)
      refine ownGo.st (fun _ k => XS.icmpYes X0.here hx rfl (pc0 := 7) (pc' := 12) rfl (hb hby d2_7) rfl (flt hc7).2.2.2 (by decide) (by decide) k) ?_
      show ownGo p.tables e below T0 (mkF m 12 #[.val (.int x0)] []) _
      refine ownGo.st (fun _ k => XS.iloadN X0.here hx rfl (hb hby d2_12) rfl k) ?_
      show ownGo p.tables e below T0 (mkF m 13 #[.val (.int x0)] [(.int x0)]) _
      refine ownGo.st (fun _ k => XS.bipush X0.here hx rfl (hb hby d2_13)  k) ?_
      show ownGo p.tables e below T0 (mkF m 15 #[.val (.int x0)] [(.int (32 : Int32)), (.int x0)]) _
      by_cases hc15 : x0 < (32 : Int32)
      · have hr12 := hr11.trans (if_pos hc15)
        refine ownGo.st (fun _ k => XS.icmpNo X0.here hx rfl (hb hby d2_15) rfl (tlt hc15).2.1 k) ?_
        show ownGo p.tables e below T0 (mkF m 18 #[.val (.int x0)] []) _
        refine ownGo.st (fun _ k => XS.iloadN X0.here hx rfl (hb hby d2_18) rfl k) ?_
        show ownGo p.tables e below T0 (mkF m 19 #[.val (.int x0)] [(.int x0)]) _
        refine ownGo.st (fun _ k => XS.bipush X0.here hx rfl (hb hby d2_19)  k) ?_
        show ownGo p.tables e below T0 (mkF m 21 #[.val (.int x0)] [(.int (9 : Int32)), (.int x0)]) _
        by_cases hc21 : x0 = (9 : Int32)
        · have hr13 := hr12.trans (if_pos hc21)
          refine ownGo.st (fun _ k => XS.icmpYes X0.here hx rfl (pc0 := 21) (pc' := 36) rfl (hb hby d2_21) rfl (teq hc21).1 (by decide) (by decide) k) ?_
          show ownGo p.tables e below T0 (mkF m 36 #[.val (.int x0)] []) _
          exact b2_36 hx hZ hw hby hml hown hret hlk X0 e0 N0 x0 r hr13
        · have hr13 := hr12.trans (if_neg hc21)
          refine ownGo.st (fun _ k => XS.icmpNo X0.here hx rfl (hb hby d2_21) rfl (feq hc21).1 k) ?_
          show ownGo p.tables e below T0 (mkF m 24 #[.val (.int x0)] []) _
          refine ownGo.st (fun _ k => XS.iloadN X0.here hx rfl (hb hby d2_24) rfl k) ?_
          show ownGo p.tables e below T0 (mkF m 25 #[.val (.int x0)] [(.int x0)]) _
          refine ownGo.st (fun _ k => XS.bipush X0.here hx rfl (hb hby d2_25)  k) ?_
          show ownGo p.tables e below T0 (mkF m 27 #[.val (.int x0)] [(.int (10 : Int32)), (.int x0)]) _
          by_cases hc27 : x0 = (10 : Int32)
          · have hr14 := hr13.trans (if_pos hc27)
            refine ownGo.st (fun _ k => XS.icmpYes X0.here hx rfl (pc0 := 27) (pc' := 36) rfl (hb hby d2_27) rfl (teq hc27).1 (by decide) (by decide) k) ?_
            show ownGo p.tables e below T0 (mkF m 36 #[.val (.int x0)] []) _
            exact b2_36 hx hZ hw hby hml hown hret hlk X0 e0 N0 x0 r hr14
          · have hr14 := hr13.trans (if_neg hc27)
            refine ownGo.st (fun _ k => XS.icmpNo X0.here hx rfl (hb hby d2_27) rfl (feq hc27).1 k) ?_
            show ownGo p.tables e below T0 (mkF m 30 #[.val (.int x0)] []) _
            refine ownGo.st (fun _ k => XS.iloadN X0.here hx rfl (hb hby d2_30) rfl k) ?_
            show ownGo p.tables e below T0 (mkF m 31 #[.val (.int x0)] [(.int x0)]) _
            refine ownGo.st (fun _ k => XS.bipush X0.here hx rfl (hb hby d2_31)  k) ?_
            show ownGo p.tables e below T0 (mkF m 33 #[.val (.int x0)] [(.int (13 : Int32)), (.int x0)]) _
            by_cases hc33 : x0 = (13 : Int32)
            · have hr15 := hr14.trans (if_pos hc33)
              refine ownGo.st (fun _ k => XS.icmpNo X0.here hx rfl (hb hby d2_33) rfl (teq hc33).2 k) ?_
              show ownGo p.tables e below T0 (mkF m 36 #[.val (.int x0)] []) _
              exact b2_36 hx hZ hw hby hml hown hret hlk X0 e0 N0 x0 r hr15
            · have hr15 := hr14.trans (if_neg hc33)
              refine ownGo.st (fun _ k => XS.icmpYes X0.here hx rfl (pc0 := 33) (pc' := 40) rfl (hb hby d2_33) rfl (feq hc33).2 (by decide) (by decide) k) ?_
              show ownGo p.tables e below T0 (mkF m 40 #[.val (.int x0)] []) _
              refine ownGo.st (fun _ k => XS.iconst X0.here hx rfl (hb hby d2_40)  k) ?_
              show ownGo p.tables e below T0 (mkF m 41 #[.val (.int x0)] [(.int (0 : Int32))]) _
              exact own_retZ X0 hx hlk hret (hb hby d2_41) (by first | exact Or.inl rfl | exact Or.inr rfl) ⟨congrArg (fun z => some (Value.int z)) hr15.symm, N0, e0⟩ (Nat.le_refl _) (Nat.le_refl _)
      · have hr12 := hr11.trans (if_neg hc15)
        refine ownGo.st (fun _ k => XS.icmpYes X0.here hx rfl (pc0 := 15) (pc' := 42) rfl (hb hby d2_15) rfl (flt hc15).2.1 (by decide) (by decide) k) ?_
        show ownGo p.tables e below T0 (mkF m 42 #[.val (.int x0)] []) _
        refine ownGo.st (fun _ k => XS.iloadN X0.here hx rfl (hb hby d2_42) rfl k) ?_
        show ownGo p.tables e below T0 (mkF m 43 #[.val (.int x0)] [(.int x0)]) _
        refine ownGo.st (X0.ldcInt hx hown (mvT hZ (own_at hw 21 rfl)) (g := (mkF m 43 #[.val (.int x0)] [(.int x0)])) rfl (hb hby d2_43)) ?_
        show ownGo p.tables e below T0 (mkF m 45 #[.val (.int x0)] [(.int (55296 : Int32)), (.int x0)]) _
        by_cases hc45 : x0 < (55296 : Int32)
        · have hr16 := hr12.trans (if_pos hc45)
          refine ownGo.st (fun _ k => XS.icmpYes X0.here hx rfl (pc0 := 45) (pc' := 56) rfl (hb hby d2_45) rfl (tlt hc45).1 (by decide) (by decide) k) ?_
          show ownGo p.tables e below T0 (mkF m 56 #[.val (.int x0)] []) _
          exact b2_56 hx hZ hw hby hml hown hret hlk X0 e0 N0 x0 r hr16
        · have hr16 := hr12.trans (if_neg hc45)
          refine ownGo.st (fun _ k => XS.icmpNo X0.here hx rfl (hb hby d2_45) rfl (flt hc45).1 k) ?_
          show ownGo p.tables e below T0 (mkF m 48 #[.val (.int x0)] []) _
          refine ownGo.st (fun _ k => XS.iloadN X0.here hx rfl (hb hby d2_48) rfl k) ?_
          show ownGo p.tables e below T0 (mkF m 49 #[.val (.int x0)] [(.int x0)]) _
          refine ownGo.st (X0.ldcInt hx hown (mvT hZ (own_at hw 8 rfl)) (g := (mkF m 49 #[.val (.int x0)] [(.int x0)])) rfl (hb hby d2_49)) ?_
          show ownGo p.tables e below T0 (mkF m 51 #[.val (.int x0)] [(.int (57343 : Int32)), (.int x0)]) _
          by_cases hc51 : (57343 : Int32) < x0
          · have hr19 := hr16.trans (if_pos hc51)
            refine ownGo.st (fun _ k => XS.icmpYes X0.here hx rfl (pc0 := 51) (pc' := 56) rfl (hb hby d2_51) rfl (tlt hc51).2.2.1 (by decide) (by decide) k) ?_
            show ownGo p.tables e below T0 (mkF m 56 #[.val (.int x0)] []) _
            exact b2_56 hx hZ hw hby hml hown hret hlk X0 e0 N0 x0 r hr19
          · have hr19 := hr16.trans (if_neg hc51)
            refine ownGo.st (fun _ k => XS.icmpNo X0.here hx rfl (hb hby d2_51) rfl (flt hc51).2.2.1 k) ?_
            show ownGo p.tables e below T0 (mkF m 54 #[.val (.int x0)] []) _
            refine ownGo.st (fun _ k => XS.iconst X0.here hx rfl (hb hby d2_54)  k) ?_
            show ownGo p.tables e below T0 (mkF m 55 #[.val (.int x0)] [(.int (0 : Int32))]) _
            exact own_retZ X0 hx hlk hret (hb hby d2_55) (by first | exact Or.inl rfl | exact Or.inr rfl) ⟨congrArg (fun z => some (Value.int z)) hr19.symm, N0, e0⟩ (Nat.le_refl _) (Nat.le_refl _)
abbrev F2 (x0 : Int32) : Int32 := f2_0 x0
theorem pn_2 : plainName "com/example/lexipath/lexipath/xml/XmlNamesIsCharacterPinLaw" = true := by first | (simp [plainName, overriddenIn]; done) | decide +kernel
theorem ef_2 (m : MethodId) (x0 : Int32) : entryFrame m #[(.int x0)] 1 = mkF m 0 #[.val (.int x0)] [] := by first | (simp [entryFrame, mkF, argsToLocals, Value.category]; done) | rfl
set_option maxRecDepth 65536 in
set_option maxHeartbeats 40000000 in
theorem rm2 (l : Launch) (Z : State) (a0 : Array Value) (hw : ∀ d ∈ tables_1, d.before a0 Z = true) (x0 : Int32) (h0 : Heap) (n0 : Nat)  :
    MetFree l (⟨"com/example/lexipath/lexipath/xml/XmlNamesIsCharacterPinLaw", "reference", "(I)Z"⟩ : MethodName) (head1 [Jvm.Cond.code (⟨"com/example/lexipath/lexipath/xml/XmlNamesIsCharacterPinLaw", "reference", "(I)Z"⟩ : MethodName) method_3_code 1 (some .boolean)] R2) (fun a U => a = #[(.int x0)] ∧ Z.Warmed39 U.vm ∧ U.heap = h0) (fun _ _ _ _ _ => True) (fun _ U o U' => ∃ v L, o = .returned v ∧ ownPure (.int (F2 x0)) h0 n0 v U'.heap L ∧ FrameEnd U o U' L R2.cells R2.slots) := by
  refine MetFree.of_bodySF (plainFor_of_name pn_2) hisR ?_
  intro p e s m args below meth c s₁ Bd hml0 hP hK
  obtain ⟨rfl, hZ, hh⟩ := hP
  have hx := Bd.exec
  have hby := Bd.bytes
  have hml : c.maxLocals = 1 := hml0
  have hown : s.vm.findClass "com/example/lexipath/lexipath/xml/XmlNamesIsCharacterPinLaw" = some m.cls := findClass_of_methodNamed Bd.named
  have hnm := (name_of_methodNamed Bd.named Bd.method).1
  have hret := Bd.returns
  have hlk : meth.locks = false := BodyLoose.notSynchronized Bd
  have X0 : Stand p l e R2 s m #[(.int x0)] below meth c s₁ [] 0 0 := Stand.of_body Bd
  have e0 : s₁.heap = h0 := by rw [← hh, Bd.state]; rfl
  have N0 := Fr.nil n0
  show ownGo p.tables e below s₁ (entryFrame m #[(.int x0)] 1) (ownDone s (ownPure (.int (F2 x0)) h0 n0) R2.cells R2.slots)
  rw [ef_2 m x0]
  exact b2_0 hx hZ hw hby hml hown hret hlk X0 e0 N0 x0 _ rfl
theorem own_p2_10 (x0 : Int32) : f2_10 x0 = if x0.toInt < x0.toInt then 1 else 0 := by
  have r1 := x0.toInt_lt
  have r2 := x0.le_toInt
  show (0 : Int32) = _
  simp only [Int32.lt_iff_toInt_lt, ← Int32.toInt_inj, show (0 : Int32).toInt = 0 from rfl]
  repeat' split
  all_goals first | rfl | (exfalso; omega)
theorem own_p2_36 (x0 : Int32) : f2_36 x0 = if (-2147483648 ≤ x0.toInt ∧ x0.toInt ≤ 2147483647) then 1 else 0 := by
  have r1 := x0.toInt_lt
  have r2 := x0.le_toInt
  show (1 : Int32) = _
  simp only [Int32.lt_iff_toInt_lt, ← Int32.toInt_inj, show (1 : Int32).toInt = 1 from rfl]
  repeat' split
  all_goals first | rfl | (exfalso; omega)
theorem own_p2_72 (x0 : Int32) : f2_72 x0 = if x0.toInt < x0.toInt then 1 else 0 := by
  have r1 := x0.toInt_lt
  have r2 := x0.le_toInt
  show (0 : Int32) = _
  simp only [Int32.lt_iff_toInt_lt, ← Int32.toInt_inj, show (0 : Int32).toInt = 0 from rfl]
  repeat' split
  all_goals first | rfl | (exfalso; omega)
theorem own_p2_56 (x0 : Int32) : f2_56 x0 = if (-2147483648 ≤ x0.toInt ∧ x0.toInt ≤ 65533) ∨ (65536 ≤ x0.toInt ∧ x0.toInt ≤ 2147483647) then 1 else 0 := by
  have r1 := x0.toInt_lt
  have r2 := x0.le_toInt
  show (if x0 = (65534 : Int32) then (f2_72 x0) else (if x0 = (65535 : Int32) then (f2_72 x0) else (1 : Int32))) = _
  rw [own_p2_72]
  simp only [Int32.lt_iff_toInt_lt, ← Int32.toInt_inj, show (1 : Int32).toInt = 1 from rfl, show (65534 : Int32).toInt = 65534 from rfl, show (65535 : Int32).toInt = 65535 from rfl]
  repeat' split
  all_goals first | rfl | (exfalso; omega)
theorem own_p2_0 (x0 : Int32) : f2_0 x0 = if (9 ≤ x0.toInt ∧ x0.toInt ≤ 10) ∨ (13 ≤ x0.toInt ∧ x0.toInt ≤ 13) ∨ (32 ≤ x0.toInt ∧ x0.toInt ≤ 55295) ∨ (57344 ≤ x0.toInt ∧ x0.toInt ≤ 65533) ∨ (65536 ≤ x0.toInt ∧ x0.toInt ≤ 1114111) then 1 else 0 := by
  have r1 := x0.toInt_lt
  have r2 := x0.le_toInt
  show (if x0 < (0 : Int32) then (f2_10 x0) else (if (1114111 : Int32) < x0 then (f2_10 x0) else (if x0 < (32 : Int32) then (if x0 = (9 : Int32) then (f2_36 x0) else (if x0 = (10 : Int32) then (f2_36 x0) else (if x0 = (13 : Int32) then (f2_36 x0) else (0 : Int32)))) else (if x0 < (55296 : Int32) then (f2_56 x0) else (if (57343 : Int32) < x0 then (f2_56 x0) else (0 : Int32)))))) = _
  rw [own_p2_10, own_p2_36, own_p2_56]
  simp only [Int32.lt_iff_toInt_lt, ← Int32.toInt_inj, show (0 : Int32).toInt = 0 from rfl, show (9 : Int32).toInt = 9 from rfl, show (10 : Int32).toInt = 10 from rfl, show (13 : Int32).toInt = 13 from rfl, show (32 : Int32).toInt = 32 from rfl, show (55296 : Int32).toInt = 55296 from rfl, show (57343 : Int32).toInt = 57343 from rfl, show (1114111 : Int32).toInt = 1114111 from rfl]
  repeat' split
  all_goals first | rfl | (exfalso; omega)
theorem own_same (c : Int32) : F1 c = F2 c := by
  rw [show F1 c = f1_0 c from rfl, show F2 c = f2_0 c from rfl, own_p1_0, own_p2_0]
theorem own_ix (x : Int32) : ∃ i, i < 14 ∧ (own_iushr x (1 : Int32)) % (14 : Int32) = Int32.ofNat i := by
  have q := c_iushr x 1 1 (by decide) (by decide)
  have r := x.toInt_lt
  have r' := x.le_toInt
  have q2 := c_irem (own_iushr x (1 : Int32)) (14 : Int32) 14 rfl
  refine own_idx _ 14 ?_ ?_
  all_goals (have q3 := q2.1 (by rw [q]; omega); rw [q3, q]; omega)
def Q0 (n0 : Nat) (v : Option Value) (h : Heap) (L : List Loc) : Prop := v = some (.int 1) ∧ Fr n0 L
theorem pd__I_Z : parseMethodDescriptor "(I)Z" = some ⟨[.int], some .boolean⟩ := by decide +kernel
set_option maxRecDepth 65536 in
set_option maxHeartbeats 40000000 in
theorem t0_115 {p : Program} {l : Launch} {e : Env} {s : State} {m : MethodId} {args : Array Value} {below : List Frame} {meth : Method} {c : Code} {T0 : State} {locs : List Loc} {Z : State} {a0 : Array Value} {h0 : Heap} {n0 : Nat} (hx : p.tables.exec = Jvm.exec) (hZ : Z.Warmed39 s.vm) (hw : ∀ d ∈ tables_1, d.before a0 Z = true) (hby : c.code = code) (hml : c.maxLocals = 6) (hown : s.vm.findClass "com/example/lexipath/lexipath/xml/XmlNamesIsCharacterPinLaw" = some m.cls) (hret : meth.sig.returnType = (some .boolean)) (hlk : meth.locks = false) {cells slots : Nat} (hcl : cells ≤ room_1.cells) (hsl : slots ≤ room_1.slots) (X0 : Stand p l e room_1 s m args below meth c T0 locs cells slots) (e0 : T0.heap = h0) (N0 : Fr n0 locs) (x0 x1 x2 x3 : Int32) (s4 s5 : Slot) :
    ownGo p.tables e below T0 (mkF m 115 #[.val (.int x0), .val (.int x1), .val (.int x2), .val (.int x3), s4, s5] []) (ownDone s (Q0 n0) room_1.cells room_1.slots) := by
  refine ownGo.st (fun _ k => XS.iloadN X0.here hx rfl (hb hby at_115) rfl k) ?_
  show ownGo p.tables e below T0 (mkF m 116 #[.val (.int x0), .val (.int x1), .val (.int x2), .val (.int x3), s4, s5] [(.int x3)]) _
  obtain ⟨_, T20, L20, X20, hQ20, st20⟩ := own_callS X0 hx hZ hown (own_at hw 10 rfl) (own_at hw 11 rfl) (own_at hw 12 rfl) (own_at hw 13 rfl) (by decide) (rm1 l Z a0 hw x3 h0 n0) 0 (by decide) (by decide) e0 hcl hsl (g := (mkF m 116 #[.val (.int x0), .val (.int x1), .val (.int x2), .val (.int x3), s4, s5] [(.int x3)])) rfl (by rw [hml]; rfl) (argsL := [(.int x3)]) (rest := []) (lenOf pd__I_Z rfl) rfl (by show 2 * 0 + _ ≤ _; exact Nat.le_of_eq rfl) (hb hby at_116)
  obtain ⟨rfl, N20q, e20⟩ := hQ20
  have N20 := Fr.app N0 N20q
  refine ownGo.st st20 ?_
  show ownGo p.tables e below T20 (mkF m 119 #[.val (.int x0), .val (.int x1), .val (.int x2), .val (.int x3), s4, s5] [(.int (F1 x3))]) _
  refine ownGo.st (fun _ k => XS.iloadN X20.here hx rfl (hb hby at_119) rfl k) ?_
  show ownGo p.tables e below T20 (mkF m 120 #[.val (.int x0), .val (.int x1), .val (.int x2), .val (.int x3), s4, s5] [(.int x3), (.int (F1 x3))]) _
  obtain ⟨_, T21, L21, X21, hQ21, st21⟩ := own_callS X20 hx hZ hown (own_at hw 14 rfl) (own_at hw 15 rfl) (own_at hw 16 rfl) (own_at hw 17 rfl) (by decide) (rm2 l Z a0 hw x3 h0 n0) 1 (by decide) (by decide) e20 hcl hsl (g := (mkF m 120 #[.val (.int x0), .val (.int x1), .val (.int x2), .val (.int x3), s4, s5] [(.int x3), (.int (F1 x3))])) rfl (by rw [hml]; rfl) (argsL := [(.int x3)]) (rest := [(.int (F1 x3))]) (lenOf pd__I_Z rfl) rfl (by show 2 * 0 + _ ≤ _; exact Nat.le_of_eq rfl) (hb hby at_120)
  obtain ⟨rfl, N21q, e21⟩ := hQ21
  have N21 := Fr.app N20 N21q
  refine ownGo.st st21 ?_
  show ownGo p.tables e below T21 (mkF m 123 #[.val (.int x0), .val (.int x1), .val (.int x2), .val (.int x3), s4, s5] [(.int (F2 x3)), (.int (F1 x3))]) _
  have hc22 : (F1 x3) = (F2 x3) := own_same x3
  refine ownGo.st (fun _ k => XS.icmpNo X21.here hx rfl (hb hby at_123) rfl (teq hc22).2 k) ?_
  show ownGo p.tables e below T21 (mkF m 126 #[.val (.int x0), .val (.int x1), .val (.int x2), .val (.int x3), s4, s5] []) _
  refine ownGo.st (fun _ k => XS.iconst X21.here hx rfl (hb hby at_126)  k) ?_
  show ownGo p.tables e below T21 (mkF m 127 #[.val (.int x0), .val (.int x1), .val (.int x2), .val (.int x3), s4, s5] [(.int (1 : Int32))]) _
  refine ownGo.st (fun _ k => XS.goto X21.here hx rfl (pc0 := 127) (pc' := 131) rfl (hb hby at_127) (by decide) (by decide) k) ?_
  show ownGo p.tables e below T21 (mkF m 131 #[.val (.int x0), .val (.int x1), .val (.int x2), .val (.int x3), s4, s5] [(.int (1 : Int32))]) _
  exact own_retZ X21 hx hlk hret (hb hby at_131) (Or.inr rfl) ⟨rfl, N21⟩ hcl hsl
theorem pn_0 : plainName "com/example/lexipath/lexipath/xml/XmlNamesIsCharacterPinLaw" = true := by first | (simp [plainName, overriddenIn]; done) | decide +kernel
theorem ef_0 (m : MethodId) (x0 : Int32) (x1 : Int32) (x2 : Int32) : entryFrame m #[(.int x0), (.int x1), (.int x2)] maxLocals = mkF m 0 #[.val (.int x0), .val (.int x1), .val (.int x2), .unset, .unset, .unset] [] := by first | (simp [entryFrame, mkF, argsToLocals, Value.category, maxLocals]; done) | rfl
set_option maxRecDepth 65536 in
set_option maxHeartbeats 40000000 in
theorem rm0 (l : Launch) (Z : State) (a0 : Array Value) (hw : ∀ d ∈ tables_1, d.before a0 Z = true) (x0 : Int32) (x1 : Int32) (x2 : Int32) (h0 : Heap) (n0 : Nat) (Z0 : n0 ≤ h0.size) :
    MetFree l x (head1 (Jvm.Cond.code x code maxLocals ret :: tables_1) room_1) (fun a U => a = #[(.int x0), (.int x1), (.int x2)] ∧ Z.Warmed39 U.vm ∧ U.heap = h0) (fun _ _ _ _ _ => True) (fun _ U o U' => ∃ v L, o = .returned v ∧ Q0 n0 v U'.heap L ∧ FrameEnd U o U' L room_1.cells room_1.slots) := by
  refine MetFree.of_bodySF (plainFor_of_name pn_0) hisR ?_
  intro p e s m args below meth c s₁ Bd hml0 hP hK
  obtain ⟨rfl, hZ, hh⟩ := hP
  have hx := Bd.exec
  have hby := Bd.bytes
  have hml : c.maxLocals = 6 := hml0
  have hown : s.vm.findClass "com/example/lexipath/lexipath/xml/XmlNamesIsCharacterPinLaw" = some m.cls := findClass_of_methodNamed Bd.named
  have hnm := (name_of_methodNamed Bd.named Bd.method).1
  have hret := Bd.returns
  have hlk : meth.locks = false := BodyLoose.notSynchronized Bd
  have X0 : Stand p l e room_1 s m #[(.int x0), (.int x1), (.int x2)] below meth c s₁ [] 0 0 := Stand.of_body Bd
  have e0 : s₁.heap = h0 := by rw [← hh, Bd.state]; rfl
  have N0 := Fr.nil n0
  show ownGo p.tables e below s₁ (entryFrame m #[(.int x0), (.int x1), (.int x2)] maxLocals) (ownDone s (Q0 n0) room_1.cells room_1.slots)
  rw [ef_0 m x0 x1 x2]
  show ownGo p.tables e below s₁ (mkF m 0 #[.val (.int x0), .val (.int x1), .val (.int x2), .unset, .unset, .unset] []) _
  refine ownGo.st (fun _ k => XS.iloadN X0.here hx rfl (hb hby at_0) rfl k) ?_
  show ownGo p.tables e below s₁ (mkF m 1 #[.val (.int x0), .val (.int x1), .val (.int x2), .unset, .unset, .unset] [(.int x1)]) _
  refine ownGo.st (fun _ k => XS.iconst X0.here hx rfl (hb hby at_1)  k) ?_
  show ownGo p.tables e below s₁ (mkF m 2 #[.val (.int x0), .val (.int x1), .val (.int x2), .unset, .unset, .unset] [(.int (1 : Int32)), (.int x1)]) _
  refine ownGo.st (fun _ k => XS.iand X0.here hx rfl (hb hby at_2) rfl k) ?_
  show ownGo p.tables e below s₁ (mkF m 3 #[.val (.int x0), .val (.int x1), .val (.int x2), .unset, .unset, .unset] [(.int (x1 &&& (1 : Int32)))]) _
  by_cases hc23 : (x1 &&& (1 : Int32)) = (0 : Int32)
  · refine ownGo.st (fun _ k => XS.ifNo X0.here hx rfl (hb hby at_3) rfl ((if0 _ _).trans (teq hc23).2) k) ?_
    show ownGo p.tables e below s₁ (mkF m 6 #[.val (.int x0), .val (.int x1), .val (.int x2), .unset, .unset, .unset] []) _
    refine ownGo.st (fun _ k => XS.iloadN X0.here hx rfl (hb hby at_6) rfl k) ?_
    show ownGo p.tables e below s₁ (mkF m 7 #[.val (.int x0), .val (.int x1), .val (.int x2), .unset, .unset, .unset] [(.int x0)]) _
    refine ownGo.st (fun _ k => XS.istoreN X0.here hx rfl (hb hby at_7) rfl (l' := #[.val (.int x0), .val (.int x1), .val (.int x2), .val (.int x0), .unset, .unset]) rfl k) ?_
    show ownGo p.tables e below s₁ (mkF m 8 #[.val (.int x0), .val (.int x1), .val (.int x2), .val (.int x0), .unset, .unset] []) _
    refine ownGo.st (fun _ k => XS.goto X0.here hx rfl (pc0 := 8) (pc' := 115) rfl (hb hby at_8) (by decide) (by decide) k) ?_
    show ownGo p.tables e below s₁ (mkF m 115 #[.val (.int x0), .val (.int x1), .val (.int x2), .val (.int x0), .unset, .unset] []) _
    exact t0_115 hx hZ hw hby hml hown hret hlk (by decide) (by decide) X0 e0 N0 x0 x1 x2 _ _ _
  · refine ownGo.st (fun _ k => XS.ifYes X0.here hx rfl (pc0 := 3) (pc' := 11) rfl (hb hby at_3) rfl ((if0 _ _).trans (feq hc23).2) (by decide) (by decide) k) ?_
    show ownGo p.tables e below s₁ (mkF m 11 #[.val (.int x0), .val (.int x1), .val (.int x2), .unset, .unset, .unset] []) _
    refine ownGo.st (fun _ k => XS.bipush X0.here hx rfl (hb hby at_11)  k) ?_
    show ownGo p.tables e below s₁ (mkF m 13 #[.val (.int x0), .val (.int x1), .val (.int x2), .unset, .unset, .unset] [(.int (14 : Int32))]) _
    obtain ⟨T24, h24, b24, X24, e24, E24, V_b24, Ex_b24, g_b24, st24⟩ := own_newarray (aty := .int) X0 hx hZ (own_at hw 0 rfl) e0 14 14 (by decide) (by decide) (by decide) (by decide) (ad := "[I") (by rfl) rfl (z := (14 : Int32)) rfl (g := (mkF m 13 #[.val (.int x0), .val (.int x1), .val (.int x2), .unset, .unset, .unset] [(.int (14 : Int32))])) rfl (hb hby at_13) rfl
    have gz_b24 : n0 ≤ b24 := Nat.le_trans Z0 (Nat.le_of_eq g_b24.symm)
    have Z24 : n0 ≤ h24.size := Nat.le_trans Z0 E24.1
    refine ownGo.st (st24) ?_
    show ownGo p.tables e below T24 (mkF m 15 #[.val (.int x0), .val (.int x1), .val (.int x2), .unset, .unset, .unset] [(.ref b24)]) _
    refine ownGo.st (fun _ k => XS.dup X24.here hx rfl (hb hby at_15) rfl rfl k) ?_
    show ownGo p.tables e below T24 (mkF m 16 #[.val (.int x0), .val (.int x1), .val (.int x2), .unset, .unset, .unset] [(.ref b24), (.ref b24)]) _
    refine ownGo.st (fun _ k => XS.iconst X24.here hx rfl (hb hby at_16)  k) ?_
    show ownGo p.tables e below T24 (mkF m 17 #[.val (.int x0), .val (.int x1), .val (.int x2), .unset, .unset, .unset] [(.int (0 : Int32)), (.ref b24), (.ref b24)]) _
    refine ownGo.st (fun _ k => XS.iconst X24.here hx rfl (hb hby at_17)  k) ?_
    show ownGo p.tables e below T24 (mkF m 18 #[.val (.int x0), .val (.int x1), .val (.int x2), .unset, .unset, .unset] [(.int (0 : Int32)), (.int (0 : Int32)), (.ref b24), (.ref b24)]) _
    obtain ⟨T25, h25, X25, e25, W25, V_b24_25, st25⟩ := own_iastore X24 hx hZ e24 V_b24 (i := 0) rfl (by decide) (g := (mkF m 18 #[.val (.int x0), .val (.int x1), .val (.int x2), .unset, .unset, .unset] [(.int (0 : Int32)), (.int (0 : Int32)), (.ref b24), (.ref b24)])) rfl rfl (hb hby at_18)
    have Ex_b24_26 := Ex_b24.wr W25
    have N25 := Fr.snoc X25 N0 gz_b24
    have Z25 : n0 ≤ h25.size := Nat.le_trans Z24 (Nat.le_of_eq W25.size.symm)
    refine ownGo.st (st25) ?_
    show ownGo p.tables e below T25 (mkF m 19 #[.val (.int x0), .val (.int x1), .val (.int x2), .unset, .unset, .unset] [(.ref b24)]) _
    refine ownGo.st (fun _ k => XS.dup X25.here hx rfl (hb hby at_19) rfl rfl k) ?_
    show ownGo p.tables e below T25 (mkF m 20 #[.val (.int x0), .val (.int x1), .val (.int x2), .unset, .unset, .unset] [(.ref b24), (.ref b24)]) _
    refine ownGo.st (fun _ k => XS.iconst X25.here hx rfl (hb hby at_20)  k) ?_
    show ownGo p.tables e below T25 (mkF m 21 #[.val (.int x0), .val (.int x1), .val (.int x2), .unset, .unset, .unset] [(.int (1 : Int32)), (.ref b24), (.ref b24)]) _
    refine ownGo.st (fun _ k => XS.bipush X25.here hx rfl (hb hby at_21)  k) ?_
    show ownGo p.tables e below T25 (mkF m 23 #[.val (.int x0), .val (.int x1), .val (.int x2), .unset, .unset, .unset] [(.int (9 : Int32)), (.int (1 : Int32)), (.ref b24), (.ref b24)]) _
    obtain ⟨T27, h27, X27, e27, W27, V_b24_27, st27⟩ := own_iastore X25 hx hZ e25 V_b24_25 (i := 1) rfl (by decide) (g := (mkF m 23 #[.val (.int x0), .val (.int x1), .val (.int x2), .unset, .unset, .unset] [(.int (9 : Int32)), (.int (1 : Int32)), (.ref b24), (.ref b24)])) rfl rfl (hb hby at_23)
    have Ex_b24_28 := Ex_b24_26.wr W27
    have N27 := Fr.snoc X27 N25 gz_b24
    have Z27 : n0 ≤ h27.size := Nat.le_trans Z25 (Nat.le_of_eq W27.size.symm)
    refine ownGo.st (st27) ?_
    show ownGo p.tables e below T27 (mkF m 24 #[.val (.int x0), .val (.int x1), .val (.int x2), .unset, .unset, .unset] [(.ref b24)]) _
    refine ownGo.st (fun _ k => XS.dup X27.here hx rfl (hb hby at_24) rfl rfl k) ?_
    show ownGo p.tables e below T27 (mkF m 25 #[.val (.int x0), .val (.int x1), .val (.int x2), .unset, .unset, .unset] [(.ref b24), (.ref b24)]) _
    refine ownGo.st (fun _ k => XS.iconst X27.here hx rfl (hb hby at_25)  k) ?_
    show ownGo p.tables e below T27 (mkF m 26 #[.val (.int x0), .val (.int x1), .val (.int x2), .unset, .unset, .unset] [(.int (2 : Int32)), (.ref b24), (.ref b24)]) _
    refine ownGo.st (fun _ k => XS.bipush X27.here hx rfl (hb hby at_26)  k) ?_
    show ownGo p.tables e below T27 (mkF m 28 #[.val (.int x0), .val (.int x1), .val (.int x2), .unset, .unset, .unset] [(.int (10 : Int32)), (.int (2 : Int32)), (.ref b24), (.ref b24)]) _
    obtain ⟨T29, h29, X29, e29, W29, V_b24_29, st29⟩ := own_iastore X27 hx hZ e27 V_b24_27 (i := 2) rfl (by decide) (g := (mkF m 28 #[.val (.int x0), .val (.int x1), .val (.int x2), .unset, .unset, .unset] [(.int (10 : Int32)), (.int (2 : Int32)), (.ref b24), (.ref b24)])) rfl rfl (hb hby at_28)
    have Ex_b24_30 := Ex_b24_28.wr W29
    have N29 := Fr.snoc X29 N27 gz_b24
    have Z29 : n0 ≤ h29.size := Nat.le_trans Z27 (Nat.le_of_eq W29.size.symm)
    refine ownGo.st (st29) ?_
    show ownGo p.tables e below T29 (mkF m 29 #[.val (.int x0), .val (.int x1), .val (.int x2), .unset, .unset, .unset] [(.ref b24)]) _
    refine ownGo.st (fun _ k => XS.dup X29.here hx rfl (hb hby at_29) rfl rfl k) ?_
    show ownGo p.tables e below T29 (mkF m 30 #[.val (.int x0), .val (.int x1), .val (.int x2), .unset, .unset, .unset] [(.ref b24), (.ref b24)]) _
    refine ownGo.st (fun _ k => XS.iconst X29.here hx rfl (hb hby at_30)  k) ?_
    show ownGo p.tables e below T29 (mkF m 31 #[.val (.int x0), .val (.int x1), .val (.int x2), .unset, .unset, .unset] [(.int (3 : Int32)), (.ref b24), (.ref b24)]) _
    refine ownGo.st (fun _ k => XS.bipush X29.here hx rfl (hb hby at_31)  k) ?_
    show ownGo p.tables e below T29 (mkF m 33 #[.val (.int x0), .val (.int x1), .val (.int x2), .unset, .unset, .unset] [(.int (13 : Int32)), (.int (3 : Int32)), (.ref b24), (.ref b24)]) _
    obtain ⟨T31, h31, X31, e31, W31, V_b24_31, st31⟩ := own_iastore X29 hx hZ e29 V_b24_29 (i := 3) rfl (by decide) (g := (mkF m 33 #[.val (.int x0), .val (.int x1), .val (.int x2), .unset, .unset, .unset] [(.int (13 : Int32)), (.int (3 : Int32)), (.ref b24), (.ref b24)])) rfl rfl (hb hby at_33)
    have Ex_b24_32 := Ex_b24_30.wr W31
    have N31 := Fr.snoc X31 N29 gz_b24
    have Z31 : n0 ≤ h31.size := Nat.le_trans Z29 (Nat.le_of_eq W31.size.symm)
    refine ownGo.st (st31) ?_
    show ownGo p.tables e below T31 (mkF m 34 #[.val (.int x0), .val (.int x1), .val (.int x2), .unset, .unset, .unset] [(.ref b24)]) _
    refine ownGo.st (fun _ k => XS.dup X31.here hx rfl (hb hby at_34) rfl rfl k) ?_
    show ownGo p.tables e below T31 (mkF m 35 #[.val (.int x0), .val (.int x1), .val (.int x2), .unset, .unset, .unset] [(.ref b24), (.ref b24)]) _
    refine ownGo.st (fun _ k => XS.iconst X31.here hx rfl (hb hby at_35)  k) ?_
    show ownGo p.tables e below T31 (mkF m 36 #[.val (.int x0), .val (.int x1), .val (.int x2), .unset, .unset, .unset] [(.int (4 : Int32)), (.ref b24), (.ref b24)]) _
    refine ownGo.st (fun _ k => XS.bipush X31.here hx rfl (hb hby at_36)  k) ?_
    show ownGo p.tables e below T31 (mkF m 38 #[.val (.int x0), .val (.int x1), .val (.int x2), .unset, .unset, .unset] [(.int (32 : Int32)), (.int (4 : Int32)), (.ref b24), (.ref b24)]) _
    obtain ⟨T33, h33, X33, e33, W33, V_b24_33, st33⟩ := own_iastore X31 hx hZ e31 V_b24_31 (i := 4) rfl (by decide) (g := (mkF m 38 #[.val (.int x0), .val (.int x1), .val (.int x2), .unset, .unset, .unset] [(.int (32 : Int32)), (.int (4 : Int32)), (.ref b24), (.ref b24)])) rfl rfl (hb hby at_38)
    have Ex_b24_34 := Ex_b24_32.wr W33
    have N33 := Fr.snoc X33 N31 gz_b24
    have Z33 : n0 ≤ h33.size := Nat.le_trans Z31 (Nat.le_of_eq W33.size.symm)
    refine ownGo.st (st33) ?_
    show ownGo p.tables e below T33 (mkF m 39 #[.val (.int x0), .val (.int x1), .val (.int x2), .unset, .unset, .unset] [(.ref b24)]) _
    refine ownGo.st (fun _ k => XS.dup X33.here hx rfl (hb hby at_39) rfl rfl k) ?_
    show ownGo p.tables e below T33 (mkF m 40 #[.val (.int x0), .val (.int x1), .val (.int x2), .unset, .unset, .unset] [(.ref b24), (.ref b24)]) _
    refine ownGo.st (fun _ k => XS.iconst X33.here hx rfl (hb hby at_40)  k) ?_
    show ownGo p.tables e below T33 (mkF m 41 #[.val (.int x0), .val (.int x1), .val (.int x2), .unset, .unset, .unset] [(.int (5 : Int32)), (.ref b24), (.ref b24)]) _
    refine ownGo.st (X33.ldcInt hx hown (mvT hZ (own_at hw 1 rfl)) (g := (mkF m 41 #[.val (.int x0), .val (.int x1), .val (.int x2), .unset, .unset, .unset] [(.int (5 : Int32)), (.ref b24), (.ref b24)])) rfl (hb hby at_41)) ?_
    show ownGo p.tables e below T33 (mkF m 43 #[.val (.int x0), .val (.int x1), .val (.int x2), .unset, .unset, .unset] [(.int (55295 : Int32)), (.int (5 : Int32)), (.ref b24), (.ref b24)]) _
    obtain ⟨T35, h35, X35, e35, W35, V_b24_35, st35⟩ := own_iastore X33 hx hZ e33 V_b24_33 (i := 5) rfl (by decide) (g := (mkF m 43 #[.val (.int x0), .val (.int x1), .val (.int x2), .unset, .unset, .unset] [(.int (55295 : Int32)), (.int (5 : Int32)), (.ref b24), (.ref b24)])) rfl rfl (hb hby at_43)
    have Ex_b24_36 := Ex_b24_34.wr W35
    have N35 := Fr.snoc X35 N33 gz_b24
    have Z35 : n0 ≤ h35.size := Nat.le_trans Z33 (Nat.le_of_eq W35.size.symm)
    refine ownGo.st (st35) ?_
    show ownGo p.tables e below T35 (mkF m 44 #[.val (.int x0), .val (.int x1), .val (.int x2), .unset, .unset, .unset] [(.ref b24)]) _
    refine ownGo.st (fun _ k => XS.dup X35.here hx rfl (hb hby at_44) rfl rfl k) ?_
    show ownGo p.tables e below T35 (mkF m 45 #[.val (.int x0), .val (.int x1), .val (.int x2), .unset, .unset, .unset] [(.ref b24), (.ref b24)]) _
    refine ownGo.st (fun _ k => XS.bipush X35.here hx rfl (hb hby at_45)  k) ?_
    show ownGo p.tables e below T35 (mkF m 47 #[.val (.int x0), .val (.int x1), .val (.int x2), .unset, .unset, .unset] [(.int (6 : Int32)), (.ref b24), (.ref b24)]) _
    refine ownGo.st (X35.ldcInt hx hown (mvT hZ (own_at hw 2 rfl)) (g := (mkF m 47 #[.val (.int x0), .val (.int x1), .val (.int x2), .unset, .unset, .unset] [(.int (6 : Int32)), (.ref b24), (.ref b24)])) rfl (hb hby at_47)) ?_
    show ownGo p.tables e below T35 (mkF m 49 #[.val (.int x0), .val (.int x1), .val (.int x2), .unset, .unset, .unset] [(.int (57344 : Int32)), (.int (6 : Int32)), (.ref b24), (.ref b24)]) _
    obtain ⟨T37, h37, X37, e37, W37, V_b24_37, st37⟩ := own_iastore X35 hx hZ e35 V_b24_35 (i := 6) rfl (by decide) (g := (mkF m 49 #[.val (.int x0), .val (.int x1), .val (.int x2), .unset, .unset, .unset] [(.int (57344 : Int32)), (.int (6 : Int32)), (.ref b24), (.ref b24)])) rfl rfl (hb hby at_49)
    have Ex_b24_38 := Ex_b24_36.wr W37
    have N37 := Fr.snoc X37 N35 gz_b24
    have Z37 : n0 ≤ h37.size := Nat.le_trans Z35 (Nat.le_of_eq W37.size.symm)
    refine ownGo.st (st37) ?_
    show ownGo p.tables e below T37 (mkF m 50 #[.val (.int x0), .val (.int x1), .val (.int x2), .unset, .unset, .unset] [(.ref b24)]) _
    refine ownGo.st (fun _ k => XS.dup X37.here hx rfl (hb hby at_50) rfl rfl k) ?_
    show ownGo p.tables e below T37 (mkF m 51 #[.val (.int x0), .val (.int x1), .val (.int x2), .unset, .unset, .unset] [(.ref b24), (.ref b24)]) _
    refine ownGo.st (fun _ k => XS.bipush X37.here hx rfl (hb hby at_51)  k) ?_
    show ownGo p.tables e below T37 (mkF m 53 #[.val (.int x0), .val (.int x1), .val (.int x2), .unset, .unset, .unset] [(.int (7 : Int32)), (.ref b24), (.ref b24)]) _
    refine ownGo.st (X37.ldcInt hx hown (mvT hZ (own_at hw 3 rfl)) (g := (mkF m 53 #[.val (.int x0), .val (.int x1), .val (.int x2), .unset, .unset, .unset] [(.int (7 : Int32)), (.ref b24), (.ref b24)])) rfl (hb hby at_53)) ?_
    show ownGo p.tables e below T37 (mkF m 55 #[.val (.int x0), .val (.int x1), .val (.int x2), .unset, .unset, .unset] [(.int (65533 : Int32)), (.int (7 : Int32)), (.ref b24), (.ref b24)]) _
    obtain ⟨T39, h39, X39, e39, W39, V_b24_39, st39⟩ := own_iastore X37 hx hZ e37 V_b24_37 (i := 7) rfl (by decide) (g := (mkF m 55 #[.val (.int x0), .val (.int x1), .val (.int x2), .unset, .unset, .unset] [(.int (65533 : Int32)), (.int (7 : Int32)), (.ref b24), (.ref b24)])) rfl rfl (hb hby at_55)
    have Ex_b24_40 := Ex_b24_38.wr W39
    have N39 := Fr.snoc X39 N37 gz_b24
    have Z39 : n0 ≤ h39.size := Nat.le_trans Z37 (Nat.le_of_eq W39.size.symm)
    refine ownGo.st (st39) ?_
    show ownGo p.tables e below T39 (mkF m 56 #[.val (.int x0), .val (.int x1), .val (.int x2), .unset, .unset, .unset] [(.ref b24)]) _
    refine ownGo.st (fun _ k => XS.dup X39.here hx rfl (hb hby at_56) rfl rfl k) ?_
    show ownGo p.tables e below T39 (mkF m 57 #[.val (.int x0), .val (.int x1), .val (.int x2), .unset, .unset, .unset] [(.ref b24), (.ref b24)]) _
    refine ownGo.st (fun _ k => XS.bipush X39.here hx rfl (hb hby at_57)  k) ?_
    show ownGo p.tables e below T39 (mkF m 59 #[.val (.int x0), .val (.int x1), .val (.int x2), .unset, .unset, .unset] [(.int (8 : Int32)), (.ref b24), (.ref b24)]) _
    refine ownGo.st (X39.ldcInt hx hown (mvT hZ (own_at hw 4 rfl)) (g := (mkF m 59 #[.val (.int x0), .val (.int x1), .val (.int x2), .unset, .unset, .unset] [(.int (8 : Int32)), (.ref b24), (.ref b24)])) rfl (hb hby at_59)) ?_
    show ownGo p.tables e below T39 (mkF m 61 #[.val (.int x0), .val (.int x1), .val (.int x2), .unset, .unset, .unset] [(.int (65536 : Int32)), (.int (8 : Int32)), (.ref b24), (.ref b24)]) _
    obtain ⟨T41, h41, X41, e41, W41, V_b24_41, st41⟩ := own_iastore X39 hx hZ e39 V_b24_39 (i := 8) rfl (by decide) (g := (mkF m 61 #[.val (.int x0), .val (.int x1), .val (.int x2), .unset, .unset, .unset] [(.int (65536 : Int32)), (.int (8 : Int32)), (.ref b24), (.ref b24)])) rfl rfl (hb hby at_61)
    have Ex_b24_42 := Ex_b24_40.wr W41
    have N41 := Fr.snoc X41 N39 gz_b24
    have Z41 : n0 ≤ h41.size := Nat.le_trans Z39 (Nat.le_of_eq W41.size.symm)
    refine ownGo.st (st41) ?_
    show ownGo p.tables e below T41 (mkF m 62 #[.val (.int x0), .val (.int x1), .val (.int x2), .unset, .unset, .unset] [(.ref b24)]) _
    refine ownGo.st (fun _ k => XS.dup X41.here hx rfl (hb hby at_62) rfl rfl k) ?_
    show ownGo p.tables e below T41 (mkF m 63 #[.val (.int x0), .val (.int x1), .val (.int x2), .unset, .unset, .unset] [(.ref b24), (.ref b24)]) _
    refine ownGo.st (fun _ k => XS.bipush X41.here hx rfl (hb hby at_63)  k) ?_
    show ownGo p.tables e below T41 (mkF m 65 #[.val (.int x0), .val (.int x1), .val (.int x2), .unset, .unset, .unset] [(.int (9 : Int32)), (.ref b24), (.ref b24)]) _
    refine ownGo.st (X41.ldcInt hx hown (mvT hZ (own_at hw 5 rfl)) (g := (mkF m 65 #[.val (.int x0), .val (.int x1), .val (.int x2), .unset, .unset, .unset] [(.int (9 : Int32)), (.ref b24), (.ref b24)])) rfl (hb hby at_65)) ?_
    show ownGo p.tables e below T41 (mkF m 67 #[.val (.int x0), .val (.int x1), .val (.int x2), .unset, .unset, .unset] [(.int (1114111 : Int32)), (.int (9 : Int32)), (.ref b24), (.ref b24)]) _
    obtain ⟨T43, h43, X43, e43, W43, V_b24_43, st43⟩ := own_iastore X41 hx hZ e41 V_b24_41 (i := 9) rfl (by decide) (g := (mkF m 67 #[.val (.int x0), .val (.int x1), .val (.int x2), .unset, .unset, .unset] [(.int (1114111 : Int32)), (.int (9 : Int32)), (.ref b24), (.ref b24)])) rfl rfl (hb hby at_67)
    have Ex_b24_44 := Ex_b24_42.wr W43
    have N43 := Fr.snoc X43 N41 gz_b24
    have Z43 : n0 ≤ h43.size := Nat.le_trans Z41 (Nat.le_of_eq W43.size.symm)
    refine ownGo.st (st43) ?_
    show ownGo p.tables e below T43 (mkF m 68 #[.val (.int x0), .val (.int x1), .val (.int x2), .unset, .unset, .unset] [(.ref b24)]) _
    refine ownGo.st (fun _ k => XS.dup X43.here hx rfl (hb hby at_68) rfl rfl k) ?_
    show ownGo p.tables e below T43 (mkF m 69 #[.val (.int x0), .val (.int x1), .val (.int x2), .unset, .unset, .unset] [(.ref b24), (.ref b24)]) _
    refine ownGo.st (fun _ k => XS.bipush X43.here hx rfl (hb hby at_69)  k) ?_
    show ownGo p.tables e below T43 (mkF m 71 #[.val (.int x0), .val (.int x1), .val (.int x2), .unset, .unset, .unset] [(.int (10 : Int32)), (.ref b24), (.ref b24)]) _
    refine ownGo.st (X43.ldcInt hx hown (mvT hZ (own_at hw 6 rfl)) (g := (mkF m 71 #[.val (.int x0), .val (.int x1), .val (.int x2), .unset, .unset, .unset] [(.int (10 : Int32)), (.ref b24), (.ref b24)])) rfl (hb hby at_71)) ?_
    show ownGo p.tables e below T43 (mkF m 73 #[.val (.int x0), .val (.int x1), .val (.int x2), .unset, .unset, .unset] [(.int (-2147483648 : Int32)), (.int (10 : Int32)), (.ref b24), (.ref b24)]) _
    obtain ⟨T45, h45, X45, e45, W45, V_b24_45, st45⟩ := own_iastore X43 hx hZ e43 V_b24_43 (i := 10) rfl (by decide) (g := (mkF m 73 #[.val (.int x0), .val (.int x1), .val (.int x2), .unset, .unset, .unset] [(.int (-2147483648 : Int32)), (.int (10 : Int32)), (.ref b24), (.ref b24)])) rfl rfl (hb hby at_73)
    have Ex_b24_46 := Ex_b24_44.wr W45
    have N45 := Fr.snoc X45 N43 gz_b24
    have Z45 : n0 ≤ h45.size := Nat.le_trans Z43 (Nat.le_of_eq W45.size.symm)
    refine ownGo.st (st45) ?_
    show ownGo p.tables e below T45 (mkF m 74 #[.val (.int x0), .val (.int x1), .val (.int x2), .unset, .unset, .unset] [(.ref b24)]) _
    refine ownGo.st (fun _ k => XS.dup X45.here hx rfl (hb hby at_74) rfl rfl k) ?_
    show ownGo p.tables e below T45 (mkF m 75 #[.val (.int x0), .val (.int x1), .val (.int x2), .unset, .unset, .unset] [(.ref b24), (.ref b24)]) _
    refine ownGo.st (fun _ k => XS.bipush X45.here hx rfl (hb hby at_75)  k) ?_
    show ownGo p.tables e below T45 (mkF m 77 #[.val (.int x0), .val (.int x1), .val (.int x2), .unset, .unset, .unset] [(.int (11 : Int32)), (.ref b24), (.ref b24)]) _
    refine ownGo.st (X45.ldcInt hx hown (mvT hZ (own_at hw 7 rfl)) (g := (mkF m 77 #[.val (.int x0), .val (.int x1), .val (.int x2), .unset, .unset, .unset] [(.int (11 : Int32)), (.ref b24), (.ref b24)])) rfl (hb hby at_77)) ?_
    show ownGo p.tables e below T45 (mkF m 79 #[.val (.int x0), .val (.int x1), .val (.int x2), .unset, .unset, .unset] [(.int (2147483647 : Int32)), (.int (11 : Int32)), (.ref b24), (.ref b24)]) _
    obtain ⟨T47, h47, X47, e47, W47, V_b24_47, st47⟩ := own_iastore X45 hx hZ e45 V_b24_45 (i := 11) rfl (by decide) (g := (mkF m 79 #[.val (.int x0), .val (.int x1), .val (.int x2), .unset, .unset, .unset] [(.int (2147483647 : Int32)), (.int (11 : Int32)), (.ref b24), (.ref b24)])) rfl rfl (hb hby at_79)
    have Ex_b24_48 := Ex_b24_46.wr W47
    have N47 := Fr.snoc X47 N45 gz_b24
    have Z47 : n0 ≤ h47.size := Nat.le_trans Z45 (Nat.le_of_eq W47.size.symm)
    refine ownGo.st (st47) ?_
    show ownGo p.tables e below T47 (mkF m 80 #[.val (.int x0), .val (.int x1), .val (.int x2), .unset, .unset, .unset] [(.ref b24)]) _
    refine ownGo.st (fun _ k => XS.dup X47.here hx rfl (hb hby at_80) rfl rfl k) ?_
    show ownGo p.tables e below T47 (mkF m 81 #[.val (.int x0), .val (.int x1), .val (.int x2), .unset, .unset, .unset] [(.ref b24), (.ref b24)]) _
    refine ownGo.st (fun _ k => XS.bipush X47.here hx rfl (hb hby at_81)  k) ?_
    show ownGo p.tables e below T47 (mkF m 83 #[.val (.int x0), .val (.int x1), .val (.int x2), .unset, .unset, .unset] [(.int (12 : Int32)), (.ref b24), (.ref b24)]) _
    refine ownGo.st (X47.ldcInt hx hown (mvT hZ (own_at hw 8 rfl)) (g := (mkF m 83 #[.val (.int x0), .val (.int x1), .val (.int x2), .unset, .unset, .unset] [(.int (12 : Int32)), (.ref b24), (.ref b24)])) rfl (hb hby at_83)) ?_
    show ownGo p.tables e below T47 (mkF m 85 #[.val (.int x0), .val (.int x1), .val (.int x2), .unset, .unset, .unset] [(.int (57343 : Int32)), (.int (12 : Int32)), (.ref b24), (.ref b24)]) _
    obtain ⟨T49, h49, X49, e49, W49, V_b24_49, st49⟩ := own_iastore X47 hx hZ e47 V_b24_47 (i := 12) rfl (by decide) (g := (mkF m 85 #[.val (.int x0), .val (.int x1), .val (.int x2), .unset, .unset, .unset] [(.int (57343 : Int32)), (.int (12 : Int32)), (.ref b24), (.ref b24)])) rfl rfl (hb hby at_85)
    have Ex_b24_50 := Ex_b24_48.wr W49
    have N49 := Fr.snoc X49 N47 gz_b24
    have Z49 : n0 ≤ h49.size := Nat.le_trans Z47 (Nat.le_of_eq W49.size.symm)
    refine ownGo.st (st49) ?_
    show ownGo p.tables e below T49 (mkF m 86 #[.val (.int x0), .val (.int x1), .val (.int x2), .unset, .unset, .unset] [(.ref b24)]) _
    refine ownGo.st (fun _ k => XS.dup X49.here hx rfl (hb hby at_86) rfl rfl k) ?_
    show ownGo p.tables e below T49 (mkF m 87 #[.val (.int x0), .val (.int x1), .val (.int x2), .unset, .unset, .unset] [(.ref b24), (.ref b24)]) _
    refine ownGo.st (fun _ k => XS.bipush X49.here hx rfl (hb hby at_87)  k) ?_
    show ownGo p.tables e below T49 (mkF m 89 #[.val (.int x0), .val (.int x1), .val (.int x2), .unset, .unset, .unset] [(.int (13 : Int32)), (.ref b24), (.ref b24)]) _
    refine ownGo.st (X49.ldcInt hx hown (mvT hZ (own_at hw 9 rfl)) (g := (mkF m 89 #[.val (.int x0), .val (.int x1), .val (.int x2), .unset, .unset, .unset] [(.int (13 : Int32)), (.ref b24), (.ref b24)])) rfl (hb hby at_89)) ?_
    show ownGo p.tables e below T49 (mkF m 91 #[.val (.int x0), .val (.int x1), .val (.int x2), .unset, .unset, .unset] [(.int (65535 : Int32)), (.int (13 : Int32)), (.ref b24), (.ref b24)]) _
    obtain ⟨T51, h51, X51, e51, W51, V_b24_51, st51⟩ := own_iastore X49 hx hZ e49 V_b24_49 (i := 13) rfl (by decide) (g := (mkF m 91 #[.val (.int x0), .val (.int x1), .val (.int x2), .unset, .unset, .unset] [(.int (65535 : Int32)), (.int (13 : Int32)), (.ref b24), (.ref b24)])) rfl rfl (hb hby at_91)
    have Ex_b24_52 := Ex_b24_50.wr W51
    have N51 := Fr.snoc X51 N49 gz_b24
    have Z51 : n0 ≤ h51.size := Nat.le_trans Z49 (Nat.le_of_eq W51.size.symm)
    refine ownGo.st (st51) ?_
    show ownGo p.tables e below T51 (mkF m 92 #[.val (.int x0), .val (.int x1), .val (.int x2), .unset, .unset, .unset] [(.ref b24)]) _
    refine ownGo.st (fun _ k => XS.astore X51.here hx rfl (hb hby at_92) rfl rfl (l' := #[.val (.int x0), .val (.int x1), .val (.int x2), .unset, .val (.ref b24), .unset]) rfl k) ?_
    show ownGo p.tables e below T51 (mkF m 94 #[.val (.int x0), .val (.int x1), .val (.int x2), .unset, .val (.ref b24), .unset] []) _
    refine ownGo.st (fun _ k => XS.iloadN X51.here hx rfl (hb hby at_94) rfl k) ?_
    show ownGo p.tables e below T51 (mkF m 95 #[.val (.int x0), .val (.int x1), .val (.int x2), .unset, .val (.ref b24), .unset] [(.int x1)]) _
    refine ownGo.st (fun _ k => XS.iconst X51.here hx rfl (hb hby at_95)  k) ?_
    show ownGo p.tables e below T51 (mkF m 96 #[.val (.int x0), .val (.int x1), .val (.int x2), .unset, .val (.ref b24), .unset] [(.int (1 : Int32)), (.int x1)]) _
    refine ownGo.st (fun _ k => XS.iushr X51.here hx rfl (hb hby at_96) rfl k) ?_
    show ownGo p.tables e below T51 (mkF m 97 #[.val (.int x0), .val (.int x1), .val (.int x2), .unset, .val (.ref b24), .unset] [(.int (own_iushr x1 (1 : Int32)))]) _
    refine ownGo.st (fun _ k => XS.aload X51.here hx rfl (hb hby at_97) rfl rfl k) ?_
    show ownGo p.tables e below T51 (mkF m 99 #[.val (.int x0), .val (.int x1), .val (.int x2), .unset, .val (.ref b24), .unset] [(.ref b24), (.int (own_iushr x1 (1 : Int32)))]) _
    refine ownGo.st (own_alen X51 hx hZ e51 V_b24_51 (g := (mkF m 99 #[.val (.int x0), .val (.int x1), .val (.int x2), .unset, .val (.ref b24), .unset] [(.ref b24), (.int (own_iushr x1 (1 : Int32)))])) rfl rfl (hb hby at_99)) ?_
    show ownGo p.tables e below T51 (mkF m 100 #[.val (.int x0), .val (.int x1), .val (.int x2), .unset, .val (.ref b24), .unset] [(.int (14 : Int32)), (.int (own_iushr x1 (1 : Int32)))]) _
    refine ownGo.st (fun _ k => iremM X51 hx rfl (hb hby at_100) rfl (by decide) k) ?_
    show ownGo p.tables e below T51 (mkF m 101 #[.val (.int x0), .val (.int x1), .val (.int x2), .unset, .val (.ref b24), .unset] [(.int ((own_iushr x1 (1 : Int32)) % (14 : Int32)))]) _
    refine ownGo.st (fun _ k => XS.istore X51.here hx rfl (hb hby at_101) rfl (l' := #[.val (.int x0), .val (.int x1), .val (.int x2), .unset, .val (.ref b24), .val (.int ((own_iushr x1 (1 : Int32)) % (14 : Int32)))]) rfl k) ?_
    show ownGo p.tables e below T51 (mkF m 103 #[.val (.int x0), .val (.int x1), .val (.int x2), .unset, .val (.ref b24), .val (.int ((own_iushr x1 (1 : Int32)) % (14 : Int32)))] []) _
    refine ownGo.st (fun _ k => XS.aload X51.here hx rfl (hb hby at_103) rfl rfl k) ?_
    show ownGo p.tables e below T51 (mkF m 105 #[.val (.int x0), .val (.int x1), .val (.int x2), .unset, .val (.ref b24), .val (.int ((own_iushr x1 (1 : Int32)) % (14 : Int32)))] [(.ref b24)]) _
    refine ownGo.st (fun _ k => XS.iload X51.here hx rfl (hb hby at_105) rfl k) ?_
    show ownGo p.tables e below T51 (mkF m 107 #[.val (.int x0), .val (.int x1), .val (.int x2), .unset, .val (.ref b24), .val (.int ((own_iushr x1 (1 : Int32)) % (14 : Int32)))] [(.int ((own_iushr x1 (1 : Int32)) % (14 : Int32))), (.ref b24)]) _
    obtain ⟨ix, hix, ej⟩ := own_ix x1
    obtain ⟨v, hv⟩ := V_b24_51.int hix
    refine ownGo.st (own_iaload X51 hx hZ e51 V_b24_51 (i := ix) (v := v) ej hix hv (g := (mkF m 107 #[.val (.int x0), .val (.int x1), .val (.int x2), .unset, .val (.ref b24), .val (.int ((own_iushr x1 (1 : Int32)) % (14 : Int32)))] [(.int ((own_iushr x1 (1 : Int32)) % (14 : Int32))), (.ref b24)])) rfl rfl (hb hby at_107)) ?_
    show ownGo p.tables e below T51 (mkF m 108 #[.val (.int x0), .val (.int x1), .val (.int x2), .unset, .val (.ref b24), .val (.int ((own_iushr x1 (1 : Int32)) % (14 : Int32)))] [(.int v)]) _
    refine ownGo.st (fun _ k => XS.iloadN X51.here hx rfl (hb hby at_108) rfl k) ?_
    show ownGo p.tables e below T51 (mkF m 109 #[.val (.int x0), .val (.int x1), .val (.int x2), .unset, .val (.ref b24), .val (.int ((own_iushr x1 (1 : Int32)) % (14 : Int32)))] [(.int x2), (.int v)]) _
    refine ownGo.st (fun _ k => XS.iconst X51.here hx rfl (hb hby at_109)  k) ?_
    show ownGo p.tables e below T51 (mkF m 110 #[.val (.int x0), .val (.int x1), .val (.int x2), .unset, .val (.ref b24), .val (.int ((own_iushr x1 (1 : Int32)) % (14 : Int32)))] [(.int (3 : Int32)), (.int x2), (.int v)]) _
    refine ownGo.st (fun _ k => XS.iand X51.here hx rfl (hb hby at_110) rfl k) ?_
    show ownGo p.tables e below T51 (mkF m 111 #[.val (.int x0), .val (.int x1), .val (.int x2), .unset, .val (.ref b24), .val (.int ((own_iushr x1 (1 : Int32)) % (14 : Int32)))] [(.int (x2 &&& (3 : Int32))), (.int v)]) _
    refine ownGo.st (fun _ k => XS.iconst X51.here hx rfl (hb hby at_111)  k) ?_
    show ownGo p.tables e below T51 (mkF m 112 #[.val (.int x0), .val (.int x1), .val (.int x2), .unset, .val (.ref b24), .val (.int ((own_iushr x1 (1 : Int32)) % (14 : Int32)))] [(.int (1 : Int32)), (.int (x2 &&& (3 : Int32))), (.int v)]) _
    refine ownGo.st (fun _ k => XS.isub X51.here hx rfl (hb hby at_112) rfl k) ?_
    show ownGo p.tables e below T51 (mkF m 113 #[.val (.int x0), .val (.int x1), .val (.int x2), .unset, .val (.ref b24), .val (.int ((own_iushr x1 (1 : Int32)) % (14 : Int32)))] [(.int ((x2 &&& (3 : Int32)) - (1 : Int32))), (.int v)]) _
    refine ownGo.st (fun _ k => XS.iadd X51.here hx rfl (hb hby at_113) rfl k) ?_
    show ownGo p.tables e below T51 (mkF m 114 #[.val (.int x0), .val (.int x1), .val (.int x2), .unset, .val (.ref b24), .val (.int ((own_iushr x1 (1 : Int32)) % (14 : Int32)))] [(.int (v + ((x2 &&& (3 : Int32)) - (1 : Int32))))]) _
    refine ownGo.st (fun _ k => XS.istoreN X51.here hx rfl (hb hby at_114) rfl (l' := #[.val (.int x0), .val (.int x1), .val (.int x2), .val (.int (v + ((x2 &&& (3 : Int32)) - (1 : Int32)))), .val (.ref b24), .val (.int ((own_iushr x1 (1 : Int32)) % (14 : Int32)))]) rfl k) ?_
    show ownGo p.tables e below T51 (mkF m 115 #[.val (.int x0), .val (.int x1), .val (.int x2), .val (.int (v + ((x2 &&& (3 : Int32)) - (1 : Int32)))), .val (.ref b24), .val (.int ((own_iushr x1 (1 : Int32)) % (14 : Int32)))] []) _
    exact t0_115 hx hZ hw hby hml hown hret hlk (by decide) (by decide) X51 e51 N51 x0 x1 x2 _ _ _
set_option maxRecDepth 65536 in
set_option maxHeartbeats 40000000 in
theorem comes_1 {Post : Tables → Env → Array Value → State → Outcome → State → Prop} (hpost : ∀ tb e args s v u, (limb_1_1.after args s (.returned v) u = true ∧ limb_1_2.after args s (.returned v) u = true ∧ True) → FrameEnd s (.returned v) u (Jvm.fieldLocs frame_1_writes args s ++ Jvm.arrayLocs frame_1_arrays args s ++ Jvm.staticLocs frame_1_statics s) 16 128 → Post tb e args s (.returned v) u) :
    ArmFor flags0 classFile x code maxLocals ret World_1 tables_1 room_1 Calls_1 rest_1 Pre_1 Post := by
  intro l hfl _ _ p e ha hc hk s m args below hf hA hF happ hP
  obtain ⟨hcalls, hrest, hpre⟩ := hP
  obtain ⟨-, -, -, hnamed, -, -, -, hat⟩ := (Spec.applies_iff hf).mp happ
  obtain ⟨hg, hn⟩ := and_e (Cond.before_iff.mp (show (Jvm.Cond.and given_1 narrow_1).before args s = true from hpre))
  obtain ⟨hcount, g1⟩ := and_e hg
  obtain ⟨hv0, g3⟩ := and_e g1
  obtain ⟨hv1, hv2⟩ := and_e g3
  obtain ⟨w0, w1, w2, rfl⟩ : ∃ w0 w1 w2 : Value, args = #[w0, w1, w2] := by
    have hs : args.size = 3 := by simpa [Cond.value, given_1] using hcount
    obtain ⟨L⟩ := args
    match L, hs with
    | [w0, w1, w2], _ => exact ⟨w0, w1, w2, rfl⟩
  have hw := fun d (hd : d ∈ tables_1) => atoms_spec (ws := Jvm.Cond.code x code maxLocals ret :: tables_1) hat d (List.mem_cons_of_mem _ hd)
  obtain ⟨i0, ei0⟩ := is_v hv0
  obtain rfl : w0 = (.int i0) := Option.some.inj ei0
  obtain ⟨i1, ei1⟩ := is_v hv1
  obtain rfl : w1 = (.int i1) := Option.some.inj ei1
  obtain ⟨i2, ei2⟩ := is_v hv2
  obtain rfl : w2 = (.int i2) := Option.some.inj ei2
  obtain ⟨n, o, h1, h2, h3, _, L, rfl, ⟨rfl, N⟩, hq⟩ := rm0 l s _ hw i0 i1 i2 s.heap s.heap.size (Nat.le_refl _) p e ha hc hk s m _ below hf ((Spec.applies_iff_loose hf).mp happ).1 ⟨rfl, State.Warmed39.refl s, rfl⟩ trivial
  refine ⟨n, _, h1, h2, h3, hpost _ _ _ _ _ _ ⟨Cond.after_iff.mpr rfl, Cond.after_iff.mpr (eq_i res_at (Term.int_eval (1)) rfl), trivial⟩ ⟨hq.1, hq.2.1, (hq.2.2.sift fun y hy => Or.inr (N y hy)).mono (by decide) (by decide)⟩⟩
theorem main_1_1 : Claimed_1_1 := comes_1 fun _ _ _ _ _ _ h hF => ⟨h.1, hF⟩
theorem main_1_2 : Claimed_1_2 := comes_1 fun _ _ _ _ _ _ h hF => ⟨h.2.1, hF⟩
end Jvm.Pilot.@@N@@
namespace Jvm.Pilot.@@N@@
open Jvm Jvm.ClassFile Sem Op Lib Jvm.Free Jvm.Stand Jvm.Pilot.@@N@@.Jvm.D
/-! MADE BY PROGRAM (witnessworld.py) out of the Statement's table words and the real class files: 9 classes; the members and pool entries that the words name. The judged class is class 1, her method 1. -/
namespace start1
open Jvm.ClassFile
def u (s : String) : CpInfo := .utf8 (stringToUtf16 s)
/-- a pool by its gaps: so many unusable entries, then the entry; so many at the end -/
def gap : Nat → List CpInfo → List CpInfo
  | 0, r => r
  | n + 1, r => .unusable :: gap n r
def poolList (es : List (Nat × CpInfo)) (last : Nat) : List CpInfo := es.foldr (fun e r => gap e.1 (e.2 :: r)) (gap last [])
def pool (es : List (Nat × CpInfo)) (last : Nat) : Array CpInfo := ⟨poolList es last⟩
def fileOf (pool : Array CpInfo) (this : Nat) (attrs : Array Attribute := #[]) (ms : Array MethodInfo := #[]) (fl : Nat := 33) (sup : Nat := 0) (ifs : Array Nat := #[]) (fds : Array FieldInfo := #[]) : ClassFile where
  minorVersion := 0
  majorVersion := 65
  constantPool := pool
  accessFlags := fl
  thisClass := this
  superClass := sup
  interfaces := ifs
  fields := fds
  methods := ms
  attributes := attrs
def plain (name : String) (sup : Option ClassId) : Class where
  name := name
  kind := .ordinary
  loader := none
  accessFlags := 33
  super := sup
  interfaces := #[]
  cf := none
  fields := #[]
  methods := #[]
  instanceTypes := #[]
  staticTypes := #[]
  resolved := #[]
  callSites := []
  init := .initialized
  statics := none
  mirror := none

def pool0 : Array CpInfo := pool [(5, u "<init>"), (0, u "()V"), (1, .class_ 10), (1, u "java/lang/Object")] 113

def k0m0 : Method := { name := "<init>", desc := "()V", sig := { parameters := [], returnType := none }, accessFlags := 1, code := none }
/-- java/lang/Object -/
def k0 : Class := { plain "java/lang/Object" none with
  accessFlags := 33
  interfaces := #[]
  cf := some (fileOf pool0 8 #[] #[{ accessFlags := 1, nameIndex := 5, descriptorIndex := 6, attributes := #[] }] 33 0 #[] #[])
  fields := #[]
  methods := #[k0m0]
  instanceTypes := #[]
  staticTypes := #[]
  resolved := Array.replicate 124 none
  statics := none }

def pool1 : Array CpInfo := pool [(2, .class_ 4), (1, u "java/lang/Object"), (0, u "<init>"), (0, u "()V"), (0, .integer 55295), (0, .integer 57344), (0, .integer 65533), (0, .integer 65536), (0, .integer 1114111), (2, .integer 2147483648), (0, .integer 2147483647), (0, .integer 57343), (0, .integer 65535), (0, .methodref 19 20), (0, .class_ 21), (0, .nameAndType 22 23), (0, u "com/example/lexipath/lexipath/xml/XmlNames"), (0, u "isCharacter"), (0, u "(I)Z"), (0, .methodref 25 26), (0, .class_ 27), (0, .nameAndType 28 23), (0, u "com/example/lexipath/lexipath/xml/XmlNamesIsCharacterPinLaw"), (0, u "reference"), (0, .integer 55296), (0, .integer 65534), (2, u "law"), (0, u "(III)Z")] 3

def k1m0 : Method := { name := "<init>", desc := "()V", sig := { parameters := [], returnType := none }, accessFlags := 1, code := none }
def k1c1 : Code := { maxStack := 4, maxLocals := 6, code := code, exceptionTable := #[], attributes := #[] }
def k1m1 : Method := { name := "law", desc := "(III)Z", sig := { parameters := [.int, .int, .int], returnType := some .boolean }, accessFlags := 9, code := some k1c1 }
def k1c2 : Code := { maxStack := 2, maxLocals := 1, code := method_3_code, exceptionTable := #[], attributes := #[] }
def k1m2 : Method := { name := "reference", desc := "(I)Z", sig := { parameters := [.int], returnType := some .boolean }, accessFlags := 10, code := some k1c2 }
/-- com/example/lexipath/lexipath/xml/XmlNamesIsCharacterPinLaw -/
def k1 : Class := { plain "com/example/lexipath/lexipath/xml/XmlNamesIsCharacterPinLaw" (some 0) with
  accessFlags := 49
  interfaces := #[]
  cf := some (fileOf pool1 25 #[] #[{ accessFlags := 1, nameIndex := 5, descriptorIndex := 6, attributes := #[] }, { accessFlags := 9, nameIndex := 33, descriptorIndex := 34, attributes := #[] }, { accessFlags := 10, nameIndex := 28, descriptorIndex := 23, attributes := #[] }] 49 2 #[] #[])
  fields := #[]
  methods := #[k1m0, k1m1, k1m2]
  instanceTypes := #[]
  staticTypes := #[]
  resolved := Array.replicate 38 none
  statics := none }

def pool2 : Array CpInfo := pool [(2, .class_ 4), (1, u "java/lang/Object"), (0, u "<init>"), (0, u "()V"), (1, .class_ 10), (1, u "com/example/lexipath/lexipath/xml/XmlNames"), (0, u "LANGUAGE_TAG"), (0, u "Ljava/util/regex/Pattern;"), (12, .integer 55295), (0, .integer 57344), (0, .integer 65533), (0, .integer 65536), (0, .integer 1114111), (13, u "(I)Z"), (45, u "isCharacter")] 8

def k2m0 : Method := { name := "<init>", desc := "()V", sig := { parameters := [], returnType := none }, accessFlags := 2, code := none }
def k2c1 : Code := { maxStack := 2, maxLocals := 1, code := prog_405_method_3_code, exceptionTable := #[], attributes := #[] }
def k2m1 : Method := { name := "isCharacter", desc := "(I)Z", sig := { parameters := [.int], returnType := some .boolean }, accessFlags := 9, code := some k2c1 }
/-- com/example/lexipath/lexipath/xml/XmlNames -/
def k2 : Class := { plain "com/example/lexipath/lexipath/xml/XmlNames" (some 0) with
  accessFlags := 49
  interfaces := #[]
  cf := some (fileOf pool2 8 #[] #[{ accessFlags := 2, nameIndex := 5, descriptorIndex := 6, attributes := #[] }, { accessFlags := 9, nameIndex := 89, descriptorIndex := 43, attributes := #[] }] 49 2 #[] #[{ accessFlags := 26, nameIndex := 11, descriptorIndex := 12, attributes := #[] }])
  fields := #[{ name := "LANGUAGE_TAG", type := (.object "java/util/regex/Pattern"), accessFlags := 26, slot := 0, constantValue := 0 }]
  methods := #[k2m0, k2m1]
  instanceTypes := #[]
  staticTypes := #[(.object "java/util/regex/Pattern")]
  resolved := Array.replicate 98 none
  statics := none }

def pool3 : Array CpInfo := pool [(1, u "java/lang/Cloneable"), (0, .class_ 1), (0, u "java/lang/Object"), (0, .class_ 3)] 3

/-- java/lang/Cloneable -/
def k3 : Class := { plain "java/lang/Cloneable" (some 0) with
  accessFlags := 1537
  interfaces := #[]
  cf := some (fileOf pool3 2 #[] #[] 1537 4 #[] #[])
  fields := #[]
  methods := #[]
  instanceTypes := #[]
  staticTypes := #[]
  resolved := Array.replicate 8 none
  statics := none }

def pool4 : Array CpInfo := pool [(1, u "java/io/Serializable"), (0, .class_ 1), (0, u "java/lang/Object"), (0, .class_ 3)] 3

/-- java/io/Serializable -/
def k4 : Class := { plain "java/io/Serializable" (some 0) with
  accessFlags := 1537
  interfaces := #[]
  cf := some (fileOf pool4 2 #[] #[] 1537 4 #[] #[])
  fields := #[]
  methods := #[]
  instanceTypes := #[]
  staticTypes := #[]
  resolved := Array.replicate 8 none
  statics := none }

/-- the primitive byte -/
def k5 : Class := { plain "byte" none with kind := .primitive 'B', accessFlags := 0x411 }
/-- [B -/
def k6 : Class := { plain "[B" (some 0) with kind := .array 5 .byte, interfaces := #[3, 4], accessFlags := 1041 }

/-- the primitive int -/
def k7 : Class := { plain "int" none with kind := .primitive 'I', accessFlags := 0x411 }
/-- [I -/
def k8 : Class := { plain "[I" (some 0) with kind := .array 7 .int, interfaces := #[3, 4], accessFlags := 1041 }

def heap : Heap := #[]
def classes : Array Class := #[k0, k1, k2, k3, k4, k5, k6, k7, k8]
def interned : List (Array UInt16 × Addr) := []
def slotsUsed : Nat := 0
def theMethod : MethodId := ⟨1, 1⟩
def args0 : Array Value := #[.int 3, .int 5, .int 7]
def aboutOver (below : List Frame) : State where
  vm := { classes := classes, interned := interned.toArray }
  heap := heap
  slotsUsed := slotsUsed
  threads := #[{ frames := .invoking theMethod args0 :: below }]
def below0 : List Frame := [.native { method := ⟨0, 0⟩, args := #[] }]
def about1 : State := aboutOver below0
def p0 : Program := .bare "" "" ""
def e0 : Env := launch0.env 0 0 0
theorem w_frames : about1.frames = Frame.invoking theMethod args0 :: below0 := rfl
set_option maxRecDepth 65536 in
theorem w_args : argsFit about1.vm theMethod args0 = true := by decide +kernel
set_option maxRecDepth 65536 in
theorem w_heap : heapFits about1 = true := by decide +kernel
set_option maxRecDepth 65536 in
theorem w_runnable : about1.curStatus? = some .runnable := by decide +kernel
set_option maxRecDepth 65536 in
theorem w_alone : about1.alone = true := by decide +kernel
set_option maxRecDepth 65536 in
theorem w_named : about1.methodNamed? x = some theMethod := by decide +kernel
set_option maxRecDepth 65536 in
theorem w_hears : about1.hears theMethod below0 = true := by decide +kernel
set_option maxRecDepth 65536 in
theorem w_ripe : about1.ripe theMethod args0 below0 = true := by decide +kernel
theorem w_running : about1.status = .running := rfl
set_option maxRecDepth 65536 in
theorem w_room : about1.hasRoom e0.platform room_1 = true :=
  launch0.hasRoom_least _ room_1 (by decide +kernel) (by decide +kernel) (by decide +kernel) (by decide +kernel) (by decide +kernel) (by decide +kernel)
theorem allAtoms_all (ts : List Jvm.Cond) (a : Array Jvm.Value) (st : Jvm.State) : (allAtoms ts).before a st = ts.all (fun c => c.before a st) := by
  induction ts with
  | nil => rfl
  | cons c t ih =>
    show (Jvm.Cond.and c (allAtoms t)).before a st = _
    rw [Jvm.Cond.before_and, ih, List.all_cons]
def words1 : List Jvm.Cond := Jvm.Cond.code x code maxLocals ret :: tables_1
/-- a 'code' word, met by the world's own term for the bytes: nothing is compared byte by byte -/
theorem code_word {y : MethodName} {bytes : ByteArray} {mx : Nat} {rt : Option FieldType} {a : Array Value} {s : State} {m : MethodId} {meth : Method} {c : Code} (h1 : s.methodNamed? y = some m) (h2 : s.vm.method? m = some meth) (h3 : meth.code = some c) (h4 : c.code = bytes)
    (h5 : (c.maxLocals == mx && c.exceptionTable.isEmpty && decide (c.maxStack ≤ mostOperands) && decide (meth.sig.returnType = rt) && !meth.locks && decide (parseMethodDescriptor y.desc = some meth.sig)) = true) : (Jvm.Cond.code y bytes mx rt).before a s = true := by
  simp only [Bool.and_eq_true, beq_iff_eq, Bool.not_eq_true', decide_eq_true_eq] at h5
  obtain ⟨⟨⟨⟨⟨g1, g2⟩, g3⟩, g4⟩, g5⟩, g6⟩ := h5
  simp [Cond.before, Cond.holds, Cond.value, h1, h2, h3, h4, g1, g2, g3, g4, g5, g6]
def isCode : Jvm.Cond → Bool
  | .code _ _ _ _ => true
  | _ => false
theorem all_split {L : List Jvm.Cond} {P : Jvm.Cond → Bool} (h1 : L.all (fun c => isCode c || P c) = true) (h2 : ∀ c ∈ L.filter isCode, P c = true) : L.all P = true := by
  refine List.all_eq_true.mpr fun c hc => ?_
  have h := List.all_eq_true.mp h1 c hc
  rcases Bool.eq_false_or_eq_true (isCode c) with hi | hi
  · exact h2 c (List.mem_filter.mpr ⟨hc, hi⟩)
  · simpa [hi] using h
set_option maxRecDepth 65536 in
theorem w_c0 : (Jvm.Cond.code x code maxLocals ret).before args0 about1 = true := code_word (m := ⟨1, 1⟩) (meth := k1m1) (c := k1c1) (by decide +kernel) rfl rfl rfl (by decide +kernel)
set_option maxRecDepth 65536 in
theorem w_c1 : (Jvm.Cond.code ({ cls := "com/example/lexipath/lexipath/xml/XmlNames", name := "isCharacter", desc := "(I)Z" } : Jvm.MethodName) prog_405_method_3_code (1 : Nat) (Option.some Jvm.ClassFile.FieldType.boolean)).before args0 about1 = true := code_word (m := ⟨2, 1⟩) (meth := k2m1) (c := k2c1) (by decide +kernel) rfl rfl rfl (by decide +kernel)
set_option maxRecDepth 65536 in
theorem w_c2 : (Jvm.Cond.code ({ cls := "com/example/lexipath/lexipath/xml/XmlNamesIsCharacterPinLaw", name := "reference", desc := "(I)Z" } : Jvm.MethodName) method_3_code (1 : Nat) (Option.some Jvm.ClassFile.FieldType.boolean)).before args0 about1 = true := code_word (m := ⟨1, 2⟩) (meth := k1m2) (c := k1c2) (by decide +kernel) rfl rfl rfl (by decide +kernel)
def codes1 : List Jvm.Cond := [Jvm.Cond.code x code maxLocals ret, Jvm.Cond.code ({ cls := "com/example/lexipath/lexipath/xml/XmlNames", name := "isCharacter", desc := "(I)Z" } : Jvm.MethodName) prog_405_method_3_code (1 : Nat) (Option.some Jvm.ClassFile.FieldType.boolean), Jvm.Cond.code ({ cls := "com/example/lexipath/lexipath/xml/XmlNamesIsCharacterPinLaw", name := "reference", desc := "(I)Z" } : Jvm.MethodName) method_3_code (1 : Nat) (Option.some Jvm.ClassFile.FieldType.boolean)]
set_option maxRecDepth 65536 in
theorem codes_eq : words1.filter isCode = codes1 := rfl
theorem w_codes : ∀ c ∈ words1.filter isCode, c.before args0 about1 = true := by
  rw [codes_eq]
  intro c hc
  simp only [codes1, List.mem_cons, List.not_mem_nil, or_false] at hc
  rcases hc with rfl | rfl | rfl
  · exact w_c0
  · exact w_c1
  · exact w_c2
set_option maxRecDepth 65536 in
theorem w_t1 : (words1.take 24).all (fun c => isCode c || c.before args0 about1) = true := by decide +kernel
set_option maxRecDepth 65536 in
theorem w_t2 : (words1.drop 24).all (fun c => isCode c || c.before args0 about1) = true := by decide +kernel
theorem w_tables : (allAtoms (Jvm.Cond.code x code maxLocals ret :: tables_1)).before args0 about1 = true := by
  rw [allAtoms_all]
  show words1.all (fun c => c.before args0 about1) = true
  refine all_split ?_ w_codes
  rw [← List.take_append_drop 24 words1, List.all_append, w_t1, w_t2]
  rfl
set_option maxRecDepth 65536 in
theorem w_case : (Jvm.Cond.and given_1 narrow_1).before args0 about1 = true := by decide +kernel
theorem w_applies : (headSpec (Jvm.Cond.code x code maxLocals ret :: tables_1) room_1).applies x e0.platform about1 = true :=
  (Spec.applies_iff w_frames).mpr ⟨w_running, w_runnable, w_alone, w_named, w_hears, w_ripe, w_room, w_tables⟩
theorem atStart : AtStart classFile x code maxLocals ret World_1 tables_1 room_1 Calls_1 rest_1 Pre_1 launch0 p0 e0 about1 theMethod args0 below0 :=
  ⟨lists_1, trivial, launch0.admits_env _ _ _, launch0.least_env, fairChoices_fair.cas, fairChoices_fair.clock, w_frames, w_args, w_heap, w_applies, trivial, trivial, w_case⟩
end start1
theorem witness_1 : WitnessClaimed_1 := ⟨start1.p0, start1.e0, start1.about1, start1.theMethod, start1.args0, start1.below0, start1.atStart⟩
end Jvm.Pilot.@@N@@
