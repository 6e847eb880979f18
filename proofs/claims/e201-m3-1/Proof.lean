import JvmDerived
import JvmDerived.Pilot.@@N@@Statement
import JvmDerived.Pilot.@@N@@Code
set_option linter.unusedVariables false
set_option linter.unusedSimpArgs false
namespace Jvm.Pilot.@@N@@
open Jvm Jvm.ClassFile Sem Op Lib Jvm.Free Jvm.Stand Jvm.LawKit Jvm.RoadKit Bundle Jvm.Pilot.@@N@@.Jvm.D
abbrev own_iushr (x y : Int32) : Int32 := (x.toUInt32 >>> (y &&& 31).toUInt32).toInt32
abbrev own_lshl (x : Int64) (y : Int32) : Int64 := x <<< (y &&& 0x3f).toInt64
abbrev own_lshr (x : Int64) (y : Int32) : Int64 := x >>> (y &&& 0x3f).toInt64
abbrev own_lushr (x : Int64) (y : Int32) : Int64 := (x.toUInt64 >>> (y &&& 0x3f).toInt64.toUInt64).toInt64
section Core
variable {p : Program} {l : Launch} {e : Env} {R : Room} {s : State} {m : MethodId} {args : Array Value} {below : List Frame} {meth : Method} {c : Code} {T T' : State} {locs : List Loc} {cells slots : Nat} {Z : State} {a0 : Array Value} {h h0 h' : Heap} {n0 : Nat}
/-- the i-th word of the sheet -/
theorem own_at (hw : ∀ d ∈ tables_1, d.before a0 Z = true) {d : Jvm.Cond} (i : Nat) (q : tables_1[i]? = some d) : d.before a0 Z = true := hw _ (List.mem_of_getElem? q)
/-- from this frame the method comes to its end, and G says what the end is -/
def ownGo (tb : Tables) (e : Env) (below : List Frame) (T : State) (g : JFrame) (G : Outcome → State → Prop) : Prop :=
  ∃ s₂ o, Steps tb e below (T.setTop g) s₂ ∧ s₂.status = .running ∧ Ended s₂ below o ∧ G o s₂
def ownDone (s : State) (Q : Option Value → Heap → List Loc → Prop) (kc ks : Nat) (o : Outcome) (U : State) : Prop :=
  ∃ v L, o = .returned v ∧ Q v U.heap L ∧ FrameEnd s o U L kc ks
/-- what a method leaves that only reckons -/
def ownPure (r : Value) (h0 : Heap) (n0 : Nat) (v : Option Value) (h : Heap) (L : List Loc) : Prop := v = some r ∧ Fr n0 L ∧ h = h0
theorem ownGo.st {tb : Tables} {g g' : JFrame} {G : Outcome → State → Prop} (q : ∀ t, Steps tb e below (T'.setTop g') t → Steps tb e below (T.setTop g) t) (k : ownGo tb e below T' g' G) : ownGo tb e below T g G := by
  obtain ⟨s₂, o, h1, h2⟩ := k
  exact ⟨s₂, o, q _ h1, h2⟩
theorem ownGo.sq {tb : Tables} {g g' : JFrame} {G : Outcome → State → Prop} (q : Steps tb e below (T.setTop g) (T'.setTop g')) (k : ownGo tb e below T' g' G) : ownGo tb e below T g G := by
  obtain ⟨s₂, o, h1, h2⟩ := k
  exact ⟨s₂, o, q.trans h1, h2⟩
theorem own_ret {Q : Option Value → Heap → List Loc → Prop} {kc ks : Nat} {g : JFrame} {v : Option Value} (X : Stand p l e R s m args below meth c T locs cells slots) (hlk : meth.locks = false) (hv : meth.sig.returnType = none → v = none)
    (hst : ∀ fs, (∀ (f : JFrame) (acts : List Action), f.method = m → f.locked = none → f.entered = [] → (doReturn e (T.setTop f) acts v).1 = T.setFrames fs) → Steps p.tables e below (T.setTop g) (T.setFrames fs))
    (hq : Q v T.heap locs) (hc : cells ≤ kc) (hs : slots ≤ ks) : ownGo p.tables e below T g (ownDone s Q kc ks) := by
  obtain ⟨fs, hr, hrun, hended, hW, hsame⟩ := X.leave (v := v) hv hlk
  exact ⟨_, _, hst fs hr, hrun, hended, _, _, rfl, hq, ⟨_, rfl⟩, hW, hsame.mono hc hs⟩
theorem own_retI {Q : Option Value → Heap → List Loc → Prop} {kc ks : Nat} {pc : Nat} {Ls : Array Slot} {z : Int32} {rest : List Value} (X : Stand p l e R s m args below meth c T locs cells slots) (hx : p.tables.exec = Jvm.exec) (hlk : meth.locks = false) (hret : meth.sig.returnType = some .int)
    (hd : decode c.code pc = .ok (.ireturn, 1)) (hq : Q (some (.int z)) T.heap locs) (hc : cells ≤ kc) (hs : slots ≤ ks) : ownGo p.tables e below T (mkF m pc Ls (.int z :: rest)) (ownDone s Q kc ks) :=
  own_ret X hlk (fun q => by rw [hret] at q; cases q) (fun fs hr => retOut X hx hret rfl (Or.inl ⟨rfl, Or.inl rfl, z, rfl⟩) hd hr) hq hc hs
theorem own_retZ {Q : Option Value → Heap → List Loc → Prop} {kc ks : Nat} {pc : Nat} {Ls : Array Slot} {z : Int32} {rest : List Value} (X : Stand p l e R s m args below meth c T locs cells slots) (hx : p.tables.exec = Jvm.exec) (hlk : meth.locks = false) (hret : meth.sig.returnType = some .boolean)
    (hd : decode c.code pc = .ok (.ireturn, 1)) (hz : z = 0 ∨ z = 1) (hq : Q (some (.int z)) T.heap locs) (hc : cells ≤ kc) (hs : slots ≤ ks) : ownGo p.tables e below T (mkF m pc Ls (.int z :: rest)) (ownDone s Q kc ks) := by
  have e1 : nar .boolean z = z := by rcases hz with rfl | rfl <;> decide
  exact own_ret X hlk (fun q => by rw [hret] at q; cases q) (fun fs hr => retN X hx (t := .boolean) hret (by simp) hd (by rw [e1]; exact hr)) hq hc hs
theorem own_retJ {Q : Option Value → Heap → List Loc → Prop} {kc ks : Nat} {pc : Nat} {Ls : Array Slot} {z : Int64} {rest : List Value} (X : Stand p l e R s m args below meth c T locs cells slots) (hx : p.tables.exec = Jvm.exec) (hlk : meth.locks = false) (hret : meth.sig.returnType = some .long)
    (hd : decode c.code pc = .ok (.lreturn, 1)) (hq : Q (some (.long z)) T.heap locs) (hc : cells ≤ kc) (hs : slots ≤ ks) : ownGo p.tables e below T (mkF m pc Ls (.long z :: rest)) (ownDone s Q kc ks) :=
  own_ret X hlk (fun q => by rw [hret] at q; cases q) (fun fs hr => retOut X hx hret rfl (Or.inr (Or.inl ⟨rfl, rfl, z, rfl⟩)) hd hr) hq hc hs
theorem own_retA {Q : Option Value → Heap → List Loc → Prop} {kc ks : Nat} {pc : Nat} {Ls : Array Slot} {z : Addr} {t : FieldType} {rest : List Value} (X : Stand p l e R s m args below meth c T locs cells slots) (hx : p.tables.exec = Jvm.exec) (hlk : meth.locks = false) (hret : meth.sig.returnType = some (.array t))
    (hd : decode c.code pc = .ok (.areturn, 1)) (hq : Q (some (.ref z)) T.heap locs) (hc : cells ≤ kc) (hs : slots ≤ ks) : ownGo p.tables e below T (mkF m pc Ls (.ref z :: rest)) (ownDone s Q kc ks) :=
  own_ret X hlk (fun q => by rw [hret] at q; cases q) (fun fs hr => retOut X hx hret rfl (Or.inr (Or.inr (Or.inr (Or.inr ⟨rfl, rfl, rfl⟩)))) hd hr) hq hc hs
theorem own_retV {Q : Option Value → Heap → List Loc → Prop} {kc ks : Nat} {pc : Nat} {Ls : Array Slot} (X : Stand p l e R s m args below meth c T locs cells slots) (hx : p.tables.exec = Jvm.exec) (hlk : meth.locks = false) (hret : meth.sig.returnType = none)
    (hd : decode c.code pc = .ok (.return_, 1)) (hq : Q none T.heap locs) (hc : cells ≤ kc) (hs : slots ≤ ks) : ownGo p.tables e below T (mkF m pc Ls []) (ownDone s Q kc ks) :=
  own_ret X hlk (fun _ => rfl) (fun fs hr => X.returnOut hx hret hd hr) hq hc hs
/-- a static call by the callee's contract -/
theorem own_callS (X : Stand p l e R s m args below meth c T locs cells slots) (hx : p.tables.exec = Jvm.exec) (hZ : Z.Warmed39 s.vm) {own : String} {index : Nat} {y : MethodName} {bytes : ByteArray} {maxL : Nat} {ret : Option FieldType} (hown : s.vm.findClass own = some m.cls)
    (w1 : (Jvm.Cond.methodLink own index y).before a0 Z = true) (w2 : (Jvm.Cond.static y).before a0 Z = true) (w3 : (Jvm.Cond.initialized y.cls).before a0 Z = true) (w4 : (Jvm.Cond.code y bytes maxL ret).before a0 Z = true) (hy : y.cls ≠ "java/lang/invoke/MethodHandle" ∧ y.cls ≠ "java/lang/invoke/VarHandle")
    {rm : Room} {argsL rest : List Value} {Q : Option Value → Heap → List Loc → Prop}
    (K : MetFree l y (head1 [Jvm.Cond.code y bytes maxL ret] rm) (fun a U => a = argsL.toArray ∧ Z.Warmed39 U.vm ∧ U.heap = h0) (fun _ _ _ _ _ => True) (fun _ U o U' => ∃ v L, o = .returned v ∧ Q v U'.heap L ∧ FrameEnd U o U' L rm.cells rm.slots))
    (W : Nat) (hf : rm.frames + 1 ≤ R.frames) (hl : W + (maxL + 11) + rm.locals ≤ R.locals) (eT : T.heap = h0) (hcl : cells + rm.cells ≤ R.cells) (hsl : slots + rm.slots ≤ R.slots)
    {g : JFrame} (hg : g.method = m) (hsize : g.locals.size = c.maxLocals) (hlen : ∀ sig, parseMethodDescriptor y.desc = some sig → argsL.length = sig.parameters.length) (hstack : g.stack = argsL.reverse ++ rest) (hW : 2 * g.monitorRoom + (rest.map fun v => v.category).sum ≤ W) (hdg : decode c.code g.pc = .ok (.invokestatic index, 3)) :
    ∃ (v : Option Value) (T' : State) (L : List Loc), Stand p l e R s m args below meth c T' (locs ++ L) (cells + rm.cells) (slots + rm.slots) ∧ Q v T'.heap L ∧ ∀ t, Steps p.tables e below (T'.setTop { g with pc := g.pc + 3, stack := v.toList ++ rest }) t → Steps p.tables e below (T.setTop g) t := by
  obtain ⟨v, _, ⟨T1, L1, k1, n1⟩, -, X1, ⟨Lc, hQ, l1, y1, z1⟩, st⟩ := Jvm.LawKit.callS X hx (y := y) hown (mvT hZ w1) (mvT hZ w2) (mvT hZ w3) (mvT hZ w4) hy (backOf (W := W) K hZ w4 w3 hf hl) (g := g) hg hsize (argsL := argsL) (rest := rest) hlen hstack hW hdg (fun _ _ => ⟨rfl, eT, hcl, hsl⟩)
  dsimp only [Pt.U, Pt.locs, Pt.cells, Pt.slots] at X1 l1 y1 z1 st hQ
  subst l1 y1 z1
  exact ⟨v, T1, Lc, X1, hQ, st⟩
/-! arrays: n places, place i holds f i -/
def ownA (Z : State) (h : Heap) (a : Addr) (ty : FieldType) (n : Nat) (f : Nat → Value) : Prop :=
  ∃ c : Cell, Arr Z h a c ty ∧ c.slots.size = n ∧ n < 2147483648 ∧ ∀ i, i < n → c.slots[i]? = some (f i) ∧ fits ty (f i) = true
def own_up (f : Nat → Value) (j : Nat) (v : Value) (i : Nat) : Value := if i = j then v else f i
theorem own_up_hit {f : Nat → Value} {j : Nat} {v : Value} : own_up f j v j = v := if_pos rfl
theorem own_up_miss {f : Nat → Value} {i j : Nat} {v : Value} (q : i ≠ j) : own_up f j v i = f i := if_neg q
theorem ownA.ext {a : Addr} {ty : FieldType} {n : Nat} {f : Nat → Value} (V : ownA Z h a ty n f) (E : Ext h h') : ownA Z h' a ty n f := by obtain ⟨c, A, r⟩ := V; exact ⟨c, A.ext E, r⟩
theorem ownA.other {a b : Addr} {ty : FieldType} {n sl : Nat} {v : Value} {f : Nat → Value} (V : ownA Z h a ty n f) (W : Wr h h' b sl v) (q : a ≠ b) : ownA Z h' a ty n f := by obtain ⟨c, A, r⟩ := V; exact ⟨c, A.other W q, r⟩
theorem ownA.keep {a : Addr} {ty : FieldType} {n : Nat} {ws : List Addr} {f : Nat → Value} (V : ownA Z h a ty n f) (K : Keep h h' ws) (q : a ∉ ws) : ownA Z h' a ty n f := by obtain ⟨c, A, r⟩ := V; exact ⟨c, ⟨K.2.1 a c A.1 q, A.2⟩, r⟩
theorem ownA.lt {a : Addr} {ty : FieldType} {n : Nat} {f : Nat → Value} (V : ownA Z h a ty n f) : a < h.size := by obtain ⟨c, A, r⟩ := V; exact A.lt
theorem ownA.eq {a : Addr} {ty : FieldType} {n : Nat} {f f' : Nat → Value} (V : ownA Z h a ty n f) (q : ∀ i, i < n → f i = f' i) : ownA Z h a ty n f' := by
  obtain ⟨c, A, r1, r2, r3⟩ := V
  exact ⟨c, A, r1, r2, fun i hi => by rw [← q i hi]; exact r3 i hi⟩
theorem own_n32 {n : Nat} (q : n < 2147483648) : (Int32.ofNat n).toNatClampNeg = n := by rw [Int32.toNatClampNeg, Int32.toInt_ofNat_of_lt q]; rfl
theorem own_nn {n : Nat} (q : n < 2147483648) : ¬ Int32.ofNat n < 0 := by
  rw [Int32.lt_iff_toInt_lt, Int32.toInt_ofNat_of_lt q, show (0 : Int32).toInt = 0 from rfl]; omega
theorem ownA.new {a : Addr} {k : ClassId} {ty : FieldType} {n : Nat} (A : Arr Z h a (newA k ty (Int32.ofNat n)) ty) (q : n < 2147483648) (d : fits ty (defaultValue ty) = true) : ownA Z h a ty n (fun _ => defaultValue ty) := by
  refine ⟨_, A, by rw [sz_new, own_n32 q], q, fun i hi => ⟨?_, d⟩⟩
  simp [newA, own_n32 q, hi]
theorem own_in {cl : Cell} {n i : Nat} {j : Int32} (S : cl.slots.size = n) (q : n < 2147483648) (hj : j = Int32.ofNat i) (hi : i < n) : ¬ (j < 0 ∨ cl.slots.size ≤ j.toNatClampNeg) := by
  subst hj
  rw [S, own_n32 (by omega)]
  exact fun z => z.elim (own_nn (by omega)) (fun z => by omega)
theorem own_iaload {a : Addr} {n i : Nat} {f : Nat → Value} {j v : Int32} (X : Stand p l e R s m args below meth c T locs cells slots) (hx : p.tables.exec = Jvm.exec) (hZ : Z.Warmed39 s.vm) (eT : T.heap = h) (V : ownA Z h a .int n f) (hj : j = Int32.ofNat i) (hi : i < n) (hv : f i = .int v)
    {g : JFrame} (hg : g.method = m) {rest : List Value} (hs : g.stack = .int j :: .ref a :: rest) (hd : decode c.code g.pc = .ok (.iaload, 1)) :
    ∀ t, Steps p.tables e below (T.setTop { g with pc := g.pc + 1, stack := .int v :: rest }) t → Steps p.tables e below (T.setTop g) t := by
  obtain ⟨cl, A, S, q, H⟩ := V
  have hat : cl.slots[j.toNatClampNeg]? = some (.int v) := by rw [hj, own_n32 (by omega), ← hv]; exact (H i hi).1
  exact X.iaload hx (j := j) (by rw [eT]; exact A.1) (State.isArrayOf_alike hZ.alike A.2.1) A.2.2 (own_in S q hj hi) hat hg hs hd
theorem own_laload {a : Addr} {n i : Nat} {f : Nat → Value} {j : Int32} {v : Int64} (X : Stand p l e R s m args below meth c T locs cells slots) (hx : p.tables.exec = Jvm.exec) (hZ : Z.Warmed39 s.vm) (eT : T.heap = h) (V : ownA Z h a .long n f) (hj : j = Int32.ofNat i) (hi : i < n) (hv : f i = .long v)
    {g : JFrame} (hg : g.method = m) {rest : List Value} (hs : g.stack = .int j :: .ref a :: rest) (hd : decode c.code g.pc = .ok (.laload, 1)) :
    ∀ t, Steps p.tables e below (T.setTop { g with pc := g.pc + 1, stack := .long v :: rest }) t → Steps p.tables e below (T.setTop g) t := by
  obtain ⟨cl, A, S, q, H⟩ := V
  have hat : cl.slots[j.toNatClampNeg]? = some (.long v) := by rw [hj, own_n32 (by omega), ← hv]; exact (H i hi).1
  exact X.laload hx (j := j) (by rw [eT]; exact A.1) (State.isArrayOf_alike hZ.alike A.2.1) A.2.2 (own_in S q hj hi) hat hg hs hd
theorem own_baload {a : Addr} {n i : Nat} {f : Nat → Value} {j v : Int32} (X : Stand p l e R s m args below meth c T locs cells slots) (hx : p.tables.exec = Jvm.exec) (hZ : Z.Warmed39 s.vm) (eT : T.heap = h) (V : ownA Z h a .byte n f) (hj : j = Int32.ofNat i) (hi : i < n) (hv : f i = .int v)
    {g : JFrame} (hg : g.method = m) {rest : List Value} (hs : g.stack = .int j :: .ref a :: rest) (hd : decode c.code g.pc = .ok (.baload, 1)) :
    ∀ t, Steps p.tables e below (T.setTop { g with pc := g.pc + 1, stack := .int v :: rest }) t → Steps p.tables e below (T.setTop g) t := by
  obtain ⟨cl, A, S, q, H⟩ := V
  have hat : cl.slots[j.toNatClampNeg]? = some (.int v) := by rw [hj, own_n32 (by omega), ← hv]; exact (H i hi).1
  exact X.baloadBytes hx (j := j) (by rw [eT]; exact A.1) (State.isArrayOf_alike hZ.alike A.2.1) A.2.2 (own_in S q hj hi) hat hg hs hd
theorem own_alen {a : Addr} {ty : FieldType} {n : Nat} {f : Nat → Value} (X : Stand p l e R s m args below meth c T locs cells slots) (hx : p.tables.exec = Jvm.exec) (hZ : Z.Warmed39 s.vm) (eT : T.heap = h) (V : ownA Z h a ty n f)
    {g : JFrame} (hg : g.method = m) {rest : List Value} (hs : g.stack = .ref a :: rest) (hd : decode c.code g.pc = .ok (.arraylength, 1)) :
    ∀ t, Steps p.tables e below (T.setTop { g with pc := g.pc + 1, stack := .int (Int32.ofNat n) :: rest }) t → Steps p.tables e below (T.setTop g) t := by
  obtain ⟨cl, A, S, q, H⟩ := V
  intro t k
  refine X.arraylength hx (cell := cl) (by rw [eT]; exact A.1) (State.isArrayOf_alike hZ.alike A.2.1) hg hs hd t ?_
  rw [S]; exact k
theorem ownA.put {a : Addr} {ty : FieldType} {n i : Nat} {f : Nat → Value} {v : Value} (V : ownA Z h a ty n f) (W : Wr h h' a i v) (hv : fits ty v = true) : ownA Z h' a ty n (own_up f i v) := by
  obtain ⟨cl, A, S, q, H⟩ := V
  refine ⟨_, A.same W, by rw [sz_set]; exact S, q, fun k hk => ?_⟩
  by_cases z : k = i
  · subst z
    rw [own_up_hit]
    exact ⟨by simp [Cell.setSlot, S, hk], hv⟩
  · rw [own_up_miss z]
    refine ⟨?_, (H k hk).2⟩
    rw [← (H k hk).1]
    exact Array.getElem?_setIfInBounds_ne (Ne.symm z)
theorem own_iastore {a : Addr} {n i : Nat} {f : Nat → Value} {j x : Int32} (X : Stand p l e R s m args below meth c T locs cells slots) (hx : p.tables.exec = Jvm.exec) (hZ : Z.Warmed39 s.vm) (eT : T.heap = h) (V : ownA Z h a .int n f) (hj : j = Int32.ofNat i) (hi : i < n)
    {g : JFrame} (hg : g.method = m) {rest : List Value} (hs : g.stack = .int x :: .int j :: .ref a :: rest) (hd : decode c.code g.pc = .ok (.iastore, 1)) :
    ∃ T' h', Stand p l e R s m args below meth c T' (locs ++ [⟨a, i⟩]) cells slots ∧ T'.heap = h' ∧ Wr h h' a i (.int x) ∧ ownA Z h' a .int n (own_up f i (.int x)) ∧ ∀ t, Steps p.tables e below (T'.setTop { g with pc := g.pc + 1, stack := rest }) t → Steps p.tables e below (T.setTop g) t := by
  have V0 := V
  obtain ⟨cl, A, S, q, H⟩ := V
  obtain ⟨T', h', X', e', W', st⟩ := stI X hx hZ eT A (j := j) (own_in S q hj hi) hg hs hd
  have ej : j.toNatClampNeg = i := by rw [hj]; exact own_n32 (by omega)
  rw [ej] at X' W'
  exact ⟨T', h', X', e', W', V0.put W' rfl, st⟩
theorem own_lastore {a : Addr} {n i : Nat} {f : Nat → Value} {j : Int32} {x : Int64} (X : Stand p l e R s m args below meth c T locs cells slots) (hx : p.tables.exec = Jvm.exec) (hZ : Z.Warmed39 s.vm) (eT : T.heap = h) (V : ownA Z h a .long n f) (hj : j = Int32.ofNat i) (hi : i < n)
    {g : JFrame} (hg : g.method = m) {rest : List Value} (hs : g.stack = .long x :: .int j :: .ref a :: rest) (hd : decode c.code g.pc = .ok (.lastore, 1)) :
    ∃ T' h', Stand p l e R s m args below meth c T' (locs ++ [⟨a, i⟩]) cells slots ∧ T'.heap = h' ∧ Wr h h' a i (.long x) ∧ ownA Z h' a .long n (own_up f i (.long x)) ∧ ∀ t, Steps p.tables e below (T'.setTop { g with pc := g.pc + 1, stack := rest }) t → Steps p.tables e below (T.setTop g) t := by
  have V0 := V
  obtain ⟨cl, A, S, q, H⟩ := V
  obtain ⟨T', h', X', e', W', st⟩ := stJ X hx hZ eT A (j := j) (own_in S q hj hi) hg hs hd
  have ej : j.toNatClampNeg = i := by rw [hj]; exact own_n32 (by omega)
  rw [ej] at X' W'
  exact ⟨T', h', X', e', W', V0.put W' rfl, st⟩
theorem own_bastore {a : Addr} {n i : Nat} {f : Nat → Value} {j x : Int32} (X : Stand p l e R s m args below meth c T locs cells slots) (hx : p.tables.exec = Jvm.exec) (hZ : Z.Warmed39 s.vm) (eT : T.heap = h) (V : ownA Z h a .byte n f) (hj : j = Int32.ofNat i) (hi : i < n)
    {g : JFrame} (hg : g.method = m) {rest : List Value} (hs : g.stack = .int x :: .int j :: .ref a :: rest) (hd : decode c.code g.pc = .ok (.bastore, 1)) :
    ∃ T' h', Stand p l e R s m args below meth c T' (locs ++ [⟨a, i⟩]) cells slots ∧ T'.heap = h' ∧ Wr h h' a i (.int x.toInt8.toInt32) ∧ ownA Z h' a .byte n (own_up f i (.int x.toInt8.toInt32)) ∧ ∀ t, Steps p.tables e below (T'.setTop { g with pc := g.pc + 1, stack := rest }) t → Steps p.tables e below (T.setTop g) t := by
  have V0 := V
  obtain ⟨cl, A, S, q, H⟩ := V
  obtain ⟨T', h', X', e', W', st⟩ := stB X hx hZ eT A (j := j) (own_in S q hj hi) hg hs hd
  have ej : j.toNatClampNeg = i := by rw [hj]; exact own_n32 (by omega)
  rw [ej] at X' W'
  exact ⟨T', h', X', e', W', V0.put W' (fits_nar_byte _), st⟩
/-- newarray of n places, at most cap -/
theorem own_newarray {aty : ArrayType} (X : Stand p l e R s m args below meth c T locs cells slots) (hx : p.tables.exec = Jvm.exec) (hZ : Z.Warmed39 s.vm) (w : (Jvm.Cond.arrayClass (newarray.typeOf aty)).before a0 Z = true) (eT : T.heap = h) (n : Nat) (cap : Nat) (hn : n ≤ cap) (hb : cap * 8 ≤ 536870912) (hc : cells + 1 ≤ R.cells) (hl : slots + cap ≤ R.slots) {ad : String} (had : "[" ++ (newarray.typeOf aty).toString = ad) (d : fits (newarray.typeOf aty) (defaultValue (newarray.typeOf aty)) = true)
    {z : Int32} (hz : z = Int32.ofNat n) {g : JFrame} (hg : g.method = m) (hd : decode c.code g.pc = .ok (.newarray aty, 2)) {rest : List Value} (hs : g.stack = .int z :: rest) :
    ∃ T' h' b, Stand p l e R s m args below meth c T' locs (cells + 1) (slots + cap) ∧ T'.heap = h' ∧ Ext h h' ∧ ownA Z h' b (newarray.typeOf aty) n (fun _ => defaultValue (newarray.typeOf aty)) ∧ Exa Z h' b ad ∧ b = h.size ∧
      ∀ t, Steps p.tables e below (T'.setTop { g with pc := g.pc + 2, stack := .ref b :: rest }) t → Steps p.tables e below (T.setTop g) t := by
  have hn' : n < 2147483648 := by omega
  subst hz
  obtain ⟨T', h', k, X', e', E, A, Ex, st⟩ := newPE X hx hZ w eT hg hd hs (own_nn hn') (by rw [own_n32 hn']; exact hn) hb hc hl had
  exact ⟨T', h', _, X', e', E, ownA.new A hn' d, Ex, rfl, st⟩
end Core
theorem ownA.int {Z : State} {h : Heap} {a : Addr} {n i : Nat} {f : Nat → Value} (V : ownA Z h a .int n f) (hi : i < n) : ∃ v : Int32, f i = .int v := by
  obtain ⟨c, A, S, q, H⟩ := V
  have q := (H i hi).2
  generalize f i = w at q
  cases w <;> first | exact ⟨_, rfl⟩ | simp [fits] at q
theorem own_idx (j : Int32) (n : Nat) (q0 : 0 ≤ j.toInt) (q1 : j.toInt < n) : ∃ i, i < n ∧ j = Int32.ofNat i := by
  have q2 := j.toInt_lt
  refine ⟨j.toInt.toNat, by omega, ?_⟩
  apply Int32.toInt_inj.mp
  rw [Int32.toInt_ofNat_of_lt (by omega)]
  omega
theorem own_ltn {i n : Nat} (q : i < n) (hn : n < 2147483648) : Int32.ofNat i < Int32.ofNat n := by
  rw [Int32.lt_iff_toInt_lt, Int32.toInt_ofNat_of_lt (by omega), Int32.toInt_ofNat_of_lt hn]
  omega
theorem own_255a (i : Nat) : (255#32).getLsbD i = decide (i < 8) := by
  rw [BitVec.getLsbD_ofNat, show (255 : Nat) = 2 ^ 8 - 1 from rfl, Nat.testBit_two_pow_sub_one]
  by_cases h : i < 8 <;> simp [h]; omega
/-- the byte that is stored -/
def own_bt (x : Int32) : Int32 := x.toInt8.toInt32.toInt8.toInt32
theorem own_bt255 (x : Int32) : own_bt x &&& (255 : Int32) = x &&& (255 : Int32) := by
  apply Int32.toBitVec_inj.mp
  simp only [own_bt, Int32.toBitVec_and, Int8.toBitVec_toInt32, Int32.toBitVec_toInt8]
  generalize x.toBitVec = w
  have e1 : (255 : Int32).toBitVec = 255#32 := rfl
  rw [e1]
  apply BitVec.eq_of_getLsbD_eq
  intro i hi
  simp only [BitVec.getLsbD_and, BitVec.getLsbD_signExtend, own_255a]
  by_cases h : i < 8
  · simp [h, hi]
  · simp [h]
def own_seq (a b c : Int32) : Nat → Int32
  | 0 => own_bt a
  | 1 => own_bt b
  | _ => own_bt c
def own_ext (a b c d : Int32) (n i : Nat) : Int32 := if i = n then own_bt d else own_seq a b c i
def own_hash (g : Nat → Int32) : Nat → Int64
  | 0 => (-3750763034362895579 : Int64)
  | k + 1 => (own_hash g k ^^^ ((g k &&& (255 : Int32)).toInt64)) * (1099511628211 : Int64)
theorem own_hash_eq {g g' : Nat → Int32} : ∀ n, (∀ i, i < n → g i = g' i) → own_hash g n = own_hash g' n
  | 0, _ => rfl
  | n + 1, q => by rw [own_hash, own_hash, own_hash_eq n (fun i hi => q i (by omega)), q n (by omega)]
theorem own_step (a b c d : Int32) (n : Nat) : own_hash (own_ext a b c d n) (n + 1) = (own_hash (own_seq a b c) n ^^^ ((d &&& (255 : Int32)).toInt64)) * (1099511628211 : Int64) := by
  rw [own_hash, own_hash_eq (g := own_ext a b c d n) (g' := own_seq a b c) n (fun i hi => if_neg (by omega)), show own_ext a b c d n n = own_bt d from if_pos rfl, own_bt255]
def ownFresh (Z : State) (n : Nat) (g : Nat → Int32) (h0 : Heap) (n0 : Nat) (v : Option Value) (h : Heap) (L : List Loc) : Prop :=
  ∃ b, v = some (.ref b) ∧ Fr n0 L ∧ Keep h0 h [] ∧ h0.size ≤ b ∧ ∃ f, ownA Z h b .byte n f ∧ ∀ i, i < n → f i = .int (g i)
theorem own_os6 {x0 : Addr} {acc : Int64} {n i v : Int32} {s6 : Slot} (q : One s6) : storeLocals #[.val (.ref x0), .val (.long acc), .second, .val (.ref x0), .val (.int n), .val (.int i), s6] 6 (.int v) = some #[.val (.ref x0), .val (.long acc), .second, .val (.ref x0), .val (.int n), .val (.int i), .val (.int v)] := by
  rcases q with rfl | ⟨w, rfl, hw⟩
  · rfl
  · cases w <;> first | rfl | (simp [Value.category] at hw)
theorem d1_0 : decode method_2_code 0 = .ok (.iload_n 0, 1) := by decide +kernel
theorem d1_1 : decode method_2_code 1 = .ok (.ifCond .ne 7, 3) := by decide +kernel
theorem d1_4 : decode method_2_code 4 = .ok (.iconst 0, 1) := by decide +kernel
theorem d1_5 : decode method_2_code 5 = .ok (.newarray .byte, 2) := by decide +kernel
theorem d1_7 : decode method_2_code 7 = .ok (.areturn, 1) := by decide +kernel
theorem d1_8 : decode method_2_code 8 = .ok (.iload_n 0, 1) := by decide +kernel
theorem d1_9 : decode method_2_code 9 = .ok (.iconst 1, 1) := by decide +kernel
theorem d1_10 : decode method_2_code 10 = .ok (.if_icmp .ne 12, 3) := by decide +kernel
theorem d1_13 : decode method_2_code 13 = .ok (.iconst 1, 1) := by decide +kernel
theorem d1_14 : decode method_2_code 14 = .ok (.newarray .byte, 2) := by decide +kernel
theorem d1_16 : decode method_2_code 16 = .ok (.dup, 1) := by decide +kernel
theorem d1_17 : decode method_2_code 17 = .ok (.iconst 0, 1) := by decide +kernel
theorem d1_18 : decode method_2_code 18 = .ok (.iload_n 1, 1) := by decide +kernel
theorem d1_19 : decode method_2_code 19 = .ok (.i2b, 1) := by decide +kernel
theorem d1_20 : decode method_2_code 20 = .ok (.bastore, 1) := by decide +kernel
theorem d1_21 : decode method_2_code 21 = .ok (.areturn, 1) := by decide +kernel
theorem d1_22 : decode method_2_code 22 = .ok (.iload_n 0, 1) := by decide +kernel
theorem d1_23 : decode method_2_code 23 = .ok (.iconst 2, 1) := by decide +kernel
theorem d1_24 : decode method_2_code 24 = .ok (.if_icmp .ne 17, 3) := by decide +kernel
theorem d1_27 : decode method_2_code 27 = .ok (.iconst 2, 1) := by decide +kernel
theorem d1_28 : decode method_2_code 28 = .ok (.newarray .byte, 2) := by decide +kernel
theorem d1_30 : decode method_2_code 30 = .ok (.dup, 1) := by decide +kernel
theorem d1_31 : decode method_2_code 31 = .ok (.iconst 0, 1) := by decide +kernel
theorem d1_32 : decode method_2_code 32 = .ok (.iload_n 1, 1) := by decide +kernel
theorem d1_33 : decode method_2_code 33 = .ok (.i2b, 1) := by decide +kernel
theorem d1_34 : decode method_2_code 34 = .ok (.bastore, 1) := by decide +kernel
theorem d1_35 : decode method_2_code 35 = .ok (.dup, 1) := by decide +kernel
theorem d1_36 : decode method_2_code 36 = .ok (.iconst 1, 1) := by decide +kernel
theorem d1_37 : decode method_2_code 37 = .ok (.iload_n 2, 1) := by decide +kernel
theorem d1_38 : decode method_2_code 38 = .ok (.i2b, 1) := by decide +kernel
theorem d1_39 : decode method_2_code 39 = .ok (.bastore, 1) := by decide +kernel
theorem d1_40 : decode method_2_code 40 = .ok (.areturn, 1) := by decide +kernel
theorem d1_41 : decode method_2_code 41 = .ok (.iconst 3, 1) := by decide +kernel
theorem d1_42 : decode method_2_code 42 = .ok (.newarray .byte, 2) := by decide +kernel
theorem d1_44 : decode method_2_code 44 = .ok (.dup, 1) := by decide +kernel
theorem d1_45 : decode method_2_code 45 = .ok (.iconst 0, 1) := by decide +kernel
theorem d1_46 : decode method_2_code 46 = .ok (.iload_n 1, 1) := by decide +kernel
theorem d1_47 : decode method_2_code 47 = .ok (.i2b, 1) := by decide +kernel
theorem d1_48 : decode method_2_code 48 = .ok (.bastore, 1) := by decide +kernel
theorem d1_49 : decode method_2_code 49 = .ok (.dup, 1) := by decide +kernel
theorem d1_50 : decode method_2_code 50 = .ok (.iconst 1, 1) := by decide +kernel
theorem d1_51 : decode method_2_code 51 = .ok (.iload_n 2, 1) := by decide +kernel
theorem d1_52 : decode method_2_code 52 = .ok (.i2b, 1) := by decide +kernel
theorem d1_53 : decode method_2_code 53 = .ok (.bastore, 1) := by decide +kernel
theorem d1_54 : decode method_2_code 54 = .ok (.dup, 1) := by decide +kernel
theorem d1_55 : decode method_2_code 55 = .ok (.iconst 2, 1) := by decide +kernel
theorem d1_56 : decode method_2_code 56 = .ok (.iload_n 3, 1) := by decide +kernel
theorem d1_57 : decode method_2_code 57 = .ok (.i2b, 1) := by decide +kernel
theorem d1_58 : decode method_2_code 58 = .ok (.bastore, 1) := by decide +kernel
theorem d1_59 : decode method_2_code 59 = .ok (.areturn, 1) := by decide +kernel
abbrev R1 : Room := { frames := 0, cells := 1, slots := 3, locals := 0 }
theorem pn_1 : plainName "com/example/lexipath/lexipath/fulltext/IndexBytesHashPinLaw" = true := by first | (simp [plainName, overriddenIn]; done) | decide +kernel
theorem ef_1 (m : MethodId) (x0 : Int32) (x1 : Int32) (x2 : Int32) (x3 : Int32) : entryFrame m #[(.int x0), (.int x1), (.int x2), (.int x3)] 4 = mkF m 0 #[.val (.int x0), .val (.int x1), .val (.int x2), .val (.int x3)] [] := by first | (simp [entryFrame, mkF, argsToLocals, Value.category]; done) | rfl
set_option maxRecDepth 65536 in
set_option maxHeartbeats 40000000 in
theorem rm1 (l : Launch) (Z : State) (a0 : Array Value) (hw : ∀ d ∈ tables_1, d.before a0 Z = true) (x0 : Int32) (x1 : Int32) (x2 : Int32) (x3 : Int32) (n : Nat) (h0 : Heap) (n0 : Nat) (Z0 : n0 ≤ h0.size) (hn : n < 4) (hn0 : x0 = Int32.ofNat n) :
    MetFree l (⟨"com/example/lexipath/lexipath/fulltext/IndexBytesHashPinLaw", "make", "(IIII)[B"⟩ : MethodName) (head1 [Jvm.Cond.code (⟨"com/example/lexipath/lexipath/fulltext/IndexBytesHashPinLaw", "make", "(IIII)[B"⟩ : MethodName) method_2_code 4 (some (.array .byte))] R1) (fun a U => a = #[(.int x0), (.int x1), (.int x2), (.int x3)] ∧ Z.Warmed39 U.vm ∧ U.heap = h0) (fun _ _ _ _ _ => True) (fun _ U o U' => ∃ v L, o = .returned v ∧ ownFresh Z n (own_seq x1 x2 x3) h0 n0 v U'.heap L ∧ FrameEnd U o U' L R1.cells R1.slots) := by
  refine MetFree.of_bodySF (plainFor_of_name pn_1) hisR ?_
  intro p e s m args below meth c s₁ Bd hml0 hP hK
  obtain ⟨rfl, hZ, hh⟩ := hP
  have hx := Bd.exec
  have hby := Bd.bytes
  have hml : c.maxLocals = 4 := hml0
  have hown : s.vm.findClass "com/example/lexipath/lexipath/fulltext/IndexBytesHashPinLaw" = some m.cls := findClass_of_methodNamed Bd.named
  have hnm := (name_of_methodNamed Bd.named Bd.method).1
  have hret := Bd.returns
  have hlk : meth.locks = false := BodyLoose.notSynchronized Bd
  have X0 : Stand p l e R1 s m #[(.int x0), (.int x1), (.int x2), (.int x3)] below meth c s₁ [] 0 0 := Stand.of_body Bd
  have e0 : s₁.heap = h0 := by rw [← hh, Bd.state]; rfl
  have N0 := Fr.nil n0
  show ownGo p.tables e below s₁ (entryFrame m #[(.int x0), (.int x1), (.int x2), (.int x3)] 4) (ownDone s (ownFresh Z n (own_seq x1 x2 x3) h0 n0) R1.cells R1.slots)
  rw [ef_1 m x0 x1 x2 x3]
  have K0 : Keep h0 h0 [] := Keep.refl _ _
  subst hn0
  have q : n = 0 ∨ n = 1 ∨ n = 2 ∨ n = 3 := by omega
  rcases q with rfl | rfl | rfl | rfl
  · show ownGo p.tables e below s₁ (mkF m 0 #[.val (.int (0 : Int32)), .val (.int x1), .val (.int x2), .val (.int x3)] []) _
    refine ownGo.st (fun _ k => XS.iloadN X0.here hx rfl (hb hby d1_0) rfl k) ?_
    show ownGo p.tables e below s₁ (mkF m 1 #[.val (.int (0 : Int32)), .val (.int x1), .val (.int x2), .val (.int x3)] [(.int (0 : Int32))]) _
    have hc1 : (0 : Int32) = (0 : Int32) := (by decide)
    refine ownGo.st (fun _ k => XS.ifNo X0.here hx rfl (hb hby d1_1) rfl ((if0 _ _).trans (teq hc1).2) k) ?_
    show ownGo p.tables e below s₁ (mkF m 4 #[.val (.int (0 : Int32)), .val (.int x1), .val (.int x2), .val (.int x3)] []) _
    refine ownGo.st (fun _ k => XS.iconst X0.here hx rfl (hb hby d1_4)  k) ?_
    show ownGo p.tables e below s₁ (mkF m 5 #[.val (.int (0 : Int32)), .val (.int x1), .val (.int x2), .val (.int x3)] [(.int (0 : Int32))]) _
    obtain ⟨T2, h2, b2, X2, e2, E2, V_b2, Ex_b2, g_b2, st2⟩ := own_newarray (aty := .byte) X0 hx hZ (own_at hw 0 rfl) e0 0 3 (by decide) (by decide) (by decide) (by decide) (ad := "[B") (by rfl) rfl (z := (0 : Int32)) rfl (g := (mkF m 5 #[.val (.int (0 : Int32)), .val (.int x1), .val (.int x2), .val (.int x3)] [(.int (0 : Int32))])) rfl (hb hby d1_5) rfl
    have gz_b2 : n0 ≤ b2 := Nat.le_trans Z0 (Nat.le_of_eq g_b2.symm)
    have Z2 : n0 ≤ h2.size := Nat.le_trans Z0 E2.1
    have K2 := K0.ext E2
    have sz_b2 : h0.size ≤ b2 := Nat.le_trans K0.1 (Nat.le_of_eq g_b2.symm)
    refine ownGo.st (st2) ?_
    show ownGo p.tables e below T2 (mkF m 7 #[.val (.int (0 : Int32)), .val (.int x1), .val (.int x2), .val (.int x3)] [(.ref b2)]) _
    exact own_retA X2 hx hlk hret (hb hby d1_7) ⟨_, rfl, N0, by rw [e2]; exact K2, sz_b2, _, by rw [e2]; exact V_b2, (fun i hi => by omega)⟩ (by decide) (by decide)
  · show ownGo p.tables e below s₁ (mkF m 0 #[.val (.int (1 : Int32)), .val (.int x1), .val (.int x2), .val (.int x3)] []) _
    refine ownGo.st (fun _ k => XS.iloadN X0.here hx rfl (hb hby d1_0) rfl k) ?_
    show ownGo p.tables e below s₁ (mkF m 1 #[.val (.int (1 : Int32)), .val (.int x1), .val (.int x2), .val (.int x3)] [(.int (1 : Int32))]) _
    have hc3 : ¬ ((1 : Int32) = (0 : Int32)) := (by decide)
    refine ownGo.st (fun _ k => XS.ifYes X0.here hx rfl (pc0 := 1) (pc' := 8) rfl (hb hby d1_1) rfl ((if0 _ _).trans (feq hc3).2) (by decide) (by decide) k) ?_
    show ownGo p.tables e below s₁ (mkF m 8 #[.val (.int (1 : Int32)), .val (.int x1), .val (.int x2), .val (.int x3)] []) _
    refine ownGo.st (fun _ k => XS.iloadN X0.here hx rfl (hb hby d1_8) rfl k) ?_
    show ownGo p.tables e below s₁ (mkF m 9 #[.val (.int (1 : Int32)), .val (.int x1), .val (.int x2), .val (.int x3)] [(.int (1 : Int32))]) _
    refine ownGo.st (fun _ k => XS.iconst X0.here hx rfl (hb hby d1_9)  k) ?_
    show ownGo p.tables e below s₁ (mkF m 10 #[.val (.int (1 : Int32)), .val (.int x1), .val (.int x2), .val (.int x3)] [(.int (1 : Int32)), (.int (1 : Int32))]) _
    have hc4 : (1 : Int32) = (1 : Int32) := (by decide)
    refine ownGo.st (fun _ k => XS.icmpNo X0.here hx rfl (hb hby d1_10) rfl (teq hc4).2 k) ?_
    show ownGo p.tables e below s₁ (mkF m 13 #[.val (.int (1 : Int32)), .val (.int x1), .val (.int x2), .val (.int x3)] []) _
    refine ownGo.st (fun _ k => XS.iconst X0.here hx rfl (hb hby d1_13)  k) ?_
    show ownGo p.tables e below s₁ (mkF m 14 #[.val (.int (1 : Int32)), .val (.int x1), .val (.int x2), .val (.int x3)] [(.int (1 : Int32))]) _
    obtain ⟨T5, h5, b5, X5, e5, E5, V_b5, Ex_b5, g_b5, st5⟩ := own_newarray (aty := .byte) X0 hx hZ (own_at hw 0 rfl) e0 1 3 (by decide) (by decide) (by decide) (by decide) (ad := "[B") (by rfl) rfl (z := (1 : Int32)) rfl (g := (mkF m 14 #[.val (.int (1 : Int32)), .val (.int x1), .val (.int x2), .val (.int x3)] [(.int (1 : Int32))])) rfl (hb hby d1_14) rfl
    have gz_b5 : n0 ≤ b5 := Nat.le_trans Z0 (Nat.le_of_eq g_b5.symm)
    have Z5 : n0 ≤ h5.size := Nat.le_trans Z0 E5.1
    have K5 := K0.ext E5
    have sz_b5 : h0.size ≤ b5 := Nat.le_trans K0.1 (Nat.le_of_eq g_b5.symm)
    refine ownGo.st (st5) ?_
    show ownGo p.tables e below T5 (mkF m 16 #[.val (.int (1 : Int32)), .val (.int x1), .val (.int x2), .val (.int x3)] [(.ref b5)]) _
    refine ownGo.st (fun _ k => XS.dup X5.here hx rfl (hb hby d1_16) rfl rfl k) ?_
    show ownGo p.tables e below T5 (mkF m 17 #[.val (.int (1 : Int32)), .val (.int x1), .val (.int x2), .val (.int x3)] [(.ref b5), (.ref b5)]) _
    refine ownGo.st (fun _ k => XS.iconst X5.here hx rfl (hb hby d1_17)  k) ?_
    show ownGo p.tables e below T5 (mkF m 18 #[.val (.int (1 : Int32)), .val (.int x1), .val (.int x2), .val (.int x3)] [(.int (0 : Int32)), (.ref b5), (.ref b5)]) _
    refine ownGo.st (fun _ k => XS.iloadN X5.here hx rfl (hb hby d1_18) rfl k) ?_
    show ownGo p.tables e below T5 (mkF m 19 #[.val (.int (1 : Int32)), .val (.int x1), .val (.int x2), .val (.int x3)] [(.int x1), (.int (0 : Int32)), (.ref b5), (.ref b5)]) _
    refine ownGo.st (fun _ k => XS.i2b X5.here hx rfl (hb hby d1_19) rfl k) ?_
    show ownGo p.tables e below T5 (mkF m 20 #[.val (.int (1 : Int32)), .val (.int x1), .val (.int x2), .val (.int x3)] [(.int (x1.toInt8.toInt32)), (.int (0 : Int32)), (.ref b5), (.ref b5)]) _
    obtain ⟨T6, h6, X6, e6, W6, V_b5_6, st6⟩ := own_bastore X5 hx hZ e5 V_b5 (i := 0) rfl (by decide) (g := (mkF m 20 #[.val (.int (1 : Int32)), .val (.int x1), .val (.int x2), .val (.int x3)] [(.int (x1.toInt8.toInt32)), (.int (0 : Int32)), (.ref b5), (.ref b5)])) rfl rfl (hb hby d1_20)
    have Ex_b5_7 := Ex_b5.wr W6
    have N6 := Fr.snoc X6 N0 gz_b5
    have Z6 : n0 ≤ h6.size := Nat.le_trans Z5 (Nat.le_of_eq W6.size.symm)
    have K6 := K5.wr W6 (Or.inr sz_b5)
    refine ownGo.st (st6) ?_
    show ownGo p.tables e below T6 (mkF m 21 #[.val (.int (1 : Int32)), .val (.int x1), .val (.int x2), .val (.int x3)] [(.ref b5)]) _
    exact own_retA X6 hx hlk hret (hb hby d1_21) ⟨_, rfl, N6, by rw [e6]; exact K6, sz_b5, _, by rw [e6]; exact V_b5_6, (fun i hi => by
        have q : i = 0 := by omega
        subst q; rfl)⟩ (by decide) (by decide)
  · show ownGo p.tables e below s₁ (mkF m 0 #[.val (.int (2 : Int32)), .val (.int x1), .val (.int x2), .val (.int x3)] []) _
    refine ownGo.st (fun _ k => XS.iloadN X0.here hx rfl (hb hby d1_0) rfl k) ?_
    show ownGo p.tables e below s₁ (mkF m 1 #[.val (.int (2 : Int32)), .val (.int x1), .val (.int x2), .val (.int x3)] [(.int (2 : Int32))]) _
    have hc8 : ¬ ((2 : Int32) = (0 : Int32)) := (by decide)
    refine ownGo.st (fun _ k => XS.ifYes X0.here hx rfl (pc0 := 1) (pc' := 8) rfl (hb hby d1_1) rfl ((if0 _ _).trans (feq hc8).2) (by decide) (by decide) k) ?_
    show ownGo p.tables e below s₁ (mkF m 8 #[.val (.int (2 : Int32)), .val (.int x1), .val (.int x2), .val (.int x3)] []) _
    refine ownGo.st (fun _ k => XS.iloadN X0.here hx rfl (hb hby d1_8) rfl k) ?_
    show ownGo p.tables e below s₁ (mkF m 9 #[.val (.int (2 : Int32)), .val (.int x1), .val (.int x2), .val (.int x3)] [(.int (2 : Int32))]) _
    refine ownGo.st (fun _ k => XS.iconst X0.here hx rfl (hb hby d1_9)  k) ?_
    show ownGo p.tables e below s₁ (mkF m 10 #[.val (.int (2 : Int32)), .val (.int x1), .val (.int x2), .val (.int x3)] [(.int (1 : Int32)), (.int (2 : Int32))]) _
    have hc9 : ¬ ((2 : Int32) = (1 : Int32)) := (by decide)
    refine ownGo.st (fun _ k => XS.icmpYes X0.here hx rfl (pc0 := 10) (pc' := 22) rfl (hb hby d1_10) rfl (feq hc9).2 (by decide) (by decide) k) ?_
    show ownGo p.tables e below s₁ (mkF m 22 #[.val (.int (2 : Int32)), .val (.int x1), .val (.int x2), .val (.int x3)] []) _
    refine ownGo.st (fun _ k => XS.iloadN X0.here hx rfl (hb hby d1_22) rfl k) ?_
    show ownGo p.tables e below s₁ (mkF m 23 #[.val (.int (2 : Int32)), .val (.int x1), .val (.int x2), .val (.int x3)] [(.int (2 : Int32))]) _
    refine ownGo.st (fun _ k => XS.iconst X0.here hx rfl (hb hby d1_23)  k) ?_
    show ownGo p.tables e below s₁ (mkF m 24 #[.val (.int (2 : Int32)), .val (.int x1), .val (.int x2), .val (.int x3)] [(.int (2 : Int32)), (.int (2 : Int32))]) _
    have hc10 : (2 : Int32) = (2 : Int32) := (by decide)
    refine ownGo.st (fun _ k => XS.icmpNo X0.here hx rfl (hb hby d1_24) rfl (teq hc10).2 k) ?_
    show ownGo p.tables e below s₁ (mkF m 27 #[.val (.int (2 : Int32)), .val (.int x1), .val (.int x2), .val (.int x3)] []) _
    refine ownGo.st (fun _ k => XS.iconst X0.here hx rfl (hb hby d1_27)  k) ?_
    show ownGo p.tables e below s₁ (mkF m 28 #[.val (.int (2 : Int32)), .val (.int x1), .val (.int x2), .val (.int x3)] [(.int (2 : Int32))]) _
    obtain ⟨T11, h11, b11, X11, e11, E11, V_b11, Ex_b11, g_b11, st11⟩ := own_newarray (aty := .byte) X0 hx hZ (own_at hw 0 rfl) e0 2 3 (by decide) (by decide) (by decide) (by decide) (ad := "[B") (by rfl) rfl (z := (2 : Int32)) rfl (g := (mkF m 28 #[.val (.int (2 : Int32)), .val (.int x1), .val (.int x2), .val (.int x3)] [(.int (2 : Int32))])) rfl (hb hby d1_28) rfl
    have gz_b11 : n0 ≤ b11 := Nat.le_trans Z0 (Nat.le_of_eq g_b11.symm)
    have Z11 : n0 ≤ h11.size := Nat.le_trans Z0 E11.1
    have K11 := K0.ext E11
    have sz_b11 : h0.size ≤ b11 := Nat.le_trans K0.1 (Nat.le_of_eq g_b11.symm)
    refine ownGo.st (st11) ?_
    show ownGo p.tables e below T11 (mkF m 30 #[.val (.int (2 : Int32)), .val (.int x1), .val (.int x2), .val (.int x3)] [(.ref b11)]) _
    refine ownGo.st (fun _ k => XS.dup X11.here hx rfl (hb hby d1_30) rfl rfl k) ?_
    show ownGo p.tables e below T11 (mkF m 31 #[.val (.int (2 : Int32)), .val (.int x1), .val (.int x2), .val (.int x3)] [(.ref b11), (.ref b11)]) _
    refine ownGo.st (fun _ k => XS.iconst X11.here hx rfl (hb hby d1_31)  k) ?_
    show ownGo p.tables e below T11 (mkF m 32 #[.val (.int (2 : Int32)), .val (.int x1), .val (.int x2), .val (.int x3)] [(.int (0 : Int32)), (.ref b11), (.ref b11)]) _
    refine ownGo.st (fun _ k => XS.iloadN X11.here hx rfl (hb hby d1_32) rfl k) ?_
    show ownGo p.tables e below T11 (mkF m 33 #[.val (.int (2 : Int32)), .val (.int x1), .val (.int x2), .val (.int x3)] [(.int x1), (.int (0 : Int32)), (.ref b11), (.ref b11)]) _
    refine ownGo.st (fun _ k => XS.i2b X11.here hx rfl (hb hby d1_33) rfl k) ?_
    show ownGo p.tables e below T11 (mkF m 34 #[.val (.int (2 : Int32)), .val (.int x1), .val (.int x2), .val (.int x3)] [(.int (x1.toInt8.toInt32)), (.int (0 : Int32)), (.ref b11), (.ref b11)]) _
    obtain ⟨T12, h12, X12, e12, W12, V_b11_12, st12⟩ := own_bastore X11 hx hZ e11 V_b11 (i := 0) rfl (by decide) (g := (mkF m 34 #[.val (.int (2 : Int32)), .val (.int x1), .val (.int x2), .val (.int x3)] [(.int (x1.toInt8.toInt32)), (.int (0 : Int32)), (.ref b11), (.ref b11)])) rfl rfl (hb hby d1_34)
    have Ex_b11_13 := Ex_b11.wr W12
    have N12 := Fr.snoc X12 N0 gz_b11
    have Z12 : n0 ≤ h12.size := Nat.le_trans Z11 (Nat.le_of_eq W12.size.symm)
    have K12 := K11.wr W12 (Or.inr sz_b11)
    refine ownGo.st (st12) ?_
    show ownGo p.tables e below T12 (mkF m 35 #[.val (.int (2 : Int32)), .val (.int x1), .val (.int x2), .val (.int x3)] [(.ref b11)]) _
    refine ownGo.st (fun _ k => XS.dup X12.here hx rfl (hb hby d1_35) rfl rfl k) ?_
    show ownGo p.tables e below T12 (mkF m 36 #[.val (.int (2 : Int32)), .val (.int x1), .val (.int x2), .val (.int x3)] [(.ref b11), (.ref b11)]) _
    refine ownGo.st (fun _ k => XS.iconst X12.here hx rfl (hb hby d1_36)  k) ?_
    show ownGo p.tables e below T12 (mkF m 37 #[.val (.int (2 : Int32)), .val (.int x1), .val (.int x2), .val (.int x3)] [(.int (1 : Int32)), (.ref b11), (.ref b11)]) _
    refine ownGo.st (fun _ k => XS.iloadN X12.here hx rfl (hb hby d1_37) rfl k) ?_
    show ownGo p.tables e below T12 (mkF m 38 #[.val (.int (2 : Int32)), .val (.int x1), .val (.int x2), .val (.int x3)] [(.int x2), (.int (1 : Int32)), (.ref b11), (.ref b11)]) _
    refine ownGo.st (fun _ k => XS.i2b X12.here hx rfl (hb hby d1_38) rfl k) ?_
    show ownGo p.tables e below T12 (mkF m 39 #[.val (.int (2 : Int32)), .val (.int x1), .val (.int x2), .val (.int x3)] [(.int (x2.toInt8.toInt32)), (.int (1 : Int32)), (.ref b11), (.ref b11)]) _
    obtain ⟨T14, h14, X14, e14, W14, V_b11_14, st14⟩ := own_bastore X12 hx hZ e12 V_b11_12 (i := 1) rfl (by decide) (g := (mkF m 39 #[.val (.int (2 : Int32)), .val (.int x1), .val (.int x2), .val (.int x3)] [(.int (x2.toInt8.toInt32)), (.int (1 : Int32)), (.ref b11), (.ref b11)])) rfl rfl (hb hby d1_39)
    have Ex_b11_15 := Ex_b11_13.wr W14
    have N14 := Fr.snoc X14 N12 gz_b11
    have Z14 : n0 ≤ h14.size := Nat.le_trans Z12 (Nat.le_of_eq W14.size.symm)
    have K14 := K12.wr W14 (Or.inr sz_b11)
    refine ownGo.st (st14) ?_
    show ownGo p.tables e below T14 (mkF m 40 #[.val (.int (2 : Int32)), .val (.int x1), .val (.int x2), .val (.int x3)] [(.ref b11)]) _
    exact own_retA X14 hx hlk hret (hb hby d1_40) ⟨_, rfl, N14, by rw [e14]; exact K14, sz_b11, _, by rw [e14]; exact V_b11_14, (fun i hi => by
        have q : i = 0 ∨ i = 1 := by omega
        rcases q with rfl | rfl <;> rfl)⟩ (by decide) (by decide)
  · show ownGo p.tables e below s₁ (mkF m 0 #[.val (.int (3 : Int32)), .val (.int x1), .val (.int x2), .val (.int x3)] []) _
    refine ownGo.st (fun _ k => XS.iloadN X0.here hx rfl (hb hby d1_0) rfl k) ?_
    show ownGo p.tables e below s₁ (mkF m 1 #[.val (.int (3 : Int32)), .val (.int x1), .val (.int x2), .val (.int x3)] [(.int (3 : Int32))]) _
    have hc16 : ¬ ((3 : Int32) = (0 : Int32)) := (by decide)
    refine ownGo.st (fun _ k => XS.ifYes X0.here hx rfl (pc0 := 1) (pc' := 8) rfl (hb hby d1_1) rfl ((if0 _ _).trans (feq hc16).2) (by decide) (by decide) k) ?_
    show ownGo p.tables e below s₁ (mkF m 8 #[.val (.int (3 : Int32)), .val (.int x1), .val (.int x2), .val (.int x3)] []) _
    refine ownGo.st (fun _ k => XS.iloadN X0.here hx rfl (hb hby d1_8) rfl k) ?_
    show ownGo p.tables e below s₁ (mkF m 9 #[.val (.int (3 : Int32)), .val (.int x1), .val (.int x2), .val (.int x3)] [(.int (3 : Int32))]) _
    refine ownGo.st (fun _ k => XS.iconst X0.here hx rfl (hb hby d1_9)  k) ?_
    show ownGo p.tables e below s₁ (mkF m 10 #[.val (.int (3 : Int32)), .val (.int x1), .val (.int x2), .val (.int x3)] [(.int (1 : Int32)), (.int (3 : Int32))]) _
    have hc17 : ¬ ((3 : Int32) = (1 : Int32)) := (by decide)
    refine ownGo.st (fun _ k => XS.icmpYes X0.here hx rfl (pc0 := 10) (pc' := 22) rfl (hb hby d1_10) rfl (feq hc17).2 (by decide) (by decide) k) ?_
    show ownGo p.tables e below s₁ (mkF m 22 #[.val (.int (3 : Int32)), .val (.int x1), .val (.int x2), .val (.int x3)] []) _
    refine ownGo.st (fun _ k => XS.iloadN X0.here hx rfl (hb hby d1_22) rfl k) ?_
    show ownGo p.tables e below s₁ (mkF m 23 #[.val (.int (3 : Int32)), .val (.int x1), .val (.int x2), .val (.int x3)] [(.int (3 : Int32))]) _
    refine ownGo.st (fun _ k => XS.iconst X0.here hx rfl (hb hby d1_23)  k) ?_
    show ownGo p.tables e below s₁ (mkF m 24 #[.val (.int (3 : Int32)), .val (.int x1), .val (.int x2), .val (.int x3)] [(.int (2 : Int32)), (.int (3 : Int32))]) _
    have hc18 : ¬ ((3 : Int32) = (2 : Int32)) := (by decide)
    refine ownGo.st (fun _ k => XS.icmpYes X0.here hx rfl (pc0 := 24) (pc' := 41) rfl (hb hby d1_24) rfl (feq hc18).2 (by decide) (by decide) k) ?_
    show ownGo p.tables e below s₁ (mkF m 41 #[.val (.int (3 : Int32)), .val (.int x1), .val (.int x2), .val (.int x3)] []) _
    refine ownGo.st (fun _ k => XS.iconst X0.here hx rfl (hb hby d1_41)  k) ?_
    show ownGo p.tables e below s₁ (mkF m 42 #[.val (.int (3 : Int32)), .val (.int x1), .val (.int x2), .val (.int x3)] [(.int (3 : Int32))]) _
    obtain ⟨T19, h19, b19, X19, e19, E19, V_b19, Ex_b19, g_b19, st19⟩ := own_newarray (aty := .byte) X0 hx hZ (own_at hw 0 rfl) e0 3 3 (by decide) (by decide) (by decide) (by decide) (ad := "[B") (by rfl) rfl (z := (3 : Int32)) rfl (g := (mkF m 42 #[.val (.int (3 : Int32)), .val (.int x1), .val (.int x2), .val (.int x3)] [(.int (3 : Int32))])) rfl (hb hby d1_42) rfl
    have gz_b19 : n0 ≤ b19 := Nat.le_trans Z0 (Nat.le_of_eq g_b19.symm)
    have Z19 : n0 ≤ h19.size := Nat.le_trans Z0 E19.1
    have K19 := K0.ext E19
    have sz_b19 : h0.size ≤ b19 := Nat.le_trans K0.1 (Nat.le_of_eq g_b19.symm)
    refine ownGo.st (st19) ?_
    show ownGo p.tables e below T19 (mkF m 44 #[.val (.int (3 : Int32)), .val (.int x1), .val (.int x2), .val (.int x3)] [(.ref b19)]) _
    refine ownGo.st (fun _ k => XS.dup X19.here hx rfl (hb hby d1_44) rfl rfl k) ?_
    show ownGo p.tables e below T19 (mkF m 45 #[.val (.int (3 : Int32)), .val (.int x1), .val (.int x2), .val (.int x3)] [(.ref b19), (.ref b19)]) _
    refine ownGo.st (fun _ k => XS.iconst X19.here hx rfl (hb hby d1_45)  k) ?_
    show ownGo p.tables e below T19 (mkF m 46 #[.val (.int (3 : Int32)), .val (.int x1), .val (.int x2), .val (.int x3)] [(.int (0 : Int32)), (.ref b19), (.ref b19)]) _
    refine ownGo.st (fun _ k => XS.iloadN X19.here hx rfl (hb hby d1_46) rfl k) ?_
    show ownGo p.tables e below T19 (mkF m 47 #[.val (.int (3 : Int32)), .val (.int x1), .val (.int x2), .val (.int x3)] [(.int x1), (.int (0 : Int32)), (.ref b19), (.ref b19)]) _
    refine ownGo.st (fun _ k => XS.i2b X19.here hx rfl (hb hby d1_47) rfl k) ?_
    show ownGo p.tables e below T19 (mkF m 48 #[.val (.int (3 : Int32)), .val (.int x1), .val (.int x2), .val (.int x3)] [(.int (x1.toInt8.toInt32)), (.int (0 : Int32)), (.ref b19), (.ref b19)]) _
    obtain ⟨T20, h20, X20, e20, W20, V_b19_20, st20⟩ := own_bastore X19 hx hZ e19 V_b19 (i := 0) rfl (by decide) (g := (mkF m 48 #[.val (.int (3 : Int32)), .val (.int x1), .val (.int x2), .val (.int x3)] [(.int (x1.toInt8.toInt32)), (.int (0 : Int32)), (.ref b19), (.ref b19)])) rfl rfl (hb hby d1_48)
    have Ex_b19_21 := Ex_b19.wr W20
    have N20 := Fr.snoc X20 N0 gz_b19
    have Z20 : n0 ≤ h20.size := Nat.le_trans Z19 (Nat.le_of_eq W20.size.symm)
    have K20 := K19.wr W20 (Or.inr sz_b19)
    refine ownGo.st (st20) ?_
    show ownGo p.tables e below T20 (mkF m 49 #[.val (.int (3 : Int32)), .val (.int x1), .val (.int x2), .val (.int x3)] [(.ref b19)]) _
    refine ownGo.st (fun _ k => XS.dup X20.here hx rfl (hb hby d1_49) rfl rfl k) ?_
    show ownGo p.tables e below T20 (mkF m 50 #[.val (.int (3 : Int32)), .val (.int x1), .val (.int x2), .val (.int x3)] [(.ref b19), (.ref b19)]) _
    refine ownGo.st (fun _ k => XS.iconst X20.here hx rfl (hb hby d1_50)  k) ?_
    show ownGo p.tables e below T20 (mkF m 51 #[.val (.int (3 : Int32)), .val (.int x1), .val (.int x2), .val (.int x3)] [(.int (1 : Int32)), (.ref b19), (.ref b19)]) _
    refine ownGo.st (fun _ k => XS.iloadN X20.here hx rfl (hb hby d1_51) rfl k) ?_
    show ownGo p.tables e below T20 (mkF m 52 #[.val (.int (3 : Int32)), .val (.int x1), .val (.int x2), .val (.int x3)] [(.int x2), (.int (1 : Int32)), (.ref b19), (.ref b19)]) _
    refine ownGo.st (fun _ k => XS.i2b X20.here hx rfl (hb hby d1_52) rfl k) ?_
    show ownGo p.tables e below T20 (mkF m 53 #[.val (.int (3 : Int32)), .val (.int x1), .val (.int x2), .val (.int x3)] [(.int (x2.toInt8.toInt32)), (.int (1 : Int32)), (.ref b19), (.ref b19)]) _
    obtain ⟨T22, h22, X22, e22, W22, V_b19_22, st22⟩ := own_bastore X20 hx hZ e20 V_b19_20 (i := 1) rfl (by decide) (g := (mkF m 53 #[.val (.int (3 : Int32)), .val (.int x1), .val (.int x2), .val (.int x3)] [(.int (x2.toInt8.toInt32)), (.int (1 : Int32)), (.ref b19), (.ref b19)])) rfl rfl (hb hby d1_53)
    have Ex_b19_23 := Ex_b19_21.wr W22
    have N22 := Fr.snoc X22 N20 gz_b19
    have Z22 : n0 ≤ h22.size := Nat.le_trans Z20 (Nat.le_of_eq W22.size.symm)
    have K22 := K20.wr W22 (Or.inr sz_b19)
    refine ownGo.st (st22) ?_
    show ownGo p.tables e below T22 (mkF m 54 #[.val (.int (3 : Int32)), .val (.int x1), .val (.int x2), .val (.int x3)] [(.ref b19)]) _
    refine ownGo.st (fun _ k => XS.dup X22.here hx rfl (hb hby d1_54) rfl rfl k) ?_
    show ownGo p.tables e below T22 (mkF m 55 #[.val (.int (3 : Int32)), .val (.int x1), .val (.int x2), .val (.int x3)] [(.ref b19), (.ref b19)]) _
    refine ownGo.st (fun _ k => XS.iconst X22.here hx rfl (hb hby d1_55)  k) ?_
    show ownGo p.tables e below T22 (mkF m 56 #[.val (.int (3 : Int32)), .val (.int x1), .val (.int x2), .val (.int x3)] [(.int (2 : Int32)), (.ref b19), (.ref b19)]) _
    refine ownGo.st (fun _ k => XS.iloadN X22.here hx rfl (hb hby d1_56) rfl k) ?_
    show ownGo p.tables e below T22 (mkF m 57 #[.val (.int (3 : Int32)), .val (.int x1), .val (.int x2), .val (.int x3)] [(.int x3), (.int (2 : Int32)), (.ref b19), (.ref b19)]) _
    refine ownGo.st (fun _ k => XS.i2b X22.here hx rfl (hb hby d1_57) rfl k) ?_
    show ownGo p.tables e below T22 (mkF m 58 #[.val (.int (3 : Int32)), .val (.int x1), .val (.int x2), .val (.int x3)] [(.int (x3.toInt8.toInt32)), (.int (2 : Int32)), (.ref b19), (.ref b19)]) _
    obtain ⟨T24, h24, X24, e24, W24, V_b19_24, st24⟩ := own_bastore X22 hx hZ e22 V_b19_22 (i := 2) rfl (by decide) (g := (mkF m 58 #[.val (.int (3 : Int32)), .val (.int x1), .val (.int x2), .val (.int x3)] [(.int (x3.toInt8.toInt32)), (.int (2 : Int32)), (.ref b19), (.ref b19)])) rfl rfl (hb hby d1_58)
    have Ex_b19_25 := Ex_b19_23.wr W24
    have N24 := Fr.snoc X24 N22 gz_b19
    have Z24 : n0 ≤ h24.size := Nat.le_trans Z22 (Nat.le_of_eq W24.size.symm)
    have K24 := K22.wr W24 (Or.inr sz_b19)
    refine ownGo.st (st24) ?_
    show ownGo p.tables e below T24 (mkF m 59 #[.val (.int (3 : Int32)), .val (.int x1), .val (.int x2), .val (.int x3)] [(.ref b19)]) _
    exact own_retA X24 hx hlk hret (hb hby d1_59) ⟨_, rfl, N24, by rw [e24]; exact K24, sz_b19, _, by rw [e24]; exact V_b19_24, (fun i hi => by
        have q : i = 0 ∨ i = 1 ∨ i = 2 := by omega
        rcases q with rfl | rfl | rfl <;> rfl)⟩ (by decide) (by decide)
theorem d2_0 : decode method_3_code 0 = .ok (.iload_n 0, 1) := by decide +kernel
theorem d2_1 : decode method_3_code 1 = .ok (.ifCond .ne 13, 3) := by decide +kernel
theorem d2_4 : decode method_3_code 4 = .ok (.iconst 1, 1) := by decide +kernel
theorem d2_5 : decode method_3_code 5 = .ok (.newarray .byte, 2) := by decide +kernel
theorem d2_7 : decode method_3_code 7 = .ok (.dup, 1) := by decide +kernel
theorem d2_8 : decode method_3_code 8 = .ok (.iconst 0, 1) := by decide +kernel
theorem d2_9 : decode method_3_code 9 = .ok (.iload 4, 2) := by decide +kernel
theorem d2_11 : decode method_3_code 11 = .ok (.i2b, 1) := by decide +kernel
theorem d2_12 : decode method_3_code 12 = .ok (.bastore, 1) := by decide +kernel
theorem d2_13 : decode method_3_code 13 = .ok (.areturn, 1) := by decide +kernel
theorem d2_14 : decode method_3_code 14 = .ok (.iload_n 0, 1) := by decide +kernel
theorem d2_15 : decode method_3_code 15 = .ok (.iconst 1, 1) := by decide +kernel
theorem d2_16 : decode method_3_code 16 = .ok (.if_icmp .ne 18, 3) := by decide +kernel
theorem d2_19 : decode method_3_code 19 = .ok (.iconst 2, 1) := by decide +kernel
theorem d2_20 : decode method_3_code 20 = .ok (.newarray .byte, 2) := by decide +kernel
theorem d2_22 : decode method_3_code 22 = .ok (.dup, 1) := by decide +kernel
theorem d2_23 : decode method_3_code 23 = .ok (.iconst 0, 1) := by decide +kernel
theorem d2_24 : decode method_3_code 24 = .ok (.iload_n 1, 1) := by decide +kernel
theorem d2_25 : decode method_3_code 25 = .ok (.i2b, 1) := by decide +kernel
theorem d2_26 : decode method_3_code 26 = .ok (.bastore, 1) := by decide +kernel
theorem d2_27 : decode method_3_code 27 = .ok (.dup, 1) := by decide +kernel
theorem d2_28 : decode method_3_code 28 = .ok (.iconst 1, 1) := by decide +kernel
theorem d2_29 : decode method_3_code 29 = .ok (.iload 4, 2) := by decide +kernel
theorem d2_31 : decode method_3_code 31 = .ok (.i2b, 1) := by decide +kernel
theorem d2_32 : decode method_3_code 32 = .ok (.bastore, 1) := by decide +kernel
theorem d2_33 : decode method_3_code 33 = .ok (.areturn, 1) := by decide +kernel
theorem d2_34 : decode method_3_code 34 = .ok (.iload_n 0, 1) := by decide +kernel
theorem d2_35 : decode method_3_code 35 = .ok (.iconst 2, 1) := by decide +kernel
theorem d2_36 : decode method_3_code 36 = .ok (.if_icmp .ne 23, 3) := by decide +kernel
theorem d2_39 : decode method_3_code 39 = .ok (.iconst 3, 1) := by decide +kernel
theorem d2_40 : decode method_3_code 40 = .ok (.newarray .byte, 2) := by decide +kernel
theorem d2_42 : decode method_3_code 42 = .ok (.dup, 1) := by decide +kernel
theorem d2_43 : decode method_3_code 43 = .ok (.iconst 0, 1) := by decide +kernel
theorem d2_44 : decode method_3_code 44 = .ok (.iload_n 1, 1) := by decide +kernel
theorem d2_45 : decode method_3_code 45 = .ok (.i2b, 1) := by decide +kernel
theorem d2_46 : decode method_3_code 46 = .ok (.bastore, 1) := by decide +kernel
theorem d2_47 : decode method_3_code 47 = .ok (.dup, 1) := by decide +kernel
theorem d2_48 : decode method_3_code 48 = .ok (.iconst 1, 1) := by decide +kernel
theorem d2_49 : decode method_3_code 49 = .ok (.iload_n 2, 1) := by decide +kernel
theorem d2_50 : decode method_3_code 50 = .ok (.i2b, 1) := by decide +kernel
theorem d2_51 : decode method_3_code 51 = .ok (.bastore, 1) := by decide +kernel
theorem d2_52 : decode method_3_code 52 = .ok (.dup, 1) := by decide +kernel
theorem d2_53 : decode method_3_code 53 = .ok (.iconst 2, 1) := by decide +kernel
theorem d2_54 : decode method_3_code 54 = .ok (.iload 4, 2) := by decide +kernel
theorem d2_56 : decode method_3_code 56 = .ok (.i2b, 1) := by decide +kernel
theorem d2_57 : decode method_3_code 57 = .ok (.bastore, 1) := by decide +kernel
theorem d2_58 : decode method_3_code 58 = .ok (.areturn, 1) := by decide +kernel
theorem d2_59 : decode method_3_code 59 = .ok (.iconst 4, 1) := by decide +kernel
theorem d2_60 : decode method_3_code 60 = .ok (.newarray .byte, 2) := by decide +kernel
theorem d2_62 : decode method_3_code 62 = .ok (.dup, 1) := by decide +kernel
theorem d2_63 : decode method_3_code 63 = .ok (.iconst 0, 1) := by decide +kernel
theorem d2_64 : decode method_3_code 64 = .ok (.iload_n 1, 1) := by decide +kernel
theorem d2_65 : decode method_3_code 65 = .ok (.i2b, 1) := by decide +kernel
theorem d2_66 : decode method_3_code 66 = .ok (.bastore, 1) := by decide +kernel
theorem d2_67 : decode method_3_code 67 = .ok (.dup, 1) := by decide +kernel
theorem d2_68 : decode method_3_code 68 = .ok (.iconst 1, 1) := by decide +kernel
theorem d2_69 : decode method_3_code 69 = .ok (.iload_n 2, 1) := by decide +kernel
theorem d2_70 : decode method_3_code 70 = .ok (.i2b, 1) := by decide +kernel
theorem d2_71 : decode method_3_code 71 = .ok (.bastore, 1) := by decide +kernel
theorem d2_72 : decode method_3_code 72 = .ok (.dup, 1) := by decide +kernel
theorem d2_73 : decode method_3_code 73 = .ok (.iconst 2, 1) := by decide +kernel
theorem d2_74 : decode method_3_code 74 = .ok (.iload_n 3, 1) := by decide +kernel
theorem d2_75 : decode method_3_code 75 = .ok (.i2b, 1) := by decide +kernel
theorem d2_76 : decode method_3_code 76 = .ok (.bastore, 1) := by decide +kernel
theorem d2_77 : decode method_3_code 77 = .ok (.dup, 1) := by decide +kernel
theorem d2_78 : decode method_3_code 78 = .ok (.iconst 3, 1) := by decide +kernel
theorem d2_79 : decode method_3_code 79 = .ok (.iload 4, 2) := by decide +kernel
theorem d2_81 : decode method_3_code 81 = .ok (.i2b, 1) := by decide +kernel
theorem d2_82 : decode method_3_code 82 = .ok (.bastore, 1) := by decide +kernel
theorem d2_83 : decode method_3_code 83 = .ok (.areturn, 1) := by decide +kernel
abbrev R2 : Room := { frames := 0, cells := 1, slots := 4, locals := 0 }
theorem pn_2 : plainName "com/example/lexipath/lexipath/fulltext/IndexBytesHashPinLaw" = true := by first | (simp [plainName, overriddenIn]; done) | decide +kernel
theorem ef_2 (m : MethodId) (x0 : Int32) (x1 : Int32) (x2 : Int32) (x3 : Int32) (x4 : Int32) : entryFrame m #[(.int x0), (.int x1), (.int x2), (.int x3), (.int x4)] 5 = mkF m 0 #[.val (.int x0), .val (.int x1), .val (.int x2), .val (.int x3), .val (.int x4)] [] := by first | (simp [entryFrame, mkF, argsToLocals, Value.category]; done) | rfl
set_option maxRecDepth 65536 in
set_option maxHeartbeats 40000000 in
theorem rm2 (l : Launch) (Z : State) (a0 : Array Value) (hw : ∀ d ∈ tables_1, d.before a0 Z = true) (x0 : Int32) (x1 : Int32) (x2 : Int32) (x3 : Int32) (x4 : Int32) (n : Nat) (h0 : Heap) (n0 : Nat) (Z0 : n0 ≤ h0.size) (hn : n < 4) (hn0 : x0 = Int32.ofNat n) :
    MetFree l (⟨"com/example/lexipath/lexipath/fulltext/IndexBytesHashPinLaw", "extend", "(IIIII)[B"⟩ : MethodName) (head1 [Jvm.Cond.code (⟨"com/example/lexipath/lexipath/fulltext/IndexBytesHashPinLaw", "extend", "(IIIII)[B"⟩ : MethodName) method_3_code 5 (some (.array .byte))] R2) (fun a U => a = #[(.int x0), (.int x1), (.int x2), (.int x3), (.int x4)] ∧ Z.Warmed39 U.vm ∧ U.heap = h0) (fun _ _ _ _ _ => True) (fun _ U o U' => ∃ v L, o = .returned v ∧ ownFresh Z (n + 1) (own_ext x1 x2 x3 x4 n) h0 n0 v U'.heap L ∧ FrameEnd U o U' L R2.cells R2.slots) := by
  refine MetFree.of_bodySF (plainFor_of_name pn_2) hisR ?_
  intro p e s m args below meth c s₁ Bd hml0 hP hK
  obtain ⟨rfl, hZ, hh⟩ := hP
  have hx := Bd.exec
  have hby := Bd.bytes
  have hml : c.maxLocals = 5 := hml0
  have hown : s.vm.findClass "com/example/lexipath/lexipath/fulltext/IndexBytesHashPinLaw" = some m.cls := findClass_of_methodNamed Bd.named
  have hnm := (name_of_methodNamed Bd.named Bd.method).1
  have hret := Bd.returns
  have hlk : meth.locks = false := BodyLoose.notSynchronized Bd
  have X0 : Stand p l e R2 s m #[(.int x0), (.int x1), (.int x2), (.int x3), (.int x4)] below meth c s₁ [] 0 0 := Stand.of_body Bd
  have e0 : s₁.heap = h0 := by rw [← hh, Bd.state]; rfl
  have N0 := Fr.nil n0
  show ownGo p.tables e below s₁ (entryFrame m #[(.int x0), (.int x1), (.int x2), (.int x3), (.int x4)] 5) (ownDone s (ownFresh Z (n + 1) (own_ext x1 x2 x3 x4 n) h0 n0) R2.cells R2.slots)
  rw [ef_2 m x0 x1 x2 x3 x4]
  have K0 : Keep h0 h0 [] := Keep.refl _ _
  subst hn0
  have q : n = 0 ∨ n = 1 ∨ n = 2 ∨ n = 3 := by omega
  rcases q with rfl | rfl | rfl | rfl
  · show ownGo p.tables e below s₁ (mkF m 0 #[.val (.int (0 : Int32)), .val (.int x1), .val (.int x2), .val (.int x3), .val (.int x4)] []) _
    refine ownGo.st (fun _ k => XS.iloadN X0.here hx rfl (hb hby d2_0) rfl k) ?_
    show ownGo p.tables e below s₁ (mkF m 1 #[.val (.int (0 : Int32)), .val (.int x1), .val (.int x2), .val (.int x3), .val (.int x4)] [(.int (0 : Int32))]) _
    have hc26 : (0 : Int32) = (0 : Int32) := (by decide)
    refine ownGo.st (fun _ k => XS.ifNo X0.here hx rfl (hb hby d2_1) rfl ((if0 _ _).trans (teq hc26).2) k) ?_
    show ownGo p.tables e below s₁ (mkF m 4 #[.val (.int (0 : Int32)), .val (.int x1), .val (.int x2), .val (.int x3), .val (.int x4)] []) _
    refine ownGo.st (fun _ k => XS.iconst X0.here hx rfl (hb hby d2_4)  k) ?_
    show ownGo p.tables e below s₁ (mkF m 5 #[.val (.int (0 : Int32)), .val (.int x1), .val (.int x2), .val (.int x3), .val (.int x4)] [(.int (1 : Int32))]) _
    obtain ⟨T27, h27, b27, X27, e27, E27, V_b27, Ex_b27, g_b27, st27⟩ := own_newarray (aty := .byte) X0 hx hZ (own_at hw 0 rfl) e0 1 4 (by decide) (by decide) (by decide) (by decide) (ad := "[B") (by rfl) rfl (z := (1 : Int32)) rfl (g := (mkF m 5 #[.val (.int (0 : Int32)), .val (.int x1), .val (.int x2), .val (.int x3), .val (.int x4)] [(.int (1 : Int32))])) rfl (hb hby d2_5) rfl
    have gz_b27 : n0 ≤ b27 := Nat.le_trans Z0 (Nat.le_of_eq g_b27.symm)
    have Z27 : n0 ≤ h27.size := Nat.le_trans Z0 E27.1
    have K27 := K0.ext E27
    have sz_b27 : h0.size ≤ b27 := Nat.le_trans K0.1 (Nat.le_of_eq g_b27.symm)
    refine ownGo.st (st27) ?_
    show ownGo p.tables e below T27 (mkF m 7 #[.val (.int (0 : Int32)), .val (.int x1), .val (.int x2), .val (.int x3), .val (.int x4)] [(.ref b27)]) _
    refine ownGo.st (fun _ k => XS.dup X27.here hx rfl (hb hby d2_7) rfl rfl k) ?_
    show ownGo p.tables e below T27 (mkF m 8 #[.val (.int (0 : Int32)), .val (.int x1), .val (.int x2), .val (.int x3), .val (.int x4)] [(.ref b27), (.ref b27)]) _
    refine ownGo.st (fun _ k => XS.iconst X27.here hx rfl (hb hby d2_8)  k) ?_
    show ownGo p.tables e below T27 (mkF m 9 #[.val (.int (0 : Int32)), .val (.int x1), .val (.int x2), .val (.int x3), .val (.int x4)] [(.int (0 : Int32)), (.ref b27), (.ref b27)]) _
    refine ownGo.st (fun _ k => XS.iload X27.here hx rfl (hb hby d2_9) rfl k) ?_
    show ownGo p.tables e below T27 (mkF m 11 #[.val (.int (0 : Int32)), .val (.int x1), .val (.int x2), .val (.int x3), .val (.int x4)] [(.int x4), (.int (0 : Int32)), (.ref b27), (.ref b27)]) _
    refine ownGo.st (fun _ k => XS.i2b X27.here hx rfl (hb hby d2_11) rfl k) ?_
    show ownGo p.tables e below T27 (mkF m 12 #[.val (.int (0 : Int32)), .val (.int x1), .val (.int x2), .val (.int x3), .val (.int x4)] [(.int (x4.toInt8.toInt32)), (.int (0 : Int32)), (.ref b27), (.ref b27)]) _
    obtain ⟨T28, h28, X28, e28, W28, V_b27_28, st28⟩ := own_bastore X27 hx hZ e27 V_b27 (i := 0) rfl (by decide) (g := (mkF m 12 #[.val (.int (0 : Int32)), .val (.int x1), .val (.int x2), .val (.int x3), .val (.int x4)] [(.int (x4.toInt8.toInt32)), (.int (0 : Int32)), (.ref b27), (.ref b27)])) rfl rfl (hb hby d2_12)
    have Ex_b27_29 := Ex_b27.wr W28
    have N28 := Fr.snoc X28 N0 gz_b27
    have Z28 : n0 ≤ h28.size := Nat.le_trans Z27 (Nat.le_of_eq W28.size.symm)
    have K28 := K27.wr W28 (Or.inr sz_b27)
    refine ownGo.st (st28) ?_
    show ownGo p.tables e below T28 (mkF m 13 #[.val (.int (0 : Int32)), .val (.int x1), .val (.int x2), .val (.int x3), .val (.int x4)] [(.ref b27)]) _
    exact own_retA X28 hx hlk hret (hb hby d2_13) ⟨_, rfl, N28, by rw [e28]; exact K28, sz_b27, _, by rw [e28]; exact V_b27_28, (fun i hi => by
        have q : i = 0 := by omega
        subst q; rfl)⟩ (by decide) (by decide)
  · show ownGo p.tables e below s₁ (mkF m 0 #[.val (.int (1 : Int32)), .val (.int x1), .val (.int x2), .val (.int x3), .val (.int x4)] []) _
    refine ownGo.st (fun _ k => XS.iloadN X0.here hx rfl (hb hby d2_0) rfl k) ?_
    show ownGo p.tables e below s₁ (mkF m 1 #[.val (.int (1 : Int32)), .val (.int x1), .val (.int x2), .val (.int x3), .val (.int x4)] [(.int (1 : Int32))]) _
    have hc30 : ¬ ((1 : Int32) = (0 : Int32)) := (by decide)
    refine ownGo.st (fun _ k => XS.ifYes X0.here hx rfl (pc0 := 1) (pc' := 14) rfl (hb hby d2_1) rfl ((if0 _ _).trans (feq hc30).2) (by decide) (by decide) k) ?_
    show ownGo p.tables e below s₁ (mkF m 14 #[.val (.int (1 : Int32)), .val (.int x1), .val (.int x2), .val (.int x3), .val (.int x4)] []) _
    refine ownGo.st (fun _ k => XS.iloadN X0.here hx rfl (hb hby d2_14) rfl k) ?_
    show ownGo p.tables e below s₁ (mkF m 15 #[.val (.int (1 : Int32)), .val (.int x1), .val (.int x2), .val (.int x3), .val (.int x4)] [(.int (1 : Int32))]) _
    refine ownGo.st (fun _ k => XS.iconst X0.here hx rfl (hb hby d2_15)  k) ?_
    show ownGo p.tables e below s₁ (mkF m 16 #[.val (.int (1 : Int32)), .val (.int x1), .val (.int x2), .val (.int x3), .val (.int x4)] [(.int (1 : Int32)), (.int (1 : Int32))]) _
    have hc31 : (1 : Int32) = (1 : Int32) := (by decide)
    refine ownGo.st (fun _ k => XS.icmpNo X0.here hx rfl (hb hby d2_16) rfl (teq hc31).2 k) ?_
    show ownGo p.tables e below s₁ (mkF m 19 #[.val (.int (1 : Int32)), .val (.int x1), .val (.int x2), .val (.int x3), .val (.int x4)] []) _
    refine ownGo.st (fun _ k => XS.iconst X0.here hx rfl (hb hby d2_19)  k) ?_
    show ownGo p.tables e below s₁ (mkF m 20 #[.val (.int (1 : Int32)), .val (.int x1), .val (.int x2), .val (.int x3), .val (.int x4)] [(.int (2 : Int32))]) _
    obtain ⟨T32, h32, b32, X32, e32, E32, V_b32, Ex_b32, g_b32, st32⟩ := own_newarray (aty := .byte) X0 hx hZ (own_at hw 0 rfl) e0 2 4 (by decide) (by decide) (by decide) (by decide) (ad := "[B") (by rfl) rfl (z := (2 : Int32)) rfl (g := (mkF m 20 #[.val (.int (1 : Int32)), .val (.int x1), .val (.int x2), .val (.int x3), .val (.int x4)] [(.int (2 : Int32))])) rfl (hb hby d2_20) rfl
    have gz_b32 : n0 ≤ b32 := Nat.le_trans Z0 (Nat.le_of_eq g_b32.symm)
    have Z32 : n0 ≤ h32.size := Nat.le_trans Z0 E32.1
    have K32 := K0.ext E32
    have sz_b32 : h0.size ≤ b32 := Nat.le_trans K0.1 (Nat.le_of_eq g_b32.symm)
    refine ownGo.st (st32) ?_
    show ownGo p.tables e below T32 (mkF m 22 #[.val (.int (1 : Int32)), .val (.int x1), .val (.int x2), .val (.int x3), .val (.int x4)] [(.ref b32)]) _
    refine ownGo.st (fun _ k => XS.dup X32.here hx rfl (hb hby d2_22) rfl rfl k) ?_
    show ownGo p.tables e below T32 (mkF m 23 #[.val (.int (1 : Int32)), .val (.int x1), .val (.int x2), .val (.int x3), .val (.int x4)] [(.ref b32), (.ref b32)]) _
    refine ownGo.st (fun _ k => XS.iconst X32.here hx rfl (hb hby d2_23)  k) ?_
    show ownGo p.tables e below T32 (mkF m 24 #[.val (.int (1 : Int32)), .val (.int x1), .val (.int x2), .val (.int x3), .val (.int x4)] [(.int (0 : Int32)), (.ref b32), (.ref b32)]) _
    refine ownGo.st (fun _ k => XS.iloadN X32.here hx rfl (hb hby d2_24) rfl k) ?_
    show ownGo p.tables e below T32 (mkF m 25 #[.val (.int (1 : Int32)), .val (.int x1), .val (.int x2), .val (.int x3), .val (.int x4)] [(.int x1), (.int (0 : Int32)), (.ref b32), (.ref b32)]) _
    refine ownGo.st (fun _ k => XS.i2b X32.here hx rfl (hb hby d2_25) rfl k) ?_
    show ownGo p.tables e below T32 (mkF m 26 #[.val (.int (1 : Int32)), .val (.int x1), .val (.int x2), .val (.int x3), .val (.int x4)] [(.int (x1.toInt8.toInt32)), (.int (0 : Int32)), (.ref b32), (.ref b32)]) _
    obtain ⟨T33, h33, X33, e33, W33, V_b32_33, st33⟩ := own_bastore X32 hx hZ e32 V_b32 (i := 0) rfl (by decide) (g := (mkF m 26 #[.val (.int (1 : Int32)), .val (.int x1), .val (.int x2), .val (.int x3), .val (.int x4)] [(.int (x1.toInt8.toInt32)), (.int (0 : Int32)), (.ref b32), (.ref b32)])) rfl rfl (hb hby d2_26)
    have Ex_b32_34 := Ex_b32.wr W33
    have N33 := Fr.snoc X33 N0 gz_b32
    have Z33 : n0 ≤ h33.size := Nat.le_trans Z32 (Nat.le_of_eq W33.size.symm)
    have K33 := K32.wr W33 (Or.inr sz_b32)
    refine ownGo.st (st33) ?_
    show ownGo p.tables e below T33 (mkF m 27 #[.val (.int (1 : Int32)), .val (.int x1), .val (.int x2), .val (.int x3), .val (.int x4)] [(.ref b32)]) _
    refine ownGo.st (fun _ k => XS.dup X33.here hx rfl (hb hby d2_27) rfl rfl k) ?_
    show ownGo p.tables e below T33 (mkF m 28 #[.val (.int (1 : Int32)), .val (.int x1), .val (.int x2), .val (.int x3), .val (.int x4)] [(.ref b32), (.ref b32)]) _
    refine ownGo.st (fun _ k => XS.iconst X33.here hx rfl (hb hby d2_28)  k) ?_
    show ownGo p.tables e below T33 (mkF m 29 #[.val (.int (1 : Int32)), .val (.int x1), .val (.int x2), .val (.int x3), .val (.int x4)] [(.int (1 : Int32)), (.ref b32), (.ref b32)]) _
    refine ownGo.st (fun _ k => XS.iload X33.here hx rfl (hb hby d2_29) rfl k) ?_
    show ownGo p.tables e below T33 (mkF m 31 #[.val (.int (1 : Int32)), .val (.int x1), .val (.int x2), .val (.int x3), .val (.int x4)] [(.int x4), (.int (1 : Int32)), (.ref b32), (.ref b32)]) _
    refine ownGo.st (fun _ k => XS.i2b X33.here hx rfl (hb hby d2_31) rfl k) ?_
    show ownGo p.tables e below T33 (mkF m 32 #[.val (.int (1 : Int32)), .val (.int x1), .val (.int x2), .val (.int x3), .val (.int x4)] [(.int (x4.toInt8.toInt32)), (.int (1 : Int32)), (.ref b32), (.ref b32)]) _
    obtain ⟨T35, h35, X35, e35, W35, V_b32_35, st35⟩ := own_bastore X33 hx hZ e33 V_b32_33 (i := 1) rfl (by decide) (g := (mkF m 32 #[.val (.int (1 : Int32)), .val (.int x1), .val (.int x2), .val (.int x3), .val (.int x4)] [(.int (x4.toInt8.toInt32)), (.int (1 : Int32)), (.ref b32), (.ref b32)])) rfl rfl (hb hby d2_32)
    have Ex_b32_36 := Ex_b32_34.wr W35
    have N35 := Fr.snoc X35 N33 gz_b32
    have Z35 : n0 ≤ h35.size := Nat.le_trans Z33 (Nat.le_of_eq W35.size.symm)
    have K35 := K33.wr W35 (Or.inr sz_b32)
    refine ownGo.st (st35) ?_
    show ownGo p.tables e below T35 (mkF m 33 #[.val (.int (1 : Int32)), .val (.int x1), .val (.int x2), .val (.int x3), .val (.int x4)] [(.ref b32)]) _
    exact own_retA X35 hx hlk hret (hb hby d2_33) ⟨_, rfl, N35, by rw [e35]; exact K35, sz_b32, _, by rw [e35]; exact V_b32_35, (fun i hi => by
        have q : i = 0 ∨ i = 1 := by omega
        rcases q with rfl | rfl <;> rfl)⟩ (by decide) (by decide)
  · show ownGo p.tables e below s₁ (mkF m 0 #[.val (.int (2 : Int32)), .val (.int x1), .val (.int x2), .val (.int x3), .val (.int x4)] []) _
    refine ownGo.st (fun _ k => XS.iloadN X0.here hx rfl (hb hby d2_0) rfl k) ?_
    show ownGo p.tables e below s₁ (mkF m 1 #[.val (.int (2 : Int32)), .val (.int x1), .val (.int x2), .val (.int x3), .val (.int x4)] [(.int (2 : Int32))]) _
    have hc37 : ¬ ((2 : Int32) = (0 : Int32)) := (by decide)
    refine ownGo.st (fun _ k => XS.ifYes X0.here hx rfl (pc0 := 1) (pc' := 14) rfl (hb hby d2_1) rfl ((if0 _ _).trans (feq hc37).2) (by decide) (by decide) k) ?_
    show ownGo p.tables e below s₁ (mkF m 14 #[.val (.int (2 : Int32)), .val (.int x1), .val (.int x2), .val (.int x3), .val (.int x4)] []) _
    refine ownGo.st (fun _ k => XS.iloadN X0.here hx rfl (hb hby d2_14) rfl k) ?_
    show ownGo p.tables e below s₁ (mkF m 15 #[.val (.int (2 : Int32)), .val (.int x1), .val (.int x2), .val (.int x3), .val (.int x4)] [(.int (2 : Int32))]) _
    refine ownGo.st (fun _ k => XS.iconst X0.here hx rfl (hb hby d2_15)  k) ?_
    show ownGo p.tables e below s₁ (mkF m 16 #[.val (.int (2 : Int32)), .val (.int x1), .val (.int x2), .val (.int x3), .val (.int x4)] [(.int (1 : Int32)), (.int (2 : Int32))]) _
    have hc38 : ¬ ((2 : Int32) = (1 : Int32)) := (by decide)
    refine ownGo.st (fun _ k => XS.icmpYes X0.here hx rfl (pc0 := 16) (pc' := 34) rfl (hb hby d2_16) rfl (feq hc38).2 (by decide) (by decide) k) ?_
    show ownGo p.tables e below s₁ (mkF m 34 #[.val (.int (2 : Int32)), .val (.int x1), .val (.int x2), .val (.int x3), .val (.int x4)] []) _
    refine ownGo.st (fun _ k => XS.iloadN X0.here hx rfl (hb hby d2_34) rfl k) ?_
    show ownGo p.tables e below s₁ (mkF m 35 #[.val (.int (2 : Int32)), .val (.int x1), .val (.int x2), .val (.int x3), .val (.int x4)] [(.int (2 : Int32))]) _
    refine ownGo.st (fun _ k => XS.iconst X0.here hx rfl (hb hby d2_35)  k) ?_
    show ownGo p.tables e below s₁ (mkF m 36 #[.val (.int (2 : Int32)), .val (.int x1), .val (.int x2), .val (.int x3), .val (.int x4)] [(.int (2 : Int32)), (.int (2 : Int32))]) _
    have hc39 : (2 : Int32) = (2 : Int32) := (by decide)
    refine ownGo.st (fun _ k => XS.icmpNo X0.here hx rfl (hb hby d2_36) rfl (teq hc39).2 k) ?_
    show ownGo p.tables e below s₁ (mkF m 39 #[.val (.int (2 : Int32)), .val (.int x1), .val (.int x2), .val (.int x3), .val (.int x4)] []) _
    refine ownGo.st (fun _ k => XS.iconst X0.here hx rfl (hb hby d2_39)  k) ?_
    show ownGo p.tables e below s₁ (mkF m 40 #[.val (.int (2 : Int32)), .val (.int x1), .val (.int x2), .val (.int x3), .val (.int x4)] [(.int (3 : Int32))]) _
    obtain ⟨T40, h40, b40, X40, e40, E40, V_b40, Ex_b40, g_b40, st40⟩ := own_newarray (aty := .byte) X0 hx hZ (own_at hw 0 rfl) e0 3 4 (by decide) (by decide) (by decide) (by decide) (ad := "[B") (by rfl) rfl (z := (3 : Int32)) rfl (g := (mkF m 40 #[.val (.int (2 : Int32)), .val (.int x1), .val (.int x2), .val (.int x3), .val (.int x4)] [(.int (3 : Int32))])) rfl (hb hby d2_40) rfl
    have gz_b40 : n0 ≤ b40 := Nat.le_trans Z0 (Nat.le_of_eq g_b40.symm)
    have Z40 : n0 ≤ h40.size := Nat.le_trans Z0 E40.1
    have K40 := K0.ext E40
    have sz_b40 : h0.size ≤ b40 := Nat.le_trans K0.1 (Nat.le_of_eq g_b40.symm)
    refine ownGo.st (st40) ?_
    show ownGo p.tables e below T40 (mkF m 42 #[.val (.int (2 : Int32)), .val (.int x1), .val (.int x2), .val (.int x3), .val (.int x4)] [(.ref b40)]) _
    refine ownGo.st (fun _ k => XS.dup X40.here hx rfl (hb hby d2_42) rfl rfl k) ?_
    show ownGo p.tables e below T40 (mkF m 43 #[.val (.int (2 : Int32)), .val (.int x1), .val (.int x2), .val (.int x3), .val (.int x4)] [(.ref b40), (.ref b40)]) _
    refine ownGo.st (fun _ k => XS.iconst X40.here hx rfl (hb hby d2_43)  k) ?_
    show ownGo p.tables e below T40 (mkF m 44 #[.val (.int (2 : Int32)), .val (.int x1), .val (.int x2), .val (.int x3), .val (.int x4)] [(.int (0 : Int32)), (.ref b40), (.ref b40)]) _
    refine ownGo.st (fun _ k => XS.iloadN X40.here hx rfl (hb hby d2_44) rfl k) ?_
    show ownGo p.tables e below T40 (mkF m 45 #[.val (.int (2 : Int32)), .val (.int x1), .val (.int x2), .val (.int x3), .val (.int x4)] [(.int x1), (.int (0 : Int32)), (.ref b40), (.ref b40)]) _
    refine ownGo.st (fun _ k => XS.i2b X40.here hx rfl (hb hby d2_45) rfl k) ?_
    show ownGo p.tables e below T40 (mkF m 46 #[.val (.int (2 : Int32)), .val (.int x1), .val (.int x2), .val (.int x3), .val (.int x4)] [(.int (x1.toInt8.toInt32)), (.int (0 : Int32)), (.ref b40), (.ref b40)]) _
    obtain ⟨T41, h41, X41, e41, W41, V_b40_41, st41⟩ := own_bastore X40 hx hZ e40 V_b40 (i := 0) rfl (by decide) (g := (mkF m 46 #[.val (.int (2 : Int32)), .val (.int x1), .val (.int x2), .val (.int x3), .val (.int x4)] [(.int (x1.toInt8.toInt32)), (.int (0 : Int32)), (.ref b40), (.ref b40)])) rfl rfl (hb hby d2_46)
    have Ex_b40_42 := Ex_b40.wr W41
    have N41 := Fr.snoc X41 N0 gz_b40
    have Z41 : n0 ≤ h41.size := Nat.le_trans Z40 (Nat.le_of_eq W41.size.symm)
    have K41 := K40.wr W41 (Or.inr sz_b40)
    refine ownGo.st (st41) ?_
    show ownGo p.tables e below T41 (mkF m 47 #[.val (.int (2 : Int32)), .val (.int x1), .val (.int x2), .val (.int x3), .val (.int x4)] [(.ref b40)]) _
    refine ownGo.st (fun _ k => XS.dup X41.here hx rfl (hb hby d2_47) rfl rfl k) ?_
    show ownGo p.tables e below T41 (mkF m 48 #[.val (.int (2 : Int32)), .val (.int x1), .val (.int x2), .val (.int x3), .val (.int x4)] [(.ref b40), (.ref b40)]) _
    refine ownGo.st (fun _ k => XS.iconst X41.here hx rfl (hb hby d2_48)  k) ?_
    show ownGo p.tables e below T41 (mkF m 49 #[.val (.int (2 : Int32)), .val (.int x1), .val (.int x2), .val (.int x3), .val (.int x4)] [(.int (1 : Int32)), (.ref b40), (.ref b40)]) _
    refine ownGo.st (fun _ k => XS.iloadN X41.here hx rfl (hb hby d2_49) rfl k) ?_
    show ownGo p.tables e below T41 (mkF m 50 #[.val (.int (2 : Int32)), .val (.int x1), .val (.int x2), .val (.int x3), .val (.int x4)] [(.int x2), (.int (1 : Int32)), (.ref b40), (.ref b40)]) _
    refine ownGo.st (fun _ k => XS.i2b X41.here hx rfl (hb hby d2_50) rfl k) ?_
    show ownGo p.tables e below T41 (mkF m 51 #[.val (.int (2 : Int32)), .val (.int x1), .val (.int x2), .val (.int x3), .val (.int x4)] [(.int (x2.toInt8.toInt32)), (.int (1 : Int32)), (.ref b40), (.ref b40)]) _
    obtain ⟨T43, h43, X43, e43, W43, V_b40_43, st43⟩ := own_bastore X41 hx hZ e41 V_b40_41 (i := 1) rfl (by decide) (g := (mkF m 51 #[.val (.int (2 : Int32)), .val (.int x1), .val (.int x2), .val (.int x3), .val (.int x4)] [(.int (x2.toInt8.toInt32)), (.int (1 : Int32)), (.ref b40), (.ref b40)])) rfl rfl (hb hby d2_51)
    have Ex_b40_44 := Ex_b40_42.wr W43
    have N43 := Fr.snoc X43 N41 gz_b40
    have Z43 : n0 ≤ h43.size := Nat.le_trans Z41 (Nat.le_of_eq W43.size.symm)
    have K43 := K41.wr W43 (Or.inr sz_b40)
    refine ownGo.st (st43) ?_
    show ownGo p.tables e below T43 (mkF m 52 #[.val (.int (2 : Int32)), .val (.int x1), .val (.int x2), .val (.int x3), .val (.int x4)] [(.ref b40)]) _
    refine ownGo.st (fun _ k => XS.dup X43.here hx rfl (hb hby d2_52) rfl rfl k) ?_
    show ownGo p.tables e below T43 (mkF m 53 #[.val (.int (2 : Int32)), .val (.int x1), .val (.int x2), .val (.int x3), .val (.int x4)] [(.ref b40), (.ref b40)]) _
    refine ownGo.st (fun _ k => XS.iconst X43.here hx rfl (hb hby d2_53)  k) ?_
    show ownGo p.tables e below T43 (mkF m 54 #[.val (.int (2 : Int32)), .val (.int x1), .val (.int x2), .val (.int x3), .val (.int x4)] [(.int (2 : Int32)), (.ref b40), (.ref b40)]) _
    refine ownGo.st (fun _ k => XS.iload X43.here hx rfl (hb hby d2_54) rfl k) ?_
    show ownGo p.tables e below T43 (mkF m 56 #[.val (.int (2 : Int32)), .val (.int x1), .val (.int x2), .val (.int x3), .val (.int x4)] [(.int x4), (.int (2 : Int32)), (.ref b40), (.ref b40)]) _
    refine ownGo.st (fun _ k => XS.i2b X43.here hx rfl (hb hby d2_56) rfl k) ?_
    show ownGo p.tables e below T43 (mkF m 57 #[.val (.int (2 : Int32)), .val (.int x1), .val (.int x2), .val (.int x3), .val (.int x4)] [(.int (x4.toInt8.toInt32)), (.int (2 : Int32)), (.ref b40), (.ref b40)]) _
    obtain ⟨T45, h45, X45, e45, W45, V_b40_45, st45⟩ := own_bastore X43 hx hZ e43 V_b40_43 (i := 2) rfl (by decide) (g := (mkF m 57 #[.val (.int (2 : Int32)), .val (.int x1), .val (.int x2), .val (.int x3), .val (.int x4)] [(.int (x4.toInt8.toInt32)), (.int (2 : Int32)), (.ref b40), (.ref b40)])) rfl rfl (hb hby d2_57)
    have Ex_b40_46 := Ex_b40_44.wr W45
    have N45 := Fr.snoc X45 N43 gz_b40
    have Z45 : n0 ≤ h45.size := Nat.le_trans Z43 (Nat.le_of_eq W45.size.symm)
    have K45 := K43.wr W45 (Or.inr sz_b40)
    refine ownGo.st (st45) ?_
    show ownGo p.tables e below T45 (mkF m 58 #[.val (.int (2 : Int32)), .val (.int x1), .val (.int x2), .val (.int x3), .val (.int x4)] [(.ref b40)]) _
    exact own_retA X45 hx hlk hret (hb hby d2_58) ⟨_, rfl, N45, by rw [e45]; exact K45, sz_b40, _, by rw [e45]; exact V_b40_45, (fun i hi => by
        have q : i = 0 ∨ i = 1 ∨ i = 2 := by omega
        rcases q with rfl | rfl | rfl <;> rfl)⟩ (by decide) (by decide)
  · show ownGo p.tables e below s₁ (mkF m 0 #[.val (.int (3 : Int32)), .val (.int x1), .val (.int x2), .val (.int x3), .val (.int x4)] []) _
    refine ownGo.st (fun _ k => XS.iloadN X0.here hx rfl (hb hby d2_0) rfl k) ?_
    show ownGo p.tables e below s₁ (mkF m 1 #[.val (.int (3 : Int32)), .val (.int x1), .val (.int x2), .val (.int x3), .val (.int x4)] [(.int (3 : Int32))]) _
    have hc47 : ¬ ((3 : Int32) = (0 : Int32)) := (by decide)
    refine ownGo.st (fun _ k => XS.ifYes X0.here hx rfl (pc0 := 1) (pc' := 14) rfl (hb hby d2_1) rfl ((if0 _ _).trans (feq hc47).2) (by decide) (by decide) k) ?_
    show ownGo p.tables e below s₁ (mkF m 14 #[.val (.int (3 : Int32)), .val (.int x1), .val (.int x2), .val (.int x3), .val (.int x4)] []) _
    refine ownGo.st (fun _ k => XS.iloadN X0.here hx rfl (hb hby d2_14) rfl k) ?_
    show ownGo p.tables e below s₁ (mkF m 15 #[.val (.int (3 : Int32)), .val (.int x1), .val (.int x2), .val (.int x3), .val (.int x4)] [(.int (3 : Int32))]) _
    refine ownGo.st (fun _ k => XS.iconst X0.here hx rfl (hb hby d2_15)  k) ?_
    show ownGo p.tables e below s₁ (mkF m 16 #[.val (.int (3 : Int32)), .val (.int x1), .val (.int x2), .val (.int x3), .val (.int x4)] [(.int (1 : Int32)), (.int (3 : Int32))]) _
    have hc48 : ¬ ((3 : Int32) = (1 : Int32)) := (by decide)
    refine ownGo.st (fun _ k => XS.icmpYes X0.here hx rfl (pc0 := 16) (pc' := 34) rfl (hb hby d2_16) rfl (feq hc48).2 (by decide) (by decide) k) ?_
    show ownGo p.tables e below s₁ (mkF m 34 #[.val (.int (3 : Int32)), .val (.int x1), .val (.int x2), .val (.int x3), .val (.int x4)] []) _
    refine ownGo.st (fun _ k => XS.iloadN X0.here hx rfl (hb hby d2_34) rfl k) ?_
    show ownGo p.tables e below s₁ (mkF m 35 #[.val (.int (3 : Int32)), .val (.int x1), .val (.int x2), .val (.int x3), .val (.int x4)] [(.int (3 : Int32))]) _
    refine ownGo.st (fun _ k => XS.iconst X0.here hx rfl (hb hby d2_35)  k) ?_
    show ownGo p.tables e below s₁ (mkF m 36 #[.val (.int (3 : Int32)), .val (.int x1), .val (.int x2), .val (.int x3), .val (.int x4)] [(.int (2 : Int32)), (.int (3 : Int32))]) _
    have hc49 : ¬ ((3 : Int32) = (2 : Int32)) := (by decide)
    refine ownGo.st (fun _ k => XS.icmpYes X0.here hx rfl (pc0 := 36) (pc' := 59) rfl (hb hby d2_36) rfl (feq hc49).2 (by decide) (by decide) k) ?_
    show ownGo p.tables e below s₁ (mkF m 59 #[.val (.int (3 : Int32)), .val (.int x1), .val (.int x2), .val (.int x3), .val (.int x4)] []) _
    refine ownGo.st (fun _ k => XS.iconst X0.here hx rfl (hb hby d2_59)  k) ?_
    show ownGo p.tables e below s₁ (mkF m 60 #[.val (.int (3 : Int32)), .val (.int x1), .val (.int x2), .val (.int x3), .val (.int x4)] [(.int (4 : Int32))]) _
    obtain ⟨T50, h50, b50, X50, e50, E50, V_b50, Ex_b50, g_b50, st50⟩ := own_newarray (aty := .byte) X0 hx hZ (own_at hw 0 rfl) e0 4 4 (by decide) (by decide) (by decide) (by decide) (ad := "[B") (by rfl) rfl (z := (4 : Int32)) rfl (g := (mkF m 60 #[.val (.int (3 : Int32)), .val (.int x1), .val (.int x2), .val (.int x3), .val (.int x4)] [(.int (4 : Int32))])) rfl (hb hby d2_60) rfl
    have gz_b50 : n0 ≤ b50 := Nat.le_trans Z0 (Nat.le_of_eq g_b50.symm)
    have Z50 : n0 ≤ h50.size := Nat.le_trans Z0 E50.1
    have K50 := K0.ext E50
    have sz_b50 : h0.size ≤ b50 := Nat.le_trans K0.1 (Nat.le_of_eq g_b50.symm)
    refine ownGo.st (st50) ?_
    show ownGo p.tables e below T50 (mkF m 62 #[.val (.int (3 : Int32)), .val (.int x1), .val (.int x2), .val (.int x3), .val (.int x4)] [(.ref b50)]) _
    refine ownGo.st (fun _ k => XS.dup X50.here hx rfl (hb hby d2_62) rfl rfl k) ?_
    show ownGo p.tables e below T50 (mkF m 63 #[.val (.int (3 : Int32)), .val (.int x1), .val (.int x2), .val (.int x3), .val (.int x4)] [(.ref b50), (.ref b50)]) _
    refine ownGo.st (fun _ k => XS.iconst X50.here hx rfl (hb hby d2_63)  k) ?_
    show ownGo p.tables e below T50 (mkF m 64 #[.val (.int (3 : Int32)), .val (.int x1), .val (.int x2), .val (.int x3), .val (.int x4)] [(.int (0 : Int32)), (.ref b50), (.ref b50)]) _
    refine ownGo.st (fun _ k => XS.iloadN X50.here hx rfl (hb hby d2_64) rfl k) ?_
    show ownGo p.tables e below T50 (mkF m 65 #[.val (.int (3 : Int32)), .val (.int x1), .val (.int x2), .val (.int x3), .val (.int x4)] [(.int x1), (.int (0 : Int32)), (.ref b50), (.ref b50)]) _
    refine ownGo.st (fun _ k => XS.i2b X50.here hx rfl (hb hby d2_65) rfl k) ?_
    show ownGo p.tables e below T50 (mkF m 66 #[.val (.int (3 : Int32)), .val (.int x1), .val (.int x2), .val (.int x3), .val (.int x4)] [(.int (x1.toInt8.toInt32)), (.int (0 : Int32)), (.ref b50), (.ref b50)]) _
    obtain ⟨T51, h51, X51, e51, W51, V_b50_51, st51⟩ := own_bastore X50 hx hZ e50 V_b50 (i := 0) rfl (by decide) (g := (mkF m 66 #[.val (.int (3 : Int32)), .val (.int x1), .val (.int x2), .val (.int x3), .val (.int x4)] [(.int (x1.toInt8.toInt32)), (.int (0 : Int32)), (.ref b50), (.ref b50)])) rfl rfl (hb hby d2_66)
    have Ex_b50_52 := Ex_b50.wr W51
    have N51 := Fr.snoc X51 N0 gz_b50
    have Z51 : n0 ≤ h51.size := Nat.le_trans Z50 (Nat.le_of_eq W51.size.symm)
    have K51 := K50.wr W51 (Or.inr sz_b50)
    refine ownGo.st (st51) ?_
    show ownGo p.tables e below T51 (mkF m 67 #[.val (.int (3 : Int32)), .val (.int x1), .val (.int x2), .val (.int x3), .val (.int x4)] [(.ref b50)]) _
    refine ownGo.st (fun _ k => XS.dup X51.here hx rfl (hb hby d2_67) rfl rfl k) ?_
    show ownGo p.tables e below T51 (mkF m 68 #[.val (.int (3 : Int32)), .val (.int x1), .val (.int x2), .val (.int x3), .val (.int x4)] [(.ref b50), (.ref b50)]) _
    refine ownGo.st (fun _ k => XS.iconst X51.here hx rfl (hb hby d2_68)  k) ?_
    show ownGo p.tables e below T51 (mkF m 69 #[.val (.int (3 : Int32)), .val (.int x1), .val (.int x2), .val (.int x3), .val (.int x4)] [(.int (1 : Int32)), (.ref b50), (.ref b50)]) _
    refine ownGo.st (fun _ k => XS.iloadN X51.here hx rfl (hb hby d2_69) rfl k) ?_
    show ownGo p.tables e below T51 (mkF m 70 #[.val (.int (3 : Int32)), .val (.int x1), .val (.int x2), .val (.int x3), .val (.int x4)] [(.int x2), (.int (1 : Int32)), (.ref b50), (.ref b50)]) _
    refine ownGo.st (fun _ k => XS.i2b X51.here hx rfl (hb hby d2_70) rfl k) ?_
    show ownGo p.tables e below T51 (mkF m 71 #[.val (.int (3 : Int32)), .val (.int x1), .val (.int x2), .val (.int x3), .val (.int x4)] [(.int (x2.toInt8.toInt32)), (.int (1 : Int32)), (.ref b50), (.ref b50)]) _
    obtain ⟨T53, h53, X53, e53, W53, V_b50_53, st53⟩ := own_bastore X51 hx hZ e51 V_b50_51 (i := 1) rfl (by decide) (g := (mkF m 71 #[.val (.int (3 : Int32)), .val (.int x1), .val (.int x2), .val (.int x3), .val (.int x4)] [(.int (x2.toInt8.toInt32)), (.int (1 : Int32)), (.ref b50), (.ref b50)])) rfl rfl (hb hby d2_71)
    have Ex_b50_54 := Ex_b50_52.wr W53
    have N53 := Fr.snoc X53 N51 gz_b50
    have Z53 : n0 ≤ h53.size := Nat.le_trans Z51 (Nat.le_of_eq W53.size.symm)
    have K53 := K51.wr W53 (Or.inr sz_b50)
    refine ownGo.st (st53) ?_
    show ownGo p.tables e below T53 (mkF m 72 #[.val (.int (3 : Int32)), .val (.int x1), .val (.int x2), .val (.int x3), .val (.int x4)] [(.ref b50)]) _
    refine ownGo.st (fun _ k => XS.dup X53.here hx rfl (hb hby d2_72) rfl rfl k) ?_
    show ownGo p.tables e below T53 (mkF m 73 #[.val (.int (3 : Int32)), .val (.int x1), .val (.int x2), .val (.int x3), .val (.int x4)] [(.ref b50), (.ref b50)]) _
    refine ownGo.st (fun _ k => XS.iconst X53.here hx rfl (hb hby d2_73)  k) ?_
    show ownGo p.tables e below T53 (mkF m 74 #[.val (.int (3 : Int32)), .val (.int x1), .val (.int x2), .val (.int x3), .val (.int x4)] [(.int (2 : Int32)), (.ref b50), (.ref b50)]) _
    refine ownGo.st (fun _ k => XS.iloadN X53.here hx rfl (hb hby d2_74) rfl k) ?_
    show ownGo p.tables e below T53 (mkF m 75 #[.val (.int (3 : Int32)), .val (.int x1), .val (.int x2), .val (.int x3), .val (.int x4)] [(.int x3), (.int (2 : Int32)), (.ref b50), (.ref b50)]) _
    refine ownGo.st (fun _ k => XS.i2b X53.here hx rfl (hb hby d2_75) rfl k) ?_
    show ownGo p.tables e below T53 (mkF m 76 #[.val (.int (3 : Int32)), .val (.int x1), .val (.int x2), .val (.int x3), .val (.int x4)] [(.int (x3.toInt8.toInt32)), (.int (2 : Int32)), (.ref b50), (.ref b50)]) _
    obtain ⟨T55, h55, X55, e55, W55, V_b50_55, st55⟩ := own_bastore X53 hx hZ e53 V_b50_53 (i := 2) rfl (by decide) (g := (mkF m 76 #[.val (.int (3 : Int32)), .val (.int x1), .val (.int x2), .val (.int x3), .val (.int x4)] [(.int (x3.toInt8.toInt32)), (.int (2 : Int32)), (.ref b50), (.ref b50)])) rfl rfl (hb hby d2_76)
    have Ex_b50_56 := Ex_b50_54.wr W55
    have N55 := Fr.snoc X55 N53 gz_b50
    have Z55 : n0 ≤ h55.size := Nat.le_trans Z53 (Nat.le_of_eq W55.size.symm)
    have K55 := K53.wr W55 (Or.inr sz_b50)
    refine ownGo.st (st55) ?_
    show ownGo p.tables e below T55 (mkF m 77 #[.val (.int (3 : Int32)), .val (.int x1), .val (.int x2), .val (.int x3), .val (.int x4)] [(.ref b50)]) _
    refine ownGo.st (fun _ k => XS.dup X55.here hx rfl (hb hby d2_77) rfl rfl k) ?_
    show ownGo p.tables e below T55 (mkF m 78 #[.val (.int (3 : Int32)), .val (.int x1), .val (.int x2), .val (.int x3), .val (.int x4)] [(.ref b50), (.ref b50)]) _
    refine ownGo.st (fun _ k => XS.iconst X55.here hx rfl (hb hby d2_78)  k) ?_
    show ownGo p.tables e below T55 (mkF m 79 #[.val (.int (3 : Int32)), .val (.int x1), .val (.int x2), .val (.int x3), .val (.int x4)] [(.int (3 : Int32)), (.ref b50), (.ref b50)]) _
    refine ownGo.st (fun _ k => XS.iload X55.here hx rfl (hb hby d2_79) rfl k) ?_
    show ownGo p.tables e below T55 (mkF m 81 #[.val (.int (3 : Int32)), .val (.int x1), .val (.int x2), .val (.int x3), .val (.int x4)] [(.int x4), (.int (3 : Int32)), (.ref b50), (.ref b50)]) _
    refine ownGo.st (fun _ k => XS.i2b X55.here hx rfl (hb hby d2_81) rfl k) ?_
    show ownGo p.tables e below T55 (mkF m 82 #[.val (.int (3 : Int32)), .val (.int x1), .val (.int x2), .val (.int x3), .val (.int x4)] [(.int (x4.toInt8.toInt32)), (.int (3 : Int32)), (.ref b50), (.ref b50)]) _
    obtain ⟨T57, h57, X57, e57, W57, V_b50_57, st57⟩ := own_bastore X55 hx hZ e55 V_b50_55 (i := 3) rfl (by decide) (g := (mkF m 82 #[.val (.int (3 : Int32)), .val (.int x1), .val (.int x2), .val (.int x3), .val (.int x4)] [(.int (x4.toInt8.toInt32)), (.int (3 : Int32)), (.ref b50), (.ref b50)])) rfl rfl (hb hby d2_82)
    have Ex_b50_58 := Ex_b50_56.wr W57
    have N57 := Fr.snoc X57 N55 gz_b50
    have Z57 : n0 ≤ h57.size := Nat.le_trans Z55 (Nat.le_of_eq W57.size.symm)
    have K57 := K55.wr W57 (Or.inr sz_b50)
    refine ownGo.st (st57) ?_
    show ownGo p.tables e below T57 (mkF m 83 #[.val (.int (3 : Int32)), .val (.int x1), .val (.int x2), .val (.int x3), .val (.int x4)] [(.ref b50)]) _
    exact own_retA X57 hx hlk hret (hb hby d2_83) ⟨_, rfl, N57, by rw [e57]; exact K57, sz_b50, _, by rw [e57]; exact V_b50_57, (fun i hi => by
        have q : i = 0 ∨ i = 1 ∨ i = 2 ∨ i = 3 := by omega
        rcases q with rfl | rfl | rfl | rfl <;> rfl)⟩ (by decide) (by decide)
theorem d3_0 : decode prog_111_method_3_code 0 = .ok (.ldc2_w 20, 3) := by decide +kernel
theorem d3_3 : decode prog_111_method_3_code 3 = .ok (.lstore_n 1, 1) := by decide +kernel
theorem d3_4 : decode prog_111_method_3_code 4 = .ok (.aload_n 0, 1) := by decide +kernel
theorem d3_5 : decode prog_111_method_3_code 5 = .ok (.astore_n 3, 1) := by decide +kernel
theorem d3_6 : decode prog_111_method_3_code 6 = .ok (.aload_n 3, 1) := by decide +kernel
theorem d3_7 : decode prog_111_method_3_code 7 = .ok (.arraylength, 1) := by decide +kernel
theorem d3_8 : decode prog_111_method_3_code 8 = .ok (.istore 4, 2) := by decide +kernel
theorem d3_10 : decode prog_111_method_3_code 10 = .ok (.iconst 0, 1) := by decide +kernel
theorem d3_11 : decode prog_111_method_3_code 11 = .ok (.istore 5, 2) := by decide +kernel
theorem d3_13 : decode prog_111_method_3_code 13 = .ok (.iload 5, 2) := by decide +kernel
theorem d3_15 : decode prog_111_method_3_code 15 = .ok (.iload 4, 2) := by decide +kernel
theorem d3_17 : decode prog_111_method_3_code 17 = .ok (.if_icmp .ge 31, 3) := by decide +kernel
theorem d3_20 : decode prog_111_method_3_code 20 = .ok (.aload_n 3, 1) := by decide +kernel
theorem d3_21 : decode prog_111_method_3_code 21 = .ok (.iload 5, 2) := by decide +kernel
theorem d3_23 : decode prog_111_method_3_code 23 = .ok (.baload, 1) := by decide +kernel
theorem d3_24 : decode prog_111_method_3_code 24 = .ok (.istore 6, 2) := by decide +kernel
theorem d3_26 : decode prog_111_method_3_code 26 = .ok (.lload_n 1, 1) := by decide +kernel
theorem d3_27 : decode prog_111_method_3_code 27 = .ok (.iload 6, 2) := by decide +kernel
theorem d3_29 : decode prog_111_method_3_code 29 = .ok (.sipush 255, 3) := by decide +kernel
theorem d3_32 : decode prog_111_method_3_code 32 = .ok (.iand, 1) := by decide +kernel
theorem d3_33 : decode prog_111_method_3_code 33 = .ok (.i2l, 1) := by decide +kernel
theorem d3_34 : decode prog_111_method_3_code 34 = .ok (.lxor, 1) := by decide +kernel
theorem d3_35 : decode prog_111_method_3_code 35 = .ok (.lstore_n 1, 1) := by decide +kernel
theorem d3_36 : decode prog_111_method_3_code 36 = .ok (.lload_n 1, 1) := by decide +kernel
theorem d3_37 : decode prog_111_method_3_code 37 = .ok (.ldc2_w 22, 3) := by decide +kernel
theorem d3_40 : decode prog_111_method_3_code 40 = .ok (.lmul, 1) := by decide +kernel
theorem d3_41 : decode prog_111_method_3_code 41 = .ok (.lstore_n 1, 1) := by decide +kernel
theorem d3_42 : decode prog_111_method_3_code 42 = .ok (.iinc 5 1, 3) := by decide +kernel
theorem d3_45 : decode prog_111_method_3_code 45 = .ok (.goto (-32), 3) := by decide +kernel
theorem d3_48 : decode prog_111_method_3_code 48 = .ok (.lload_n 1, 1) := by decide +kernel
theorem d3_49 : decode prog_111_method_3_code 49 = .ok (.lreturn, 1) := by decide +kernel
abbrev R3 : Room := { frames := 0, cells := 0, slots := 0, locals := 0 }
set_option maxRecDepth 65536 in
set_option maxHeartbeats 40000000 in
theorem own_loop3 {p : Program} {l : Launch} {e : Env} {s : State} {m : MethodId} {args : Array Value} {below : List Frame} {meth : Method} {c : Code} {T0 : State} {locs : List Loc} {Z : State} {a0 : Array Value} {h0 : Heap} {n0 : Nat} (hx : p.tables.exec = Jvm.exec) (hZ : Z.Warmed39 s.vm) (hw : ∀ d ∈ tables_1, d.before a0 Z = true) (hby : c.code = prog_111_method_3_code) (hml : c.maxLocals = 7) (hown : s.vm.findClass "com/example/lexipath/lexipath/fulltext/IndexBytes" = some m.cls) (hret : meth.sig.returnType = (some .long)) (hlk : meth.locks = false) (X0 : Stand p l e R3 s m args below meth c T0 locs 0 0) (e0 : T0.heap = h0) (N0 : Fr n0 locs) (x0 : Addr) (n : Nat) (hn : n < 2147483648) (f : Nat → Value) (g : Nat → Int32) (V : ownA Z h0 x0 .byte n f) (hf : ∀ i, i < n → f i = .int (g i)) :
    ∀ (k i : Nat) (s6 : Slot), One s6 → i + k = n → ownGo p.tables e below T0 (mkF m 13 #[.val (.ref x0), .val (.long (own_hash g i)), .second, .val (.ref x0), .val (.int (Int32.ofNat n)), .val (.int (Int32.ofNat i)), s6] []) (ownDone s (ownPure (.long (own_hash g n)) h0 n0) 0 0) := by
  intro k
  induction k with
  | zero =>
    intro i s6 h6 hi
    obtain rfl : i = n := by omega
    refine ownGo.st (fun _ k => XS.iload X0.here hx rfl (hb hby d3_13) rfl k) ?_
    show ownGo p.tables e below T0 (mkF m 15 #[.val (.ref x0), .val (.long (own_hash g i)), .second, .val (.ref x0), .val (.int (Int32.ofNat i)), .val (.int (Int32.ofNat i)), s6] [(.int (Int32.ofNat i))]) _
    refine ownGo.st (fun _ k => XS.iload X0.here hx rfl (hb hby d3_15) rfl k) ?_
    show ownGo p.tables e below T0 (mkF m 17 #[.val (.ref x0), .val (.long (own_hash g i)), .second, .val (.ref x0), .val (.int (Int32.ofNat i)), .val (.int (Int32.ofNat i)), s6] [(.int (Int32.ofNat i)), (.int (Int32.ofNat i))]) _
    have hc59 : ¬ ((Int32.ofNat i) < (Int32.ofNat i)) := Int32.lt_irrefl
    refine ownGo.st (fun _ k => XS.icmpYes X0.here hx rfl (pc0 := 17) (pc' := 48) rfl (hb hby d3_17) rfl (flt hc59).2.1 (by decide) (by decide) k) ?_
    show ownGo p.tables e below T0 (mkF m 48 #[.val (.ref x0), .val (.long (own_hash g i)), .second, .val (.ref x0), .val (.int (Int32.ofNat i)), .val (.int (Int32.ofNat i)), s6] []) _
    refine ownGo.st (fun _ k => XS.lloadN X0.here hx rfl (hb hby d3_48) rfl k) ?_
    show ownGo p.tables e below T0 (mkF m 49 #[.val (.ref x0), .val (.long (own_hash g i)), .second, .val (.ref x0), .val (.int (Int32.ofNat i)), .val (.int (Int32.ofNat i)), s6] [(.long (own_hash g i))]) _
    exact own_retJ X0 hx hlk hret (hb hby d3_49) ⟨rfl, N0, e0⟩ (Nat.le_refl _) (Nat.le_refl _)
  | succ k ih =>
    intro i s6 h6 hi
    refine ownGo.st (fun _ k => XS.iload X0.here hx rfl (hb hby d3_13) rfl k) ?_
    show ownGo p.tables e below T0 (mkF m 15 #[.val (.ref x0), .val (.long (own_hash g i)), .second, .val (.ref x0), .val (.int (Int32.ofNat n)), .val (.int (Int32.ofNat i)), s6] [(.int (Int32.ofNat i))]) _
    refine ownGo.st (fun _ k => XS.iload X0.here hx rfl (hb hby d3_15) rfl k) ?_
    show ownGo p.tables e below T0 (mkF m 17 #[.val (.ref x0), .val (.long (own_hash g i)), .second, .val (.ref x0), .val (.int (Int32.ofNat n)), .val (.int (Int32.ofNat i)), s6] [(.int (Int32.ofNat n)), (.int (Int32.ofNat i))]) _
    have hc60 : (Int32.ofNat i) < (Int32.ofNat n) := own_ltn (by omega) hn
    refine ownGo.st (fun _ k => XS.icmpNo X0.here hx rfl (hb hby d3_17) rfl (tlt hc60).2.1 k) ?_
    show ownGo p.tables e below T0 (mkF m 20 #[.val (.ref x0), .val (.long (own_hash g i)), .second, .val (.ref x0), .val (.int (Int32.ofNat n)), .val (.int (Int32.ofNat i)), s6] []) _
    refine ownGo.st (fun _ k => XS.aloadN X0.here hx rfl (hb hby d3_20) rfl rfl k) ?_
    show ownGo p.tables e below T0 (mkF m 21 #[.val (.ref x0), .val (.long (own_hash g i)), .second, .val (.ref x0), .val (.int (Int32.ofNat n)), .val (.int (Int32.ofNat i)), s6] [(.ref x0)]) _
    refine ownGo.st (fun _ k => XS.iload X0.here hx rfl (hb hby d3_21) rfl k) ?_
    show ownGo p.tables e below T0 (mkF m 23 #[.val (.ref x0), .val (.long (own_hash g i)), .second, .val (.ref x0), .val (.int (Int32.ofNat n)), .val (.int (Int32.ofNat i)), s6] [(.int (Int32.ofNat i)), (.ref x0)]) _
    refine ownGo.st (own_baload X0 hx hZ e0 V (i := i) (v := (g i)) rfl (by omega) (hf i (by omega)) (g := (mkF m 23 #[.val (.ref x0), .val (.long (own_hash g i)), .second, .val (.ref x0), .val (.int (Int32.ofNat n)), .val (.int (Int32.ofNat i)), s6] [(.int (Int32.ofNat i)), (.ref x0)])) rfl rfl (hb hby d3_23)) ?_
    show ownGo p.tables e below T0 (mkF m 24 #[.val (.ref x0), .val (.long (own_hash g i)), .second, .val (.ref x0), .val (.int (Int32.ofNat n)), .val (.int (Int32.ofNat i)), s6] [(.int (g i))]) _
    refine ownGo.st (fun _ k => XS.istore X0.here hx rfl (hb hby d3_24) rfl (l' := #[.val (.ref x0), .val (.long (own_hash g i)), .second, .val (.ref x0), .val (.int (Int32.ofNat n)), .val (.int (Int32.ofNat i)), .val (.int (g i))]) (own_os6 h6) k) ?_
    show ownGo p.tables e below T0 (mkF m 26 #[.val (.ref x0), .val (.long (own_hash g i)), .second, .val (.ref x0), .val (.int (Int32.ofNat n)), .val (.int (Int32.ofNat i)), .val (.int (g i))] []) _
    refine ownGo.st (fun _ k => XS.lloadN X0.here hx rfl (hb hby d3_26) rfl k) ?_
    show ownGo p.tables e below T0 (mkF m 27 #[.val (.ref x0), .val (.long (own_hash g i)), .second, .val (.ref x0), .val (.int (Int32.ofNat n)), .val (.int (Int32.ofNat i)), .val (.int (g i))] [(.long (own_hash g i))]) _
    refine ownGo.st (fun _ k => XS.iload X0.here hx rfl (hb hby d3_27) rfl k) ?_
    show ownGo p.tables e below T0 (mkF m 29 #[.val (.ref x0), .val (.long (own_hash g i)), .second, .val (.ref x0), .val (.int (Int32.ofNat n)), .val (.int (Int32.ofNat i)), .val (.int (g i))] [(.int (g i)), (.long (own_hash g i))]) _
    refine ownGo.st (fun _ k => XS.sipush X0.here hx rfl (hb hby d3_29)  k) ?_
    show ownGo p.tables e below T0 (mkF m 32 #[.val (.ref x0), .val (.long (own_hash g i)), .second, .val (.ref x0), .val (.int (Int32.ofNat n)), .val (.int (Int32.ofNat i)), .val (.int (g i))] [(.int (255 : Int32)), (.int (g i)), (.long (own_hash g i))]) _
    refine ownGo.st (fun _ k => XS.iand X0.here hx rfl (hb hby d3_32) rfl k) ?_
    show ownGo p.tables e below T0 (mkF m 33 #[.val (.ref x0), .val (.long (own_hash g i)), .second, .val (.ref x0), .val (.int (Int32.ofNat n)), .val (.int (Int32.ofNat i)), .val (.int (g i))] [(.int ((g i) &&& (255 : Int32))), (.long (own_hash g i))]) _
    refine ownGo.st (fun _ k => XS.i2l X0.here hx rfl (hb hby d3_33) rfl k) ?_
    show ownGo p.tables e below T0 (mkF m 34 #[.val (.ref x0), .val (.long (own_hash g i)), .second, .val (.ref x0), .val (.int (Int32.ofNat n)), .val (.int (Int32.ofNat i)), .val (.int (g i))] [(.long (((g i) &&& (255 : Int32)).toInt64)), (.long (own_hash g i))]) _
    refine ownGo.st (fun _ k => XS.lxor X0.here hx rfl (hb hby d3_34) rfl k) ?_
    show ownGo p.tables e below T0 (mkF m 35 #[.val (.ref x0), .val (.long (own_hash g i)), .second, .val (.ref x0), .val (.int (Int32.ofNat n)), .val (.int (Int32.ofNat i)), .val (.int (g i))] [(.long ((own_hash g i) ^^^ (((g i) &&& (255 : Int32)).toInt64)))]) _
    refine ownGo.st (fun _ k => XS.lstoreN X0.here hx rfl (hb hby d3_35) rfl (l' := #[.val (.ref x0), .val (.long ((own_hash g i) ^^^ (((g i) &&& (255 : Int32)).toInt64))), .second, .val (.ref x0), .val (.int (Int32.ofNat n)), .val (.int (Int32.ofNat i)), .val (.int (g i))]) rfl k) ?_
    show ownGo p.tables e below T0 (mkF m 36 #[.val (.ref x0), .val (.long ((own_hash g i) ^^^ (((g i) &&& (255 : Int32)).toInt64))), .second, .val (.ref x0), .val (.int (Int32.ofNat n)), .val (.int (Int32.ofNat i)), .val (.int (g i))] []) _
    refine ownGo.st (fun _ k => XS.lloadN X0.here hx rfl (hb hby d3_36) rfl k) ?_
    show ownGo p.tables e below T0 (mkF m 37 #[.val (.ref x0), .val (.long ((own_hash g i) ^^^ (((g i) &&& (255 : Int32)).toInt64))), .second, .val (.ref x0), .val (.int (Int32.ofNat n)), .val (.int (Int32.ofNat i)), .val (.int (g i))] [(.long ((own_hash g i) ^^^ (((g i) &&& (255 : Int32)).toInt64)))]) _
    refine ownGo.st (X0.ldc2Long hx hown (mvT hZ (own_at hw 13 rfl)) (g := (mkF m 37 #[.val (.ref x0), .val (.long ((own_hash g i) ^^^ (((g i) &&& (255 : Int32)).toInt64))), .second, .val (.ref x0), .val (.int (Int32.ofNat n)), .val (.int (Int32.ofNat i)), .val (.int (g i))] [(.long ((own_hash g i) ^^^ (((g i) &&& (255 : Int32)).toInt64)))])) rfl (hb hby d3_37)) ?_
    show ownGo p.tables e below T0 (mkF m 40 #[.val (.ref x0), .val (.long ((own_hash g i) ^^^ (((g i) &&& (255 : Int32)).toInt64))), .second, .val (.ref x0), .val (.int (Int32.ofNat n)), .val (.int (Int32.ofNat i)), .val (.int (g i))] [(.long (1099511628211 : Int64)), (.long ((own_hash g i) ^^^ (((g i) &&& (255 : Int32)).toInt64)))]) _
    refine ownGo.st (fun _ k => XS.lmul X0.here hx rfl (hb hby d3_40) rfl k) ?_
    show ownGo p.tables e below T0 (mkF m 41 #[.val (.ref x0), .val (.long ((own_hash g i) ^^^ (((g i) &&& (255 : Int32)).toInt64))), .second, .val (.ref x0), .val (.int (Int32.ofNat n)), .val (.int (Int32.ofNat i)), .val (.int (g i))] [(.long (((own_hash g i) ^^^ (((g i) &&& (255 : Int32)).toInt64)) * (1099511628211 : Int64)))]) _
    refine ownGo.st (fun _ k => XS.lstoreN X0.here hx rfl (hb hby d3_41) rfl (l' := #[.val (.ref x0), .val (.long (((own_hash g i) ^^^ (((g i) &&& (255 : Int32)).toInt64)) * (1099511628211 : Int64))), .second, .val (.ref x0), .val (.int (Int32.ofNat n)), .val (.int (Int32.ofNat i)), .val (.int (g i))]) rfl k) ?_
    show ownGo p.tables e below T0 (mkF m 42 #[.val (.ref x0), .val (.long (((own_hash g i) ^^^ (((g i) &&& (255 : Int32)).toInt64)) * (1099511628211 : Int64))), .second, .val (.ref x0), .val (.int (Int32.ofNat n)), .val (.int (Int32.ofNat i)), .val (.int (g i))] []) _
    refine ownGo.st (fun _ k => XS.iinc X0.here hx rfl (hb hby d3_42) rfl (l' := #[.val (.ref x0), .val (.long (((own_hash g i) ^^^ (((g i) &&& (255 : Int32)).toInt64)) * (1099511628211 : Int64))), .second, .val (.ref x0), .val (.int (Int32.ofNat n)), .val (.int ((Int32.ofNat i) + (1 : Int32))), .val (.int (g i))]) rfl k) ?_
    show ownGo p.tables e below T0 (mkF m 45 #[.val (.ref x0), .val (.long (((own_hash g i) ^^^ (((g i) &&& (255 : Int32)).toInt64)) * (1099511628211 : Int64))), .second, .val (.ref x0), .val (.int (Int32.ofNat n)), .val (.int ((Int32.ofNat i) + (1 : Int32))), .val (.int (g i))] []) _
    refine ownGo.st (fun _ k => XS.goto X0.here hx rfl (pc0 := 45) (pc' := 13) rfl (hb hby d3_45) (by decide) (by decide) k) ?_
    show ownGo p.tables e below T0 (mkF m 13 #[.val (.ref x0), .val (.long (((own_hash g i) ^^^ (((g i) &&& (255 : Int32)).toInt64)) * (1099511628211 : Int64))), .second, .val (.ref x0), .val (.int (Int32.ofNat n)), .val (.int ((Int32.ofNat i) + (1 : Int32))), .val (.int (g i))] []) _
    rw [show Int32.ofNat i + (1 : Int32) = Int32.ofNat (i + 1) from (Int32.ofNat_add i 1).symm]
    exact ih (i + 1) _ (One.val rfl) (by omega)
theorem pn_3 : plainName "com/example/lexipath/lexipath/fulltext/IndexBytes" = true := by first | (simp [plainName, overriddenIn]; done) | decide +kernel
theorem ef_3 (m : MethodId) (x0 : Addr) : entryFrame m #[(.ref x0)] 7 = mkF m 0 #[.val (.ref x0), .unset, .unset, .unset, .unset, .unset, .unset] [] := by first | (simp [entryFrame, mkF, argsToLocals, Value.category]; done) | rfl
set_option maxRecDepth 65536 in
set_option maxHeartbeats 40000000 in
theorem rm3 (l : Launch) (Z : State) (a0 : Array Value) (hw : ∀ d ∈ tables_1, d.before a0 Z = true) (x0 : Addr) (n : Nat) (f : Nat → Value) (g : Nat → Int32) (h0 : Heap) (n0 : Nat) (hn : n < 2147483648) (V : ownA Z h0 x0 .byte n f) (hf : ∀ i, i < n → f i = .int (g i)) :
    MetFree l (⟨"com/example/lexipath/lexipath/fulltext/IndexBytes", "hash", "([B)J"⟩ : MethodName) (head1 [Jvm.Cond.code (⟨"com/example/lexipath/lexipath/fulltext/IndexBytes", "hash", "([B)J"⟩ : MethodName) prog_111_method_3_code 7 (some .long)] R3) (fun a U => a = #[(.ref x0)] ∧ Z.Warmed39 U.vm ∧ U.heap = h0) (fun _ _ _ _ _ => True) (fun _ U o U' => ∃ v L, o = .returned v ∧ ownPure (.long (own_hash g n)) h0 n0 v U'.heap L ∧ FrameEnd U o U' L R3.cells R3.slots) := by
  refine MetFree.of_bodySF (plainFor_of_name pn_3) hisR ?_
  intro p e s m args below meth c s₁ Bd hml0 hP hK
  obtain ⟨rfl, hZ, hh⟩ := hP
  have hx := Bd.exec
  have hby := Bd.bytes
  have hml : c.maxLocals = 7 := hml0
  have hown : s.vm.findClass "com/example/lexipath/lexipath/fulltext/IndexBytes" = some m.cls := findClass_of_methodNamed Bd.named
  have hnm := (name_of_methodNamed Bd.named Bd.method).1
  have hret := Bd.returns
  have hlk : meth.locks = false := BodyLoose.notSynchronized Bd
  have X0 : Stand p l e R3 s m #[(.ref x0)] below meth c s₁ [] 0 0 := Stand.of_body Bd
  have e0 : s₁.heap = h0 := by rw [← hh, Bd.state]; rfl
  have N0 := Fr.nil n0
  show ownGo p.tables e below s₁ (entryFrame m #[(.ref x0)] 7) (ownDone s (ownPure (.long (own_hash g n)) h0 n0) R3.cells R3.slots)
  rw [ef_3 m x0]
  show ownGo p.tables e below s₁ (mkF m 0 #[.val (.ref x0), .unset, .unset, .unset, .unset, .unset, .unset] []) _
  refine ownGo.st (X0.ldc2Long hx hown (mvT hZ (own_at hw 12 rfl)) (g := (mkF m 0 #[.val (.ref x0), .unset, .unset, .unset, .unset, .unset, .unset] [])) rfl (hb hby d3_0)) ?_
  show ownGo p.tables e below s₁ (mkF m 3 #[.val (.ref x0), .unset, .unset, .unset, .unset, .unset, .unset] [(.long (-3750763034362895579 : Int64))]) _
  refine ownGo.st (fun _ k => XS.lstoreN X0.here hx rfl (hb hby d3_3) rfl (l' := #[.val (.ref x0), .val (.long (-3750763034362895579 : Int64)), .second, .unset, .unset, .unset, .unset]) rfl k) ?_
  show ownGo p.tables e below s₁ (mkF m 4 #[.val (.ref x0), .val (.long (-3750763034362895579 : Int64)), .second, .unset, .unset, .unset, .unset] []) _
  refine ownGo.st (fun _ k => XS.aloadN X0.here hx rfl (hb hby d3_4) rfl rfl k) ?_
  show ownGo p.tables e below s₁ (mkF m 5 #[.val (.ref x0), .val (.long (-3750763034362895579 : Int64)), .second, .unset, .unset, .unset, .unset] [(.ref x0)]) _
  refine ownGo.st (fun _ k => XS.astoreN X0.here hx rfl (hb hby d3_5) rfl rfl (l' := #[.val (.ref x0), .val (.long (-3750763034362895579 : Int64)), .second, .val (.ref x0), .unset, .unset, .unset]) rfl k) ?_
  show ownGo p.tables e below s₁ (mkF m 6 #[.val (.ref x0), .val (.long (-3750763034362895579 : Int64)), .second, .val (.ref x0), .unset, .unset, .unset] []) _
  refine ownGo.st (fun _ k => XS.aloadN X0.here hx rfl (hb hby d3_6) rfl rfl k) ?_
  show ownGo p.tables e below s₁ (mkF m 7 #[.val (.ref x0), .val (.long (-3750763034362895579 : Int64)), .second, .val (.ref x0), .unset, .unset, .unset] [(.ref x0)]) _
  refine ownGo.st (own_alen X0 hx hZ e0 V (g := (mkF m 7 #[.val (.ref x0), .val (.long (-3750763034362895579 : Int64)), .second, .val (.ref x0), .unset, .unset, .unset] [(.ref x0)])) rfl rfl (hb hby d3_7)) ?_
  show ownGo p.tables e below s₁ (mkF m 8 #[.val (.ref x0), .val (.long (-3750763034362895579 : Int64)), .second, .val (.ref x0), .unset, .unset, .unset] [(.int (Int32.ofNat n))]) _
  refine ownGo.st (fun _ k => XS.istore X0.here hx rfl (hb hby d3_8) rfl (l' := #[.val (.ref x0), .val (.long (-3750763034362895579 : Int64)), .second, .val (.ref x0), .val (.int (Int32.ofNat n)), .unset, .unset]) rfl k) ?_
  show ownGo p.tables e below s₁ (mkF m 10 #[.val (.ref x0), .val (.long (-3750763034362895579 : Int64)), .second, .val (.ref x0), .val (.int (Int32.ofNat n)), .unset, .unset] []) _
  refine ownGo.st (fun _ k => XS.iconst X0.here hx rfl (hb hby d3_10)  k) ?_
  show ownGo p.tables e below s₁ (mkF m 11 #[.val (.ref x0), .val (.long (-3750763034362895579 : Int64)), .second, .val (.ref x0), .val (.int (Int32.ofNat n)), .unset, .unset] [(.int (0 : Int32))]) _
  refine ownGo.st (fun _ k => XS.istore X0.here hx rfl (hb hby d3_11) rfl (l' := #[.val (.ref x0), .val (.long (-3750763034362895579 : Int64)), .second, .val (.ref x0), .val (.int (Int32.ofNat n)), .val (.int (0 : Int32)), .unset]) rfl k) ?_
  show ownGo p.tables e below s₁ (mkF m 13 #[.val (.ref x0), .val (.long (-3750763034362895579 : Int64)), .second, .val (.ref x0), .val (.int (Int32.ofNat n)), .val (.int (0 : Int32)), .unset] []) _
  exact own_loop3 hx hZ hw hby hml hown hret hlk X0 e0 N0 x0 n hn f g V hf n 0 _ One.u (Nat.zero_add n)
theorem own_and3 (x : Int32) : ∃ a, a < 4 ∧ x &&& (3 : Int32) = Int32.ofNat a := by
  have q := c_and x (3 : Int32) (by decide)
  rw [show (3 : Int32).toInt = 3 from rfl] at q
  refine own_idx _ 4 q.1 ?_
  omega
def Q0 (n0 : Nat) (v : Option Value) (h : Heap) (L : List Loc) : Prop := v = some (.int 1) ∧ Fr n0 L
theorem pd__IIII__B : parseMethodDescriptor "(IIII)[B" = some ⟨[.int, .int, .int, .int], some (.array .byte)⟩ := by decide +kernel
theorem pd__IIIII__B : parseMethodDescriptor "(IIIII)[B" = some ⟨[.int, .int, .int, .int, .int], some (.array .byte)⟩ := by decide +kernel
theorem pd___B_J : parseMethodDescriptor "([B)J" = some ⟨[(.array .byte)], some .long⟩ := by decide +kernel
theorem pn_0 : plainName "com/example/lexipath/lexipath/fulltext/IndexBytesHashPinLaw" = true := by first | (simp [plainName, overriddenIn]; done) | decide +kernel
theorem ef_0 (m : MethodId) (x0 : Int32) (x1 : Int32) (x2 : Int32) (x3 : Int32) (x4 : Int32) : entryFrame m #[(.int x0), (.int x1), (.int x2), (.int x3), (.int x4)] maxLocals = mkF m 0 #[.val (.int x0), .val (.int x1), .val (.int x2), .val (.int x3), .val (.int x4), .unset, .unset, .unset, .unset, .unset, .unset, .unset, .unset, .unset, .unset, .unset, .unset] [] := by first | (simp [entryFrame, mkF, argsToLocals, Value.category, maxLocals]; done) | rfl
set_option maxRecDepth 65536 in
set_option maxHeartbeats 40000000 in
theorem rm0 (l : Launch) (Z : State) (a0 : Array Value) (hw : ∀ d ∈ tables_1, d.before a0 Z = true) (x0 : Int32) (x1 : Int32) (x2 : Int32) (x3 : Int32) (x4 : Int32) (h0 : Heap) (n0 : Nat) (Z0 : n0 ≤ h0.size) :
    MetFree l x (head1 (Jvm.Cond.code x code maxLocals ret :: tables_1) room_1) (fun a U => a = #[(.int x0), (.int x1), (.int x2), (.int x3), (.int x4)] ∧ Z.Warmed39 U.vm ∧ U.heap = h0) (fun _ _ _ _ _ => True) (fun _ U o U' => ∃ v L, o = .returned v ∧ Q0 n0 v U'.heap L ∧ FrameEnd U o U' L room_1.cells room_1.slots) := by
  refine MetFree.of_bodySF (plainFor_of_name pn_0) hisR ?_
  intro p e s m args below meth c s₁ Bd hml0 hP hK
  obtain ⟨rfl, hZ, hh⟩ := hP
  have hx := Bd.exec
  have hby := Bd.bytes
  have hml : c.maxLocals = 17 := hml0
  have hown : s.vm.findClass "com/example/lexipath/lexipath/fulltext/IndexBytesHashPinLaw" = some m.cls := findClass_of_methodNamed Bd.named
  have hnm := (name_of_methodNamed Bd.named Bd.method).1
  have hret := Bd.returns
  have hlk : meth.locks = false := BodyLoose.notSynchronized Bd
  have X0 : Stand p l e room_1 s m #[(.int x0), (.int x1), (.int x2), (.int x3), (.int x4)] below meth c s₁ [] 0 0 := Stand.of_body Bd
  have e0 : s₁.heap = h0 := by rw [← hh, Bd.state]; rfl
  have N0 := Fr.nil n0
  show ownGo p.tables e below s₁ (entryFrame m #[(.int x0), (.int x1), (.int x2), (.int x3), (.int x4)] maxLocals) (ownDone s (Q0 n0) room_1.cells room_1.slots)
  rw [ef_0 m x0 x1 x2 x3 x4]
  show ownGo p.tables e below s₁ (mkF m 0 #[.val (.int x0), .val (.int x1), .val (.int x2), .val (.int x3), .val (.int x4), .unset, .unset, .unset, .unset, .unset, .unset, .unset, .unset, .unset, .unset, .unset, .unset] []) _
  refine ownGo.st (fun _ k => XS.iloadN X0.here hx rfl (hb hby at_0) rfl k) ?_
  show ownGo p.tables e below s₁ (mkF m 1 #[.val (.int x0), .val (.int x1), .val (.int x2), .val (.int x3), .val (.int x4), .unset, .unset, .unset, .unset, .unset, .unset, .unset, .unset, .unset, .unset, .unset, .unset] [(.int x0)]) _
  refine ownGo.st (fun _ k => XS.iconst X0.here hx rfl (hb hby at_1)  k) ?_
  show ownGo p.tables e below s₁ (mkF m 2 #[.val (.int x0), .val (.int x1), .val (.int x2), .val (.int x3), .val (.int x4), .unset, .unset, .unset, .unset, .unset, .unset, .unset, .unset, .unset, .unset, .unset, .unset] [(.int (3 : Int32)), (.int x0)]) _
  refine ownGo.st (fun _ k => XS.iand X0.here hx rfl (hb hby at_2) rfl k) ?_
  show ownGo p.tables e below s₁ (mkF m 3 #[.val (.int x0), .val (.int x1), .val (.int x2), .val (.int x3), .val (.int x4), .unset, .unset, .unset, .unset, .unset, .unset, .unset, .unset, .unset, .unset, .unset, .unset] [(.int (x0 &&& (3 : Int32)))]) _
  obtain ⟨n, hn, en⟩ := own_and3 x0
  rw [en]
  show ownGo p.tables e below s₁ (mkF m 3 #[.val (.int x0), .val (.int x1), .val (.int x2), .val (.int x3), .val (.int x4), .unset, .unset, .unset, .unset, .unset, .unset, .unset, .unset, .unset, .unset, .unset, .unset] [(.int (Int32.ofNat n))]) _
  refine ownGo.st (fun _ k => XS.istore X0.here hx rfl (hb hby at_3) rfl (l' := #[.val (.int x0), .val (.int x1), .val (.int x2), .val (.int x3), .val (.int x4), .val (.int (Int32.ofNat n)), .unset, .unset, .unset, .unset, .unset, .unset, .unset, .unset, .unset, .unset, .unset]) rfl k) ?_
  show ownGo p.tables e below s₁ (mkF m 5 #[.val (.int x0), .val (.int x1), .val (.int x2), .val (.int x3), .val (.int x4), .val (.int (Int32.ofNat n)), .unset, .unset, .unset, .unset, .unset, .unset, .unset, .unset, .unset, .unset, .unset] []) _
  refine ownGo.st (fun _ k => XS.iconst X0.here hx rfl (hb hby at_5)  k) ?_
  show ownGo p.tables e below s₁ (mkF m 6 #[.val (.int x0), .val (.int x1), .val (.int x2), .val (.int x3), .val (.int x4), .val (.int (Int32.ofNat n)), .unset, .unset, .unset, .unset, .unset, .unset, .unset, .unset, .unset, .unset, .unset] [(.int (0 : Int32))]) _
  obtain ⟨T61, h61, bE, X61, e61, E61, V_bE, Ex_bE, g_bE, st61⟩ := own_newarray (aty := .byte) X0 hx hZ (own_at hw 0 rfl) e0 0 0 (by decide) (by decide) (by decide) (by decide) (ad := "[B") (by rfl) rfl (z := (0 : Int32)) rfl (g := (mkF m 6 #[.val (.int x0), .val (.int x1), .val (.int x2), .val (.int x3), .val (.int x4), .val (.int (Int32.ofNat n)), .unset, .unset, .unset, .unset, .unset, .unset, .unset, .unset, .unset, .unset, .unset] [(.int (0 : Int32))])) rfl (hb hby at_6) rfl
  have gz_bE : n0 ≤ bE := Nat.le_trans Z0 (Nat.le_of_eq g_bE.symm)
  have Z61 : n0 ≤ h61.size := Nat.le_trans Z0 E61.1
  refine ownGo.st (st61) ?_
  show ownGo p.tables e below T61 (mkF m 8 #[.val (.int x0), .val (.int x1), .val (.int x2), .val (.int x3), .val (.int x4), .val (.int (Int32.ofNat n)), .unset, .unset, .unset, .unset, .unset, .unset, .unset, .unset, .unset, .unset, .unset] [(.ref bE)]) _
  refine ownGo.st (fun _ k => XS.astore X61.here hx rfl (hb hby at_8) rfl rfl (l' := #[.val (.int x0), .val (.int x1), .val (.int x2), .val (.int x3), .val (.int x4), .val (.int (Int32.ofNat n)), .val (.ref bE), .unset, .unset, .unset, .unset, .unset, .unset, .unset, .unset, .unset, .unset]) rfl k) ?_
  show ownGo p.tables e below T61 (mkF m 10 #[.val (.int x0), .val (.int x1), .val (.int x2), .val (.int x3), .val (.int x4), .val (.int (Int32.ofNat n)), .val (.ref bE), .unset, .unset, .unset, .unset, .unset, .unset, .unset, .unset, .unset, .unset] []) _
  refine ownGo.st (fun _ k => XS.iload X61.here hx rfl (hb hby at_10) rfl k) ?_
  show ownGo p.tables e below T61 (mkF m 12 #[.val (.int x0), .val (.int x1), .val (.int x2), .val (.int x3), .val (.int x4), .val (.int (Int32.ofNat n)), .val (.ref bE), .unset, .unset, .unset, .unset, .unset, .unset, .unset, .unset, .unset, .unset] [(.int (Int32.ofNat n))]) _
  refine ownGo.st (fun _ k => XS.iloadN X61.here hx rfl (hb hby at_12) rfl k) ?_
  show ownGo p.tables e below T61 (mkF m 13 #[.val (.int x0), .val (.int x1), .val (.int x2), .val (.int x3), .val (.int x4), .val (.int (Int32.ofNat n)), .val (.ref bE), .unset, .unset, .unset, .unset, .unset, .unset, .unset, .unset, .unset, .unset] [(.int x1), (.int (Int32.ofNat n))]) _
  refine ownGo.st (fun _ k => XS.iloadN X61.here hx rfl (hb hby at_13) rfl k) ?_
  show ownGo p.tables e below T61 (mkF m 14 #[.val (.int x0), .val (.int x1), .val (.int x2), .val (.int x3), .val (.int x4), .val (.int (Int32.ofNat n)), .val (.ref bE), .unset, .unset, .unset, .unset, .unset, .unset, .unset, .unset, .unset, .unset] [(.int x2), (.int x1), (.int (Int32.ofNat n))]) _
  refine ownGo.st (fun _ k => XS.iloadN X61.here hx rfl (hb hby at_14) rfl k) ?_
  show ownGo p.tables e below T61 (mkF m 15 #[.val (.int x0), .val (.int x1), .val (.int x2), .val (.int x3), .val (.int x4), .val (.int (Int32.ofNat n)), .val (.ref bE), .unset, .unset, .unset, .unset, .unset, .unset, .unset, .unset, .unset, .unset] [(.int x3), (.int x2), (.int x1), (.int (Int32.ofNat n))]) _
  obtain ⟨_, T62, L62, X62, hQ62, st62⟩ := own_callS X61 hx hZ hown (own_at hw 1 rfl) (own_at hw 2 rfl) (own_at hw 3 rfl) (own_at hw 4 rfl) (by decide) (rm1 l Z a0 hw (Int32.ofNat n) x1 x2 x3 n h61 n0 Z61 hn rfl) 0 (by decide) (by decide) e61 (by decide) (by decide) (g := (mkF m 15 #[.val (.int x0), .val (.int x1), .val (.int x2), .val (.int x3), .val (.int x4), .val (.int (Int32.ofNat n)), .val (.ref bE), .unset, .unset, .unset, .unset, .unset, .unset, .unset, .unset, .unset, .unset] [(.int x3), (.int x2), (.int x1), (.int (Int32.ofNat n))])) rfl (by rw [hml]; rfl) (argsL := [(.int (Int32.ofNat n)), (.int x1), (.int x2), (.int x3)]) (rest := []) (lenOf pd__IIII__B rfl) rfl (by show 2 * 0 + _ ≤ _; exact Nat.le_of_eq rfl) (hb hby at_15)
  obtain ⟨bP, rfl, N62q, K62, sz_bP, f_bP, V_bP, hf_bP⟩ := hQ62
  have N62 := Fr.app N0 N62q
  have V_bE_63 := V_bE.keep K62 nin0
  have Ex_bE_64 := Ex_bE.keep K62
  have Z62 : n0 ≤ T62.heap.size := Nat.le_trans Z61 K62.1
  refine ownGo.st st62 ?_
  show ownGo p.tables e below T62 (mkF m 18 #[.val (.int x0), .val (.int x1), .val (.int x2), .val (.int x3), .val (.int x4), .val (.int (Int32.ofNat n)), .val (.ref bE), .unset, .unset, .unset, .unset, .unset, .unset, .unset, .unset, .unset, .unset] [(.ref bP)]) _
  refine ownGo.st (fun _ k => XS.astore X62.here hx rfl (hb hby at_18) rfl rfl (l' := #[.val (.int x0), .val (.int x1), .val (.int x2), .val (.int x3), .val (.int x4), .val (.int (Int32.ofNat n)), .val (.ref bE), .val (.ref bP), .unset, .unset, .unset, .unset, .unset, .unset, .unset, .unset, .unset]) rfl k) ?_
  show ownGo p.tables e below T62 (mkF m 20 #[.val (.int x0), .val (.int x1), .val (.int x2), .val (.int x3), .val (.int x4), .val (.int (Int32.ofNat n)), .val (.ref bE), .val (.ref bP), .unset, .unset, .unset, .unset, .unset, .unset, .unset, .unset, .unset] []) _
  refine ownGo.st (fun _ k => XS.iload X62.here hx rfl (hb hby at_20) rfl k) ?_
  show ownGo p.tables e below T62 (mkF m 22 #[.val (.int x0), .val (.int x1), .val (.int x2), .val (.int x3), .val (.int x4), .val (.int (Int32.ofNat n)), .val (.ref bE), .val (.ref bP), .unset, .unset, .unset, .unset, .unset, .unset, .unset, .unset, .unset] [(.int (Int32.ofNat n))]) _
  refine ownGo.st (fun _ k => XS.iloadN X62.here hx rfl (hb hby at_22) rfl k) ?_
  show ownGo p.tables e below T62 (mkF m 23 #[.val (.int x0), .val (.int x1), .val (.int x2), .val (.int x3), .val (.int x4), .val (.int (Int32.ofNat n)), .val (.ref bE), .val (.ref bP), .unset, .unset, .unset, .unset, .unset, .unset, .unset, .unset, .unset] [(.int x1), (.int (Int32.ofNat n))]) _
  refine ownGo.st (fun _ k => XS.iloadN X62.here hx rfl (hb hby at_23) rfl k) ?_
  show ownGo p.tables e below T62 (mkF m 24 #[.val (.int x0), .val (.int x1), .val (.int x2), .val (.int x3), .val (.int x4), .val (.int (Int32.ofNat n)), .val (.ref bE), .val (.ref bP), .unset, .unset, .unset, .unset, .unset, .unset, .unset, .unset, .unset] [(.int x2), (.int x1), (.int (Int32.ofNat n))]) _
  refine ownGo.st (fun _ k => XS.iloadN X62.here hx rfl (hb hby at_24) rfl k) ?_
  show ownGo p.tables e below T62 (mkF m 25 #[.val (.int x0), .val (.int x1), .val (.int x2), .val (.int x3), .val (.int x4), .val (.int (Int32.ofNat n)), .val (.ref bE), .val (.ref bP), .unset, .unset, .unset, .unset, .unset, .unset, .unset, .unset, .unset] [(.int x3), (.int x2), (.int x1), (.int (Int32.ofNat n))]) _
  refine ownGo.st (fun _ k => XS.iload X62.here hx rfl (hb hby at_25) rfl k) ?_
  show ownGo p.tables e below T62 (mkF m 27 #[.val (.int x0), .val (.int x1), .val (.int x2), .val (.int x3), .val (.int x4), .val (.int (Int32.ofNat n)), .val (.ref bE), .val (.ref bP), .unset, .unset, .unset, .unset, .unset, .unset, .unset, .unset, .unset] [(.int x4), (.int x3), (.int x2), (.int x1), (.int (Int32.ofNat n))]) _
  obtain ⟨_, T65, L65, X65, hQ65, st65⟩ := own_callS X62 hx hZ hown (own_at hw 5 rfl) (own_at hw 6 rfl) (own_at hw 3 rfl) (own_at hw 7 rfl) (by decide) (rm2 l Z a0 hw (Int32.ofNat n) x1 x2 x3 x4 n T62.heap n0 Z62 hn rfl) 0 (by decide) (by decide) rfl (by decide) (by decide) (g := (mkF m 27 #[.val (.int x0), .val (.int x1), .val (.int x2), .val (.int x3), .val (.int x4), .val (.int (Int32.ofNat n)), .val (.ref bE), .val (.ref bP), .unset, .unset, .unset, .unset, .unset, .unset, .unset, .unset, .unset] [(.int x4), (.int x3), (.int x2), (.int x1), (.int (Int32.ofNat n))])) rfl (by rw [hml]; rfl) (argsL := [(.int (Int32.ofNat n)), (.int x1), (.int x2), (.int x3), (.int x4)]) (rest := []) (lenOf pd__IIIII__B rfl) rfl (by show 2 * 0 + _ ≤ _; exact Nat.le_of_eq rfl) (hb hby at_27)
  obtain ⟨bL, rfl, N65q, K65, sz_bL, f_bL, V_bL, hf_bL⟩ := hQ65
  have N65 := Fr.app N62 N65q
  have V_bE_66 := V_bE_63.keep K65 nin0
  have Ex_bE_67 := Ex_bE_64.keep K65
  have V_bP_68 := V_bP.keep K65 nin0
  have Z65 : n0 ≤ T65.heap.size := Nat.le_trans Z62 K65.1
  refine ownGo.st st65 ?_
  show ownGo p.tables e below T65 (mkF m 30 #[.val (.int x0), .val (.int x1), .val (.int x2), .val (.int x3), .val (.int x4), .val (.int (Int32.ofNat n)), .val (.ref bE), .val (.ref bP), .unset, .unset, .unset, .unset, .unset, .unset, .unset, .unset, .unset] [(.ref bL)]) _
  refine ownGo.st (fun _ k => XS.astore X65.here hx rfl (hb hby at_30) rfl rfl (l' := #[.val (.int x0), .val (.int x1), .val (.int x2), .val (.int x3), .val (.int x4), .val (.int (Int32.ofNat n)), .val (.ref bE), .val (.ref bP), .val (.ref bL), .unset, .unset, .unset, .unset, .unset, .unset, .unset, .unset]) rfl k) ?_
  show ownGo p.tables e below T65 (mkF m 32 #[.val (.int x0), .val (.int x1), .val (.int x2), .val (.int x3), .val (.int x4), .val (.int (Int32.ofNat n)), .val (.ref bE), .val (.ref bP), .val (.ref bL), .unset, .unset, .unset, .unset, .unset, .unset, .unset, .unset] []) _
  refine ownGo.st (fun _ k => XS.aload X65.here hx rfl (hb hby at_32) rfl rfl k) ?_
  show ownGo p.tables e below T65 (mkF m 34 #[.val (.int x0), .val (.int x1), .val (.int x2), .val (.int x3), .val (.int x4), .val (.int (Int32.ofNat n)), .val (.ref bE), .val (.ref bP), .val (.ref bL), .unset, .unset, .unset, .unset, .unset, .unset, .unset, .unset] [(.ref bE)]) _
  obtain ⟨_, T69, L69, X69, hQ69, st69⟩ := own_callS X65 hx hZ hown (own_at hw 8 rfl) (own_at hw 9 rfl) (own_at hw 10 rfl) (own_at hw 11 rfl) (by decide) (rm3 l Z a0 hw bE 0 _ (fun _ => 0) T65.heap n0 (by decide) V_bE_66 (fun i hi => absurd hi (Nat.not_lt_zero i))) 0 (by decide) (by decide) rfl (by decide) (by decide) (g := (mkF m 34 #[.val (.int x0), .val (.int x1), .val (.int x2), .val (.int x3), .val (.int x4), .val (.int (Int32.ofNat n)), .val (.ref bE), .val (.ref bP), .val (.ref bL), .unset, .unset, .unset, .unset, .unset, .unset, .unset, .unset] [(.ref bE)])) rfl (by rw [hml]; rfl) (argsL := [(.ref bE)]) (rest := []) (lenOf pd___B_J rfl) rfl (by show 2 * 0 + _ ≤ _; exact Nat.le_of_eq rfl) (hb hby at_34)
  obtain ⟨rfl, N69q, e69⟩ := hQ69
  have N69 := Fr.app N65 N69q
  refine ownGo.st st69 ?_
  show ownGo p.tables e below T69 (mkF m 37 #[.val (.int x0), .val (.int x1), .val (.int x2), .val (.int x3), .val (.int x4), .val (.int (Int32.ofNat n)), .val (.ref bE), .val (.ref bP), .val (.ref bL), .unset, .unset, .unset, .unset, .unset, .unset, .unset, .unset] [(.long (own_hash (fun _ => 0) 0))]) _
  refine ownGo.st (fun _ k => XS.lstore X69.here hx rfl (hb hby at_37) rfl (l' := #[.val (.int x0), .val (.int x1), .val (.int x2), .val (.int x3), .val (.int x4), .val (.int (Int32.ofNat n)), .val (.ref bE), .val (.ref bP), .val (.ref bL), .val (.long (own_hash (fun _ => 0) 0)), .second, .unset, .unset, .unset, .unset, .unset, .unset]) rfl k) ?_
  show ownGo p.tables e below T69 (mkF m 39 #[.val (.int x0), .val (.int x1), .val (.int x2), .val (.int x3), .val (.int x4), .val (.int (Int32.ofNat n)), .val (.ref bE), .val (.ref bP), .val (.ref bL), .val (.long (own_hash (fun _ => 0) 0)), .second, .unset, .unset, .unset, .unset, .unset, .unset] []) _
  refine ownGo.st (fun _ k => XS.aload X69.here hx rfl (hb hby at_39) rfl rfl k) ?_
  show ownGo p.tables e below T69 (mkF m 41 #[.val (.int x0), .val (.int x1), .val (.int x2), .val (.int x3), .val (.int x4), .val (.int (Int32.ofNat n)), .val (.ref bE), .val (.ref bP), .val (.ref bL), .val (.long (own_hash (fun _ => 0) 0)), .second, .unset, .unset, .unset, .unset, .unset, .unset] [(.ref bP)]) _
  obtain ⟨_, T70, L70, X70, hQ70, st70⟩ := own_callS X69 hx hZ hown (own_at hw 8 rfl) (own_at hw 9 rfl) (own_at hw 10 rfl) (own_at hw 11 rfl) (by decide) (rm3 l Z a0 hw bP n f_bP (own_seq x1 x2 x3) T65.heap n0 (by omega) V_bP_68 hf_bP) 0 (by decide) (by decide) e69 (by decide) (by decide) (g := (mkF m 41 #[.val (.int x0), .val (.int x1), .val (.int x2), .val (.int x3), .val (.int x4), .val (.int (Int32.ofNat n)), .val (.ref bE), .val (.ref bP), .val (.ref bL), .val (.long (own_hash (fun _ => 0) 0)), .second, .unset, .unset, .unset, .unset, .unset, .unset] [(.ref bP)])) rfl (by rw [hml]; rfl) (argsL := [(.ref bP)]) (rest := []) (lenOf pd___B_J rfl) rfl (by show 2 * 0 + _ ≤ _; exact Nat.le_of_eq rfl) (hb hby at_41)
  obtain ⟨rfl, N70q, e70⟩ := hQ70
  have N70 := Fr.app N69 N70q
  refine ownGo.st st70 ?_
  show ownGo p.tables e below T70 (mkF m 44 #[.val (.int x0), .val (.int x1), .val (.int x2), .val (.int x3), .val (.int x4), .val (.int (Int32.ofNat n)), .val (.ref bE), .val (.ref bP), .val (.ref bL), .val (.long (own_hash (fun _ => 0) 0)), .second, .unset, .unset, .unset, .unset, .unset, .unset] [(.long (own_hash (own_seq x1 x2 x3) n))]) _
  refine ownGo.st (fun _ k => XS.lstore X70.here hx rfl (hb hby at_44) rfl (l' := #[.val (.int x0), .val (.int x1), .val (.int x2), .val (.int x3), .val (.int x4), .val (.int (Int32.ofNat n)), .val (.ref bE), .val (.ref bP), .val (.ref bL), .val (.long (own_hash (fun _ => 0) 0)), .second, .val (.long (own_hash (own_seq x1 x2 x3) n)), .second, .unset, .unset, .unset, .unset]) rfl k) ?_
  show ownGo p.tables e below T70 (mkF m 46 #[.val (.int x0), .val (.int x1), .val (.int x2), .val (.int x3), .val (.int x4), .val (.int (Int32.ofNat n)), .val (.ref bE), .val (.ref bP), .val (.ref bL), .val (.long (own_hash (fun _ => 0) 0)), .second, .val (.long (own_hash (own_seq x1 x2 x3) n)), .second, .unset, .unset, .unset, .unset] []) _
  refine ownGo.st (fun _ k => XS.aload X70.here hx rfl (hb hby at_46) rfl rfl k) ?_
  show ownGo p.tables e below T70 (mkF m 48 #[.val (.int x0), .val (.int x1), .val (.int x2), .val (.int x3), .val (.int x4), .val (.int (Int32.ofNat n)), .val (.ref bE), .val (.ref bP), .val (.ref bL), .val (.long (own_hash (fun _ => 0) 0)), .second, .val (.long (own_hash (own_seq x1 x2 x3) n)), .second, .unset, .unset, .unset, .unset] [(.ref bL)]) _
  obtain ⟨_, T71, L71, X71, hQ71, st71⟩ := own_callS X70 hx hZ hown (own_at hw 8 rfl) (own_at hw 9 rfl) (own_at hw 10 rfl) (own_at hw 11 rfl) (by decide) (rm3 l Z a0 hw bL (n + 1) f_bL (own_ext x1 x2 x3 x4 n) T65.heap n0 (by omega) V_bL hf_bL) 0 (by decide) (by decide) e70 (by decide) (by decide) (g := (mkF m 48 #[.val (.int x0), .val (.int x1), .val (.int x2), .val (.int x3), .val (.int x4), .val (.int (Int32.ofNat n)), .val (.ref bE), .val (.ref bP), .val (.ref bL), .val (.long (own_hash (fun _ => 0) 0)), .second, .val (.long (own_hash (own_seq x1 x2 x3) n)), .second, .unset, .unset, .unset, .unset] [(.ref bL)])) rfl (by rw [hml]; rfl) (argsL := [(.ref bL)]) (rest := []) (lenOf pd___B_J rfl) rfl (by show 2 * 0 + _ ≤ _; exact Nat.le_of_eq rfl) (hb hby at_48)
  obtain ⟨rfl, N71q, e71⟩ := hQ71
  have N71 := Fr.app N70 N71q
  refine ownGo.st st71 ?_
  show ownGo p.tables e below T71 (mkF m 51 #[.val (.int x0), .val (.int x1), .val (.int x2), .val (.int x3), .val (.int x4), .val (.int (Int32.ofNat n)), .val (.ref bE), .val (.ref bP), .val (.ref bL), .val (.long (own_hash (fun _ => 0) 0)), .second, .val (.long (own_hash (own_seq x1 x2 x3) n)), .second, .unset, .unset, .unset, .unset] [(.long (own_hash (own_ext x1 x2 x3 x4 n) (n + 1)))]) _
  refine ownGo.st (fun _ k => XS.lstore X71.here hx rfl (hb hby at_51) rfl (l' := #[.val (.int x0), .val (.int x1), .val (.int x2), .val (.int x3), .val (.int x4), .val (.int (Int32.ofNat n)), .val (.ref bE), .val (.ref bP), .val (.ref bL), .val (.long (own_hash (fun _ => 0) 0)), .second, .val (.long (own_hash (own_seq x1 x2 x3) n)), .second, .val (.long (own_hash (own_ext x1 x2 x3 x4 n) (n + 1))), .second, .unset, .unset]) rfl k) ?_
  show ownGo p.tables e below T71 (mkF m 53 #[.val (.int x0), .val (.int x1), .val (.int x2), .val (.int x3), .val (.int x4), .val (.int (Int32.ofNat n)), .val (.ref bE), .val (.ref bP), .val (.ref bL), .val (.long (own_hash (fun _ => 0) 0)), .second, .val (.long (own_hash (own_seq x1 x2 x3) n)), .second, .val (.long (own_hash (own_ext x1 x2 x3 x4 n) (n + 1))), .second, .unset, .unset] []) _
  refine ownGo.st (fun _ k => XS.lload X71.here hx rfl (hb hby at_53) rfl k) ?_
  show ownGo p.tables e below T71 (mkF m 55 #[.val (.int x0), .val (.int x1), .val (.int x2), .val (.int x3), .val (.int x4), .val (.int (Int32.ofNat n)), .val (.ref bE), .val (.ref bP), .val (.ref bL), .val (.long (own_hash (fun _ => 0) 0)), .second, .val (.long (own_hash (own_seq x1 x2 x3) n)), .second, .val (.long (own_hash (own_ext x1 x2 x3 x4 n) (n + 1))), .second, .unset, .unset] [(.long (own_hash (fun _ => 0) 0))]) _
  refine ownGo.st (X71.ldc2Long hx hown (mvT hZ (own_at hw 14 rfl)) (g := (mkF m 55 #[.val (.int x0), .val (.int x1), .val (.int x2), .val (.int x3), .val (.int x4), .val (.int (Int32.ofNat n)), .val (.ref bE), .val (.ref bP), .val (.ref bL), .val (.long (own_hash (fun _ => 0) 0)), .second, .val (.long (own_hash (own_seq x1 x2 x3) n)), .second, .val (.long (own_hash (own_ext x1 x2 x3 x4 n) (n + 1))), .second, .unset, .unset] [(.long (own_hash (fun _ => 0) 0))])) rfl (hb hby at_55)) ?_
  show ownGo p.tables e below T71 (mkF m 58 #[.val (.int x0), .val (.int x1), .val (.int x2), .val (.int x3), .val (.int x4), .val (.int (Int32.ofNat n)), .val (.ref bE), .val (.ref bP), .val (.ref bL), .val (.long (own_hash (fun _ => 0) 0)), .second, .val (.long (own_hash (own_seq x1 x2 x3) n)), .second, .val (.long (own_hash (own_ext x1 x2 x3 x4 n) (n + 1))), .second, .unset, .unset] [(.long (-3750763034362895579 : Int64)), (.long (own_hash (fun _ => 0) 0))]) _
  refine ownGo.st (fun _ k => XS.lcmp X71.here hx rfl (hb hby at_58) rfl k) ?_
  show ownGo p.tables e below T71 (mkF m 59 #[.val (.int x0), .val (.int x1), .val (.int x2), .val (.int x3), .val (.int x4), .val (.int (Int32.ofNat n)), .val (.ref bE), .val (.ref bP), .val (.ref bL), .val (.long (own_hash (fun _ => 0) 0)), .second, .val (.long (own_hash (own_seq x1 x2 x3) n)), .second, .val (.long (own_hash (own_ext x1 x2 x3 x4 n) (n + 1))), .second, .unset, .unset] [(.int (lcmpW (own_hash (fun _ => 0) 0) (-3750763034362895579 : Int64)))]) _
  have hc72 : (own_hash (fun _ => 0) 0) = (-3750763034362895579 : Int64) := rfl
  refine ownGo.st (fun _ k => XS.ifNo X71.here hx rfl (hb hby at_59) rfl ((if0 _ _).trans (teq ((lw_eq _ _).mpr hc72)).2) k) ?_
  show ownGo p.tables e below T71 (mkF m 62 #[.val (.int x0), .val (.int x1), .val (.int x2), .val (.int x3), .val (.int x4), .val (.int (Int32.ofNat n)), .val (.ref bE), .val (.ref bP), .val (.ref bL), .val (.long (own_hash (fun _ => 0) 0)), .second, .val (.long (own_hash (own_seq x1 x2 x3) n)), .second, .val (.long (own_hash (own_ext x1 x2 x3 x4 n) (n + 1))), .second, .unset, .unset] []) _
  refine ownGo.st (fun _ k => XS.iconst X71.here hx rfl (hb hby at_62)  k) ?_
  show ownGo p.tables e below T71 (mkF m 63 #[.val (.int x0), .val (.int x1), .val (.int x2), .val (.int x3), .val (.int x4), .val (.int (Int32.ofNat n)), .val (.ref bE), .val (.ref bP), .val (.ref bL), .val (.long (own_hash (fun _ => 0) 0)), .second, .val (.long (own_hash (own_seq x1 x2 x3) n)), .second, .val (.long (own_hash (own_ext x1 x2 x3 x4 n) (n + 1))), .second, .unset, .unset] [(.int (1 : Int32))]) _
  refine ownGo.st (fun _ k => XS.goto X71.here hx rfl (pc0 := 63) (pc' := 67) rfl (hb hby at_63) (by decide) (by decide) k) ?_
  show ownGo p.tables e below T71 (mkF m 67 #[.val (.int x0), .val (.int x1), .val (.int x2), .val (.int x3), .val (.int x4), .val (.int (Int32.ofNat n)), .val (.ref bE), .val (.ref bP), .val (.ref bL), .val (.long (own_hash (fun _ => 0) 0)), .second, .val (.long (own_hash (own_seq x1 x2 x3) n)), .second, .val (.long (own_hash (own_ext x1 x2 x3 x4 n) (n + 1))), .second, .unset, .unset] [(.int (1 : Int32))]) _
  refine ownGo.st (fun _ k => XS.istore X71.here hx rfl (hb hby at_67) rfl (l' := #[.val (.int x0), .val (.int x1), .val (.int x2), .val (.int x3), .val (.int x4), .val (.int (Int32.ofNat n)), .val (.ref bE), .val (.ref bP), .val (.ref bL), .val (.long (own_hash (fun _ => 0) 0)), .second, .val (.long (own_hash (own_seq x1 x2 x3) n)), .second, .val (.long (own_hash (own_ext x1 x2 x3 x4 n) (n + 1))), .second, .val (.int (1 : Int32)), .unset]) rfl k) ?_
  show ownGo p.tables e below T71 (mkF m 69 #[.val (.int x0), .val (.int x1), .val (.int x2), .val (.int x3), .val (.int x4), .val (.int (Int32.ofNat n)), .val (.ref bE), .val (.ref bP), .val (.ref bL), .val (.long (own_hash (fun _ => 0) 0)), .second, .val (.long (own_hash (own_seq x1 x2 x3) n)), .second, .val (.long (own_hash (own_ext x1 x2 x3 x4 n) (n + 1))), .second, .val (.int (1 : Int32)), .unset] []) _
  refine ownGo.st (fun _ k => XS.lload X71.here hx rfl (hb hby at_69) rfl k) ?_
  show ownGo p.tables e below T71 (mkF m 71 #[.val (.int x0), .val (.int x1), .val (.int x2), .val (.int x3), .val (.int x4), .val (.int (Int32.ofNat n)), .val (.ref bE), .val (.ref bP), .val (.ref bL), .val (.long (own_hash (fun _ => 0) 0)), .second, .val (.long (own_hash (own_seq x1 x2 x3) n)), .second, .val (.long (own_hash (own_ext x1 x2 x3 x4 n) (n + 1))), .second, .val (.int (1 : Int32)), .unset] [(.long (own_hash (own_ext x1 x2 x3 x4 n) (n + 1)))]) _
  refine ownGo.st (fun _ k => XS.lload X71.here hx rfl (hb hby at_71) rfl k) ?_
  show ownGo p.tables e below T71 (mkF m 73 #[.val (.int x0), .val (.int x1), .val (.int x2), .val (.int x3), .val (.int x4), .val (.int (Int32.ofNat n)), .val (.ref bE), .val (.ref bP), .val (.ref bL), .val (.long (own_hash (fun _ => 0) 0)), .second, .val (.long (own_hash (own_seq x1 x2 x3) n)), .second, .val (.long (own_hash (own_ext x1 x2 x3 x4 n) (n + 1))), .second, .val (.int (1 : Int32)), .unset] [(.long (own_hash (own_seq x1 x2 x3) n)), (.long (own_hash (own_ext x1 x2 x3 x4 n) (n + 1)))]) _
  refine ownGo.st (fun _ k => XS.iload X71.here hx rfl (hb hby at_73) rfl k) ?_
  show ownGo p.tables e below T71 (mkF m 75 #[.val (.int x0), .val (.int x1), .val (.int x2), .val (.int x3), .val (.int x4), .val (.int (Int32.ofNat n)), .val (.ref bE), .val (.ref bP), .val (.ref bL), .val (.long (own_hash (fun _ => 0) 0)), .second, .val (.long (own_hash (own_seq x1 x2 x3) n)), .second, .val (.long (own_hash (own_ext x1 x2 x3 x4 n) (n + 1))), .second, .val (.int (1 : Int32)), .unset] [(.int x4), (.long (own_hash (own_seq x1 x2 x3) n)), (.long (own_hash (own_ext x1 x2 x3 x4 n) (n + 1)))]) _
  refine ownGo.st (fun _ k => XS.sipush X71.here hx rfl (hb hby at_75)  k) ?_
  show ownGo p.tables e below T71 (mkF m 78 #[.val (.int x0), .val (.int x1), .val (.int x2), .val (.int x3), .val (.int x4), .val (.int (Int32.ofNat n)), .val (.ref bE), .val (.ref bP), .val (.ref bL), .val (.long (own_hash (fun _ => 0) 0)), .second, .val (.long (own_hash (own_seq x1 x2 x3) n)), .second, .val (.long (own_hash (own_ext x1 x2 x3 x4 n) (n + 1))), .second, .val (.int (1 : Int32)), .unset] [(.int (255 : Int32)), (.int x4), (.long (own_hash (own_seq x1 x2 x3) n)), (.long (own_hash (own_ext x1 x2 x3 x4 n) (n + 1)))]) _
  refine ownGo.st (fun _ k => XS.iand X71.here hx rfl (hb hby at_78) rfl k) ?_
  show ownGo p.tables e below T71 (mkF m 79 #[.val (.int x0), .val (.int x1), .val (.int x2), .val (.int x3), .val (.int x4), .val (.int (Int32.ofNat n)), .val (.ref bE), .val (.ref bP), .val (.ref bL), .val (.long (own_hash (fun _ => 0) 0)), .second, .val (.long (own_hash (own_seq x1 x2 x3) n)), .second, .val (.long (own_hash (own_ext x1 x2 x3 x4 n) (n + 1))), .second, .val (.int (1 : Int32)), .unset] [(.int (x4 &&& (255 : Int32))), (.long (own_hash (own_seq x1 x2 x3) n)), (.long (own_hash (own_ext x1 x2 x3 x4 n) (n + 1)))]) _
  refine ownGo.st (fun _ k => XS.i2l X71.here hx rfl (hb hby at_79) rfl k) ?_
  show ownGo p.tables e below T71 (mkF m 80 #[.val (.int x0), .val (.int x1), .val (.int x2), .val (.int x3), .val (.int x4), .val (.int (Int32.ofNat n)), .val (.ref bE), .val (.ref bP), .val (.ref bL), .val (.long (own_hash (fun _ => 0) 0)), .second, .val (.long (own_hash (own_seq x1 x2 x3) n)), .second, .val (.long (own_hash (own_ext x1 x2 x3 x4 n) (n + 1))), .second, .val (.int (1 : Int32)), .unset] [(.long ((x4 &&& (255 : Int32)).toInt64)), (.long (own_hash (own_seq x1 x2 x3) n)), (.long (own_hash (own_ext x1 x2 x3 x4 n) (n + 1)))]) _
  refine ownGo.st (fun _ k => XS.lxor X71.here hx rfl (hb hby at_80) rfl k) ?_
  show ownGo p.tables e below T71 (mkF m 81 #[.val (.int x0), .val (.int x1), .val (.int x2), .val (.int x3), .val (.int x4), .val (.int (Int32.ofNat n)), .val (.ref bE), .val (.ref bP), .val (.ref bL), .val (.long (own_hash (fun _ => 0) 0)), .second, .val (.long (own_hash (own_seq x1 x2 x3) n)), .second, .val (.long (own_hash (own_ext x1 x2 x3 x4 n) (n + 1))), .second, .val (.int (1 : Int32)), .unset] [(.long ((own_hash (own_seq x1 x2 x3) n) ^^^ ((x4 &&& (255 : Int32)).toInt64))), (.long (own_hash (own_ext x1 x2 x3 x4 n) (n + 1)))]) _
  refine ownGo.st (X71.ldc2Long hx hown (mvT hZ (own_at hw 15 rfl)) (g := (mkF m 81 #[.val (.int x0), .val (.int x1), .val (.int x2), .val (.int x3), .val (.int x4), .val (.int (Int32.ofNat n)), .val (.ref bE), .val (.ref bP), .val (.ref bL), .val (.long (own_hash (fun _ => 0) 0)), .second, .val (.long (own_hash (own_seq x1 x2 x3) n)), .second, .val (.long (own_hash (own_ext x1 x2 x3 x4 n) (n + 1))), .second, .val (.int (1 : Int32)), .unset] [(.long ((own_hash (own_seq x1 x2 x3) n) ^^^ ((x4 &&& (255 : Int32)).toInt64))), (.long (own_hash (own_ext x1 x2 x3 x4 n) (n + 1)))])) rfl (hb hby at_81)) ?_
  show ownGo p.tables e below T71 (mkF m 84 #[.val (.int x0), .val (.int x1), .val (.int x2), .val (.int x3), .val (.int x4), .val (.int (Int32.ofNat n)), .val (.ref bE), .val (.ref bP), .val (.ref bL), .val (.long (own_hash (fun _ => 0) 0)), .second, .val (.long (own_hash (own_seq x1 x2 x3) n)), .second, .val (.long (own_hash (own_ext x1 x2 x3 x4 n) (n + 1))), .second, .val (.int (1 : Int32)), .unset] [(.long (1099511628211 : Int64)), (.long ((own_hash (own_seq x1 x2 x3) n) ^^^ ((x4 &&& (255 : Int32)).toInt64))), (.long (own_hash (own_ext x1 x2 x3 x4 n) (n + 1)))]) _
  refine ownGo.st (fun _ k => XS.lmul X71.here hx rfl (hb hby at_84) rfl k) ?_
  show ownGo p.tables e below T71 (mkF m 85 #[.val (.int x0), .val (.int x1), .val (.int x2), .val (.int x3), .val (.int x4), .val (.int (Int32.ofNat n)), .val (.ref bE), .val (.ref bP), .val (.ref bL), .val (.long (own_hash (fun _ => 0) 0)), .second, .val (.long (own_hash (own_seq x1 x2 x3) n)), .second, .val (.long (own_hash (own_ext x1 x2 x3 x4 n) (n + 1))), .second, .val (.int (1 : Int32)), .unset] [(.long (((own_hash (own_seq x1 x2 x3) n) ^^^ ((x4 &&& (255 : Int32)).toInt64)) * (1099511628211 : Int64))), (.long (own_hash (own_ext x1 x2 x3 x4 n) (n + 1)))]) _
  refine ownGo.st (fun _ k => XS.lcmp X71.here hx rfl (hb hby at_85) rfl k) ?_
  show ownGo p.tables e below T71 (mkF m 86 #[.val (.int x0), .val (.int x1), .val (.int x2), .val (.int x3), .val (.int x4), .val (.int (Int32.ofNat n)), .val (.ref bE), .val (.ref bP), .val (.ref bL), .val (.long (own_hash (fun _ => 0) 0)), .second, .val (.long (own_hash (own_seq x1 x2 x3) n)), .second, .val (.long (own_hash (own_ext x1 x2 x3 x4 n) (n + 1))), .second, .val (.int (1 : Int32)), .unset] [(.int (lcmpW (own_hash (own_ext x1 x2 x3 x4 n) (n + 1)) (((own_hash (own_seq x1 x2 x3) n) ^^^ ((x4 &&& (255 : Int32)).toInt64)) * (1099511628211 : Int64))))]) _
  have hc73 : (own_hash (own_ext x1 x2 x3 x4 n) (n + 1)) = (((own_hash (own_seq x1 x2 x3) n) ^^^ ((x4 &&& (255 : Int32)).toInt64)) * (1099511628211 : Int64)) := own_step x1 x2 x3 x4 n
  refine ownGo.st (fun _ k => XS.ifNo X71.here hx rfl (hb hby at_86) rfl ((if0 _ _).trans (teq ((lw_eq _ _).mpr hc73)).2) k) ?_
  show ownGo p.tables e below T71 (mkF m 89 #[.val (.int x0), .val (.int x1), .val (.int x2), .val (.int x3), .val (.int x4), .val (.int (Int32.ofNat n)), .val (.ref bE), .val (.ref bP), .val (.ref bL), .val (.long (own_hash (fun _ => 0) 0)), .second, .val (.long (own_hash (own_seq x1 x2 x3) n)), .second, .val (.long (own_hash (own_ext x1 x2 x3 x4 n) (n + 1))), .second, .val (.int (1 : Int32)), .unset] []) _
  refine ownGo.st (fun _ k => XS.iconst X71.here hx rfl (hb hby at_89)  k) ?_
  show ownGo p.tables e below T71 (mkF m 90 #[.val (.int x0), .val (.int x1), .val (.int x2), .val (.int x3), .val (.int x4), .val (.int (Int32.ofNat n)), .val (.ref bE), .val (.ref bP), .val (.ref bL), .val (.long (own_hash (fun _ => 0) 0)), .second, .val (.long (own_hash (own_seq x1 x2 x3) n)), .second, .val (.long (own_hash (own_ext x1 x2 x3 x4 n) (n + 1))), .second, .val (.int (1 : Int32)), .unset] [(.int (1 : Int32))]) _
  refine ownGo.st (fun _ k => XS.goto X71.here hx rfl (pc0 := 90) (pc' := 94) rfl (hb hby at_90) (by decide) (by decide) k) ?_
  show ownGo p.tables e below T71 (mkF m 94 #[.val (.int x0), .val (.int x1), .val (.int x2), .val (.int x3), .val (.int x4), .val (.int (Int32.ofNat n)), .val (.ref bE), .val (.ref bP), .val (.ref bL), .val (.long (own_hash (fun _ => 0) 0)), .second, .val (.long (own_hash (own_seq x1 x2 x3) n)), .second, .val (.long (own_hash (own_ext x1 x2 x3 x4 n) (n + 1))), .second, .val (.int (1 : Int32)), .unset] [(.int (1 : Int32))]) _
  refine ownGo.st (fun _ k => XS.istore X71.here hx rfl (hb hby at_94) rfl (l' := #[.val (.int x0), .val (.int x1), .val (.int x2), .val (.int x3), .val (.int x4), .val (.int (Int32.ofNat n)), .val (.ref bE), .val (.ref bP), .val (.ref bL), .val (.long (own_hash (fun _ => 0) 0)), .second, .val (.long (own_hash (own_seq x1 x2 x3) n)), .second, .val (.long (own_hash (own_ext x1 x2 x3 x4 n) (n + 1))), .second, .val (.int (1 : Int32)), .val (.int (1 : Int32))]) rfl k) ?_
  show ownGo p.tables e below T71 (mkF m 96 #[.val (.int x0), .val (.int x1), .val (.int x2), .val (.int x3), .val (.int x4), .val (.int (Int32.ofNat n)), .val (.ref bE), .val (.ref bP), .val (.ref bL), .val (.long (own_hash (fun _ => 0) 0)), .second, .val (.long (own_hash (own_seq x1 x2 x3) n)), .second, .val (.long (own_hash (own_ext x1 x2 x3 x4 n) (n + 1))), .second, .val (.int (1 : Int32)), .val (.int (1 : Int32))] []) _
  refine ownGo.st (fun _ k => XS.iload X71.here hx rfl (hb hby at_96) rfl k) ?_
  show ownGo p.tables e below T71 (mkF m 98 #[.val (.int x0), .val (.int x1), .val (.int x2), .val (.int x3), .val (.int x4), .val (.int (Int32.ofNat n)), .val (.ref bE), .val (.ref bP), .val (.ref bL), .val (.long (own_hash (fun _ => 0) 0)), .second, .val (.long (own_hash (own_seq x1 x2 x3) n)), .second, .val (.long (own_hash (own_ext x1 x2 x3 x4 n) (n + 1))), .second, .val (.int (1 : Int32)), .val (.int (1 : Int32))] [(.int (1 : Int32))]) _
  have hc74 : ¬ ((1 : Int32) = (0 : Int32)) := (by decide)
  refine ownGo.st (fun _ k => XS.ifNo X71.here hx rfl (hb hby at_98) rfl ((if0 _ _).trans (feq hc74).1) k) ?_
  show ownGo p.tables e below T71 (mkF m 101 #[.val (.int x0), .val (.int x1), .val (.int x2), .val (.int x3), .val (.int x4), .val (.int (Int32.ofNat n)), .val (.ref bE), .val (.ref bP), .val (.ref bL), .val (.long (own_hash (fun _ => 0) 0)), .second, .val (.long (own_hash (own_seq x1 x2 x3) n)), .second, .val (.long (own_hash (own_ext x1 x2 x3 x4 n) (n + 1))), .second, .val (.int (1 : Int32)), .val (.int (1 : Int32))] []) _
  refine ownGo.st (fun _ k => XS.iload X71.here hx rfl (hb hby at_101) rfl k) ?_
  show ownGo p.tables e below T71 (mkF m 103 #[.val (.int x0), .val (.int x1), .val (.int x2), .val (.int x3), .val (.int x4), .val (.int (Int32.ofNat n)), .val (.ref bE), .val (.ref bP), .val (.ref bL), .val (.long (own_hash (fun _ => 0) 0)), .second, .val (.long (own_hash (own_seq x1 x2 x3) n)), .second, .val (.long (own_hash (own_ext x1 x2 x3 x4 n) (n + 1))), .second, .val (.int (1 : Int32)), .val (.int (1 : Int32))] [(.int (1 : Int32))]) _
  have hc75 : ¬ ((1 : Int32) = (0 : Int32)) := (by decide)
  refine ownGo.st (fun _ k => XS.ifNo X71.here hx rfl (hb hby at_103) rfl ((if0 _ _).trans (feq hc75).1) k) ?_
  show ownGo p.tables e below T71 (mkF m 106 #[.val (.int x0), .val (.int x1), .val (.int x2), .val (.int x3), .val (.int x4), .val (.int (Int32.ofNat n)), .val (.ref bE), .val (.ref bP), .val (.ref bL), .val (.long (own_hash (fun _ => 0) 0)), .second, .val (.long (own_hash (own_seq x1 x2 x3) n)), .second, .val (.long (own_hash (own_ext x1 x2 x3 x4 n) (n + 1))), .second, .val (.int (1 : Int32)), .val (.int (1 : Int32))] []) _
  refine ownGo.st (fun _ k => XS.iconst X71.here hx rfl (hb hby at_106)  k) ?_
  show ownGo p.tables e below T71 (mkF m 107 #[.val (.int x0), .val (.int x1), .val (.int x2), .val (.int x3), .val (.int x4), .val (.int (Int32.ofNat n)), .val (.ref bE), .val (.ref bP), .val (.ref bL), .val (.long (own_hash (fun _ => 0) 0)), .second, .val (.long (own_hash (own_seq x1 x2 x3) n)), .second, .val (.long (own_hash (own_ext x1 x2 x3 x4 n) (n + 1))), .second, .val (.int (1 : Int32)), .val (.int (1 : Int32))] [(.int (1 : Int32))]) _
  refine ownGo.st (fun _ k => XS.goto X71.here hx rfl (pc0 := 107) (pc' := 111) rfl (hb hby at_107) (by decide) (by decide) k) ?_
  show ownGo p.tables e below T71 (mkF m 111 #[.val (.int x0), .val (.int x1), .val (.int x2), .val (.int x3), .val (.int x4), .val (.int (Int32.ofNat n)), .val (.ref bE), .val (.ref bP), .val (.ref bL), .val (.long (own_hash (fun _ => 0) 0)), .second, .val (.long (own_hash (own_seq x1 x2 x3) n)), .second, .val (.long (own_hash (own_ext x1 x2 x3 x4 n) (n + 1))), .second, .val (.int (1 : Int32)), .val (.int (1 : Int32))] [(.int (1 : Int32))]) _
  exact own_retZ X71 hx hlk hret (hb hby at_111) (Or.inr rfl) ⟨rfl, N71⟩ (by decide) (by decide)
set_option maxRecDepth 65536 in
set_option maxHeartbeats 40000000 in
theorem comes_1 {Post : Tables → Env → Array Value → State → Outcome → State → Prop} (hpost : ∀ tb e args s v u, (limb_1_1.after args s (.returned v) u = true ∧ limb_1_2.after args s (.returned v) u = true ∧ True) → FrameEnd s (.returned v) u (Jvm.fieldLocs frame_1_writes args s ++ Jvm.arrayLocs frame_1_arrays args s ++ Jvm.staticLocs frame_1_statics s) 16 128 → Post tb e args s (.returned v) u) :
    ArmFor flags0 classFile x code maxLocals ret World_1 tables_1 room_1 Calls_1 rest_1 Pre_1 Post := by
  intro l hfl _ _ p e ha hc hk s m args below hf hA hF happ hP
  obtain ⟨hcalls, hrest, hpre⟩ := hP
  obtain ⟨-, -, -, hnamed, -, -, -, hat⟩ := (Spec.applies_iff hf).mp happ
  obtain ⟨hg, hn⟩ := and_e (Cond.before_iff.mp (show (Jvm.Cond.and given_1 narrow_1).before args s = true from hpre))
  obtain ⟨hcount, g1⟩ := and_e hg
  obtain ⟨hv0, g3⟩ := and_e g1
  obtain ⟨hv1, g5⟩ := and_e g3
  obtain ⟨hv2, g7⟩ := and_e g5
  obtain ⟨hv3, hv4⟩ := and_e g7
  obtain ⟨w0, w1, w2, w3, w4, rfl⟩ : ∃ w0 w1 w2 w3 w4 : Value, args = #[w0, w1, w2, w3, w4] := by
    have hs : args.size = 5 := by simpa [Cond.value, given_1] using hcount
    obtain ⟨L⟩ := args
    match L, hs with
    | [w0, w1, w2, w3, w4], _ => exact ⟨w0, w1, w2, w3, w4, rfl⟩
  have hw := fun d (hd : d ∈ tables_1) => atoms_spec (ws := Jvm.Cond.code x code maxLocals ret :: tables_1) hat d (List.mem_cons_of_mem _ hd)
  obtain ⟨i0, ei0⟩ := is_v hv0
  obtain rfl : w0 = (.int i0) := Option.some.inj ei0
  obtain ⟨i1, ei1⟩ := is_v hv1
  obtain rfl : w1 = (.int i1) := Option.some.inj ei1
  obtain ⟨i2, ei2⟩ := is_v hv2
  obtain rfl : w2 = (.int i2) := Option.some.inj ei2
  obtain ⟨i3, ei3⟩ := is_v hv3
  obtain rfl : w3 = (.int i3) := Option.some.inj ei3
  obtain ⟨i4, ei4⟩ := is_v hv4
  obtain rfl : w4 = (.int i4) := Option.some.inj ei4
  obtain ⟨n, o, h1, h2, h3, _, L, rfl, ⟨rfl, N⟩, hq⟩ := rm0 l s _ hw i0 i1 i2 i3 i4 s.heap s.heap.size (Nat.le_refl _) p e ha hc hk s m _ below hf ((Spec.applies_iff_loose hf).mp happ).1 ⟨rfl, State.Warmed39.refl s, rfl⟩ trivial
  refine ⟨n, _, h1, h2, h3, hpost _ _ _ _ _ _ ⟨Cond.after_iff.mpr rfl, Cond.after_iff.mpr (eq_i res_at (Term.int_eval (1)) rfl), trivial⟩ ⟨hq.1, hq.2.1, (hq.2.2.sift fun y hy => Or.inr (N y hy)).mono (by decide) (by decide)⟩⟩
theorem main_1_1 : Claimed_1_1 := comes_1 fun _ _ _ _ _ _ h hF => ⟨h.1, hF⟩
theorem main_1_2 : Claimed_1_2 := comes_1 fun _ _ _ _ _ _ h hF => ⟨h.2.1, hF⟩
end Jvm.Pilot.@@N@@
namespace Jvm.Pilot.@@N@@
open Jvm Jvm.ClassFile Sem Op Lib Jvm.Free Jvm.Stand Jvm.Pilot.@@N@@.Jvm.D
/-! MADE BY PROGRAM (witnessworld.py) out of the Statement's table words and the real class files: 9 classes; the members and pool entries that the words name. The judged class is class 1, her method 3. -/
namespace start1
open Jvm.ClassFile
def u (s : String) : CpInfo := .utf8 (stringToUtf16 s)
/-- a pool by its gaps: so many unusable entries, then the entry; so many at the end -/
def gap : Nat → List CpInfo → List CpInfo
  | 0, r => r
  | n + 1, r => .unusable :: gap n r
def poolList (es : List (Nat × CpInfo)) (last : Nat) : List CpInfo := es.foldr (fun e r => gap e.1 (e.2 :: r)) (gap last [])
def pool (es : List (Nat × CpInfo)) (last : Nat) : Array CpInfo := ⟨poolList es last⟩
def fileOf (pool : Array CpInfo) (this : Nat) (attrs : Array Attribute := #[]) (ms : Array MethodInfo := #[]) (fl : Nat := 33) (sup : Nat := 0) (ifs : Array Nat := #[]) (fds : Array FieldInfo := #[]) : ClassFile where
  minorVersion := 0
  majorVersion := 65
  constantPool := pool
  accessFlags := fl
  thisClass := this
  superClass := sup
  interfaces := ifs
  fields := fds
  methods := ms
  attributes := attrs
def plain (name : String) (sup : Option ClassId) : Class where
  name := name
  kind := .ordinary
  loader := none
  accessFlags := 33
  super := sup
  interfaces := #[]
  cf := none
  fields := #[]
  methods := #[]
  instanceTypes := #[]
  staticTypes := #[]
  resolved := #[]
  callSites := []
  init := .initialized
  statics := none
  mirror := none

def pool0 : Array CpInfo := pool [(5, u "<init>"), (0, u "()V"), (1, .class_ 10), (1, u "java/lang/Object")] 113

def k0m0 : Method := { name := "<init>", desc := "()V", sig := { parameters := [], returnType := none }, accessFlags := 1, code := none }
/-- java/lang/Object -/
def k0 : Class := { plain "java/lang/Object" none with
  accessFlags := 33
  interfaces := #[]
  cf := some (fileOf pool0 8 #[] #[{ accessFlags := 1, nameIndex := 5, descriptorIndex := 6, attributes := #[] }] 33 0 #[] #[])
  fields := #[]
  methods := #[k0m0]
  instanceTypes := #[]
  staticTypes := #[]
  resolved := Array.replicate 124 none
  statics := none }

def pool1 : Array CpInfo := pool [(2, .class_ 4), (1, u "java/lang/Object"), (0, u "<init>"), (0, u "()V"), (0, .methodref 8 9), (0, .class_ 10), (0, .nameAndType 11 12), (0, u "com/example/lexipath/lexipath/fulltext/IndexBytesHashPinLaw"), (0, u "make"), (0, u "(IIII)[B"), (0, .methodref 8 14), (0, .nameAndType 15 16), (0, u "extend"), (0, u "(IIIII)[B"), (0, .methodref 18 19), (0, .class_ 20), (0, .nameAndType 21 22), (0, u "com/example/lexipath/lexipath/fulltext/IndexBytes"), (0, u "hash"), (0, u "([B)J"), (0, .long 14695981039346656037), (1, .long 1099511628211), (4, u "law"), (0, u "(IIIII)Z")] 4

def k1m0 : Method := { name := "<init>", desc := "()V", sig := { parameters := [], returnType := none }, accessFlags := 1, code := none }
def k1c1 : Code := { maxStack := 4, maxLocals := 4, code := method_2_code, exceptionTable := #[], attributes := #[] }
def k1m1 : Method := { name := "make", desc := "(IIII)[B", sig := { parameters := [.int, .int, .int, .int], returnType := some (.array .byte) }, accessFlags := 10, code := some k1c1 }
def k1c2 : Code := { maxStack := 4, maxLocals := 5, code := method_3_code, exceptionTable := #[], attributes := #[] }
def k1m2 : Method := { name := "extend", desc := "(IIIII)[B", sig := { parameters := [.int, .int, .int, .int, .int], returnType := some (.array .byte) }, accessFlags := 10, code := some k1c2 }
def k1c3 : Code := { maxStack := 6, maxLocals := 17, code := code, exceptionTable := #[], attributes := #[] }
def k1m3 : Method := { name := "law", desc := "(IIIII)Z", sig := { parameters := [.int, .int, .int, .int, .int], returnType := some .boolean }, accessFlags := 9, code := some k1c3 }
/-- com/example/lexipath/lexipath/fulltext/IndexBytesHashPinLaw -/
def k1 : Class := { plain "com/example/lexipath/lexipath/fulltext/IndexBytesHashPinLaw" (some 0) with
  accessFlags := 49
  interfaces := #[]
  cf := some (fileOf pool1 8 #[] #[{ accessFlags := 1, nameIndex := 5, descriptorIndex := 6, attributes := #[] }, { accessFlags := 10, nameIndex := 11, descriptorIndex := 12, attributes := #[] }, { accessFlags := 10, nameIndex := 15, descriptorIndex := 16, attributes := #[] }, { accessFlags := 9, nameIndex := 30, descriptorIndex := 31, attributes := #[] }] 49 2 #[] #[])
  fields := #[]
  methods := #[k1m0, k1m1, k1m2, k1m3]
  instanceTypes := #[]
  staticTypes := #[]
  resolved := Array.replicate 36 none
  statics := none }

def pool2 : Array CpInfo := pool [(2, .class_ 4), (1, u "java/lang/Object"), (0, u "<init>"), (0, u "()V"), (11, .class_ 19), (0, u "com/example/lexipath/lexipath/fulltext/IndexBytes"), (0, .long 14695981039346656037), (1, .long 1099511628211), (1, u "SEVEN_BITS"), (0, u "I"), (2, u "BYTE"), (1, u "MORE"), (1, u "SHIFT"), (1, u "LONGEST"), (1, u "FNV_OFFSET"), (0, u "J"), (0, u "FNV_PRIME"), (4, u "hash"), (0, u "([B)J"), (6, .class_ 52), (0, u "com/example/lexipath/lexipath/fulltext/IndexBytes$Sink"), (0, .class_ 54), (0, u "com/example/lexipath/lexipath/fulltext/IndexBytes$Source")] 3

def k2m0 : Method := { name := "<init>", desc := "()V", sig := { parameters := [], returnType := none }, accessFlags := 2, code := none }
def k2c1 : Code := { maxStack := 4, maxLocals := 7, code := prog_111_method_3_code, exceptionTable := #[], attributes := #[] }
def k2m1 : Method := { name := "hash", desc := "([B)J", sig := { parameters := [(.array .byte)], returnType := some .long }, accessFlags := 8, code := some k2c1 }
/-- com/example/lexipath/lexipath/fulltext/IndexBytes -/
def k2 : Class := { plain "com/example/lexipath/lexipath/fulltext/IndexBytes" (some 0) with
  accessFlags := 48
  interfaces := #[]
  cf := some (fileOf pool2 18 #[.nestMembers #[51, 53]] #[{ accessFlags := 2, nameIndex := 5, descriptorIndex := 6, attributes := #[] }, { accessFlags := 8, nameIndex := 43, descriptorIndex := 44, attributes := #[] }] 48 2 #[] #[{ accessFlags := 26, nameIndex := 24, descriptorIndex := 25, attributes := #[] }, { accessFlags := 26, nameIndex := 28, descriptorIndex := 25, attributes := #[] }, { accessFlags := 26, nameIndex := 30, descriptorIndex := 25, attributes := #[] }, { accessFlags := 26, nameIndex := 32, descriptorIndex := 25, attributes := #[] }, { accessFlags := 26, nameIndex := 34, descriptorIndex := 25, attributes := #[] }, { accessFlags := 26, nameIndex := 36, descriptorIndex := 37, attributes := #[] }, { accessFlags := 26, nameIndex := 38, descriptorIndex := 37, attributes := #[] }])
  fields := #[{ name := "SEVEN_BITS", type := .int, accessFlags := 26, slot := 0, constantValue := 0 }, { name := "BYTE", type := .int, accessFlags := 26, slot := 1, constantValue := 0 }, { name := "MORE", type := .int, accessFlags := 26, slot := 2, constantValue := 0 }, { name := "SHIFT", type := .int, accessFlags := 26, slot := 3, constantValue := 0 }, { name := "LONGEST", type := .int, accessFlags := 26, slot := 4, constantValue := 0 }, { name := "FNV_OFFSET", type := .long, accessFlags := 26, slot := 5, constantValue := 0 }, { name := "FNV_PRIME", type := .long, accessFlags := 26, slot := 6, constantValue := 0 }]
  methods := #[k2m0, k2m1]
  instanceTypes := #[]
  staticTypes := #[.int, .int, .int, .int, .int, .long, .long]
  resolved := Array.replicate 58 none
  statics := none }

def pool3 : Array CpInfo := pool [(1, u "java/lang/Cloneable"), (0, .class_ 1), (0, u "java/lang/Object"), (0, .class_ 3)] 3

/-- java/lang/Cloneable -/
def k3 : Class := { plain "java/lang/Cloneable" (some 0) with
  accessFlags := 1537
  interfaces := #[]
  cf := some (fileOf pool3 2 #[] #[] 1537 4 #[] #[])
  fields := #[]
  methods := #[]
  instanceTypes := #[]
  staticTypes := #[]
  resolved := Array.replicate 8 none
  statics := none }

def pool4 : Array CpInfo := pool [(1, u "java/io/Serializable"), (0, .class_ 1), (0, u "java/lang/Object"), (0, .class_ 3)] 3

/-- java/io/Serializable -/
def k4 : Class := { plain "java/io/Serializable" (some 0) with
  accessFlags := 1537
  interfaces := #[]
  cf := some (fileOf pool4 2 #[] #[] 1537 4 #[] #[])
  fields := #[]
  methods := #[]
  instanceTypes := #[]
  staticTypes := #[]
  resolved := Array.replicate 8 none
  statics := none }

/-- the primitive byte -/
def k5 : Class := { plain "byte" none with kind := .primitive 'B', accessFlags := 0x411 }
/-- [B -/
def k6 : Class := { plain "[B" (some 0) with kind := .array 5 .byte, interfaces := #[3, 4], accessFlags := 1041 }

/-- the primitive int -/
def k7 : Class := { plain "int" none with kind := .primitive 'I', accessFlags := 0x411 }
/-- [I -/
def k8 : Class := { plain "[I" (some 0) with kind := .array 7 .int, interfaces := #[3, 4], accessFlags := 1041 }

def heap : Heap := #[]
def classes : Array Class := #[k0, k1, k2, k3, k4, k5, k6, k7, k8]
def interned : List (Array UInt16 × Addr) := []
def slotsUsed : Nat := 0
def theMethod : MethodId := ⟨1, 3⟩
def args0 : Array Value := #[.int 3, .int 5, .int 7, .int 9, .int 11]
def aboutOver (below : List Frame) : State where
  vm := { classes := classes, interned := interned.toArray }
  heap := heap
  slotsUsed := slotsUsed
  threads := #[{ frames := .invoking theMethod args0 :: below }]
def below0 : List Frame := [.native { method := ⟨0, 0⟩, args := #[] }]
def about1 : State := aboutOver below0
def p0 : Program := .bare "" "" ""
def e0 : Env := launch0.env 0 0 0
theorem w_frames : about1.frames = Frame.invoking theMethod args0 :: below0 := rfl
set_option maxRecDepth 65536 in
theorem w_args : argsFit about1.vm theMethod args0 = true := by decide +kernel
set_option maxRecDepth 65536 in
theorem w_heap : heapFits about1 = true := by decide +kernel
set_option maxRecDepth 65536 in
theorem w_runnable : about1.curStatus? = some .runnable := by decide +kernel
set_option maxRecDepth 65536 in
theorem w_alone : about1.alone = true := by decide +kernel
set_option maxRecDepth 65536 in
theorem w_named : about1.methodNamed? x = some theMethod := by decide +kernel
set_option maxRecDepth 65536 in
theorem w_hears : about1.hears theMethod below0 = true := by decide +kernel
set_option maxRecDepth 65536 in
theorem w_ripe : about1.ripe theMethod args0 below0 = true := by decide +kernel
theorem w_running : about1.status = .running := rfl
set_option maxRecDepth 65536 in
theorem w_room : about1.hasRoom e0.platform room_1 = true :=
  launch0.hasRoom_least _ room_1 (by decide +kernel) (by decide +kernel) (by decide +kernel) (by decide +kernel) (by decide +kernel) (by decide +kernel)
theorem allAtoms_all (ts : List Jvm.Cond) (a : Array Jvm.Value) (st : Jvm.State) : (allAtoms ts).before a st = ts.all (fun c => c.before a st) := by
  induction ts with
  | nil => rfl
  | cons c t ih =>
    show (Jvm.Cond.and c (allAtoms t)).before a st = _
    rw [Jvm.Cond.before_and, ih, List.all_cons]
def words1 : List Jvm.Cond := Jvm.Cond.code x code maxLocals ret :: tables_1
/-- a 'code' word, met by the world's own term for the bytes: nothing is compared byte by byte -/
theorem code_word {y : MethodName} {bytes : ByteArray} {mx : Nat} {rt : Option FieldType} {a : Array Value} {s : State} {m : MethodId} {meth : Method} {c : Code} (h1 : s.methodNamed? y = some m) (h2 : s.vm.method? m = some meth) (h3 : meth.code = some c) (h4 : c.code = bytes)
    (h5 : (c.maxLocals == mx && c.exceptionTable.isEmpty && decide (c.maxStack ≤ mostOperands) && decide (meth.sig.returnType = rt) && !meth.locks && decide (parseMethodDescriptor y.desc = some meth.sig)) = true) : (Jvm.Cond.code y bytes mx rt).before a s = true := by
  simp only [Bool.and_eq_true, beq_iff_eq, Bool.not_eq_true', decide_eq_true_eq] at h5
  obtain ⟨⟨⟨⟨⟨g1, g2⟩, g3⟩, g4⟩, g5⟩, g6⟩ := h5
  simp [Cond.before, Cond.holds, Cond.value, h1, h2, h3, h4, g1, g2, g3, g4, g5, g6]
def isCode : Jvm.Cond → Bool
  | .code _ _ _ _ => true
  | _ => false
theorem all_split {L : List Jvm.Cond} {P : Jvm.Cond → Bool} (h1 : L.all (fun c => isCode c || P c) = true) (h2 : ∀ c ∈ L.filter isCode, P c = true) : L.all P = true := by
  refine List.all_eq_true.mpr fun c hc => ?_
  have h := List.all_eq_true.mp h1 c hc
  rcases Bool.eq_false_or_eq_true (isCode c) with hi | hi
  · exact h2 c (List.mem_filter.mpr ⟨hc, hi⟩)
  · simpa [hi] using h
set_option maxRecDepth 65536 in
theorem w_c0 : (Jvm.Cond.code x code maxLocals ret).before args0 about1 = true := code_word (m := ⟨1, 3⟩) (meth := k1m3) (c := k1c3) (by decide +kernel) rfl rfl rfl (by decide +kernel)
set_option maxRecDepth 65536 in
theorem w_c1 : (Jvm.Cond.code ({ cls := "com/example/lexipath/lexipath/fulltext/IndexBytesHashPinLaw", name := "make", desc := "(IIII)[B" } : Jvm.MethodName) method_2_code (4 : Nat) (Option.some (Jvm.ClassFile.FieldType.array Jvm.ClassFile.FieldType.byte))).before args0 about1 = true := code_word (m := ⟨1, 1⟩) (meth := k1m1) (c := k1c1) (by decide +kernel) rfl rfl rfl (by decide +kernel)
set_option maxRecDepth 65536 in
theorem w_c2 : (Jvm.Cond.code ({ cls := "com/example/lexipath/lexipath/fulltext/IndexBytesHashPinLaw", name := "extend", desc := "(IIIII)[B" } : Jvm.MethodName) method_3_code (5 : Nat) (Option.some (Jvm.ClassFile.FieldType.array Jvm.ClassFile.FieldType.byte))).before args0 about1 = true := code_word (m := ⟨1, 2⟩) (meth := k1m2) (c := k1c2) (by decide +kernel) rfl rfl rfl (by decide +kernel)
set_option maxRecDepth 65536 in
theorem w_c3 : (Jvm.Cond.code ({ cls := "com/example/lexipath/lexipath/fulltext/IndexBytes", name := "hash", desc := "([B)J" } : Jvm.MethodName) prog_111_method_3_code (7 : Nat) (Option.some Jvm.ClassFile.FieldType.long)).before args0 about1 = true := code_word (m := ⟨2, 1⟩) (meth := k2m1) (c := k2c1) (by decide +kernel) rfl rfl rfl (by decide +kernel)
def codes1 : List Jvm.Cond := [Jvm.Cond.code x code maxLocals ret, Jvm.Cond.code ({ cls := "com/example/lexipath/lexipath/fulltext/IndexBytesHashPinLaw", name := "make", desc := "(IIII)[B" } : Jvm.MethodName) method_2_code (4 : Nat) (Option.some (Jvm.ClassFile.FieldType.array Jvm.ClassFile.FieldType.byte)), Jvm.Cond.code ({ cls := "com/example/lexipath/lexipath/fulltext/IndexBytesHashPinLaw", name := "extend", desc := "(IIIII)[B" } : Jvm.MethodName) method_3_code (5 : Nat) (Option.some (Jvm.ClassFile.FieldType.array Jvm.ClassFile.FieldType.byte)), Jvm.Cond.code ({ cls := "com/example/lexipath/lexipath/fulltext/IndexBytes", name := "hash", desc := "([B)J" } : Jvm.MethodName) prog_111_method_3_code (7 : Nat) (Option.some Jvm.ClassFile.FieldType.long)]
set_option maxRecDepth 65536 in
theorem codes_eq : words1.filter isCode = codes1 := rfl
theorem w_codes : ∀ c ∈ words1.filter isCode, c.before args0 about1 = true := by
  rw [codes_eq]
  intro c hc
  simp only [codes1, List.mem_cons, List.not_mem_nil, or_false] at hc
  rcases hc with rfl | rfl | rfl | rfl
  · exact w_c0
  · exact w_c1
  · exact w_c2
  · exact w_c3
set_option maxRecDepth 65536 in
theorem w_t1 : words1.all (fun c => isCode c || c.before args0 about1) = true := by decide +kernel
theorem w_tables : (allAtoms (Jvm.Cond.code x code maxLocals ret :: tables_1)).before args0 about1 = true := by
  rw [allAtoms_all]
  show words1.all (fun c => c.before args0 about1) = true
  refine all_split ?_ w_codes
  rw [w_t1]
set_option maxRecDepth 65536 in
theorem w_case : (Jvm.Cond.and given_1 narrow_1).before args0 about1 = true := by decide +kernel
theorem w_applies : (headSpec (Jvm.Cond.code x code maxLocals ret :: tables_1) room_1).applies x e0.platform about1 = true :=
  (Spec.applies_iff w_frames).mpr ⟨w_running, w_runnable, w_alone, w_named, w_hears, w_ripe, w_room, w_tables⟩
theorem atStart : AtStart classFile x code maxLocals ret World_1 tables_1 room_1 Calls_1 rest_1 Pre_1 launch0 p0 e0 about1 theMethod args0 below0 :=
  ⟨lists_1, trivial, launch0.admits_env _ _ _, launch0.least_env, fairChoices_fair.cas, fairChoices_fair.clock, w_frames, w_args, w_heap, w_applies, trivial, trivial, w_case⟩
end start1
theorem witness_1 : WitnessClaimed_1 := ⟨start1.p0, start1.e0, start1.about1, start1.theMethod, start1.args0, start1.below0, start1.atStart⟩
end Jvm.Pilot.@@N@@
