import JvmDerived
import JvmDerived.Pilot.@@N@@Statement
import JvmDerived.Pilot.@@N@@Code
set_option linter.unusedVariables false
set_option linter.unusedSimpArgs false
namespace Jvm.Pilot.@@N@@
open Jvm Jvm.ClassFile Sem Op Lib Jvm.Free Jvm.Stand Jvm.LawKit Jvm.RoadKit Bundle Jvm.Pilot.@@N@@.Jvm.D
abbrev own_iushr (x y : Int32) : Int32 := (x.toUInt32 >>> (y &&& 31).toUInt32).toInt32
abbrev own_lshl (x : Int64) (y : Int32) : Int64 := x <<< (y &&& 0x3f).toInt64
abbrev own_lshr (x : Int64) (y : Int32) : Int64 := x >>> (y &&& 0x3f).toInt64
abbrev own_lushr (x : Int64) (y : Int32) : Int64 := (x.toUInt64 >>> (y &&& 0x3f).toInt64.toUInt64).toInt64
section Core
variable {p : Program} {l : Launch} {e : Env} {R : Room} {s : State} {m : MethodId} {args : Array Value} {below : List Frame} {meth : Method} {c : Code} {T T' : State} {locs : List Loc} {cells slots : Nat} {Z : State} {a0 : Array Value} {h h0 h' : Heap} {n0 : Nat}
/-- the i-th word of the sheet -/
theorem own_at (hw : ∀ d ∈ tables_1, d.before a0 Z = true) {d : Jvm.Cond} (i : Nat) (q : tables_1[i]? = some d) : d.before a0 Z = true := hw _ (List.mem_of_getElem? q)
/-- from this frame the method comes to its end, and G says what the end is -/
def ownGo (tb : Tables) (e : Env) (below : List Frame) (T : State) (g : JFrame) (G : Outcome → State → Prop) : Prop :=
  ∃ s₂ o, Steps tb e below (T.setTop g) s₂ ∧ s₂.status = .running ∧ Ended s₂ below o ∧ G o s₂
def ownDone (s : State) (Q : Option Value → Heap → List Loc → Prop) (kc ks : Nat) (o : Outcome) (U : State) : Prop :=
  ∃ v L, o = .returned v ∧ Q v U.heap L ∧ FrameEnd s o U L kc ks
/-- what a method leaves that only reckons -/
def ownPure (r : Value) (h0 : Heap) (n0 : Nat) (v : Option Value) (h : Heap) (L : List Loc) : Prop := v = some r ∧ Fr n0 L ∧ h = h0
theorem ownGo.st {tb : Tables} {g g' : JFrame} {G : Outcome → State → Prop} (q : ∀ t, Steps tb e below (T'.setTop g') t → Steps tb e below (T.setTop g) t) (k : ownGo tb e below T' g' G) : ownGo tb e below T g G := by
  obtain ⟨s₂, o, h1, h2⟩ := k
  exact ⟨s₂, o, q _ h1, h2⟩
theorem ownGo.sq {tb : Tables} {g g' : JFrame} {G : Outcome → State → Prop} (q : Steps tb e below (T.setTop g) (T'.setTop g')) (k : ownGo tb e below T' g' G) : ownGo tb e below T g G := by
  obtain ⟨s₂, o, h1, h2⟩ := k
  exact ⟨s₂, o, q.trans h1, h2⟩
theorem own_ret {Q : Option Value → Heap → List Loc → Prop} {kc ks : Nat} {g : JFrame} {v : Option Value} (X : Stand p l e R s m args below meth c T locs cells slots) (hlk : meth.locks = false) (hv : meth.sig.returnType = none → v = none)
    (hst : ∀ fs, (∀ (f : JFrame) (acts : List Action), f.method = m → f.locked = none → f.entered = [] → (doReturn e (T.setTop f) acts v).1 = T.setFrames fs) → Steps p.tables e below (T.setTop g) (T.setFrames fs))
    (hq : Q v T.heap locs) (hc : cells ≤ kc) (hs : slots ≤ ks) : ownGo p.tables e below T g (ownDone s Q kc ks) := by
  obtain ⟨fs, hr, hrun, hended, hW, hsame⟩ := X.leave (v := v) hv hlk
  exact ⟨_, _, hst fs hr, hrun, hended, _, _, rfl, hq, ⟨_, rfl⟩, hW, hsame.mono hc hs⟩
theorem own_retI {Q : Option Value → Heap → List Loc → Prop} {kc ks : Nat} {pc : Nat} {Ls : Array Slot} {z : Int32} {rest : List Value} (X : Stand p l e R s m args below meth c T locs cells slots) (hx : p.tables.exec = Jvm.exec) (hlk : meth.locks = false) (hret : meth.sig.returnType = some .int)
    (hd : decode c.code pc = .ok (.ireturn, 1)) (hq : Q (some (.int z)) T.heap locs) (hc : cells ≤ kc) (hs : slots ≤ ks) : ownGo p.tables e below T (mkF m pc Ls (.int z :: rest)) (ownDone s Q kc ks) :=
  own_ret X hlk (fun q => by rw [hret] at q; cases q) (fun fs hr => retOut X hx hret rfl (Or.inl ⟨rfl, Or.inl rfl, z, rfl⟩) hd hr) hq hc hs
theorem own_retZ {Q : Option Value → Heap → List Loc → Prop} {kc ks : Nat} {pc : Nat} {Ls : Array Slot} {z : Int32} {rest : List Value} (X : Stand p l e R s m args below meth c T locs cells slots) (hx : p.tables.exec = Jvm.exec) (hlk : meth.locks = false) (hret : meth.sig.returnType = some .boolean)
    (hd : decode c.code pc = .ok (.ireturn, 1)) (hz : z = 0 ∨ z = 1) (hq : Q (some (.int z)) T.heap locs) (hc : cells ≤ kc) (hs : slots ≤ ks) : ownGo p.tables e below T (mkF m pc Ls (.int z :: rest)) (ownDone s Q kc ks) := by
  have e1 : nar .boolean z = z := by rcases hz with rfl | rfl <;> decide
  exact own_ret X hlk (fun q => by rw [hret] at q; cases q) (fun fs hr => retN X hx (t := .boolean) hret (by simp) hd (by rw [e1]; exact hr)) hq hc hs
theorem own_retJ {Q : Option Value → Heap → List Loc → Prop} {kc ks : Nat} {pc : Nat} {Ls : Array Slot} {z : Int64} {rest : List Value} (X : Stand p l e R s m args below meth c T locs cells slots) (hx : p.tables.exec = Jvm.exec) (hlk : meth.locks = false) (hret : meth.sig.returnType = some .long)
    (hd : decode c.code pc = .ok (.lreturn, 1)) (hq : Q (some (.long z)) T.heap locs) (hc : cells ≤ kc) (hs : slots ≤ ks) : ownGo p.tables e below T (mkF m pc Ls (.long z :: rest)) (ownDone s Q kc ks) :=
  own_ret X hlk (fun q => by rw [hret] at q; cases q) (fun fs hr => retOut X hx hret rfl (Or.inr (Or.inl ⟨rfl, rfl, z, rfl⟩)) hd hr) hq hc hs
theorem own_retA {Q : Option Value → Heap → List Loc → Prop} {kc ks : Nat} {pc : Nat} {Ls : Array Slot} {z : Addr} {t : FieldType} {rest : List Value} (X : Stand p l e R s m args below meth c T locs cells slots) (hx : p.tables.exec = Jvm.exec) (hlk : meth.locks = false) (hret : meth.sig.returnType = some (.array t))
    (hd : decode c.code pc = .ok (.areturn, 1)) (hq : Q (some (.ref z)) T.heap locs) (hc : cells ≤ kc) (hs : slots ≤ ks) : ownGo p.tables e below T (mkF m pc Ls (.ref z :: rest)) (ownDone s Q kc ks) :=
  own_ret X hlk (fun q => by rw [hret] at q; cases q) (fun fs hr => retOut X hx hret rfl (Or.inr (Or.inr (Or.inr (Or.inr ⟨rfl, rfl, rfl⟩)))) hd hr) hq hc hs
theorem own_retV {Q : Option Value → Heap → List Loc → Prop} {kc ks : Nat} {pc : Nat} {Ls : Array Slot} (X : Stand p l e R s m args below meth c T locs cells slots) (hx : p.tables.exec = Jvm.exec) (hlk : meth.locks = false) (hret : meth.sig.returnType = none)
    (hd : decode c.code pc = .ok (.return_, 1)) (hq : Q none T.heap locs) (hc : cells ≤ kc) (hs : slots ≤ ks) : ownGo p.tables e below T (mkF m pc Ls []) (ownDone s Q kc ks) :=
  own_ret X hlk (fun _ => rfl) (fun fs hr => X.returnOut hx hret hd hr) hq hc hs
/-- a static call by the callee's contract -/
theorem own_callS (X : Stand p l e R s m args below meth c T locs cells slots) (hx : p.tables.exec = Jvm.exec) (hZ : Z.Warmed39 s.vm) {own : String} {index : Nat} {y : MethodName} {bytes : ByteArray} {maxL : Nat} {ret : Option FieldType} (hown : s.vm.findClass own = some m.cls)
    (w1 : (Jvm.Cond.methodLink own index y).before a0 Z = true) (w2 : (Jvm.Cond.static y).before a0 Z = true) (w3 : (Jvm.Cond.initialized y.cls).before a0 Z = true) (w4 : (Jvm.Cond.code y bytes maxL ret).before a0 Z = true) (hy : y.cls ≠ "java/lang/invoke/MethodHandle" ∧ y.cls ≠ "java/lang/invoke/VarHandle")
    {rm : Room} {argsL rest : List Value} {Q : Option Value → Heap → List Loc → Prop}
    (K : MetFree l y (head1 [Jvm.Cond.code y bytes maxL ret] rm) (fun a U => a = argsL.toArray ∧ Z.Warmed39 U.vm ∧ U.heap = h0) (fun _ _ _ _ _ => True) (fun _ U o U' => ∃ v L, o = .returned v ∧ Q v U'.heap L ∧ FrameEnd U o U' L rm.cells rm.slots))
    (W : Nat) (hf : rm.frames + 1 ≤ R.frames) (hl : W + (maxL + 11) + rm.locals ≤ R.locals) (eT : T.heap = h0) (hcl : cells + rm.cells ≤ R.cells) (hsl : slots + rm.slots ≤ R.slots)
    {g : JFrame} (hg : g.method = m) (hsize : g.locals.size = c.maxLocals) (hlen : ∀ sig, parseMethodDescriptor y.desc = some sig → argsL.length = sig.parameters.length) (hstack : g.stack = argsL.reverse ++ rest) (hW : 2 * g.monitorRoom + (rest.map fun v => v.category).sum ≤ W) (hdg : decode c.code g.pc = .ok (.invokestatic index, 3)) :
    ∃ (v : Option Value) (T' : State) (L : List Loc), Stand p l e R s m args below meth c T' (locs ++ L) (cells + rm.cells) (slots + rm.slots) ∧ Q v T'.heap L ∧ ∀ t, Steps p.tables e below (T'.setTop { g with pc := g.pc + 3, stack := v.toList ++ rest }) t → Steps p.tables e below (T.setTop g) t := by
  obtain ⟨v, _, ⟨T1, L1, k1, n1⟩, -, X1, ⟨Lc, hQ, l1, y1, z1⟩, st⟩ := Jvm.LawKit.callS X hx (y := y) hown (mvT hZ w1) (mvT hZ w2) (mvT hZ w3) (mvT hZ w4) hy (backOf (W := W) K hZ w4 w3 hf hl) (g := g) hg hsize (argsL := argsL) (rest := rest) hlen hstack hW hdg (fun _ _ => ⟨rfl, eT, hcl, hsl⟩)
  dsimp only [Pt.U, Pt.locs, Pt.cells, Pt.slots] at X1 l1 y1 z1 st hQ
  subst l1 y1 z1
  exact ⟨v, T1, Lc, X1, hQ, st⟩
/-! arrays: n places, place i holds f i -/
def ownA (Z : State) (h : Heap) (a : Addr) (ty : FieldType) (n : Nat) (f : Nat → Value) : Prop :=
  ∃ c : Cell, Arr Z h a c ty ∧ c.slots.size = n ∧ n < 2147483648 ∧ ∀ i, i < n → c.slots[i]? = some (f i) ∧ fits ty (f i) = true
def own_up (f : Nat → Value) (j : Nat) (v : Value) (i : Nat) : Value := if i = j then v else f i
theorem own_up_hit {f : Nat → Value} {j : Nat} {v : Value} : own_up f j v j = v := if_pos rfl
theorem own_up_miss {f : Nat → Value} {i j : Nat} {v : Value} (q : i ≠ j) : own_up f j v i = f i := if_neg q
theorem ownA.ext {a : Addr} {ty : FieldType} {n : Nat} {f : Nat → Value} (V : ownA Z h a ty n f) (E : Ext h h') : ownA Z h' a ty n f := by obtain ⟨c, A, r⟩ := V; exact ⟨c, A.ext E, r⟩
theorem ownA.other {a b : Addr} {ty : FieldType} {n sl : Nat} {v : Value} {f : Nat → Value} (V : ownA Z h a ty n f) (W : Wr h h' b sl v) (q : a ≠ b) : ownA Z h' a ty n f := by obtain ⟨c, A, r⟩ := V; exact ⟨c, A.other W q, r⟩
theorem ownA.keep {a : Addr} {ty : FieldType} {n : Nat} {ws : List Addr} {f : Nat → Value} (V : ownA Z h a ty n f) (K : Keep h h' ws) (q : a ∉ ws) : ownA Z h' a ty n f := by obtain ⟨c, A, r⟩ := V; exact ⟨c, ⟨K.2.1 a c A.1 q, A.2⟩, r⟩
theorem ownA.lt {a : Addr} {ty : FieldType} {n : Nat} {f : Nat → Value} (V : ownA Z h a ty n f) : a < h.size := by obtain ⟨c, A, r⟩ := V; exact A.lt
theorem ownA.eq {a : Addr} {ty : FieldType} {n : Nat} {f f' : Nat → Value} (V : ownA Z h a ty n f) (q : ∀ i, i < n → f i = f' i) : ownA Z h a ty n f' := by
  obtain ⟨c, A, r1, r2, r3⟩ := V
  exact ⟨c, A, r1, r2, fun i hi => by rw [← q i hi]; exact r3 i hi⟩
theorem own_n32 {n : Nat} (q : n < 2147483648) : (Int32.ofNat n).toNatClampNeg = n := by rw [Int32.toNatClampNeg, Int32.toInt_ofNat_of_lt q]; rfl
theorem own_nn {n : Nat} (q : n < 2147483648) : ¬ Int32.ofNat n < 0 := by
  rw [Int32.lt_iff_toInt_lt, Int32.toInt_ofNat_of_lt q, show (0 : Int32).toInt = 0 from rfl]; omega
theorem ownA.new {a : Addr} {k : ClassId} {ty : FieldType} {n : Nat} (A : Arr Z h a (newA k ty (Int32.ofNat n)) ty) (q : n < 2147483648) (d : fits ty (defaultValue ty) = true) : ownA Z h a ty n (fun _ => defaultValue ty) := by
  refine ⟨_, A, by rw [sz_new, own_n32 q], q, fun i hi => ⟨?_, d⟩⟩
  simp [newA, own_n32 q, hi]
theorem own_in {cl : Cell} {n i : Nat} {j : Int32} (S : cl.slots.size = n) (q : n < 2147483648) (hj : j = Int32.ofNat i) (hi : i < n) : ¬ (j < 0 ∨ cl.slots.size ≤ j.toNatClampNeg) := by
  subst hj
  rw [S, own_n32 (by omega)]
  exact fun z => z.elim (own_nn (by omega)) (fun z => by omega)
theorem own_iaload {a : Addr} {n i : Nat} {f : Nat → Value} {j v : Int32} (X : Stand p l e R s m args below meth c T locs cells slots) (hx : p.tables.exec = Jvm.exec) (hZ : Z.Warmed39 s.vm) (eT : T.heap = h) (V : ownA Z h a .int n f) (hj : j = Int32.ofNat i) (hi : i < n) (hv : f i = .int v)
    {g : JFrame} (hg : g.method = m) {rest : List Value} (hs : g.stack = .int j :: .ref a :: rest) (hd : decode c.code g.pc = .ok (.iaload, 1)) :
    ∀ t, Steps p.tables e below (T.setTop { g with pc := g.pc + 1, stack := .int v :: rest }) t → Steps p.tables e below (T.setTop g) t := by
  obtain ⟨cl, A, S, q, H⟩ := V
  have hat : cl.slots[j.toNatClampNeg]? = some (.int v) := by rw [hj, own_n32 (by omega), ← hv]; exact (H i hi).1
  exact X.iaload hx (j := j) (by rw [eT]; exact A.1) (State.isArrayOf_alike hZ.alike A.2.1) A.2.2 (own_in S q hj hi) hat hg hs hd
theorem own_laload {a : Addr} {n i : Nat} {f : Nat → Value} {j : Int32} {v : Int64} (X : Stand p l e R s m args below meth c T locs cells slots) (hx : p.tables.exec = Jvm.exec) (hZ : Z.Warmed39 s.vm) (eT : T.heap = h) (V : ownA Z h a .long n f) (hj : j = Int32.ofNat i) (hi : i < n) (hv : f i = .long v)
    {g : JFrame} (hg : g.method = m) {rest : List Value} (hs : g.stack = .int j :: .ref a :: rest) (hd : decode c.code g.pc = .ok (.laload, 1)) :
    ∀ t, Steps p.tables e below (T.setTop { g with pc := g.pc + 1, stack := .long v :: rest }) t → Steps p.tables e below (T.setTop g) t := by
  obtain ⟨cl, A, S, q, H⟩ := V
  have hat : cl.slots[j.toNatClampNeg]? = some (.long v) := by rw [hj, own_n32 (by omega), ← hv]; exact (H i hi).1
  exact X.laload hx (j := j) (by rw [eT]; exact A.1) (State.isArrayOf_alike hZ.alike A.2.1) A.2.2 (own_in S q hj hi) hat hg hs hd
theorem own_baload {a : Addr} {n i : Nat} {f : Nat → Value} {j v : Int32} (X : Stand p l e R s m args below meth c T locs cells slots) (hx : p.tables.exec = Jvm.exec) (hZ : Z.Warmed39 s.vm) (eT : T.heap = h) (V : ownA Z h a .byte n f) (hj : j = Int32.ofNat i) (hi : i < n) (hv : f i = .int v)
    {g : JFrame} (hg : g.method = m) {rest : List Value} (hs : g.stack = .int j :: .ref a :: rest) (hd : decode c.code g.pc = .ok (.baload, 1)) :
    ∀ t, Steps p.tables e below (T.setTop { g with pc := g.pc + 1, stack := .int v :: rest }) t → Steps p.tables e below (T.setTop g) t := by
  obtain ⟨cl, A, S, q, H⟩ := V
  have hat : cl.slots[j.toNatClampNeg]? = some (.int v) := by rw [hj, own_n32 (by omega), ← hv]; exact (H i hi).1
  exact X.baloadBytes hx (j := j) (by rw [eT]; exact A.1) (State.isArrayOf_alike hZ.alike A.2.1) A.2.2 (own_in S q hj hi) hat hg hs hd
theorem own_alen {a : Addr} {ty : FieldType} {n : Nat} {f : Nat → Value} (X : Stand p l e R s m args below meth c T locs cells slots) (hx : p.tables.exec = Jvm.exec) (hZ : Z.Warmed39 s.vm) (eT : T.heap = h) (V : ownA Z h a ty n f)
    {g : JFrame} (hg : g.method = m) {rest : List Value} (hs : g.stack = .ref a :: rest) (hd : decode c.code g.pc = .ok (.arraylength, 1)) :
    ∀ t, Steps p.tables e below (T.setTop { g with pc := g.pc + 1, stack := .int (Int32.ofNat n) :: rest }) t → Steps p.tables e below (T.setTop g) t := by
  obtain ⟨cl, A, S, q, H⟩ := V
  intro t k
  refine X.arraylength hx (cell := cl) (by rw [eT]; exact A.1) (State.isArrayOf_alike hZ.alike A.2.1) hg hs hd t ?_
  rw [S]; exact k
theorem ownA.put {a : Addr} {ty : FieldType} {n i : Nat} {f : Nat → Value} {v : Value} (V : ownA Z h a ty n f) (W : Wr h h' a i v) (hv : fits ty v = true) : ownA Z h' a ty n (own_up f i v) := by
  obtain ⟨cl, A, S, q, H⟩ := V
  refine ⟨_, A.same W, by rw [sz_set]; exact S, q, fun k hk => ?_⟩
  by_cases z : k = i
  · subst z
    rw [own_up_hit]
    exact ⟨by simp [Cell.setSlot, S, hk], hv⟩
  · rw [own_up_miss z]
    refine ⟨?_, (H k hk).2⟩
    rw [← (H k hk).1]
    exact Array.getElem?_setIfInBounds_ne (Ne.symm z)
theorem own_iastore {a : Addr} {n i : Nat} {f : Nat → Value} {j x : Int32} (X : Stand p l e R s m args below meth c T locs cells slots) (hx : p.tables.exec = Jvm.exec) (hZ : Z.Warmed39 s.vm) (eT : T.heap = h) (V : ownA Z h a .int n f) (hj : j = Int32.ofNat i) (hi : i < n)
    {g : JFrame} (hg : g.method = m) {rest : List Value} (hs : g.stack = .int x :: .int j :: .ref a :: rest) (hd : decode c.code g.pc = .ok (.iastore, 1)) :
    ∃ T' h', Stand p l e R s m args below meth c T' (locs ++ [⟨a, i⟩]) cells slots ∧ T'.heap = h' ∧ Wr h h' a i (.int x) ∧ ownA Z h' a .int n (own_up f i (.int x)) ∧ ∀ t, Steps p.tables e below (T'.setTop { g with pc := g.pc + 1, stack := rest }) t → Steps p.tables e below (T.setTop g) t := by
  have V0 := V
  obtain ⟨cl, A, S, q, H⟩ := V
  obtain ⟨T', h', X', e', W', st⟩ := stI X hx hZ eT A (j := j) (own_in S q hj hi) hg hs hd
  have ej : j.toNatClampNeg = i := by rw [hj]; exact own_n32 (by omega)
  rw [ej] at X' W'
  exact ⟨T', h', X', e', W', V0.put W' rfl, st⟩
theorem own_lastore {a : Addr} {n i : Nat} {f : Nat → Value} {j : Int32} {x : Int64} (X : Stand p l e R s m args below meth c T locs cells slots) (hx : p.tables.exec = Jvm.exec) (hZ : Z.Warmed39 s.vm) (eT : T.heap = h) (V : ownA Z h a .long n f) (hj : j = Int32.ofNat i) (hi : i < n)
    {g : JFrame} (hg : g.method = m) {rest : List Value} (hs : g.stack = .long x :: .int j :: .ref a :: rest) (hd : decode c.code g.pc = .ok (.lastore, 1)) :
    ∃ T' h', Stand p l e R s m args below meth c T' (locs ++ [⟨a, i⟩]) cells slots ∧ T'.heap = h' ∧ Wr h h' a i (.long x) ∧ ownA Z h' a .long n (own_up f i (.long x)) ∧ ∀ t, Steps p.tables e below (T'.setTop { g with pc := g.pc + 1, stack := rest }) t → Steps p.tables e below (T.setTop g) t := by
  have V0 := V
  obtain ⟨cl, A, S, q, H⟩ := V
  obtain ⟨T', h', X', e', W', st⟩ := stJ X hx hZ eT A (j := j) (own_in S q hj hi) hg hs hd
  have ej : j.toNatClampNeg = i := by rw [hj]; exact own_n32 (by omega)
  rw [ej] at X' W'
  exact ⟨T', h', X', e', W', V0.put W' rfl, st⟩
theorem own_bastore {a : Addr} {n i : Nat} {f : Nat → Value} {j x : Int32} (X : Stand p l e R s m args below meth c T locs cells slots) (hx : p.tables.exec = Jvm.exec) (hZ : Z.Warmed39 s.vm) (eT : T.heap = h) (V : ownA Z h a .byte n f) (hj : j = Int32.ofNat i) (hi : i < n)
    {g : JFrame} (hg : g.method = m) {rest : List Value} (hs : g.stack = .int x :: .int j :: .ref a :: rest) (hd : decode c.code g.pc = .ok (.bastore, 1)) :
    ∃ T' h', Stand p l e R s m args below meth c T' (locs ++ [⟨a, i⟩]) cells slots ∧ T'.heap = h' ∧ Wr h h' a i (.int x.toInt8.toInt32) ∧ ownA Z h' a .byte n (own_up f i (.int x.toInt8.toInt32)) ∧ ∀ t, Steps p.tables e below (T'.setTop { g with pc := g.pc + 1, stack := rest }) t → Steps p.tables e below (T.setTop g) t := by
  have V0 := V
  obtain ⟨cl, A, S, q, H⟩ := V
  obtain ⟨T', h', X', e', W', st⟩ := stB X hx hZ eT A (j := j) (own_in S q hj hi) hg hs hd
  have ej : j.toNatClampNeg = i := by rw [hj]; exact own_n32 (by omega)
  rw [ej] at X' W'
  exact ⟨T', h', X', e', W', V0.put W' (fits_nar_byte _), st⟩
/-- newarray of n places, at most cap -/
theorem own_newarray {aty : ArrayType} (X : Stand p l e R s m args below meth c T locs cells slots) (hx : p.tables.exec = Jvm.exec) (hZ : Z.Warmed39 s.vm) (w : (Jvm.Cond.arrayClass (newarray.typeOf aty)).before a0 Z = true) (eT : T.heap = h) (n : Nat) (cap : Nat) (hn : n ≤ cap) (hb : cap * 8 ≤ 536870912) (hc : cells + 1 ≤ R.cells) (hl : slots + cap ≤ R.slots) {ad : String} (had : "[" ++ (newarray.typeOf aty).toString = ad) (d : fits (newarray.typeOf aty) (defaultValue (newarray.typeOf aty)) = true)
    {z : Int32} (hz : z = Int32.ofNat n) {g : JFrame} (hg : g.method = m) (hd : decode c.code g.pc = .ok (.newarray aty, 2)) {rest : List Value} (hs : g.stack = .int z :: rest) :
    ∃ T' h' b, Stand p l e R s m args below meth c T' locs (cells + 1) (slots + cap) ∧ T'.heap = h' ∧ Ext h h' ∧ ownA Z h' b (newarray.typeOf aty) n (fun _ => defaultValue (newarray.typeOf aty)) ∧ Exa Z h' b ad ∧ b = h.size ∧
      ∀ t, Steps p.tables e below (T'.setTop { g with pc := g.pc + 2, stack := .ref b :: rest }) t → Steps p.tables e below (T.setTop g) t := by
  have hn' : n < 2147483648 := by omega
  subst hz
  obtain ⟨T', h', k, X', e', E, A, Ex, st⟩ := newPE X hx hZ w eT hg hd hs (own_nn hn') (by rw [own_n32 hn']; exact hn) hb hc hl had
  exact ⟨T', h', _, X', e', E, ownA.new A hn' d, Ex, rfl, st⟩
end Core
theorem ownA.int {Z : State} {h : Heap} {a : Addr} {n i : Nat} {f : Nat → Value} (V : ownA Z h a .int n f) (hi : i < n) : ∃ v : Int32, f i = .int v := by
  obtain ⟨c, A, S, q, H⟩ := V
  have q := (H i hi).2
  generalize f i = w at q
  cases w <;> first | exact ⟨_, rfl⟩ | simp [fits] at q
section Core2
variable {p : Program} {l : Launch} {e : Env} {R : Room} {s : State} {m : MethodId} {args : Array Value} {below : List Frame} {meth : Method} {c : Code} {T T' : State} {locs : List Loc} {cells slots : Nat} {Z : State} {a0 : Array Value} {h h0 h' : Heap} {n0 : Nat}
/-- a constructor by its contract -/
theorem own_callC (X : Stand p l e R s m args below meth c T locs cells slots) (hx : p.tables.exec = Jvm.exec) (hZ : Z.Warmed39 s.vm) {own : String} {index : Nat} {y : MethodName} {bytes : ByteArray} {maxL : Nat} (hown : s.vm.findClass own = some m.cls) (hy1 : y.name = "<init>")
    (w1 : (Jvm.Cond.methodLink own index y).before a0 Z = true) (w2 : (Jvm.Cond.instanceMethod y).before a0 Z = true) (w3 : (Jvm.Cond.initialized y.cls).before a0 Z = true) (w4 : (Jvm.Cond.code y bytes maxL none).before a0 Z = true) (hy : y.cls ≠ "java/lang/invoke/MethodHandle" ∧ y.cls ≠ "java/lang/invoke/VarHandle")
    {rm : Room} {b : Addr} {argsL rest : List Value} {Q : Option Value → Heap → List Loc → Prop}
    (K : MetFree l y (head1 [Jvm.Cond.code y bytes maxL none] rm) (fun a U => a = (.ref b :: argsL).toArray ∧ Z.Warmed39 U.vm ∧ U.heap = h0) (fun _ _ _ _ _ => True) (fun _ U o U' => ∃ v L, o = .returned v ∧ Q v U'.heap L ∧ FrameEnd U o U' L rm.cells rm.slots))
    (W : Nat) (hf : rm.frames + 1 ≤ R.frames) (hl : W + (maxL + 11) + rm.locals ≤ R.locals) (eT : T.heap = h0) (hcl : cells + rm.cells ≤ R.cells) (hsl : slots + rm.slots ≤ R.slots)
    {g : JFrame} (hg : g.method = m) (hsize : g.locals.size = c.maxLocals) (hlen : ∀ sig, parseMethodDescriptor y.desc = some sig → argsL.length = sig.parameters.length) (hstack : g.stack = argsL.reverse ++ .ref b :: rest) (hW : 2 * g.monitorRoom + (rest.map fun v => v.category).sum ≤ W) (hdg : decode c.code g.pc = .ok (.invokespecial index, 3)) :
    ∃ (v : Option Value) (T' : State) (L : List Loc), Stand p l e R s m args below meth c T' (locs ++ L) (cells + rm.cells) (slots + rm.slots) ∧ Q v T'.heap L ∧ ∀ t, Steps p.tables e below (T'.setTop { g with pc := g.pc + 3, stack := v.toList ++ rest }) t → Steps p.tables e below (T.setTop g) t := by
  obtain ⟨v, _, ⟨T1, L1, k1, n1⟩, -, X1, ⟨Lc, hQ, l1, y1, z1⟩, st⟩ := X.specialBack hx (y := y) hy1 hown (mvT hZ w1) (mvT hZ w2) (mvT hZ w4) hy (backOf (W := W) K hZ w4 w3 hf hl) (g := g) hg hsize (Steps.refl _) (a := b) (argsL := argsL) (rest := rest) hlen hstack hW hdg (fun _ _ => ⟨rfl, eT, hcl, hsl⟩)
  dsimp only [Pt.U, Pt.locs, Pt.cells, Pt.slots] at X1 l1 y1 z1 st hQ
  subst l1 y1 z1
  exact ⟨v, T1, Lc, X1, hQ, fun t k => st.trans k⟩
/-- an instance method by its contract -/
theorem own_callV (X : Stand p l e R s m args below meth c T locs cells slots) (hx : p.tables.exec = Jvm.exec) (hZ : Z.Warmed39 s.vm) {own : String} {index : Nat} {y : MethodName} {bytes : ByteArray} {maxL : Nat} {ret : Option FieldType} (hown : s.vm.findClass own = some m.cls)
    (w1 : (Jvm.Cond.methodLink own index y).before a0 Z = true) (w2 : (Jvm.Cond.declares y).before a0 Z = true) (w5 : (Jvm.Cond.selects y.cls y y).before a0 Z = true) (w6 : (Jvm.Cond.instanceMethod y).before a0 Z = true) (w3 : (Jvm.Cond.initialized y.cls).before a0 Z = true) (w4 : (Jvm.Cond.code y bytes maxL ret).before a0 Z = true) (hy : y.cls ≠ "java/lang/invoke/MethodHandle" ∧ y.cls ≠ "java/lang/invoke/VarHandle")
    {rm : Room} {b : Addr} {argsL rest : List Value} {Q : Option Value → Heap → List Loc → Prop}
    (K : MetFree l y (head1 [Jvm.Cond.code y bytes maxL ret] rm) (fun a U => a = (.ref b :: argsL).toArray ∧ Z.Warmed39 U.vm ∧ U.heap = h0) (fun _ _ _ _ _ => True) (fun _ U o U' => ∃ v L, o = .returned v ∧ Q v U'.heap L ∧ FrameEnd U o U' L rm.cells rm.slots))
    (W : Nat) (hf : rm.frames + 1 ≤ R.frames) (hl : W + (maxL + 11) + rm.locals ≤ R.locals) (eT : T.heap = h0) (hcl : cells + rm.cells ≤ R.cells) (hsl : slots + rm.slots ≤ R.slots) (Ex : Exa Z h0 b y.cls)
    {g : JFrame} (hg : g.method = m) (hsize : g.locals.size = c.maxLocals) (hlen : ∀ sig, parseMethodDescriptor y.desc = some sig → argsL.length = sig.parameters.length) (hstack : g.stack = argsL.reverse ++ .ref b :: rest) (hW : 2 * g.monitorRoom + (rest.map fun v => v.category).sum ≤ W) (hdg : decode c.code g.pc = .ok (.invokevirtual index, 3)) :
    ∃ (v : Option Value) (T' : State) (L : List Loc), Stand p l e R s m args below meth c T' (locs ++ L) (cells + rm.cells) (slots + rm.slots) ∧ Q v T'.heap L ∧ ∀ t, Steps p.tables e below (T'.setTop { g with pc := g.pc + 3, stack := v.toList ++ rest }) t → Steps p.tables e below (T.setTop g) t := by
  obtain ⟨cq, kq, q1, q2, q3⟩ := isOf hZ eT Ex
  obtain ⟨v, _, ⟨T1, L1, k1, n1⟩, -, X1, ⟨Lc, hQ, l1, y1, z1⟩, st⟩ := X.virtualBack hx (y := y) (z := y) hown (mvT hZ w1) (mvT hZ w2) (notFace_of_selects (args := #[]) (mvT hZ w5)) (mvT hZ w5) (mvT hZ w6) hy (backOf (W := W) K hZ w4 w3 hf hl) q1 q3 (g := g) hg hsize (Steps.refl _) (argsL := argsL) (rest := rest) hlen hstack hW hdg (fun _ _ => ⟨rfl, eT, hcl, hsl⟩)
  dsimp only [Pt.U, Pt.locs, Pt.cells, Pt.slots] at X1 l1 y1 z1 st hQ
  subst l1 y1 z1
  exact ⟨v, T1, Lc, X1, hQ, fun t k => st.trans k⟩
/-- a private method, called by invokevirtual -/
theorem own_callPr (X : Stand p l e R s m args below meth c T locs cells slots) (hx : p.tables.exec = Jvm.exec) (hZ : Z.Warmed39 s.vm) {own : String} {index kk : Nat} {y : MethodName} {bytes : ByteArray} {maxL : Nat} {ret : Option FieldType} (hown : s.vm.findClass own = some m.cls)
    (w1 : (Jvm.Cond.methodLink own index y).before a0 Z = true) (w2 : (Jvm.Cond.privateMethod y).before a0 Z = true) (w5 : (Jvm.Cond.instantiable y.cls kk).before a0 Z = true) (w6 : (Jvm.Cond.instanceMethod y).before a0 Z = true) (w3 : (Jvm.Cond.initialized y.cls).before a0 Z = true) (w4 : (Jvm.Cond.code y bytes maxL ret).before a0 Z = true) (hy : y.cls ≠ "java/lang/invoke/MethodHandle" ∧ y.cls ≠ "java/lang/invoke/VarHandle")
    {rm : Room} {b : Addr} {argsL rest : List Value} {Q : Option Value → Heap → List Loc → Prop}
    (K : MetFree l y (head1 [Jvm.Cond.code y bytes maxL ret] rm) (fun a U => a = (.ref b :: argsL).toArray ∧ Z.Warmed39 U.vm ∧ U.heap = h0) (fun _ _ _ _ _ => True) (fun _ U o U' => ∃ v L, o = .returned v ∧ Q v U'.heap L ∧ FrameEnd U o U' L rm.cells rm.slots))
    (W : Nat) (hf : rm.frames + 1 ≤ R.frames) (hl : W + (maxL + 11) + rm.locals ≤ R.locals) (eT : T.heap = h0) (hcl : cells + rm.cells ≤ R.cells) (hsl : slots + rm.slots ≤ R.slots) (Ex : Exa Z h0 b y.cls)
    {g : JFrame} (hg : g.method = m) (hsize : g.locals.size = c.maxLocals) (hlen : ∀ sig, parseMethodDescriptor y.desc = some sig → argsL.length = sig.parameters.length) (hstack : g.stack = argsL.reverse ++ .ref b :: rest) (hW : 2 * g.monitorRoom + (rest.map fun v => v.category).sum ≤ W) (hdg : decode c.code g.pc = .ok (.invokevirtual index, 3)) :
    ∃ (v : Option Value) (T' : State) (L : List Loc), Stand p l e R s m args below meth c T' (locs ++ L) (cells + rm.cells) (slots + rm.slots) ∧ Q v T'.heap L ∧ ∀ t, Steps p.tables e below (T'.setTop { g with pc := g.pc + 3, stack := v.toList ++ rest }) t → Steps p.tables e below (T.setTop g) t := by
  obtain ⟨cq, q, q'⟩ := Ex.cell
  have w5' : (Jvm.Cond.instantiable y.cls kk).before args s = true := mvT hZ w5
  obtain ⟨ci, ki, i1, i2, -, i4, -⟩ := Cond.instantiable_spec w5'
  have ni : ki.isInterface = false := by
    cases hq : ki.isInterface with
    | false => rfl
    | true => rw [hq] at i4; exact absurd i4 (by simp)
  have hp : s.PrivateAt y := Cond.privateMethod_at (mvP hZ w2 (args := #[]))
  have hsel : (Jvm.Cond.selects y.cls y y).before args s = true := selects_self_of_private i1 i2 ni hp (mvT hZ w6) hy
  obtain ⟨v, _, ⟨T1, L1, k1, n1⟩, -, X1, ⟨Lc, hQ, l1, y1, z1⟩, st⟩ := X.privateBack hx (y := y) hown (mvT hZ w1) (mvT hZ w6) hsel hp (mvT hZ w4) hy (backOf (W := W) K hZ w4 w3 hf hl) (g := g) hg hsize (Steps.refl _) (a := b) (by rw [eT]; exact q) q' (argsL := argsL) (rest := rest) hlen hstack hW hdg (fun _ _ => ⟨rfl, eT, hcl, hsl⟩)
  dsimp only [Pt.U, Pt.locs, Pt.cells, Pt.slots] at X1 l1 y1 z1 st hQ
  subst l1 y1 z1
  exact ⟨v, T1, Lc, X1, hQ, fun t k => st.trans k⟩
theorem ownA.arv {a : Addr} {ty : FieldType} {n : Nat} {f : Nat → Value} (d : Value) (V : ownA Z h a ty n f) : ∃ k, Arv Z h a k ty (Int32.ofNat n) ((List.range n).map f) d := by
  obtain ⟨cl, A, S, q, H⟩ := V
  have g : ∀ i, i < n → ((List.range n).map f).getD i d = f i := fun i hi => by simp [List.getD_eq_getElem?_getD, hi]
  refine ⟨_, cl, A, rfl, by rw [S, own_n32 q], own_nn q, fun i hi => ?_, fun i hi => ?_⟩
  · rw [g i (by omega)]; exact (H i (by omega)).1
  · rw [g i (by omega)]; exact (H i (by omega)).2
theorem ownA.ofArv {a : Addr} {k : ClassId} {ty : FieldType} {n : Nat} {vs : List Value} {d : Value} (q : n < 2147483648) (V : Arv Z h a k ty (Int32.ofNat n) vs d) : ownA Z h a ty n (fun i => vs.getD i d) := by
  obtain ⟨cl, A, -, S, -, H, G⟩ := V
  rw [own_n32 q] at S
  exact ⟨cl, A, S, q, fun i hi => ⟨H i (by omega), G i (by omega)⟩⟩
end Core2
theorem own_idx (j : Int32) (n : Nat) (q0 : 0 ≤ j.toInt) (q1 : j.toInt < n) : ∃ i, i < n ∧ j = Int32.ofNat i := by
  have q2 := j.toInt_lt
  refine ⟨j.toInt.toNat, by omega, ?_⟩
  apply Int32.toInt_inj.mp
  rw [Int32.toInt_ofNat_of_lt (by omega)]
  omega
theorem own_ltn {i n : Nat} (q : i < n) (hn : n < 2147483648) : Int32.ofNat i < Int32.ofNat n := by
  rw [Int32.lt_iff_toInt_lt, Int32.toInt_ofNat_of_lt (by omega), Int32.toInt_ofNat_of_lt hn]
  omega
theorem own_lrem {p : Program} {l : Launch} {e : Env} {R : Room} {s : State} {m : MethodId} {args : Array Value} {below : List Frame} {meth : Method} {c : Code} {T : State} {locs : List Loc} {cells slots : Nat} {g : JFrame} {target : State} (X : Stand p l e R s m args below meth c T locs cells slots) (hx : p.tables.exec = Jvm.exec) (hg : g.method = m) {x y : Int64} {rest : List Value} (hd : decode c.code g.pc = .ok (.lrem, 1)) (hs : g.stack = .long y :: .long x :: rest) (hy : y ≠ 0)
    (hr : Steps p.tables e below (T.setTop { g with pc := g.pc + 1, stack := .long (x % y) :: rest }) target) : Steps p.tables e below (T.setTop g) target := by
  have q : x - (x / y) * y = x % y := lrem_mod x y
  exact XS.lrem X.here hx hg hd hs hy (by rw [q]; exact hr)
theorem d1_0 : decode method_3_code 0 = .ok (.lload_n 0, 1) := by decide +kernel
theorem d1_1 : decode method_3_code 1 = .ok (.ldc2_w 34, 3) := by decide +kernel
theorem d1_4 : decode method_3_code 4 = .ok (.land, 1) := by decide +kernel
theorem d1_5 : decode method_3_code 5 = .ok (.ldc2_w 36, 3) := by decide +kernel
theorem d1_8 : decode method_3_code 8 = .ok (.lrem, 1) := by decide +kernel
theorem d1_9 : decode method_3_code 9 = .ok (.l2i, 1) := by decide +kernel
theorem d1_10 : decode method_3_code 10 = .ok (.ireturn, 1) := by decide +kernel
abbrev R1 : Room := { frames := 0, cells := 0, slots := 0, locals := 0 }
def f1_0 (x0 : Int64) : Int32 := (((x0 &&& (63 : Int64)) % (33 : Int64)).toInt32)
set_option maxRecDepth 65536 in
set_option maxHeartbeats 40000000 in
theorem b1_0 {p : Program} {l : Launch} {e : Env} {s : State} {m : MethodId} {args : Array Value} {below : List Frame} {meth : Method} {c : Code} {T0 : State} {locs : List Loc} {Z : State} {a0 : Array Value} {h0 : Heap} {n0 : Nat} (hx : p.tables.exec = Jvm.exec) (hZ : Z.Warmed39 s.vm) (hw : ∀ d ∈ tables_1, d.before a0 Z = true) (hby : c.code = method_3_code) (hml : c.maxLocals = 2) (hown : s.vm.findClass "com/example/ningbo/ningbo/engine/StateLayoutPackPinLaw" = some m.cls) (hret : meth.sig.returnType = (some .int)) (hlk : meth.locks = false) (X0 : Stand p l e R1 s m args below meth c T0 locs 0 0) (e0 : T0.heap = h0) (N0 : Fr n0 locs) (x0 : Int64) (r : Int32) (hr : r = f1_0 x0) :
    ownGo p.tables e below T0 (mkF m 0 #[.val (.long x0), .second] []) (ownDone s (ownPure (.int r) h0 n0) 0 0) := by
  have hr0 : r = (((x0 &&& (63 : Int64)) % (33 : Int64)).toInt32) := hr
  refine ownGo.st (fun _ k => XS.lloadN X0.here hx rfl (hb hby d1_0) rfl k) ?_
  show ownGo p.tables e below T0 (mkF m 1 #[.val (.long x0), .second] [(.long x0)]) _
  refine ownGo.st (X0.ldc2Long hx hown (mvT hZ (own_at hw 4 rfl)) (g := (mkF m 1 #[.val (.long x0), .second] [(.long x0)])) rfl (hb hby d1_1)) ?_
  show ownGo p.tables e below T0 (mkF m 4 #[.val (.long x0), .second] [(.long (63 : Int64)), (.long x0)]) _
  refine ownGo.st (fun _ k => XS.land X0.here hx rfl (hb hby d1_4) rfl k) ?_
  show ownGo p.tables e below T0 (mkF m 5 #[.val (.long x0), .second] [(.long (x0 &&& (63 : Int64)))]) _
  refine ownGo.st (X0.ldc2Long hx hown (mvT hZ (own_at hw 5 rfl)) (g := (mkF m 5 #[.val (.long x0), .second] [(.long (x0 &&& (63 : Int64)))])) rfl (hb hby d1_5)) ?_
  show ownGo p.tables e below T0 (mkF m 8 #[.val (.long x0), .second] [(.long (33 : Int64)), (.long (x0 &&& (63 : Int64)))]) _
  refine ownGo.st (fun _ k => own_lrem X0 hx rfl (hb hby d1_8) rfl (by decide) k) ?_
  show ownGo p.tables e below T0 (mkF m 9 #[.val (.long x0), .second] [(.long ((x0 &&& (63 : Int64)) % (33 : Int64)))]) _
  refine ownGo.st (fun _ k => XS.l2i X0.here hx rfl (hb hby d1_9) rfl k) ?_
  show ownGo p.tables e below T0 (mkF m 10 #[.val (.long x0), .second] [(.int (((x0 &&& (63 : Int64)) % (33 : Int64)).toInt32))]) _
  exact own_retI X0 hx hlk hret (hb hby d1_10) ⟨congrArg (fun z => some (Value.int z)) hr0.symm, N0, e0⟩ (Nat.le_refl _) (Nat.le_refl _)
abbrev F1 (x0 : Int64) : Int32 := f1_0 x0
theorem pn_1 : plainName "com/example/ningbo/ningbo/engine/StateLayoutPackPinLaw" = true := by first | (simp [plainName, overriddenIn]; done) | decide +kernel
theorem ef_1 (m : MethodId) (x0 : Int64) : entryFrame m #[(.long x0)] 2 = mkF m 0 #[.val (.long x0), .second] [] := by first | (simp [entryFrame, mkF, argsToLocals, Value.category]; done) | rfl
set_option maxRecDepth 65536 in
set_option maxHeartbeats 40000000 in
theorem rm1 (l : Launch) (Z : State) (a0 : Array Value) (hw : ∀ d ∈ tables_1, d.before a0 Z = true) (x0 : Int64) (h0 : Heap) (n0 : Nat)  :
    MetFree l (⟨"com/example/ningbo/ningbo/engine/StateLayoutPackPinLaw", "bitsOf", "(J)I"⟩ : MethodName) (head1 [Jvm.Cond.code (⟨"com/example/ningbo/ningbo/engine/StateLayoutPackPinLaw", "bitsOf", "(J)I"⟩ : MethodName) method_3_code 2 (some .int)] R1) (fun a U => a = #[(.long x0)] ∧ Z.Warmed39 U.vm ∧ U.heap = h0) (fun _ _ _ _ _ => True) (fun _ U o U' => ∃ v L, o = .returned v ∧ ownPure (.int (F1 x0)) h0 n0 v U'.heap L ∧ FrameEnd U o U' L R1.cells R1.slots) := by
  refine MetFree.of_bodySF (plainFor_of_name pn_1) hisR ?_
  intro p e s m args below meth c s₁ Bd hml0 hP hK
  obtain ⟨rfl, hZ, hh⟩ := hP
  have hx := Bd.exec
  have hby := Bd.bytes
  have hml : c.maxLocals = 2 := hml0
  have hown : s.vm.findClass "com/example/ningbo/ningbo/engine/StateLayoutPackPinLaw" = some m.cls := findClass_of_methodNamed Bd.named
  have hnm := (name_of_methodNamed Bd.named Bd.method).1
  have hret := Bd.returns
  have hlk : meth.locks = false := BodyLoose.notSynchronized Bd
  have X0 : Stand p l e R1 s m #[(.long x0)] below meth c s₁ [] 0 0 := Stand.of_body Bd
  have e0 : s₁.heap = h0 := by rw [← hh, Bd.state]; rfl
  have N0 := Fr.nil n0
  show ownGo p.tables e below s₁ (entryFrame m #[(.long x0)] 2) (ownDone s (ownPure (.int (F1 x0)) h0 n0) R1.cells R1.slots)
  rw [ef_1 m x0]
  exact b1_0 hx hZ hw hby hml hown hret hlk X0 e0 N0 x0 _ rfl
theorem d3_0 : decode jdk_29_method_70_code 0 = .ok (.lload_n 0, 1) := by decide +kernel
theorem d3_1 : decode jdk_29_method_70_code 1 = .ok (.lload_n 2, 1) := by decide +kernel
theorem d3_2 : decode jdk_29_method_70_code 2 = .ok (.lcmp, 1) := by decide +kernel
theorem d3_3 : decode jdk_29_method_70_code 3 = .ok (.ifCond .gt 7, 3) := by decide +kernel
theorem d3_6 : decode jdk_29_method_70_code 6 = .ok (.lload_n 0, 1) := by decide +kernel
theorem d3_7 : decode jdk_29_method_70_code 7 = .ok (.goto 4, 3) := by decide +kernel
theorem d3_10 : decode jdk_29_method_70_code 10 = .ok (.lload_n 2, 1) := by decide +kernel
theorem d3_11 : decode jdk_29_method_70_code 11 = .ok (.lreturn, 1) := by decide +kernel
abbrev R3 : Room := { frames := 0, cells := 0, slots := 0, locals := 0 }
def f3_0 (x0 : Int64) (x1 : Int64) : Int64 := (if x1 < x0 then x1 else x0)
set_option maxRecDepth 65536 in
set_option maxHeartbeats 40000000 in
theorem b3_0 {p : Program} {l : Launch} {e : Env} {s : State} {m : MethodId} {args : Array Value} {below : List Frame} {meth : Method} {c : Code} {T0 : State} {locs : List Loc} {Z : State} {a0 : Array Value} {h0 : Heap} {n0 : Nat} (hx : p.tables.exec = Jvm.exec) (hZ : Z.Warmed39 s.vm) (hw : ∀ d ∈ tables_1, d.before a0 Z = true) (hby : c.code = jdk_29_method_70_code) (hml : c.maxLocals = 4) (hown : s.vm.findClass "java/lang/Math" = some m.cls) (hret : meth.sig.returnType = (some .long)) (hlk : meth.locks = false) (X0 : Stand p l e R3 s m args below meth c T0 locs 0 0) (e0 : T0.heap = h0) (N0 : Fr n0 locs) (x0 : Int64) (x1 : Int64) (r : Int64) (hr : r = f3_0 x0 x1) :
    ownGo p.tables e below T0 (mkF m 0 #[.val (.long x0), .second, .val (.long x1), .second] []) (ownDone s (ownPure (.long r) h0 n0) 0 0) := by
  have hr0 : r = (if x1 < x0 then x1 else x0) := hr
  refine ownGo.st (fun _ k => XS.lloadN X0.here hx rfl (hb hby d3_0) rfl k) ?_
  show ownGo p.tables e below T0 (mkF m 1 #[.val (.long x0), .second, .val (.long x1), .second] [(.long x0)]) _
  refine ownGo.st (fun _ k => XS.lloadN X0.here hx rfl (hb hby d3_1) rfl k) ?_
  show ownGo p.tables e below T0 (mkF m 2 #[.val (.long x0), .second, .val (.long x1), .second] [(.long x1), (.long x0)]) _
  refine ownGo.st (fun _ k => XS.lcmp X0.here hx rfl (hb hby d3_2) rfl k) ?_
  show ownGo p.tables e below T0 (mkF m 3 #[.val (.long x0), .second, .val (.long x1), .second] [(.int (lcmpW x0 x1))]) _
  by_cases hc3 : x1 < x0
  · have hr1 := hr0.trans (if_pos hc3)
    refine ownGo.st (fun _ k => XS.ifYes X0.here hx rfl (pc0 := 3) (pc' := 10) rfl (hb hby d3_3) rfl ((if0 _ _).trans (tlt ((lw_gt _ _).mpr hc3)).2.2.1) (by decide) (by decide) k) ?_
    show ownGo p.tables e below T0 (mkF m 10 #[.val (.long x0), .second, .val (.long x1), .second] []) _
    refine ownGo.st (fun _ k => XS.lloadN X0.here hx rfl (hb hby d3_10) rfl k) ?_
    show ownGo p.tables e below T0 (mkF m 11 #[.val (.long x0), .second, .val (.long x1), .second] [(.long x1)]) _
    exact own_retJ X0 hx hlk hret (hb hby d3_11) ⟨congrArg (fun z => some (Value.long z)) hr1.symm, N0, e0⟩ (Nat.le_refl _) (Nat.le_refl _)
  · have hr1 := hr0.trans (if_neg hc3)
    refine ownGo.st (fun _ k => XS.ifNo X0.here hx rfl (hb hby d3_3) rfl ((if0 _ _).trans (flt (fun q => hc3 ((lw_gt _ _).mp q))).2.2.1) k) ?_
    show ownGo p.tables e below T0 (mkF m 6 #[.val (.long x0), .second, .val (.long x1), .second] []) _
    refine ownGo.st (fun _ k => XS.lloadN X0.here hx rfl (hb hby d3_6) rfl k) ?_
    show ownGo p.tables e below T0 (mkF m 7 #[.val (.long x0), .second, .val (.long x1), .second] [(.long x0)]) _
    refine ownGo.st (fun _ k => XS.goto X0.here hx rfl (pc0 := 7) (pc' := 11) rfl (hb hby d3_7) (by decide) (by decide) k) ?_
    show ownGo p.tables e below T0 (mkF m 11 #[.val (.long x0), .second, .val (.long x1), .second] [(.long x0)]) _
    exact own_retJ X0 hx hlk hret (hb hby d3_11) ⟨congrArg (fun z => some (Value.long z)) hr1.symm, N0, e0⟩ (Nat.le_refl _) (Nat.le_refl _)
abbrev F3 (x0 : Int64) (x1 : Int64) : Int64 := f3_0 x0 x1
theorem ef_3 (m : MethodId) (x0 : Int64) (x1 : Int64) : entryFrame m #[(.long x0), (.long x1)] 4 = mkF m 0 #[.val (.long x0), .second, .val (.long x1), .second] [] := by first | (simp [entryFrame, mkF, argsToLocals, Value.category]; done) | rfl
set_option maxRecDepth 65536 in
set_option maxHeartbeats 40000000 in
theorem rm3 (l : Launch) (Z : State) (a0 : Array Value) (hw : ∀ d ∈ tables_1, d.before a0 Z = true) (x0 : Int64) (x1 : Int64) (h0 : Heap) (n0 : Nat)  :
    MetFree l (⟨"java/lang/Math", "min", "(JJ)J"⟩ : MethodName) (head1 [Jvm.Cond.code (⟨"java/lang/Math", "min", "(JJ)J"⟩ : MethodName) jdk_29_method_70_code 4 (some .long)] R3) (fun a U => a = #[(.long x0), (.long x1)] ∧ Z.Warmed39 U.vm ∧ U.heap = h0) (fun _ _ _ _ _ => True) (fun _ U o U' => ∃ v L, o = .returned v ∧ ownPure (.long (F3 x0 x1)) h0 n0 v U'.heap L ∧ FrameEnd U o U' L R3.cells R3.slots) := by
  refine MetFree.of_bodySF (Jvm.Free.JP.mathPlain rfl (by decide +kernel)) hisR ?_
  intro p e s m args below meth c s₁ Bd hml0 hP hK
  obtain ⟨rfl, hZ, hh⟩ := hP
  have hx := Bd.exec
  have hby := Bd.bytes
  have hml : c.maxLocals = 4 := hml0
  have hown : s.vm.findClass "java/lang/Math" = some m.cls := findClass_of_methodNamed Bd.named
  have hnm := (name_of_methodNamed Bd.named Bd.method).1
  have hret := Bd.returns
  have hlk : meth.locks = false := BodyLoose.notSynchronized Bd
  have X0 : Stand p l e R3 s m #[(.long x0), (.long x1)] below meth c s₁ [] 0 0 := Stand.of_body Bd
  have e0 : s₁.heap = h0 := by rw [← hh, Bd.state]; rfl
  have N0 := Fr.nil n0
  show ownGo p.tables e below s₁ (entryFrame m #[(.long x0), (.long x1)] 4) (ownDone s (ownPure (.long (F3 x0 x1)) h0 n0) R3.cells R3.slots)
  rw [ef_3 m x0 x1]
  exact b3_0 hx hZ hw hby hml hown hret hlk X0 e0 N0 x0 x1 _ rfl
theorem d2_0 : decode method_4_code 0 = .ok (.lload_n 0, 1) := by decide +kernel
theorem d2_1 : decode method_4_code 1 = .ok (.bipush 32, 2) := by decide +kernel
theorem d2_3 : decode method_4_code 3 = .ok (.lshr, 1) := by decide +kernel
theorem d2_4 : decode method_4_code 4 = .ok (.ldc2_w 38, 3) := by decide +kernel
theorem d2_7 : decode method_4_code 7 = .ok (.lload_n 2, 1) := by decide +kernel
theorem d2_8 : decode method_4_code 8 = .ok (.lsub, 1) := by decide +kernel
theorem d2_9 : decode method_4_code 9 = .ok (.invokestatic 40, 3) := by decide +kernel
theorem d2_12 : decode method_4_code 12 = .ok (.l2i, 1) := by decide +kernel
theorem d2_13 : decode method_4_code 13 = .ok (.ireturn, 1) := by decide +kernel
theorem pd__JJ_J : parseMethodDescriptor "(JJ)J" = some ⟨[.long, .long], some .long⟩ := by decide +kernel
abbrev R2 : Room := { frames := 1, cells := 0, slots := 0, locals := 15 }
def f2_0 (x0 : Int64) (x1 : Int64) : Int32 := ((F3 (own_lshr x0 (32 : Int32)) ((2147483647 : Int64) - x1)).toInt32)
set_option maxRecDepth 65536 in
set_option maxHeartbeats 40000000 in
theorem b2_0 {p : Program} {l : Launch} {e : Env} {s : State} {m : MethodId} {args : Array Value} {below : List Frame} {meth : Method} {c : Code} {T0 : State} {locs : List Loc} {Z : State} {a0 : Array Value} {h0 : Heap} {n0 : Nat} (hx : p.tables.exec = Jvm.exec) (hZ : Z.Warmed39 s.vm) (hw : ∀ d ∈ tables_1, d.before a0 Z = true) (hby : c.code = method_4_code) (hml : c.maxLocals = 4) (hown : s.vm.findClass "com/example/ningbo/ningbo/engine/StateLayoutPackPinLaw" = some m.cls) (hret : meth.sig.returnType = (some .int)) (hlk : meth.locks = false) (X0 : Stand p l e R2 s m args below meth c T0 locs 0 0) (e0 : T0.heap = h0) (N0 : Fr n0 locs) (x0 : Int64) (x1 : Int64) (r : Int32) (hr : r = f2_0 x0 x1) :
    ownGo p.tables e below T0 (mkF m 0 #[.val (.long x0), .second, .val (.long x1), .second] []) (ownDone s (ownPure (.int r) h0 n0) 0 0) := by
  have hr0 : r = ((F3 (own_lshr x0 (32 : Int32)) ((2147483647 : Int64) - x1)).toInt32) := hr
  refine ownGo.st (fun _ k => XS.lloadN X0.here hx rfl (hb hby d2_0) rfl k) ?_
  show ownGo p.tables e below T0 (mkF m 1 #[.val (.long x0), .second, .val (.long x1), .second] [(.long x0)]) _
  refine ownGo.st (fun _ k => XS.bipush X0.here hx rfl (hb hby d2_1)  k) ?_
  show ownGo p.tables e below T0 (mkF m 3 #[.val (.long x0), .second, .val (.long x1), .second] [(.int (32 : Int32)), (.long x0)]) _
  refine ownGo.st (fun _ k => XS.lshr X0.here hx rfl (hb hby d2_3) rfl k) ?_
  show ownGo p.tables e below T0 (mkF m 4 #[.val (.long x0), .second, .val (.long x1), .second] [(.long (own_lshr x0 (32 : Int32)))]) _
  refine ownGo.st (X0.ldc2Long hx hown (mvT hZ (own_at hw 9 rfl)) (g := (mkF m 4 #[.val (.long x0), .second, .val (.long x1), .second] [(.long (own_lshr x0 (32 : Int32)))])) rfl (hb hby d2_4)) ?_
  show ownGo p.tables e below T0 (mkF m 7 #[.val (.long x0), .second, .val (.long x1), .second] [(.long (2147483647 : Int64)), (.long (own_lshr x0 (32 : Int32)))]) _
  refine ownGo.st (fun _ k => XS.lloadN X0.here hx rfl (hb hby d2_7) rfl k) ?_
  show ownGo p.tables e below T0 (mkF m 8 #[.val (.long x0), .second, .val (.long x1), .second] [(.long x1), (.long (2147483647 : Int64)), (.long (own_lshr x0 (32 : Int32)))]) _
  refine ownGo.st (fun _ k => XS.lsub X0.here hx rfl (hb hby d2_8) rfl k) ?_
  show ownGo p.tables e below T0 (mkF m 9 #[.val (.long x0), .second, .val (.long x1), .second] [(.long ((2147483647 : Int64) - x1)), (.long (own_lshr x0 (32 : Int32)))]) _
  obtain ⟨_, T2, L2, X2, hQ2, st2⟩ := own_callS X0 hx hZ hown (own_at hw 10 rfl) (own_at hw 11 rfl) (own_at hw 12 rfl) (own_at hw 13 rfl) (by decide) (rm3 l Z a0 hw (own_lshr x0 (32 : Int32)) ((2147483647 : Int64) - x1) h0 n0) 0 (by decide) (by decide) e0 (by decide) (by decide) (g := (mkF m 9 #[.val (.long x0), .second, .val (.long x1), .second] [(.long ((2147483647 : Int64) - x1)), (.long (own_lshr x0 (32 : Int32)))])) rfl (by rw [hml]; rfl) (argsL := [(.long (own_lshr x0 (32 : Int32))), (.long ((2147483647 : Int64) - x1))]) (rest := []) (lenOf pd__JJ_J rfl) rfl (by show 2 * 0 + _ ≤ _; exact Nat.le_of_eq rfl) (hb hby d2_9)
  obtain ⟨rfl, N2q, e2⟩ := hQ2
  have N2 := Fr.app N0 N2q
  refine ownGo.st st2 ?_
  show ownGo p.tables e below T2 (mkF m 12 #[.val (.long x0), .second, .val (.long x1), .second] [(.long (F3 (own_lshr x0 (32 : Int32)) ((2147483647 : Int64) - x1)))]) _
  refine ownGo.st (fun _ k => XS.l2i X2.here hx rfl (hb hby d2_12) rfl k) ?_
  show ownGo p.tables e below T2 (mkF m 13 #[.val (.long x0), .second, .val (.long x1), .second] [(.int ((F3 (own_lshr x0 (32 : Int32)) ((2147483647 : Int64) - x1)).toInt32))]) _
  exact own_retI X2 hx hlk hret (hb hby d2_13) ⟨congrArg (fun z => some (Value.int z)) hr0.symm, N2, e2⟩ (Nat.le_refl _) (Nat.le_refl _)
abbrev F2 (x0 : Int64) (x1 : Int64) : Int32 := f2_0 x0 x1
theorem pn_2 : plainName "com/example/ningbo/ningbo/engine/StateLayoutPackPinLaw" = true := by first | (simp [plainName, overriddenIn]; done) | decide +kernel
theorem ef_2 (m : MethodId) (x0 : Int64) (x1 : Int64) : entryFrame m #[(.long x0), (.long x1)] 4 = mkF m 0 #[.val (.long x0), .second, .val (.long x1), .second] [] := by first | (simp [entryFrame, mkF, argsToLocals, Value.category]; done) | rfl
set_option maxRecDepth 65536 in
set_option maxHeartbeats 40000000 in
theorem rm2 (l : Launch) (Z : State) (a0 : Array Value) (hw : ∀ d ∈ tables_1, d.before a0 Z = true) (x0 : Int64) (x1 : Int64) (h0 : Heap) (n0 : Nat)  :
    MetFree l (⟨"com/example/ningbo/ningbo/engine/StateLayoutPackPinLaw", "lowerOf", "(JJ)I"⟩ : MethodName) (head1 [Jvm.Cond.code (⟨"com/example/ningbo/ningbo/engine/StateLayoutPackPinLaw", "lowerOf", "(JJ)I"⟩ : MethodName) method_4_code 4 (some .int)] R2) (fun a U => a = #[(.long x0), (.long x1)] ∧ Z.Warmed39 U.vm ∧ U.heap = h0) (fun _ _ _ _ _ => True) (fun _ U o U' => ∃ v L, o = .returned v ∧ ownPure (.int (F2 x0 x1)) h0 n0 v U'.heap L ∧ FrameEnd U o U' L R2.cells R2.slots) := by
  refine MetFree.of_bodySF (plainFor_of_name pn_2) hisR ?_
  intro p e s m args below meth c s₁ Bd hml0 hP hK
  obtain ⟨rfl, hZ, hh⟩ := hP
  have hx := Bd.exec
  have hby := Bd.bytes
  have hml : c.maxLocals = 4 := hml0
  have hown : s.vm.findClass "com/example/ningbo/ningbo/engine/StateLayoutPackPinLaw" = some m.cls := findClass_of_methodNamed Bd.named
  have hnm := (name_of_methodNamed Bd.named Bd.method).1
  have hret := Bd.returns
  have hlk : meth.locks = false := BodyLoose.notSynchronized Bd
  have X0 : Stand p l e R2 s m #[(.long x0), (.long x1)] below meth c s₁ [] 0 0 := Stand.of_body Bd
  have e0 : s₁.heap = h0 := by rw [← hh, Bd.state]; rfl
  have N0 := Fr.nil n0
  show ownGo p.tables e below s₁ (entryFrame m #[(.long x0), (.long x1)] 4) (ownDone s (ownPure (.int (F2 x0 x1)) h0 n0) R2.cells R2.slots)
  rw [ef_2 m x0 x1]
  exact b2_0 hx hZ hw hby hml hown hret hlk X0 e0 N0 x0 x1 _ rfl
theorem d4_0 : decode method_5_code 0 = .ok (.iload_n 1, 1) := by decide +kernel
theorem d4_1 : decode method_5_code 1 = .ok (.ifCond .ne 7, 3) := by decide +kernel
theorem d4_4 : decode method_5_code 4 = .ok (.lconst 0, 1) := by decide +kernel
theorem d4_5 : decode method_5_code 5 = .ok (.goto 18, 3) := by decide +kernel
theorem d4_8 : decode method_5_code 8 = .ok (.lconst 1, 1) := by decide +kernel
theorem d4_9 : decode method_5_code 9 = .ok (.iload_n 1, 1) := by decide +kernel
theorem d4_10 : decode method_5_code 10 = .ok (.iconst 1, 1) := by decide +kernel
theorem d4_11 : decode method_5_code 11 = .ok (.isub, 1) := by decide +kernel
theorem d4_12 : decode method_5_code 12 = .ok (.lshl, 1) := by decide +kernel
theorem d4_13 : decode method_5_code 13 = .ok (.lload_n 2, 1) := by decide +kernel
theorem d4_14 : decode method_5_code 14 = .ok (.lconst 1, 1) := by decide +kernel
theorem d4_15 : decode method_5_code 15 = .ok (.iload_n 1, 1) := by decide +kernel
theorem d4_16 : decode method_5_code 16 = .ok (.iconst 1, 1) := by decide +kernel
theorem d4_17 : decode method_5_code 17 = .ok (.isub, 1) := by decide +kernel
theorem d4_18 : decode method_5_code 18 = .ok (.lshl, 1) := by decide +kernel
theorem d4_19 : decode method_5_code 19 = .ok (.lconst 1, 1) := by decide +kernel
theorem d4_20 : decode method_5_code 20 = .ok (.lsub, 1) := by decide +kernel
theorem d4_21 : decode method_5_code 21 = .ok (.land, 1) := by decide +kernel
theorem d4_22 : decode method_5_code 22 = .ok (.lor, 1) := by decide +kernel
theorem d4_23 : decode method_5_code 23 = .ok (.lstore 4, 2) := by decide +kernel
theorem d4_25 : decode method_5_code 25 = .ok (.iload_n 0, 1) := by decide +kernel
theorem d4_26 : decode method_5_code 26 = .ok (.i2l, 1) := by decide +kernel
theorem d4_27 : decode method_5_code 27 = .ok (.lload 4, 2) := by decide +kernel
theorem d4_29 : decode method_5_code 29 = .ok (.ladd, 1) := by decide +kernel
theorem d4_30 : decode method_5_code 30 = .ok (.l2i, 1) := by decide +kernel
theorem d4_31 : decode method_5_code 31 = .ok (.ireturn, 1) := by decide +kernel
abbrev R4 : Room := { frames := 0, cells := 0, slots := 0, locals := 0 }
def f4_23 (x0 : Int32) (x1 : Int32) (x2 : Int64) (x3 : Int64) : Int32 := (((x0.toInt64) + x3).toInt32)
set_option maxRecDepth 65536 in
set_option maxHeartbeats 40000000 in
theorem b4_23 {p : Program} {l : Launch} {e : Env} {s : State} {m : MethodId} {args : Array Value} {below : List Frame} {meth : Method} {c : Code} {T0 : State} {locs : List Loc} {Z : State} {a0 : Array Value} {h0 : Heap} {n0 : Nat} (hx : p.tables.exec = Jvm.exec) (hZ : Z.Warmed39 s.vm) (hw : ∀ d ∈ tables_1, d.before a0 Z = true) (hby : c.code = method_5_code) (hml : c.maxLocals = 6) (hown : s.vm.findClass "com/example/ningbo/ningbo/engine/StateLayoutPackPinLaw" = some m.cls) (hret : meth.sig.returnType = (some .int)) (hlk : meth.locks = false) (X0 : Stand p l e R4 s m args below meth c T0 locs 0 0) (e0 : T0.heap = h0) (N0 : Fr n0 locs) (x0 : Int32) (x1 : Int32) (x2 : Int64) (x3 : Int64) (r : Int32) (hr : r = f4_23 x0 x1 x2 x3) :
    ownGo p.tables e below T0 (mkF m 23 #[.val (.int x0), .val (.int x1), .val (.long x2), .second, .unset, .unset] [(.long x3)]) (ownDone s (ownPure (.int r) h0 n0) 0 0) := by
  have hr0 : r = (((x0.toInt64) + x3).toInt32) := hr
  refine ownGo.st (fun _ k => XS.lstore X0.here hx rfl (hb hby d4_23) rfl (l' := #[.val (.int x0), .val (.int x1), .val (.long x2), .second, .val (.long x3), .second]) rfl k) ?_
  show ownGo p.tables e below T0 (mkF m 25 #[.val (.int x0), .val (.int x1), .val (.long x2), .second, .val (.long x3), .second] []) _
  refine ownGo.st (fun _ k => XS.iloadN X0.here hx rfl (hb hby d4_25) rfl k) ?_
  show ownGo p.tables e below T0 (mkF m 26 #[.val (.int x0), .val (.int x1), .val (.long x2), .second, .val (.long x3), .second] [(.int x0)]) _
  refine ownGo.st (fun _ k => XS.i2l X0.here hx rfl (hb hby d4_26) rfl k) ?_
  show ownGo p.tables e below T0 (mkF m 27 #[.val (.int x0), .val (.int x1), .val (.long x2), .second, .val (.long x3), .second] [(.long (x0.toInt64))]) _
  refine ownGo.st (fun _ k => XS.lload X0.here hx rfl (hb hby d4_27) rfl k) ?_
  show ownGo p.tables e below T0 (mkF m 29 #[.val (.int x0), .val (.int x1), .val (.long x2), .second, .val (.long x3), .second] [(.long x3), (.long (x0.toInt64))]) _
  refine ownGo.st (fun _ k => XS.ladd X0.here hx rfl (hb hby d4_29) rfl k) ?_
  show ownGo p.tables e below T0 (mkF m 30 #[.val (.int x0), .val (.int x1), .val (.long x2), .second, .val (.long x3), .second] [(.long ((x0.toInt64) + x3))]) _
  refine ownGo.st (fun _ k => XS.l2i X0.here hx rfl (hb hby d4_30) rfl k) ?_
  show ownGo p.tables e below T0 (mkF m 31 #[.val (.int x0), .val (.int x1), .val (.long x2), .second, .val (.long x3), .second] [(.int (((x0.toInt64) + x3).toInt32))]) _
  exact own_retI X0 hx hlk hret (hb hby d4_31) ⟨congrArg (fun z => some (Value.int z)) hr0.symm, N0, e0⟩ (Nat.le_refl _) (Nat.le_refl _)
def f4_0 (x0 : Int32) (x1 : Int32) (x2 : Int64) : Int32 := (if x1 = (0 : Int32) then (f4_23 x0 x1 x2 (0 : Int64)) else (f4_23 x0 x1 x2 ((own_lshl (1 : Int64) (x1 - (1 : Int32))) ||| (x2 &&& ((own_lshl (1 : Int64) (x1 - (1 : Int32))) - (1 : Int64))))))
set_option maxRecDepth 65536 in
set_option maxHeartbeats 40000000 in
theorem b4_0 {p : Program} {l : Launch} {e : Env} {s : State} {m : MethodId} {args : Array Value} {below : List Frame} {meth : Method} {c : Code} {T0 : State} {locs : List Loc} {Z : State} {a0 : Array Value} {h0 : Heap} {n0 : Nat} (hx : p.tables.exec = Jvm.exec) (hZ : Z.Warmed39 s.vm) (hw : ∀ d ∈ tables_1, d.before a0 Z = true) (hby : c.code = method_5_code) (hml : c.maxLocals = 6) (hown : s.vm.findClass "com/example/ningbo/ningbo/engine/StateLayoutPackPinLaw" = some m.cls) (hret : meth.sig.returnType = (some .int)) (hlk : meth.locks = false) (X0 : Stand p l e R4 s m args below meth c T0 locs 0 0) (e0 : T0.heap = h0) (N0 : Fr n0 locs) (x0 : Int32) (x1 : Int32) (x2 : Int64) (r : Int32) (hr : r = f4_0 x0 x1 x2) :
    ownGo p.tables e below T0 (mkF m 0 #[.val (.int x0), .val (.int x1), .val (.long x2), .second, .unset, .unset] []) (ownDone s (ownPure (.int r) h0 n0) 0 0) := by
  have hr0 : r = (if x1 = (0 : Int32) then (f4_23 x0 x1 x2 (0 : Int64)) else (f4_23 x0 x1 x2 ((own_lshl (1 : Int64) (x1 - (1 : Int32))) ||| (x2 &&& ((own_lshl (1 : Int64) (x1 - (1 : Int32))) - (1 : Int64)))))) := hr
  refine ownGo.st (fun _ k => XS.iloadN X0.here hx rfl (hb hby d4_0) rfl k) ?_
  show ownGo p.tables e below T0 (mkF m 1 #[.val (.int x0), .val (.int x1), .val (.long x2), .second, .unset, .unset] [(.int x1)]) _
  by_cases hc1 : x1 = (0 : Int32)
  · have hr3 := hr0.trans (if_pos hc1)
    refine ownGo.st (fun _ k => XS.ifNo X0.here hx rfl (hb hby d4_1) rfl ((if0 _ _).trans (teq hc1).2) k) ?_
    show ownGo p.tables e below T0 (mkF m 4 #[.val (.int x0), .val (.int x1), .val (.long x2), .second, .unset, .unset] []) _
    refine ownGo.st (fun _ k => XS.lconst X0.here hx rfl (hb hby d4_4)  k) ?_
    show ownGo p.tables e below T0 (mkF m 5 #[.val (.int x0), .val (.int x1), .val (.long x2), .second, .unset, .unset] [(.long (0 : Int64))]) _
    refine ownGo.st (fun _ k => XS.goto X0.here hx rfl (pc0 := 5) (pc' := 23) rfl (hb hby d4_5) (by decide) (by decide) k) ?_
    show ownGo p.tables e below T0 (mkF m 23 #[.val (.int x0), .val (.int x1), .val (.long x2), .second, .unset, .unset] [(.long (0 : Int64))]) _
    exact b4_23 hx hZ hw hby hml hown hret hlk X0 e0 N0 x0 x1 x2 (0 : Int64) r hr3
  · have hr3 := hr0.trans (if_neg hc1)
    refine ownGo.st (fun _ k => XS.ifYes X0.here hx rfl (pc0 := 1) (pc' := 8) rfl (hb hby d4_1) rfl ((if0 _ _).trans (feq hc1).2) (by decide) (by decide) k) ?_
    show ownGo p.tables e below T0 (mkF m 8 #[.val (.int x0), .val (.int x1), .val (.long x2), .second, .unset, .unset] []) _
    refine ownGo.st (fun _ k => XS.lconst X0.here hx rfl (hb hby d4_8)  k) ?_
    show ownGo p.tables e below T0 (mkF m 9 #[.val (.int x0), .val (.int x1), .val (.long x2), .second, .unset, .unset] [(.long (1 : Int64))]) _
    refine ownGo.st (fun _ k => XS.iloadN X0.here hx rfl (hb hby d4_9) rfl k) ?_
    show ownGo p.tables e below T0 (mkF m 10 #[.val (.int x0), .val (.int x1), .val (.long x2), .second, .unset, .unset] [(.int x1), (.long (1 : Int64))]) _
    refine ownGo.st (fun _ k => XS.iconst X0.here hx rfl (hb hby d4_10)  k) ?_
    show ownGo p.tables e below T0 (mkF m 11 #[.val (.int x0), .val (.int x1), .val (.long x2), .second, .unset, .unset] [(.int (1 : Int32)), (.int x1), (.long (1 : Int64))]) _
    refine ownGo.st (fun _ k => XS.isub X0.here hx rfl (hb hby d4_11) rfl k) ?_
    show ownGo p.tables e below T0 (mkF m 12 #[.val (.int x0), .val (.int x1), .val (.long x2), .second, .unset, .unset] [(.int (x1 - (1 : Int32))), (.long (1 : Int64))]) _
    refine ownGo.st (fun _ k => XS.lshl X0.here hx rfl (hb hby d4_12) rfl k) ?_
    show ownGo p.tables e below T0 (mkF m 13 #[.val (.int x0), .val (.int x1), .val (.long x2), .second, .unset, .unset] [(.long (own_lshl (1 : Int64) (x1 - (1 : Int32))))]) _
    refine ownGo.st (fun _ k => XS.lloadN X0.here hx rfl (hb hby d4_13) rfl k) ?_
    show ownGo p.tables e below T0 (mkF m 14 #[.val (.int x0), .val (.int x1), .val (.long x2), .second, .unset, .unset] [(.long x2), (.long (own_lshl (1 : Int64) (x1 - (1 : Int32))))]) _
    refine ownGo.st (fun _ k => XS.lconst X0.here hx rfl (hb hby d4_14)  k) ?_
    show ownGo p.tables e below T0 (mkF m 15 #[.val (.int x0), .val (.int x1), .val (.long x2), .second, .unset, .unset] [(.long (1 : Int64)), (.long x2), (.long (own_lshl (1 : Int64) (x1 - (1 : Int32))))]) _
    refine ownGo.st (fun _ k => XS.iloadN X0.here hx rfl (hb hby d4_15) rfl k) ?_
    show ownGo p.tables e below T0 (mkF m 16 #[.val (.int x0), .val (.int x1), .val (.long x2), .second, .unset, .unset] [(.int x1), (.long (1 : Int64)), (.long x2), (.long (own_lshl (1 : Int64) (x1 - (1 : Int32))))]) _
    refine ownGo.st (fun _ k => XS.iconst X0.here hx rfl (hb hby d4_16)  k) ?_
    show ownGo p.tables e below T0 (mkF m 17 #[.val (.int x0), .val (.int x1), .val (.long x2), .second, .unset, .unset] [(.int (1 : Int32)), (.int x1), (.long (1 : Int64)), (.long x2), (.long (own_lshl (1 : Int64) (x1 - (1 : Int32))))]) _
    refine ownGo.st (fun _ k => XS.isub X0.here hx rfl (hb hby d4_17) rfl k) ?_
    show ownGo p.tables e below T0 (mkF m 18 #[.val (.int x0), .val (.int x1), .val (.long x2), .second, .unset, .unset] [(.int (x1 - (1 : Int32))), (.long (1 : Int64)), (.long x2), (.long (own_lshl (1 : Int64) (x1 - (1 : Int32))))]) _
    refine ownGo.st (fun _ k => XS.lshl X0.here hx rfl (hb hby d4_18) rfl k) ?_
    show ownGo p.tables e below T0 (mkF m 19 #[.val (.int x0), .val (.int x1), .val (.long x2), .second, .unset, .unset] [(.long (own_lshl (1 : Int64) (x1 - (1 : Int32)))), (.long x2), (.long (own_lshl (1 : Int64) (x1 - (1 : Int32))))]) _
    refine ownGo.st (fun _ k => XS.lconst X0.here hx rfl (hb hby d4_19)  k) ?_
    show ownGo p.tables e below T0 (mkF m 20 #[.val (.int x0), .val (.int x1), .val (.long x2), .second, .unset, .unset] [(.long (1 : Int64)), (.long (own_lshl (1 : Int64) (x1 - (1 : Int32)))), (.long x2), (.long (own_lshl (1 : Int64) (x1 - (1 : Int32))))]) _
    refine ownGo.st (fun _ k => XS.lsub X0.here hx rfl (hb hby d4_20) rfl k) ?_
    show ownGo p.tables e below T0 (mkF m 21 #[.val (.int x0), .val (.int x1), .val (.long x2), .second, .unset, .unset] [(.long ((own_lshl (1 : Int64) (x1 - (1 : Int32))) - (1 : Int64))), (.long x2), (.long (own_lshl (1 : Int64) (x1 - (1 : Int32))))]) _
    refine ownGo.st (fun _ k => XS.land X0.here hx rfl (hb hby d4_21) rfl k) ?_
    show ownGo p.tables e below T0 (mkF m 22 #[.val (.int x0), .val (.int x1), .val (.long x2), .second, .unset, .unset] [(.long (x2 &&& ((own_lshl (1 : Int64) (x1 - (1 : Int32))) - (1 : Int64)))), (.long (own_lshl (1 : Int64) (x1 - (1 : Int32))))]) _
    refine ownGo.st (fun _ k => XS.lor X0.here hx rfl (hb hby d4_22) rfl k) ?_
    show ownGo p.tables e below T0 (mkF m 23 #[.val (.int x0), .val (.int x1), .val (.long x2), .second, .unset, .unset] [(.long ((own_lshl (1 : Int64) (x1 - (1 : Int32))) ||| (x2 &&& ((own_lshl (1 : Int64) (x1 - (1 : Int32))) - (1 : Int64)))))]) _
    exact b4_23 hx hZ hw hby hml hown hret hlk X0 e0 N0 x0 x1 x2 ((own_lshl (1 : Int64) (x1 - (1 : Int32))) ||| (x2 &&& ((own_lshl (1 : Int64) (x1 - (1 : Int32))) - (1 : Int64)))) r hr3
abbrev F4 (x0 : Int32) (x1 : Int32) (x2 : Int64) : Int32 := f4_0 x0 x1 x2
theorem pn_4 : plainName "com/example/ningbo/ningbo/engine/StateLayoutPackPinLaw" = true := by first | (simp [plainName, overriddenIn]; done) | decide +kernel
theorem ef_4 (m : MethodId) (x0 : Int32) (x1 : Int32) (x2 : Int64) : entryFrame m #[(.int x0), (.int x1), (.long x2)] 6 = mkF m 0 #[.val (.int x0), .val (.int x1), .val (.long x2), .second, .unset, .unset] [] := by first | (simp [entryFrame, mkF, argsToLocals, Value.category]; done) | rfl
set_option maxRecDepth 65536 in
set_option maxHeartbeats 40000000 in
theorem rm4 (l : Launch) (Z : State) (a0 : Array Value) (hw : ∀ d ∈ tables_1, d.before a0 Z = true) (x0 : Int32) (x1 : Int32) (x2 : Int64) (h0 : Heap) (n0 : Nat)  :
    MetFree l (⟨"com/example/ningbo/ningbo/engine/StateLayoutPackPinLaw", "upperOf", "(IIJ)I"⟩ : MethodName) (head1 [Jvm.Cond.code (⟨"com/example/ningbo/ningbo/engine/StateLayoutPackPinLaw", "upperOf", "(IIJ)I"⟩ : MethodName) method_5_code 6 (some .int)] R4) (fun a U => a = #[(.int x0), (.int x1), (.long x2)] ∧ Z.Warmed39 U.vm ∧ U.heap = h0) (fun _ _ _ _ _ => True) (fun _ U o U' => ∃ v L, o = .returned v ∧ ownPure (.int (F4 x0 x1 x2)) h0 n0 v U'.heap L ∧ FrameEnd U o U' L R4.cells R4.slots) := by
  refine MetFree.of_bodySF (plainFor_of_name pn_4) hisR ?_
  intro p e s m args below meth c s₁ Bd hml0 hP hK
  obtain ⟨rfl, hZ, hh⟩ := hP
  have hx := Bd.exec
  have hby := Bd.bytes
  have hml : c.maxLocals = 6 := hml0
  have hown : s.vm.findClass "com/example/ningbo/ningbo/engine/StateLayoutPackPinLaw" = some m.cls := findClass_of_methodNamed Bd.named
  have hnm := (name_of_methodNamed Bd.named Bd.method).1
  have hret := Bd.returns
  have hlk : meth.locks = false := BodyLoose.notSynchronized Bd
  have X0 : Stand p l e R4 s m #[(.int x0), (.int x1), (.long x2)] below meth c s₁ [] 0 0 := Stand.of_body Bd
  have e0 : s₁.heap = h0 := by rw [← hh, Bd.state]; rfl
  have N0 := Fr.nil n0
  show ownGo p.tables e below s₁ (entryFrame m #[(.int x0), (.int x1), (.long x2)] 6) (ownDone s (ownPure (.int (F4 x0 x1 x2)) h0 n0) R4.cells R4.slots)
  rw [ef_4 m x0 x1 x2]
  exact b4_0 hx hZ hw hby hml hown hret hlk X0 e0 N0 x0 x1 x2 _ rfl
theorem d8_0 : decode jdk_33_method_47_code 0 = .ok (.iload_n 0, 1) := by decide +kernel
theorem d8_1 : decode jdk_33_method_47_code 1 = .ok (.ifCond .gt 14, 3) := by decide +kernel
theorem d8_4 : decode jdk_33_method_47_code 4 = .ok (.iload_n 0, 1) := by decide +kernel
theorem d8_5 : decode jdk_33_method_47_code 5 = .ok (.ifCond .ne 8, 3) := by decide +kernel
theorem d8_8 : decode jdk_33_method_47_code 8 = .ok (.bipush 32, 2) := by decide +kernel
theorem d8_10 : decode jdk_33_method_47_code 10 = .ok (.goto 4, 3) := by decide +kernel
theorem d8_13 : decode jdk_33_method_47_code 13 = .ok (.iconst 0, 1) := by decide +kernel
theorem d8_14 : decode jdk_33_method_47_code 14 = .ok (.ireturn, 1) := by decide +kernel
theorem d8_15 : decode jdk_33_method_47_code 15 = .ok (.bipush 31, 2) := by decide +kernel
theorem d8_17 : decode jdk_33_method_47_code 17 = .ok (.istore_n 1, 1) := by decide +kernel
theorem d8_18 : decode jdk_33_method_47_code 18 = .ok (.iload_n 0, 1) := by decide +kernel
theorem d8_19 : decode jdk_33_method_47_code 19 = .ok (.ldc_w 264, 3) := by decide +kernel
theorem d8_22 : decode jdk_33_method_47_code 22 = .ok (.if_icmp .lt 11, 3) := by decide +kernel
theorem d8_25 : decode jdk_33_method_47_code 25 = .ok (.iinc 1 (-16), 3) := by decide +kernel
theorem d8_28 : decode jdk_33_method_47_code 28 = .ok (.iload_n 0, 1) := by decide +kernel
theorem d8_29 : decode jdk_33_method_47_code 29 = .ok (.bipush 16, 2) := by decide +kernel
theorem d8_31 : decode jdk_33_method_47_code 31 = .ok (.iushr, 1) := by decide +kernel
theorem d8_32 : decode jdk_33_method_47_code 32 = .ok (.istore_n 0, 1) := by decide +kernel
theorem d8_33 : decode jdk_33_method_47_code 33 = .ok (.iload_n 0, 1) := by decide +kernel
theorem d8_34 : decode jdk_33_method_47_code 34 = .ok (.sipush 256, 3) := by decide +kernel
theorem d8_37 : decode jdk_33_method_47_code 37 = .ok (.if_icmp .lt 11, 3) := by decide +kernel
theorem d8_40 : decode jdk_33_method_47_code 40 = .ok (.iinc 1 (-8), 3) := by decide +kernel
theorem d8_43 : decode jdk_33_method_47_code 43 = .ok (.iload_n 0, 1) := by decide +kernel
theorem d8_44 : decode jdk_33_method_47_code 44 = .ok (.bipush 8, 2) := by decide +kernel
theorem d8_46 : decode jdk_33_method_47_code 46 = .ok (.iushr, 1) := by decide +kernel
theorem d8_47 : decode jdk_33_method_47_code 47 = .ok (.istore_n 0, 1) := by decide +kernel
theorem d8_48 : decode jdk_33_method_47_code 48 = .ok (.iload_n 0, 1) := by decide +kernel
theorem d8_49 : decode jdk_33_method_47_code 49 = .ok (.bipush 16, 2) := by decide +kernel
theorem d8_51 : decode jdk_33_method_47_code 51 = .ok (.if_icmp .lt 10, 3) := by decide +kernel
theorem d8_54 : decode jdk_33_method_47_code 54 = .ok (.iinc 1 (-4), 3) := by decide +kernel
theorem d8_57 : decode jdk_33_method_47_code 57 = .ok (.iload_n 0, 1) := by decide +kernel
theorem d8_58 : decode jdk_33_method_47_code 58 = .ok (.iconst 4, 1) := by decide +kernel
theorem d8_59 : decode jdk_33_method_47_code 59 = .ok (.iushr, 1) := by decide +kernel
theorem d8_60 : decode jdk_33_method_47_code 60 = .ok (.istore_n 0, 1) := by decide +kernel
theorem d8_61 : decode jdk_33_method_47_code 61 = .ok (.iload_n 0, 1) := by decide +kernel
theorem d8_62 : decode jdk_33_method_47_code 62 = .ok (.iconst 4, 1) := by decide +kernel
theorem d8_63 : decode jdk_33_method_47_code 63 = .ok (.if_icmp .lt 10, 3) := by decide +kernel
theorem d8_66 : decode jdk_33_method_47_code 66 = .ok (.iinc 1 (-2), 3) := by decide +kernel
theorem d8_69 : decode jdk_33_method_47_code 69 = .ok (.iload_n 0, 1) := by decide +kernel
theorem d8_70 : decode jdk_33_method_47_code 70 = .ok (.iconst 2, 1) := by decide +kernel
theorem d8_71 : decode jdk_33_method_47_code 71 = .ok (.iushr, 1) := by decide +kernel
theorem d8_72 : decode jdk_33_method_47_code 72 = .ok (.istore_n 0, 1) := by decide +kernel
theorem d8_73 : decode jdk_33_method_47_code 73 = .ok (.iload_n 1, 1) := by decide +kernel
theorem d8_74 : decode jdk_33_method_47_code 74 = .ok (.iload_n 0, 1) := by decide +kernel
theorem d8_75 : decode jdk_33_method_47_code 75 = .ok (.iconst 1, 1) := by decide +kernel
theorem d8_76 : decode jdk_33_method_47_code 76 = .ok (.iushr, 1) := by decide +kernel
theorem d8_77 : decode jdk_33_method_47_code 77 = .ok (.isub, 1) := by decide +kernel
theorem d8_78 : decode jdk_33_method_47_code 78 = .ok (.ireturn, 1) := by decide +kernel
abbrev R8 : Room := { frames := 0, cells := 0, slots := 0, locals := 0 }
def f8_73 (x0 : Int32) (x1 : Int32) : Int32 := (x1 - (own_iushr x0 (1 : Int32)))
set_option maxRecDepth 65536 in
set_option maxHeartbeats 40000000 in
theorem b8_73 {p : Program} {l : Launch} {e : Env} {s : State} {m : MethodId} {args : Array Value} {below : List Frame} {meth : Method} {c : Code} {T0 : State} {locs : List Loc} {Z : State} {a0 : Array Value} {h0 : Heap} {n0 : Nat} (hx : p.tables.exec = Jvm.exec) (hZ : Z.Warmed39 s.vm) (hw : ∀ d ∈ tables_1, d.before a0 Z = true) (hby : c.code = jdk_33_method_47_code) (hml : c.maxLocals = 2) (hown : s.vm.findClass "java/lang/Integer" = some m.cls) (hret : meth.sig.returnType = (some .int)) (hlk : meth.locks = false) (X0 : Stand p l e R8 s m args below meth c T0 locs 0 0) (e0 : T0.heap = h0) (N0 : Fr n0 locs) (x0 : Int32) (x1 : Int32) (r : Int32) (hr : r = f8_73 x0 x1) :
    ownGo p.tables e below T0 (mkF m 73 #[.val (.int x0), .val (.int x1)] []) (ownDone s (ownPure (.int r) h0 n0) 0 0) := by
  have hr0 : r = (x1 - (own_iushr x0 (1 : Int32))) := hr
  refine ownGo.st (fun _ k => XS.iloadN X0.here hx rfl (hb hby d8_73) rfl k) ?_
  show ownGo p.tables e below T0 (mkF m 74 #[.val (.int x0), .val (.int x1)] [(.int x1)]) _
  refine ownGo.st (fun _ k => XS.iloadN X0.here hx rfl (hb hby d8_74) rfl k) ?_
  show ownGo p.tables e below T0 (mkF m 75 #[.val (.int x0), .val (.int x1)] [(.int x0), (.int x1)]) _
  refine ownGo.st (fun _ k => XS.iconst X0.here hx rfl (hb hby d8_75)  k) ?_
  show ownGo p.tables e below T0 (mkF m 76 #[.val (.int x0), .val (.int x1)] [(.int (1 : Int32)), (.int x0), (.int x1)]) _
  refine ownGo.st (fun _ k => XS.iushr X0.here hx rfl (hb hby d8_76) rfl k) ?_
  show ownGo p.tables e below T0 (mkF m 77 #[.val (.int x0), .val (.int x1)] [(.int (own_iushr x0 (1 : Int32))), (.int x1)]) _
  refine ownGo.st (fun _ k => XS.isub X0.here hx rfl (hb hby d8_77) rfl k) ?_
  show ownGo p.tables e below T0 (mkF m 78 #[.val (.int x0), .val (.int x1)] [(.int (x1 - (own_iushr x0 (1 : Int32))))]) _
  exact own_retI X0 hx hlk hret (hb hby d8_78) ⟨congrArg (fun z => some (Value.int z)) hr0.symm, N0, e0⟩ (Nat.le_refl _) (Nat.le_refl _)
def f8_61 (x0 : Int32) (x1 : Int32) : Int32 := (if x0 < (4 : Int32) then (f8_73 x0 x1) else (f8_73 (own_iushr x0 (2 : Int32)) (x1 + (-2 : Int32))))
set_option maxRecDepth 65536 in
set_option maxHeartbeats 40000000 in
theorem b8_61 {p : Program} {l : Launch} {e : Env} {s : State} {m : MethodId} {args : Array Value} {below : List Frame} {meth : Method} {c : Code} {T0 : State} {locs : List Loc} {Z : State} {a0 : Array Value} {h0 : Heap} {n0 : Nat} (hx : p.tables.exec = Jvm.exec) (hZ : Z.Warmed39 s.vm) (hw : ∀ d ∈ tables_1, d.before a0 Z = true) (hby : c.code = jdk_33_method_47_code) (hml : c.maxLocals = 2) (hown : s.vm.findClass "java/lang/Integer" = some m.cls) (hret : meth.sig.returnType = (some .int)) (hlk : meth.locks = false) (X0 : Stand p l e R8 s m args below meth c T0 locs 0 0) (e0 : T0.heap = h0) (N0 : Fr n0 locs) (x0 : Int32) (x1 : Int32) (r : Int32) (hr : r = f8_61 x0 x1) :
    ownGo p.tables e below T0 (mkF m 61 #[.val (.int x0), .val (.int x1)] []) (ownDone s (ownPure (.int r) h0 n0) 0 0) := by
  have hr0 : r = (if x0 < (4 : Int32) then (f8_73 x0 x1) else (f8_73 (own_iushr x0 (2 : Int32)) (x1 + (-2 : Int32)))) := hr
  refine ownGo.st (fun _ k => XS.iloadN X0.here hx rfl (hb hby d8_61) rfl k) ?_
  show ownGo p.tables e below T0 (mkF m 62 #[.val (.int x0), .val (.int x1)] [(.int x0)]) _
  refine ownGo.st (fun _ k => XS.iconst X0.here hx rfl (hb hby d8_62)  k) ?_
  show ownGo p.tables e below T0 (mkF m 63 #[.val (.int x0), .val (.int x1)] [(.int (4 : Int32)), (.int x0)]) _
  by_cases hc63 : x0 < (4 : Int32)
  · have hr8 := hr0.trans (if_pos hc63)
    refine ownGo.st (fun _ k => XS.icmpYes X0.here hx rfl (pc0 := 63) (pc' := 73) rfl (hb hby d8_63) rfl (tlt hc63).1 (by decide) (by decide) k) ?_
    show ownGo p.tables e below T0 (mkF m 73 #[.val (.int x0), .val (.int x1)] []) _
    exact b8_73 hx hZ hw hby hml hown hret hlk X0 e0 N0 x0 x1 r hr8
  · have hr8 := hr0.trans (if_neg hc63)
    refine ownGo.st (fun _ k => XS.icmpNo X0.here hx rfl (hb hby d8_63) rfl (flt hc63).1 k) ?_
    show ownGo p.tables e below T0 (mkF m 66 #[.val (.int x0), .val (.int x1)] []) _
    refine ownGo.st (fun _ k => XS.iinc X0.here hx rfl (hb hby d8_66) rfl (l' := #[.val (.int x0), .val (.int (x1 + (-2 : Int32)))]) rfl k) ?_
    show ownGo p.tables e below T0 (mkF m 69 #[.val (.int x0), .val (.int (x1 + (-2 : Int32)))] []) _
    refine ownGo.st (fun _ k => XS.iloadN X0.here hx rfl (hb hby d8_69) rfl k) ?_
    show ownGo p.tables e below T0 (mkF m 70 #[.val (.int x0), .val (.int (x1 + (-2 : Int32)))] [(.int x0)]) _
    refine ownGo.st (fun _ k => XS.iconst X0.here hx rfl (hb hby d8_70)  k) ?_
    show ownGo p.tables e below T0 (mkF m 71 #[.val (.int x0), .val (.int (x1 + (-2 : Int32)))] [(.int (2 : Int32)), (.int x0)]) _
    refine ownGo.st (fun _ k => XS.iushr X0.here hx rfl (hb hby d8_71) rfl k) ?_
    show ownGo p.tables e below T0 (mkF m 72 #[.val (.int x0), .val (.int (x1 + (-2 : Int32)))] [(.int (own_iushr x0 (2 : Int32)))]) _
    refine ownGo.st (fun _ k => XS.istoreN X0.here hx rfl (hb hby d8_72) rfl (l' := #[.val (.int (own_iushr x0 (2 : Int32))), .val (.int (x1 + (-2 : Int32)))]) rfl k) ?_
    show ownGo p.tables e below T0 (mkF m 73 #[.val (.int (own_iushr x0 (2 : Int32))), .val (.int (x1 + (-2 : Int32)))] []) _
    exact b8_73 hx hZ hw hby hml hown hret hlk X0 e0 N0 (own_iushr x0 (2 : Int32)) (x1 + (-2 : Int32)) r hr8
def f8_48 (x0 : Int32) (x1 : Int32) : Int32 := (if x0 < (16 : Int32) then (f8_61 x0 x1) else (f8_61 (own_iushr x0 (4 : Int32)) (x1 + (-4 : Int32))))
set_option maxRecDepth 65536 in
set_option maxHeartbeats 40000000 in
theorem b8_48 {p : Program} {l : Launch} {e : Env} {s : State} {m : MethodId} {args : Array Value} {below : List Frame} {meth : Method} {c : Code} {T0 : State} {locs : List Loc} {Z : State} {a0 : Array Value} {h0 : Heap} {n0 : Nat} (hx : p.tables.exec = Jvm.exec) (hZ : Z.Warmed39 s.vm) (hw : ∀ d ∈ tables_1, d.before a0 Z = true) (hby : c.code = jdk_33_method_47_code) (hml : c.maxLocals = 2) (hown : s.vm.findClass "java/lang/Integer" = some m.cls) (hret : meth.sig.returnType = (some .int)) (hlk : meth.locks = false) (X0 : Stand p l e R8 s m args below meth c T0 locs 0 0) (e0 : T0.heap = h0) (N0 : Fr n0 locs) (x0 : Int32) (x1 : Int32) (r : Int32) (hr : r = f8_48 x0 x1) :
    ownGo p.tables e below T0 (mkF m 48 #[.val (.int x0), .val (.int x1)] []) (ownDone s (ownPure (.int r) h0 n0) 0 0) := by
  have hr0 : r = (if x0 < (16 : Int32) then (f8_61 x0 x1) else (f8_61 (own_iushr x0 (4 : Int32)) (x1 + (-4 : Int32)))) := hr
  refine ownGo.st (fun _ k => XS.iloadN X0.here hx rfl (hb hby d8_48) rfl k) ?_
  show ownGo p.tables e below T0 (mkF m 49 #[.val (.int x0), .val (.int x1)] [(.int x0)]) _
  refine ownGo.st (fun _ k => XS.bipush X0.here hx rfl (hb hby d8_49)  k) ?_
  show ownGo p.tables e below T0 (mkF m 51 #[.val (.int x0), .val (.int x1)] [(.int (16 : Int32)), (.int x0)]) _
  by_cases hc51 : x0 < (16 : Int32)
  · have hr7 := hr0.trans (if_pos hc51)
    refine ownGo.st (fun _ k => XS.icmpYes X0.here hx rfl (pc0 := 51) (pc' := 61) rfl (hb hby d8_51) rfl (tlt hc51).1 (by decide) (by decide) k) ?_
    show ownGo p.tables e below T0 (mkF m 61 #[.val (.int x0), .val (.int x1)] []) _
    exact b8_61 hx hZ hw hby hml hown hret hlk X0 e0 N0 x0 x1 r hr7
  · have hr7 := hr0.trans (if_neg hc51)
    refine ownGo.st (fun _ k => XS.icmpNo X0.here hx rfl (hb hby d8_51) rfl (flt hc51).1 k) ?_
    show ownGo p.tables e below T0 (mkF m 54 #[.val (.int x0), .val (.int x1)] []) _
    refine ownGo.st (fun _ k => XS.iinc X0.here hx rfl (hb hby d8_54) rfl (l' := #[.val (.int x0), .val (.int (x1 + (-4 : Int32)))]) rfl k) ?_
    show ownGo p.tables e below T0 (mkF m 57 #[.val (.int x0), .val (.int (x1 + (-4 : Int32)))] []) _
    refine ownGo.st (fun _ k => XS.iloadN X0.here hx rfl (hb hby d8_57) rfl k) ?_
    show ownGo p.tables e below T0 (mkF m 58 #[.val (.int x0), .val (.int (x1 + (-4 : Int32)))] [(.int x0)]) _
    refine ownGo.st (fun _ k => XS.iconst X0.here hx rfl (hb hby d8_58)  k) ?_
    show ownGo p.tables e below T0 (mkF m 59 #[.val (.int x0), .val (.int (x1 + (-4 : Int32)))] [(.int (4 : Int32)), (.int x0)]) _
    refine ownGo.st (fun _ k => XS.iushr X0.here hx rfl (hb hby d8_59) rfl k) ?_
    show ownGo p.tables e below T0 (mkF m 60 #[.val (.int x0), .val (.int (x1 + (-4 : Int32)))] [(.int (own_iushr x0 (4 : Int32)))]) _
    refine ownGo.st (fun _ k => XS.istoreN X0.here hx rfl (hb hby d8_60) rfl (l' := #[.val (.int (own_iushr x0 (4 : Int32))), .val (.int (x1 + (-4 : Int32)))]) rfl k) ?_
    show ownGo p.tables e below T0 (mkF m 61 #[.val (.int (own_iushr x0 (4 : Int32))), .val (.int (x1 + (-4 : Int32)))] []) _
    exact b8_61 hx hZ hw hby hml hown hret hlk X0 e0 N0 (own_iushr x0 (4 : Int32)) (x1 + (-4 : Int32)) r hr7
def f8_33 (x0 : Int32) (x1 : Int32) : Int32 := (if x0 < (256 : Int32) then (f8_48 x0 x1) else (f8_48 (own_iushr x0 (8 : Int32)) (x1 + (-8 : Int32))))
set_option maxRecDepth 65536 in
set_option maxHeartbeats 40000000 in
theorem b8_33 {p : Program} {l : Launch} {e : Env} {s : State} {m : MethodId} {args : Array Value} {below : List Frame} {meth : Method} {c : Code} {T0 : State} {locs : List Loc} {Z : State} {a0 : Array Value} {h0 : Heap} {n0 : Nat} (hx : p.tables.exec = Jvm.exec) (hZ : Z.Warmed39 s.vm) (hw : ∀ d ∈ tables_1, d.before a0 Z = true) (hby : c.code = jdk_33_method_47_code) (hml : c.maxLocals = 2) (hown : s.vm.findClass "java/lang/Integer" = some m.cls) (hret : meth.sig.returnType = (some .int)) (hlk : meth.locks = false) (X0 : Stand p l e R8 s m args below meth c T0 locs 0 0) (e0 : T0.heap = h0) (N0 : Fr n0 locs) (x0 : Int32) (x1 : Int32) (r : Int32) (hr : r = f8_33 x0 x1) :
    ownGo p.tables e below T0 (mkF m 33 #[.val (.int x0), .val (.int x1)] []) (ownDone s (ownPure (.int r) h0 n0) 0 0) := by
  have hr0 : r = (if x0 < (256 : Int32) then (f8_48 x0 x1) else (f8_48 (own_iushr x0 (8 : Int32)) (x1 + (-8 : Int32)))) := hr
  refine ownGo.st (fun _ k => XS.iloadN X0.here hx rfl (hb hby d8_33) rfl k) ?_
  show ownGo p.tables e below T0 (mkF m 34 #[.val (.int x0), .val (.int x1)] [(.int x0)]) _
  refine ownGo.st (fun _ k => XS.sipush X0.here hx rfl (hb hby d8_34)  k) ?_
  show ownGo p.tables e below T0 (mkF m 37 #[.val (.int x0), .val (.int x1)] [(.int (256 : Int32)), (.int x0)]) _
  by_cases hc37 : x0 < (256 : Int32)
  · have hr6 := hr0.trans (if_pos hc37)
    refine ownGo.st (fun _ k => XS.icmpYes X0.here hx rfl (pc0 := 37) (pc' := 48) rfl (hb hby d8_37) rfl (tlt hc37).1 (by decide) (by decide) k) ?_
    show ownGo p.tables e below T0 (mkF m 48 #[.val (.int x0), .val (.int x1)] []) _
    exact b8_48 hx hZ hw hby hml hown hret hlk X0 e0 N0 x0 x1 r hr6
  · have hr6 := hr0.trans (if_neg hc37)
    refine ownGo.st (fun _ k => XS.icmpNo X0.here hx rfl (hb hby d8_37) rfl (flt hc37).1 k) ?_
    show ownGo p.tables e below T0 (mkF m 40 #[.val (.int x0), .val (.int x1)] []) _
    refine ownGo.st (fun _ k => XS.iinc X0.here hx rfl (hb hby d8_40) rfl (l' := #[.val (.int x0), .val (.int (x1 + (-8 : Int32)))]) rfl k) ?_
    show ownGo p.tables e below T0 (mkF m 43 #[.val (.int x0), .val (.int (x1 + (-8 : Int32)))] []) _
    refine ownGo.st (fun _ k => XS.iloadN X0.here hx rfl (hb hby d8_43) rfl k) ?_
    show ownGo p.tables e below T0 (mkF m 44 #[.val (.int x0), .val (.int (x1 + (-8 : Int32)))] [(.int x0)]) _
    refine ownGo.st (fun _ k => XS.bipush X0.here hx rfl (hb hby d8_44)  k) ?_
    show ownGo p.tables e below T0 (mkF m 46 #[.val (.int x0), .val (.int (x1 + (-8 : Int32)))] [(.int (8 : Int32)), (.int x0)]) _
    refine ownGo.st (fun _ k => XS.iushr X0.here hx rfl (hb hby d8_46) rfl k) ?_
    show ownGo p.tables e below T0 (mkF m 47 #[.val (.int x0), .val (.int (x1 + (-8 : Int32)))] [(.int (own_iushr x0 (8 : Int32)))]) _
    refine ownGo.st (fun _ k => XS.istoreN X0.here hx rfl (hb hby d8_47) rfl (l' := #[.val (.int (own_iushr x0 (8 : Int32))), .val (.int (x1 + (-8 : Int32)))]) rfl k) ?_
    show ownGo p.tables e below T0 (mkF m 48 #[.val (.int (own_iushr x0 (8 : Int32))), .val (.int (x1 + (-8 : Int32)))] []) _
    exact b8_48 hx hZ hw hby hml hown hret hlk X0 e0 N0 (own_iushr x0 (8 : Int32)) (x1 + (-8 : Int32)) r hr6
def f8_0 (x0 : Int32) : Int32 := (if (0 : Int32) < x0 then (if x0 < (65536 : Int32) then (f8_33 x0 (31 : Int32)) else (f8_33 (own_iushr x0 (16 : Int32)) ((31 : Int32) + (-16 : Int32)))) else (if x0 = (0 : Int32) then (32 : Int32) else (0 : Int32)))
set_option maxRecDepth 65536 in
set_option maxHeartbeats 40000000 in
theorem b8_0 {p : Program} {l : Launch} {e : Env} {s : State} {m : MethodId} {args : Array Value} {below : List Frame} {meth : Method} {c : Code} {T0 : State} {locs : List Loc} {Z : State} {a0 : Array Value} {h0 : Heap} {n0 : Nat} (hx : p.tables.exec = Jvm.exec) (hZ : Z.Warmed39 s.vm) (hw : ∀ d ∈ tables_1, d.before a0 Z = true) (hby : c.code = jdk_33_method_47_code) (hml : c.maxLocals = 2) (hown : s.vm.findClass "java/lang/Integer" = some m.cls) (hret : meth.sig.returnType = (some .int)) (hlk : meth.locks = false) (X0 : Stand p l e R8 s m args below meth c T0 locs 0 0) (e0 : T0.heap = h0) (N0 : Fr n0 locs) (x0 : Int32) (r : Int32) (hr : r = f8_0 x0) :
    ownGo p.tables e below T0 (mkF m 0 #[.val (.int x0), .unset] []) (ownDone s (ownPure (.int r) h0 n0) 0 0) := by
  have hr0 : r = (if (0 : Int32) < x0 then (if x0 < (65536 : Int32) then (f8_33 x0 (31 : Int32)) else (f8_33 (own_iushr x0 (16 : Int32)) ((31 : Int32) + (-16 : Int32)))) else (if x0 = (0 : Int32) then (32 : Int32) else (0 : Int32))) := hr
  refine ownGo.st (fun _ k => XS.iloadN X0.here hx rfl (hb hby d8_0) rfl k) ?_
  show ownGo p.tables e below T0 (mkF m 1 #[.val (.int x0), .unset] [(.int x0)]) _
  by_cases hc1 : (0 : Int32) < x0
  · have hr4 := hr0.trans (if_pos hc1)
    refine ownGo.st (fun _ k => XS.ifYes X0.here hx rfl (pc0 := 1) (pc' := 15) rfl (hb hby d8_1) rfl ((if0 _ _).trans (tlt hc1).2.2.1) (by decide) (by decide) k) ?_
    show ownGo p.tables e below T0 (mkF m 15 #[.val (.int x0), .unset] []) _
    refine ownGo.st (fun _ k => XS.bipush X0.here hx rfl (hb hby d8_15)  k) ?_
    show ownGo p.tables e below T0 (mkF m 17 #[.val (.int x0), .unset] [(.int (31 : Int32))]) _
    refine ownGo.st (fun _ k => XS.istoreN X0.here hx rfl (hb hby d8_17) rfl (l' := #[.val (.int x0), .val (.int (31 : Int32))]) rfl k) ?_
    show ownGo p.tables e below T0 (mkF m 18 #[.val (.int x0), .val (.int (31 : Int32))] []) _
    refine ownGo.st (fun _ k => XS.iloadN X0.here hx rfl (hb hby d8_18) rfl k) ?_
    show ownGo p.tables e below T0 (mkF m 19 #[.val (.int x0), .val (.int (31 : Int32))] [(.int x0)]) _
    refine ownGo.st (X0.ldcwInt hx hown (mvT hZ (own_at hw 57 rfl)) (g := (mkF m 19 #[.val (.int x0), .val (.int (31 : Int32))] [(.int x0)])) rfl (hb hby d8_19)) ?_
    show ownGo p.tables e below T0 (mkF m 22 #[.val (.int x0), .val (.int (31 : Int32))] [(.int (65536 : Int32)), (.int x0)]) _
    by_cases hc22 : x0 < (65536 : Int32)
    · have hr5 := hr4.trans (if_pos hc22)
      refine ownGo.st (fun _ k => XS.icmpYes X0.here hx rfl (pc0 := 22) (pc' := 33) rfl (hb hby d8_22) rfl (tlt hc22).1 (by decide) (by decide) k) ?_
      show ownGo p.tables e below T0 (mkF m 33 #[.val (.int x0), .val (.int (31 : Int32))] []) _
      exact b8_33 hx hZ hw hby hml hown hret hlk X0 e0 N0 x0 (31 : Int32) r hr5
    · have hr5 := hr4.trans (if_neg hc22)
      refine ownGo.st (fun _ k => XS.icmpNo X0.here hx rfl (hb hby d8_22) rfl (flt hc22).1 k) ?_
      show ownGo p.tables e below T0 (mkF m 25 #[.val (.int x0), .val (.int (31 : Int32))] []) _
      refine ownGo.st (fun _ k => XS.iinc X0.here hx rfl (hb hby d8_25) rfl (l' := #[.val (.int x0), .val (.int ((31 : Int32) + (-16 : Int32)))]) rfl k) ?_
      show ownGo p.tables e below T0 (mkF m 28 #[.val (.int x0), .val (.int ((31 : Int32) + (-16 : Int32)))] []) _
      refine ownGo.st (fun _ k => XS.iloadN X0.here hx rfl (hb hby d8_28) rfl k) ?_
      show ownGo p.tables e below T0 (mkF m 29 #[.val (.int x0), .val (.int ((31 : Int32) + (-16 : Int32)))] [(.int x0)]) _
      refine ownGo.st (fun _ k => XS.bipush X0.here hx rfl (hb hby d8_29)  k) ?_
      show ownGo p.tables e below T0 (mkF m 31 #[.val (.int x0), .val (.int ((31 : Int32) + (-16 : Int32)))] [(.int (16 : Int32)), (.int x0)]) _
      refine ownGo.st (fun _ k => XS.iushr X0.here hx rfl (hb hby d8_31) rfl k) ?_
      show ownGo p.tables e below T0 (mkF m 32 #[.val (.int x0), .val (.int ((31 : Int32) + (-16 : Int32)))] [(.int (own_iushr x0 (16 : Int32)))]) _
      refine ownGo.st (fun _ k => XS.istoreN X0.here hx rfl (hb hby d8_32) rfl (l' := #[.val (.int (own_iushr x0 (16 : Int32))), .val (.int ((31 : Int32) + (-16 : Int32)))]) rfl k) ?_
      show ownGo p.tables e below T0 (mkF m 33 #[.val (.int (own_iushr x0 (16 : Int32))), .val (.int ((31 : Int32) + (-16 : Int32)))] []) _
      exact b8_33 hx hZ hw hby hml hown hret hlk X0 e0 N0 (own_iushr x0 (16 : Int32)) ((31 : Int32) + (-16 : Int32)) r hr5
  · have hr4 := hr0.trans (if_neg hc1)
    refine ownGo.st (fun _ k => XS.ifNo X0.here hx rfl (hb hby d8_1) rfl ((if0 _ _).trans (flt hc1).2.2.1) k) ?_
    show ownGo p.tables e below T0 (mkF m 4 #[.val (.int x0), .unset] []) _
    refine ownGo.st (fun _ k => XS.iloadN X0.here hx rfl (hb hby d8_4) rfl k) ?_
    show ownGo p.tables e below T0 (mkF m 5 #[.val (.int x0), .unset] [(.int x0)]) _
    by_cases hc5 : x0 = (0 : Int32)
    · have hr9 := hr4.trans (if_pos hc5)
      refine ownGo.st (fun _ k => XS.ifNo X0.here hx rfl (hb hby d8_5) rfl ((if0 _ _).trans (teq hc5).2) k) ?_
      show ownGo p.tables e below T0 (mkF m 8 #[.val (.int x0), .unset] []) _
      refine ownGo.st (fun _ k => XS.bipush X0.here hx rfl (hb hby d8_8)  k) ?_
      show ownGo p.tables e below T0 (mkF m 10 #[.val (.int x0), .unset] [(.int (32 : Int32))]) _
      refine ownGo.st (fun _ k => XS.goto X0.here hx rfl (pc0 := 10) (pc' := 14) rfl (hb hby d8_10) (by decide) (by decide) k) ?_
      show ownGo p.tables e below T0 (mkF m 14 #[.val (.int x0), .unset] [(.int (32 : Int32))]) _
      exact own_retI X0 hx hlk hret (hb hby d8_14) ⟨congrArg (fun z => some (Value.int z)) hr9.symm, N0, e0⟩ (Nat.le_refl _) (Nat.le_refl _)
    · have hr9 := hr4.trans (if_neg hc5)
      refine ownGo.st (fun _ k => XS.ifYes X0.here hx rfl (pc0 := 5) (pc' := 13) rfl (hb hby d8_5) rfl ((if0 _ _).trans (feq hc5).2) (by decide) (by decide) k) ?_
      show ownGo p.tables e below T0 (mkF m 13 #[.val (.int x0), .unset] []) _
      refine ownGo.st (fun _ k => XS.iconst X0.here hx rfl (hb hby d8_13)  k) ?_
      show ownGo p.tables e below T0 (mkF m 14 #[.val (.int x0), .unset] [(.int (0 : Int32))]) _
      exact own_retI X0 hx hlk hret (hb hby d8_14) ⟨congrArg (fun z => some (Value.int z)) hr9.symm, N0, e0⟩ (Nat.le_refl _) (Nat.le_refl _)
abbrev F8 (x0 : Int32) : Int32 := f8_0 x0
theorem pn_8 : plainName "java/lang/Integer" = true := by first | (simp [plainName, overriddenIn]; done) | decide +kernel
theorem ef_8 (m : MethodId) (x0 : Int32) : entryFrame m #[(.int x0)] 2 = mkF m 0 #[.val (.int x0), .unset] [] := by first | (simp [entryFrame, mkF, argsToLocals, Value.category]; done) | rfl
set_option maxRecDepth 65536 in
set_option maxHeartbeats 40000000 in
theorem rm8 (l : Launch) (Z : State) (a0 : Array Value) (hw : ∀ d ∈ tables_1, d.before a0 Z = true) (x0 : Int32) (h0 : Heap) (n0 : Nat)  :
    MetFree l (⟨"java/lang/Integer", "numberOfLeadingZeros", "(I)I"⟩ : MethodName) (head1 [Jvm.Cond.code (⟨"java/lang/Integer", "numberOfLeadingZeros", "(I)I"⟩ : MethodName) jdk_33_method_47_code 2 (some .int)] R8) (fun a U => a = #[(.int x0)] ∧ Z.Warmed39 U.vm ∧ U.heap = h0) (fun _ _ _ _ _ => True) (fun _ U o U' => ∃ v L, o = .returned v ∧ ownPure (.int (F8 x0)) h0 n0 v U'.heap L ∧ FrameEnd U o U' L R8.cells R8.slots) := by
  refine MetFree.of_bodySF (plainFor_of_name pn_8) hisR ?_
  intro p e s m args below meth c s₁ Bd hml0 hP hK
  obtain ⟨rfl, hZ, hh⟩ := hP
  have hx := Bd.exec
  have hby := Bd.bytes
  have hml : c.maxLocals = 2 := hml0
  have hown : s.vm.findClass "java/lang/Integer" = some m.cls := findClass_of_methodNamed Bd.named
  have hnm := (name_of_methodNamed Bd.named Bd.method).1
  have hret := Bd.returns
  have hlk : meth.locks = false := BodyLoose.notSynchronized Bd
  have X0 : Stand p l e R8 s m #[(.int x0)] below meth c s₁ [] 0 0 := Stand.of_body Bd
  have e0 : s₁.heap = h0 := by rw [← hh, Bd.state]; rfl
  have N0 := Fr.nil n0
  show ownGo p.tables e below s₁ (entryFrame m #[(.int x0)] 2) (ownDone s (ownPure (.int (F8 x0)) h0 n0) R8.cells R8.slots)
  rw [ef_8 m x0]
  exact b8_0 hx hZ hw hby hml hown hret hlk X0 e0 N0 x0 _ rfl
theorem d7_0 : decode jdk_35_method_48_code 0 = .ok (.lload_n 0, 1) := by decide +kernel
theorem d7_1 : decode jdk_35_method_48_code 1 = .ok (.bipush 32, 2) := by decide +kernel
theorem d7_3 : decode jdk_35_method_48_code 3 = .ok (.lushr, 1) := by decide +kernel
theorem d7_4 : decode jdk_35_method_48_code 4 = .ok (.l2i, 1) := by decide +kernel
theorem d7_5 : decode jdk_35_method_48_code 5 = .ok (.istore_n 2, 1) := by decide +kernel
theorem d7_6 : decode jdk_35_method_48_code 6 = .ok (.iload_n 2, 1) := by decide +kernel
theorem d7_7 : decode jdk_35_method_48_code 7 = .ok (.ifCond .ne 14, 3) := by decide +kernel
theorem d7_10 : decode jdk_35_method_48_code 10 = .ok (.bipush 32, 2) := by decide +kernel
theorem d7_12 : decode jdk_35_method_48_code 12 = .ok (.lload_n 0, 1) := by decide +kernel
theorem d7_13 : decode jdk_35_method_48_code 13 = .ok (.l2i, 1) := by decide +kernel
theorem d7_14 : decode jdk_35_method_48_code 14 = .ok (.invokestatic 308, 3) := by decide +kernel
theorem d7_17 : decode jdk_35_method_48_code 17 = .ok (.iadd, 1) := by decide +kernel
theorem d7_18 : decode jdk_35_method_48_code 18 = .ok (.goto 7, 3) := by decide +kernel
theorem d7_21 : decode jdk_35_method_48_code 21 = .ok (.iload_n 2, 1) := by decide +kernel
theorem d7_22 : decode jdk_35_method_48_code 22 = .ok (.invokestatic 308, 3) := by decide +kernel
theorem d7_25 : decode jdk_35_method_48_code 25 = .ok (.ireturn, 1) := by decide +kernel
theorem pd__I_I : parseMethodDescriptor "(I)I" = some ⟨[.int], some .int⟩ := by decide +kernel
abbrev R7 : Room := { frames := 1, cells := 0, slots := 0, locals := 14 }
def f7_0 (x0 : Int64) : Int32 := (if ((own_lushr x0 (32 : Int32)).toInt32) = (0 : Int32) then ((32 : Int32) + (F8 (x0.toInt32))) else (F8 ((own_lushr x0 (32 : Int32)).toInt32)))
set_option maxRecDepth 65536 in
set_option maxHeartbeats 40000000 in
theorem b7_0 {p : Program} {l : Launch} {e : Env} {s : State} {m : MethodId} {args : Array Value} {below : List Frame} {meth : Method} {c : Code} {T0 : State} {locs : List Loc} {Z : State} {a0 : Array Value} {h0 : Heap} {n0 : Nat} (hx : p.tables.exec = Jvm.exec) (hZ : Z.Warmed39 s.vm) (hw : ∀ d ∈ tables_1, d.before a0 Z = true) (hby : c.code = jdk_35_method_48_code) (hml : c.maxLocals = 3) (hown : s.vm.findClass "java/lang/Long" = some m.cls) (hret : meth.sig.returnType = (some .int)) (hlk : meth.locks = false) (X0 : Stand p l e R7 s m args below meth c T0 locs 0 0) (e0 : T0.heap = h0) (N0 : Fr n0 locs) (x0 : Int64) (r : Int32) (hr : r = f7_0 x0) :
    ownGo p.tables e below T0 (mkF m 0 #[.val (.long x0), .second, .unset] []) (ownDone s (ownPure (.int r) h0 n0) 0 0) := by
  have hr0 : r = (if ((own_lushr x0 (32 : Int32)).toInt32) = (0 : Int32) then ((32 : Int32) + (F8 (x0.toInt32))) else (F8 ((own_lushr x0 (32 : Int32)).toInt32))) := hr
  refine ownGo.st (fun _ k => XS.lloadN X0.here hx rfl (hb hby d7_0) rfl k) ?_
  show ownGo p.tables e below T0 (mkF m 1 #[.val (.long x0), .second, .unset] [(.long x0)]) _
  refine ownGo.st (fun _ k => XS.bipush X0.here hx rfl (hb hby d7_1)  k) ?_
  show ownGo p.tables e below T0 (mkF m 3 #[.val (.long x0), .second, .unset] [(.int (32 : Int32)), (.long x0)]) _
  refine ownGo.st (fun _ k => XS.lushr X0.here hx rfl (hb hby d7_3) rfl k) ?_
  show ownGo p.tables e below T0 (mkF m 4 #[.val (.long x0), .second, .unset] [(.long (own_lushr x0 (32 : Int32)))]) _
  refine ownGo.st (fun _ k => XS.l2i X0.here hx rfl (hb hby d7_4) rfl k) ?_
  show ownGo p.tables e below T0 (mkF m 5 #[.val (.long x0), .second, .unset] [(.int ((own_lushr x0 (32 : Int32)).toInt32))]) _
  refine ownGo.st (fun _ k => XS.istoreN X0.here hx rfl (hb hby d7_5) rfl (l' := #[.val (.long x0), .second, .val (.int ((own_lushr x0 (32 : Int32)).toInt32))]) rfl k) ?_
  show ownGo p.tables e below T0 (mkF m 6 #[.val (.long x0), .second, .val (.int ((own_lushr x0 (32 : Int32)).toInt32))] []) _
  refine ownGo.st (fun _ k => XS.iloadN X0.here hx rfl (hb hby d7_6) rfl k) ?_
  show ownGo p.tables e below T0 (mkF m 7 #[.val (.long x0), .second, .val (.int ((own_lushr x0 (32 : Int32)).toInt32))] [(.int ((own_lushr x0 (32 : Int32)).toInt32))]) _
  by_cases hc7 : ((own_lushr x0 (32 : Int32)).toInt32) = (0 : Int32)
  · have hr10 := hr0.trans (if_pos hc7)
    refine ownGo.st (fun _ k => XS.ifNo X0.here hx rfl (hb hby d7_7) rfl ((if0 _ _).trans (teq hc7).2) k) ?_
    show ownGo p.tables e below T0 (mkF m 10 #[.val (.long x0), .second, .val (.int ((own_lushr x0 (32 : Int32)).toInt32))] []) _
    refine ownGo.st (fun _ k => XS.bipush X0.here hx rfl (hb hby d7_10)  k) ?_
    show ownGo p.tables e below T0 (mkF m 12 #[.val (.long x0), .second, .val (.int ((own_lushr x0 (32 : Int32)).toInt32))] [(.int (32 : Int32))]) _
    refine ownGo.st (fun _ k => XS.lloadN X0.here hx rfl (hb hby d7_12) rfl k) ?_
    show ownGo p.tables e below T0 (mkF m 13 #[.val (.long x0), .second, .val (.int ((own_lushr x0 (32 : Int32)).toInt32))] [(.long x0), (.int (32 : Int32))]) _
    refine ownGo.st (fun _ k => XS.l2i X0.here hx rfl (hb hby d7_13) rfl k) ?_
    show ownGo p.tables e below T0 (mkF m 14 #[.val (.long x0), .second, .val (.int ((own_lushr x0 (32 : Int32)).toInt32))] [(.int (x0.toInt32)), (.int (32 : Int32))]) _
    obtain ⟨_, T11, L11, X11, hQ11, st11⟩ := own_callS X0 hx hZ hown (own_at hw 53 rfl) (own_at hw 54 rfl) (own_at hw 55 rfl) (own_at hw 56 rfl) (by decide) (rm8 l Z a0 hw (x0.toInt32) h0 n0) 1 (by decide) (by decide) e0 (by decide) (by decide) (g := (mkF m 14 #[.val (.long x0), .second, .val (.int ((own_lushr x0 (32 : Int32)).toInt32))] [(.int (x0.toInt32)), (.int (32 : Int32))])) rfl (by rw [hml]; rfl) (argsL := [(.int (x0.toInt32))]) (rest := [(.int (32 : Int32))]) (lenOf pd__I_I rfl) rfl (by show 2 * 0 + _ ≤ _; exact Nat.le_of_eq rfl) (hb hby d7_14)
    obtain ⟨rfl, N11q, e11⟩ := hQ11
    have N11 := Fr.app N0 N11q
    refine ownGo.st st11 ?_
    show ownGo p.tables e below T11 (mkF m 17 #[.val (.long x0), .second, .val (.int ((own_lushr x0 (32 : Int32)).toInt32))] [(.int (F8 (x0.toInt32))), (.int (32 : Int32))]) _
    refine ownGo.st (fun _ k => XS.iadd X11.here hx rfl (hb hby d7_17) rfl k) ?_
    show ownGo p.tables e below T11 (mkF m 18 #[.val (.long x0), .second, .val (.int ((own_lushr x0 (32 : Int32)).toInt32))] [(.int ((32 : Int32) + (F8 (x0.toInt32))))]) _
    refine ownGo.st (fun _ k => XS.goto X11.here hx rfl (pc0 := 18) (pc' := 25) rfl (hb hby d7_18) (by decide) (by decide) k) ?_
    show ownGo p.tables e below T11 (mkF m 25 #[.val (.long x0), .second, .val (.int ((own_lushr x0 (32 : Int32)).toInt32))] [(.int ((32 : Int32) + (F8 (x0.toInt32))))]) _
    exact own_retI X11 hx hlk hret (hb hby d7_25) ⟨congrArg (fun z => some (Value.int z)) hr10.symm, N11, e11⟩ (Nat.le_refl _) (Nat.le_refl _)
  · have hr10 := hr0.trans (if_neg hc7)
    refine ownGo.st (fun _ k => XS.ifYes X0.here hx rfl (pc0 := 7) (pc' := 21) rfl (hb hby d7_7) rfl ((if0 _ _).trans (feq hc7).2) (by decide) (by decide) k) ?_
    show ownGo p.tables e below T0 (mkF m 21 #[.val (.long x0), .second, .val (.int ((own_lushr x0 (32 : Int32)).toInt32))] []) _
    refine ownGo.st (fun _ k => XS.iloadN X0.here hx rfl (hb hby d7_21) rfl k) ?_
    show ownGo p.tables e below T0 (mkF m 22 #[.val (.long x0), .second, .val (.int ((own_lushr x0 (32 : Int32)).toInt32))] [(.int ((own_lushr x0 (32 : Int32)).toInt32))]) _
    obtain ⟨_, T12, L12, X12, hQ12, st12⟩ := own_callS X0 hx hZ hown (own_at hw 53 rfl) (own_at hw 54 rfl) (own_at hw 55 rfl) (own_at hw 56 rfl) (by decide) (rm8 l Z a0 hw ((own_lushr x0 (32 : Int32)).toInt32) h0 n0) 0 (by decide) (by decide) e0 (by decide) (by decide) (g := (mkF m 22 #[.val (.long x0), .second, .val (.int ((own_lushr x0 (32 : Int32)).toInt32))] [(.int ((own_lushr x0 (32 : Int32)).toInt32))])) rfl (by rw [hml]; rfl) (argsL := [(.int ((own_lushr x0 (32 : Int32)).toInt32))]) (rest := []) (lenOf pd__I_I rfl) rfl (by show 2 * 0 + _ ≤ _; exact Nat.le_of_eq rfl) (hb hby d7_22)
    obtain ⟨rfl, N12q, e12⟩ := hQ12
    have N12 := Fr.app N0 N12q
    refine ownGo.st st12 ?_
    show ownGo p.tables e below T12 (mkF m 25 #[.val (.long x0), .second, .val (.int ((own_lushr x0 (32 : Int32)).toInt32))] [(.int (F8 ((own_lushr x0 (32 : Int32)).toInt32)))]) _
    exact own_retI X12 hx hlk hret (hb hby d7_25) ⟨congrArg (fun z => some (Value.int z)) hr10.symm, N12, e12⟩ (Nat.le_refl _) (Nat.le_refl _)
abbrev F7 (x0 : Int64) : Int32 := f7_0 x0
theorem pn_7 : plainName "java/lang/Long" = true := by first | (simp [plainName, overriddenIn]; done) | decide +kernel
theorem ef_7 (m : MethodId) (x0 : Int64) : entryFrame m #[(.long x0)] 3 = mkF m 0 #[.val (.long x0), .second, .unset] [] := by first | (simp [entryFrame, mkF, argsToLocals, Value.category]; done) | rfl
set_option maxRecDepth 65536 in
set_option maxHeartbeats 40000000 in
theorem rm7 (l : Launch) (Z : State) (a0 : Array Value) (hw : ∀ d ∈ tables_1, d.before a0 Z = true) (x0 : Int64) (h0 : Heap) (n0 : Nat)  :
    MetFree l (⟨"java/lang/Long", "numberOfLeadingZeros", "(J)I"⟩ : MethodName) (head1 [Jvm.Cond.code (⟨"java/lang/Long", "numberOfLeadingZeros", "(J)I"⟩ : MethodName) jdk_35_method_48_code 3 (some .int)] R7) (fun a U => a = #[(.long x0)] ∧ Z.Warmed39 U.vm ∧ U.heap = h0) (fun _ _ _ _ _ => True) (fun _ U o U' => ∃ v L, o = .returned v ∧ ownPure (.int (F7 x0)) h0 n0 v U'.heap L ∧ FrameEnd U o U' L R7.cells R7.slots) := by
  refine MetFree.of_bodySF (plainFor_of_name pn_7) hisR ?_
  intro p e s m args below meth c s₁ Bd hml0 hP hK
  obtain ⟨rfl, hZ, hh⟩ := hP
  have hx := Bd.exec
  have hby := Bd.bytes
  have hml : c.maxLocals = 3 := hml0
  have hown : s.vm.findClass "java/lang/Long" = some m.cls := findClass_of_methodNamed Bd.named
  have hnm := (name_of_methodNamed Bd.named Bd.method).1
  have hret := Bd.returns
  have hlk : meth.locks = false := BodyLoose.notSynchronized Bd
  have X0 : Stand p l e R7 s m #[(.long x0)] below meth c s₁ [] 0 0 := Stand.of_body Bd
  have e0 : s₁.heap = h0 := by rw [← hh, Bd.state]; rfl
  have N0 := Fr.nil n0
  show ownGo p.tables e below s₁ (entryFrame m #[(.long x0)] 3) (ownDone s (ownPure (.int (F7 x0)) h0 n0) R7.cells R7.slots)
  rw [ef_7 m x0]
  exact b7_0 hx hZ hw hby hml hown hret hlk X0 e0 N0 x0 _ rfl
theorem d9_0 : decode jdk_29_method_65_code 0 = .ok (.iload_n 0, 1) := by decide +kernel
theorem d9_1 : decode jdk_29_method_65_code 1 = .ok (.iload_n 1, 1) := by decide +kernel
theorem d9_2 : decode jdk_29_method_65_code 2 = .ok (.if_icmp .lt 7, 3) := by decide +kernel
theorem d9_5 : decode jdk_29_method_65_code 5 = .ok (.iload_n 0, 1) := by decide +kernel
theorem d9_6 : decode jdk_29_method_65_code 6 = .ok (.goto 4, 3) := by decide +kernel
theorem d9_9 : decode jdk_29_method_65_code 9 = .ok (.iload_n 1, 1) := by decide +kernel
theorem d9_10 : decode jdk_29_method_65_code 10 = .ok (.ireturn, 1) := by decide +kernel
abbrev R9 : Room := { frames := 0, cells := 0, slots := 0, locals := 0 }
def f9_0 (x0 : Int32) (x1 : Int32) : Int32 := (if x0 < x1 then x1 else x0)
set_option maxRecDepth 65536 in
set_option maxHeartbeats 40000000 in
theorem b9_0 {p : Program} {l : Launch} {e : Env} {s : State} {m : MethodId} {args : Array Value} {below : List Frame} {meth : Method} {c : Code} {T0 : State} {locs : List Loc} {Z : State} {a0 : Array Value} {h0 : Heap} {n0 : Nat} (hx : p.tables.exec = Jvm.exec) (hZ : Z.Warmed39 s.vm) (hw : ∀ d ∈ tables_1, d.before a0 Z = true) (hby : c.code = jdk_29_method_65_code) (hml : c.maxLocals = 2) (hown : s.vm.findClass "java/lang/Math" = some m.cls) (hret : meth.sig.returnType = (some .int)) (hlk : meth.locks = false) (X0 : Stand p l e R9 s m args below meth c T0 locs 0 0) (e0 : T0.heap = h0) (N0 : Fr n0 locs) (x0 : Int32) (x1 : Int32) (r : Int32) (hr : r = f9_0 x0 x1) :
    ownGo p.tables e below T0 (mkF m 0 #[.val (.int x0), .val (.int x1)] []) (ownDone s (ownPure (.int r) h0 n0) 0 0) := by
  have hr0 : r = (if x0 < x1 then x1 else x0) := hr
  refine ownGo.st (fun _ k => XS.iloadN X0.here hx rfl (hb hby d9_0) rfl k) ?_
  show ownGo p.tables e below T0 (mkF m 1 #[.val (.int x0), .val (.int x1)] [(.int x0)]) _
  refine ownGo.st (fun _ k => XS.iloadN X0.here hx rfl (hb hby d9_1) rfl k) ?_
  show ownGo p.tables e below T0 (mkF m 2 #[.val (.int x0), .val (.int x1)] [(.int x1), (.int x0)]) _
  by_cases hc2 : x0 < x1
  · have hr13 := hr0.trans (if_pos hc2)
    refine ownGo.st (fun _ k => XS.icmpYes X0.here hx rfl (pc0 := 2) (pc' := 9) rfl (hb hby d9_2) rfl (tlt hc2).1 (by decide) (by decide) k) ?_
    show ownGo p.tables e below T0 (mkF m 9 #[.val (.int x0), .val (.int x1)] []) _
    refine ownGo.st (fun _ k => XS.iloadN X0.here hx rfl (hb hby d9_9) rfl k) ?_
    show ownGo p.tables e below T0 (mkF m 10 #[.val (.int x0), .val (.int x1)] [(.int x1)]) _
    exact own_retI X0 hx hlk hret (hb hby d9_10) ⟨congrArg (fun z => some (Value.int z)) hr13.symm, N0, e0⟩ (Nat.le_refl _) (Nat.le_refl _)
  · have hr13 := hr0.trans (if_neg hc2)
    refine ownGo.st (fun _ k => XS.icmpNo X0.here hx rfl (hb hby d9_2) rfl (flt hc2).1 k) ?_
    show ownGo p.tables e below T0 (mkF m 5 #[.val (.int x0), .val (.int x1)] []) _
    refine ownGo.st (fun _ k => XS.iloadN X0.here hx rfl (hb hby d9_5) rfl k) ?_
    show ownGo p.tables e below T0 (mkF m 6 #[.val (.int x0), .val (.int x1)] [(.int x0)]) _
    refine ownGo.st (fun _ k => XS.goto X0.here hx rfl (pc0 := 6) (pc' := 10) rfl (hb hby d9_6) (by decide) (by decide) k) ?_
    show ownGo p.tables e below T0 (mkF m 10 #[.val (.int x0), .val (.int x1)] [(.int x0)]) _
    exact own_retI X0 hx hlk hret (hb hby d9_10) ⟨congrArg (fun z => some (Value.int z)) hr13.symm, N0, e0⟩ (Nat.le_refl _) (Nat.le_refl _)
abbrev F9 (x0 : Int32) (x1 : Int32) : Int32 := f9_0 x0 x1
theorem ef_9 (m : MethodId) (x0 : Int32) (x1 : Int32) : entryFrame m #[(.int x0), (.int x1)] 2 = mkF m 0 #[.val (.int x0), .val (.int x1)] [] := by first | (simp [entryFrame, mkF, argsToLocals, Value.category]; done) | rfl
set_option maxRecDepth 65536 in
set_option maxHeartbeats 40000000 in
theorem rm9 (l : Launch) (Z : State) (a0 : Array Value) (hw : ∀ d ∈ tables_1, d.before a0 Z = true) (x0 : Int32) (x1 : Int32) (h0 : Heap) (n0 : Nat)  :
    MetFree l (⟨"java/lang/Math", "max", "(II)I"⟩ : MethodName) (head1 [Jvm.Cond.code (⟨"java/lang/Math", "max", "(II)I"⟩ : MethodName) jdk_29_method_65_code 2 (some .int)] R9) (fun a U => a = #[(.int x0), (.int x1)] ∧ Z.Warmed39 U.vm ∧ U.heap = h0) (fun _ _ _ _ _ => True) (fun _ U o U' => ∃ v L, o = .returned v ∧ ownPure (.int (F9 x0 x1)) h0 n0 v U'.heap L ∧ FrameEnd U o U' L R9.cells R9.slots) := by
  refine MetFree.of_bodySF (Jvm.Free.JP.mathPlain rfl (by decide +kernel)) hisR ?_
  intro p e s m args below meth c s₁ Bd hml0 hP hK
  obtain ⟨rfl, hZ, hh⟩ := hP
  have hx := Bd.exec
  have hby := Bd.bytes
  have hml : c.maxLocals = 2 := hml0
  have hown : s.vm.findClass "java/lang/Math" = some m.cls := findClass_of_methodNamed Bd.named
  have hnm := (name_of_methodNamed Bd.named Bd.method).1
  have hret := Bd.returns
  have hlk : meth.locks = false := BodyLoose.notSynchronized Bd
  have X0 : Stand p l e R9 s m #[(.int x0), (.int x1)] below meth c s₁ [] 0 0 := Stand.of_body Bd
  have e0 : s₁.heap = h0 := by rw [← hh, Bd.state]; rfl
  have N0 := Fr.nil n0
  show ownGo p.tables e below s₁ (entryFrame m #[(.int x0), (.int x1)] 2) (ownDone s (ownPure (.int (F9 x0 x1)) h0 n0) R9.cells R9.slots)
  rw [ef_9 m x0 x1]
  exact b9_0 hx hZ hw hby hml hown hret hlk X0 e0 N0 x0 x1 _ rfl
theorem own_ush (x : Int32) (q : Int32) (k : Nat) (hk : q.toBitVec.toNat % 32 = k) (h0 : 0 < k) (hx : 0 ≤ x.toInt) : (own_iushr x q).toInt = x.toInt / (2 ^ k : Nat) := by
  have e := c_iushr x q k hk h0
  have r := x.toInt_lt
  rw [e, Int.emod_eq_of_lt hx (by omega)]
theorem own_z73 (x n : Int32) (k : Nat) (hk : k < 2) (h1 : ((2 ^ k : Nat) : Int) ≤ x.toInt) (h2 : x.toInt < ((2 ^ (k + 1) : Nat) : Int)) : f8_73 x n = n - Int32.ofNat k := by
  have e := own_ush x 1 1 (by decide) (by decide) (by omega)
  have q : own_iushr x (1 : Int32) = Int32.ofNat k := by
    apply Int32.toInt_inj.mp
    rw [e, Int32.toInt_ofNat_of_lt (by omega)]
    have z : k = 0 ∨ k = 1 := by omega
    rcases z with rfl | rfl
    · simp at h1 h2; omega
    · simp at h1 h2; omega
  show n - own_iushr x (1 : Int32) = _
  rw [q]
theorem own_pow (k j : Nat) : (2 ^ (j + k) : Nat) = 2 ^ j * 2 ^ k := Nat.pow_add 2 j k
theorem own_lit {c : Int32} {z : Int} (h : c.toInt = z) (x : Int32) : x < c ↔ x.toInt < z := by rw [Int32.lt_iff_toInt_lt, h]
theorem own_subk (n : Int32) (k s : Nat) (c : Int32) (hc : c = -Int32.ofNat s) (h : s ≤ k) : (n + c) - Int32.ofNat (k - s) = n - Int32.ofNat k := by
  have e : Int32.ofNat k = Int32.ofNat (k - s) + Int32.ofNat s := by rw [← Int32.ofNat_add]; congr 1; omega
  rw [hc, e, ← Int32.sub_eq_add_neg]
  rw [Int32.sub_eq_add_neg, Int32.sub_eq_add_neg, Int32.sub_eq_add_neg, Int32.neg_add, Int32.add_assoc, Int32.add_comm (-Int32.ofNat s), Int32.sub_eq_add_neg]
theorem own_zs {f g : Int32 → Int32 → Int32} (s : Nat) (hs : 0 < s) (hs' : s ≤ 16) (B : Int32) (hB : B.toInt = ((2 ^ s : Nat) : Int)) (sh c : Int32) (hsh : sh.toBitVec.toNat % 32 = s) (hc : c = -Int32.ofNat s) (K : Nat) (hK : K ≤ s)
    (hg : ∀ (x n : Int32) (k : Nat), k < s → ((2 ^ k : Nat) : Int) ≤ x.toInt → x.toInt < ((2 ^ (k + 1) : Nat) : Int) → g x n = n - Int32.ofNat k) (hf : ∀ x n, f x n = if x < B then g x n else g (own_iushr x sh) (n + c))
    (x n : Int32) (k : Nat) (hk : k < s + K) (h1 : ((2 ^ k : Nat) : Int) ≤ x.toInt) (h2 : x.toInt < ((2 ^ (k + 1) : Nat) : Int)) : f x n = n - Int32.ofNat k := by
  have hp : (0 : Int) < ((2 ^ k : Nat) : Int) := by exact_mod_cast Nat.two_pow_pos k
  rw [hf]
  by_cases q : k < s
  · have : (2 ^ (k + 1) : Nat) ≤ 2 ^ s := Nat.pow_le_pow_right (by decide) (by omega)
    rw [if_pos ((own_lit hB x).mpr (by omega))]
    exact hg x n k q h1 h2
  · have : (2 ^ s : Nat) ≤ 2 ^ k := Nat.pow_le_pow_right (by decide) (by omega)
    rw [if_neg (fun z => by have := (own_lit hB x).mp z; omega)]
    have e := own_ush x sh s hsh hs (by omega)
    obtain ⟨j, rfl⟩ : ∃ j, k = j + s := ⟨k - s, by omega⟩
    have p1 := own_pow s j
    have p2 : (2 ^ (j + s + 1) : Nat) = 2 ^ (j + 1) * 2 ^ s := by rw [show j + s + 1 = (j + 1) + s by omega, own_pow]
    have ps : (0 : Int) < ((2 ^ s : Nat) : Int) := by exact_mod_cast Nat.two_pow_pos s
    rw [hg (own_iushr x sh) (n + c) j (by omega) ?_ ?_]
    · have := own_subk n (j + s) s c hc (by omega)
      rw [show j + s - s = j by omega] at this
      exact this
    · rw [e]
      apply Int.le_ediv_of_mul_le ps
      rw [p1] at h1
      exact_mod_cast h1
    · rw [e]
      apply Int.ediv_lt_of_lt_mul ps
      rw [p2] at h2
      exact_mod_cast h2
theorem own_z61 (x n : Int32) (k : Nat) (hk : k < 4) (h1 : ((2 ^ k : Nat) : Int) ≤ x.toInt) (h2 : x.toInt < ((2 ^ (k + 1) : Nat) : Int)) : f8_61 x n = n - Int32.ofNat k :=
  own_zs 2 (by decide) (by decide) 4 rfl 2 (-2) (by decide) (by decide) 2 (by decide) own_z73 (fun _ _ => rfl) x n k hk h1 h2
theorem own_z48 (x n : Int32) (k : Nat) (hk : k < 8) (h1 : ((2 ^ k : Nat) : Int) ≤ x.toInt) (h2 : x.toInt < ((2 ^ (k + 1) : Nat) : Int)) : f8_48 x n = n - Int32.ofNat k :=
  own_zs 4 (by decide) (by decide) 16 rfl 4 (-4) (by decide) (by decide) 4 (by decide) own_z61 (fun _ _ => rfl) x n k hk h1 h2
theorem own_z33 (x n : Int32) (k : Nat) (hk : k < 16) (h1 : ((2 ^ k : Nat) : Int) ≤ x.toInt) (h2 : x.toInt < ((2 ^ (k + 1) : Nat) : Int)) : f8_33 x n = n - Int32.ofNat k :=
  own_zs 8 (by decide) (by decide) 256 rfl 8 (-8) (by decide) (by decide) 8 (by decide) own_z48 (fun _ _ => rfl) x n k hk h1 h2
theorem own_z0 (x : Int32) (k : Nat) (hk : k < 31) (h1 : ((2 ^ k : Nat) : Int) ≤ x.toInt) (h2 : x.toInt < ((2 ^ (k + 1) : Nat) : Int)) : F8 x = (31 : Int32) - Int32.ofNat k := by
  have hp : (0 : Int) < ((2 ^ k : Nat) : Int) := by exact_mod_cast Nat.two_pow_pos k
  have q : F8 x = (if x < (65536 : Int32) then (f8_33 x (31 : Int32)) else (f8_33 (own_iushr x (16 : Int32)) ((31 : Int32) + (-16 : Int32)))) := if_pos (by rw [Int32.lt_iff_toInt_lt, show (0 : Int32).toInt = 0 from rfl]; omega)
  rw [q]
  exact own_zs (f := fun x n => if x < (65536 : Int32) then f8_33 x n else f8_33 (own_iushr x (16 : Int32)) (n + (-16 : Int32))) 16 (by decide) (by decide) 65536 rfl 16 (-16) (by decide) (by decide) 16 (by decide) own_z33 (fun _ _ => rfl) x 31 k (by omega) h1 h2
/-- kb is the number of bits of v, 0 to 32 -/
def ownBits (v : Int) (kb : Nat) : Prop := (v = 0 ∧ kb = 0) ∨ (1 ≤ kb ∧ kb ≤ 32 ∧ ((2 ^ (kb - 1) : Nat) : Int) ≤ v ∧ v < ((2 ^ kb : Nat) : Int))
theorem ownBits.rng {v : Int} {kb : Nat} (h : ownBits v kb) : 0 ≤ v ∧ v < 4294967296 ∧ kb ≤ 32 ∧ v < ((2 ^ kb : Nat) : Int) := by
  rcases h with ⟨rfl, rfl⟩ | ⟨h1, h2, h3, h4⟩
  · simp
  · have : (2 ^ kb : Nat) ≤ 2 ^ 32 := Nat.pow_le_pow_right (by decide) h2
    have h0 : (0 : Int) ≤ ((2 ^ (kb - 1) : Nat) : Int) := Int.natCast_nonneg _
    refine ⟨?_, ?_, h2, h4⟩ <;> omega
theorem own_hi0 (v : Int64) (h0 : 0 ≤ v.toInt) (h1 : v.toInt < 4294967296) : (own_lushr v (32 : Int32)).toInt32 = (0 : Int32) := by
  have e := c_lushr v 32 32 (by decide) (by decide)
  have q : own_lushr v (32 : Int32) = 0 := by
    apply Int64.toInt_inj.mp
    rw [e, Int.emod_eq_of_lt h0 (by omega), show (0 : Int64).toInt = 0 from rfl]
    exact Int.ediv_eq_zero_of_lt h0 (by rw [show ((2 ^ 32 : Nat) : Int) = 4294967296 from rfl]; exact h1)
  rw [q]; rfl
theorem own_nlz (v : Int64) (kb : Nat) (h : ownBits v.toInt kb) : (64 : Int32) - F7 v = Int32.ofNat kb := by
  have r := h.rng
  have q : F7 v = (32 : Int32) + F8 v.toInt32 := if_pos (own_hi0 v r.1 r.2.1)
  have ci := c_l2i v
  have r3 := v.toInt32.toInt_lt
  have r4 := v.toInt32.le_toInt
  rw [q]
  rcases h with ⟨h1, rfl⟩ | ⟨h1, h2, h3, h4⟩
  · have : v.toInt32 = 0 := by apply Int32.toInt_inj.mp; rw [show (0 : Int32).toInt = 0 from rfl]; omega
    rw [this]; rfl
  · by_cases z : kb = 32
    · subst z
      have e : F8 v.toInt32 = 0 := by
        have g1 : ¬ (0 : Int32) < v.toInt32 := by rw [Int32.lt_iff_toInt_lt, show (0 : Int32).toInt = 0 from rfl]; simp at h3 h4; omega
        have g2 : ¬ v.toInt32 = (0 : Int32) := fun z => by rw [z, show (0 : Int32).toInt = 0 from rfl] at ci; simp at h3 h4; omega
        exact (if_neg g1).trans (if_neg g2)
      rw [e]; rfl
    · have p : (2 ^ kb : Nat) ≤ 2 ^ 31 := Nat.pow_le_pow_right (by decide) (by omega)
      have hp : (0 : Int) < ((2 ^ (kb - 1) : Nat) : Int) := by exact_mod_cast Nat.two_pow_pos _
      have e : v.toInt32.toInt = v.toInt := by omega
      rw [own_z0 v.toInt32 (kb - 1) (by omega) (by rw [e]; exact h3) (by rw [e, show kb - 1 + 1 = kb by omega]; exact h4)]
      apply Int32.toInt_inj.mp
      have e1 := c_isub 31 (Int32.ofNat (kb - 1))
      have e2 := c_iadd 32 (31 - Int32.ofNat (kb - 1))
      have e3 := c_isub 64 (32 + (31 - Int32.ofNat (kb - 1)))
      have r5 := ((64 : Int32) - (32 + (31 - Int32.ofNat (kb - 1)))).toInt_lt
      have r6 := ((64 : Int32) - (32 + (31 - Int32.ofNat (kb - 1)))).le_toInt
      rw [Int32.toInt_ofNat_of_lt (by omega)] at *
      rw [show (31 : Int32).toInt = 31 from rfl] at e1
      rw [show (32 : Int32).toInt = 32 from rfl] at e2
      rw [show (64 : Int32).toInt = 64 from rfl] at e3
      omega
theorem own_bits_ex (v : Int) (h0 : 0 ≤ v) (h1 : v < 4294967296) : ∃ kb, ownBits v kb := by
  by_cases z : v = 0
  · exact ⟨0, Or.inl ⟨z, rfl⟩⟩
  · have e : ((v.toNat : Nat) : Int) = v := Int.toNat_of_nonneg h0
    have nz : v.toNat ≠ 0 := by omega
    have a1 := Nat.log2_self_le nz
    have a2 := Nat.lt_log2_self (n := v.toNat)
    have lt : v.toNat.log2 < 32 := (Nat.log2_lt nz).mpr (by omega)
    refine ⟨v.toNat.log2 + 1, Or.inr ⟨by omega, by omega, ?_, ?_⟩⟩
    · rw [Nat.add_sub_cancel, ← e]; exact_mod_cast a1
    · rw [← e]; exact_mod_cast a2
/-- the mask of k bits, as the layout reckons it -/
def own_mk (k : Nat) : Int64 := (own_lshl (1 : Int64) (Int32.ofNat k)) - (1 : Int64)
theorem own_k63 (k : Nat) (hk : k < 64) : ((Int32.ofNat k) &&& 0x3f).toInt64.toBitVec = BitVec.ofNat 64 k := by
  have h : ∀ k : Fin 64, ((Int32.ofNat k.1) &&& 0x3f).toInt64.toBitVec = BitVec.ofNat 64 k.1 := by decide +kernel
  exact h ⟨k, hk⟩
theorem own_smod (k : Nat) (hk : k < 64) : ((BitVec.ofNat 64 k).smod 64).toNat = k := by
  have h : ∀ k : Fin 64, ((BitVec.ofNat 64 k.1).smod 64).toNat = k.1 := by decide +kernel
  exact h ⟨k, hk⟩
theorem own_lshl_bv (x : Int64) (k : Nat) (hk : k < 64) : (own_lshl x (Int32.ofNat k)).toBitVec = x.toBitVec <<< k := by
  show (x <<< ((Int32.ofNat k) &&& 0x3f).toInt64).toBitVec = _
  rw [Int64.toBitVec_shiftLeft, own_k63 k hk, BitVec.shiftLeft_eq', own_smod k hk]
theorem own_lushr_bv' (x : Int64) (k : Nat) (hk : k < 64) : (own_lushr x (Int32.ofNat k)).toBitVec = x.toBitVec >>> k := by
  show (x.toUInt64 >>> ((Int32.ofNat k) &&& 0x3f).toInt64.toUInt64).toInt64.toBitVec = _
  have e : ((Int32.ofNat k) &&& 0x3f).toInt64.toUInt64.toBitVec = BitVec.ofNat 64 k := own_k63 k hk
  have e2 : (x.toUInt64 >>> ((Int32.ofNat k) &&& 0x3f).toInt64.toUInt64).toInt64.toBitVec = (x.toUInt64 >>> ((Int32.ofNat k) &&& 0x3f).toInt64.toUInt64).toBitVec := rfl
  rw [e2, UInt64.toBitVec_shiftRight, e]
  have e3 : (BitVec.ofNat 64 k % 64).toNat = k := by
    rw [BitVec.toNat_umod, BitVec.toNat_ofNat]; show k % 2 ^ 64 % 64 = k; omega
  rw [BitVec.ushiftRight_eq', e3]
  rfl
theorem own_mk_nat (k : Nat) (hk : k < 64) : (own_mk k).toBitVec.toNat = 2 ^ k - 1 := by
  have p1 : 0 < 2 ^ k := Nat.two_pow_pos k
  have p2 : 2 ^ k < 2 ^ 64 := Nat.pow_lt_pow_right (by decide) hk
  rw [own_mk, Int64.toBitVec_sub, own_lshl_bv 1 k hk]
  have e : ((1 : Int64).toBitVec <<< k).toNat = 2 ^ k := by
    rw [BitVec.toNat_shiftLeft, show (1 : Int64).toBitVec.toNat = 1 from rfl, Nat.shiftLeft_eq, Nat.one_mul, Nat.mod_eq_of_lt p2]
  rw [BitVec.toNat_sub, e, show (1 : Int64).toBitVec.toNat = 1 from rfl]
  omega
theorem own_mk_bit (k : Nat) (hk : k < 64) (j : Nat) : (own_mk k).toBitVec.getLsbD j = decide (j < k) := by
  rw [← BitVec.testBit_toNat, own_mk_nat k hk, Nat.testBit_two_pow_sub_one]
/-- v as a word of 64 bits, where v is not negative -/
theorem own_tonat (v : Int64) (h : 0 ≤ v.toInt) : ((v.toBitVec.toNat : Nat) : Int) = v.toInt := by
  have e : v.toInt = v.toBitVec.toInt := rfl
  have := v.toBitVec.isLt
  rw [e, BitVec.toInt_eq_toNat_cond] at h
  rw [e, BitVec.toInt_eq_toNat_cond]
  split at h <;> rename_i z
  · rw [if_pos z]
  · omega
def own_al (off kb : Nat) : Nat := if off % 64 + kb ≤ 64 then off else off + (64 - off % 64)
/-- how many bits the first i variables take, with what alignment leaves out -/
def own_off (kb : Nat → Nat) : Nat → Nat
  | 0 => 0
  | i + 1 => own_al (own_off kb i) (kb i) + kb i
def own_st (kb : Nat → Nat) (i : Nat) : Nat := own_al (own_off kb i) (kb i)
def own_wds (kb : Nat → Nat) (n : Nat) : Nat := if (own_off kb n + 63) / 64 ≤ 1 then 1 else (own_off kb n + 63) / 64
theorem own_al_le (off kb : Nat) : off ≤ own_al off kb ∧ own_al off kb ≤ off + 64 := by unfold own_al; split <;> omega
theorem own_off_le (kb : Nat → Nat) (n : Nat) (h : ∀ i, i < n → kb i ≤ 32) : ∀ i, i ≤ n → own_off kb i ≤ 96 * i
  | 0, _ => Nat.le_refl _
  | i + 1, hi => by
    have q := own_off_le kb n h i (by omega)
    have q2 := own_al_le (own_off kb i) (kb i)
    have q3 := h i (by omega)
    show own_al (own_off kb i) (kb i) + kb i ≤ _
    omega
theorem own_i32 {a : Nat} (h : a < 2147483648) : (Int32.ofNat a).toInt = a := Int32.toInt_ofNat_of_lt h
theorem own_rem64 {a : Nat} (h : a < 2147483648) : Int32.ofNat a % (64 : Int32) = Int32.ofNat (a % 64) := by
  apply Int32.toInt_inj.mp
  rw [(c_irem (Int32.ofNat a) 64 64 rfl).1 (by rw [own_i32 h]; omega), own_i32 h, own_i32 (by omega)]
  omega
theorem own_div64 {a : Nat} (h : a < 2147483648) : Int32.ofNat a / (64 : Int32) = Int32.ofNat (a / 64) := by
  apply Int32.toInt_inj.mp
  rw [(c_idiv (Int32.ofNat a) 64 64 rfl (by decide)).1 (by rw [own_i32 h]; omega), own_i32 h, own_i32 (by omega)]
  omega
theorem own_add {a b : Nat} : Int32.ofNat a + Int32.ofNat b = Int32.ofNat (a + b) := (Int32.ofNat_add a b).symm
theorem own_sub {a b : Nat} (q : b ≤ a) (hb : a < 2147483648) : Int32.ofNat a - Int32.ofNat b = Int32.ofNat (a - b) := by
  apply Int32.toInt_inj.mp
  have e := c_isub (Int32.ofNat a) (Int32.ofNat b)
  have r := (Int32.ofNat a - Int32.ofNat b).toInt_lt
  have r' := (Int32.ofNat a - Int32.ofNat b).le_toInt
  rw [own_i32 (by omega), own_i32 (by omega)] at e
  rw [own_i32 (by omega)]
  omega
theorem own_lt_iff {a b : Nat} (ha : a < 2147483648) (hb : b < 2147483648) : Int32.ofNat a < Int32.ofNat b ↔ a < b := by
  rw [Int32.lt_iff_toInt_lt, own_i32 ha, own_i32 hb]; omega
theorem own_eq_iff {a b : Nat} (ha : a < 2147483648) (hb : b < 2147483648) : Int32.ofNat a = Int32.ofNat b ↔ a = b := by
  rw [← Int32.toInt_inj, own_i32 ha, own_i32 hb]; omega
def ownTwo (s5 s6 : Slot) : Prop := (s5 = .unset ∧ s6 = .unset) ∨ ∃ z : Int64, s5 = .val (.long z) ∧ s6 = .second
theorem own_os5 {x0 x1 x2 : Addr} {o i : Int32} {v : Int64} {s5 s6 s7 : Slot} (q : ownTwo s5 s6) : storeLocals #[.val (.ref x0), .val (.ref x1), .val (.ref x2), .val (.int o), .val (.int i), s5, s6, s7] 5 (.long v) = some #[.val (.ref x0), .val (.ref x1), .val (.ref x2), .val (.int o), .val (.int i), .val (.long v), .second, s7] := by
  rcases q with ⟨rfl, rfl⟩ | ⟨z, rfl, rfl⟩ <;> rfl
theorem own_os7 {x0 x1 x2 : Addr} {o i v : Int32} {z : Int64} {s7 : Slot} (q : One s7) : storeLocals #[.val (.ref x0), .val (.ref x1), .val (.ref x2), .val (.int o), .val (.int i), .val (.long z), .second, s7] 7 (.int v) = some #[.val (.ref x0), .val (.ref x1), .val (.ref x2), .val (.int o), .val (.int i), .val (.long z), .second, .val (.int v)] := by
  rcases q with rfl | ⟨w, rfl, hw⟩
  · rfl
  · cases w <;> first | rfl | (simp [Value.category] at hw)
theorem own_upto {f : Nat → Value} {g : Nat → Value} {i : Nat} (h : ∀ j, j < i → f j = g j) : ∀ j, j < i + 1 → own_up f i (g i) j = g j := fun j hj => by
  by_cases q : j = i
  · subst q; exact own_up_hit
  · rw [own_up_miss q]; exact h j (by omega)
def ownLay (Z : State) (h : Heap) (A B o : Addr) (n : Nat) (lo : Nat → Int32) (kb : Nat → Nat) : Prop :=
  (A ≤ o ∧ o < B) ∧ Exa Z h o "com/example/ningbo/ningbo/engine/StateLayout" ∧ Fld Z h o "com/example/ningbo/ningbo/engine/StateLayout" "width" "I" (.int (Int32.ofNat n)) ∧ Fld Z h o "com/example/ningbo/ningbo/engine/StateLayout" "words" "I" (.int (Int32.ofNat (own_wds kb n))) ∧ ∃ lb w s k : Addr,
    (A ≤ lb ∧ lb < B) ∧ (A ≤ w ∧ w < B) ∧ (A ≤ s ∧ s < B) ∧ (A ≤ k ∧ k < B) ∧ Fld Z h o "com/example/ningbo/ningbo/engine/StateLayout" "lowerBounds" "[I" (.ref lb) ∧ Fld Z h o "com/example/ningbo/ningbo/engine/StateLayout" "wordOf" "[I" (.ref w) ∧ Fld Z h o "com/example/ningbo/ningbo/engine/StateLayout" "shiftOf" "[I" (.ref s) ∧ Fld Z h o "com/example/ningbo/ningbo/engine/StateLayout" "maskOf" "[J" (.ref k) ∧
    ownA Z h lb .int n (fun i => .int (lo i)) ∧ ownA Z h w .int n (fun i => .int (Int32.ofNat (own_st kb i / 64))) ∧ ownA Z h s .int n (fun i => .int (Int32.ofNat (own_st kb i % 64))) ∧ ownA Z h k .long n (fun i => .long (own_mk (kb i)))
theorem own_far {A B x t : Nat} (q : A ≤ x ∧ x < B) (r : t < A ∨ B ≤ t) : x ≠ t := by omega
theorem ownLay.keep {Z : State} {h h' : Heap} {A B o : Addr} {n : Nat} {lo : Nat → Int32} {kb : Nat → Nat} {ws : List Addr} (Y : ownLay Z h A B o n lo kb) (K : Keep h h' ws) (q : ∀ t ∈ ws, t < A ∨ B ≤ t) : ownLay Z h' A B o n lo kb := by
  obtain ⟨o1, E, F1, F2, lb, w, s, k, r1, r2, r3, r4, G1, G2, G3, G4, V1, V2, V3, V4⟩ := Y
  have ni : ∀ x, (A ≤ x ∧ x < B) → x ∉ ws := fun x hx hm => own_far hx (q x hm) rfl
  exact ⟨o1, E.keep K, F1.keep K (ni _ o1), F2.keep K (ni _ o1), lb, w, s, k, r1, r2, r3, r4, G1.keep K (ni _ o1), G2.keep K (ni _ o1), G3.keep K (ni _ o1), G4.keep K (ni _ o1), V1.keep K (ni _ r1), V2.keep K (ni _ r2), V3.keep K (ni _ r3), V4.keep K (ni _ r4)⟩
theorem ownLay.ext {Z : State} {h h' : Heap} {A B o : Addr} {n : Nat} {lo : Nat → Int32} {kb : Nat → Nat} (Y : ownLay Z h A B o n lo kb) (E : Ext h h') : ownLay Z h' A B o n lo kb :=
  Y.keep (ws := []) ((Keep.refl h []).ext E) (fun _ z => nomatch z)
theorem ownLay.wr {Z : State} {h h' : Heap} {A B o t : Addr} {n i : Nat} {v : Value} {lo : Nat → Int32} {kb : Nat → Nat} (Y : ownLay Z h A B o n lo kb) (W : Wr h h' t i v) (q : t < A ∨ B ≤ t) : ownLay Z h' A B o n lo kb :=
  Y.keep (Keep.of_wr W) (fun x hx => by cases List.mem_singleton.mp hx; exact q)
theorem ownLay.exa {Z : State} {h : Heap} {A B o : Addr} {n : Nat} {lo : Nat → Int32} {kb : Nat → Nat} (Y : ownLay Z h A B o n lo kb) : Exa Z h o "com/example/ningbo/ningbo/engine/StateLayout" := Y.2.1
theorem ownLay.lt {Z : State} {h : Heap} {A B o : Addr} {n : Nat} {lo : Nat → Int32} {kb : Nat → Nat} (Y : ownLay Z h A B o n lo kb) : o < h.size := Y.2.1.lt
theorem own_max1 (q : Nat) (h : q < 2147483648) : F9 (1 : Int32) (Int32.ofNat q) = Int32.ofNat (if q ≤ 1 then 1 else q) := by
  show (if Int32.ofNat 1 < Int32.ofNat q then Int32.ofNat q else (1 : Int32)) = _
  by_cases z : q ≤ 1
  · rw [if_neg (fun y => by have := (own_lt_iff (by decide) h).mp y; omega), if_pos z]; rfl
  · rw [if_pos ((own_lt_iff (by decide) h).mpr (by omega)), if_neg z]
def ownMade (Z : State) (x0 : Addr) (lo : Nat → Int32) (kb : Nat → Nat) (h0 : Heap) (n0 : Nat) (v : Option Value) (h : Heap) (L : List Loc) : Prop := v = none ∧ Fr n0 L ∧ Keep h0 h [x0] ∧ ownLay Z h x0 h.size x0 3 lo kb
theorem d5_0 : decode prog_49_method_1_code 0 = .ok (.aload_n 0, 1) := by decide +kernel
theorem d5_1 : decode prog_49_method_1_code 1 = .ok (.invokespecial 1, 3) := by decide +kernel
theorem d5_4 : decode prog_49_method_1_code 4 = .ok (.aload_n 0, 1) := by decide +kernel
theorem d5_5 : decode prog_49_method_1_code 5 = .ok (.aload_n 1, 1) := by decide +kernel
theorem d5_6 : decode prog_49_method_1_code 6 = .ok (.arraylength, 1) := by decide +kernel
theorem d5_7 : decode prog_49_method_1_code 7 = .ok (.putfield 7, 3) := by decide +kernel
theorem d5_10 : decode prog_49_method_1_code 10 = .ok (.aload_n 0, 1) := by decide +kernel
theorem d5_11 : decode prog_49_method_1_code 11 = .ok (.aload_n 1, 1) := by decide +kernel
theorem d5_12 : decode prog_49_method_1_code 12 = .ok (.invokevirtual 13, 3) := by decide +kernel
theorem d5_15 : decode prog_49_method_1_code 15 = .ok (.checkcast 14, 3) := by decide +kernel
theorem d5_18 : decode prog_49_method_1_code 18 = .ok (.putfield 19, 3) := by decide +kernel
theorem d5_21 : decode prog_49_method_1_code 21 = .ok (.aload_n 0, 1) := by decide +kernel
theorem d5_22 : decode prog_49_method_1_code 22 = .ok (.aload_n 0, 1) := by decide +kernel
theorem d5_23 : decode prog_49_method_1_code 23 = .ok (.getfield 7, 3) := by decide +kernel
theorem d5_26 : decode prog_49_method_1_code 26 = .ok (.newarray .int, 2) := by decide +kernel
theorem d5_28 : decode prog_49_method_1_code 28 = .ok (.putfield 22, 3) := by decide +kernel
theorem d5_31 : decode prog_49_method_1_code 31 = .ok (.aload_n 0, 1) := by decide +kernel
theorem d5_32 : decode prog_49_method_1_code 32 = .ok (.aload_n 0, 1) := by decide +kernel
theorem d5_33 : decode prog_49_method_1_code 33 = .ok (.getfield 7, 3) := by decide +kernel
theorem d5_36 : decode prog_49_method_1_code 36 = .ok (.newarray .int, 2) := by decide +kernel
theorem d5_38 : decode prog_49_method_1_code 38 = .ok (.putfield 25, 3) := by decide +kernel
theorem d5_41 : decode prog_49_method_1_code 41 = .ok (.aload_n 0, 1) := by decide +kernel
theorem d5_42 : decode prog_49_method_1_code 42 = .ok (.aload_n 0, 1) := by decide +kernel
theorem d5_43 : decode prog_49_method_1_code 43 = .ok (.getfield 7, 3) := by decide +kernel
theorem d5_46 : decode prog_49_method_1_code 46 = .ok (.newarray .long, 2) := by decide +kernel
theorem d5_48 : decode prog_49_method_1_code 48 = .ok (.putfield 28, 3) := by decide +kernel
theorem d5_51 : decode prog_49_method_1_code 51 = .ok (.iconst 0, 1) := by decide +kernel
theorem d5_52 : decode prog_49_method_1_code 52 = .ok (.istore_n 3, 1) := by decide +kernel
theorem d5_53 : decode prog_49_method_1_code 53 = .ok (.iconst 0, 1) := by decide +kernel
theorem d5_54 : decode prog_49_method_1_code 54 = .ok (.istore 4, 2) := by decide +kernel
theorem d5_56 : decode prog_49_method_1_code 56 = .ok (.iload 4, 2) := by decide +kernel
theorem d5_58 : decode prog_49_method_1_code 58 = .ok (.aload_n 0, 1) := by decide +kernel
theorem d5_59 : decode prog_49_method_1_code 59 = .ok (.getfield 7, 3) := by decide +kernel
theorem d5_62 : decode prog_49_method_1_code 62 = .ok (.if_icmp .ge 107, 3) := by decide +kernel
theorem d5_65 : decode prog_49_method_1_code 65 = .ok (.aload_n 2, 1) := by decide +kernel
theorem d5_66 : decode prog_49_method_1_code 66 = .ok (.iload 4, 2) := by decide +kernel
theorem d5_68 : decode prog_49_method_1_code 68 = .ok (.iaload, 1) := by decide +kernel
theorem d5_69 : decode prog_49_method_1_code 69 = .ok (.i2l, 1) := by decide +kernel
theorem d5_70 : decode prog_49_method_1_code 70 = .ok (.aload_n 1, 1) := by decide +kernel
theorem d5_71 : decode prog_49_method_1_code 71 = .ok (.iload 4, 2) := by decide +kernel
theorem d5_73 : decode prog_49_method_1_code 73 = .ok (.iaload, 1) := by decide +kernel
theorem d5_74 : decode prog_49_method_1_code 74 = .ok (.i2l, 1) := by decide +kernel
theorem d5_75 : decode prog_49_method_1_code 75 = .ok (.lsub, 1) := by decide +kernel
theorem d5_76 : decode prog_49_method_1_code 76 = .ok (.lstore 5, 2) := by decide +kernel
theorem d5_78 : decode prog_49_method_1_code 78 = .ok (.bipush 64, 2) := by decide +kernel
theorem d5_80 : decode prog_49_method_1_code 80 = .ok (.lload 5, 2) := by decide +kernel
theorem d5_82 : decode prog_49_method_1_code 82 = .ok (.invokestatic 32, 3) := by decide +kernel
theorem d5_85 : decode prog_49_method_1_code 85 = .ok (.isub, 1) := by decide +kernel
theorem d5_86 : decode prog_49_method_1_code 86 = .ok (.istore 7, 2) := by decide +kernel
theorem d5_88 : decode prog_49_method_1_code 88 = .ok (.iload_n 3, 1) := by decide +kernel
theorem d5_89 : decode prog_49_method_1_code 89 = .ok (.bipush 64, 2) := by decide +kernel
theorem d5_91 : decode prog_49_method_1_code 91 = .ok (.irem, 1) := by decide +kernel
theorem d5_92 : decode prog_49_method_1_code 92 = .ok (.iload 7, 2) := by decide +kernel
theorem d5_94 : decode prog_49_method_1_code 94 = .ok (.iadd, 1) := by decide +kernel
theorem d5_95 : decode prog_49_method_1_code 95 = .ok (.bipush 64, 2) := by decide +kernel
theorem d5_97 : decode prog_49_method_1_code 97 = .ok (.if_icmp .le 13, 3) := by decide +kernel
theorem d5_100 : decode prog_49_method_1_code 100 = .ok (.iload_n 3, 1) := by decide +kernel
theorem d5_101 : decode prog_49_method_1_code 101 = .ok (.bipush 64, 2) := by decide +kernel
theorem d5_103 : decode prog_49_method_1_code 103 = .ok (.iload_n 3, 1) := by decide +kernel
theorem d5_104 : decode prog_49_method_1_code 104 = .ok (.bipush 64, 2) := by decide +kernel
theorem d5_106 : decode prog_49_method_1_code 106 = .ok (.irem, 1) := by decide +kernel
theorem d5_107 : decode prog_49_method_1_code 107 = .ok (.isub, 1) := by decide +kernel
theorem d5_108 : decode prog_49_method_1_code 108 = .ok (.iadd, 1) := by decide +kernel
theorem d5_109 : decode prog_49_method_1_code 109 = .ok (.istore_n 3, 1) := by decide +kernel
theorem d5_110 : decode prog_49_method_1_code 110 = .ok (.aload_n 0, 1) := by decide +kernel
theorem d5_111 : decode prog_49_method_1_code 111 = .ok (.getfield 22, 3) := by decide +kernel
theorem d5_114 : decode prog_49_method_1_code 114 = .ok (.iload 4, 2) := by decide +kernel
theorem d5_116 : decode prog_49_method_1_code 116 = .ok (.iload_n 3, 1) := by decide +kernel
theorem d5_117 : decode prog_49_method_1_code 117 = .ok (.bipush 64, 2) := by decide +kernel
theorem d5_119 : decode prog_49_method_1_code 119 = .ok (.idiv, 1) := by decide +kernel
theorem d5_120 : decode prog_49_method_1_code 120 = .ok (.iastore, 1) := by decide +kernel
theorem d5_121 : decode prog_49_method_1_code 121 = .ok (.aload_n 0, 1) := by decide +kernel
theorem d5_122 : decode prog_49_method_1_code 122 = .ok (.getfield 25, 3) := by decide +kernel
theorem d5_125 : decode prog_49_method_1_code 125 = .ok (.iload 4, 2) := by decide +kernel
theorem d5_127 : decode prog_49_method_1_code 127 = .ok (.iload_n 3, 1) := by decide +kernel
theorem d5_128 : decode prog_49_method_1_code 128 = .ok (.bipush 64, 2) := by decide +kernel
theorem d5_130 : decode prog_49_method_1_code 130 = .ok (.irem, 1) := by decide +kernel
theorem d5_131 : decode prog_49_method_1_code 131 = .ok (.iastore, 1) := by decide +kernel
theorem d5_132 : decode prog_49_method_1_code 132 = .ok (.aload_n 0, 1) := by decide +kernel
theorem d5_133 : decode prog_49_method_1_code 133 = .ok (.getfield 28, 3) := by decide +kernel
theorem d5_136 : decode prog_49_method_1_code 136 = .ok (.iload 4, 2) := by decide +kernel
theorem d5_138 : decode prog_49_method_1_code 138 = .ok (.iload 7, 2) := by decide +kernel
theorem d5_140 : decode prog_49_method_1_code 140 = .ok (.bipush 64, 2) := by decide +kernel
theorem d5_142 : decode prog_49_method_1_code 142 = .ok (.if_icmp .ne 9, 3) := by decide +kernel
theorem d5_151 : decode prog_49_method_1_code 151 = .ok (.lconst 1, 1) := by decide +kernel
theorem d5_152 : decode prog_49_method_1_code 152 = .ok (.iload 7, 2) := by decide +kernel
theorem d5_154 : decode prog_49_method_1_code 154 = .ok (.lshl, 1) := by decide +kernel
theorem d5_155 : decode prog_49_method_1_code 155 = .ok (.lconst 1, 1) := by decide +kernel
theorem d5_156 : decode prog_49_method_1_code 156 = .ok (.lsub, 1) := by decide +kernel
theorem d5_157 : decode prog_49_method_1_code 157 = .ok (.lastore, 1) := by decide +kernel
theorem d5_158 : decode prog_49_method_1_code 158 = .ok (.iload_n 3, 1) := by decide +kernel
theorem d5_159 : decode prog_49_method_1_code 159 = .ok (.iload 7, 2) := by decide +kernel
theorem d5_161 : decode prog_49_method_1_code 161 = .ok (.iadd, 1) := by decide +kernel
theorem d5_162 : decode prog_49_method_1_code 162 = .ok (.istore_n 3, 1) := by decide +kernel
theorem d5_163 : decode prog_49_method_1_code 163 = .ok (.iinc 4 1, 3) := by decide +kernel
theorem d5_166 : decode prog_49_method_1_code 166 = .ok (.goto (-110), 3) := by decide +kernel
theorem d5_169 : decode prog_49_method_1_code 169 = .ok (.aload_n 0, 1) := by decide +kernel
theorem d5_170 : decode prog_49_method_1_code 170 = .ok (.iload_n 3, 1) := by decide +kernel
theorem d5_171 : decode prog_49_method_1_code 171 = .ok (.putfield 40, 3) := by decide +kernel
theorem d5_174 : decode prog_49_method_1_code 174 = .ok (.aload_n 0, 1) := by decide +kernel
theorem d5_175 : decode prog_49_method_1_code 175 = .ok (.iconst 1, 1) := by decide +kernel
theorem d5_176 : decode prog_49_method_1_code 176 = .ok (.iload_n 3, 1) := by decide +kernel
theorem d5_177 : decode prog_49_method_1_code 177 = .ok (.bipush 63, 2) := by decide +kernel
theorem d5_179 : decode prog_49_method_1_code 179 = .ok (.iadd, 1) := by decide +kernel
theorem d5_180 : decode prog_49_method_1_code 180 = .ok (.bipush 64, 2) := by decide +kernel
theorem d5_182 : decode prog_49_method_1_code 182 = .ok (.idiv, 1) := by decide +kernel
theorem d5_183 : decode prog_49_method_1_code 183 = .ok (.invokestatic 43, 3) := by decide +kernel
theorem d5_186 : decode prog_49_method_1_code 186 = .ok (.putfield 49, 3) := by decide +kernel
theorem d5_189 : decode prog_49_method_1_code 189 = .ok (.return_, 1) := by decide +kernel
theorem pd__II_I : parseMethodDescriptor "(II)I" = some ⟨[.int, .int], some .int⟩ := by decide +kernel
theorem pd__J_I : parseMethodDescriptor "(J)I" = some ⟨[.long], some .int⟩ := by decide +kernel
abbrev R5 : Room := { frames := 2, cells := 4, slots := 12, locals := 29 }
set_option maxRecDepth 65536 in
set_option maxHeartbeats 40000000 in
theorem own_loopC {p : Program} {l : Launch} {e : Env} {s : State} {m : MethodId} {args : Array Value} {below : List Frame} {meth : Method} {c : Code} {Z : State} {a0 : Array Value} {h0 : Heap} {n0 : Nat} (hx : p.tables.exec = Jvm.exec) (hZ : Z.Warmed39 s.vm) (hw : ∀ d ∈ tables_1, d.before a0 Z = true) (hby : c.code = prog_49_method_1_code) (hml : c.maxLocals = 8) (hown : s.vm.findClass "com/example/ningbo/ningbo/engine/StateLayout" = some m.cls) (hret : meth.sig.returnType = none) (hlk : meth.locks = false) (hnm : meth.name = "<init>") (x0 x1 x2 lb w sh k : Addr) (lo up : Nat → Int32) (kb : Nat → Nat) (hkb : ∀ i, i < 3 → ownBits ((up i).toInt64 - (lo i).toInt64).toInt (kb i)) (hk32 : ∀ i, i < 3 → kb i ≤ 32) (gz_x0 : n0 ≤ x0) (gx_lb : x0 ≤ lb) (gx_w : x0 ≤ w) (gx_sh : x0 ≤ sh) (gx_k : x0 ≤ k) (gz_w : n0 ≤ w) (gz_sh : n0 ≤ sh) (gz_k : n0 ≤ k) (sz_w : h0.size ≤ w) (sz_sh : h0.size ≤ sh) (sz_k : h0.size ≤ k) (ne_x0_x1 : x0 ≠ x1) (ne_x0_x2 : x0 ≠ x2) (ne_x0_lb : x0 ≠ lb) (ne_x0_w : x0 ≠ w) (ne_x0_sh : x0 ≠ sh) (ne_x0_k : x0 ≠ k) (ne_x1_lb : x1 ≠ lb) (ne_x1_w : x1 ≠ w) (ne_x1_sh : x1 ≠ sh) (ne_x1_k : x1 ≠ k) (ne_x2_lb : x2 ≠ lb) (ne_x2_w : x2 ≠ w) (ne_x2_sh : x2 ≠ sh) (ne_x2_k : x2 ≠ k) (ne_lb_w : lb ≠ w) (ne_lb_sh : lb ≠ sh) (ne_lb_k : lb ≠ k) (ne_w_sh : w ≠ sh) (ne_w_k : w ≠ k) (ne_sh_k : sh ≠ k) :
    ∀ (kk i : Nat), i + kk = 3 → ∀ (T0 : State) (h : Heap) (locs : List Loc) (fw fs fk : Nat → Value) (s5 s6 s7 : Slot), ownTwo s5 s6 → One s7 → Stand p l e R5 s m args below meth c T0 locs 4 12 → T0.heap = h → Fr n0 locs → n0 ≤ h.size → Keep h0 h [x0] → Exa Z h x0 "com/example/ningbo/ningbo/engine/StateLayout" → Fld Z h x0 "com/example/ningbo/ningbo/engine/StateLayout" "width" "I" (.int (3 : Int32)) → Fld Z h x0 "com/example/ningbo/ningbo/engine/StateLayout" "lowerBounds" "[I" (.ref lb) → Fld Z h x0 "com/example/ningbo/ningbo/engine/StateLayout" "wordOf" "[I" (.ref w) → Fld Z h x0 "com/example/ningbo/ningbo/engine/StateLayout" "shiftOf" "[I" (.ref sh) → Fld Z h x0 "com/example/ningbo/ningbo/engine/StateLayout" "maskOf" "[J" (.ref k) → Fld Z h x0 "com/example/ningbo/ningbo/engine/StateLayout" "bits" "I" (.int (0 : Int32)) → Fld Z h x0 "com/example/ningbo/ningbo/engine/StateLayout" "words" "I" (.int (0 : Int32)) → ownA Z h x1 .int 3 (fun i => .int (lo i)) → ownA Z h x2 .int 3 (fun i => .int (up i)) → ownA Z h lb .int 3 (fun i => .int (lo i)) →
      ownA Z h w .int 3 fw → (∀ j, j < i → fw j = .int (Int32.ofNat (own_st kb j / 64))) → ownA Z h sh .int 3 fs → (∀ j, j < i → fs j = .int (Int32.ofNat (own_st kb j % 64))) → ownA Z h k .long 3 fk → (∀ j, j < i → fk j = .long (own_mk (kb j))) →
      ownGo p.tables e below T0 (mkF m 56 #[.val (.ref x0), .val (.ref x1), .val (.ref x2), .val (.int (Int32.ofNat (own_off kb i))), .val (.int (Int32.ofNat i)), s5, s6, s7] []) (ownDone s (ownMade Z x0 lo kb h0 n0) R5.cells R5.slots) := by
  intro kk
  induction kk with
  | zero =>
    intro i hi T0 h locs fw fs fk s5 s6 s7 h56 h7 X0 e0 N0 Z1 K0 E0 F_width F_lowerBounds F_wordOf F_shiftOf F_maskOf F_bits F_words V1 V2 VL Vw hw_ Vs hs_ Vk hk_
    obtain rfl : i = 3 := by omega
    have ob := own_off_le kb 3 hk32 3 (Nat.le_refl _)
    refine ownGo.st (fun _ k => XS.iload X0.here hx rfl (hb hby d5_56) rfl k) ?_
    show ownGo p.tables e below T0 (mkF m 58 #[.val (.ref x0), .val (.ref x1), .val (.ref x2), .val (.int (Int32.ofNat (own_off kb 3))), .val (.int (Int32.ofNat 3)), s5, s6, s7] [(.int (Int32.ofNat 3))]) _
    refine ownGo.st (fun _ k => XS.aloadN X0.here hx rfl (hb hby d5_58) rfl rfl k) ?_
    show ownGo p.tables e below T0 (mkF m 59 #[.val (.ref x0), .val (.ref x1), .val (.ref x2), .val (.int (Int32.ofNat (own_off kb 3))), .val (.int (Int32.ofNat 3)), s5, s6, s7] [(.ref x0), (.int (Int32.ofNat 3))]) _
    obtain ⟨T14, X14, e14, st14⟩ := getF X0 hx hZ hown (host := "") (Or.inl (own_at hw 30 rfl)) Via.refl e0 F_width (g := (mkF m 59 #[.val (.ref x0), .val (.ref x1), .val (.ref x2), .val (.int (Int32.ofNat (own_off kb 3))), .val (.int (Int32.ofNat 3)), s5, s6, s7] [(.ref x0), (.int (Int32.ofNat 3))])) rfl rfl (hb hby d5_59)
    refine ownGo.st (st14) ?_
    show ownGo p.tables e below T14 (mkF m 62 #[.val (.ref x0), .val (.ref x1), .val (.ref x2), .val (.int (Int32.ofNat (own_off kb 3))), .val (.int (Int32.ofNat 3)), s5, s6, s7] [(.int (3 : Int32)), (.int (Int32.ofNat 3))]) _
    have hc15 : ¬ ((Int32.ofNat 3) < (3 : Int32)) := Int32.lt_irrefl
    refine ownGo.st (fun _ k => XS.icmpYes X14.here hx rfl (pc0 := 62) (pc' := 169) rfl (hb hby d5_62) rfl (flt hc15).2.1 (by decide) (by decide) k) ?_
    show ownGo p.tables e below T14 (mkF m 169 #[.val (.ref x0), .val (.ref x1), .val (.ref x2), .val (.int (Int32.ofNat (own_off kb 3))), .val (.int (Int32.ofNat 3)), s5, s6, s7] []) _
    refine ownGo.st (fun _ k => XS.aloadN X14.here hx rfl (hb hby d5_169) rfl rfl k) ?_
    show ownGo p.tables e below T14 (mkF m 170 #[.val (.ref x0), .val (.ref x1), .val (.ref x2), .val (.int (Int32.ofNat (own_off kb 3))), .val (.int (Int32.ofNat 3)), s5, s6, s7] [(.ref x0)]) _
    refine ownGo.st (fun _ k => XS.iloadN X14.here hx rfl (hb hby d5_170) rfl k) ?_
    show ownGo p.tables e below T14 (mkF m 171 #[.val (.ref x0), .val (.ref x1), .val (.ref x2), .val (.int (Int32.ofNat (own_off kb 3))), .val (.int (Int32.ofNat 3)), s5, s6, s7] [(.int (Int32.ofNat (own_off kb 3))), (.ref x0)]) _
    obtain ⟨T16, h16, X16, e16, W16, st16⟩ := putF X14 hx hZ hown (host := "") (Or.inl (own_at hw 58 rfl)) Via.refl e14 F_bits E0 (Or.inr ⟨(own_at hw 59 rfl), rfl, hnm⟩) (own_at hw 22 rfl) (ty := .int) (by decide) rfl rfl (g := (mkF m 171 #[.val (.ref x0), .val (.ref x1), .val (.ref x2), .val (.int (Int32.ofNat (own_off kb 3))), .val (.int (Int32.ofNat 3)), s5, s6, s7] [(.int (Int32.ofNat (own_off kb 3))), (.ref x0)])) rfl rfl (hb hby d5_171)
    have E0_17 := E0.wr W16
    have F_width_18 := F_width.other W16 (Or.inr (slot_ne (Or.inr (own_at hw 31 rfl)) (Or.inr (own_at hw 59 rfl)) (by decide) (t := .int) (t' := .int) (by decide) (by decide)))
    have F_lowerBounds_19 := F_lowerBounds.other W16 (Or.inr (slot_ne (Or.inr (own_at hw 42 rfl)) (Or.inr (own_at hw 59 rfl)) (by decide) (t := (.array .int)) (t' := .int) (by decide) (by decide)))
    have F_wordOf_20 := F_wordOf.other W16 (Or.inr (slot_ne (Or.inr (own_at hw 44 rfl)) (Or.inr (own_at hw 59 rfl)) (by decide) (t := (.array .int)) (t' := .int) (by decide) (by decide)))
    have F_shiftOf_21 := F_shiftOf.other W16 (Or.inr (slot_ne (Or.inr (own_at hw 46 rfl)) (Or.inr (own_at hw 59 rfl)) (by decide) (t := (.array .int)) (t' := .int) (by decide) (by decide)))
    have F_maskOf_22 := F_maskOf.other W16 (Or.inr (slot_ne (Or.inr (own_at hw 48 rfl)) (Or.inr (own_at hw 59 rfl)) (by decide) (t := (.array .long)) (t' := .int) (by decide) (by decide)))
    have F_bits_23 := F_bits.same W16
    have F_words_24 := F_words.other W16 (Or.inr (slot_ne (Or.inr (own_at hw 64 rfl)) (Or.inr (own_at hw 59 rfl)) (by decide) (t := .int) (t' := .int) (by decide) (by decide)))
    have V1_25 := V1.other W16 (Ne.symm ne_x0_x1)
    have V2_26 := V2.other W16 (Ne.symm ne_x0_x2)
    have VL_27 := VL.other W16 (Ne.symm ne_x0_lb)
    have Vw_28 := Vw.other W16 (Ne.symm ne_x0_w)
    have Vs_29 := Vs.other W16 (Ne.symm ne_x0_sh)
    have Vk_30 := Vk.other W16 (Ne.symm ne_x0_k)
    have N16 := Fr.snoc X16 N0 gz_x0
    have Z16 : n0 ≤ h16.size := Nat.le_trans Z1 (Nat.le_of_eq W16.size.symm)
    have K16 := K0.wr W16 (Or.inl (List.mem_singleton.mpr rfl))
    refine ownGo.st (st16) ?_
    show ownGo p.tables e below T16 (mkF m 174 #[.val (.ref x0), .val (.ref x1), .val (.ref x2), .val (.int (Int32.ofNat (own_off kb 3))), .val (.int (Int32.ofNat 3)), s5, s6, s7] []) _
    refine ownGo.st (fun _ k => XS.aloadN X16.here hx rfl (hb hby d5_174) rfl rfl k) ?_
    show ownGo p.tables e below T16 (mkF m 175 #[.val (.ref x0), .val (.ref x1), .val (.ref x2), .val (.int (Int32.ofNat (own_off kb 3))), .val (.int (Int32.ofNat 3)), s5, s6, s7] [(.ref x0)]) _
    refine ownGo.st (fun _ k => XS.iconst X16.here hx rfl (hb hby d5_175)  k) ?_
    show ownGo p.tables e below T16 (mkF m 176 #[.val (.ref x0), .val (.ref x1), .val (.ref x2), .val (.int (Int32.ofNat (own_off kb 3))), .val (.int (Int32.ofNat 3)), s5, s6, s7] [(.int (1 : Int32)), (.ref x0)]) _
    refine ownGo.st (fun _ k => XS.iloadN X16.here hx rfl (hb hby d5_176) rfl k) ?_
    show ownGo p.tables e below T16 (mkF m 177 #[.val (.ref x0), .val (.ref x1), .val (.ref x2), .val (.int (Int32.ofNat (own_off kb 3))), .val (.int (Int32.ofNat 3)), s5, s6, s7] [(.int (Int32.ofNat (own_off kb 3))), (.int (1 : Int32)), (.ref x0)]) _
    refine ownGo.st (fun _ k => XS.bipush X16.here hx rfl (hb hby d5_177)  k) ?_
    show ownGo p.tables e below T16 (mkF m 179 #[.val (.ref x0), .val (.ref x1), .val (.ref x2), .val (.int (Int32.ofNat (own_off kb 3))), .val (.int (Int32.ofNat 3)), s5, s6, s7] [(.int (63 : Int32)), (.int (Int32.ofNat (own_off kb 3))), (.int (1 : Int32)), (.ref x0)]) _
    refine ownGo.st (fun _ k => XS.iadd X16.here hx rfl (hb hby d5_179) rfl k) ?_
    show ownGo p.tables e below T16 (mkF m 180 #[.val (.ref x0), .val (.ref x1), .val (.ref x2), .val (.int (Int32.ofNat (own_off kb 3))), .val (.int (Int32.ofNat 3)), s5, s6, s7] [(.int ((Int32.ofNat (own_off kb 3)) + (63 : Int32))), (.int (1 : Int32)), (.ref x0)]) _
    rw [show Int32.ofNat (own_off kb 3) + (63 : Int32) = Int32.ofNat (own_off kb 3 + 63) from (Int32.ofNat_add _ 63).symm]
    show ownGo p.tables e below T16 (mkF m 180 #[.val (.ref x0), .val (.ref x1), .val (.ref x2), .val (.int (Int32.ofNat (own_off kb 3))), .val (.int (Int32.ofNat 3)), s5, s6, s7] [(.int (Int32.ofNat (own_off kb 3 + 63))), (.int (1 : Int32)), (.ref x0)]) _
    refine ownGo.st (fun _ k => XS.bipush X16.here hx rfl (hb hby d5_180)  k) ?_
    show ownGo p.tables e below T16 (mkF m 182 #[.val (.ref x0), .val (.ref x1), .val (.ref x2), .val (.int (Int32.ofNat (own_off kb 3))), .val (.int (Int32.ofNat 3)), s5, s6, s7] [(.int (64 : Int32)), (.int (Int32.ofNat (own_off kb 3 + 63))), (.int (1 : Int32)), (.ref x0)]) _
    refine ownGo.st (fun _ k => XS.idiv X16.here hx rfl (hb hby d5_182) rfl (by decide) k) ?_
    show ownGo p.tables e below T16 (mkF m 183 #[.val (.ref x0), .val (.ref x1), .val (.ref x2), .val (.int (Int32.ofNat (own_off kb 3))), .val (.int (Int32.ofNat 3)), s5, s6, s7] [(.int ((Int32.ofNat (own_off kb 3 + 63)) / (64 : Int32))), (.int (1 : Int32)), (.ref x0)]) _
    rw [own_div64 (by omega)]
    show ownGo p.tables e below T16 (mkF m 183 #[.val (.ref x0), .val (.ref x1), .val (.ref x2), .val (.int (Int32.ofNat (own_off kb 3))), .val (.int (Int32.ofNat 3)), s5, s6, s7] [(.int (Int32.ofNat ((own_off kb 3 + 63) / 64))), (.int (1 : Int32)), (.ref x0)]) _
    obtain ⟨_, T31, L31, X31, hQ31, st31⟩ := own_callS X16 hx hZ hown (own_at hw 60 rfl) (own_at hw 61 rfl) (own_at hw 12 rfl) (own_at hw 62 rfl) (by decide) (rm9 l Z a0 hw (1 : Int32) (Int32.ofNat ((own_off kb 3 + 63) / 64)) h16 n0) 1 (by decide) (by decide) e16 (by decide) (by decide) (g := (mkF m 183 #[.val (.ref x0), .val (.ref x1), .val (.ref x2), .val (.int (Int32.ofNat (own_off kb 3))), .val (.int (Int32.ofNat 3)), s5, s6, s7] [(.int (Int32.ofNat ((own_off kb 3 + 63) / 64))), (.int (1 : Int32)), (.ref x0)])) rfl (by rw [hml]; rfl) (argsL := [(.int (1 : Int32)), (.int (Int32.ofNat ((own_off kb 3 + 63) / 64)))]) (rest := [(.ref x0)]) (lenOf pd__II_I rfl) rfl (by show 2 * 0 + _ ≤ _; exact Nat.le_of_eq rfl) (hb hby d5_183)
    obtain ⟨rfl, N31q, e31⟩ := hQ31
    have N31 := Fr.app N16 N31q
    refine ownGo.st st31 ?_
    show ownGo p.tables e below T31 (mkF m 186 #[.val (.ref x0), .val (.ref x1), .val (.ref x2), .val (.int (Int32.ofNat (own_off kb 3))), .val (.int (Int32.ofNat 3)), s5, s6, s7] [(.int (F9 (1 : Int32) (Int32.ofNat ((own_off kb 3 + 63) / 64)))), (.ref x0)]) _
    rw [show F9 (1 : Int32) (Int32.ofNat ((own_off kb 3 + 63) / 64)) = Int32.ofNat (own_wds kb 3) from own_max1 _ (by omega)]
    show ownGo p.tables e below T31 (mkF m 186 #[.val (.ref x0), .val (.ref x1), .val (.ref x2), .val (.int (Int32.ofNat (own_off kb 3))), .val (.int (Int32.ofNat 3)), s5, s6, s7] [(.int (Int32.ofNat (own_wds kb 3))), (.ref x0)]) _
    obtain ⟨T32, h32, X32, e32, W32, st32⟩ := putF X31 hx hZ hown (host := "") (Or.inl (own_at hw 63 rfl)) Via.refl e31 F_words_24 E0_17 (Or.inr ⟨(own_at hw 64 rfl), rfl, hnm⟩) (own_at hw 22 rfl) (ty := .int) (by decide) rfl rfl (g := (mkF m 186 #[.val (.ref x0), .val (.ref x1), .val (.ref x2), .val (.int (Int32.ofNat (own_off kb 3))), .val (.int (Int32.ofNat 3)), s5, s6, s7] [(.int (Int32.ofNat (own_wds kb 3))), (.ref x0)])) rfl rfl (hb hby d5_186)
    have E0_33 := E0_17.wr W32
    have F_width_34 := F_width_18.other W32 (Or.inr (slot_ne (Or.inr (own_at hw 31 rfl)) (Or.inr (own_at hw 64 rfl)) (by decide) (t := .int) (t' := .int) (by decide) (by decide)))
    have F_lowerBounds_35 := F_lowerBounds_19.other W32 (Or.inr (slot_ne (Or.inr (own_at hw 42 rfl)) (Or.inr (own_at hw 64 rfl)) (by decide) (t := (.array .int)) (t' := .int) (by decide) (by decide)))
    have F_wordOf_36 := F_wordOf_20.other W32 (Or.inr (slot_ne (Or.inr (own_at hw 44 rfl)) (Or.inr (own_at hw 64 rfl)) (by decide) (t := (.array .int)) (t' := .int) (by decide) (by decide)))
    have F_shiftOf_37 := F_shiftOf_21.other W32 (Or.inr (slot_ne (Or.inr (own_at hw 46 rfl)) (Or.inr (own_at hw 64 rfl)) (by decide) (t := (.array .int)) (t' := .int) (by decide) (by decide)))
    have F_maskOf_38 := F_maskOf_22.other W32 (Or.inr (slot_ne (Or.inr (own_at hw 48 rfl)) (Or.inr (own_at hw 64 rfl)) (by decide) (t := (.array .long)) (t' := .int) (by decide) (by decide)))
    have F_bits_39 := F_bits_23.other W32 (Or.inr (slot_ne (Or.inr (own_at hw 59 rfl)) (Or.inr (own_at hw 64 rfl)) (by decide) (t := .int) (t' := .int) (by decide) (by decide)))
    have F_words_40 := F_words_24.same W32
    have V1_41 := V1_25.other W32 (Ne.symm ne_x0_x1)
    have V2_42 := V2_26.other W32 (Ne.symm ne_x0_x2)
    have VL_43 := VL_27.other W32 (Ne.symm ne_x0_lb)
    have Vw_44 := Vw_28.other W32 (Ne.symm ne_x0_w)
    have Vs_45 := Vs_29.other W32 (Ne.symm ne_x0_sh)
    have Vk_46 := Vk_30.other W32 (Ne.symm ne_x0_k)
    have N32 := Fr.snoc X32 N31 gz_x0
    have Z32 : n0 ≤ h32.size := Nat.le_trans Z16 (Nat.le_of_eq W32.size.symm)
    have K32 := K16.wr W32 (Or.inl (List.mem_singleton.mpr rfl))
    refine ownGo.st (st32) ?_
    show ownGo p.tables e below T32 (mkF m 189 #[.val (.ref x0), .val (.ref x1), .val (.ref x2), .val (.int (Int32.ofNat (own_off kb 3))), .val (.int (Int32.ofNat 3)), s5, s6, s7] []) _
    have Bq : ∀ y, y < h32.size → y < T32.heap.size := fun y hy => by rw [e32]; exact hy
    exact own_retV X32 hx hlk hret (hb hby d5_189) ⟨rfl, N32, by rw [e32]; exact K32, ⟨⟨Nat.le_refl _, Bq _ E0_33.lt⟩, (by rw [e32]; exact E0_33), (by rw [e32]; exact F_width_34), (by rw [e32]; exact F_words_40), lb, w, sh, k, ⟨gx_lb, Bq _ VL_43.lt⟩, ⟨gx_w, Bq _ Vw_44.lt⟩, ⟨gx_sh, Bq _ Vs_45.lt⟩, ⟨gx_k, Bq _ Vk_46.lt⟩, (by rw [e32]; exact F_lowerBounds_35), (by rw [e32]; exact F_wordOf_36), (by rw [e32]; exact F_shiftOf_37), (by rw [e32]; exact F_maskOf_38), (by rw [e32]; exact VL_43), ownA.eq (by rw [e32]; exact Vw_44) hw_, ownA.eq (by rw [e32]; exact Vs_45) hs_, ownA.eq (by rw [e32]; exact Vk_46) hk_⟩⟩ (by decide) (by decide)
  | succ kk ih =>
    intro i hi T0 h locs fw fs fk s5 s6 s7 h56 h7 X0 e0 N0 Z1 K0 E0 F_width F_lowerBounds F_wordOf F_shiftOf F_maskOf F_bits F_words V1 V2 VL Vw hw_ Vs hs_ Vk hk_
    have ob := own_off_le kb 3 hk32 i (by omega)
    have k32 := hk32 i (by omega)
    have al := own_al_le (own_off kb i) (kb i)
    refine ownGo.st (fun _ k => XS.iload X0.here hx rfl (hb hby d5_56) rfl k) ?_
    show ownGo p.tables e below T0 (mkF m 58 #[.val (.ref x0), .val (.ref x1), .val (.ref x2), .val (.int (Int32.ofNat (own_off kb i))), .val (.int (Int32.ofNat i)), s5, s6, s7] [(.int (Int32.ofNat i))]) _
    refine ownGo.st (fun _ k => XS.aloadN X0.here hx rfl (hb hby d5_58) rfl rfl k) ?_
    show ownGo p.tables e below T0 (mkF m 59 #[.val (.ref x0), .val (.ref x1), .val (.ref x2), .val (.int (Int32.ofNat (own_off kb i))), .val (.int (Int32.ofNat i)), s5, s6, s7] [(.ref x0), (.int (Int32.ofNat i))]) _
    obtain ⟨T47, X47, e47, st47⟩ := getF X0 hx hZ hown (host := "") (Or.inl (own_at hw 30 rfl)) Via.refl e0 F_width (g := (mkF m 59 #[.val (.ref x0), .val (.ref x1), .val (.ref x2), .val (.int (Int32.ofNat (own_off kb i))), .val (.int (Int32.ofNat i)), s5, s6, s7] [(.ref x0), (.int (Int32.ofNat i))])) rfl rfl (hb hby d5_59)
    refine ownGo.st (st47) ?_
    show ownGo p.tables e below T47 (mkF m 62 #[.val (.ref x0), .val (.ref x1), .val (.ref x2), .val (.int (Int32.ofNat (own_off kb i))), .val (.int (Int32.ofNat i)), s5, s6, s7] [(.int (3 : Int32)), (.int (Int32.ofNat i))]) _
    have hc48 : (Int32.ofNat i) < (3 : Int32) := own_ltn (n := 3) (by omega) (by decide)
    refine ownGo.st (fun _ k => XS.icmpNo X47.here hx rfl (hb hby d5_62) rfl (tlt hc48).2.1 k) ?_
    show ownGo p.tables e below T47 (mkF m 65 #[.val (.ref x0), .val (.ref x1), .val (.ref x2), .val (.int (Int32.ofNat (own_off kb i))), .val (.int (Int32.ofNat i)), s5, s6, s7] []) _
    refine ownGo.st (fun _ k => XS.aloadN X47.here hx rfl (hb hby d5_65) rfl rfl k) ?_
    show ownGo p.tables e below T47 (mkF m 66 #[.val (.ref x0), .val (.ref x1), .val (.ref x2), .val (.int (Int32.ofNat (own_off kb i))), .val (.int (Int32.ofNat i)), s5, s6, s7] [(.ref x2)]) _
    refine ownGo.st (fun _ k => XS.iload X47.here hx rfl (hb hby d5_66) rfl k) ?_
    show ownGo p.tables e below T47 (mkF m 68 #[.val (.ref x0), .val (.ref x1), .val (.ref x2), .val (.int (Int32.ofNat (own_off kb i))), .val (.int (Int32.ofNat i)), s5, s6, s7] [(.int (Int32.ofNat i)), (.ref x2)]) _
    refine ownGo.st (own_iaload X47 hx hZ e47 V2 (i := i) (v := (up i)) rfl (by omega) rfl (g := (mkF m 68 #[.val (.ref x0), .val (.ref x1), .val (.ref x2), .val (.int (Int32.ofNat (own_off kb i))), .val (.int (Int32.ofNat i)), s5, s6, s7] [(.int (Int32.ofNat i)), (.ref x2)])) rfl rfl (hb hby d5_68)) ?_
    show ownGo p.tables e below T47 (mkF m 69 #[.val (.ref x0), .val (.ref x1), .val (.ref x2), .val (.int (Int32.ofNat (own_off kb i))), .val (.int (Int32.ofNat i)), s5, s6, s7] [(.int (up i))]) _
    refine ownGo.st (fun _ k => XS.i2l X47.here hx rfl (hb hby d5_69) rfl k) ?_
    show ownGo p.tables e below T47 (mkF m 70 #[.val (.ref x0), .val (.ref x1), .val (.ref x2), .val (.int (Int32.ofNat (own_off kb i))), .val (.int (Int32.ofNat i)), s5, s6, s7] [(.long ((up i).toInt64))]) _
    refine ownGo.st (fun _ k => XS.aloadN X47.here hx rfl (hb hby d5_70) rfl rfl k) ?_
    show ownGo p.tables e below T47 (mkF m 71 #[.val (.ref x0), .val (.ref x1), .val (.ref x2), .val (.int (Int32.ofNat (own_off kb i))), .val (.int (Int32.ofNat i)), s5, s6, s7] [(.ref x1), (.long ((up i).toInt64))]) _
    refine ownGo.st (fun _ k => XS.iload X47.here hx rfl (hb hby d5_71) rfl k) ?_
    show ownGo p.tables e below T47 (mkF m 73 #[.val (.ref x0), .val (.ref x1), .val (.ref x2), .val (.int (Int32.ofNat (own_off kb i))), .val (.int (Int32.ofNat i)), s5, s6, s7] [(.int (Int32.ofNat i)), (.ref x1), (.long ((up i).toInt64))]) _
    refine ownGo.st (own_iaload X47 hx hZ e47 V1 (i := i) (v := (lo i)) rfl (by omega) rfl (g := (mkF m 73 #[.val (.ref x0), .val (.ref x1), .val (.ref x2), .val (.int (Int32.ofNat (own_off kb i))), .val (.int (Int32.ofNat i)), s5, s6, s7] [(.int (Int32.ofNat i)), (.ref x1), (.long ((up i).toInt64))])) rfl rfl (hb hby d5_73)) ?_
    show ownGo p.tables e below T47 (mkF m 74 #[.val (.ref x0), .val (.ref x1), .val (.ref x2), .val (.int (Int32.ofNat (own_off kb i))), .val (.int (Int32.ofNat i)), s5, s6, s7] [(.int (lo i)), (.long ((up i).toInt64))]) _
    refine ownGo.st (fun _ k => XS.i2l X47.here hx rfl (hb hby d5_74) rfl k) ?_
    show ownGo p.tables e below T47 (mkF m 75 #[.val (.ref x0), .val (.ref x1), .val (.ref x2), .val (.int (Int32.ofNat (own_off kb i))), .val (.int (Int32.ofNat i)), s5, s6, s7] [(.long ((lo i).toInt64)), (.long ((up i).toInt64))]) _
    refine ownGo.st (fun _ k => XS.lsub X47.here hx rfl (hb hby d5_75) rfl k) ?_
    show ownGo p.tables e below T47 (mkF m 76 #[.val (.ref x0), .val (.ref x1), .val (.ref x2), .val (.int (Int32.ofNat (own_off kb i))), .val (.int (Int32.ofNat i)), s5, s6, s7] [(.long (((up i).toInt64) - ((lo i).toInt64)))]) _
    refine ownGo.st (fun _ k => XS.lstore X47.here hx rfl (hb hby d5_76) rfl (l' := #[.val (.ref x0), .val (.ref x1), .val (.ref x2), .val (.int (Int32.ofNat (own_off kb i))), .val (.int (Int32.ofNat i)), .val (.long (((up i).toInt64) - ((lo i).toInt64))), .second, s7]) (own_os5 h56) k) ?_
    show ownGo p.tables e below T47 (mkF m 78 #[.val (.ref x0), .val (.ref x1), .val (.ref x2), .val (.int (Int32.ofNat (own_off kb i))), .val (.int (Int32.ofNat i)), .val (.long (((up i).toInt64) - ((lo i).toInt64))), .second, s7] []) _
    refine ownGo.st (fun _ k => XS.bipush X47.here hx rfl (hb hby d5_78)  k) ?_
    show ownGo p.tables e below T47 (mkF m 80 #[.val (.ref x0), .val (.ref x1), .val (.ref x2), .val (.int (Int32.ofNat (own_off kb i))), .val (.int (Int32.ofNat i)), .val (.long (((up i).toInt64) - ((lo i).toInt64))), .second, s7] [(.int (64 : Int32))]) _
    refine ownGo.st (fun _ k => XS.lload X47.here hx rfl (hb hby d5_80) rfl k) ?_
    show ownGo p.tables e below T47 (mkF m 82 #[.val (.ref x0), .val (.ref x1), .val (.ref x2), .val (.int (Int32.ofNat (own_off kb i))), .val (.int (Int32.ofNat i)), .val (.long (((up i).toInt64) - ((lo i).toInt64))), .second, s7] [(.long (((up i).toInt64) - ((lo i).toInt64))), (.int (64 : Int32))]) _
    obtain ⟨_, T49, L49, X49, hQ49, st49⟩ := own_callS X47 hx hZ hown (own_at hw 49 rfl) (own_at hw 50 rfl) (own_at hw 51 rfl) (own_at hw 52 rfl) (by decide) (rm7 l Z a0 hw (((up i).toInt64) - ((lo i).toInt64)) h n0) 1 (by decide) (by decide) e47 (by decide) (by decide) (g := (mkF m 82 #[.val (.ref x0), .val (.ref x1), .val (.ref x2), .val (.int (Int32.ofNat (own_off kb i))), .val (.int (Int32.ofNat i)), .val (.long (((up i).toInt64) - ((lo i).toInt64))), .second, s7] [(.long (((up i).toInt64) - ((lo i).toInt64))), (.int (64 : Int32))])) rfl (by rw [hml]; rfl) (argsL := [(.long (((up i).toInt64) - ((lo i).toInt64)))]) (rest := [(.int (64 : Int32))]) (lenOf pd__J_I rfl) rfl (by show 2 * 0 + _ ≤ _; exact Nat.le_of_eq rfl) (hb hby d5_82)
    obtain ⟨rfl, N49q, e49⟩ := hQ49
    have N49 := Fr.app N0 N49q
    refine ownGo.st st49 ?_
    show ownGo p.tables e below T49 (mkF m 85 #[.val (.ref x0), .val (.ref x1), .val (.ref x2), .val (.int (Int32.ofNat (own_off kb i))), .val (.int (Int32.ofNat i)), .val (.long (((up i).toInt64) - ((lo i).toInt64))), .second, s7] [(.int (F7 (((up i).toInt64) - ((lo i).toInt64)))), (.int (64 : Int32))]) _
    refine ownGo.st (fun _ k => XS.isub X49.here hx rfl (hb hby d5_85) rfl k) ?_
    show ownGo p.tables e below T49 (mkF m 86 #[.val (.ref x0), .val (.ref x1), .val (.ref x2), .val (.int (Int32.ofNat (own_off kb i))), .val (.int (Int32.ofNat i)), .val (.long (((up i).toInt64) - ((lo i).toInt64))), .second, s7] [(.int ((64 : Int32) - (F7 (((up i).toInt64) - ((lo i).toInt64)))))]) _
    rw [own_nlz _ (kb i) (hkb i (by omega))]
    show ownGo p.tables e below T49 (mkF m 86 #[.val (.ref x0), .val (.ref x1), .val (.ref x2), .val (.int (Int32.ofNat (own_off kb i))), .val (.int (Int32.ofNat i)), .val (.long (((up i).toInt64) - ((lo i).toInt64))), .second, s7] [(.int (Int32.ofNat (kb i)))]) _
    refine ownGo.st (fun _ k => XS.istore X49.here hx rfl (hb hby d5_86) rfl (l' := #[.val (.ref x0), .val (.ref x1), .val (.ref x2), .val (.int (Int32.ofNat (own_off kb i))), .val (.int (Int32.ofNat i)), .val (.long (((up i).toInt64) - ((lo i).toInt64))), .second, .val (.int (Int32.ofNat (kb i)))]) (own_os7 h7) k) ?_
    show ownGo p.tables e below T49 (mkF m 88 #[.val (.ref x0), .val (.ref x1), .val (.ref x2), .val (.int (Int32.ofNat (own_off kb i))), .val (.int (Int32.ofNat i)), .val (.long (((up i).toInt64) - ((lo i).toInt64))), .second, .val (.int (Int32.ofNat (kb i)))] []) _
    have J50 : ∀ G, ownGo p.tables e below T49 (mkF m 110 #[.val (.ref x0), .val (.ref x1), .val (.ref x2), .val (.int (Int32.ofNat (own_st kb i))), .val (.int (Int32.ofNat i)), .val (.long (((up i).toInt64) - ((lo i).toInt64))), .second, .val (.int (Int32.ofNat (kb i)))] []) G → ownGo p.tables e below T49 (mkF m 88 #[.val (.ref x0), .val (.ref x1), .val (.ref x2), .val (.int (Int32.ofNat (own_off kb i))), .val (.int (Int32.ofNat i)), .val (.long (((up i).toInt64) - ((lo i).toInt64))), .second, .val (.int (Int32.ofNat (kb i)))] []) G := by
      intro G kk
      refine ownGo.st (fun _ k => XS.iloadN X49.here hx rfl (hb hby d5_88) rfl k) ?_
      show ownGo p.tables e below T49 (mkF m 89 #[.val (.ref x0), .val (.ref x1), .val (.ref x2), .val (.int (Int32.ofNat (own_off kb i))), .val (.int (Int32.ofNat i)), .val (.long (((up i).toInt64) - ((lo i).toInt64))), .second, .val (.int (Int32.ofNat (kb i)))] [(.int (Int32.ofNat (own_off kb i)))]) _
      refine ownGo.st (fun _ k => XS.bipush X49.here hx rfl (hb hby d5_89)  k) ?_
      show ownGo p.tables e below T49 (mkF m 91 #[.val (.ref x0), .val (.ref x1), .val (.ref x2), .val (.int (Int32.ofNat (own_off kb i))), .val (.int (Int32.ofNat i)), .val (.long (((up i).toInt64) - ((lo i).toInt64))), .second, .val (.int (Int32.ofNat (kb i)))] [(.int (64 : Int32)), (.int (Int32.ofNat (own_off kb i)))]) _
      refine ownGo.st (fun _ k => iremM X49 hx rfl (hb hby d5_91) rfl (by decide) k) ?_
      show ownGo p.tables e below T49 (mkF m 92 #[.val (.ref x0), .val (.ref x1), .val (.ref x2), .val (.int (Int32.ofNat (own_off kb i))), .val (.int (Int32.ofNat i)), .val (.long (((up i).toInt64) - ((lo i).toInt64))), .second, .val (.int (Int32.ofNat (kb i)))] [(.int ((Int32.ofNat (own_off kb i)) % (64 : Int32)))]) _
      rw [own_rem64 (by omega)]
      show ownGo p.tables e below T49 (mkF m 92 #[.val (.ref x0), .val (.ref x1), .val (.ref x2), .val (.int (Int32.ofNat (own_off kb i))), .val (.int (Int32.ofNat i)), .val (.long (((up i).toInt64) - ((lo i).toInt64))), .second, .val (.int (Int32.ofNat (kb i)))] [(.int (Int32.ofNat (own_off kb i % 64)))]) _
      refine ownGo.st (fun _ k => XS.iload X49.here hx rfl (hb hby d5_92) rfl k) ?_
      show ownGo p.tables e below T49 (mkF m 94 #[.val (.ref x0), .val (.ref x1), .val (.ref x2), .val (.int (Int32.ofNat (own_off kb i))), .val (.int (Int32.ofNat i)), .val (.long (((up i).toInt64) - ((lo i).toInt64))), .second, .val (.int (Int32.ofNat (kb i)))] [(.int (Int32.ofNat (kb i))), (.int (Int32.ofNat (own_off kb i % 64)))]) _
      refine ownGo.st (fun _ k => XS.iadd X49.here hx rfl (hb hby d5_94) rfl k) ?_
      show ownGo p.tables e below T49 (mkF m 95 #[.val (.ref x0), .val (.ref x1), .val (.ref x2), .val (.int (Int32.ofNat (own_off kb i))), .val (.int (Int32.ofNat i)), .val (.long (((up i).toInt64) - ((lo i).toInt64))), .second, .val (.int (Int32.ofNat (kb i)))] [(.int ((Int32.ofNat (own_off kb i % 64)) + (Int32.ofNat (kb i))))]) _
      rw [← Int32.ofNat_add]
      show ownGo p.tables e below T49 (mkF m 95 #[.val (.ref x0), .val (.ref x1), .val (.ref x2), .val (.int (Int32.ofNat (own_off kb i))), .val (.int (Int32.ofNat i)), .val (.long (((up i).toInt64) - ((lo i).toInt64))), .second, .val (.int (Int32.ofNat (kb i)))] [(.int (Int32.ofNat (own_off kb i % 64 + kb i)))]) _
      refine ownGo.st (fun _ k => XS.bipush X49.here hx rfl (hb hby d5_95)  k) ?_
      show ownGo p.tables e below T49 (mkF m 97 #[.val (.ref x0), .val (.ref x1), .val (.ref x2), .val (.int (Int32.ofNat (own_off kb i))), .val (.int (Int32.ofNat i)), .val (.long (((up i).toInt64) - ((lo i).toInt64))), .second, .val (.int (Int32.ofNat (kb i)))] [(.int (64 : Int32)), (.int (Int32.ofNat (own_off kb i % 64 + kb i)))]) _
      by_cases ha : (64 : Int32) < (Int32.ofNat (own_off kb i % 64 + kb i))
      · refine ownGo.st (fun _ k => XS.icmpNo X49.here hx rfl (hb hby d5_97) rfl (tlt ha).2.2.2 k) ?_
        show ownGo p.tables e below T49 (mkF m 100 #[.val (.ref x0), .val (.ref x1), .val (.ref x2), .val (.int (Int32.ofNat (own_off kb i))), .val (.int (Int32.ofNat i)), .val (.long (((up i).toInt64) - ((lo i).toInt64))), .second, .val (.int (Int32.ofNat (kb i)))] []) _
        refine ownGo.st (fun _ k => XS.iloadN X49.here hx rfl (hb hby d5_100) rfl k) ?_
        show ownGo p.tables e below T49 (mkF m 101 #[.val (.ref x0), .val (.ref x1), .val (.ref x2), .val (.int (Int32.ofNat (own_off kb i))), .val (.int (Int32.ofNat i)), .val (.long (((up i).toInt64) - ((lo i).toInt64))), .second, .val (.int (Int32.ofNat (kb i)))] [(.int (Int32.ofNat (own_off kb i)))]) _
        refine ownGo.st (fun _ k => XS.bipush X49.here hx rfl (hb hby d5_101)  k) ?_
        show ownGo p.tables e below T49 (mkF m 103 #[.val (.ref x0), .val (.ref x1), .val (.ref x2), .val (.int (Int32.ofNat (own_off kb i))), .val (.int (Int32.ofNat i)), .val (.long (((up i).toInt64) - ((lo i).toInt64))), .second, .val (.int (Int32.ofNat (kb i)))] [(.int (64 : Int32)), (.int (Int32.ofNat (own_off kb i)))]) _
        refine ownGo.st (fun _ k => XS.iloadN X49.here hx rfl (hb hby d5_103) rfl k) ?_
        show ownGo p.tables e below T49 (mkF m 104 #[.val (.ref x0), .val (.ref x1), .val (.ref x2), .val (.int (Int32.ofNat (own_off kb i))), .val (.int (Int32.ofNat i)), .val (.long (((up i).toInt64) - ((lo i).toInt64))), .second, .val (.int (Int32.ofNat (kb i)))] [(.int (Int32.ofNat (own_off kb i))), (.int (64 : Int32)), (.int (Int32.ofNat (own_off kb i)))]) _
        refine ownGo.st (fun _ k => XS.bipush X49.here hx rfl (hb hby d5_104)  k) ?_
        show ownGo p.tables e below T49 (mkF m 106 #[.val (.ref x0), .val (.ref x1), .val (.ref x2), .val (.int (Int32.ofNat (own_off kb i))), .val (.int (Int32.ofNat i)), .val (.long (((up i).toInt64) - ((lo i).toInt64))), .second, .val (.int (Int32.ofNat (kb i)))] [(.int (64 : Int32)), (.int (Int32.ofNat (own_off kb i))), (.int (64 : Int32)), (.int (Int32.ofNat (own_off kb i)))]) _
        refine ownGo.st (fun _ k => iremM X49 hx rfl (hb hby d5_106) rfl (by decide) k) ?_
        show ownGo p.tables e below T49 (mkF m 107 #[.val (.ref x0), .val (.ref x1), .val (.ref x2), .val (.int (Int32.ofNat (own_off kb i))), .val (.int (Int32.ofNat i)), .val (.long (((up i).toInt64) - ((lo i).toInt64))), .second, .val (.int (Int32.ofNat (kb i)))] [(.int ((Int32.ofNat (own_off kb i)) % (64 : Int32))), (.int (64 : Int32)), (.int (Int32.ofNat (own_off kb i)))]) _
        rw [own_rem64 (by omega)]
        show ownGo p.tables e below T49 (mkF m 107 #[.val (.ref x0), .val (.ref x1), .val (.ref x2), .val (.int (Int32.ofNat (own_off kb i))), .val (.int (Int32.ofNat i)), .val (.long (((up i).toInt64) - ((lo i).toInt64))), .second, .val (.int (Int32.ofNat (kb i)))] [(.int (Int32.ofNat (own_off kb i % 64))), (.int (64 : Int32)), (.int (Int32.ofNat (own_off kb i)))]) _
        refine ownGo.st (fun _ k => XS.isub X49.here hx rfl (hb hby d5_107) rfl k) ?_
        show ownGo p.tables e below T49 (mkF m 108 #[.val (.ref x0), .val (.ref x1), .val (.ref x2), .val (.int (Int32.ofNat (own_off kb i))), .val (.int (Int32.ofNat i)), .val (.long (((up i).toInt64) - ((lo i).toInt64))), .second, .val (.int (Int32.ofNat (kb i)))] [(.int ((64 : Int32) - (Int32.ofNat (own_off kb i % 64)))), (.int (Int32.ofNat (own_off kb i)))]) _
        rw [show (64 : Int32) - Int32.ofNat (own_off kb i % 64) = Int32.ofNat (64 - own_off kb i % 64) from own_sub (a := 64) (by omega) (by decide)]
        show ownGo p.tables e below T49 (mkF m 108 #[.val (.ref x0), .val (.ref x1), .val (.ref x2), .val (.int (Int32.ofNat (own_off kb i))), .val (.int (Int32.ofNat i)), .val (.long (((up i).toInt64) - ((lo i).toInt64))), .second, .val (.int (Int32.ofNat (kb i)))] [(.int (Int32.ofNat (64 - own_off kb i % 64))), (.int (Int32.ofNat (own_off kb i)))]) _
        refine ownGo.st (fun _ k => XS.iadd X49.here hx rfl (hb hby d5_108) rfl k) ?_
        show ownGo p.tables e below T49 (mkF m 109 #[.val (.ref x0), .val (.ref x1), .val (.ref x2), .val (.int (Int32.ofNat (own_off kb i))), .val (.int (Int32.ofNat i)), .val (.long (((up i).toInt64) - ((lo i).toInt64))), .second, .val (.int (Int32.ofNat (kb i)))] [(.int ((Int32.ofNat (own_off kb i)) + (Int32.ofNat (64 - own_off kb i % 64))))]) _
        rw [← Int32.ofNat_add]
        show ownGo p.tables e below T49 (mkF m 109 #[.val (.ref x0), .val (.ref x1), .val (.ref x2), .val (.int (Int32.ofNat (own_off kb i))), .val (.int (Int32.ofNat i)), .val (.long (((up i).toInt64) - ((lo i).toInt64))), .second, .val (.int (Int32.ofNat (kb i)))] [(.int (Int32.ofNat (own_off kb i + (64 - own_off kb i % 64))))]) _
        refine ownGo.st (fun _ k => XS.istoreN X49.here hx rfl (hb hby d5_109) rfl (l' := #[.val (.ref x0), .val (.ref x1), .val (.ref x2), .val (.int (Int32.ofNat (own_off kb i + (64 - own_off kb i % 64)))), .val (.int (Int32.ofNat i)), .val (.long (((up i).toInt64) - ((lo i).toInt64))), .second, .val (.int (Int32.ofNat (kb i)))]) rfl k) ?_
        show ownGo p.tables e below T49 (mkF m 110 #[.val (.ref x0), .val (.ref x1), .val (.ref x2), .val (.int (Int32.ofNat (own_off kb i + (64 - own_off kb i % 64)))), .val (.int (Int32.ofNat i)), .val (.long (((up i).toInt64) - ((lo i).toInt64))), .second, .val (.int (Int32.ofNat (kb i)))] []) _
        have e : own_st kb i = own_off kb i + (64 - own_off kb i % 64) := if_neg (fun y => by have := (own_lt_iff (a := 64) (by decide) (by omega)).mp ha; omega)
        rw [e] at kk
        exact kk
      · refine ownGo.st (fun _ k => XS.icmpYes X49.here hx rfl (pc0 := 97) (pc' := 110) rfl (hb hby d5_97) rfl (flt ha).2.2.2 (by decide) (by decide) k) ?_
        show ownGo p.tables e below T49 (mkF m 110 #[.val (.ref x0), .val (.ref x1), .val (.ref x2), .val (.int (Int32.ofNat (own_off kb i))), .val (.int (Int32.ofNat i)), .val (.long (((up i).toInt64) - ((lo i).toInt64))), .second, .val (.int (Int32.ofNat (kb i)))] []) _
        have e : own_st kb i = own_off kb i := if_pos (Nat.le_of_not_lt fun y => ha ((own_lt_iff (a := 64) (by decide) (by omega)).mpr y))
        rw [e] at kk
        exact kk
    refine J50 _ ?_
    show ownGo p.tables e below T49 (mkF m 110 #[.val (.ref x0), .val (.ref x1), .val (.ref x2), .val (.int (Int32.ofNat (own_st kb i))), .val (.int (Int32.ofNat i)), .val (.long (((up i).toInt64) - ((lo i).toInt64))), .second, .val (.int (Int32.ofNat (kb i)))] []) _
    have al : own_off kb i ≤ own_st kb i ∧ own_st kb i ≤ own_off kb i + 64 := own_al_le _ _
    refine ownGo.st (fun _ k => XS.aloadN X49.here hx rfl (hb hby d5_110) rfl rfl k) ?_
    show ownGo p.tables e below T49 (mkF m 111 #[.val (.ref x0), .val (.ref x1), .val (.ref x2), .val (.int (Int32.ofNat (own_st kb i))), .val (.int (Int32.ofNat i)), .val (.long (((up i).toInt64) - ((lo i).toInt64))), .second, .val (.int (Int32.ofNat (kb i)))] [(.ref x0)]) _
    obtain ⟨T51, X51, e51, st51⟩ := getF X49 hx hZ hown (host := "") (Or.inl (own_at hw 43 rfl)) Via.refl e49 F_wordOf (g := (mkF m 111 #[.val (.ref x0), .val (.ref x1), .val (.ref x2), .val (.int (Int32.ofNat (own_st kb i))), .val (.int (Int32.ofNat i)), .val (.long (((up i).toInt64) - ((lo i).toInt64))), .second, .val (.int (Int32.ofNat (kb i)))] [(.ref x0)])) rfl rfl (hb hby d5_111)
    refine ownGo.st (st51) ?_
    show ownGo p.tables e below T51 (mkF m 114 #[.val (.ref x0), .val (.ref x1), .val (.ref x2), .val (.int (Int32.ofNat (own_st kb i))), .val (.int (Int32.ofNat i)), .val (.long (((up i).toInt64) - ((lo i).toInt64))), .second, .val (.int (Int32.ofNat (kb i)))] [(.ref w)]) _
    refine ownGo.st (fun _ k => XS.iload X51.here hx rfl (hb hby d5_114) rfl k) ?_
    show ownGo p.tables e below T51 (mkF m 116 #[.val (.ref x0), .val (.ref x1), .val (.ref x2), .val (.int (Int32.ofNat (own_st kb i))), .val (.int (Int32.ofNat i)), .val (.long (((up i).toInt64) - ((lo i).toInt64))), .second, .val (.int (Int32.ofNat (kb i)))] [(.int (Int32.ofNat i)), (.ref w)]) _
    refine ownGo.st (fun _ k => XS.iloadN X51.here hx rfl (hb hby d5_116) rfl k) ?_
    show ownGo p.tables e below T51 (mkF m 117 #[.val (.ref x0), .val (.ref x1), .val (.ref x2), .val (.int (Int32.ofNat (own_st kb i))), .val (.int (Int32.ofNat i)), .val (.long (((up i).toInt64) - ((lo i).toInt64))), .second, .val (.int (Int32.ofNat (kb i)))] [(.int (Int32.ofNat (own_st kb i))), (.int (Int32.ofNat i)), (.ref w)]) _
    refine ownGo.st (fun _ k => XS.bipush X51.here hx rfl (hb hby d5_117)  k) ?_
    show ownGo p.tables e below T51 (mkF m 119 #[.val (.ref x0), .val (.ref x1), .val (.ref x2), .val (.int (Int32.ofNat (own_st kb i))), .val (.int (Int32.ofNat i)), .val (.long (((up i).toInt64) - ((lo i).toInt64))), .second, .val (.int (Int32.ofNat (kb i)))] [(.int (64 : Int32)), (.int (Int32.ofNat (own_st kb i))), (.int (Int32.ofNat i)), (.ref w)]) _
    refine ownGo.st (fun _ k => XS.idiv X51.here hx rfl (hb hby d5_119) rfl (by decide) k) ?_
    show ownGo p.tables e below T51 (mkF m 120 #[.val (.ref x0), .val (.ref x1), .val (.ref x2), .val (.int (Int32.ofNat (own_st kb i))), .val (.int (Int32.ofNat i)), .val (.long (((up i).toInt64) - ((lo i).toInt64))), .second, .val (.int (Int32.ofNat (kb i)))] [(.int ((Int32.ofNat (own_st kb i)) / (64 : Int32))), (.int (Int32.ofNat i)), (.ref w)]) _
    rw [own_div64 (by omega)]
    show ownGo p.tables e below T51 (mkF m 120 #[.val (.ref x0), .val (.ref x1), .val (.ref x2), .val (.int (Int32.ofNat (own_st kb i))), .val (.int (Int32.ofNat i)), .val (.long (((up i).toInt64) - ((lo i).toInt64))), .second, .val (.int (Int32.ofNat (kb i)))] [(.int (Int32.ofNat (own_st kb i / 64))), (.int (Int32.ofNat i)), (.ref w)]) _
    obtain ⟨T52, h52, X52, e52, W52, V_w_52, st52⟩ := own_iastore X51 hx hZ e51 Vw (i := i) rfl (by omega) (g := (mkF m 120 #[.val (.ref x0), .val (.ref x1), .val (.ref x2), .val (.int (Int32.ofNat (own_st kb i))), .val (.int (Int32.ofNat i)), .val (.long (((up i).toInt64) - ((lo i).toInt64))), .second, .val (.int (Int32.ofNat (kb i)))] [(.int (Int32.ofNat (own_st kb i / 64))), (.int (Int32.ofNat i)), (.ref w)])) rfl rfl (hb hby d5_120)
    have E0_53 := E0.wr W52
    have F_width_54 := F_width.other W52 (Or.inl ne_x0_w)
    have F_lowerBounds_55 := F_lowerBounds.other W52 (Or.inl ne_x0_w)
    have F_wordOf_56 := F_wordOf.other W52 (Or.inl ne_x0_w)
    have F_shiftOf_57 := F_shiftOf.other W52 (Or.inl ne_x0_w)
    have F_maskOf_58 := F_maskOf.other W52 (Or.inl ne_x0_w)
    have F_bits_59 := F_bits.other W52 (Or.inl ne_x0_w)
    have F_words_60 := F_words.other W52 (Or.inl ne_x0_w)
    have V1_61 := V1.other W52 ne_x1_w
    have V2_62 := V2.other W52 ne_x2_w
    have VL_63 := VL.other W52 ne_lb_w
    have Vs_64 := Vs.other W52 (Ne.symm ne_w_sh)
    have Vk_65 := Vk.other W52 (Ne.symm ne_w_k)
    have N52 := Fr.snoc X52 N49 gz_w
    have Z52 : n0 ≤ h52.size := Nat.le_trans Z1 (Nat.le_of_eq W52.size.symm)
    have K52 := K0.wr W52 (Or.inr sz_w)
    refine ownGo.st (st52) ?_
    show ownGo p.tables e below T52 (mkF m 121 #[.val (.ref x0), .val (.ref x1), .val (.ref x2), .val (.int (Int32.ofNat (own_st kb i))), .val (.int (Int32.ofNat i)), .val (.long (((up i).toInt64) - ((lo i).toInt64))), .second, .val (.int (Int32.ofNat (kb i)))] []) _
    refine ownGo.st (fun _ k => XS.aloadN X52.here hx rfl (hb hby d5_121) rfl rfl k) ?_
    show ownGo p.tables e below T52 (mkF m 122 #[.val (.ref x0), .val (.ref x1), .val (.ref x2), .val (.int (Int32.ofNat (own_st kb i))), .val (.int (Int32.ofNat i)), .val (.long (((up i).toInt64) - ((lo i).toInt64))), .second, .val (.int (Int32.ofNat (kb i)))] [(.ref x0)]) _
    obtain ⟨T66, X66, e66, st66⟩ := getF X52 hx hZ hown (host := "") (Or.inl (own_at hw 45 rfl)) Via.refl e52 F_shiftOf_57 (g := (mkF m 122 #[.val (.ref x0), .val (.ref x1), .val (.ref x2), .val (.int (Int32.ofNat (own_st kb i))), .val (.int (Int32.ofNat i)), .val (.long (((up i).toInt64) - ((lo i).toInt64))), .second, .val (.int (Int32.ofNat (kb i)))] [(.ref x0)])) rfl rfl (hb hby d5_122)
    refine ownGo.st (st66) ?_
    show ownGo p.tables e below T66 (mkF m 125 #[.val (.ref x0), .val (.ref x1), .val (.ref x2), .val (.int (Int32.ofNat (own_st kb i))), .val (.int (Int32.ofNat i)), .val (.long (((up i).toInt64) - ((lo i).toInt64))), .second, .val (.int (Int32.ofNat (kb i)))] [(.ref sh)]) _
    refine ownGo.st (fun _ k => XS.iload X66.here hx rfl (hb hby d5_125) rfl k) ?_
    show ownGo p.tables e below T66 (mkF m 127 #[.val (.ref x0), .val (.ref x1), .val (.ref x2), .val (.int (Int32.ofNat (own_st kb i))), .val (.int (Int32.ofNat i)), .val (.long (((up i).toInt64) - ((lo i).toInt64))), .second, .val (.int (Int32.ofNat (kb i)))] [(.int (Int32.ofNat i)), (.ref sh)]) _
    refine ownGo.st (fun _ k => XS.iloadN X66.here hx rfl (hb hby d5_127) rfl k) ?_
    show ownGo p.tables e below T66 (mkF m 128 #[.val (.ref x0), .val (.ref x1), .val (.ref x2), .val (.int (Int32.ofNat (own_st kb i))), .val (.int (Int32.ofNat i)), .val (.long (((up i).toInt64) - ((lo i).toInt64))), .second, .val (.int (Int32.ofNat (kb i)))] [(.int (Int32.ofNat (own_st kb i))), (.int (Int32.ofNat i)), (.ref sh)]) _
    refine ownGo.st (fun _ k => XS.bipush X66.here hx rfl (hb hby d5_128)  k) ?_
    show ownGo p.tables e below T66 (mkF m 130 #[.val (.ref x0), .val (.ref x1), .val (.ref x2), .val (.int (Int32.ofNat (own_st kb i))), .val (.int (Int32.ofNat i)), .val (.long (((up i).toInt64) - ((lo i).toInt64))), .second, .val (.int (Int32.ofNat (kb i)))] [(.int (64 : Int32)), (.int (Int32.ofNat (own_st kb i))), (.int (Int32.ofNat i)), (.ref sh)]) _
    refine ownGo.st (fun _ k => iremM X66 hx rfl (hb hby d5_130) rfl (by decide) k) ?_
    show ownGo p.tables e below T66 (mkF m 131 #[.val (.ref x0), .val (.ref x1), .val (.ref x2), .val (.int (Int32.ofNat (own_st kb i))), .val (.int (Int32.ofNat i)), .val (.long (((up i).toInt64) - ((lo i).toInt64))), .second, .val (.int (Int32.ofNat (kb i)))] [(.int ((Int32.ofNat (own_st kb i)) % (64 : Int32))), (.int (Int32.ofNat i)), (.ref sh)]) _
    rw [own_rem64 (by omega)]
    show ownGo p.tables e below T66 (mkF m 131 #[.val (.ref x0), .val (.ref x1), .val (.ref x2), .val (.int (Int32.ofNat (own_st kb i))), .val (.int (Int32.ofNat i)), .val (.long (((up i).toInt64) - ((lo i).toInt64))), .second, .val (.int (Int32.ofNat (kb i)))] [(.int (Int32.ofNat (own_st kb i % 64))), (.int (Int32.ofNat i)), (.ref sh)]) _
    obtain ⟨T67, h67, X67, e67, W67, V_sh_67, st67⟩ := own_iastore X66 hx hZ e66 Vs_64 (i := i) rfl (by omega) (g := (mkF m 131 #[.val (.ref x0), .val (.ref x1), .val (.ref x2), .val (.int (Int32.ofNat (own_st kb i))), .val (.int (Int32.ofNat i)), .val (.long (((up i).toInt64) - ((lo i).toInt64))), .second, .val (.int (Int32.ofNat (kb i)))] [(.int (Int32.ofNat (own_st kb i % 64))), (.int (Int32.ofNat i)), (.ref sh)])) rfl rfl (hb hby d5_131)
    have E0_68 := E0_53.wr W67
    have F_width_69 := F_width_54.other W67 (Or.inl ne_x0_sh)
    have F_lowerBounds_70 := F_lowerBounds_55.other W67 (Or.inl ne_x0_sh)
    have F_wordOf_71 := F_wordOf_56.other W67 (Or.inl ne_x0_sh)
    have F_shiftOf_72 := F_shiftOf_57.other W67 (Or.inl ne_x0_sh)
    have F_maskOf_73 := F_maskOf_58.other W67 (Or.inl ne_x0_sh)
    have F_bits_74 := F_bits_59.other W67 (Or.inl ne_x0_sh)
    have F_words_75 := F_words_60.other W67 (Or.inl ne_x0_sh)
    have V1_76 := V1_61.other W67 ne_x1_sh
    have V2_77 := V2_62.other W67 ne_x2_sh
    have VL_78 := VL_63.other W67 ne_lb_sh
    have V_w_79 := V_w_52.other W67 ne_w_sh
    have Vk_80 := Vk_65.other W67 (Ne.symm ne_sh_k)
    have N67 := Fr.snoc X67 N52 gz_sh
    have Z67 : n0 ≤ h67.size := Nat.le_trans Z52 (Nat.le_of_eq W67.size.symm)
    have K67 := K52.wr W67 (Or.inr sz_sh)
    refine ownGo.st (st67) ?_
    show ownGo p.tables e below T67 (mkF m 132 #[.val (.ref x0), .val (.ref x1), .val (.ref x2), .val (.int (Int32.ofNat (own_st kb i))), .val (.int (Int32.ofNat i)), .val (.long (((up i).toInt64) - ((lo i).toInt64))), .second, .val (.int (Int32.ofNat (kb i)))] []) _
    refine ownGo.st (fun _ k => XS.aloadN X67.here hx rfl (hb hby d5_132) rfl rfl k) ?_
    show ownGo p.tables e below T67 (mkF m 133 #[.val (.ref x0), .val (.ref x1), .val (.ref x2), .val (.int (Int32.ofNat (own_st kb i))), .val (.int (Int32.ofNat i)), .val (.long (((up i).toInt64) - ((lo i).toInt64))), .second, .val (.int (Int32.ofNat (kb i)))] [(.ref x0)]) _
    obtain ⟨T81, X81, e81, st81⟩ := getF X67 hx hZ hown (host := "") (Or.inl (own_at hw 47 rfl)) Via.refl e67 F_maskOf_73 (g := (mkF m 133 #[.val (.ref x0), .val (.ref x1), .val (.ref x2), .val (.int (Int32.ofNat (own_st kb i))), .val (.int (Int32.ofNat i)), .val (.long (((up i).toInt64) - ((lo i).toInt64))), .second, .val (.int (Int32.ofNat (kb i)))] [(.ref x0)])) rfl rfl (hb hby d5_133)
    refine ownGo.st (st81) ?_
    show ownGo p.tables e below T81 (mkF m 136 #[.val (.ref x0), .val (.ref x1), .val (.ref x2), .val (.int (Int32.ofNat (own_st kb i))), .val (.int (Int32.ofNat i)), .val (.long (((up i).toInt64) - ((lo i).toInt64))), .second, .val (.int (Int32.ofNat (kb i)))] [(.ref k)]) _
    refine ownGo.st (fun _ k => XS.iload X81.here hx rfl (hb hby d5_136) rfl k) ?_
    show ownGo p.tables e below T81 (mkF m 138 #[.val (.ref x0), .val (.ref x1), .val (.ref x2), .val (.int (Int32.ofNat (own_st kb i))), .val (.int (Int32.ofNat i)), .val (.long (((up i).toInt64) - ((lo i).toInt64))), .second, .val (.int (Int32.ofNat (kb i)))] [(.int (Int32.ofNat i)), (.ref k)]) _
    refine ownGo.st (fun _ k => XS.iload X81.here hx rfl (hb hby d5_138) rfl k) ?_
    show ownGo p.tables e below T81 (mkF m 140 #[.val (.ref x0), .val (.ref x1), .val (.ref x2), .val (.int (Int32.ofNat (own_st kb i))), .val (.int (Int32.ofNat i)), .val (.long (((up i).toInt64) - ((lo i).toInt64))), .second, .val (.int (Int32.ofNat (kb i)))] [(.int (Int32.ofNat (kb i))), (.int (Int32.ofNat i)), (.ref k)]) _
    refine ownGo.st (fun _ k => XS.bipush X81.here hx rfl (hb hby d5_140)  k) ?_
    show ownGo p.tables e below T81 (mkF m 142 #[.val (.ref x0), .val (.ref x1), .val (.ref x2), .val (.int (Int32.ofNat (own_st kb i))), .val (.int (Int32.ofNat i)), .val (.long (((up i).toInt64) - ((lo i).toInt64))), .second, .val (.int (Int32.ofNat (kb i)))] [(.int (64 : Int32)), (.int (Int32.ofNat (kb i))), (.int (Int32.ofNat i)), (.ref k)]) _
    have hc82 : ¬ ((Int32.ofNat (kb i)) = (64 : Int32)) := fun y => by have := (own_eq_iff (b := 64) (by omega) (by decide)).mp y; omega
    refine ownGo.st (fun _ k => XS.icmpYes X81.here hx rfl (pc0 := 142) (pc' := 151) rfl (hb hby d5_142) rfl (feq hc82).2 (by decide) (by decide) k) ?_
    show ownGo p.tables e below T81 (mkF m 151 #[.val (.ref x0), .val (.ref x1), .val (.ref x2), .val (.int (Int32.ofNat (own_st kb i))), .val (.int (Int32.ofNat i)), .val (.long (((up i).toInt64) - ((lo i).toInt64))), .second, .val (.int (Int32.ofNat (kb i)))] [(.int (Int32.ofNat i)), (.ref k)]) _
    refine ownGo.st (fun _ k => XS.lconst X81.here hx rfl (hb hby d5_151)  k) ?_
    show ownGo p.tables e below T81 (mkF m 152 #[.val (.ref x0), .val (.ref x1), .val (.ref x2), .val (.int (Int32.ofNat (own_st kb i))), .val (.int (Int32.ofNat i)), .val (.long (((up i).toInt64) - ((lo i).toInt64))), .second, .val (.int (Int32.ofNat (kb i)))] [(.long (1 : Int64)), (.int (Int32.ofNat i)), (.ref k)]) _
    refine ownGo.st (fun _ k => XS.iload X81.here hx rfl (hb hby d5_152) rfl k) ?_
    show ownGo p.tables e below T81 (mkF m 154 #[.val (.ref x0), .val (.ref x1), .val (.ref x2), .val (.int (Int32.ofNat (own_st kb i))), .val (.int (Int32.ofNat i)), .val (.long (((up i).toInt64) - ((lo i).toInt64))), .second, .val (.int (Int32.ofNat (kb i)))] [(.int (Int32.ofNat (kb i))), (.long (1 : Int64)), (.int (Int32.ofNat i)), (.ref k)]) _
    refine ownGo.st (fun _ k => XS.lshl X81.here hx rfl (hb hby d5_154) rfl k) ?_
    show ownGo p.tables e below T81 (mkF m 155 #[.val (.ref x0), .val (.ref x1), .val (.ref x2), .val (.int (Int32.ofNat (own_st kb i))), .val (.int (Int32.ofNat i)), .val (.long (((up i).toInt64) - ((lo i).toInt64))), .second, .val (.int (Int32.ofNat (kb i)))] [(.long (own_lshl (1 : Int64) (Int32.ofNat (kb i)))), (.int (Int32.ofNat i)), (.ref k)]) _
    refine ownGo.st (fun _ k => XS.lconst X81.here hx rfl (hb hby d5_155)  k) ?_
    show ownGo p.tables e below T81 (mkF m 156 #[.val (.ref x0), .val (.ref x1), .val (.ref x2), .val (.int (Int32.ofNat (own_st kb i))), .val (.int (Int32.ofNat i)), .val (.long (((up i).toInt64) - ((lo i).toInt64))), .second, .val (.int (Int32.ofNat (kb i)))] [(.long (1 : Int64)), (.long (own_lshl (1 : Int64) (Int32.ofNat (kb i)))), (.int (Int32.ofNat i)), (.ref k)]) _
    refine ownGo.st (fun _ k => XS.lsub X81.here hx rfl (hb hby d5_156) rfl k) ?_
    show ownGo p.tables e below T81 (mkF m 157 #[.val (.ref x0), .val (.ref x1), .val (.ref x2), .val (.int (Int32.ofNat (own_st kb i))), .val (.int (Int32.ofNat i)), .val (.long (((up i).toInt64) - ((lo i).toInt64))), .second, .val (.int (Int32.ofNat (kb i)))] [(.long ((own_lshl (1 : Int64) (Int32.ofNat (kb i))) - (1 : Int64))), (.int (Int32.ofNat i)), (.ref k)]) _
    obtain ⟨T83, h83, X83, e83, W83, V_k_83, st83⟩ := own_lastore X81 hx hZ e81 Vk_80 (i := i) rfl (by omega) (g := (mkF m 157 #[.val (.ref x0), .val (.ref x1), .val (.ref x2), .val (.int (Int32.ofNat (own_st kb i))), .val (.int (Int32.ofNat i)), .val (.long (((up i).toInt64) - ((lo i).toInt64))), .second, .val (.int (Int32.ofNat (kb i)))] [(.long ((own_lshl (1 : Int64) (Int32.ofNat (kb i))) - (1 : Int64))), (.int (Int32.ofNat i)), (.ref k)])) rfl rfl (hb hby d5_157)
    have E0_84 := E0_68.wr W83
    have F_width_85 := F_width_69.other W83 (Or.inl ne_x0_k)
    have F_lowerBounds_86 := F_lowerBounds_70.other W83 (Or.inl ne_x0_k)
    have F_wordOf_87 := F_wordOf_71.other W83 (Or.inl ne_x0_k)
    have F_shiftOf_88 := F_shiftOf_72.other W83 (Or.inl ne_x0_k)
    have F_maskOf_89 := F_maskOf_73.other W83 (Or.inl ne_x0_k)
    have F_bits_90 := F_bits_74.other W83 (Or.inl ne_x0_k)
    have F_words_91 := F_words_75.other W83 (Or.inl ne_x0_k)
    have V1_92 := V1_76.other W83 ne_x1_k
    have V2_93 := V2_77.other W83 ne_x2_k
    have VL_94 := VL_78.other W83 ne_lb_k
    have V_w_95 := V_w_79.other W83 ne_w_k
    have V_sh_96 := V_sh_67.other W83 ne_sh_k
    have N83 := Fr.snoc X83 N67 gz_k
    have Z83 : n0 ≤ h83.size := Nat.le_trans Z67 (Nat.le_of_eq W83.size.symm)
    have K83 := K67.wr W83 (Or.inr sz_k)
    refine ownGo.st (st83) ?_
    show ownGo p.tables e below T83 (mkF m 158 #[.val (.ref x0), .val (.ref x1), .val (.ref x2), .val (.int (Int32.ofNat (own_st kb i))), .val (.int (Int32.ofNat i)), .val (.long (((up i).toInt64) - ((lo i).toInt64))), .second, .val (.int (Int32.ofNat (kb i)))] []) _
    refine ownGo.st (fun _ k => XS.iloadN X83.here hx rfl (hb hby d5_158) rfl k) ?_
    show ownGo p.tables e below T83 (mkF m 159 #[.val (.ref x0), .val (.ref x1), .val (.ref x2), .val (.int (Int32.ofNat (own_st kb i))), .val (.int (Int32.ofNat i)), .val (.long (((up i).toInt64) - ((lo i).toInt64))), .second, .val (.int (Int32.ofNat (kb i)))] [(.int (Int32.ofNat (own_st kb i)))]) _
    refine ownGo.st (fun _ k => XS.iload X83.here hx rfl (hb hby d5_159) rfl k) ?_
    show ownGo p.tables e below T83 (mkF m 161 #[.val (.ref x0), .val (.ref x1), .val (.ref x2), .val (.int (Int32.ofNat (own_st kb i))), .val (.int (Int32.ofNat i)), .val (.long (((up i).toInt64) - ((lo i).toInt64))), .second, .val (.int (Int32.ofNat (kb i)))] [(.int (Int32.ofNat (kb i))), (.int (Int32.ofNat (own_st kb i)))]) _
    refine ownGo.st (fun _ k => XS.iadd X83.here hx rfl (hb hby d5_161) rfl k) ?_
    show ownGo p.tables e below T83 (mkF m 162 #[.val (.ref x0), .val (.ref x1), .val (.ref x2), .val (.int (Int32.ofNat (own_st kb i))), .val (.int (Int32.ofNat i)), .val (.long (((up i).toInt64) - ((lo i).toInt64))), .second, .val (.int (Int32.ofNat (kb i)))] [(.int ((Int32.ofNat (own_st kb i)) + (Int32.ofNat (kb i))))]) _
    rw [show Int32.ofNat (own_st kb i) + Int32.ofNat (kb i) = Int32.ofNat (own_off kb (i + 1)) from (Int32.ofNat_add _ _).symm]
    show ownGo p.tables e below T83 (mkF m 162 #[.val (.ref x0), .val (.ref x1), .val (.ref x2), .val (.int (Int32.ofNat (own_st kb i))), .val (.int (Int32.ofNat i)), .val (.long (((up i).toInt64) - ((lo i).toInt64))), .second, .val (.int (Int32.ofNat (kb i)))] [(.int (Int32.ofNat (own_off kb (i + 1))))]) _
    refine ownGo.st (fun _ k => XS.istoreN X83.here hx rfl (hb hby d5_162) rfl (l' := #[.val (.ref x0), .val (.ref x1), .val (.ref x2), .val (.int (Int32.ofNat (own_off kb (i + 1)))), .val (.int (Int32.ofNat i)), .val (.long (((up i).toInt64) - ((lo i).toInt64))), .second, .val (.int (Int32.ofNat (kb i)))]) rfl k) ?_
    show ownGo p.tables e below T83 (mkF m 163 #[.val (.ref x0), .val (.ref x1), .val (.ref x2), .val (.int (Int32.ofNat (own_off kb (i + 1)))), .val (.int (Int32.ofNat i)), .val (.long (((up i).toInt64) - ((lo i).toInt64))), .second, .val (.int (Int32.ofNat (kb i)))] []) _
    refine ownGo.st (fun _ k => XS.iinc X83.here hx rfl (hb hby d5_163) rfl (l' := #[.val (.ref x0), .val (.ref x1), .val (.ref x2), .val (.int (Int32.ofNat (own_off kb (i + 1)))), .val (.int ((Int32.ofNat i) + (1 : Int32))), .val (.long (((up i).toInt64) - ((lo i).toInt64))), .second, .val (.int (Int32.ofNat (kb i)))]) rfl k) ?_
    show ownGo p.tables e below T83 (mkF m 166 #[.val (.ref x0), .val (.ref x1), .val (.ref x2), .val (.int (Int32.ofNat (own_off kb (i + 1)))), .val (.int ((Int32.ofNat i) + (1 : Int32))), .val (.long (((up i).toInt64) - ((lo i).toInt64))), .second, .val (.int (Int32.ofNat (kb i)))] []) _
    refine ownGo.st (fun _ k => XS.goto X83.here hx rfl (pc0 := 166) (pc' := 56) rfl (hb hby d5_166) (by decide) (by decide) k) ?_
    show ownGo p.tables e below T83 (mkF m 56 #[.val (.ref x0), .val (.ref x1), .val (.ref x2), .val (.int (Int32.ofNat (own_off kb (i + 1)))), .val (.int ((Int32.ofNat i) + (1 : Int32))), .val (.long (((up i).toInt64) - ((lo i).toInt64))), .second, .val (.int (Int32.ofNat (kb i)))] []) _
    rw [show Int32.ofNat i + (1 : Int32) = Int32.ofNat (i + 1) from (Int32.ofNat_add i 1).symm]
    exact ih (i + 1) (by omega) T83 h83 _ _ _ _ _ _ _ (Or.inr ⟨_, rfl, rfl⟩) (One.val rfl) X83 e83 N83 Z83 K83 E0_84 F_width_85 F_lowerBounds_86 F_wordOf_87 F_shiftOf_88 F_maskOf_89 F_bits_90 F_words_91 V1_92 V2_93 VL_94 V_w_95 (own_upto hw_) V_sh_96 (own_upto hs_) V_k_83 (own_upto hk_)
theorem pn_5 : plainName "com/example/ningbo/ningbo/engine/StateLayout" = true := by first | (simp [plainName, overriddenIn]; done) | decide +kernel
theorem ef_5 (m : MethodId) (x0 : Addr) (x1 : Addr) (x2 : Addr) : entryFrame m #[(.ref x0), (.ref x1), (.ref x2)] 8 = mkF m 0 #[.val (.ref x0), .val (.ref x1), .val (.ref x2), .unset, .unset, .unset, .unset, .unset] [] := by first | (simp [entryFrame, mkF, argsToLocals, Value.category]; done) | rfl
set_option maxRecDepth 65536 in
set_option maxHeartbeats 40000000 in
theorem rm5 (l : Launch) (Z : State) (a0 : Array Value) (hw : ∀ d ∈ tables_1, d.before a0 Z = true) (x0 x1 x2 : Addr) (lo up : Nat → Int32) (kb : Nat → Nat) (h0 : Heap) (n0 : Nat) (Z0 : n0 ≤ h0.size) (gz_x0 : n0 ≤ x0) (hne1 : x0 ≠ x1) (hne2 : x0 ≠ x2) (E0 : Exa Z h0 x0 "com/example/ningbo/ningbo/engine/StateLayout") (F_width : Fld Z h0 x0 "com/example/ningbo/ningbo/engine/StateLayout" "width" "I" (.int (0 : Int32))) (F_lowerBounds : Fld Z h0 x0 "com/example/ningbo/ningbo/engine/StateLayout" "lowerBounds" "[I" .null) (F_wordOf : Fld Z h0 x0 "com/example/ningbo/ningbo/engine/StateLayout" "wordOf" "[I" .null) (F_shiftOf : Fld Z h0 x0 "com/example/ningbo/ningbo/engine/StateLayout" "shiftOf" "[I" .null) (F_maskOf : Fld Z h0 x0 "com/example/ningbo/ningbo/engine/StateLayout" "maskOf" "[J" .null) (F_bits : Fld Z h0 x0 "com/example/ningbo/ningbo/engine/StateLayout" "bits" "I" (.int (0 : Int32))) (F_words : Fld Z h0 x0 "com/example/ningbo/ningbo/engine/StateLayout" "words" "I" (.int (0 : Int32))) (Ex1 : Exa Z h0 x1 "[I") (V1 : ownA Z h0 x1 .int 3 (fun i => .int (lo i))) (V2 : ownA Z h0 x2 .int 3 (fun i => .int (up i))) (hkb : ∀ i, i < 3 → ownBits ((up i).toInt64 - (lo i).toInt64).toInt (kb i)) :
    MetFree l (⟨"com/example/ningbo/ningbo/engine/StateLayout", "<init>", "([I[I)V"⟩ : MethodName) (head1 [Jvm.Cond.code (⟨"com/example/ningbo/ningbo/engine/StateLayout", "<init>", "([I[I)V"⟩ : MethodName) prog_49_method_1_code 8 none] R5) (fun a U => a = #[(.ref x0), (.ref x1), (.ref x2)] ∧ Z.Warmed39 U.vm ∧ U.heap = h0) (fun _ _ _ _ _ => True) (fun _ U o U' => ∃ v L, o = .returned v ∧ ownMade Z x0 lo kb h0 n0 v U'.heap L ∧ FrameEnd U o U' L R5.cells R5.slots) := by
  refine MetFree.of_bodySF (plainFor_of_name pn_5) hisR ?_
  intro p e s m args below meth c s₁ Bd hml0 hP hK
  obtain ⟨rfl, hZ, hh⟩ := hP
  have hx := Bd.exec
  have hby := Bd.bytes
  have hml : c.maxLocals = 8 := hml0
  have hown : s.vm.findClass "com/example/ningbo/ningbo/engine/StateLayout" = some m.cls := findClass_of_methodNamed Bd.named
  have hnm := (name_of_methodNamed Bd.named Bd.method).1
  have hret := Bd.returns
  have hlk : meth.locks = false := BodyLoose.notSynchronized Bd
  have X0 : Stand p l e R5 s m #[(.ref x0), (.ref x1), (.ref x2)] below meth c s₁ [] 0 0 := Stand.of_body Bd
  have e0 : s₁.heap = h0 := by rw [← hh, Bd.state]; rfl
  have N0 := Fr.nil n0
  show ownGo p.tables e below s₁ (entryFrame m #[(.ref x0), (.ref x1), (.ref x2)] 8) (ownDone s (ownMade Z x0 lo kb h0 n0) R5.cells R5.slots)
  rw [ef_5 m x0 x1 x2]
  have K0 : Keep h0 h0 [x0] := Keep.refl _ _
  have sx0 : x0 ≤ h0.size := Nat.le_of_lt E0.lt
  show ownGo p.tables e below s₁ (mkF m 0 #[.val (.ref x0), .val (.ref x1), .val (.ref x2), .unset, .unset, .unset, .unset, .unset] []) _
  refine ownGo.st (fun _ k => XS.aloadN X0.here hx rfl (hb hby d5_0) rfl rfl k) ?_
  show ownGo p.tables e below s₁ (mkF m 1 #[.val (.ref x0), .val (.ref x1), .val (.ref x2), .unset, .unset, .unset, .unset, .unset] [(.ref x0)]) _
  obtain ⟨T97, X97, e97, st97⟩ := initO X0 hx hZ hown (own_at hw 27 rfl) (own_at hw 28 rfl) (own_at hw 29 rfl) e0 (g := (mkF m 1 #[.val (.ref x0), .val (.ref x1), .val (.ref x2), .unset, .unset, .unset, .unset, .unset] [(.ref x0)])) rfl (by rw [hml]; rfl) rfl (hb hby d5_1) (by decide) (W := 0) (by show 2 * 0 + _ ≤ _; exact Nat.le_of_eq rfl) (by decide)
  refine ownGo.st (st97) ?_
  show ownGo p.tables e below T97 (mkF m 4 #[.val (.ref x0), .val (.ref x1), .val (.ref x2), .unset, .unset, .unset, .unset, .unset] []) _
  refine ownGo.st (fun _ k => XS.aloadN X97.here hx rfl (hb hby d5_4) rfl rfl k) ?_
  show ownGo p.tables e below T97 (mkF m 5 #[.val (.ref x0), .val (.ref x1), .val (.ref x2), .unset, .unset, .unset, .unset, .unset] [(.ref x0)]) _
  refine ownGo.st (fun _ k => XS.aloadN X97.here hx rfl (hb hby d5_5) rfl rfl k) ?_
  show ownGo p.tables e below T97 (mkF m 6 #[.val (.ref x0), .val (.ref x1), .val (.ref x2), .unset, .unset, .unset, .unset, .unset] [(.ref x1), (.ref x0)]) _
  refine ownGo.st (own_alen X97 hx hZ e97 V1 (g := (mkF m 6 #[.val (.ref x0), .val (.ref x1), .val (.ref x2), .unset, .unset, .unset, .unset, .unset] [(.ref x1), (.ref x0)])) rfl rfl (hb hby d5_6)) ?_
  show ownGo p.tables e below T97 (mkF m 7 #[.val (.ref x0), .val (.ref x1), .val (.ref x2), .unset, .unset, .unset, .unset, .unset] [(.int (3 : Int32)), (.ref x0)]) _
  obtain ⟨T98, h98, X98, e98, W98, st98⟩ := putF X97 hx hZ hown (host := "") (Or.inl (own_at hw 30 rfl)) Via.refl e97 F_width E0 (Or.inr ⟨(own_at hw 31 rfl), rfl, hnm⟩) (own_at hw 22 rfl) (ty := .int) (by decide) rfl rfl (g := (mkF m 7 #[.val (.ref x0), .val (.ref x1), .val (.ref x2), .unset, .unset, .unset, .unset, .unset] [(.int (3 : Int32)), (.ref x0)])) rfl rfl (hb hby d5_7)
  have E0_99 := E0.wr W98
  have Ex1_100 := Ex1.wr W98
  have V1_101 := V1.other W98 (Ne.symm hne1)
  have V2_102 := V2.other W98 (Ne.symm hne2)
  have F_width_103 := F_width.same W98
  have F_lowerBounds_104 := F_lowerBounds.other W98 (Or.inr (slot_ne (Or.inr (own_at hw 42 rfl)) (Or.inr (own_at hw 31 rfl)) (by decide) (t := (.array .int)) (t' := .int) (by decide) (by decide)))
  have F_wordOf_105 := F_wordOf.other W98 (Or.inr (slot_ne (Or.inr (own_at hw 44 rfl)) (Or.inr (own_at hw 31 rfl)) (by decide) (t := (.array .int)) (t' := .int) (by decide) (by decide)))
  have F_shiftOf_106 := F_shiftOf.other W98 (Or.inr (slot_ne (Or.inr (own_at hw 46 rfl)) (Or.inr (own_at hw 31 rfl)) (by decide) (t := (.array .int)) (t' := .int) (by decide) (by decide)))
  have F_maskOf_107 := F_maskOf.other W98 (Or.inr (slot_ne (Or.inr (own_at hw 48 rfl)) (Or.inr (own_at hw 31 rfl)) (by decide) (t := (.array .long)) (t' := .int) (by decide) (by decide)))
  have F_bits_108 := F_bits.other W98 (Or.inr (slot_ne (Or.inr (own_at hw 59 rfl)) (Or.inr (own_at hw 31 rfl)) (by decide) (t := .int) (t' := .int) (by decide) (by decide)))
  have F_words_109 := F_words.other W98 (Or.inr (slot_ne (Or.inr (own_at hw 64 rfl)) (Or.inr (own_at hw 31 rfl)) (by decide) (t := .int) (t' := .int) (by decide) (by decide)))
  have N98 := Fr.snoc X98 N0 gz_x0
  have Z98 : n0 ≤ h98.size := Nat.le_trans Z0 (Nat.le_of_eq W98.size.symm)
  have K98 := K0.wr W98 (Or.inl (List.mem_singleton.mpr rfl))
  refine ownGo.st (st98) ?_
  show ownGo p.tables e below T98 (mkF m 10 #[.val (.ref x0), .val (.ref x1), .val (.ref x2), .unset, .unset, .unset, .unset, .unset] []) _
  refine ownGo.st (fun _ k => XS.aloadN X98.here hx rfl (hb hby d5_10) rfl rfl k) ?_
  show ownGo p.tables e below T98 (mkF m 11 #[.val (.ref x0), .val (.ref x1), .val (.ref x2), .unset, .unset, .unset, .unset, .unset] [(.ref x0)]) _
  refine ownGo.st (fun _ k => XS.aloadN X98.here hx rfl (hb hby d5_11) rfl rfl k) ?_
  show ownGo p.tables e below T98 (mkF m 12 #[.val (.ref x0), .val (.ref x1), .val (.ref x2), .unset, .unset, .unset, .unset, .unset] [(.ref x1), (.ref x0)]) _
  obtain ⟨kc110, Vc110⟩ := V1_101.arv (.int 0)
  obtain ⟨T110, h110, X110, e110, E110, V_lb, Ex_lb, st110⟩ := cloneH X98 hx hZ hown (own_at hw 32 rfl) (own_at hw 33 rfl) (own_at hw 37 rfl) (own_at hw 35 rfl) (own_at hw 36 rfl) (own_at hw 38 rfl) e98 Vc110.arh Ex1_100 (g := (mkF m 12 #[.val (.ref x0), .val (.ref x1), .val (.ref x2), .unset, .unset, .unset, .unset, .unset] [(.ref x1), (.ref x0)])) rfl (by rw [hml]; rfl) rfl (hb hby d5_12) (by decide) (W := 1) (cap := 3) (by show 2 * 0 + _ ≤ _; exact Nat.le_of_eq rfl) (by decide) (by decide) (by decide) (by decide)
  obtain ⟨lb, g_lb⟩ : ∃ z, z = h98.size := ⟨_, rfl⟩
  rw [← g_lb] at V_lb Ex_lb st110
  have gz_lb : n0 ≤ lb := Nat.le_trans Z98 (Nat.le_of_eq g_lb.symm)
  have ne_x0_lb : x0 ≠ lb := Nat.ne_of_lt (Nat.lt_of_lt_of_le E0_99.lt (Nat.le_of_eq g_lb.symm))
  have ne_x1_lb : x1 ≠ lb := Nat.ne_of_lt (Nat.lt_of_lt_of_le Ex1_100.lt (Nat.le_of_eq g_lb.symm))
  have ne_x2_lb : x2 ≠ lb := Nat.ne_of_lt (Nat.lt_of_lt_of_le V2_102.lt (Nat.le_of_eq g_lb.symm))
  have E0_111 := E0_99.ext E110
  have Ex1_112 := Ex1_100.ext E110
  have V1_113 := V1_101.ext E110
  have V2_114 := V2_102.ext E110
  have F_width_115 := F_width_103.ext E110
  have F_lowerBounds_116 := F_lowerBounds_104.ext E110
  have F_wordOf_117 := F_wordOf_105.ext E110
  have F_shiftOf_118 := F_shiftOf_106.ext E110
  have F_maskOf_119 := F_maskOf_107.ext E110
  have F_bits_120 := F_bits_108.ext E110
  have F_words_121 := F_words_109.ext E110
  have Z110 : n0 ≤ h110.size := Nat.le_trans Z98 E110.1
  have K110 := K98.ext E110
  have sz_lb : h0.size ≤ lb := Nat.le_trans K98.1 (Nat.le_of_eq g_lb.symm)
  have Va_lb : ownA Z h110 lb .int 3 (fun i => .int (lo i)) := (ownA.ofArv (by decide) V_lb).eq (fun i hi => by simp [List.getD_eq_getElem?_getD, hi])
  refine ownGo.st (st110) ?_
  show ownGo p.tables e below T110 (mkF m 15 #[.val (.ref x0), .val (.ref x1), .val (.ref x2), .unset, .unset, .unset, .unset, .unset] [(.ref lb), (.ref x0)]) _
  obtain ⟨T122, X122, e122, st122⟩ := castY X110 hx hZ hown (own_at hw 39 rfl) e110 (Ins.self Ex_lb) (g := (mkF m 15 #[.val (.ref x0), .val (.ref x1), .val (.ref x2), .unset, .unset, .unset, .unset, .unset] [(.ref lb), (.ref x0)])) rfl rfl (hb hby d5_15)
  refine ownGo.st (st122) ?_
  show ownGo p.tables e below T122 (mkF m 18 #[.val (.ref x0), .val (.ref x1), .val (.ref x2), .unset, .unset, .unset, .unset, .unset] [(.ref lb), (.ref x0)]) _
  obtain ⟨T123, h123, X123, e123, W123, st123⟩ := putF X122 hx hZ hown (host := "") (Or.inl (own_at hw 41 rfl)) Via.refl e122 F_lowerBounds_116 E0_111 (Or.inr ⟨(own_at hw 42 rfl), rfl, hnm⟩) (own_at hw 22 rfl) (ty := (.array .int)) (by decide) rfl rfl (g := (mkF m 18 #[.val (.ref x0), .val (.ref x1), .val (.ref x2), .unset, .unset, .unset, .unset, .unset] [(.ref lb), (.ref x0)])) rfl rfl (hb hby d5_18)
  have E0_124 := E0_111.wr W123
  have V1_125 := V1_113.other W123 (Ne.symm hne1)
  have V2_126 := V2_114.other W123 (Ne.symm hne2)
  have F_width_127 := F_width_115.other W123 (Or.inr (slot_ne (Or.inr (own_at hw 31 rfl)) (Or.inr (own_at hw 42 rfl)) (by decide) (t := .int) (t' := (.array .int)) (by decide) (by decide)))
  have F_lowerBounds_128 := F_lowerBounds_116.same W123
  have F_wordOf_129 := F_wordOf_117.other W123 (Or.inr (slot_ne (Or.inr (own_at hw 44 rfl)) (Or.inr (own_at hw 42 rfl)) (by decide) (t := (.array .int)) (t' := (.array .int)) (by decide) (by decide)))
  have F_shiftOf_130 := F_shiftOf_118.other W123 (Or.inr (slot_ne (Or.inr (own_at hw 46 rfl)) (Or.inr (own_at hw 42 rfl)) (by decide) (t := (.array .int)) (t' := (.array .int)) (by decide) (by decide)))
  have F_maskOf_131 := F_maskOf_119.other W123 (Or.inr (slot_ne (Or.inr (own_at hw 48 rfl)) (Or.inr (own_at hw 42 rfl)) (by decide) (t := (.array .long)) (t' := (.array .int)) (by decide) (by decide)))
  have F_bits_132 := F_bits_120.other W123 (Or.inr (slot_ne (Or.inr (own_at hw 59 rfl)) (Or.inr (own_at hw 42 rfl)) (by decide) (t := .int) (t' := (.array .int)) (by decide) (by decide)))
  have F_words_133 := F_words_121.other W123 (Or.inr (slot_ne (Or.inr (own_at hw 64 rfl)) (Or.inr (own_at hw 42 rfl)) (by decide) (t := .int) (t' := (.array .int)) (by decide) (by decide)))
  have Va_lb_134 := Va_lb.other W123 (Ne.symm ne_x0_lb)
  have N123 := Fr.snoc X123 N98 gz_x0
  have Z123 : n0 ≤ h123.size := Nat.le_trans Z110 (Nat.le_of_eq W123.size.symm)
  have K123 := K110.wr W123 (Or.inl (List.mem_singleton.mpr rfl))
  refine ownGo.st (st123) ?_
  show ownGo p.tables e below T123 (mkF m 21 #[.val (.ref x0), .val (.ref x1), .val (.ref x2), .unset, .unset, .unset, .unset, .unset] []) _
  refine ownGo.st (fun _ k => XS.aloadN X123.here hx rfl (hb hby d5_21) rfl rfl k) ?_
  show ownGo p.tables e below T123 (mkF m 22 #[.val (.ref x0), .val (.ref x1), .val (.ref x2), .unset, .unset, .unset, .unset, .unset] [(.ref x0)]) _
  refine ownGo.st (fun _ k => XS.aloadN X123.here hx rfl (hb hby d5_22) rfl rfl k) ?_
  show ownGo p.tables e below T123 (mkF m 23 #[.val (.ref x0), .val (.ref x1), .val (.ref x2), .unset, .unset, .unset, .unset, .unset] [(.ref x0), (.ref x0)]) _
  obtain ⟨T135, X135, e135, st135⟩ := getF X123 hx hZ hown (host := "") (Or.inl (own_at hw 30 rfl)) Via.refl e123 F_width_127 (g := (mkF m 23 #[.val (.ref x0), .val (.ref x1), .val (.ref x2), .unset, .unset, .unset, .unset, .unset] [(.ref x0), (.ref x0)])) rfl rfl (hb hby d5_23)
  refine ownGo.st (st135) ?_
  show ownGo p.tables e below T135 (mkF m 26 #[.val (.ref x0), .val (.ref x1), .val (.ref x2), .unset, .unset, .unset, .unset, .unset] [(.int (3 : Int32)), (.ref x0)]) _
  obtain ⟨T136, h136, w, X136, e136, E136, V_w, Ex_w, g_w, st136⟩ := own_newarray (aty := .int) X135 hx hZ (own_at hw 14 rfl) e135 3 3 (by decide) (by decide) (by decide) (by decide) (ad := "[I") (by rfl) rfl (z := (3 : Int32)) rfl (g := (mkF m 26 #[.val (.ref x0), .val (.ref x1), .val (.ref x2), .unset, .unset, .unset, .unset, .unset] [(.int (3 : Int32)), (.ref x0)])) rfl (hb hby d5_26) rfl
  have gz_w : n0 ≤ w := Nat.le_trans Z123 (Nat.le_of_eq g_w.symm)
  have ne_lb_w : lb ≠ w := Nat.ne_of_lt (Nat.lt_of_lt_of_le Va_lb_134.lt (Nat.le_of_eq g_w.symm))
  have ne_x0_w : x0 ≠ w := Nat.ne_of_lt (Nat.lt_of_lt_of_le E0_124.lt (Nat.le_of_eq g_w.symm))
  have ne_x1_w : x1 ≠ w := Nat.ne_of_lt (Nat.lt_of_lt_of_le V1_125.lt (Nat.le_of_eq g_w.symm))
  have ne_x2_w : x2 ≠ w := Nat.ne_of_lt (Nat.lt_of_lt_of_le V2_126.lt (Nat.le_of_eq g_w.symm))
  have E0_137 := E0_124.ext E136
  have V1_138 := V1_125.ext E136
  have V2_139 := V2_126.ext E136
  have F_width_140 := F_width_127.ext E136
  have F_lowerBounds_141 := F_lowerBounds_128.ext E136
  have F_wordOf_142 := F_wordOf_129.ext E136
  have F_shiftOf_143 := F_shiftOf_130.ext E136
  have F_maskOf_144 := F_maskOf_131.ext E136
  have F_bits_145 := F_bits_132.ext E136
  have F_words_146 := F_words_133.ext E136
  have Va_lb_147 := Va_lb_134.ext E136
  have Z136 : n0 ≤ h136.size := Nat.le_trans Z123 E136.1
  have K136 := K123.ext E136
  have sz_w : h0.size ≤ w := Nat.le_trans K123.1 (Nat.le_of_eq g_w.symm)
  refine ownGo.st (st136) ?_
  show ownGo p.tables e below T136 (mkF m 28 #[.val (.ref x0), .val (.ref x1), .val (.ref x2), .unset, .unset, .unset, .unset, .unset] [(.ref w), (.ref x0)]) _
  obtain ⟨T148, h148, X148, e148, W148, st148⟩ := putF X136 hx hZ hown (host := "") (Or.inl (own_at hw 43 rfl)) Via.refl e136 F_wordOf_142 E0_137 (Or.inr ⟨(own_at hw 44 rfl), rfl, hnm⟩) (own_at hw 22 rfl) (ty := (.array .int)) (by decide) rfl rfl (g := (mkF m 28 #[.val (.ref x0), .val (.ref x1), .val (.ref x2), .unset, .unset, .unset, .unset, .unset] [(.ref w), (.ref x0)])) rfl rfl (hb hby d5_28)
  have E0_149 := E0_137.wr W148
  have V1_150 := V1_138.other W148 (Ne.symm hne1)
  have V2_151 := V2_139.other W148 (Ne.symm hne2)
  have F_width_152 := F_width_140.other W148 (Or.inr (slot_ne (Or.inr (own_at hw 31 rfl)) (Or.inr (own_at hw 44 rfl)) (by decide) (t := .int) (t' := (.array .int)) (by decide) (by decide)))
  have F_lowerBounds_153 := F_lowerBounds_141.other W148 (Or.inr (slot_ne (Or.inr (own_at hw 42 rfl)) (Or.inr (own_at hw 44 rfl)) (by decide) (t := (.array .int)) (t' := (.array .int)) (by decide) (by decide)))
  have F_wordOf_154 := F_wordOf_142.same W148
  have F_shiftOf_155 := F_shiftOf_143.other W148 (Or.inr (slot_ne (Or.inr (own_at hw 46 rfl)) (Or.inr (own_at hw 44 rfl)) (by decide) (t := (.array .int)) (t' := (.array .int)) (by decide) (by decide)))
  have F_maskOf_156 := F_maskOf_144.other W148 (Or.inr (slot_ne (Or.inr (own_at hw 48 rfl)) (Or.inr (own_at hw 44 rfl)) (by decide) (t := (.array .long)) (t' := (.array .int)) (by decide) (by decide)))
  have F_bits_157 := F_bits_145.other W148 (Or.inr (slot_ne (Or.inr (own_at hw 59 rfl)) (Or.inr (own_at hw 44 rfl)) (by decide) (t := .int) (t' := (.array .int)) (by decide) (by decide)))
  have F_words_158 := F_words_146.other W148 (Or.inr (slot_ne (Or.inr (own_at hw 64 rfl)) (Or.inr (own_at hw 44 rfl)) (by decide) (t := .int) (t' := (.array .int)) (by decide) (by decide)))
  have Va_lb_159 := Va_lb_147.other W148 (Ne.symm ne_x0_lb)
  have V_w_160 := V_w.other W148 (Ne.symm ne_x0_w)
  have Ex_w_161 := Ex_w.wr W148
  have N148 := Fr.snoc X148 N123 gz_x0
  have Z148 : n0 ≤ h148.size := Nat.le_trans Z136 (Nat.le_of_eq W148.size.symm)
  have K148 := K136.wr W148 (Or.inl (List.mem_singleton.mpr rfl))
  refine ownGo.st (st148) ?_
  show ownGo p.tables e below T148 (mkF m 31 #[.val (.ref x0), .val (.ref x1), .val (.ref x2), .unset, .unset, .unset, .unset, .unset] []) _
  refine ownGo.st (fun _ k => XS.aloadN X148.here hx rfl (hb hby d5_31) rfl rfl k) ?_
  show ownGo p.tables e below T148 (mkF m 32 #[.val (.ref x0), .val (.ref x1), .val (.ref x2), .unset, .unset, .unset, .unset, .unset] [(.ref x0)]) _
  refine ownGo.st (fun _ k => XS.aloadN X148.here hx rfl (hb hby d5_32) rfl rfl k) ?_
  show ownGo p.tables e below T148 (mkF m 33 #[.val (.ref x0), .val (.ref x1), .val (.ref x2), .unset, .unset, .unset, .unset, .unset] [(.ref x0), (.ref x0)]) _
  obtain ⟨T162, X162, e162, st162⟩ := getF X148 hx hZ hown (host := "") (Or.inl (own_at hw 30 rfl)) Via.refl e148 F_width_152 (g := (mkF m 33 #[.val (.ref x0), .val (.ref x1), .val (.ref x2), .unset, .unset, .unset, .unset, .unset] [(.ref x0), (.ref x0)])) rfl rfl (hb hby d5_33)
  refine ownGo.st (st162) ?_
  show ownGo p.tables e below T162 (mkF m 36 #[.val (.ref x0), .val (.ref x1), .val (.ref x2), .unset, .unset, .unset, .unset, .unset] [(.int (3 : Int32)), (.ref x0)]) _
  obtain ⟨T163, h163, sh, X163, e163, E163, V_sh, Ex_sh, g_sh, st163⟩ := own_newarray (aty := .int) X162 hx hZ (own_at hw 14 rfl) e162 3 3 (by decide) (by decide) (by decide) (by decide) (ad := "[I") (by rfl) rfl (z := (3 : Int32)) rfl (g := (mkF m 36 #[.val (.ref x0), .val (.ref x1), .val (.ref x2), .unset, .unset, .unset, .unset, .unset] [(.int (3 : Int32)), (.ref x0)])) rfl (hb hby d5_36) rfl
  have gz_sh : n0 ≤ sh := Nat.le_trans Z148 (Nat.le_of_eq g_sh.symm)
  have ne_lb_sh : lb ≠ sh := Nat.ne_of_lt (Nat.lt_of_lt_of_le Va_lb_159.lt (Nat.le_of_eq g_sh.symm))
  have ne_w_sh : w ≠ sh := Nat.ne_of_lt (Nat.lt_of_lt_of_le V_w_160.lt (Nat.le_of_eq g_sh.symm))
  have ne_x0_sh : x0 ≠ sh := Nat.ne_of_lt (Nat.lt_of_lt_of_le E0_149.lt (Nat.le_of_eq g_sh.symm))
  have ne_x1_sh : x1 ≠ sh := Nat.ne_of_lt (Nat.lt_of_lt_of_le V1_150.lt (Nat.le_of_eq g_sh.symm))
  have ne_x2_sh : x2 ≠ sh := Nat.ne_of_lt (Nat.lt_of_lt_of_le V2_151.lt (Nat.le_of_eq g_sh.symm))
  have E0_164 := E0_149.ext E163
  have V1_165 := V1_150.ext E163
  have V2_166 := V2_151.ext E163
  have F_width_167 := F_width_152.ext E163
  have F_lowerBounds_168 := F_lowerBounds_153.ext E163
  have F_wordOf_169 := F_wordOf_154.ext E163
  have F_shiftOf_170 := F_shiftOf_155.ext E163
  have F_maskOf_171 := F_maskOf_156.ext E163
  have F_bits_172 := F_bits_157.ext E163
  have F_words_173 := F_words_158.ext E163
  have Va_lb_174 := Va_lb_159.ext E163
  have V_w_175 := V_w_160.ext E163
  have Ex_w_176 := Ex_w_161.ext E163
  have Z163 : n0 ≤ h163.size := Nat.le_trans Z148 E163.1
  have K163 := K148.ext E163
  have sz_sh : h0.size ≤ sh := Nat.le_trans K148.1 (Nat.le_of_eq g_sh.symm)
  refine ownGo.st (st163) ?_
  show ownGo p.tables e below T163 (mkF m 38 #[.val (.ref x0), .val (.ref x1), .val (.ref x2), .unset, .unset, .unset, .unset, .unset] [(.ref sh), (.ref x0)]) _
  obtain ⟨T177, h177, X177, e177, W177, st177⟩ := putF X163 hx hZ hown (host := "") (Or.inl (own_at hw 45 rfl)) Via.refl e163 F_shiftOf_170 E0_164 (Or.inr ⟨(own_at hw 46 rfl), rfl, hnm⟩) (own_at hw 22 rfl) (ty := (.array .int)) (by decide) rfl rfl (g := (mkF m 38 #[.val (.ref x0), .val (.ref x1), .val (.ref x2), .unset, .unset, .unset, .unset, .unset] [(.ref sh), (.ref x0)])) rfl rfl (hb hby d5_38)
  have E0_178 := E0_164.wr W177
  have V1_179 := V1_165.other W177 (Ne.symm hne1)
  have V2_180 := V2_166.other W177 (Ne.symm hne2)
  have F_width_181 := F_width_167.other W177 (Or.inr (slot_ne (Or.inr (own_at hw 31 rfl)) (Or.inr (own_at hw 46 rfl)) (by decide) (t := .int) (t' := (.array .int)) (by decide) (by decide)))
  have F_lowerBounds_182 := F_lowerBounds_168.other W177 (Or.inr (slot_ne (Or.inr (own_at hw 42 rfl)) (Or.inr (own_at hw 46 rfl)) (by decide) (t := (.array .int)) (t' := (.array .int)) (by decide) (by decide)))
  have F_wordOf_183 := F_wordOf_169.other W177 (Or.inr (slot_ne (Or.inr (own_at hw 44 rfl)) (Or.inr (own_at hw 46 rfl)) (by decide) (t := (.array .int)) (t' := (.array .int)) (by decide) (by decide)))
  have F_shiftOf_184 := F_shiftOf_170.same W177
  have F_maskOf_185 := F_maskOf_171.other W177 (Or.inr (slot_ne (Or.inr (own_at hw 48 rfl)) (Or.inr (own_at hw 46 rfl)) (by decide) (t := (.array .long)) (t' := (.array .int)) (by decide) (by decide)))
  have F_bits_186 := F_bits_172.other W177 (Or.inr (slot_ne (Or.inr (own_at hw 59 rfl)) (Or.inr (own_at hw 46 rfl)) (by decide) (t := .int) (t' := (.array .int)) (by decide) (by decide)))
  have F_words_187 := F_words_173.other W177 (Or.inr (slot_ne (Or.inr (own_at hw 64 rfl)) (Or.inr (own_at hw 46 rfl)) (by decide) (t := .int) (t' := (.array .int)) (by decide) (by decide)))
  have Va_lb_188 := Va_lb_174.other W177 (Ne.symm ne_x0_lb)
  have V_w_189 := V_w_175.other W177 (Ne.symm ne_x0_w)
  have Ex_w_190 := Ex_w_176.wr W177
  have V_sh_191 := V_sh.other W177 (Ne.symm ne_x0_sh)
  have Ex_sh_192 := Ex_sh.wr W177
  have N177 := Fr.snoc X177 N148 gz_x0
  have Z177 : n0 ≤ h177.size := Nat.le_trans Z163 (Nat.le_of_eq W177.size.symm)
  have K177 := K163.wr W177 (Or.inl (List.mem_singleton.mpr rfl))
  refine ownGo.st (st177) ?_
  show ownGo p.tables e below T177 (mkF m 41 #[.val (.ref x0), .val (.ref x1), .val (.ref x2), .unset, .unset, .unset, .unset, .unset] []) _
  refine ownGo.st (fun _ k => XS.aloadN X177.here hx rfl (hb hby d5_41) rfl rfl k) ?_
  show ownGo p.tables e below T177 (mkF m 42 #[.val (.ref x0), .val (.ref x1), .val (.ref x2), .unset, .unset, .unset, .unset, .unset] [(.ref x0)]) _
  refine ownGo.st (fun _ k => XS.aloadN X177.here hx rfl (hb hby d5_42) rfl rfl k) ?_
  show ownGo p.tables e below T177 (mkF m 43 #[.val (.ref x0), .val (.ref x1), .val (.ref x2), .unset, .unset, .unset, .unset, .unset] [(.ref x0), (.ref x0)]) _
  obtain ⟨T193, X193, e193, st193⟩ := getF X177 hx hZ hown (host := "") (Or.inl (own_at hw 30 rfl)) Via.refl e177 F_width_181 (g := (mkF m 43 #[.val (.ref x0), .val (.ref x1), .val (.ref x2), .unset, .unset, .unset, .unset, .unset] [(.ref x0), (.ref x0)])) rfl rfl (hb hby d5_43)
  refine ownGo.st (st193) ?_
  show ownGo p.tables e below T193 (mkF m 46 #[.val (.ref x0), .val (.ref x1), .val (.ref x2), .unset, .unset, .unset, .unset, .unset] [(.int (3 : Int32)), (.ref x0)]) _
  obtain ⟨T194, h194, k, X194, e194, E194, V_k, Ex_k, g_k, st194⟩ := own_newarray (aty := .long) X193 hx hZ (own_at hw 19 rfl) e193 3 3 (by decide) (by decide) (by decide) (by decide) (ad := "[J") (by rfl) rfl (z := (3 : Int32)) rfl (g := (mkF m 46 #[.val (.ref x0), .val (.ref x1), .val (.ref x2), .unset, .unset, .unset, .unset, .unset] [(.int (3 : Int32)), (.ref x0)])) rfl (hb hby d5_46) rfl
  have gz_k : n0 ≤ k := Nat.le_trans Z177 (Nat.le_of_eq g_k.symm)
  have ne_lb_k : lb ≠ k := Nat.ne_of_lt (Nat.lt_of_lt_of_le Va_lb_188.lt (Nat.le_of_eq g_k.symm))
  have ne_sh_k : sh ≠ k := Nat.ne_of_lt (Nat.lt_of_lt_of_le V_sh_191.lt (Nat.le_of_eq g_k.symm))
  have ne_w_k : w ≠ k := Nat.ne_of_lt (Nat.lt_of_lt_of_le V_w_189.lt (Nat.le_of_eq g_k.symm))
  have ne_x0_k : x0 ≠ k := Nat.ne_of_lt (Nat.lt_of_lt_of_le E0_178.lt (Nat.le_of_eq g_k.symm))
  have ne_x1_k : x1 ≠ k := Nat.ne_of_lt (Nat.lt_of_lt_of_le V1_179.lt (Nat.le_of_eq g_k.symm))
  have ne_x2_k : x2 ≠ k := Nat.ne_of_lt (Nat.lt_of_lt_of_le V2_180.lt (Nat.le_of_eq g_k.symm))
  have E0_195 := E0_178.ext E194
  have V1_196 := V1_179.ext E194
  have V2_197 := V2_180.ext E194
  have F_width_198 := F_width_181.ext E194
  have F_lowerBounds_199 := F_lowerBounds_182.ext E194
  have F_wordOf_200 := F_wordOf_183.ext E194
  have F_shiftOf_201 := F_shiftOf_184.ext E194
  have F_maskOf_202 := F_maskOf_185.ext E194
  have F_bits_203 := F_bits_186.ext E194
  have F_words_204 := F_words_187.ext E194
  have Va_lb_205 := Va_lb_188.ext E194
  have V_w_206 := V_w_189.ext E194
  have Ex_w_207 := Ex_w_190.ext E194
  have V_sh_208 := V_sh_191.ext E194
  have Ex_sh_209 := Ex_sh_192.ext E194
  have Z194 : n0 ≤ h194.size := Nat.le_trans Z177 E194.1
  have K194 := K177.ext E194
  have sz_k : h0.size ≤ k := Nat.le_trans K177.1 (Nat.le_of_eq g_k.symm)
  refine ownGo.st (st194) ?_
  show ownGo p.tables e below T194 (mkF m 48 #[.val (.ref x0), .val (.ref x1), .val (.ref x2), .unset, .unset, .unset, .unset, .unset] [(.ref k), (.ref x0)]) _
  obtain ⟨T210, h210, X210, e210, W210, st210⟩ := putF X194 hx hZ hown (host := "") (Or.inl (own_at hw 47 rfl)) Via.refl e194 F_maskOf_202 E0_195 (Or.inr ⟨(own_at hw 48 rfl), rfl, hnm⟩) (own_at hw 22 rfl) (ty := (.array .long)) (by decide) rfl rfl (g := (mkF m 48 #[.val (.ref x0), .val (.ref x1), .val (.ref x2), .unset, .unset, .unset, .unset, .unset] [(.ref k), (.ref x0)])) rfl rfl (hb hby d5_48)
  have E0_211 := E0_195.wr W210
  have V1_212 := V1_196.other W210 (Ne.symm hne1)
  have V2_213 := V2_197.other W210 (Ne.symm hne2)
  have F_width_214 := F_width_198.other W210 (Or.inr (slot_ne (Or.inr (own_at hw 31 rfl)) (Or.inr (own_at hw 48 rfl)) (by decide) (t := .int) (t' := (.array .long)) (by decide) (by decide)))
  have F_lowerBounds_215 := F_lowerBounds_199.other W210 (Or.inr (slot_ne (Or.inr (own_at hw 42 rfl)) (Or.inr (own_at hw 48 rfl)) (by decide) (t := (.array .int)) (t' := (.array .long)) (by decide) (by decide)))
  have F_wordOf_216 := F_wordOf_200.other W210 (Or.inr (slot_ne (Or.inr (own_at hw 44 rfl)) (Or.inr (own_at hw 48 rfl)) (by decide) (t := (.array .int)) (t' := (.array .long)) (by decide) (by decide)))
  have F_shiftOf_217 := F_shiftOf_201.other W210 (Or.inr (slot_ne (Or.inr (own_at hw 46 rfl)) (Or.inr (own_at hw 48 rfl)) (by decide) (t := (.array .int)) (t' := (.array .long)) (by decide) (by decide)))
  have F_maskOf_218 := F_maskOf_202.same W210
  have F_bits_219 := F_bits_203.other W210 (Or.inr (slot_ne (Or.inr (own_at hw 59 rfl)) (Or.inr (own_at hw 48 rfl)) (by decide) (t := .int) (t' := (.array .long)) (by decide) (by decide)))
  have F_words_220 := F_words_204.other W210 (Or.inr (slot_ne (Or.inr (own_at hw 64 rfl)) (Or.inr (own_at hw 48 rfl)) (by decide) (t := .int) (t' := (.array .long)) (by decide) (by decide)))
  have Va_lb_221 := Va_lb_205.other W210 (Ne.symm ne_x0_lb)
  have V_w_222 := V_w_206.other W210 (Ne.symm ne_x0_w)
  have Ex_w_223 := Ex_w_207.wr W210
  have V_sh_224 := V_sh_208.other W210 (Ne.symm ne_x0_sh)
  have Ex_sh_225 := Ex_sh_209.wr W210
  have V_k_226 := V_k.other W210 (Ne.symm ne_x0_k)
  have Ex_k_227 := Ex_k.wr W210
  have N210 := Fr.snoc X210 N177 gz_x0
  have Z210 : n0 ≤ h210.size := Nat.le_trans Z194 (Nat.le_of_eq W210.size.symm)
  have K210 := K194.wr W210 (Or.inl (List.mem_singleton.mpr rfl))
  refine ownGo.st (st210) ?_
  show ownGo p.tables e below T210 (mkF m 51 #[.val (.ref x0), .val (.ref x1), .val (.ref x2), .unset, .unset, .unset, .unset, .unset] []) _
  refine ownGo.st (fun _ k => XS.iconst X210.here hx rfl (hb hby d5_51)  k) ?_
  show ownGo p.tables e below T210 (mkF m 52 #[.val (.ref x0), .val (.ref x1), .val (.ref x2), .unset, .unset, .unset, .unset, .unset] [(.int (0 : Int32))]) _
  refine ownGo.st (fun _ k => XS.istoreN X210.here hx rfl (hb hby d5_52) rfl (l' := #[.val (.ref x0), .val (.ref x1), .val (.ref x2), .val (.int (0 : Int32)), .unset, .unset, .unset, .unset]) rfl k) ?_
  show ownGo p.tables e below T210 (mkF m 53 #[.val (.ref x0), .val (.ref x1), .val (.ref x2), .val (.int (0 : Int32)), .unset, .unset, .unset, .unset] []) _
  refine ownGo.st (fun _ k => XS.iconst X210.here hx rfl (hb hby d5_53)  k) ?_
  show ownGo p.tables e below T210 (mkF m 54 #[.val (.ref x0), .val (.ref x1), .val (.ref x2), .val (.int (0 : Int32)), .unset, .unset, .unset, .unset] [(.int (0 : Int32))]) _
  refine ownGo.st (fun _ k => XS.istore X210.here hx rfl (hb hby d5_54) rfl (l' := #[.val (.ref x0), .val (.ref x1), .val (.ref x2), .val (.int (0 : Int32)), .val (.int (0 : Int32)), .unset, .unset, .unset]) rfl k) ?_
  show ownGo p.tables e below T210 (mkF m 56 #[.val (.ref x0), .val (.ref x1), .val (.ref x2), .val (.int (0 : Int32)), .val (.int (0 : Int32)), .unset, .unset, .unset] []) _
  exact own_loopC hx hZ hw hby hml hown hret hlk hnm x0 x1 x2 lb w sh k lo up kb hkb (fun i hi => (hkb i hi).rng.2.2.1) gz_x0 (Nat.le_trans sx0 sz_lb) (Nat.le_trans sx0 sz_w) (Nat.le_trans sx0 sz_sh) (Nat.le_trans sx0 sz_k) gz_w gz_sh gz_k sz_w sz_sh sz_k hne1 hne2 ne_x0_lb ne_x0_w ne_x0_sh ne_x0_k ne_x1_lb ne_x1_w ne_x1_sh ne_x1_k ne_x2_lb ne_x2_w ne_x2_sh ne_x2_k ne_lb_w ne_lb_sh ne_lb_k ne_w_sh ne_w_k ne_sh_k 3 0 rfl T210 h210 _ _ _ _ _ _ _ (Or.inl ⟨rfl, rfl⟩) One.u X210 e210 N210 Z210 K210 E0_211 F_width_214 F_lowerBounds_215 F_wordOf_216 F_shiftOf_217 F_maskOf_218 F_bits_219 F_words_220 V1_212 V2_213 Va_lb_221 V_w_222 (fun j hj => absurd hj (Nat.not_lt_zero j)) V_sh_224 (fun j hj => absurd hj (Nat.not_lt_zero j)) V_k_226 (fun j hj => absurd hj (Nat.not_lt_zero j))
/-- the i-th variable's bits where they lie in their word -/
def own_x (sv lo : Nat → Int32) (kb : Nat → Nat) (i : Nat) : Int64 := own_lshl ((sv i).toInt64 - (lo i).toInt64) (Int32.ofNat (own_st kb i % 64))
def own_acc (x : Nat → Int64) : Nat → Int64
  | 0 => 0
  | i + 1 => own_acc x i ||| x i
def own_pk (x : Nat → Int64) (kb : Nat → Nat) : Nat → Nat → Int64
  | 0, _ => 0
  | i + 1, j => if j = own_st kb i / 64 then own_pk x kb i j ||| x i else own_pk x kb i j
/-- what pack leaves in the words -/
def own_packed (x : Nat → Int64) (kb : Nat → Nat) (wv : Nat → Int64) (j : Nat) : Int64 := if own_wds kb 3 = 1 then (if j = 0 then own_acc x 3 else wv j) else own_pk x kb 3 j
theorem own_lay3 (kb : Nat → Nat) (h : ∀ i, i < 3 → kb i ≤ 32) : own_st kb 0 = 0 ∧ own_st kb 1 = kb 0 ∧ ((kb 0 + kb 1 + kb 2 ≤ 64 ∧ own_st kb 2 = kb 0 + kb 1 ∧ own_wds kb 3 = 1) ∨ (64 < kb 0 + kb 1 + kb 2 ∧ own_st kb 2 = 64 ∧ own_wds kb 3 = 2)) := by
  have h0 := h 0 (by decide)
  have h1 := h 1 (by decide)
  have h2 := h 2 (by decide)
  have e0 : own_st kb 0 = 0 := by show own_al 0 (kb 0) = 0; unfold own_al; rw [if_pos (by omega)]
  have f1 : own_off kb 1 = kb 0 := by show own_al 0 (kb 0) + kb 0 = kb 0; have : own_al 0 (kb 0) = 0 := e0; omega
  have e1 : own_st kb 1 = kb 0 := by show own_al (own_off kb 1) (kb 1) = _; rw [f1]; unfold own_al; rw [if_pos (by omega)]
  have f2 : own_off kb 2 = kb 0 + kb 1 := by show own_st kb 1 + kb 1 = _; rw [e1]
  have e2 : own_st kb 2 = if kb 0 + kb 1 + kb 2 ≤ 64 then kb 0 + kb 1 else 64 := by
    show own_al (own_off kb 2) (kb 2) = _
    rw [f2]; unfold own_al
    split <;> split <;> omega
  have f3 : own_off kb 3 = own_st kb 2 + kb 2 := rfl
  refine ⟨e0, e1, ?_⟩
  unfold own_wds
  rw [f3, e2]
  by_cases q : kb 0 + kb 1 + kb 2 ≤ 64
  · left
    rw [if_pos q]
    exact ⟨q, rfl, if_pos (by omega)⟩
  · right
    rw [if_neg q, if_neg (by omega)]
    exact ⟨by omega, rfl, by omega⟩
theorem own_st64 (kb : Nat → Nat) (h : ∀ i, i < 3 → kb i ≤ 32) (i : Nat) (hi : i < 3) : own_st kb i ≤ 64 := by
  have q := own_lay3 kb h
  have h0 := h 0 (by decide)
  have h1 := h 1 (by decide)
  have z : i = 0 ∨ i = 1 ∨ i = 2 := by omega
  rcases z with rfl | rfl | rfl <;> omega
def ownPacked (Z : State) (t : Addr) (g : Nat → Int64) (h0 : Heap) (n0 : Nat) (v : Option Value) (h : Heap) (L : List Loc) : Prop := v = none ∧ Fr n0 L ∧ Keep h0 h [t] ∧ ownA Z h t .long 2 (fun j => .long (g j))
theorem d10_0 : decode prog_49_method_7_code 0 = .ok (.aload_n 0, 1) := by decide +kernel
theorem d10_1 : decode prog_49_method_7_code 1 = .ok (.getfield 49, 3) := by decide +kernel
theorem d10_4 : decode prog_49_method_7_code 4 = .ok (.iconst 1, 1) := by decide +kernel
theorem d10_5 : decode prog_49_method_7_code 5 = .ok (.if_icmp .ne 53, 3) := by decide +kernel
theorem d10_8 : decode prog_49_method_7_code 8 = .ok (.lconst 0, 1) := by decide +kernel
theorem d10_9 : decode prog_49_method_7_code 9 = .ok (.lstore_n 3, 1) := by decide +kernel
theorem d10_10 : decode prog_49_method_7_code 10 = .ok (.iconst 0, 1) := by decide +kernel
theorem d10_11 : decode prog_49_method_7_code 11 = .ok (.istore 5, 2) := by decide +kernel
theorem d10_13 : decode prog_49_method_7_code 13 = .ok (.iload 5, 2) := by decide +kernel
theorem d10_15 : decode prog_49_method_7_code 15 = .ok (.aload_n 0, 1) := by decide +kernel
theorem d10_16 : decode prog_49_method_7_code 16 = .ok (.getfield 7, 3) := by decide +kernel
theorem d10_19 : decode prog_49_method_7_code 19 = .ok (.if_icmp .ge 34, 3) := by decide +kernel
theorem d10_22 : decode prog_49_method_7_code 22 = .ok (.lload_n 3, 1) := by decide +kernel
theorem d10_23 : decode prog_49_method_7_code 23 = .ok (.aload_n 1, 1) := by decide +kernel
theorem d10_24 : decode prog_49_method_7_code 24 = .ok (.iload 5, 2) := by decide +kernel
theorem d10_26 : decode prog_49_method_7_code 26 = .ok (.iaload, 1) := by decide +kernel
theorem d10_27 : decode prog_49_method_7_code 27 = .ok (.i2l, 1) := by decide +kernel
theorem d10_28 : decode prog_49_method_7_code 28 = .ok (.aload_n 0, 1) := by decide +kernel
theorem d10_29 : decode prog_49_method_7_code 29 = .ok (.getfield 19, 3) := by decide +kernel
theorem d10_32 : decode prog_49_method_7_code 32 = .ok (.iload 5, 2) := by decide +kernel
theorem d10_34 : decode prog_49_method_7_code 34 = .ok (.iaload, 1) := by decide +kernel
theorem d10_35 : decode prog_49_method_7_code 35 = .ok (.i2l, 1) := by decide +kernel
theorem d10_36 : decode prog_49_method_7_code 36 = .ok (.lsub, 1) := by decide +kernel
theorem d10_37 : decode prog_49_method_7_code 37 = .ok (.aload_n 0, 1) := by decide +kernel
theorem d10_38 : decode prog_49_method_7_code 38 = .ok (.getfield 25, 3) := by decide +kernel
theorem d10_41 : decode prog_49_method_7_code 41 = .ok (.iload 5, 2) := by decide +kernel
theorem d10_43 : decode prog_49_method_7_code 43 = .ok (.iaload, 1) := by decide +kernel
theorem d10_44 : decode prog_49_method_7_code 44 = .ok (.lshl, 1) := by decide +kernel
theorem d10_45 : decode prog_49_method_7_code 45 = .ok (.lor, 1) := by decide +kernel
theorem d10_46 : decode prog_49_method_7_code 46 = .ok (.lstore_n 3, 1) := by decide +kernel
theorem d10_47 : decode prog_49_method_7_code 47 = .ok (.iinc 5 1, 3) := by decide +kernel
theorem d10_50 : decode prog_49_method_7_code 50 = .ok (.goto (-37), 3) := by decide +kernel
theorem d10_53 : decode prog_49_method_7_code 53 = .ok (.aload_n 2, 1) := by decide +kernel
theorem d10_54 : decode prog_49_method_7_code 54 = .ok (.iconst 0, 1) := by decide +kernel
theorem d10_55 : decode prog_49_method_7_code 55 = .ok (.lload_n 3, 1) := by decide +kernel
theorem d10_56 : decode prog_49_method_7_code 56 = .ok (.lastore, 1) := by decide +kernel
theorem d10_57 : decode prog_49_method_7_code 57 = .ok (.return_, 1) := by decide +kernel
theorem d10_58 : decode prog_49_method_7_code 58 = .ok (.iconst 0, 1) := by decide +kernel
theorem d10_59 : decode prog_49_method_7_code 59 = .ok (.istore_n 3, 1) := by decide +kernel
theorem d10_60 : decode prog_49_method_7_code 60 = .ok (.iload_n 3, 1) := by decide +kernel
theorem d10_61 : decode prog_49_method_7_code 61 = .ok (.aload_n 0, 1) := by decide +kernel
theorem d10_62 : decode prog_49_method_7_code 62 = .ok (.getfield 49, 3) := by decide +kernel
theorem d10_65 : decode prog_49_method_7_code 65 = .ok (.if_icmp .ge 13, 3) := by decide +kernel
theorem d10_68 : decode prog_49_method_7_code 68 = .ok (.aload_n 2, 1) := by decide +kernel
theorem d10_69 : decode prog_49_method_7_code 69 = .ok (.iload_n 3, 1) := by decide +kernel
theorem d10_70 : decode prog_49_method_7_code 70 = .ok (.lconst 0, 1) := by decide +kernel
theorem d10_71 : decode prog_49_method_7_code 71 = .ok (.lastore, 1) := by decide +kernel
theorem d10_72 : decode prog_49_method_7_code 72 = .ok (.iinc 3 1, 3) := by decide +kernel
theorem d10_75 : decode prog_49_method_7_code 75 = .ok (.goto (-15), 3) := by decide +kernel
theorem d10_78 : decode prog_49_method_7_code 78 = .ok (.iconst 0, 1) := by decide +kernel
theorem d10_79 : decode prog_49_method_7_code 79 = .ok (.istore_n 3, 1) := by decide +kernel
theorem d10_80 : decode prog_49_method_7_code 80 = .ok (.iload_n 3, 1) := by decide +kernel
theorem d10_81 : decode prog_49_method_7_code 81 = .ok (.aload_n 0, 1) := by decide +kernel
theorem d10_82 : decode prog_49_method_7_code 82 = .ok (.getfield 7, 3) := by decide +kernel
theorem d10_85 : decode prog_49_method_7_code 85 = .ok (.if_icmp .ge 39, 3) := by decide +kernel
theorem d10_88 : decode prog_49_method_7_code 88 = .ok (.aload_n 2, 1) := by decide +kernel
theorem d10_89 : decode prog_49_method_7_code 89 = .ok (.aload_n 0, 1) := by decide +kernel
theorem d10_90 : decode prog_49_method_7_code 90 = .ok (.getfield 22, 3) := by decide +kernel
theorem d10_93 : decode prog_49_method_7_code 93 = .ok (.iload_n 3, 1) := by decide +kernel
theorem d10_94 : decode prog_49_method_7_code 94 = .ok (.iaload, 1) := by decide +kernel
theorem d10_95 : decode prog_49_method_7_code 95 = .ok (.dup2, 1) := by decide +kernel
theorem d10_96 : decode prog_49_method_7_code 96 = .ok (.laload, 1) := by decide +kernel
theorem d10_97 : decode prog_49_method_7_code 97 = .ok (.aload_n 1, 1) := by decide +kernel
theorem d10_98 : decode prog_49_method_7_code 98 = .ok (.iload_n 3, 1) := by decide +kernel
theorem d10_99 : decode prog_49_method_7_code 99 = .ok (.iaload, 1) := by decide +kernel
theorem d10_100 : decode prog_49_method_7_code 100 = .ok (.i2l, 1) := by decide +kernel
theorem d10_101 : decode prog_49_method_7_code 101 = .ok (.aload_n 0, 1) := by decide +kernel
theorem d10_102 : decode prog_49_method_7_code 102 = .ok (.getfield 19, 3) := by decide +kernel
theorem d10_105 : decode prog_49_method_7_code 105 = .ok (.iload_n 3, 1) := by decide +kernel
theorem d10_106 : decode prog_49_method_7_code 106 = .ok (.iaload, 1) := by decide +kernel
theorem d10_107 : decode prog_49_method_7_code 107 = .ok (.i2l, 1) := by decide +kernel
theorem d10_108 : decode prog_49_method_7_code 108 = .ok (.lsub, 1) := by decide +kernel
theorem d10_109 : decode prog_49_method_7_code 109 = .ok (.aload_n 0, 1) := by decide +kernel
theorem d10_110 : decode prog_49_method_7_code 110 = .ok (.getfield 25, 3) := by decide +kernel
theorem d10_113 : decode prog_49_method_7_code 113 = .ok (.iload_n 3, 1) := by decide +kernel
theorem d10_114 : decode prog_49_method_7_code 114 = .ok (.iaload, 1) := by decide +kernel
theorem d10_115 : decode prog_49_method_7_code 115 = .ok (.lshl, 1) := by decide +kernel
theorem d10_116 : decode prog_49_method_7_code 116 = .ok (.lor, 1) := by decide +kernel
theorem d10_117 : decode prog_49_method_7_code 117 = .ok (.lastore, 1) := by decide +kernel
theorem d10_118 : decode prog_49_method_7_code 118 = .ok (.iinc 3 1, 3) := by decide +kernel
theorem d10_121 : decode prog_49_method_7_code 121 = .ok (.goto (-41), 3) := by decide +kernel
theorem d10_124 : decode prog_49_method_7_code 124 = .ok (.return_, 1) := by decide +kernel
abbrev R10 : Room := { frames := 0, cells := 0, slots := 0, locals := 0 }
set_option maxRecDepth 65536 in
set_option maxHeartbeats 40000000 in
theorem own_loopP1 {p : Program} {l : Launch} {e : Env} {s : State} {m : MethodId} {args : Array Value} {below : List Frame} {meth : Method} {c : Code} {locs : List Loc} {Z : State} {a0 : Array Value} {h0 : Heap} {n0 : Nat} (hx : p.tables.exec = Jvm.exec) (hZ : Z.Warmed39 s.vm) (hw : ∀ d ∈ tables_1, d.before a0 Z = true) (hby : c.code = prog_49_method_7_code) (hml : c.maxLocals = 6) (hown : s.vm.findClass "com/example/ningbo/ningbo/engine/StateLayout" = some m.cls) (hret : meth.sig.returnType = none) (hlk : meth.locks = false) (N0 : Fr n0 locs) (Z0 : n0 ≤ h0.size) (x0 x1 x2 lb w sh k : Addr) (sv lo : Nat → Int32) (kb : Nat → Nat) (wv : Nat → Int64) (hk32 : ∀ i, i < 3 → kb i ≤ 32) (K0 : Keep h0 h0 [x2]) (hw1 : own_wds kb 3 = 1) (gz_x2 : n0 ≤ x2) (ne_x0 : x0 ≠ x2) (ne_x1 : x1 ≠ x2) (ne_lb : lb ≠ x2) (ne_w : w ≠ x2) (ne_sh : sh ≠ x2) (ne_k : k ≠ x2) (F1 : Fld Z h0 x0 "com/example/ningbo/ningbo/engine/StateLayout" "width" "I" (.int (3 : Int32))) (F2 : Fld Z h0 x0 "com/example/ningbo/ningbo/engine/StateLayout" "words" "I" (.int (1 : Int32))) (G1 : Fld Z h0 x0 "com/example/ningbo/ningbo/engine/StateLayout" "lowerBounds" "[I" (.ref lb)) (G2 : Fld Z h0 x0 "com/example/ningbo/ningbo/engine/StateLayout" "wordOf" "[I" (.ref w)) (G3 : Fld Z h0 x0 "com/example/ningbo/ningbo/engine/StateLayout" "shiftOf" "[I" (.ref sh)) (G4 : Fld Z h0 x0 "com/example/ningbo/ningbo/engine/StateLayout" "maskOf" "[J" (.ref k)) (VL : ownA Z h0 lb .int 3 (fun i => .int (lo i))) (Vw : ownA Z h0 w .int 3 (fun i => .int (Int32.ofNat (own_st kb i / 64)))) (Vs : ownA Z h0 sh .int 3 (fun i => .int (Int32.ofNat (own_st kb i % 64)))) (Vk : ownA Z h0 k .long 3 (fun i => .long (own_mk (kb i)))) (V1 : ownA Z h0 x1 .int 3 (fun i => .int (sv i))) (V2 : ownA Z h0 x2 .long 2 (fun j => .long (wv j))) :
    ∀ (kk i : Nat), i + kk = 3 → ∀ (T0 : State), Stand p l e R10 s m args below meth c T0 locs 0 0 → T0.heap = h0 → ownGo p.tables e below T0 (mkF m 13 #[.val (.ref x0), .val (.ref x1), .val (.ref x2), .val (.long (own_acc (own_x sv lo kb) i)), .second, .val (.int (Int32.ofNat i))] []) (ownDone s (ownPacked Z x2 (own_packed (own_x sv lo kb) kb wv) h0 n0) 0 0) := by
  intro kk
  induction kk with
  | zero =>
    intro i hi T0 X0 e0
    obtain rfl : i = 3 := by omega
    refine ownGo.st (fun _ k => XS.iload X0.here hx rfl (hb hby d10_13) rfl k) ?_
    show ownGo p.tables e below T0 (mkF m 15 #[.val (.ref x0), .val (.ref x1), .val (.ref x2), .val (.long (own_acc (own_x sv lo kb) 3)), .second, .val (.int (Int32.ofNat 3))] [(.int (Int32.ofNat 3))]) _
    refine ownGo.st (fun _ k => XS.aloadN X0.here hx rfl (hb hby d10_15) rfl rfl k) ?_
    show ownGo p.tables e below T0 (mkF m 16 #[.val (.ref x0), .val (.ref x1), .val (.ref x2), .val (.long (own_acc (own_x sv lo kb) 3)), .second, .val (.int (Int32.ofNat 3))] [(.ref x0), (.int (Int32.ofNat 3))]) _
    obtain ⟨T228, X228, e228, st228⟩ := getF X0 hx hZ hown (host := "") (Or.inl (own_at hw 30 rfl)) Via.refl e0 F1 (g := (mkF m 16 #[.val (.ref x0), .val (.ref x1), .val (.ref x2), .val (.long (own_acc (own_x sv lo kb) 3)), .second, .val (.int (Int32.ofNat 3))] [(.ref x0), (.int (Int32.ofNat 3))])) rfl rfl (hb hby d10_16)
    refine ownGo.st (st228) ?_
    show ownGo p.tables e below T228 (mkF m 19 #[.val (.ref x0), .val (.ref x1), .val (.ref x2), .val (.long (own_acc (own_x sv lo kb) 3)), .second, .val (.int (Int32.ofNat 3))] [(.int (3 : Int32)), (.int (Int32.ofNat 3))]) _
    have hc229 : ¬ ((Int32.ofNat 3) < (3 : Int32)) := Int32.lt_irrefl
    refine ownGo.st (fun _ k => XS.icmpYes X228.here hx rfl (pc0 := 19) (pc' := 53) rfl (hb hby d10_19) rfl (flt hc229).2.1 (by decide) (by decide) k) ?_
    show ownGo p.tables e below T228 (mkF m 53 #[.val (.ref x0), .val (.ref x1), .val (.ref x2), .val (.long (own_acc (own_x sv lo kb) 3)), .second, .val (.int (Int32.ofNat 3))] []) _
    refine ownGo.st (fun _ k => XS.aloadN X228.here hx rfl (hb hby d10_53) rfl rfl k) ?_
    show ownGo p.tables e below T228 (mkF m 54 #[.val (.ref x0), .val (.ref x1), .val (.ref x2), .val (.long (own_acc (own_x sv lo kb) 3)), .second, .val (.int (Int32.ofNat 3))] [(.ref x2)]) _
    refine ownGo.st (fun _ k => XS.iconst X228.here hx rfl (hb hby d10_54)  k) ?_
    show ownGo p.tables e below T228 (mkF m 55 #[.val (.ref x0), .val (.ref x1), .val (.ref x2), .val (.long (own_acc (own_x sv lo kb) 3)), .second, .val (.int (Int32.ofNat 3))] [(.int (0 : Int32)), (.ref x2)]) _
    refine ownGo.st (fun _ k => XS.lloadN X228.here hx rfl (hb hby d10_55) rfl k) ?_
    show ownGo p.tables e below T228 (mkF m 56 #[.val (.ref x0), .val (.ref x1), .val (.ref x2), .val (.long (own_acc (own_x sv lo kb) 3)), .second, .val (.int (Int32.ofNat 3))] [(.long (own_acc (own_x sv lo kb) 3)), (.int (0 : Int32)), (.ref x2)]) _
    obtain ⟨T230, h230, X230, e230, W230, V_x2_230, st230⟩ := own_lastore X228 hx hZ e228 V2 (i := 0) rfl (by decide) (g := (mkF m 56 #[.val (.ref x0), .val (.ref x1), .val (.ref x2), .val (.long (own_acc (own_x sv lo kb) 3)), .second, .val (.int (Int32.ofNat 3))] [(.long (own_acc (own_x sv lo kb) 3)), (.int (0 : Int32)), (.ref x2)])) rfl rfl (hb hby d10_56)
    have F1_231 := F1.other W230 (Or.inl ne_x0)
    have F2_232 := F2.other W230 (Or.inl ne_x0)
    have G1_233 := G1.other W230 (Or.inl ne_x0)
    have G2_234 := G2.other W230 (Or.inl ne_x0)
    have G3_235 := G3.other W230 (Or.inl ne_x0)
    have G4_236 := G4.other W230 (Or.inl ne_x0)
    have VL_237 := VL.other W230 ne_lb
    have Vw_238 := Vw.other W230 ne_w
    have Vs_239 := Vs.other W230 ne_sh
    have Vk_240 := Vk.other W230 ne_k
    have V1_241 := V1.other W230 ne_x1
    have N230 := Fr.snoc X230 N0 gz_x2
    have Z230 : n0 ≤ h230.size := Nat.le_trans Z0 (Nat.le_of_eq W230.size.symm)
    have K230 := K0.wr W230 (Or.inl (List.mem_singleton.mpr rfl))
    refine ownGo.st (st230) ?_
    show ownGo p.tables e below T230 (mkF m 57 #[.val (.ref x0), .val (.ref x1), .val (.ref x2), .val (.long (own_acc (own_x sv lo kb) 3)), .second, .val (.int (Int32.ofNat 3))] []) _
    exact own_retV X230 hx hlk hret (hb hby d10_57) ⟨rfl, N230, by rw [e230]; exact K230, (by rw [e230]; exact V_x2_230 : ownA Z _ x2 .long 2 _).eq (fun j hj => by
      have q : j = 0 ∨ j = 1 := by omega
      rcases q with rfl | rfl
      · exact congrArg Value.long ((if_pos rfl : (if (0 : Nat) = 0 then own_acc (own_x sv lo kb) 3 else wv 0) = own_acc (own_x sv lo kb) 3).symm.trans (if_pos hw1 : own_packed (own_x sv lo kb) kb wv 0 = _).symm)
      · exact congrArg Value.long ((if_neg (by decide) : (if (1 : Nat) = 0 then own_acc (own_x sv lo kb) 3 else wv 1) = wv 1).symm.trans (if_pos hw1 : own_packed (own_x sv lo kb) kb wv 1 = _).symm))⟩ (by decide) (by decide)
  | succ kk ih =>
    intro i hi T0 X0 e0
    refine ownGo.st (fun _ k => XS.iload X0.here hx rfl (hb hby d10_13) rfl k) ?_
    show ownGo p.tables e below T0 (mkF m 15 #[.val (.ref x0), .val (.ref x1), .val (.ref x2), .val (.long (own_acc (own_x sv lo kb) i)), .second, .val (.int (Int32.ofNat i))] [(.int (Int32.ofNat i))]) _
    refine ownGo.st (fun _ k => XS.aloadN X0.here hx rfl (hb hby d10_15) rfl rfl k) ?_
    show ownGo p.tables e below T0 (mkF m 16 #[.val (.ref x0), .val (.ref x1), .val (.ref x2), .val (.long (own_acc (own_x sv lo kb) i)), .second, .val (.int (Int32.ofNat i))] [(.ref x0), (.int (Int32.ofNat i))]) _
    obtain ⟨T242, X242, e242, st242⟩ := getF X0 hx hZ hown (host := "") (Or.inl (own_at hw 30 rfl)) Via.refl e0 F1 (g := (mkF m 16 #[.val (.ref x0), .val (.ref x1), .val (.ref x2), .val (.long (own_acc (own_x sv lo kb) i)), .second, .val (.int (Int32.ofNat i))] [(.ref x0), (.int (Int32.ofNat i))])) rfl rfl (hb hby d10_16)
    refine ownGo.st (st242) ?_
    show ownGo p.tables e below T242 (mkF m 19 #[.val (.ref x0), .val (.ref x1), .val (.ref x2), .val (.long (own_acc (own_x sv lo kb) i)), .second, .val (.int (Int32.ofNat i))] [(.int (3 : Int32)), (.int (Int32.ofNat i))]) _
    have hc243 : (Int32.ofNat i) < (3 : Int32) := own_ltn (n := 3) (by omega) (by decide)
    refine ownGo.st (fun _ k => XS.icmpNo X242.here hx rfl (hb hby d10_19) rfl (tlt hc243).2.1 k) ?_
    show ownGo p.tables e below T242 (mkF m 22 #[.val (.ref x0), .val (.ref x1), .val (.ref x2), .val (.long (own_acc (own_x sv lo kb) i)), .second, .val (.int (Int32.ofNat i))] []) _
    refine ownGo.st (fun _ k => XS.lloadN X242.here hx rfl (hb hby d10_22) rfl k) ?_
    show ownGo p.tables e below T242 (mkF m 23 #[.val (.ref x0), .val (.ref x1), .val (.ref x2), .val (.long (own_acc (own_x sv lo kb) i)), .second, .val (.int (Int32.ofNat i))] [(.long (own_acc (own_x sv lo kb) i))]) _
    refine ownGo.st (fun _ k => XS.aloadN X242.here hx rfl (hb hby d10_23) rfl rfl k) ?_
    show ownGo p.tables e below T242 (mkF m 24 #[.val (.ref x0), .val (.ref x1), .val (.ref x2), .val (.long (own_acc (own_x sv lo kb) i)), .second, .val (.int (Int32.ofNat i))] [(.ref x1), (.long (own_acc (own_x sv lo kb) i))]) _
    refine ownGo.st (fun _ k => XS.iload X242.here hx rfl (hb hby d10_24) rfl k) ?_
    show ownGo p.tables e below T242 (mkF m 26 #[.val (.ref x0), .val (.ref x1), .val (.ref x2), .val (.long (own_acc (own_x sv lo kb) i)), .second, .val (.int (Int32.ofNat i))] [(.int (Int32.ofNat i)), (.ref x1), (.long (own_acc (own_x sv lo kb) i))]) _
    refine ownGo.st (own_iaload X242 hx hZ e242 V1 (i := i) (v := (sv i)) rfl (by omega) rfl (g := (mkF m 26 #[.val (.ref x0), .val (.ref x1), .val (.ref x2), .val (.long (own_acc (own_x sv lo kb) i)), .second, .val (.int (Int32.ofNat i))] [(.int (Int32.ofNat i)), (.ref x1), (.long (own_acc (own_x sv lo kb) i))])) rfl rfl (hb hby d10_26)) ?_
    show ownGo p.tables e below T242 (mkF m 27 #[.val (.ref x0), .val (.ref x1), .val (.ref x2), .val (.long (own_acc (own_x sv lo kb) i)), .second, .val (.int (Int32.ofNat i))] [(.int (sv i)), (.long (own_acc (own_x sv lo kb) i))]) _
    refine ownGo.st (fun _ k => XS.i2l X242.here hx rfl (hb hby d10_27) rfl k) ?_
    show ownGo p.tables e below T242 (mkF m 28 #[.val (.ref x0), .val (.ref x1), .val (.ref x2), .val (.long (own_acc (own_x sv lo kb) i)), .second, .val (.int (Int32.ofNat i))] [(.long ((sv i).toInt64)), (.long (own_acc (own_x sv lo kb) i))]) _
    refine ownGo.st (fun _ k => XS.aloadN X242.here hx rfl (hb hby d10_28) rfl rfl k) ?_
    show ownGo p.tables e below T242 (mkF m 29 #[.val (.ref x0), .val (.ref x1), .val (.ref x2), .val (.long (own_acc (own_x sv lo kb) i)), .second, .val (.int (Int32.ofNat i))] [(.ref x0), (.long ((sv i).toInt64)), (.long (own_acc (own_x sv lo kb) i))]) _
    obtain ⟨T244, X244, e244, st244⟩ := getF X242 hx hZ hown (host := "") (Or.inl (own_at hw 41 rfl)) Via.refl e242 G1 (g := (mkF m 29 #[.val (.ref x0), .val (.ref x1), .val (.ref x2), .val (.long (own_acc (own_x sv lo kb) i)), .second, .val (.int (Int32.ofNat i))] [(.ref x0), (.long ((sv i).toInt64)), (.long (own_acc (own_x sv lo kb) i))])) rfl rfl (hb hby d10_29)
    refine ownGo.st (st244) ?_
    show ownGo p.tables e below T244 (mkF m 32 #[.val (.ref x0), .val (.ref x1), .val (.ref x2), .val (.long (own_acc (own_x sv lo kb) i)), .second, .val (.int (Int32.ofNat i))] [(.ref lb), (.long ((sv i).toInt64)), (.long (own_acc (own_x sv lo kb) i))]) _
    refine ownGo.st (fun _ k => XS.iload X244.here hx rfl (hb hby d10_32) rfl k) ?_
    show ownGo p.tables e below T244 (mkF m 34 #[.val (.ref x0), .val (.ref x1), .val (.ref x2), .val (.long (own_acc (own_x sv lo kb) i)), .second, .val (.int (Int32.ofNat i))] [(.int (Int32.ofNat i)), (.ref lb), (.long ((sv i).toInt64)), (.long (own_acc (own_x sv lo kb) i))]) _
    refine ownGo.st (own_iaload X244 hx hZ e244 VL (i := i) (v := (lo i)) rfl (by omega) rfl (g := (mkF m 34 #[.val (.ref x0), .val (.ref x1), .val (.ref x2), .val (.long (own_acc (own_x sv lo kb) i)), .second, .val (.int (Int32.ofNat i))] [(.int (Int32.ofNat i)), (.ref lb), (.long ((sv i).toInt64)), (.long (own_acc (own_x sv lo kb) i))])) rfl rfl (hb hby d10_34)) ?_
    show ownGo p.tables e below T244 (mkF m 35 #[.val (.ref x0), .val (.ref x1), .val (.ref x2), .val (.long (own_acc (own_x sv lo kb) i)), .second, .val (.int (Int32.ofNat i))] [(.int (lo i)), (.long ((sv i).toInt64)), (.long (own_acc (own_x sv lo kb) i))]) _
    refine ownGo.st (fun _ k => XS.i2l X244.here hx rfl (hb hby d10_35) rfl k) ?_
    show ownGo p.tables e below T244 (mkF m 36 #[.val (.ref x0), .val (.ref x1), .val (.ref x2), .val (.long (own_acc (own_x sv lo kb) i)), .second, .val (.int (Int32.ofNat i))] [(.long ((lo i).toInt64)), (.long ((sv i).toInt64)), (.long (own_acc (own_x sv lo kb) i))]) _
    refine ownGo.st (fun _ k => XS.lsub X244.here hx rfl (hb hby d10_36) rfl k) ?_
    show ownGo p.tables e below T244 (mkF m 37 #[.val (.ref x0), .val (.ref x1), .val (.ref x2), .val (.long (own_acc (own_x sv lo kb) i)), .second, .val (.int (Int32.ofNat i))] [(.long (((sv i).toInt64) - ((lo i).toInt64))), (.long (own_acc (own_x sv lo kb) i))]) _
    refine ownGo.st (fun _ k => XS.aloadN X244.here hx rfl (hb hby d10_37) rfl rfl k) ?_
    show ownGo p.tables e below T244 (mkF m 38 #[.val (.ref x0), .val (.ref x1), .val (.ref x2), .val (.long (own_acc (own_x sv lo kb) i)), .second, .val (.int (Int32.ofNat i))] [(.ref x0), (.long (((sv i).toInt64) - ((lo i).toInt64))), (.long (own_acc (own_x sv lo kb) i))]) _
    obtain ⟨T245, X245, e245, st245⟩ := getF X244 hx hZ hown (host := "") (Or.inl (own_at hw 45 rfl)) Via.refl e244 G3 (g := (mkF m 38 #[.val (.ref x0), .val (.ref x1), .val (.ref x2), .val (.long (own_acc (own_x sv lo kb) i)), .second, .val (.int (Int32.ofNat i))] [(.ref x0), (.long (((sv i).toInt64) - ((lo i).toInt64))), (.long (own_acc (own_x sv lo kb) i))])) rfl rfl (hb hby d10_38)
    refine ownGo.st (st245) ?_
    show ownGo p.tables e below T245 (mkF m 41 #[.val (.ref x0), .val (.ref x1), .val (.ref x2), .val (.long (own_acc (own_x sv lo kb) i)), .second, .val (.int (Int32.ofNat i))] [(.ref sh), (.long (((sv i).toInt64) - ((lo i).toInt64))), (.long (own_acc (own_x sv lo kb) i))]) _
    refine ownGo.st (fun _ k => XS.iload X245.here hx rfl (hb hby d10_41) rfl k) ?_
    show ownGo p.tables e below T245 (mkF m 43 #[.val (.ref x0), .val (.ref x1), .val (.ref x2), .val (.long (own_acc (own_x sv lo kb) i)), .second, .val (.int (Int32.ofNat i))] [(.int (Int32.ofNat i)), (.ref sh), (.long (((sv i).toInt64) - ((lo i).toInt64))), (.long (own_acc (own_x sv lo kb) i))]) _
    refine ownGo.st (own_iaload X245 hx hZ e245 Vs (i := i) (v := (Int32.ofNat (own_st kb i % 64))) rfl (by omega) rfl (g := (mkF m 43 #[.val (.ref x0), .val (.ref x1), .val (.ref x2), .val (.long (own_acc (own_x sv lo kb) i)), .second, .val (.int (Int32.ofNat i))] [(.int (Int32.ofNat i)), (.ref sh), (.long (((sv i).toInt64) - ((lo i).toInt64))), (.long (own_acc (own_x sv lo kb) i))])) rfl rfl (hb hby d10_43)) ?_
    show ownGo p.tables e below T245 (mkF m 44 #[.val (.ref x0), .val (.ref x1), .val (.ref x2), .val (.long (own_acc (own_x sv lo kb) i)), .second, .val (.int (Int32.ofNat i))] [(.int (Int32.ofNat (own_st kb i % 64))), (.long (((sv i).toInt64) - ((lo i).toInt64))), (.long (own_acc (own_x sv lo kb) i))]) _
    refine ownGo.st (fun _ k => XS.lshl X245.here hx rfl (hb hby d10_44) rfl k) ?_
    show ownGo p.tables e below T245 (mkF m 45 #[.val (.ref x0), .val (.ref x1), .val (.ref x2), .val (.long (own_acc (own_x sv lo kb) i)), .second, .val (.int (Int32.ofNat i))] [(.long (own_lshl (((sv i).toInt64) - ((lo i).toInt64)) (Int32.ofNat (own_st kb i % 64)))), (.long (own_acc (own_x sv lo kb) i))]) _
    refine ownGo.st (fun _ k => XS.lor X245.here hx rfl (hb hby d10_45) rfl k) ?_
    show ownGo p.tables e below T245 (mkF m 46 #[.val (.ref x0), .val (.ref x1), .val (.ref x2), .val (.long (own_acc (own_x sv lo kb) i)), .second, .val (.int (Int32.ofNat i))] [(.long ((own_acc (own_x sv lo kb) i) ||| (own_lshl (((sv i).toInt64) - ((lo i).toInt64)) (Int32.ofNat (own_st kb i % 64)))))]) _
    refine ownGo.st (fun _ k => XS.lstoreN X245.here hx rfl (hb hby d10_46) rfl (l' := #[.val (.ref x0), .val (.ref x1), .val (.ref x2), .val (.long ((own_acc (own_x sv lo kb) i) ||| (own_lshl (((sv i).toInt64) - ((lo i).toInt64)) (Int32.ofNat (own_st kb i % 64))))), .second, .val (.int (Int32.ofNat i))]) rfl k) ?_
    show ownGo p.tables e below T245 (mkF m 47 #[.val (.ref x0), .val (.ref x1), .val (.ref x2), .val (.long ((own_acc (own_x sv lo kb) i) ||| (own_lshl (((sv i).toInt64) - ((lo i).toInt64)) (Int32.ofNat (own_st kb i % 64))))), .second, .val (.int (Int32.ofNat i))] []) _
    refine ownGo.st (fun _ k => XS.iinc X245.here hx rfl (hb hby d10_47) rfl (l' := #[.val (.ref x0), .val (.ref x1), .val (.ref x2), .val (.long ((own_acc (own_x sv lo kb) i) ||| (own_lshl (((sv i).toInt64) - ((lo i).toInt64)) (Int32.ofNat (own_st kb i % 64))))), .second, .val (.int ((Int32.ofNat i) + (1 : Int32)))]) rfl k) ?_
    show ownGo p.tables e below T245 (mkF m 50 #[.val (.ref x0), .val (.ref x1), .val (.ref x2), .val (.long ((own_acc (own_x sv lo kb) i) ||| (own_lshl (((sv i).toInt64) - ((lo i).toInt64)) (Int32.ofNat (own_st kb i % 64))))), .second, .val (.int ((Int32.ofNat i) + (1 : Int32)))] []) _
    refine ownGo.st (fun _ k => XS.goto X245.here hx rfl (pc0 := 50) (pc' := 13) rfl (hb hby d10_50) (by decide) (by decide) k) ?_
    show ownGo p.tables e below T245 (mkF m 13 #[.val (.ref x0), .val (.ref x1), .val (.ref x2), .val (.long ((own_acc (own_x sv lo kb) i) ||| (own_lshl (((sv i).toInt64) - ((lo i).toInt64)) (Int32.ofNat (own_st kb i % 64))))), .second, .val (.int ((Int32.ofNat i) + (1 : Int32)))] []) _
    rw [show Int32.ofNat i + (1 : Int32) = Int32.ofNat (i + 1) from (Int32.ofNat_add i 1).symm]
    exact ih (i + 1) (by omega) T245 X245 e245
set_option maxRecDepth 65536 in
set_option maxHeartbeats 40000000 in
theorem own_loopP2 {p : Program} {l : Launch} {e : Env} {s : State} {m : MethodId} {args : Array Value} {below : List Frame} {meth : Method} {c : Code} {Z : State} {a0 : Array Value} {h0 : Heap} {n0 : Nat} (hx : p.tables.exec = Jvm.exec) (hZ : Z.Warmed39 s.vm) (hw : ∀ d ∈ tables_1, d.before a0 Z = true) (hby : c.code = prog_49_method_7_code) (hml : c.maxLocals = 6) (hown : s.vm.findClass "com/example/ningbo/ningbo/engine/StateLayout" = some m.cls) (hret : meth.sig.returnType = none) (hlk : meth.locks = false) (x0 x1 x2 lb w sh k : Addr) (sv lo : Nat → Int32) (kb : Nat → Nat) (wv : Nat → Int64) (hk32 : ∀ i, i < 3 → kb i ≤ 32) (hw2 : own_wds kb 3 = 2) (gz_x2 : n0 ≤ x2) (ne_x0 : x0 ≠ x2) (ne_x1 : x1 ≠ x2) (ne_lb : lb ≠ x2) (ne_w : w ≠ x2) (ne_sh : sh ≠ x2) (ne_k : k ≠ x2) :
    ∀ (kk i : Nat), i + kk = 3 → ∀ (T0 : State) (h : Heap) (locs : List Loc) (f : Nat → Value), Stand p l e R10 s m args below meth c T0 locs 0 0 → T0.heap = h → Fr n0 locs → n0 ≤ h.size → Keep h0 h [x2] → Fld Z h x0 "com/example/ningbo/ningbo/engine/StateLayout" "width" "I" (.int (3 : Int32)) → Fld Z h x0 "com/example/ningbo/ningbo/engine/StateLayout" "words" "I" (.int (2 : Int32)) → Fld Z h x0 "com/example/ningbo/ningbo/engine/StateLayout" "lowerBounds" "[I" (.ref lb) → Fld Z h x0 "com/example/ningbo/ningbo/engine/StateLayout" "wordOf" "[I" (.ref w) → Fld Z h x0 "com/example/ningbo/ningbo/engine/StateLayout" "shiftOf" "[I" (.ref sh) → Fld Z h x0 "com/example/ningbo/ningbo/engine/StateLayout" "maskOf" "[J" (.ref k) → ownA Z h lb .int 3 (fun i => .int (lo i)) → ownA Z h w .int 3 (fun i => .int (Int32.ofNat (own_st kb i / 64))) → ownA Z h sh .int 3 (fun i => .int (Int32.ofNat (own_st kb i % 64))) → ownA Z h k .long 3 (fun i => .long (own_mk (kb i))) → ownA Z h x1 .int 3 (fun i => .int (sv i)) → ownA Z h x2 .long 2 f → (∀ j, j < 2 → f j = .long (own_pk (own_x sv lo kb) kb i j)) →
      ownGo p.tables e below T0 (mkF m 80 #[.val (.ref x0), .val (.ref x1), .val (.ref x2), .val (.int (Int32.ofNat i)), .unset, .unset] []) (ownDone s (ownPacked Z x2 (own_packed (own_x sv lo kb) kb wv) h0 n0) 0 0) := by
  intro kk
  induction kk with
  | zero =>
    intro i hi T0 h locs f X0 e0 N0 Z1 K0 F1 F2 G1 G2 G3 G4 VL Vw Vs Vk V1 V2 hf
    obtain rfl : i = 3 := by omega
    refine ownGo.st (fun _ k => XS.iloadN X0.here hx rfl (hb hby d10_80) rfl k) ?_
    show ownGo p.tables e below T0 (mkF m 81 #[.val (.ref x0), .val (.ref x1), .val (.ref x2), .val (.int (Int32.ofNat 3)), .unset, .unset] [(.int (Int32.ofNat 3))]) _
    refine ownGo.st (fun _ k => XS.aloadN X0.here hx rfl (hb hby d10_81) rfl rfl k) ?_
    show ownGo p.tables e below T0 (mkF m 82 #[.val (.ref x0), .val (.ref x1), .val (.ref x2), .val (.int (Int32.ofNat 3)), .unset, .unset] [(.ref x0), (.int (Int32.ofNat 3))]) _
    obtain ⟨T246, X246, e246, st246⟩ := getF X0 hx hZ hown (host := "") (Or.inl (own_at hw 30 rfl)) Via.refl e0 F1 (g := (mkF m 82 #[.val (.ref x0), .val (.ref x1), .val (.ref x2), .val (.int (Int32.ofNat 3)), .unset, .unset] [(.ref x0), (.int (Int32.ofNat 3))])) rfl rfl (hb hby d10_82)
    refine ownGo.st (st246) ?_
    show ownGo p.tables e below T246 (mkF m 85 #[.val (.ref x0), .val (.ref x1), .val (.ref x2), .val (.int (Int32.ofNat 3)), .unset, .unset] [(.int (3 : Int32)), (.int (Int32.ofNat 3))]) _
    have hc247 : ¬ ((Int32.ofNat 3) < (3 : Int32)) := Int32.lt_irrefl
    refine ownGo.st (fun _ k => XS.icmpYes X246.here hx rfl (pc0 := 85) (pc' := 124) rfl (hb hby d10_85) rfl (flt hc247).2.1 (by decide) (by decide) k) ?_
    show ownGo p.tables e below T246 (mkF m 124 #[.val (.ref x0), .val (.ref x1), .val (.ref x2), .val (.int (Int32.ofNat 3)), .unset, .unset] []) _
    exact own_retV X246 hx hlk hret (hb hby d10_124) ⟨rfl, N0, by rw [e246]; exact K0, (by rw [e246]; exact V2 : ownA Z _ x2 .long 2 _).eq (fun j hj => (hf j hj).trans (congrArg Value.long (if_neg (fun y => by rw [hw2] at y; cases y) : own_packed (own_x sv lo kb) kb wv j = _).symm))⟩ (by decide) (by decide)
  | succ kk ih =>
    intro i hi T0 h locs f X0 e0 N0 Z1 K0 F1 F2 G1 G2 G3 G4 VL Vw Vs Vk V1 V2 hf
    have s64 := own_st64 kb hk32 i (by omega)
    refine ownGo.st (fun _ k => XS.iloadN X0.here hx rfl (hb hby d10_80) rfl k) ?_
    show ownGo p.tables e below T0 (mkF m 81 #[.val (.ref x0), .val (.ref x1), .val (.ref x2), .val (.int (Int32.ofNat i)), .unset, .unset] [(.int (Int32.ofNat i))]) _
    refine ownGo.st (fun _ k => XS.aloadN X0.here hx rfl (hb hby d10_81) rfl rfl k) ?_
    show ownGo p.tables e below T0 (mkF m 82 #[.val (.ref x0), .val (.ref x1), .val (.ref x2), .val (.int (Int32.ofNat i)), .unset, .unset] [(.ref x0), (.int (Int32.ofNat i))]) _
    obtain ⟨T248, X248, e248, st248⟩ := getF X0 hx hZ hown (host := "") (Or.inl (own_at hw 30 rfl)) Via.refl e0 F1 (g := (mkF m 82 #[.val (.ref x0), .val (.ref x1), .val (.ref x2), .val (.int (Int32.ofNat i)), .unset, .unset] [(.ref x0), (.int (Int32.ofNat i))])) rfl rfl (hb hby d10_82)
    refine ownGo.st (st248) ?_
    show ownGo p.tables e below T248 (mkF m 85 #[.val (.ref x0), .val (.ref x1), .val (.ref x2), .val (.int (Int32.ofNat i)), .unset, .unset] [(.int (3 : Int32)), (.int (Int32.ofNat i))]) _
    have hc249 : (Int32.ofNat i) < (3 : Int32) := own_ltn (n := 3) (by omega) (by decide)
    refine ownGo.st (fun _ k => XS.icmpNo X248.here hx rfl (hb hby d10_85) rfl (tlt hc249).2.1 k) ?_
    show ownGo p.tables e below T248 (mkF m 88 #[.val (.ref x0), .val (.ref x1), .val (.ref x2), .val (.int (Int32.ofNat i)), .unset, .unset] []) _
    refine ownGo.st (fun _ k => XS.aloadN X248.here hx rfl (hb hby d10_88) rfl rfl k) ?_
    show ownGo p.tables e below T248 (mkF m 89 #[.val (.ref x0), .val (.ref x1), .val (.ref x2), .val (.int (Int32.ofNat i)), .unset, .unset] [(.ref x2)]) _
    refine ownGo.st (fun _ k => XS.aloadN X248.here hx rfl (hb hby d10_89) rfl rfl k) ?_
    show ownGo p.tables e below T248 (mkF m 90 #[.val (.ref x0), .val (.ref x1), .val (.ref x2), .val (.int (Int32.ofNat i)), .unset, .unset] [(.ref x0), (.ref x2)]) _
    obtain ⟨T250, X250, e250, st250⟩ := getF X248 hx hZ hown (host := "") (Or.inl (own_at hw 43 rfl)) Via.refl e248 G2 (g := (mkF m 90 #[.val (.ref x0), .val (.ref x1), .val (.ref x2), .val (.int (Int32.ofNat i)), .unset, .unset] [(.ref x0), (.ref x2)])) rfl rfl (hb hby d10_90)
    refine ownGo.st (st250) ?_
    show ownGo p.tables e below T250 (mkF m 93 #[.val (.ref x0), .val (.ref x1), .val (.ref x2), .val (.int (Int32.ofNat i)), .unset, .unset] [(.ref w), (.ref x2)]) _
    refine ownGo.st (fun _ k => XS.iloadN X250.here hx rfl (hb hby d10_93) rfl k) ?_
    show ownGo p.tables e below T250 (mkF m 94 #[.val (.ref x0), .val (.ref x1), .val (.ref x2), .val (.int (Int32.ofNat i)), .unset, .unset] [(.int (Int32.ofNat i)), (.ref w), (.ref x2)]) _
    refine ownGo.st (own_iaload X250 hx hZ e250 Vw (i := i) (v := (Int32.ofNat (own_st kb i / 64))) rfl (by omega) rfl (g := (mkF m 94 #[.val (.ref x0), .val (.ref x1), .val (.ref x2), .val (.int (Int32.ofNat i)), .unset, .unset] [(.int (Int32.ofNat i)), (.ref w), (.ref x2)])) rfl rfl (hb hby d10_94)) ?_
    show ownGo p.tables e below T250 (mkF m 95 #[.val (.ref x0), .val (.ref x1), .val (.ref x2), .val (.int (Int32.ofNat i)), .unset, .unset] [(.int (Int32.ofNat (own_st kb i / 64))), (.ref x2)]) _
    refine ownGo.st (fun _ k => Jvm.Free.XT.dup2 X250.here hx rfl (hb hby d10_95) rfl rfl rfl k) ?_
    show ownGo p.tables e below T250 (mkF m 96 #[.val (.ref x0), .val (.ref x1), .val (.ref x2), .val (.int (Int32.ofNat i)), .unset, .unset] [(.int (Int32.ofNat (own_st kb i / 64))), (.ref x2), (.int (Int32.ofNat (own_st kb i / 64))), (.ref x2)]) _
    refine ownGo.st (own_laload X250 hx hZ e250 V2 (i := (own_st kb i / 64)) (v := (own_pk (own_x sv lo kb) kb i (own_st kb i / 64))) rfl (by omega) (hf _ (by omega)) (g := (mkF m 96 #[.val (.ref x0), .val (.ref x1), .val (.ref x2), .val (.int (Int32.ofNat i)), .unset, .unset] [(.int (Int32.ofNat (own_st kb i / 64))), (.ref x2), (.int (Int32.ofNat (own_st kb i / 64))), (.ref x2)])) rfl rfl (hb hby d10_96)) ?_
    show ownGo p.tables e below T250 (mkF m 97 #[.val (.ref x0), .val (.ref x1), .val (.ref x2), .val (.int (Int32.ofNat i)), .unset, .unset] [(.long (own_pk (own_x sv lo kb) kb i (own_st kb i / 64))), (.int (Int32.ofNat (own_st kb i / 64))), (.ref x2)]) _
    refine ownGo.st (fun _ k => XS.aloadN X250.here hx rfl (hb hby d10_97) rfl rfl k) ?_
    show ownGo p.tables e below T250 (mkF m 98 #[.val (.ref x0), .val (.ref x1), .val (.ref x2), .val (.int (Int32.ofNat i)), .unset, .unset] [(.ref x1), (.long (own_pk (own_x sv lo kb) kb i (own_st kb i / 64))), (.int (Int32.ofNat (own_st kb i / 64))), (.ref x2)]) _
    refine ownGo.st (fun _ k => XS.iloadN X250.here hx rfl (hb hby d10_98) rfl k) ?_
    show ownGo p.tables e below T250 (mkF m 99 #[.val (.ref x0), .val (.ref x1), .val (.ref x2), .val (.int (Int32.ofNat i)), .unset, .unset] [(.int (Int32.ofNat i)), (.ref x1), (.long (own_pk (own_x sv lo kb) kb i (own_st kb i / 64))), (.int (Int32.ofNat (own_st kb i / 64))), (.ref x2)]) _
    refine ownGo.st (own_iaload X250 hx hZ e250 V1 (i := i) (v := (sv i)) rfl (by omega) rfl (g := (mkF m 99 #[.val (.ref x0), .val (.ref x1), .val (.ref x2), .val (.int (Int32.ofNat i)), .unset, .unset] [(.int (Int32.ofNat i)), (.ref x1), (.long (own_pk (own_x sv lo kb) kb i (own_st kb i / 64))), (.int (Int32.ofNat (own_st kb i / 64))), (.ref x2)])) rfl rfl (hb hby d10_99)) ?_
    show ownGo p.tables e below T250 (mkF m 100 #[.val (.ref x0), .val (.ref x1), .val (.ref x2), .val (.int (Int32.ofNat i)), .unset, .unset] [(.int (sv i)), (.long (own_pk (own_x sv lo kb) kb i (own_st kb i / 64))), (.int (Int32.ofNat (own_st kb i / 64))), (.ref x2)]) _
    refine ownGo.st (fun _ k => XS.i2l X250.here hx rfl (hb hby d10_100) rfl k) ?_
    show ownGo p.tables e below T250 (mkF m 101 #[.val (.ref x0), .val (.ref x1), .val (.ref x2), .val (.int (Int32.ofNat i)), .unset, .unset] [(.long ((sv i).toInt64)), (.long (own_pk (own_x sv lo kb) kb i (own_st kb i / 64))), (.int (Int32.ofNat (own_st kb i / 64))), (.ref x2)]) _
    refine ownGo.st (fun _ k => XS.aloadN X250.here hx rfl (hb hby d10_101) rfl rfl k) ?_
    show ownGo p.tables e below T250 (mkF m 102 #[.val (.ref x0), .val (.ref x1), .val (.ref x2), .val (.int (Int32.ofNat i)), .unset, .unset] [(.ref x0), (.long ((sv i).toInt64)), (.long (own_pk (own_x sv lo kb) kb i (own_st kb i / 64))), (.int (Int32.ofNat (own_st kb i / 64))), (.ref x2)]) _
    obtain ⟨T251, X251, e251, st251⟩ := getF X250 hx hZ hown (host := "") (Or.inl (own_at hw 41 rfl)) Via.refl e250 G1 (g := (mkF m 102 #[.val (.ref x0), .val (.ref x1), .val (.ref x2), .val (.int (Int32.ofNat i)), .unset, .unset] [(.ref x0), (.long ((sv i).toInt64)), (.long (own_pk (own_x sv lo kb) kb i (own_st kb i / 64))), (.int (Int32.ofNat (own_st kb i / 64))), (.ref x2)])) rfl rfl (hb hby d10_102)
    refine ownGo.st (st251) ?_
    show ownGo p.tables e below T251 (mkF m 105 #[.val (.ref x0), .val (.ref x1), .val (.ref x2), .val (.int (Int32.ofNat i)), .unset, .unset] [(.ref lb), (.long ((sv i).toInt64)), (.long (own_pk (own_x sv lo kb) kb i (own_st kb i / 64))), (.int (Int32.ofNat (own_st kb i / 64))), (.ref x2)]) _
    refine ownGo.st (fun _ k => XS.iloadN X251.here hx rfl (hb hby d10_105) rfl k) ?_
    show ownGo p.tables e below T251 (mkF m 106 #[.val (.ref x0), .val (.ref x1), .val (.ref x2), .val (.int (Int32.ofNat i)), .unset, .unset] [(.int (Int32.ofNat i)), (.ref lb), (.long ((sv i).toInt64)), (.long (own_pk (own_x sv lo kb) kb i (own_st kb i / 64))), (.int (Int32.ofNat (own_st kb i / 64))), (.ref x2)]) _
    refine ownGo.st (own_iaload X251 hx hZ e251 VL (i := i) (v := (lo i)) rfl (by omega) rfl (g := (mkF m 106 #[.val (.ref x0), .val (.ref x1), .val (.ref x2), .val (.int (Int32.ofNat i)), .unset, .unset] [(.int (Int32.ofNat i)), (.ref lb), (.long ((sv i).toInt64)), (.long (own_pk (own_x sv lo kb) kb i (own_st kb i / 64))), (.int (Int32.ofNat (own_st kb i / 64))), (.ref x2)])) rfl rfl (hb hby d10_106)) ?_
    show ownGo p.tables e below T251 (mkF m 107 #[.val (.ref x0), .val (.ref x1), .val (.ref x2), .val (.int (Int32.ofNat i)), .unset, .unset] [(.int (lo i)), (.long ((sv i).toInt64)), (.long (own_pk (own_x sv lo kb) kb i (own_st kb i / 64))), (.int (Int32.ofNat (own_st kb i / 64))), (.ref x2)]) _
    refine ownGo.st (fun _ k => XS.i2l X251.here hx rfl (hb hby d10_107) rfl k) ?_
    show ownGo p.tables e below T251 (mkF m 108 #[.val (.ref x0), .val (.ref x1), .val (.ref x2), .val (.int (Int32.ofNat i)), .unset, .unset] [(.long ((lo i).toInt64)), (.long ((sv i).toInt64)), (.long (own_pk (own_x sv lo kb) kb i (own_st kb i / 64))), (.int (Int32.ofNat (own_st kb i / 64))), (.ref x2)]) _
    refine ownGo.st (fun _ k => XS.lsub X251.here hx rfl (hb hby d10_108) rfl k) ?_
    show ownGo p.tables e below T251 (mkF m 109 #[.val (.ref x0), .val (.ref x1), .val (.ref x2), .val (.int (Int32.ofNat i)), .unset, .unset] [(.long (((sv i).toInt64) - ((lo i).toInt64))), (.long (own_pk (own_x sv lo kb) kb i (own_st kb i / 64))), (.int (Int32.ofNat (own_st kb i / 64))), (.ref x2)]) _
    refine ownGo.st (fun _ k => XS.aloadN X251.here hx rfl (hb hby d10_109) rfl rfl k) ?_
    show ownGo p.tables e below T251 (mkF m 110 #[.val (.ref x0), .val (.ref x1), .val (.ref x2), .val (.int (Int32.ofNat i)), .unset, .unset] [(.ref x0), (.long (((sv i).toInt64) - ((lo i).toInt64))), (.long (own_pk (own_x sv lo kb) kb i (own_st kb i / 64))), (.int (Int32.ofNat (own_st kb i / 64))), (.ref x2)]) _
    obtain ⟨T252, X252, e252, st252⟩ := getF X251 hx hZ hown (host := "") (Or.inl (own_at hw 45 rfl)) Via.refl e251 G3 (g := (mkF m 110 #[.val (.ref x0), .val (.ref x1), .val (.ref x2), .val (.int (Int32.ofNat i)), .unset, .unset] [(.ref x0), (.long (((sv i).toInt64) - ((lo i).toInt64))), (.long (own_pk (own_x sv lo kb) kb i (own_st kb i / 64))), (.int (Int32.ofNat (own_st kb i / 64))), (.ref x2)])) rfl rfl (hb hby d10_110)
    refine ownGo.st (st252) ?_
    show ownGo p.tables e below T252 (mkF m 113 #[.val (.ref x0), .val (.ref x1), .val (.ref x2), .val (.int (Int32.ofNat i)), .unset, .unset] [(.ref sh), (.long (((sv i).toInt64) - ((lo i).toInt64))), (.long (own_pk (own_x sv lo kb) kb i (own_st kb i / 64))), (.int (Int32.ofNat (own_st kb i / 64))), (.ref x2)]) _
    refine ownGo.st (fun _ k => XS.iloadN X252.here hx rfl (hb hby d10_113) rfl k) ?_
    show ownGo p.tables e below T252 (mkF m 114 #[.val (.ref x0), .val (.ref x1), .val (.ref x2), .val (.int (Int32.ofNat i)), .unset, .unset] [(.int (Int32.ofNat i)), (.ref sh), (.long (((sv i).toInt64) - ((lo i).toInt64))), (.long (own_pk (own_x sv lo kb) kb i (own_st kb i / 64))), (.int (Int32.ofNat (own_st kb i / 64))), (.ref x2)]) _
    refine ownGo.st (own_iaload X252 hx hZ e252 Vs (i := i) (v := (Int32.ofNat (own_st kb i % 64))) rfl (by omega) rfl (g := (mkF m 114 #[.val (.ref x0), .val (.ref x1), .val (.ref x2), .val (.int (Int32.ofNat i)), .unset, .unset] [(.int (Int32.ofNat i)), (.ref sh), (.long (((sv i).toInt64) - ((lo i).toInt64))), (.long (own_pk (own_x sv lo kb) kb i (own_st kb i / 64))), (.int (Int32.ofNat (own_st kb i / 64))), (.ref x2)])) rfl rfl (hb hby d10_114)) ?_
    show ownGo p.tables e below T252 (mkF m 115 #[.val (.ref x0), .val (.ref x1), .val (.ref x2), .val (.int (Int32.ofNat i)), .unset, .unset] [(.int (Int32.ofNat (own_st kb i % 64))), (.long (((sv i).toInt64) - ((lo i).toInt64))), (.long (own_pk (own_x sv lo kb) kb i (own_st kb i / 64))), (.int (Int32.ofNat (own_st kb i / 64))), (.ref x2)]) _
    refine ownGo.st (fun _ k => XS.lshl X252.here hx rfl (hb hby d10_115) rfl k) ?_
    show ownGo p.tables e below T252 (mkF m 116 #[.val (.ref x0), .val (.ref x1), .val (.ref x2), .val (.int (Int32.ofNat i)), .unset, .unset] [(.long (own_lshl (((sv i).toInt64) - ((lo i).toInt64)) (Int32.ofNat (own_st kb i % 64)))), (.long (own_pk (own_x sv lo kb) kb i (own_st kb i / 64))), (.int (Int32.ofNat (own_st kb i / 64))), (.ref x2)]) _
    refine ownGo.st (fun _ k => XS.lor X252.here hx rfl (hb hby d10_116) rfl k) ?_
    show ownGo p.tables e below T252 (mkF m 117 #[.val (.ref x0), .val (.ref x1), .val (.ref x2), .val (.int (Int32.ofNat i)), .unset, .unset] [(.long ((own_pk (own_x sv lo kb) kb i (own_st kb i / 64)) ||| (own_lshl (((sv i).toInt64) - ((lo i).toInt64)) (Int32.ofNat (own_st kb i % 64))))), (.int (Int32.ofNat (own_st kb i / 64))), (.ref x2)]) _
    obtain ⟨T253, h253, X253, e253, W253, V_x2_253, st253⟩ := own_lastore X252 hx hZ e252 V2 (i := (own_st kb i / 64)) rfl (by omega) (g := (mkF m 117 #[.val (.ref x0), .val (.ref x1), .val (.ref x2), .val (.int (Int32.ofNat i)), .unset, .unset] [(.long ((own_pk (own_x sv lo kb) kb i (own_st kb i / 64)) ||| (own_lshl (((sv i).toInt64) - ((lo i).toInt64)) (Int32.ofNat (own_st kb i % 64))))), (.int (Int32.ofNat (own_st kb i / 64))), (.ref x2)])) rfl rfl (hb hby d10_117)
    have F1_254 := F1.other W253 (Or.inl ne_x0)
    have F2_255 := F2.other W253 (Or.inl ne_x0)
    have G1_256 := G1.other W253 (Or.inl ne_x0)
    have G2_257 := G2.other W253 (Or.inl ne_x0)
    have G3_258 := G3.other W253 (Or.inl ne_x0)
    have G4_259 := G4.other W253 (Or.inl ne_x0)
    have VL_260 := VL.other W253 ne_lb
    have Vw_261 := Vw.other W253 ne_w
    have Vs_262 := Vs.other W253 ne_sh
    have Vk_263 := Vk.other W253 ne_k
    have V1_264 := V1.other W253 ne_x1
    have N253 := Fr.snoc X253 N0 gz_x2
    have Z253 : n0 ≤ h253.size := Nat.le_trans Z1 (Nat.le_of_eq W253.size.symm)
    have K253 := K0.wr W253 (Or.inl (List.mem_singleton.mpr rfl))
    refine ownGo.st (st253) ?_
    show ownGo p.tables e below T253 (mkF m 118 #[.val (.ref x0), .val (.ref x1), .val (.ref x2), .val (.int (Int32.ofNat i)), .unset, .unset] []) _
    refine ownGo.st (fun _ k => XS.iinc X253.here hx rfl (hb hby d10_118) rfl (l' := #[.val (.ref x0), .val (.ref x1), .val (.ref x2), .val (.int ((Int32.ofNat i) + (1 : Int32))), .unset, .unset]) rfl k) ?_
    show ownGo p.tables e below T253 (mkF m 121 #[.val (.ref x0), .val (.ref x1), .val (.ref x2), .val (.int ((Int32.ofNat i) + (1 : Int32))), .unset, .unset] []) _
    refine ownGo.st (fun _ k => XS.goto X253.here hx rfl (pc0 := 121) (pc' := 80) rfl (hb hby d10_121) (by decide) (by decide) k) ?_
    show ownGo p.tables e below T253 (mkF m 80 #[.val (.ref x0), .val (.ref x1), .val (.ref x2), .val (.int ((Int32.ofNat i) + (1 : Int32))), .unset, .unset] []) _
    rw [show Int32.ofNat i + (1 : Int32) = Int32.ofNat (i + 1) from (Int32.ofNat_add i 1).symm]
    exact ih (i + 1) (by omega) T253 h253 _ _ X253 e253 N253 Z253 K253 F1_254 F2_255 G1_256 G2_257 G3_258 G4_259 VL_260 Vw_261 Vs_262 Vk_263 V1_264 V_x2_253 (fun j hj => by
      by_cases y : j = own_st kb i / 64
      · subst y; exact own_up_hit.trans (congrArg Value.long (if_pos rfl : own_pk (own_x sv lo kb) kb (i + 1) (own_st kb i / 64) = _).symm)
      · exact (own_up_miss y).trans ((hf j hj).trans (congrArg Value.long (if_neg y : own_pk (own_x sv lo kb) kb (i + 1) j = _).symm)))
theorem pn_10 : plainName "com/example/ningbo/ningbo/engine/StateLayout" = true := by first | (simp [plainName, overriddenIn]; done) | decide +kernel
theorem ef_10 (m : MethodId) (x0 : Addr) (x1 : Addr) (x2 : Addr) : entryFrame m #[(.ref x0), (.ref x1), (.ref x2)] 6 = mkF m 0 #[.val (.ref x0), .val (.ref x1), .val (.ref x2), .unset, .unset, .unset] [] := by first | (simp [entryFrame, mkF, argsToLocals, Value.category]; done) | rfl
set_option maxRecDepth 65536 in
set_option maxHeartbeats 40000000 in
theorem rm10 (l : Launch) (Z : State) (a0 : Array Value) (hw : ∀ d ∈ tables_1, d.before a0 Z = true) (x0 x1 x2 A B : Addr) (sv lo : Nat → Int32) (kb : Nat → Nat) (wv : Nat → Int64) (h0 : Heap) (n0 : Nat) (Z0 : n0 ≤ h0.size) (gz_x2 : n0 ≤ x2) (hne : x1 ≠ x2) (far : x2 < A ∨ B ≤ x2) (hk32 : ∀ i, i < 3 → kb i ≤ 32) (Y : ownLay Z h0 A B x0 3 lo kb) (V1 : ownA Z h0 x1 .int 3 (fun i => .int (sv i))) (V2 : ownA Z h0 x2 .long 2 (fun j => .long (wv j))) :
    MetFree l (⟨"com/example/ningbo/ningbo/engine/StateLayout", "pack", "([I[J)V"⟩ : MethodName) (head1 [Jvm.Cond.code (⟨"com/example/ningbo/ningbo/engine/StateLayout", "pack", "([I[J)V"⟩ : MethodName) prog_49_method_7_code 6 none] R10) (fun a U => a = #[(.ref x0), (.ref x1), (.ref x2)] ∧ Z.Warmed39 U.vm ∧ U.heap = h0) (fun _ _ _ _ _ => True) (fun _ U o U' => ∃ v L, o = .returned v ∧ ownPacked Z x2 (own_packed (own_x sv lo kb) kb wv) h0 n0 v U'.heap L ∧ FrameEnd U o U' L R10.cells R10.slots) := by
  refine MetFree.of_bodySF (plainFor_of_name pn_10) hisR ?_
  intro p e s m args below meth c s₁ Bd hml0 hP hK
  obtain ⟨rfl, hZ, hh⟩ := hP
  have hx := Bd.exec
  have hby := Bd.bytes
  have hml : c.maxLocals = 6 := hml0
  have hown : s.vm.findClass "com/example/ningbo/ningbo/engine/StateLayout" = some m.cls := findClass_of_methodNamed Bd.named
  have hnm := (name_of_methodNamed Bd.named Bd.method).1
  have hret := Bd.returns
  have hlk : meth.locks = false := BodyLoose.notSynchronized Bd
  have X0 : Stand p l e R10 s m #[(.ref x0), (.ref x1), (.ref x2)] below meth c s₁ [] 0 0 := Stand.of_body Bd
  have e0 : s₁.heap = h0 := by rw [← hh, Bd.state]; rfl
  have N0 := Fr.nil n0
  show ownGo p.tables e below s₁ (entryFrame m #[(.ref x0), (.ref x1), (.ref x2)] 6) (ownDone s (ownPacked Z x2 (own_packed (own_x sv lo kb) kb wv) h0 n0) R10.cells R10.slots)
  rw [ef_10 m x0 x1 x2]
  obtain ⟨o1, Ex, F1, F2, lb, w, sh, k, r1, r2, r3, r4, G1, G2, G3, G4, VL, Vw, Vs, Vk⟩ := Y
  have K0 : Keep h0 h0 [x2] := Keep.refl _ _
  have ne_x0 : x0 ≠ x2 := own_far o1 far
  have ne_x1 : x1 ≠ x2 := hne
  have ne_lb : lb ≠ x2 := own_far r1 far
  have ne_w : w ≠ x2 := own_far r2 far
  have ne_sh : sh ≠ x2 := own_far r3 far
  have ne_k : k ≠ x2 := own_far r4 far
  rcases (own_lay3 kb hk32).2.2 with ⟨-, -, hw1⟩ | ⟨-, -, hw2⟩
  · rw [hw1] at F2
    show ownGo p.tables e below s₁ (mkF m 0 #[.val (.ref x0), .val (.ref x1), .val (.ref x2), .unset, .unset, .unset] []) _
    refine ownGo.st (fun _ k => XS.aloadN X0.here hx rfl (hb hby d10_0) rfl rfl k) ?_
    show ownGo p.tables e below s₁ (mkF m 1 #[.val (.ref x0), .val (.ref x1), .val (.ref x2), .unset, .unset, .unset] [(.ref x0)]) _
    obtain ⟨T265, X265, e265, st265⟩ := getF X0 hx hZ hown (host := "") (Or.inl (own_at hw 63 rfl)) Via.refl e0 F2 (g := (mkF m 1 #[.val (.ref x0), .val (.ref x1), .val (.ref x2), .unset, .unset, .unset] [(.ref x0)])) rfl rfl (hb hby d10_1)
    refine ownGo.st (st265) ?_
    show ownGo p.tables e below T265 (mkF m 4 #[.val (.ref x0), .val (.ref x1), .val (.ref x2), .unset, .unset, .unset] [(.int (1 : Int32))]) _
    refine ownGo.st (fun _ k => XS.iconst X265.here hx rfl (hb hby d10_4)  k) ?_
    show ownGo p.tables e below T265 (mkF m 5 #[.val (.ref x0), .val (.ref x1), .val (.ref x2), .unset, .unset, .unset] [(.int (1 : Int32)), (.int (1 : Int32))]) _
    have hc266 : (1 : Int32) = (1 : Int32) := rfl
    refine ownGo.st (fun _ k => XS.icmpNo X265.here hx rfl (hb hby d10_5) rfl (teq hc266).2 k) ?_
    show ownGo p.tables e below T265 (mkF m 8 #[.val (.ref x0), .val (.ref x1), .val (.ref x2), .unset, .unset, .unset] []) _
    refine ownGo.st (fun _ k => XS.lconst X265.here hx rfl (hb hby d10_8)  k) ?_
    show ownGo p.tables e below T265 (mkF m 9 #[.val (.ref x0), .val (.ref x1), .val (.ref x2), .unset, .unset, .unset] [(.long (0 : Int64))]) _
    refine ownGo.st (fun _ k => XS.lstoreN X265.here hx rfl (hb hby d10_9) rfl (l' := #[.val (.ref x0), .val (.ref x1), .val (.ref x2), .val (.long (0 : Int64)), .second, .unset]) rfl k) ?_
    show ownGo p.tables e below T265 (mkF m 10 #[.val (.ref x0), .val (.ref x1), .val (.ref x2), .val (.long (0 : Int64)), .second, .unset] []) _
    refine ownGo.st (fun _ k => XS.iconst X265.here hx rfl (hb hby d10_10)  k) ?_
    show ownGo p.tables e below T265 (mkF m 11 #[.val (.ref x0), .val (.ref x1), .val (.ref x2), .val (.long (0 : Int64)), .second, .unset] [(.int (0 : Int32))]) _
    refine ownGo.st (fun _ k => XS.istore X265.here hx rfl (hb hby d10_11) rfl (l' := #[.val (.ref x0), .val (.ref x1), .val (.ref x2), .val (.long (0 : Int64)), .second, .val (.int (0 : Int32))]) rfl k) ?_
    show ownGo p.tables e below T265 (mkF m 13 #[.val (.ref x0), .val (.ref x1), .val (.ref x2), .val (.long (0 : Int64)), .second, .val (.int (0 : Int32))] []) _
    exact own_loopP1 hx hZ hw hby hml hown hret hlk N0 Z0 x0 x1 x2 lb w sh k sv lo kb wv hk32 K0 hw1 gz_x2 ne_x0 ne_x1 ne_lb ne_w ne_sh ne_k F1 F2 G1 G2 G3 G4 VL Vw Vs Vk V1 V2 3 0 rfl T265 X265 e265
  · rw [hw2] at F2
    show ownGo p.tables e below s₁ (mkF m 0 #[.val (.ref x0), .val (.ref x1), .val (.ref x2), .unset, .unset, .unset] []) _
    refine ownGo.st (fun _ k => XS.aloadN X0.here hx rfl (hb hby d10_0) rfl rfl k) ?_
    show ownGo p.tables e below s₁ (mkF m 1 #[.val (.ref x0), .val (.ref x1), .val (.ref x2), .unset, .unset, .unset] [(.ref x0)]) _
    obtain ⟨T267, X267, e267, st267⟩ := getF X0 hx hZ hown (host := "") (Or.inl (own_at hw 63 rfl)) Via.refl e0 F2 (g := (mkF m 1 #[.val (.ref x0), .val (.ref x1), .val (.ref x2), .unset, .unset, .unset] [(.ref x0)])) rfl rfl (hb hby d10_1)
    refine ownGo.st (st267) ?_
    show ownGo p.tables e below T267 (mkF m 4 #[.val (.ref x0), .val (.ref x1), .val (.ref x2), .unset, .unset, .unset] [(.int (2 : Int32))]) _
    refine ownGo.st (fun _ k => XS.iconst X267.here hx rfl (hb hby d10_4)  k) ?_
    show ownGo p.tables e below T267 (mkF m 5 #[.val (.ref x0), .val (.ref x1), .val (.ref x2), .unset, .unset, .unset] [(.int (1 : Int32)), (.int (2 : Int32))]) _
    have hc268 : ¬ ((2 : Int32) = (1 : Int32)) := (by decide)
    refine ownGo.st (fun _ k => XS.icmpYes X267.here hx rfl (pc0 := 5) (pc' := 58) rfl (hb hby d10_5) rfl (feq hc268).2 (by decide) (by decide) k) ?_
    show ownGo p.tables e below T267 (mkF m 58 #[.val (.ref x0), .val (.ref x1), .val (.ref x2), .unset, .unset, .unset] []) _
    refine ownGo.st (fun _ k => XS.iconst X267.here hx rfl (hb hby d10_58)  k) ?_
    show ownGo p.tables e below T267 (mkF m 59 #[.val (.ref x0), .val (.ref x1), .val (.ref x2), .unset, .unset, .unset] [(.int (0 : Int32))]) _
    refine ownGo.st (fun _ k => XS.istoreN X267.here hx rfl (hb hby d10_59) rfl (l' := #[.val (.ref x0), .val (.ref x1), .val (.ref x2), .val (.int (0 : Int32)), .unset, .unset]) rfl k) ?_
    show ownGo p.tables e below T267 (mkF m 60 #[.val (.ref x0), .val (.ref x1), .val (.ref x2), .val (.int (0 : Int32)), .unset, .unset] []) _
    refine ownGo.st (fun _ k => XS.iloadN X267.here hx rfl (hb hby d10_60) rfl k) ?_
    show ownGo p.tables e below T267 (mkF m 61 #[.val (.ref x0), .val (.ref x1), .val (.ref x2), .val (.int (0 : Int32)), .unset, .unset] [(.int (0 : Int32))]) _
    refine ownGo.st (fun _ k => XS.aloadN X267.here hx rfl (hb hby d10_61) rfl rfl k) ?_
    show ownGo p.tables e below T267 (mkF m 62 #[.val (.ref x0), .val (.ref x1), .val (.ref x2), .val (.int (0 : Int32)), .unset, .unset] [(.ref x0), (.int (0 : Int32))]) _
    obtain ⟨T269, X269, e269, st269⟩ := getF X267 hx hZ hown (host := "") (Or.inl (own_at hw 63 rfl)) Via.refl e267 F2 (g := (mkF m 62 #[.val (.ref x0), .val (.ref x1), .val (.ref x2), .val (.int (0 : Int32)), .unset, .unset] [(.ref x0), (.int (0 : Int32))])) rfl rfl (hb hby d10_62)
    refine ownGo.st (st269) ?_
    show ownGo p.tables e below T269 (mkF m 65 #[.val (.ref x0), .val (.ref x1), .val (.ref x2), .val (.int (0 : Int32)), .unset, .unset] [(.int (2 : Int32)), (.int (0 : Int32))]) _
    have hc270 : (0 : Int32) < (2 : Int32) := (by decide)
    refine ownGo.st (fun _ k => XS.icmpNo X269.here hx rfl (hb hby d10_65) rfl (tlt hc270).2.1 k) ?_
    show ownGo p.tables e below T269 (mkF m 68 #[.val (.ref x0), .val (.ref x1), .val (.ref x2), .val (.int (0 : Int32)), .unset, .unset] []) _
    refine ownGo.st (fun _ k => XS.aloadN X269.here hx rfl (hb hby d10_68) rfl rfl k) ?_
    show ownGo p.tables e below T269 (mkF m 69 #[.val (.ref x0), .val (.ref x1), .val (.ref x2), .val (.int (0 : Int32)), .unset, .unset] [(.ref x2)]) _
    refine ownGo.st (fun _ k => XS.iloadN X269.here hx rfl (hb hby d10_69) rfl k) ?_
    show ownGo p.tables e below T269 (mkF m 70 #[.val (.ref x0), .val (.ref x1), .val (.ref x2), .val (.int (0 : Int32)), .unset, .unset] [(.int (0 : Int32)), (.ref x2)]) _
    refine ownGo.st (fun _ k => XS.lconst X269.here hx rfl (hb hby d10_70)  k) ?_
    show ownGo p.tables e below T269 (mkF m 71 #[.val (.ref x0), .val (.ref x1), .val (.ref x2), .val (.int (0 : Int32)), .unset, .unset] [(.long (0 : Int64)), (.int (0 : Int32)), (.ref x2)]) _
    obtain ⟨T271, h271, X271, e271, W271, V_x2_271, st271⟩ := own_lastore X269 hx hZ e269 V2 (i := 0) (by decide) (by decide) (g := (mkF m 71 #[.val (.ref x0), .val (.ref x1), .val (.ref x2), .val (.int (0 : Int32)), .unset, .unset] [(.long (0 : Int64)), (.int (0 : Int32)), (.ref x2)])) rfl rfl (hb hby d10_71)
    have F1_272 := F1.other W271 (Or.inl ne_x0)
    have F2_273 := F2.other W271 (Or.inl ne_x0)
    have G1_274 := G1.other W271 (Or.inl ne_x0)
    have G2_275 := G2.other W271 (Or.inl ne_x0)
    have G3_276 := G3.other W271 (Or.inl ne_x0)
    have G4_277 := G4.other W271 (Or.inl ne_x0)
    have VL_278 := VL.other W271 ne_lb
    have Vw_279 := Vw.other W271 ne_w
    have Vs_280 := Vs.other W271 ne_sh
    have Vk_281 := Vk.other W271 ne_k
    have V1_282 := V1.other W271 ne_x1
    have N271 := Fr.snoc X271 N0 gz_x2
    have Z271 : n0 ≤ h271.size := Nat.le_trans Z0 (Nat.le_of_eq W271.size.symm)
    have K271 := K0.wr W271 (Or.inl (List.mem_singleton.mpr rfl))
    refine ownGo.st (st271) ?_
    show ownGo p.tables e below T271 (mkF m 72 #[.val (.ref x0), .val (.ref x1), .val (.ref x2), .val (.int (0 : Int32)), .unset, .unset] []) _
    refine ownGo.st (fun _ k => XS.iinc X271.here hx rfl (hb hby d10_72) rfl (l' := #[.val (.ref x0), .val (.ref x1), .val (.ref x2), .val (.int ((0 : Int32) + (1 : Int32))), .unset, .unset]) rfl k) ?_
    show ownGo p.tables e below T271 (mkF m 75 #[.val (.ref x0), .val (.ref x1), .val (.ref x2), .val (.int ((0 : Int32) + (1 : Int32))), .unset, .unset] []) _
    refine ownGo.st (fun _ k => XS.goto X271.here hx rfl (pc0 := 75) (pc' := 60) rfl (hb hby d10_75) (by decide) (by decide) k) ?_
    show ownGo p.tables e below T271 (mkF m 60 #[.val (.ref x0), .val (.ref x1), .val (.ref x2), .val (.int ((0 : Int32) + (1 : Int32))), .unset, .unset] []) _
    refine ownGo.st (fun _ k => XS.iloadN X271.here hx rfl (hb hby d10_60) rfl k) ?_
    show ownGo p.tables e below T271 (mkF m 61 #[.val (.ref x0), .val (.ref x1), .val (.ref x2), .val (.int ((0 : Int32) + (1 : Int32))), .unset, .unset] [(.int ((0 : Int32) + (1 : Int32)))]) _
    refine ownGo.st (fun _ k => XS.aloadN X271.here hx rfl (hb hby d10_61) rfl rfl k) ?_
    show ownGo p.tables e below T271 (mkF m 62 #[.val (.ref x0), .val (.ref x1), .val (.ref x2), .val (.int ((0 : Int32) + (1 : Int32))), .unset, .unset] [(.ref x0), (.int ((0 : Int32) + (1 : Int32)))]) _
    obtain ⟨T283, X283, e283, st283⟩ := getF X271 hx hZ hown (host := "") (Or.inl (own_at hw 63 rfl)) Via.refl e271 F2_273 (g := (mkF m 62 #[.val (.ref x0), .val (.ref x1), .val (.ref x2), .val (.int ((0 : Int32) + (1 : Int32))), .unset, .unset] [(.ref x0), (.int ((0 : Int32) + (1 : Int32)))])) rfl rfl (hb hby d10_62)
    refine ownGo.st (st283) ?_
    show ownGo p.tables e below T283 (mkF m 65 #[.val (.ref x0), .val (.ref x1), .val (.ref x2), .val (.int ((0 : Int32) + (1 : Int32))), .unset, .unset] [(.int (2 : Int32)), (.int ((0 : Int32) + (1 : Int32)))]) _
    have hc284 : ((0 : Int32) + (1 : Int32)) < (2 : Int32) := (by decide)
    refine ownGo.st (fun _ k => XS.icmpNo X283.here hx rfl (hb hby d10_65) rfl (tlt hc284).2.1 k) ?_
    show ownGo p.tables e below T283 (mkF m 68 #[.val (.ref x0), .val (.ref x1), .val (.ref x2), .val (.int ((0 : Int32) + (1 : Int32))), .unset, .unset] []) _
    refine ownGo.st (fun _ k => XS.aloadN X283.here hx rfl (hb hby d10_68) rfl rfl k) ?_
    show ownGo p.tables e below T283 (mkF m 69 #[.val (.ref x0), .val (.ref x1), .val (.ref x2), .val (.int ((0 : Int32) + (1 : Int32))), .unset, .unset] [(.ref x2)]) _
    refine ownGo.st (fun _ k => XS.iloadN X283.here hx rfl (hb hby d10_69) rfl k) ?_
    show ownGo p.tables e below T283 (mkF m 70 #[.val (.ref x0), .val (.ref x1), .val (.ref x2), .val (.int ((0 : Int32) + (1 : Int32))), .unset, .unset] [(.int ((0 : Int32) + (1 : Int32))), (.ref x2)]) _
    refine ownGo.st (fun _ k => XS.lconst X283.here hx rfl (hb hby d10_70)  k) ?_
    show ownGo p.tables e below T283 (mkF m 71 #[.val (.ref x0), .val (.ref x1), .val (.ref x2), .val (.int ((0 : Int32) + (1 : Int32))), .unset, .unset] [(.long (0 : Int64)), (.int ((0 : Int32) + (1 : Int32))), (.ref x2)]) _
    obtain ⟨T285, h285, X285, e285, W285, V_x2_285, st285⟩ := own_lastore X283 hx hZ e283 V_x2_271 (i := 1) (by decide) (by decide) (g := (mkF m 71 #[.val (.ref x0), .val (.ref x1), .val (.ref x2), .val (.int ((0 : Int32) + (1 : Int32))), .unset, .unset] [(.long (0 : Int64)), (.int ((0 : Int32) + (1 : Int32))), (.ref x2)])) rfl rfl (hb hby d10_71)
    have F1_286 := F1_272.other W285 (Or.inl ne_x0)
    have F2_287 := F2_273.other W285 (Or.inl ne_x0)
    have G1_288 := G1_274.other W285 (Or.inl ne_x0)
    have G2_289 := G2_275.other W285 (Or.inl ne_x0)
    have G3_290 := G3_276.other W285 (Or.inl ne_x0)
    have G4_291 := G4_277.other W285 (Or.inl ne_x0)
    have VL_292 := VL_278.other W285 ne_lb
    have Vw_293 := Vw_279.other W285 ne_w
    have Vs_294 := Vs_280.other W285 ne_sh
    have Vk_295 := Vk_281.other W285 ne_k
    have V1_296 := V1_282.other W285 ne_x1
    have N285 := Fr.snoc X285 N271 gz_x2
    have Z285 : n0 ≤ h285.size := Nat.le_trans Z271 (Nat.le_of_eq W285.size.symm)
    have K285 := K271.wr W285 (Or.inl (List.mem_singleton.mpr rfl))
    refine ownGo.st (st285) ?_
    show ownGo p.tables e below T285 (mkF m 72 #[.val (.ref x0), .val (.ref x1), .val (.ref x2), .val (.int ((0 : Int32) + (1 : Int32))), .unset, .unset] []) _
    refine ownGo.st (fun _ k => XS.iinc X285.here hx rfl (hb hby d10_72) rfl (l' := #[.val (.ref x0), .val (.ref x1), .val (.ref x2), .val (.int (((0 : Int32) + (1 : Int32)) + (1 : Int32))), .unset, .unset]) rfl k) ?_
    show ownGo p.tables e below T285 (mkF m 75 #[.val (.ref x0), .val (.ref x1), .val (.ref x2), .val (.int (((0 : Int32) + (1 : Int32)) + (1 : Int32))), .unset, .unset] []) _
    refine ownGo.st (fun _ k => XS.goto X285.here hx rfl (pc0 := 75) (pc' := 60) rfl (hb hby d10_75) (by decide) (by decide) k) ?_
    show ownGo p.tables e below T285 (mkF m 60 #[.val (.ref x0), .val (.ref x1), .val (.ref x2), .val (.int (((0 : Int32) + (1 : Int32)) + (1 : Int32))), .unset, .unset] []) _
    refine ownGo.st (fun _ k => XS.iloadN X285.here hx rfl (hb hby d10_60) rfl k) ?_
    show ownGo p.tables e below T285 (mkF m 61 #[.val (.ref x0), .val (.ref x1), .val (.ref x2), .val (.int (((0 : Int32) + (1 : Int32)) + (1 : Int32))), .unset, .unset] [(.int (((0 : Int32) + (1 : Int32)) + (1 : Int32)))]) _
    refine ownGo.st (fun _ k => XS.aloadN X285.here hx rfl (hb hby d10_61) rfl rfl k) ?_
    show ownGo p.tables e below T285 (mkF m 62 #[.val (.ref x0), .val (.ref x1), .val (.ref x2), .val (.int (((0 : Int32) + (1 : Int32)) + (1 : Int32))), .unset, .unset] [(.ref x0), (.int (((0 : Int32) + (1 : Int32)) + (1 : Int32)))]) _
    obtain ⟨T297, X297, e297, st297⟩ := getF X285 hx hZ hown (host := "") (Or.inl (own_at hw 63 rfl)) Via.refl e285 F2_287 (g := (mkF m 62 #[.val (.ref x0), .val (.ref x1), .val (.ref x2), .val (.int (((0 : Int32) + (1 : Int32)) + (1 : Int32))), .unset, .unset] [(.ref x0), (.int (((0 : Int32) + (1 : Int32)) + (1 : Int32)))])) rfl rfl (hb hby d10_62)
    refine ownGo.st (st297) ?_
    show ownGo p.tables e below T297 (mkF m 65 #[.val (.ref x0), .val (.ref x1), .val (.ref x2), .val (.int (((0 : Int32) + (1 : Int32)) + (1 : Int32))), .unset, .unset] [(.int (2 : Int32)), (.int (((0 : Int32) + (1 : Int32)) + (1 : Int32)))]) _
    have hc298 : ¬ ((((0 : Int32) + (1 : Int32)) + (1 : Int32)) < (2 : Int32)) := (by decide)
    refine ownGo.st (fun _ k => XS.icmpYes X297.here hx rfl (pc0 := 65) (pc' := 78) rfl (hb hby d10_65) rfl (flt hc298).2.1 (by decide) (by decide) k) ?_
    show ownGo p.tables e below T297 (mkF m 78 #[.val (.ref x0), .val (.ref x1), .val (.ref x2), .val (.int (((0 : Int32) + (1 : Int32)) + (1 : Int32))), .unset, .unset] []) _
    refine ownGo.st (fun _ k => XS.iconst X297.here hx rfl (hb hby d10_78)  k) ?_
    show ownGo p.tables e below T297 (mkF m 79 #[.val (.ref x0), .val (.ref x1), .val (.ref x2), .val (.int (((0 : Int32) + (1 : Int32)) + (1 : Int32))), .unset, .unset] [(.int (0 : Int32))]) _
    refine ownGo.st (fun _ k => XS.istoreN X297.here hx rfl (hb hby d10_79) rfl (l' := #[.val (.ref x0), .val (.ref x1), .val (.ref x2), .val (.int (0 : Int32)), .unset, .unset]) rfl k) ?_
    show ownGo p.tables e below T297 (mkF m 80 #[.val (.ref x0), .val (.ref x1), .val (.ref x2), .val (.int (0 : Int32)), .unset, .unset] []) _
    exact own_loopP2 hx hZ hw hby hml hown hret hlk x0 x1 x2 lb w sh k sv lo kb wv hk32 hw2 gz_x2 ne_x0 ne_x1 ne_lb ne_w ne_sh ne_k 3 0 rfl T297 h285 _ _ X297 e297 N285 Z285 K285 F1_286 F2_287 G1_288 G2_289 G3_290 G4_291 VL_292 Vw_293 Vs_294 Vk_295 V1_296 V_x2_285 (fun j hj => by
    have q : j = 0 ∨ j = 1 := by omega
    rcases q with rfl | rfl <;> rfl)
def own_three (a b c : Int32) : Nat → Int32
  | 0 => a
  | 1 => b
  | _ => c
def own_threeN (a b c : Nat) : Nat → Nat
  | 0 => a
  | 1 => b
  | _ => c
def own_pairL (a b : Int64) : Nat → Int64
  | 0 => a
  | _ => b
theorem own_case3 {P : Nat → Prop} (h0 : P 0) (h1 : P 1) (h2 : P 2) : ∀ i, i < 3 → P i := fun i hi => by
  have q : i = 0 ∨ i = 1 ∨ i = 2 := by omega
  rcases q with rfl | rfl | rfl
  · exact h0
  · exact h1
  · exact h2
theorem own_lshl0 (x : Int64) : own_lshl x (Int32.ofNat 0) = x := by
  apply Int64.toBitVec_inj.mp
  rw [own_lshl_bv x 0 (by decide)]
  simp
theorem own_lshl64 (x : Int64) (a : Nat) (h : a ≤ 64) : own_lshl x (Int32.ofNat a) = own_lshl x (Int32.ofNat (a % 64)) := by
  by_cases q : a = 64
  · subst q
    have e : (Int32.ofNat 64 &&& 0x3f) = (Int32.ofNat (64 % 64) &&& 0x3f) := by decide
    show x <<< (Int32.ofNat 64 &&& 0x3f).toInt64 = x <<< (Int32.ofNat (64 % 64) &&& 0x3f).toInt64
    rw [e]
  · rw [Nat.mod_eq_of_lt (by omega)]
theorem own_bits33 (p : Int64) : ∃ k, k < 33 ∧ F1 p = Int32.ofNat k := by
  have q := c_maskL p 63 6 (by decide) (by decide)
  have q2 := (c_lrem (p &&& (63 : Int64)) (33 : Int64) 33 rfl).1 (by rw [q]; omega)
  rw [lrem_mod] at q2
  have q3 := c_l2i ((p &&& (63 : Int64)) % (33 : Int64))
  have r := (F1 p).toInt_lt
  have r' := (F1 p).le_toInt
  have e : F1 p = ((p &&& (63 : Int64)) % (33 : Int64)).toInt32 := rfl
  rw [e] at r r' ⊢
  rw [q2] at q3
  refine own_idx _ 33 ?_ ?_ <;> omega
theorem own_mk_int (k : Nat) (hk : k ≤ 32) : (own_mk k).toInt = ((2 ^ k : Nat) : Int) - 1 := by
  have p1 : 0 < 2 ^ k := Nat.two_pow_pos k
  have p2 : 2 ^ k ≤ 2 ^ 32 := Nat.pow_le_pow_right (by decide) hk
  have e := own_mk_nat k (by omega)
  have c : (own_mk k).toInt = (own_mk k).toBitVec.toInt := rfl
  rw [c, BitVec.toInt_eq_toNat_cond, e, if_pos (by omega)]
  omega
theorem own_low (x : Int64) (k : Nat) (hk : k ≤ 32) : (F2 x (own_mk k)).toInt + ((2 ^ k : Nat) : Int) ≤ 2147483648 := by
  have p1 : 0 < 2 ^ k := Nat.two_pow_pos k
  have p2 : 2 ^ k ≤ 2 ^ 32 := Nat.pow_le_pow_right (by decide) hk
  have a := c_lshr x 32 32 (by decide)
  have b := c_lsub (2147483647 : Int64) (own_mk k)
  rw [own_mk_int k hk, show (2147483647 : Int64).toInt = 2147483647 from rfl] at b
  have r1 := ((2147483647 : Int64) - own_mk k).toInt_lt
  have r2 := ((2147483647 : Int64) - own_mk k).le_toInt
  have r3 := x.toInt_lt
  have r4 := x.le_toInt
  have e : F2 x (own_mk k) = ((if ((2147483647 : Int64) - own_mk k) < (own_lshr x (32 : Int32)) then ((2147483647 : Int64) - own_mk k) else (own_lshr x (32 : Int32)))).toInt32 := rfl
  have a' : (own_lshr x (32 : Int32)).toInt = x.toInt / 4294967296 := a
  rw [e]
  by_cases q : ((2147483647 : Int64) - own_mk k) < (own_lshr x (32 : Int32))
  · rw [if_pos q]
    have t := c_l2i ((2147483647 : Int64) - own_mk k)
    have r5 := ((2147483647 : Int64) - own_mk k).toInt32.toInt_lt
    have r6 := ((2147483647 : Int64) - own_mk k).toInt32.le_toInt
    omega
  · rw [if_neg q]
    rw [Int64.lt_iff_toInt_lt, a'] at q
    have t := c_l2i (own_lshr x (32 : Int32))
    rw [a'] at t
    have r5 := (own_lshr x (32 : Int32)).toInt32.toInt_lt
    have r6 := (own_lshr x (32 : Int32)).toInt32.le_toInt
    omega
/-- l + d stays an int -/
theorem own_plus (l : Int32) (d : Int64) (k : Nat) (h0 : 0 ≤ d.toInt) (h1 : d.toInt < ((2 ^ k : Nat) : Int)) (hl : l.toInt + ((2 ^ k : Nat) : Int) ≤ 2147483648) : ((l.toInt64 + d).toInt32).toInt64 - l.toInt64 = d := by
  have p1 : 0 < 2 ^ k := Nat.two_pow_pos k
  apply Int64.toInt_inj.mp
  have a := c_ladd l.toInt64 d
  have b := c_l2i (l.toInt64 + d)
  have e := c_lsub ((l.toInt64 + d).toInt32).toInt64 l.toInt64
  rw [c_i2l] at a
  rw [c_i2l, c_i2l] at e
  have r1 := l.toInt_lt
  have r2 := l.le_toInt
  have r3 := ((l.toInt64 + d).toInt32).toInt_lt
  have r4 := ((l.toInt64 + d).toInt32).le_toInt
  have r5 := (((l.toInt64 + d).toInt32).toInt64 - l.toInt64).toInt_lt
  have r6 := (((l.toInt64 + d).toInt32).toInt64 - l.toInt64).le_toInt
  have r7 := (l.toInt64 + d).toInt_lt
  have r8 := (l.toInt64 + d).le_toInt
  omega
theorem own_dd (x : Int64) (k : Nat) (hk : k ≤ 32) : 0 ≤ ((x &&& (4294967295 : Int64)) &&& own_mk k).toInt ∧ ((x &&& (4294967295 : Int64)) &&& own_mk k).toInt < ((2 ^ k : Nat) : Int) := by
  have p1 : 0 < 2 ^ k := Nat.two_pow_pos k
  have p2 : 2 ^ k ≤ 2 ^ 32 := Nat.pow_le_pow_right (by decide) hk
  have e := own_mk_nat k (by omega)
  have le : ((x &&& (4294967295 : Int64)) &&& own_mk k).toBitVec.toNat ≤ 2 ^ k - 1 := by
    rw [Int64.toBitVec_and, BitVec.toNat_and, e]
    exact Nat.and_le_right
  have c : ((x &&& (4294967295 : Int64)) &&& own_mk k).toInt = ((x &&& (4294967295 : Int64)) &&& own_mk k).toBitVec.toInt := rfl
  rw [c, BitVec.toInt_eq_toNat_cond, if_pos (by omega)]
  omega
theorem own_sp (f : Int64) (k : Nat) (h1 : 1 ≤ k) (hk : k ≤ 32) : ((2 ^ (k - 1) : Nat) : Int) ≤ ((own_lshl (1 : Int64) (Int32.ofNat (k - 1))) ||| (f &&& own_mk (k - 1))).toInt ∧ ((own_lshl (1 : Int64) (Int32.ofNat (k - 1))) ||| (f &&& own_mk (k - 1))).toInt < ((2 ^ k : Nat) : Int) := by
  have p1 : 0 < 2 ^ (k - 1) := Nat.two_pow_pos _
  have p2 : 2 ^ k ≤ 2 ^ 32 := Nat.pow_le_pow_right (by decide) hk
  have p3 : 2 ^ k = 2 ^ (k - 1) * 2 := by rw [← Nat.pow_succ]; congr 1; omega
  have e := own_mk_nat (k - 1) (by omega)
  have eb : ((own_lshl (1 : Int64) (Int32.ofNat (k - 1))) ||| (f &&& own_mk (k - 1))).toBitVec.toNat = 2 ^ (k - 1) ||| (f.toBitVec.toNat &&& (2 ^ (k - 1) - 1)) := by
    rw [Int64.toBitVec_or, BitVec.toNat_or, Int64.toBitVec_and, BitVec.toNat_and, e, own_lshl_bv 1 (k - 1) (by omega), BitVec.toNat_shiftLeft, show (1 : Int64).toBitVec.toNat = 1 from rfl, Nat.shiftLeft_eq, Nat.one_mul, Nat.mod_eq_of_lt (by omega)]
  have lo : 2 ^ (k - 1) ≤ 2 ^ (k - 1) ||| (f.toBitVec.toNat &&& (2 ^ (k - 1) - 1)) := Nat.left_le_or
  have hi : 2 ^ (k - 1) ||| (f.toBitVec.toNat &&& (2 ^ (k - 1) - 1)) < 2 ^ k := by
    apply Nat.or_lt_two_pow
    · omega
    · have : f.toBitVec.toNat &&& (2 ^ (k - 1) - 1) ≤ 2 ^ (k - 1) - 1 := Nat.and_le_right
      omega
  have c : ((own_lshl (1 : Int64) (Int32.ofNat (k - 1))) ||| (f &&& own_mk (k - 1))).toInt = ((own_lshl (1 : Int64) (Int32.ofNat (k - 1))) ||| (f &&& own_mk (k - 1))).toBitVec.toInt := rfl
  rw [c, BitVec.toInt_eq_toNat_cond, eb, if_pos (by omega)]
  omega
theorem own_upp (l : Int32) (f : Int64) (k : Nat) (hk : k ≤ 32) (hl : l.toInt + ((2 ^ k : Nat) : Int) ≤ 2147483648) : ownBits ((F4 l (Int32.ofNat k) f).toInt64 - l.toInt64).toInt k := by
  by_cases q : k = 0
  · subst q
    have e : F4 l (Int32.ofNat 0) f = ((l.toInt64 + (0 : Int64)).toInt32) := if_pos rfl
    rw [e, own_plus l 0 0 (by decide) (by decide) hl]
    exact Or.inl ⟨rfl, rfl⟩
  · have nz : ¬ Int32.ofNat k = (0 : Int32) := fun y => q ((own_eq_iff (b := 0) (by omega) (by decide)).mp y)
    have s1 : Int32.ofNat k - (1 : Int32) = Int32.ofNat (k - 1) := own_sub (b := 1) (by omega) (by omega)
    have e : F4 l (Int32.ofNat k) f = ((l.toInt64 + ((own_lshl (1 : Int64) (Int32.ofNat k - (1 : Int32))) ||| (f &&& ((own_lshl (1 : Int64) (Int32.ofNat k - (1 : Int32))) - (1 : Int64))))).toInt32) := if_neg nz
    rw [e, s1]
    have sp := own_sp f k (by omega) hk
    have g : (own_lshl (1 : Int64) (Int32.ofNat (k - 1))) - (1 : Int64) = own_mk (k - 1) := rfl
    have p1 : (0 : Int) ≤ ((2 ^ (k - 1) : Nat) : Int) := Int.natCast_nonneg _
    rw [g, own_plus l _ k (by omega) sp.2 hl]
    exact Or.inr ⟨by omega, hk, sp.1, sp.2⟩
theorem own_m1 (l0 l1 l2 s0 s1 s2 : Int32) (d0 d1 d2 g ng : Int64) (k0 k1 k2 : Nat) (h0 : k0 ≤ 32) (h1 : k1 ≤ 32) (h2 : k2 ≤ 32) (e0 : s0.toInt64 - l0.toInt64 = d0) (e1 : s1.toInt64 - l1.toInt64 = d1) (e2 : s2.toInt64 - l2.toInt64 = d2) :
    (k0 + k1 + k2 ≤ 64 → own_packed (own_x (own_three s0 s1 s2) (own_three l0 l1 l2) (own_threeN k0 k1 k2)) (own_threeN k0 k1 k2) (own_pairL g ng) 0 = (d0 ||| (own_lshl d1 (Int32.ofNat k0))) ||| (own_lshl d2 (Int32.ofNat k0 + Int32.ofNat k1)) ∧ own_packed (own_x (own_three s0 s1 s2) (own_three l0 l1 l2) (own_threeN k0 k1 k2)) (own_threeN k0 k1 k2) (own_pairL g ng) 1 = ng) ∧
    (64 < k0 + k1 + k2 → own_packed (own_x (own_three s0 s1 s2) (own_three l0 l1 l2) (own_threeN k0 k1 k2)) (own_threeN k0 k1 k2) (own_pairL g ng) 0 = d0 ||| (own_lshl d1 (Int32.ofNat k0)) ∧ own_packed (own_x (own_three s0 s1 s2) (own_three l0 l1 l2) (own_threeN k0 k1 k2)) (own_threeN k0 k1 k2) (own_pairL g ng) 1 = d2) := by
  have L := own_lay3 (own_threeN k0 k1 k2) (own_case3 h0 h1 h2)
  obtain ⟨q0, q1, q2⟩ := L
  have x0 : own_x (own_three s0 s1 s2) (own_three l0 l1 l2) (own_threeN k0 k1 k2) 0 = d0 := by
    show own_lshl (s0.toInt64 - l0.toInt64) (Int32.ofNat (own_st (own_threeN k0 k1 k2) 0 % 64)) = d0
    rw [q0, e0]; exact own_lshl0 d0
  have x1 : own_x (own_three s0 s1 s2) (own_three l0 l1 l2) (own_threeN k0 k1 k2) 1 = own_lshl d1 (Int32.ofNat k0) := by
    show own_lshl (s1.toInt64 - l1.toInt64) (Int32.ofNat (own_st (own_threeN k0 k1 k2) 1 % 64)) = _
    rw [q1, e1]; exact (own_lshl64 d1 k0 (by omega)).symm
  constructor
  · intro hS
    rcases q2 with ⟨-, q2, q3⟩ | ⟨q2, -⟩
    · have x2 : own_x (own_three s0 s1 s2) (own_three l0 l1 l2) (own_threeN k0 k1 k2) 2 = own_lshl d2 (Int32.ofNat k0 + Int32.ofNat k1) := by
        show own_lshl (s2.toInt64 - l2.toInt64) (Int32.ofNat (own_st (own_threeN k0 k1 k2) 2 % 64)) = _
        rw [q2, e2, ← Int32.ofNat_add]; exact (own_lshl64 d2 (k0 + k1) (by omega)).symm
      refine ⟨?_, ?_⟩
      · rw [own_packed, if_pos q3, if_pos rfl]
        show (((0 : Int64) ||| own_x _ _ _ 0) ||| own_x _ _ _ 1) ||| own_x _ _ _ 2 = _
        rw [x0, x1, x2, Int64.zero_or]
      · rw [own_packed, if_pos q3, if_neg (by decide)]; rfl
    · exact absurd q2 (by show ¬ 64 < k0 + k1 + k2; omega)
  · intro hS
    rcases q2 with ⟨q2, -⟩ | ⟨-, q2, q3⟩
    · exact absurd q2 (by show ¬ k0 + k1 + k2 ≤ 64; omega)
    · have x2 : own_x (own_three s0 s1 s2) (own_three l0 l1 l2) (own_threeN k0 k1 k2) 2 = d2 := by
        show own_lshl (s2.toInt64 - l2.toInt64) (Int32.ofNat (own_st (own_threeN k0 k1 k2) 2 % 64)) = _
        rw [q2, e2]; exact own_lshl0 d2
      have n1 : ¬ own_wds (own_threeN k0 k1 k2) 3 = 1 := by rw [q3]; decide
      have w0 : own_st (own_threeN k0 k1 k2) 0 / 64 = 0 := by rw [q0]
      have w1 : own_st (own_threeN k0 k1 k2) 1 / 64 = 0 := by rw [q1]; show k0 / 64 = 0; omega
      have w2 : own_st (own_threeN k0 k1 k2) 2 / 64 = 1 := by rw [q2]
      refine ⟨?_, ?_⟩
      · rw [own_packed, if_neg n1, own_pk, if_neg (by rw [w2]; decide), own_pk, if_pos w1.symm, own_pk, if_pos w0.symm, own_pk, x0, x1, Int64.zero_or]
      · rw [own_packed, if_neg n1, own_pk, if_pos w2.symm, own_pk, if_neg (by rw [w1]; decide), own_pk, if_neg (by rw [w0]; decide), own_pk, x2, Int64.zero_or]
def Q0 (n0 : Nat) (v : Option Value) (h : Heap) (L : List Loc) : Prop := v = some (.int 1) ∧ Fr n0 L
theorem pd__JJ_I : parseMethodDescriptor "(JJ)I" = some ⟨[.long, .long], some .int⟩ := by decide +kernel
theorem pd__IIJ_I : parseMethodDescriptor "(IIJ)I" = some ⟨[.int, .int, .long], some .int⟩ := by decide +kernel
theorem pd___I_I_V : parseMethodDescriptor "([I[I)V" = some ⟨[(.array .int), (.array .int)], none⟩ := by decide +kernel
theorem pd___I_J_V : parseMethodDescriptor "([I[J)V" = some ⟨[(.array .int), (.array .long)], none⟩ := by decide +kernel
theorem pn_0 : plainName "com/example/ningbo/ningbo/engine/StateLayoutPackPinLaw" = true := by first | (simp [plainName, overriddenIn]; done) | decide +kernel
theorem ef_0 (m : MethodId) (x0 : Int64) (x1 : Int64) (x2 : Int64) (x3 : Int64) (x4 : Int64) (x5 : Int64) : entryFrame m #[(.long x0), (.long x1), (.long x2), (.long x3), (.long x4), (.long x5)] maxLocals = mkF m 0 #[.val (.long x0), .second, .val (.long x1), .second, .val (.long x2), .second, .val (.long x3), .second, .val (.long x4), .second, .val (.long x5), .second, .unset, .unset, .unset, .unset, .unset, .unset, .unset, .unset, .unset, .unset, .unset, .unset, .unset, .unset, .unset, .unset, .unset, .unset, .unset, .unset, .unset, .unset, .unset, .unset, .unset, .unset, .unset] [] := by first | (simp [entryFrame, mkF, argsToLocals, Value.category, maxLocals]; done) | rfl
set_option maxRecDepth 65536 in
set_option maxHeartbeats 40000000 in
theorem rm0 (l : Launch) (Z : State) (a0 : Array Value) (hw : ∀ d ∈ tables_1, d.before a0 Z = true) (x0 : Int64) (x1 : Int64) (x2 : Int64) (x3 : Int64) (x4 : Int64) (x5 : Int64) (h0 : Heap) (n0 : Nat) (Z0 : n0 ≤ h0.size) :
    MetFree l x (head1 (Jvm.Cond.code x code maxLocals ret :: tables_1) room_1) (fun a U => a = #[(.long x0), (.long x1), (.long x2), (.long x3), (.long x4), (.long x5)] ∧ Z.Warmed39 U.vm ∧ U.heap = h0) (fun _ _ _ _ _ => True) (fun _ U o U' => ∃ v L, o = .returned v ∧ Q0 n0 v U'.heap L ∧ FrameEnd U o U' L room_1.cells room_1.slots) := by
  refine MetFree.of_bodySF (plainFor_of_name pn_0) hisR ?_
  intro p e s m args below meth c s₁ Bd hml0 hP hK
  obtain ⟨rfl, hZ, hh⟩ := hP
  have hx := Bd.exec
  have hby := Bd.bytes
  have hml : c.maxLocals = 39 := hml0
  have hown : s.vm.findClass "com/example/ningbo/ningbo/engine/StateLayoutPackPinLaw" = some m.cls := findClass_of_methodNamed Bd.named
  have hnm := (name_of_methodNamed Bd.named Bd.method).1
  have hret := Bd.returns
  have hlk : meth.locks = false := BodyLoose.notSynchronized Bd
  have X0 : Stand p l e room_1 s m #[(.long x0), (.long x1), (.long x2), (.long x3), (.long x4), (.long x5)] below meth c s₁ [] 0 0 := Stand.of_body Bd
  have e0 : s₁.heap = h0 := by rw [← hh, Bd.state]; rfl
  have N0 := Fr.nil n0
  show ownGo p.tables e below s₁ (entryFrame m #[(.long x0), (.long x1), (.long x2), (.long x3), (.long x4), (.long x5)] maxLocals) (ownDone s (Q0 n0) room_1.cells room_1.slots)
  rw [ef_0 m x0 x1 x2 x3 x4 x5]
  show ownGo p.tables e below s₁ (mkF m 0 #[.val (.long x0), .second, .val (.long x1), .second, .val (.long x2), .second, .val (.long x3), .second, .val (.long x4), .second, .val (.long x5), .second, .unset, .unset, .unset, .unset, .unset, .unset, .unset, .unset, .unset, .unset, .unset, .unset, .unset, .unset, .unset, .unset, .unset, .unset, .unset, .unset, .unset, .unset, .unset, .unset, .unset, .unset, .unset] []) _
  refine ownGo.st (fun _ k => XS.lload X0.here hx rfl (hb hby at_0) rfl k) ?_
  show ownGo p.tables e below s₁ (mkF m 2 #[.val (.long x0), .second, .val (.long x1), .second, .val (.long x2), .second, .val (.long x3), .second, .val (.long x4), .second, .val (.long x5), .second, .unset, .unset, .unset, .unset, .unset, .unset, .unset, .unset, .unset, .unset, .unset, .unset, .unset, .unset, .unset, .unset, .unset, .unset, .unset, .unset, .unset, .unset, .unset, .unset, .unset, .unset, .unset] [(.long x3)]) _
  obtain ⟨_, T299, L299, X299, hQ299, st299⟩ := own_callS X0 hx hZ hown (own_at hw 0 rfl) (own_at hw 1 rfl) (own_at hw 2 rfl) (own_at hw 3 rfl) (by decide) (rm1 l Z a0 hw x3 h0 n0) 0 (by decide) (by decide) e0 (by decide) (by decide) (g := (mkF m 2 #[.val (.long x0), .second, .val (.long x1), .second, .val (.long x2), .second, .val (.long x3), .second, .val (.long x4), .second, .val (.long x5), .second, .unset, .unset, .unset, .unset, .unset, .unset, .unset, .unset, .unset, .unset, .unset, .unset, .unset, .unset, .unset, .unset, .unset, .unset, .unset, .unset, .unset, .unset, .unset, .unset, .unset, .unset, .unset] [(.long x3)])) rfl (by rw [hml]; rfl) (argsL := [(.long x3)]) (rest := []) (lenOf pd__J_I rfl) rfl (by show 2 * 0 + _ ≤ _; exact Nat.le_of_eq rfl) (hb hby at_2)
  obtain ⟨rfl, N299q, e299⟩ := hQ299
  have N299 := Fr.app N0 N299q
  refine ownGo.st st299 ?_
  show ownGo p.tables e below T299 (mkF m 5 #[.val (.long x0), .second, .val (.long x1), .second, .val (.long x2), .second, .val (.long x3), .second, .val (.long x4), .second, .val (.long x5), .second, .unset, .unset, .unset, .unset, .unset, .unset, .unset, .unset, .unset, .unset, .unset, .unset, .unset, .unset, .unset, .unset, .unset, .unset, .unset, .unset, .unset, .unset, .unset, .unset, .unset, .unset, .unset] [(.int (F1 x3))]) _
  obtain ⟨k0, hk0, ek0⟩ := own_bits33 x3
  rw [ek0]
  show ownGo p.tables e below T299 (mkF m 5 #[.val (.long x0), .second, .val (.long x1), .second, .val (.long x2), .second, .val (.long x3), .second, .val (.long x4), .second, .val (.long x5), .second, .unset, .unset, .unset, .unset, .unset, .unset, .unset, .unset, .unset, .unset, .unset, .unset, .unset, .unset, .unset, .unset, .unset, .unset, .unset, .unset, .unset, .unset, .unset, .unset, .unset, .unset, .unset] [(.int (Int32.ofNat k0))]) _
  refine ownGo.st (fun _ k => XS.istore X299.here hx rfl (hb hby at_5) rfl (l' := #[.val (.long x0), .second, .val (.long x1), .second, .val (.long x2), .second, .val (.long x3), .second, .val (.long x4), .second, .val (.long x5), .second, .val (.int (Int32.ofNat k0)), .unset, .unset, .unset, .unset, .unset, .unset, .unset, .unset, .unset, .unset, .unset, .unset, .unset, .unset, .unset, .unset, .unset, .unset, .unset, .unset, .unset, .unset, .unset, .unset, .unset, .unset]) rfl k) ?_
  show ownGo p.tables e below T299 (mkF m 7 #[.val (.long x0), .second, .val (.long x1), .second, .val (.long x2), .second, .val (.long x3), .second, .val (.long x4), .second, .val (.long x5), .second, .val (.int (Int32.ofNat k0)), .unset, .unset, .unset, .unset, .unset, .unset, .unset, .unset, .unset, .unset, .unset, .unset, .unset, .unset, .unset, .unset, .unset, .unset, .unset, .unset, .unset, .unset, .unset, .unset, .unset, .unset] []) _
  refine ownGo.st (fun _ k => XS.lload X299.here hx rfl (hb hby at_7) rfl k) ?_
  show ownGo p.tables e below T299 (mkF m 9 #[.val (.long x0), .second, .val (.long x1), .second, .val (.long x2), .second, .val (.long x3), .second, .val (.long x4), .second, .val (.long x5), .second, .val (.int (Int32.ofNat k0)), .unset, .unset, .unset, .unset, .unset, .unset, .unset, .unset, .unset, .unset, .unset, .unset, .unset, .unset, .unset, .unset, .unset, .unset, .unset, .unset, .unset, .unset, .unset, .unset, .unset, .unset] [(.long x3)]) _
  refine ownGo.st (fun _ k => XS.bipush X299.here hx rfl (hb hby at_9)  k) ?_
  show ownGo p.tables e below T299 (mkF m 11 #[.val (.long x0), .second, .val (.long x1), .second, .val (.long x2), .second, .val (.long x3), .second, .val (.long x4), .second, .val (.long x5), .second, .val (.int (Int32.ofNat k0)), .unset, .unset, .unset, .unset, .unset, .unset, .unset, .unset, .unset, .unset, .unset, .unset, .unset, .unset, .unset, .unset, .unset, .unset, .unset, .unset, .unset, .unset, .unset, .unset, .unset, .unset] [(.int (6 : Int32)), (.long x3)]) _
  refine ownGo.st (fun _ k => XS.lushr X299.here hx rfl (hb hby at_11) rfl k) ?_
  show ownGo p.tables e below T299 (mkF m 12 #[.val (.long x0), .second, .val (.long x1), .second, .val (.long x2), .second, .val (.long x3), .second, .val (.long x4), .second, .val (.long x5), .second, .val (.int (Int32.ofNat k0)), .unset, .unset, .unset, .unset, .unset, .unset, .unset, .unset, .unset, .unset, .unset, .unset, .unset, .unset, .unset, .unset, .unset, .unset, .unset, .unset, .unset, .unset, .unset, .unset, .unset, .unset] [(.long (own_lushr x3 (6 : Int32)))]) _
  obtain ⟨_, T300, L300, X300, hQ300, st300⟩ := own_callS X299 hx hZ hown (own_at hw 0 rfl) (own_at hw 1 rfl) (own_at hw 2 rfl) (own_at hw 3 rfl) (by decide) (rm1 l Z a0 hw (own_lushr x3 (6 : Int32)) h0 n0) 0 (by decide) (by decide) e299 (by decide) (by decide) (g := (mkF m 12 #[.val (.long x0), .second, .val (.long x1), .second, .val (.long x2), .second, .val (.long x3), .second, .val (.long x4), .second, .val (.long x5), .second, .val (.int (Int32.ofNat k0)), .unset, .unset, .unset, .unset, .unset, .unset, .unset, .unset, .unset, .unset, .unset, .unset, .unset, .unset, .unset, .unset, .unset, .unset, .unset, .unset, .unset, .unset, .unset, .unset, .unset, .unset] [(.long (own_lushr x3 (6 : Int32)))])) rfl (by rw [hml]; rfl) (argsL := [(.long (own_lushr x3 (6 : Int32)))]) (rest := []) (lenOf pd__J_I rfl) rfl (by show 2 * 0 + _ ≤ _; exact Nat.le_of_eq rfl) (hb hby at_12)
  obtain ⟨rfl, N300q, e300⟩ := hQ300
  have N300 := Fr.app N299 N300q
  refine ownGo.st st300 ?_
  show ownGo p.tables e below T300 (mkF m 15 #[.val (.long x0), .second, .val (.long x1), .second, .val (.long x2), .second, .val (.long x3), .second, .val (.long x4), .second, .val (.long x5), .second, .val (.int (Int32.ofNat k0)), .unset, .unset, .unset, .unset, .unset, .unset, .unset, .unset, .unset, .unset, .unset, .unset, .unset, .unset, .unset, .unset, .unset, .unset, .unset, .unset, .unset, .unset, .unset, .unset, .unset, .unset] [(.int (F1 (own_lushr x3 (6 : Int32))))]) _
  obtain ⟨k1, hk1, ek1⟩ := own_bits33 (own_lushr x3 (6 : Int32))
  rw [ek1]
  show ownGo p.tables e below T300 (mkF m 15 #[.val (.long x0), .second, .val (.long x1), .second, .val (.long x2), .second, .val (.long x3), .second, .val (.long x4), .second, .val (.long x5), .second, .val (.int (Int32.ofNat k0)), .unset, .unset, .unset, .unset, .unset, .unset, .unset, .unset, .unset, .unset, .unset, .unset, .unset, .unset, .unset, .unset, .unset, .unset, .unset, .unset, .unset, .unset, .unset, .unset, .unset, .unset] [(.int (Int32.ofNat k1))]) _
  refine ownGo.st (fun _ k => XS.istore X300.here hx rfl (hb hby at_15) rfl (l' := #[.val (.long x0), .second, .val (.long x1), .second, .val (.long x2), .second, .val (.long x3), .second, .val (.long x4), .second, .val (.long x5), .second, .val (.int (Int32.ofNat k0)), .val (.int (Int32.ofNat k1)), .unset, .unset, .unset, .unset, .unset, .unset, .unset, .unset, .unset, .unset, .unset, .unset, .unset, .unset, .unset, .unset, .unset, .unset, .unset, .unset, .unset, .unset, .unset, .unset, .unset]) rfl k) ?_
  show ownGo p.tables e below T300 (mkF m 17 #[.val (.long x0), .second, .val (.long x1), .second, .val (.long x2), .second, .val (.long x3), .second, .val (.long x4), .second, .val (.long x5), .second, .val (.int (Int32.ofNat k0)), .val (.int (Int32.ofNat k1)), .unset, .unset, .unset, .unset, .unset, .unset, .unset, .unset, .unset, .unset, .unset, .unset, .unset, .unset, .unset, .unset, .unset, .unset, .unset, .unset, .unset, .unset, .unset, .unset, .unset] []) _
  refine ownGo.st (fun _ k => XS.lload X300.here hx rfl (hb hby at_17) rfl k) ?_
  show ownGo p.tables e below T300 (mkF m 19 #[.val (.long x0), .second, .val (.long x1), .second, .val (.long x2), .second, .val (.long x3), .second, .val (.long x4), .second, .val (.long x5), .second, .val (.int (Int32.ofNat k0)), .val (.int (Int32.ofNat k1)), .unset, .unset, .unset, .unset, .unset, .unset, .unset, .unset, .unset, .unset, .unset, .unset, .unset, .unset, .unset, .unset, .unset, .unset, .unset, .unset, .unset, .unset, .unset, .unset, .unset] [(.long x3)]) _
  refine ownGo.st (fun _ k => XS.bipush X300.here hx rfl (hb hby at_19)  k) ?_
  show ownGo p.tables e below T300 (mkF m 21 #[.val (.long x0), .second, .val (.long x1), .second, .val (.long x2), .second, .val (.long x3), .second, .val (.long x4), .second, .val (.long x5), .second, .val (.int (Int32.ofNat k0)), .val (.int (Int32.ofNat k1)), .unset, .unset, .unset, .unset, .unset, .unset, .unset, .unset, .unset, .unset, .unset, .unset, .unset, .unset, .unset, .unset, .unset, .unset, .unset, .unset, .unset, .unset, .unset, .unset, .unset] [(.int (12 : Int32)), (.long x3)]) _
  refine ownGo.st (fun _ k => XS.lushr X300.here hx rfl (hb hby at_21) rfl k) ?_
  show ownGo p.tables e below T300 (mkF m 22 #[.val (.long x0), .second, .val (.long x1), .second, .val (.long x2), .second, .val (.long x3), .second, .val (.long x4), .second, .val (.long x5), .second, .val (.int (Int32.ofNat k0)), .val (.int (Int32.ofNat k1)), .unset, .unset, .unset, .unset, .unset, .unset, .unset, .unset, .unset, .unset, .unset, .unset, .unset, .unset, .unset, .unset, .unset, .unset, .unset, .unset, .unset, .unset, .unset, .unset, .unset] [(.long (own_lushr x3 (12 : Int32)))]) _
  obtain ⟨_, T301, L301, X301, hQ301, st301⟩ := own_callS X300 hx hZ hown (own_at hw 0 rfl) (own_at hw 1 rfl) (own_at hw 2 rfl) (own_at hw 3 rfl) (by decide) (rm1 l Z a0 hw (own_lushr x3 (12 : Int32)) h0 n0) 0 (by decide) (by decide) e300 (by decide) (by decide) (g := (mkF m 22 #[.val (.long x0), .second, .val (.long x1), .second, .val (.long x2), .second, .val (.long x3), .second, .val (.long x4), .second, .val (.long x5), .second, .val (.int (Int32.ofNat k0)), .val (.int (Int32.ofNat k1)), .unset, .unset, .unset, .unset, .unset, .unset, .unset, .unset, .unset, .unset, .unset, .unset, .unset, .unset, .unset, .unset, .unset, .unset, .unset, .unset, .unset, .unset, .unset, .unset, .unset] [(.long (own_lushr x3 (12 : Int32)))])) rfl (by rw [hml]; rfl) (argsL := [(.long (own_lushr x3 (12 : Int32)))]) (rest := []) (lenOf pd__J_I rfl) rfl (by show 2 * 0 + _ ≤ _; exact Nat.le_of_eq rfl) (hb hby at_22)
  obtain ⟨rfl, N301q, e301⟩ := hQ301
  have N301 := Fr.app N300 N301q
  refine ownGo.st st301 ?_
  show ownGo p.tables e below T301 (mkF m 25 #[.val (.long x0), .second, .val (.long x1), .second, .val (.long x2), .second, .val (.long x3), .second, .val (.long x4), .second, .val (.long x5), .second, .val (.int (Int32.ofNat k0)), .val (.int (Int32.ofNat k1)), .unset, .unset, .unset, .unset, .unset, .unset, .unset, .unset, .unset, .unset, .unset, .unset, .unset, .unset, .unset, .unset, .unset, .unset, .unset, .unset, .unset, .unset, .unset, .unset, .unset] [(.int (F1 (own_lushr x3 (12 : Int32))))]) _
  obtain ⟨k2, hk2, ek2⟩ := own_bits33 (own_lushr x3 (12 : Int32))
  rw [ek2]
  show ownGo p.tables e below T301 (mkF m 25 #[.val (.long x0), .second, .val (.long x1), .second, .val (.long x2), .second, .val (.long x3), .second, .val (.long x4), .second, .val (.long x5), .second, .val (.int (Int32.ofNat k0)), .val (.int (Int32.ofNat k1)), .unset, .unset, .unset, .unset, .unset, .unset, .unset, .unset, .unset, .unset, .unset, .unset, .unset, .unset, .unset, .unset, .unset, .unset, .unset, .unset, .unset, .unset, .unset, .unset, .unset] [(.int (Int32.ofNat k2))]) _
  refine ownGo.st (fun _ k => XS.istore X301.here hx rfl (hb hby at_25) rfl (l' := #[.val (.long x0), .second, .val (.long x1), .second, .val (.long x2), .second, .val (.long x3), .second, .val (.long x4), .second, .val (.long x5), .second, .val (.int (Int32.ofNat k0)), .val (.int (Int32.ofNat k1)), .val (.int (Int32.ofNat k2)), .unset, .unset, .unset, .unset, .unset, .unset, .unset, .unset, .unset, .unset, .unset, .unset, .unset, .unset, .unset, .unset, .unset, .unset, .unset, .unset, .unset, .unset, .unset, .unset]) rfl k) ?_
  show ownGo p.tables e below T301 (mkF m 27 #[.val (.long x0), .second, .val (.long x1), .second, .val (.long x2), .second, .val (.long x3), .second, .val (.long x4), .second, .val (.long x5), .second, .val (.int (Int32.ofNat k0)), .val (.int (Int32.ofNat k1)), .val (.int (Int32.ofNat k2)), .unset, .unset, .unset, .unset, .unset, .unset, .unset, .unset, .unset, .unset, .unset, .unset, .unset, .unset, .unset, .unset, .unset, .unset, .unset, .unset, .unset, .unset, .unset, .unset] []) _
  refine ownGo.st (fun _ k => XS.lconst X301.here hx rfl (hb hby at_27)  k) ?_
  show ownGo p.tables e below T301 (mkF m 28 #[.val (.long x0), .second, .val (.long x1), .second, .val (.long x2), .second, .val (.long x3), .second, .val (.long x4), .second, .val (.long x5), .second, .val (.int (Int32.ofNat k0)), .val (.int (Int32.ofNat k1)), .val (.int (Int32.ofNat k2)), .unset, .unset, .unset, .unset, .unset, .unset, .unset, .unset, .unset, .unset, .unset, .unset, .unset, .unset, .unset, .unset, .unset, .unset, .unset, .unset, .unset, .unset, .unset, .unset] [(.long (1 : Int64))]) _
  refine ownGo.st (fun _ k => XS.iload X301.here hx rfl (hb hby at_28) rfl k) ?_
  show ownGo p.tables e below T301 (mkF m 30 #[.val (.long x0), .second, .val (.long x1), .second, .val (.long x2), .second, .val (.long x3), .second, .val (.long x4), .second, .val (.long x5), .second, .val (.int (Int32.ofNat k0)), .val (.int (Int32.ofNat k1)), .val (.int (Int32.ofNat k2)), .unset, .unset, .unset, .unset, .unset, .unset, .unset, .unset, .unset, .unset, .unset, .unset, .unset, .unset, .unset, .unset, .unset, .unset, .unset, .unset, .unset, .unset, .unset, .unset] [(.int (Int32.ofNat k0)), (.long (1 : Int64))]) _
  refine ownGo.st (fun _ k => XS.lshl X301.here hx rfl (hb hby at_30) rfl k) ?_
  show ownGo p.tables e below T301 (mkF m 31 #[.val (.long x0), .second, .val (.long x1), .second, .val (.long x2), .second, .val (.long x3), .second, .val (.long x4), .second, .val (.long x5), .second, .val (.int (Int32.ofNat k0)), .val (.int (Int32.ofNat k1)), .val (.int (Int32.ofNat k2)), .unset, .unset, .unset, .unset, .unset, .unset, .unset, .unset, .unset, .unset, .unset, .unset, .unset, .unset, .unset, .unset, .unset, .unset, .unset, .unset, .unset, .unset, .unset, .unset] [(.long (own_lshl (1 : Int64) (Int32.ofNat k0)))]) _
  refine ownGo.st (fun _ k => XS.lconst X301.here hx rfl (hb hby at_31)  k) ?_
  show ownGo p.tables e below T301 (mkF m 32 #[.val (.long x0), .second, .val (.long x1), .second, .val (.long x2), .second, .val (.long x3), .second, .val (.long x4), .second, .val (.long x5), .second, .val (.int (Int32.ofNat k0)), .val (.int (Int32.ofNat k1)), .val (.int (Int32.ofNat k2)), .unset, .unset, .unset, .unset, .unset, .unset, .unset, .unset, .unset, .unset, .unset, .unset, .unset, .unset, .unset, .unset, .unset, .unset, .unset, .unset, .unset, .unset, .unset, .unset] [(.long (1 : Int64)), (.long (own_lshl (1 : Int64) (Int32.ofNat k0)))]) _
  refine ownGo.st (fun _ k => XS.lsub X301.here hx rfl (hb hby at_32) rfl k) ?_
  show ownGo p.tables e below T301 (mkF m 33 #[.val (.long x0), .second, .val (.long x1), .second, .val (.long x2), .second, .val (.long x3), .second, .val (.long x4), .second, .val (.long x5), .second, .val (.int (Int32.ofNat k0)), .val (.int (Int32.ofNat k1)), .val (.int (Int32.ofNat k2)), .unset, .unset, .unset, .unset, .unset, .unset, .unset, .unset, .unset, .unset, .unset, .unset, .unset, .unset, .unset, .unset, .unset, .unset, .unset, .unset, .unset, .unset, .unset, .unset] [(.long ((own_lshl (1 : Int64) (Int32.ofNat k0)) - (1 : Int64)))]) _
  rw [show (own_lshl (1 : Int64) (Int32.ofNat k0)) - (1 : Int64) = own_mk k0 from rfl]
  show ownGo p.tables e below T301 (mkF m 33 #[.val (.long x0), .second, .val (.long x1), .second, .val (.long x2), .second, .val (.long x3), .second, .val (.long x4), .second, .val (.long x5), .second, .val (.int (Int32.ofNat k0)), .val (.int (Int32.ofNat k1)), .val (.int (Int32.ofNat k2)), .unset, .unset, .unset, .unset, .unset, .unset, .unset, .unset, .unset, .unset, .unset, .unset, .unset, .unset, .unset, .unset, .unset, .unset, .unset, .unset, .unset, .unset, .unset, .unset] [(.long (own_mk k0))]) _
  refine ownGo.st (fun _ k => XS.lstore X301.here hx rfl (hb hby at_33) rfl (l' := #[.val (.long x0), .second, .val (.long x1), .second, .val (.long x2), .second, .val (.long x3), .second, .val (.long x4), .second, .val (.long x5), .second, .val (.int (Int32.ofNat k0)), .val (.int (Int32.ofNat k1)), .val (.int (Int32.ofNat k2)), .val (.long (own_mk k0)), .second, .unset, .unset, .unset, .unset, .unset, .unset, .unset, .unset, .unset, .unset, .unset, .unset, .unset, .unset, .unset, .unset, .unset, .unset, .unset, .unset, .unset, .unset]) rfl k) ?_
  show ownGo p.tables e below T301 (mkF m 35 #[.val (.long x0), .second, .val (.long x1), .second, .val (.long x2), .second, .val (.long x3), .second, .val (.long x4), .second, .val (.long x5), .second, .val (.int (Int32.ofNat k0)), .val (.int (Int32.ofNat k1)), .val (.int (Int32.ofNat k2)), .val (.long (own_mk k0)), .second, .unset, .unset, .unset, .unset, .unset, .unset, .unset, .unset, .unset, .unset, .unset, .unset, .unset, .unset, .unset, .unset, .unset, .unset, .unset, .unset, .unset, .unset] []) _
  refine ownGo.st (fun _ k => XS.lconst X301.here hx rfl (hb hby at_35)  k) ?_
  show ownGo p.tables e below T301 (mkF m 36 #[.val (.long x0), .second, .val (.long x1), .second, .val (.long x2), .second, .val (.long x3), .second, .val (.long x4), .second, .val (.long x5), .second, .val (.int (Int32.ofNat k0)), .val (.int (Int32.ofNat k1)), .val (.int (Int32.ofNat k2)), .val (.long (own_mk k0)), .second, .unset, .unset, .unset, .unset, .unset, .unset, .unset, .unset, .unset, .unset, .unset, .unset, .unset, .unset, .unset, .unset, .unset, .unset, .unset, .unset, .unset, .unset] [(.long (1 : Int64))]) _
  refine ownGo.st (fun _ k => XS.iload X301.here hx rfl (hb hby at_36) rfl k) ?_
  show ownGo p.tables e below T301 (mkF m 38 #[.val (.long x0), .second, .val (.long x1), .second, .val (.long x2), .second, .val (.long x3), .second, .val (.long x4), .second, .val (.long x5), .second, .val (.int (Int32.ofNat k0)), .val (.int (Int32.ofNat k1)), .val (.int (Int32.ofNat k2)), .val (.long (own_mk k0)), .second, .unset, .unset, .unset, .unset, .unset, .unset, .unset, .unset, .unset, .unset, .unset, .unset, .unset, .unset, .unset, .unset, .unset, .unset, .unset, .unset, .unset, .unset] [(.int (Int32.ofNat k1)), (.long (1 : Int64))]) _
  refine ownGo.st (fun _ k => XS.lshl X301.here hx rfl (hb hby at_38) rfl k) ?_
  show ownGo p.tables e below T301 (mkF m 39 #[.val (.long x0), .second, .val (.long x1), .second, .val (.long x2), .second, .val (.long x3), .second, .val (.long x4), .second, .val (.long x5), .second, .val (.int (Int32.ofNat k0)), .val (.int (Int32.ofNat k1)), .val (.int (Int32.ofNat k2)), .val (.long (own_mk k0)), .second, .unset, .unset, .unset, .unset, .unset, .unset, .unset, .unset, .unset, .unset, .unset, .unset, .unset, .unset, .unset, .unset, .unset, .unset, .unset, .unset, .unset, .unset] [(.long (own_lshl (1 : Int64) (Int32.ofNat k1)))]) _
  refine ownGo.st (fun _ k => XS.lconst X301.here hx rfl (hb hby at_39)  k) ?_
  show ownGo p.tables e below T301 (mkF m 40 #[.val (.long x0), .second, .val (.long x1), .second, .val (.long x2), .second, .val (.long x3), .second, .val (.long x4), .second, .val (.long x5), .second, .val (.int (Int32.ofNat k0)), .val (.int (Int32.ofNat k1)), .val (.int (Int32.ofNat k2)), .val (.long (own_mk k0)), .second, .unset, .unset, .unset, .unset, .unset, .unset, .unset, .unset, .unset, .unset, .unset, .unset, .unset, .unset, .unset, .unset, .unset, .unset, .unset, .unset, .unset, .unset] [(.long (1 : Int64)), (.long (own_lshl (1 : Int64) (Int32.ofNat k1)))]) _
  refine ownGo.st (fun _ k => XS.lsub X301.here hx rfl (hb hby at_40) rfl k) ?_
  show ownGo p.tables e below T301 (mkF m 41 #[.val (.long x0), .second, .val (.long x1), .second, .val (.long x2), .second, .val (.long x3), .second, .val (.long x4), .second, .val (.long x5), .second, .val (.int (Int32.ofNat k0)), .val (.int (Int32.ofNat k1)), .val (.int (Int32.ofNat k2)), .val (.long (own_mk k0)), .second, .unset, .unset, .unset, .unset, .unset, .unset, .unset, .unset, .unset, .unset, .unset, .unset, .unset, .unset, .unset, .unset, .unset, .unset, .unset, .unset, .unset, .unset] [(.long ((own_lshl (1 : Int64) (Int32.ofNat k1)) - (1 : Int64)))]) _
  rw [show (own_lshl (1 : Int64) (Int32.ofNat k1)) - (1 : Int64) = own_mk k1 from rfl]
  show ownGo p.tables e below T301 (mkF m 41 #[.val (.long x0), .second, .val (.long x1), .second, .val (.long x2), .second, .val (.long x3), .second, .val (.long x4), .second, .val (.long x5), .second, .val (.int (Int32.ofNat k0)), .val (.int (Int32.ofNat k1)), .val (.int (Int32.ofNat k2)), .val (.long (own_mk k0)), .second, .unset, .unset, .unset, .unset, .unset, .unset, .unset, .unset, .unset, .unset, .unset, .unset, .unset, .unset, .unset, .unset, .unset, .unset, .unset, .unset, .unset, .unset] [(.long (own_mk k1))]) _
  refine ownGo.st (fun _ k => XS.lstore X301.here hx rfl (hb hby at_41) rfl (l' := #[.val (.long x0), .second, .val (.long x1), .second, .val (.long x2), .second, .val (.long x3), .second, .val (.long x4), .second, .val (.long x5), .second, .val (.int (Int32.ofNat k0)), .val (.int (Int32.ofNat k1)), .val (.int (Int32.ofNat k2)), .val (.long (own_mk k0)), .second, .val (.long (own_mk k1)), .second, .unset, .unset, .unset, .unset, .unset, .unset, .unset, .unset, .unset, .unset, .unset, .unset, .unset, .unset, .unset, .unset, .unset, .unset, .unset, .unset]) rfl k) ?_
  show ownGo p.tables e below T301 (mkF m 43 #[.val (.long x0), .second, .val (.long x1), .second, .val (.long x2), .second, .val (.long x3), .second, .val (.long x4), .second, .val (.long x5), .second, .val (.int (Int32.ofNat k0)), .val (.int (Int32.ofNat k1)), .val (.int (Int32.ofNat k2)), .val (.long (own_mk k0)), .second, .val (.long (own_mk k1)), .second, .unset, .unset, .unset, .unset, .unset, .unset, .unset, .unset, .unset, .unset, .unset, .unset, .unset, .unset, .unset, .unset, .unset, .unset, .unset, .unset] []) _
  refine ownGo.st (fun _ k => XS.lconst X301.here hx rfl (hb hby at_43)  k) ?_
  show ownGo p.tables e below T301 (mkF m 44 #[.val (.long x0), .second, .val (.long x1), .second, .val (.long x2), .second, .val (.long x3), .second, .val (.long x4), .second, .val (.long x5), .second, .val (.int (Int32.ofNat k0)), .val (.int (Int32.ofNat k1)), .val (.int (Int32.ofNat k2)), .val (.long (own_mk k0)), .second, .val (.long (own_mk k1)), .second, .unset, .unset, .unset, .unset, .unset, .unset, .unset, .unset, .unset, .unset, .unset, .unset, .unset, .unset, .unset, .unset, .unset, .unset, .unset, .unset] [(.long (1 : Int64))]) _
  refine ownGo.st (fun _ k => XS.iload X301.here hx rfl (hb hby at_44) rfl k) ?_
  show ownGo p.tables e below T301 (mkF m 46 #[.val (.long x0), .second, .val (.long x1), .second, .val (.long x2), .second, .val (.long x3), .second, .val (.long x4), .second, .val (.long x5), .second, .val (.int (Int32.ofNat k0)), .val (.int (Int32.ofNat k1)), .val (.int (Int32.ofNat k2)), .val (.long (own_mk k0)), .second, .val (.long (own_mk k1)), .second, .unset, .unset, .unset, .unset, .unset, .unset, .unset, .unset, .unset, .unset, .unset, .unset, .unset, .unset, .unset, .unset, .unset, .unset, .unset, .unset] [(.int (Int32.ofNat k2)), (.long (1 : Int64))]) _
  refine ownGo.st (fun _ k => XS.lshl X301.here hx rfl (hb hby at_46) rfl k) ?_
  show ownGo p.tables e below T301 (mkF m 47 #[.val (.long x0), .second, .val (.long x1), .second, .val (.long x2), .second, .val (.long x3), .second, .val (.long x4), .second, .val (.long x5), .second, .val (.int (Int32.ofNat k0)), .val (.int (Int32.ofNat k1)), .val (.int (Int32.ofNat k2)), .val (.long (own_mk k0)), .second, .val (.long (own_mk k1)), .second, .unset, .unset, .unset, .unset, .unset, .unset, .unset, .unset, .unset, .unset, .unset, .unset, .unset, .unset, .unset, .unset, .unset, .unset, .unset, .unset] [(.long (own_lshl (1 : Int64) (Int32.ofNat k2)))]) _
  refine ownGo.st (fun _ k => XS.lconst X301.here hx rfl (hb hby at_47)  k) ?_
  show ownGo p.tables e below T301 (mkF m 48 #[.val (.long x0), .second, .val (.long x1), .second, .val (.long x2), .second, .val (.long x3), .second, .val (.long x4), .second, .val (.long x5), .second, .val (.int (Int32.ofNat k0)), .val (.int (Int32.ofNat k1)), .val (.int (Int32.ofNat k2)), .val (.long (own_mk k0)), .second, .val (.long (own_mk k1)), .second, .unset, .unset, .unset, .unset, .unset, .unset, .unset, .unset, .unset, .unset, .unset, .unset, .unset, .unset, .unset, .unset, .unset, .unset, .unset, .unset] [(.long (1 : Int64)), (.long (own_lshl (1 : Int64) (Int32.ofNat k2)))]) _
  refine ownGo.st (fun _ k => XS.lsub X301.here hx rfl (hb hby at_48) rfl k) ?_
  show ownGo p.tables e below T301 (mkF m 49 #[.val (.long x0), .second, .val (.long x1), .second, .val (.long x2), .second, .val (.long x3), .second, .val (.long x4), .second, .val (.long x5), .second, .val (.int (Int32.ofNat k0)), .val (.int (Int32.ofNat k1)), .val (.int (Int32.ofNat k2)), .val (.long (own_mk k0)), .second, .val (.long (own_mk k1)), .second, .unset, .unset, .unset, .unset, .unset, .unset, .unset, .unset, .unset, .unset, .unset, .unset, .unset, .unset, .unset, .unset, .unset, .unset, .unset, .unset] [(.long ((own_lshl (1 : Int64) (Int32.ofNat k2)) - (1 : Int64)))]) _
  rw [show (own_lshl (1 : Int64) (Int32.ofNat k2)) - (1 : Int64) = own_mk k2 from rfl]
  show ownGo p.tables e below T301 (mkF m 49 #[.val (.long x0), .second, .val (.long x1), .second, .val (.long x2), .second, .val (.long x3), .second, .val (.long x4), .second, .val (.long x5), .second, .val (.int (Int32.ofNat k0)), .val (.int (Int32.ofNat k1)), .val (.int (Int32.ofNat k2)), .val (.long (own_mk k0)), .second, .val (.long (own_mk k1)), .second, .unset, .unset, .unset, .unset, .unset, .unset, .unset, .unset, .unset, .unset, .unset, .unset, .unset, .unset, .unset, .unset, .unset, .unset, .unset, .unset] [(.long (own_mk k2))]) _
  refine ownGo.st (fun _ k => XS.lstore X301.here hx rfl (hb hby at_49) rfl (l' := #[.val (.long x0), .second, .val (.long x1), .second, .val (.long x2), .second, .val (.long x3), .second, .val (.long x4), .second, .val (.long x5), .second, .val (.int (Int32.ofNat k0)), .val (.int (Int32.ofNat k1)), .val (.int (Int32.ofNat k2)), .val (.long (own_mk k0)), .second, .val (.long (own_mk k1)), .second, .val (.long (own_mk k2)), .second, .unset, .unset, .unset, .unset, .unset, .unset, .unset, .unset, .unset, .unset, .unset, .unset, .unset, .unset, .unset, .unset, .unset, .unset]) rfl k) ?_
  show ownGo p.tables e below T301 (mkF m 51 #[.val (.long x0), .second, .val (.long x1), .second, .val (.long x2), .second, .val (.long x3), .second, .val (.long x4), .second, .val (.long x5), .second, .val (.int (Int32.ofNat k0)), .val (.int (Int32.ofNat k1)), .val (.int (Int32.ofNat k2)), .val (.long (own_mk k0)), .second, .val (.long (own_mk k1)), .second, .val (.long (own_mk k2)), .second, .unset, .unset, .unset, .unset, .unset, .unset, .unset, .unset, .unset, .unset, .unset, .unset, .unset, .unset, .unset, .unset, .unset, .unset] []) _
  refine ownGo.st (fun _ k => XS.lloadN X301.here hx rfl (hb hby at_51) rfl k) ?_
  show ownGo p.tables e below T301 (mkF m 52 #[.val (.long x0), .second, .val (.long x1), .second, .val (.long x2), .second, .val (.long x3), .second, .val (.long x4), .second, .val (.long x5), .second, .val (.int (Int32.ofNat k0)), .val (.int (Int32.ofNat k1)), .val (.int (Int32.ofNat k2)), .val (.long (own_mk k0)), .second, .val (.long (own_mk k1)), .second, .val (.long (own_mk k2)), .second, .unset, .unset, .unset, .unset, .unset, .unset, .unset, .unset, .unset, .unset, .unset, .unset, .unset, .unset, .unset, .unset, .unset, .unset] [(.long x0)]) _
  refine ownGo.st (fun _ k => XS.lload X301.here hx rfl (hb hby at_52) rfl k) ?_
  show ownGo p.tables e below T301 (mkF m 54 #[.val (.long x0), .second, .val (.long x1), .second, .val (.long x2), .second, .val (.long x3), .second, .val (.long x4), .second, .val (.long x5), .second, .val (.int (Int32.ofNat k0)), .val (.int (Int32.ofNat k1)), .val (.int (Int32.ofNat k2)), .val (.long (own_mk k0)), .second, .val (.long (own_mk k1)), .second, .val (.long (own_mk k2)), .second, .unset, .unset, .unset, .unset, .unset, .unset, .unset, .unset, .unset, .unset, .unset, .unset, .unset, .unset, .unset, .unset, .unset, .unset] [(.long (own_mk k0)), (.long x0)]) _
  obtain ⟨_, T302, L302, X302, hQ302, st302⟩ := own_callS X301 hx hZ hown (own_at hw 6 rfl) (own_at hw 7 rfl) (own_at hw 2 rfl) (own_at hw 8 rfl) (by decide) (rm2 l Z a0 hw x0 (own_mk k0) h0 n0) 0 (by decide) (by decide) e301 (by decide) (by decide) (g := (mkF m 54 #[.val (.long x0), .second, .val (.long x1), .second, .val (.long x2), .second, .val (.long x3), .second, .val (.long x4), .second, .val (.long x5), .second, .val (.int (Int32.ofNat k0)), .val (.int (Int32.ofNat k1)), .val (.int (Int32.ofNat k2)), .val (.long (own_mk k0)), .second, .val (.long (own_mk k1)), .second, .val (.long (own_mk k2)), .second, .unset, .unset, .unset, .unset, .unset, .unset, .unset, .unset, .unset, .unset, .unset, .unset, .unset, .unset, .unset, .unset, .unset, .unset] [(.long (own_mk k0)), (.long x0)])) rfl (by rw [hml]; rfl) (argsL := [(.long x0), (.long (own_mk k0))]) (rest := []) (lenOf pd__JJ_I rfl) rfl (by show 2 * 0 + _ ≤ _; exact Nat.le_of_eq rfl) (hb hby at_54)
  obtain ⟨rfl, N302q, e302⟩ := hQ302
  have N302 := Fr.app N301 N302q
  refine ownGo.st st302 ?_
  show ownGo p.tables e below T302 (mkF m 57 #[.val (.long x0), .second, .val (.long x1), .second, .val (.long x2), .second, .val (.long x3), .second, .val (.long x4), .second, .val (.long x5), .second, .val (.int (Int32.ofNat k0)), .val (.int (Int32.ofNat k1)), .val (.int (Int32.ofNat k2)), .val (.long (own_mk k0)), .second, .val (.long (own_mk k1)), .second, .val (.long (own_mk k2)), .second, .unset, .unset, .unset, .unset, .unset, .unset, .unset, .unset, .unset, .unset, .unset, .unset, .unset, .unset, .unset, .unset, .unset, .unset] [(.int (F2 x0 (own_mk k0)))]) _
  have hl0 := own_low x0 k0 (by omega)
  obtain ⟨l0, el0⟩ : ∃ z, z = (F2 x0 (own_mk k0)) := ⟨_, rfl⟩
  rw [← el0] at hl0
  rw [← el0]
  show ownGo p.tables e below T302 (mkF m 57 #[.val (.long x0), .second, .val (.long x1), .second, .val (.long x2), .second, .val (.long x3), .second, .val (.long x4), .second, .val (.long x5), .second, .val (.int (Int32.ofNat k0)), .val (.int (Int32.ofNat k1)), .val (.int (Int32.ofNat k2)), .val (.long (own_mk k0)), .second, .val (.long (own_mk k1)), .second, .val (.long (own_mk k2)), .second, .unset, .unset, .unset, .unset, .unset, .unset, .unset, .unset, .unset, .unset, .unset, .unset, .unset, .unset, .unset, .unset, .unset, .unset] [(.int l0)]) _
  refine ownGo.st (fun _ k => XS.istore X302.here hx rfl (hb hby at_57) rfl (l' := #[.val (.long x0), .second, .val (.long x1), .second, .val (.long x2), .second, .val (.long x3), .second, .val (.long x4), .second, .val (.long x5), .second, .val (.int (Int32.ofNat k0)), .val (.int (Int32.ofNat k1)), .val (.int (Int32.ofNat k2)), .val (.long (own_mk k0)), .second, .val (.long (own_mk k1)), .second, .val (.long (own_mk k2)), .second, .val (.int l0), .unset, .unset, .unset, .unset, .unset, .unset, .unset, .unset, .unset, .unset, .unset, .unset, .unset, .unset, .unset, .unset, .unset]) rfl k) ?_
  show ownGo p.tables e below T302 (mkF m 59 #[.val (.long x0), .second, .val (.long x1), .second, .val (.long x2), .second, .val (.long x3), .second, .val (.long x4), .second, .val (.long x5), .second, .val (.int (Int32.ofNat k0)), .val (.int (Int32.ofNat k1)), .val (.int (Int32.ofNat k2)), .val (.long (own_mk k0)), .second, .val (.long (own_mk k1)), .second, .val (.long (own_mk k2)), .second, .val (.int l0), .unset, .unset, .unset, .unset, .unset, .unset, .unset, .unset, .unset, .unset, .unset, .unset, .unset, .unset, .unset, .unset, .unset] []) _
  refine ownGo.st (fun _ k => XS.lloadN X302.here hx rfl (hb hby at_59) rfl k) ?_
  show ownGo p.tables e below T302 (mkF m 60 #[.val (.long x0), .second, .val (.long x1), .second, .val (.long x2), .second, .val (.long x3), .second, .val (.long x4), .second, .val (.long x5), .second, .val (.int (Int32.ofNat k0)), .val (.int (Int32.ofNat k1)), .val (.int (Int32.ofNat k2)), .val (.long (own_mk k0)), .second, .val (.long (own_mk k1)), .second, .val (.long (own_mk k2)), .second, .val (.int l0), .unset, .unset, .unset, .unset, .unset, .unset, .unset, .unset, .unset, .unset, .unset, .unset, .unset, .unset, .unset, .unset, .unset] [(.long x1)]) _
  refine ownGo.st (fun _ k => XS.lload X302.here hx rfl (hb hby at_60) rfl k) ?_
  show ownGo p.tables e below T302 (mkF m 62 #[.val (.long x0), .second, .val (.long x1), .second, .val (.long x2), .second, .val (.long x3), .second, .val (.long x4), .second, .val (.long x5), .second, .val (.int (Int32.ofNat k0)), .val (.int (Int32.ofNat k1)), .val (.int (Int32.ofNat k2)), .val (.long (own_mk k0)), .second, .val (.long (own_mk k1)), .second, .val (.long (own_mk k2)), .second, .val (.int l0), .unset, .unset, .unset, .unset, .unset, .unset, .unset, .unset, .unset, .unset, .unset, .unset, .unset, .unset, .unset, .unset, .unset] [(.long (own_mk k1)), (.long x1)]) _
  obtain ⟨_, T303, L303, X303, hQ303, st303⟩ := own_callS X302 hx hZ hown (own_at hw 6 rfl) (own_at hw 7 rfl) (own_at hw 2 rfl) (own_at hw 8 rfl) (by decide) (rm2 l Z a0 hw x1 (own_mk k1) h0 n0) 0 (by decide) (by decide) e302 (by decide) (by decide) (g := (mkF m 62 #[.val (.long x0), .second, .val (.long x1), .second, .val (.long x2), .second, .val (.long x3), .second, .val (.long x4), .second, .val (.long x5), .second, .val (.int (Int32.ofNat k0)), .val (.int (Int32.ofNat k1)), .val (.int (Int32.ofNat k2)), .val (.long (own_mk k0)), .second, .val (.long (own_mk k1)), .second, .val (.long (own_mk k2)), .second, .val (.int l0), .unset, .unset, .unset, .unset, .unset, .unset, .unset, .unset, .unset, .unset, .unset, .unset, .unset, .unset, .unset, .unset, .unset] [(.long (own_mk k1)), (.long x1)])) rfl (by rw [hml]; rfl) (argsL := [(.long x1), (.long (own_mk k1))]) (rest := []) (lenOf pd__JJ_I rfl) rfl (by show 2 * 0 + _ ≤ _; exact Nat.le_of_eq rfl) (hb hby at_62)
  obtain ⟨rfl, N303q, e303⟩ := hQ303
  have N303 := Fr.app N302 N303q
  refine ownGo.st st303 ?_
  show ownGo p.tables e below T303 (mkF m 65 #[.val (.long x0), .second, .val (.long x1), .second, .val (.long x2), .second, .val (.long x3), .second, .val (.long x4), .second, .val (.long x5), .second, .val (.int (Int32.ofNat k0)), .val (.int (Int32.ofNat k1)), .val (.int (Int32.ofNat k2)), .val (.long (own_mk k0)), .second, .val (.long (own_mk k1)), .second, .val (.long (own_mk k2)), .second, .val (.int l0), .unset, .unset, .unset, .unset, .unset, .unset, .unset, .unset, .unset, .unset, .unset, .unset, .unset, .unset, .unset, .unset, .unset] [(.int (F2 x1 (own_mk k1)))]) _
  have hl1 := own_low x1 k1 (by omega)
  obtain ⟨l1, el1⟩ : ∃ z, z = (F2 x1 (own_mk k1)) := ⟨_, rfl⟩
  rw [← el1] at hl1
  rw [← el1]
  show ownGo p.tables e below T303 (mkF m 65 #[.val (.long x0), .second, .val (.long x1), .second, .val (.long x2), .second, .val (.long x3), .second, .val (.long x4), .second, .val (.long x5), .second, .val (.int (Int32.ofNat k0)), .val (.int (Int32.ofNat k1)), .val (.int (Int32.ofNat k2)), .val (.long (own_mk k0)), .second, .val (.long (own_mk k1)), .second, .val (.long (own_mk k2)), .second, .val (.int l0), .unset, .unset, .unset, .unset, .unset, .unset, .unset, .unset, .unset, .unset, .unset, .unset, .unset, .unset, .unset, .unset, .unset] [(.int l1)]) _
  refine ownGo.st (fun _ k => XS.istore X303.here hx rfl (hb hby at_65) rfl (l' := #[.val (.long x0), .second, .val (.long x1), .second, .val (.long x2), .second, .val (.long x3), .second, .val (.long x4), .second, .val (.long x5), .second, .val (.int (Int32.ofNat k0)), .val (.int (Int32.ofNat k1)), .val (.int (Int32.ofNat k2)), .val (.long (own_mk k0)), .second, .val (.long (own_mk k1)), .second, .val (.long (own_mk k2)), .second, .val (.int l0), .val (.int l1), .unset, .unset, .unset, .unset, .unset, .unset, .unset, .unset, .unset, .unset, .unset, .unset, .unset, .unset, .unset, .unset]) rfl k) ?_
  show ownGo p.tables e below T303 (mkF m 67 #[.val (.long x0), .second, .val (.long x1), .second, .val (.long x2), .second, .val (.long x3), .second, .val (.long x4), .second, .val (.long x5), .second, .val (.int (Int32.ofNat k0)), .val (.int (Int32.ofNat k1)), .val (.int (Int32.ofNat k2)), .val (.long (own_mk k0)), .second, .val (.long (own_mk k1)), .second, .val (.long (own_mk k2)), .second, .val (.int l0), .val (.int l1), .unset, .unset, .unset, .unset, .unset, .unset, .unset, .unset, .unset, .unset, .unset, .unset, .unset, .unset, .unset, .unset] []) _
  refine ownGo.st (fun _ k => XS.lload X303.here hx rfl (hb hby at_67) rfl k) ?_
  show ownGo p.tables e below T303 (mkF m 69 #[.val (.long x0), .second, .val (.long x1), .second, .val (.long x2), .second, .val (.long x3), .second, .val (.long x4), .second, .val (.long x5), .second, .val (.int (Int32.ofNat k0)), .val (.int (Int32.ofNat k1)), .val (.int (Int32.ofNat k2)), .val (.long (own_mk k0)), .second, .val (.long (own_mk k1)), .second, .val (.long (own_mk k2)), .second, .val (.int l0), .val (.int l1), .unset, .unset, .unset, .unset, .unset, .unset, .unset, .unset, .unset, .unset, .unset, .unset, .unset, .unset, .unset, .unset] [(.long x2)]) _
  refine ownGo.st (fun _ k => XS.lload X303.here hx rfl (hb hby at_69) rfl k) ?_
  show ownGo p.tables e below T303 (mkF m 71 #[.val (.long x0), .second, .val (.long x1), .second, .val (.long x2), .second, .val (.long x3), .second, .val (.long x4), .second, .val (.long x5), .second, .val (.int (Int32.ofNat k0)), .val (.int (Int32.ofNat k1)), .val (.int (Int32.ofNat k2)), .val (.long (own_mk k0)), .second, .val (.long (own_mk k1)), .second, .val (.long (own_mk k2)), .second, .val (.int l0), .val (.int l1), .unset, .unset, .unset, .unset, .unset, .unset, .unset, .unset, .unset, .unset, .unset, .unset, .unset, .unset, .unset, .unset] [(.long (own_mk k2)), (.long x2)]) _
  obtain ⟨_, T304, L304, X304, hQ304, st304⟩ := own_callS X303 hx hZ hown (own_at hw 6 rfl) (own_at hw 7 rfl) (own_at hw 2 rfl) (own_at hw 8 rfl) (by decide) (rm2 l Z a0 hw x2 (own_mk k2) h0 n0) 0 (by decide) (by decide) e303 (by decide) (by decide) (g := (mkF m 71 #[.val (.long x0), .second, .val (.long x1), .second, .val (.long x2), .second, .val (.long x3), .second, .val (.long x4), .second, .val (.long x5), .second, .val (.int (Int32.ofNat k0)), .val (.int (Int32.ofNat k1)), .val (.int (Int32.ofNat k2)), .val (.long (own_mk k0)), .second, .val (.long (own_mk k1)), .second, .val (.long (own_mk k2)), .second, .val (.int l0), .val (.int l1), .unset, .unset, .unset, .unset, .unset, .unset, .unset, .unset, .unset, .unset, .unset, .unset, .unset, .unset, .unset, .unset] [(.long (own_mk k2)), (.long x2)])) rfl (by rw [hml]; rfl) (argsL := [(.long x2), (.long (own_mk k2))]) (rest := []) (lenOf pd__JJ_I rfl) rfl (by show 2 * 0 + _ ≤ _; exact Nat.le_of_eq rfl) (hb hby at_71)
  obtain ⟨rfl, N304q, e304⟩ := hQ304
  have N304 := Fr.app N303 N304q
  refine ownGo.st st304 ?_
  show ownGo p.tables e below T304 (mkF m 74 #[.val (.long x0), .second, .val (.long x1), .second, .val (.long x2), .second, .val (.long x3), .second, .val (.long x4), .second, .val (.long x5), .second, .val (.int (Int32.ofNat k0)), .val (.int (Int32.ofNat k1)), .val (.int (Int32.ofNat k2)), .val (.long (own_mk k0)), .second, .val (.long (own_mk k1)), .second, .val (.long (own_mk k2)), .second, .val (.int l0), .val (.int l1), .unset, .unset, .unset, .unset, .unset, .unset, .unset, .unset, .unset, .unset, .unset, .unset, .unset, .unset, .unset, .unset] [(.int (F2 x2 (own_mk k2)))]) _
  have hl2 := own_low x2 k2 (by omega)
  obtain ⟨l2, el2⟩ : ∃ z, z = (F2 x2 (own_mk k2)) := ⟨_, rfl⟩
  rw [← el2] at hl2
  rw [← el2]
  show ownGo p.tables e below T304 (mkF m 74 #[.val (.long x0), .second, .val (.long x1), .second, .val (.long x2), .second, .val (.long x3), .second, .val (.long x4), .second, .val (.long x5), .second, .val (.int (Int32.ofNat k0)), .val (.int (Int32.ofNat k1)), .val (.int (Int32.ofNat k2)), .val (.long (own_mk k0)), .second, .val (.long (own_mk k1)), .second, .val (.long (own_mk k2)), .second, .val (.int l0), .val (.int l1), .unset, .unset, .unset, .unset, .unset, .unset, .unset, .unset, .unset, .unset, .unset, .unset, .unset, .unset, .unset, .unset] [(.int l2)]) _
  refine ownGo.st (fun _ k => XS.istore X304.here hx rfl (hb hby at_74) rfl (l' := #[.val (.long x0), .second, .val (.long x1), .second, .val (.long x2), .second, .val (.long x3), .second, .val (.long x4), .second, .val (.long x5), .second, .val (.int (Int32.ofNat k0)), .val (.int (Int32.ofNat k1)), .val (.int (Int32.ofNat k2)), .val (.long (own_mk k0)), .second, .val (.long (own_mk k1)), .second, .val (.long (own_mk k2)), .second, .val (.int l0), .val (.int l1), .val (.int l2), .unset, .unset, .unset, .unset, .unset, .unset, .unset, .unset, .unset, .unset, .unset, .unset, .unset, .unset, .unset]) rfl k) ?_
  show ownGo p.tables e below T304 (mkF m 76 #[.val (.long x0), .second, .val (.long x1), .second, .val (.long x2), .second, .val (.long x3), .second, .val (.long x4), .second, .val (.long x5), .second, .val (.int (Int32.ofNat k0)), .val (.int (Int32.ofNat k1)), .val (.int (Int32.ofNat k2)), .val (.long (own_mk k0)), .second, .val (.long (own_mk k1)), .second, .val (.long (own_mk k2)), .second, .val (.int l0), .val (.int l1), .val (.int l2), .unset, .unset, .unset, .unset, .unset, .unset, .unset, .unset, .unset, .unset, .unset, .unset, .unset, .unset, .unset] []) _
  refine ownGo.st (fun _ k => XS.iconst X304.here hx rfl (hb hby at_76)  k) ?_
  show ownGo p.tables e below T304 (mkF m 77 #[.val (.long x0), .second, .val (.long x1), .second, .val (.long x2), .second, .val (.long x3), .second, .val (.long x4), .second, .val (.long x5), .second, .val (.int (Int32.ofNat k0)), .val (.int (Int32.ofNat k1)), .val (.int (Int32.ofNat k2)), .val (.long (own_mk k0)), .second, .val (.long (own_mk k1)), .second, .val (.long (own_mk k2)), .second, .val (.int l0), .val (.int l1), .val (.int l2), .unset, .unset, .unset, .unset, .unset, .unset, .unset, .unset, .unset, .unset, .unset, .unset, .unset, .unset, .unset] [(.int (3 : Int32))]) _
  obtain ⟨T305, h305, a1, X305, e305, E305, V_a1, Ex_a1, g_a1, st305⟩ := own_newarray (aty := .int) X304 hx hZ (own_at hw 14 rfl) e304 3 3 (by decide) (by decide) (by decide) (by decide) (ad := "[I") (by rfl) rfl (z := (3 : Int32)) rfl (g := (mkF m 77 #[.val (.long x0), .second, .val (.long x1), .second, .val (.long x2), .second, .val (.long x3), .second, .val (.long x4), .second, .val (.long x5), .second, .val (.int (Int32.ofNat k0)), .val (.int (Int32.ofNat k1)), .val (.int (Int32.ofNat k2)), .val (.long (own_mk k0)), .second, .val (.long (own_mk k1)), .second, .val (.long (own_mk k2)), .second, .val (.int l0), .val (.int l1), .val (.int l2), .unset, .unset, .unset, .unset, .unset, .unset, .unset, .unset, .unset, .unset, .unset, .unset, .unset, .unset, .unset] [(.int (3 : Int32))])) rfl (hb hby at_77) rfl
  have gz_a1 : n0 ≤ a1 := Nat.le_trans Z0 (Nat.le_of_eq g_a1.symm)
  have Z305 : n0 ≤ h305.size := Nat.le_trans Z0 E305.1
  refine ownGo.st (st305) ?_
  show ownGo p.tables e below T305 (mkF m 79 #[.val (.long x0), .second, .val (.long x1), .second, .val (.long x2), .second, .val (.long x3), .second, .val (.long x4), .second, .val (.long x5), .second, .val (.int (Int32.ofNat k0)), .val (.int (Int32.ofNat k1)), .val (.int (Int32.ofNat k2)), .val (.long (own_mk k0)), .second, .val (.long (own_mk k1)), .second, .val (.long (own_mk k2)), .second, .val (.int l0), .val (.int l1), .val (.int l2), .unset, .unset, .unset, .unset, .unset, .unset, .unset, .unset, .unset, .unset, .unset, .unset, .unset, .unset, .unset] [(.ref a1)]) _
  refine ownGo.st (fun _ k => XS.dup X305.here hx rfl (hb hby at_79) rfl rfl k) ?_
  show ownGo p.tables e below T305 (mkF m 80 #[.val (.long x0), .second, .val (.long x1), .second, .val (.long x2), .second, .val (.long x3), .second, .val (.long x4), .second, .val (.long x5), .second, .val (.int (Int32.ofNat k0)), .val (.int (Int32.ofNat k1)), .val (.int (Int32.ofNat k2)), .val (.long (own_mk k0)), .second, .val (.long (own_mk k1)), .second, .val (.long (own_mk k2)), .second, .val (.int l0), .val (.int l1), .val (.int l2), .unset, .unset, .unset, .unset, .unset, .unset, .unset, .unset, .unset, .unset, .unset, .unset, .unset, .unset, .unset] [(.ref a1), (.ref a1)]) _
  refine ownGo.st (fun _ k => XS.iconst X305.here hx rfl (hb hby at_80)  k) ?_
  show ownGo p.tables e below T305 (mkF m 81 #[.val (.long x0), .second, .val (.long x1), .second, .val (.long x2), .second, .val (.long x3), .second, .val (.long x4), .second, .val (.long x5), .second, .val (.int (Int32.ofNat k0)), .val (.int (Int32.ofNat k1)), .val (.int (Int32.ofNat k2)), .val (.long (own_mk k0)), .second, .val (.long (own_mk k1)), .second, .val (.long (own_mk k2)), .second, .val (.int l0), .val (.int l1), .val (.int l2), .unset, .unset, .unset, .unset, .unset, .unset, .unset, .unset, .unset, .unset, .unset, .unset, .unset, .unset, .unset] [(.int (0 : Int32)), (.ref a1), (.ref a1)]) _
  refine ownGo.st (fun _ k => XS.iload X305.here hx rfl (hb hby at_81) rfl k) ?_
  show ownGo p.tables e below T305 (mkF m 83 #[.val (.long x0), .second, .val (.long x1), .second, .val (.long x2), .second, .val (.long x3), .second, .val (.long x4), .second, .val (.long x5), .second, .val (.int (Int32.ofNat k0)), .val (.int (Int32.ofNat k1)), .val (.int (Int32.ofNat k2)), .val (.long (own_mk k0)), .second, .val (.long (own_mk k1)), .second, .val (.long (own_mk k2)), .second, .val (.int l0), .val (.int l1), .val (.int l2), .unset, .unset, .unset, .unset, .unset, .unset, .unset, .unset, .unset, .unset, .unset, .unset, .unset, .unset, .unset] [(.int l0), (.int (0 : Int32)), (.ref a1), (.ref a1)]) _
  obtain ⟨T306, h306, X306, e306, W306, V_a1_306, st306⟩ := own_iastore X305 hx hZ e305 V_a1 (i := 0) rfl (by decide) (g := (mkF m 83 #[.val (.long x0), .second, .val (.long x1), .second, .val (.long x2), .second, .val (.long x3), .second, .val (.long x4), .second, .val (.long x5), .second, .val (.int (Int32.ofNat k0)), .val (.int (Int32.ofNat k1)), .val (.int (Int32.ofNat k2)), .val (.long (own_mk k0)), .second, .val (.long (own_mk k1)), .second, .val (.long (own_mk k2)), .second, .val (.int l0), .val (.int l1), .val (.int l2), .unset, .unset, .unset, .unset, .unset, .unset, .unset, .unset, .unset, .unset, .unset, .unset, .unset, .unset, .unset] [(.int l0), (.int (0 : Int32)), (.ref a1), (.ref a1)])) rfl rfl (hb hby at_83)
  have Ex_a1_307 := Ex_a1.wr W306
  have N306 := Fr.snoc X306 N304 gz_a1
  have Z306 : n0 ≤ h306.size := Nat.le_trans Z305 (Nat.le_of_eq W306.size.symm)
  refine ownGo.st (st306) ?_
  show ownGo p.tables e below T306 (mkF m 84 #[.val (.long x0), .second, .val (.long x1), .second, .val (.long x2), .second, .val (.long x3), .second, .val (.long x4), .second, .val (.long x5), .second, .val (.int (Int32.ofNat k0)), .val (.int (Int32.ofNat k1)), .val (.int (Int32.ofNat k2)), .val (.long (own_mk k0)), .second, .val (.long (own_mk k1)), .second, .val (.long (own_mk k2)), .second, .val (.int l0), .val (.int l1), .val (.int l2), .unset, .unset, .unset, .unset, .unset, .unset, .unset, .unset, .unset, .unset, .unset, .unset, .unset, .unset, .unset] [(.ref a1)]) _
  refine ownGo.st (fun _ k => XS.dup X306.here hx rfl (hb hby at_84) rfl rfl k) ?_
  show ownGo p.tables e below T306 (mkF m 85 #[.val (.long x0), .second, .val (.long x1), .second, .val (.long x2), .second, .val (.long x3), .second, .val (.long x4), .second, .val (.long x5), .second, .val (.int (Int32.ofNat k0)), .val (.int (Int32.ofNat k1)), .val (.int (Int32.ofNat k2)), .val (.long (own_mk k0)), .second, .val (.long (own_mk k1)), .second, .val (.long (own_mk k2)), .second, .val (.int l0), .val (.int l1), .val (.int l2), .unset, .unset, .unset, .unset, .unset, .unset, .unset, .unset, .unset, .unset, .unset, .unset, .unset, .unset, .unset] [(.ref a1), (.ref a1)]) _
  refine ownGo.st (fun _ k => XS.iconst X306.here hx rfl (hb hby at_85)  k) ?_
  show ownGo p.tables e below T306 (mkF m 86 #[.val (.long x0), .second, .val (.long x1), .second, .val (.long x2), .second, .val (.long x3), .second, .val (.long x4), .second, .val (.long x5), .second, .val (.int (Int32.ofNat k0)), .val (.int (Int32.ofNat k1)), .val (.int (Int32.ofNat k2)), .val (.long (own_mk k0)), .second, .val (.long (own_mk k1)), .second, .val (.long (own_mk k2)), .second, .val (.int l0), .val (.int l1), .val (.int l2), .unset, .unset, .unset, .unset, .unset, .unset, .unset, .unset, .unset, .unset, .unset, .unset, .unset, .unset, .unset] [(.int (1 : Int32)), (.ref a1), (.ref a1)]) _
  refine ownGo.st (fun _ k => XS.iload X306.here hx rfl (hb hby at_86) rfl k) ?_
  show ownGo p.tables e below T306 (mkF m 88 #[.val (.long x0), .second, .val (.long x1), .second, .val (.long x2), .second, .val (.long x3), .second, .val (.long x4), .second, .val (.long x5), .second, .val (.int (Int32.ofNat k0)), .val (.int (Int32.ofNat k1)), .val (.int (Int32.ofNat k2)), .val (.long (own_mk k0)), .second, .val (.long (own_mk k1)), .second, .val (.long (own_mk k2)), .second, .val (.int l0), .val (.int l1), .val (.int l2), .unset, .unset, .unset, .unset, .unset, .unset, .unset, .unset, .unset, .unset, .unset, .unset, .unset, .unset, .unset] [(.int l1), (.int (1 : Int32)), (.ref a1), (.ref a1)]) _
  obtain ⟨T308, h308, X308, e308, W308, V_a1_308, st308⟩ := own_iastore X306 hx hZ e306 V_a1_306 (i := 1) rfl (by decide) (g := (mkF m 88 #[.val (.long x0), .second, .val (.long x1), .second, .val (.long x2), .second, .val (.long x3), .second, .val (.long x4), .second, .val (.long x5), .second, .val (.int (Int32.ofNat k0)), .val (.int (Int32.ofNat k1)), .val (.int (Int32.ofNat k2)), .val (.long (own_mk k0)), .second, .val (.long (own_mk k1)), .second, .val (.long (own_mk k2)), .second, .val (.int l0), .val (.int l1), .val (.int l2), .unset, .unset, .unset, .unset, .unset, .unset, .unset, .unset, .unset, .unset, .unset, .unset, .unset, .unset, .unset] [(.int l1), (.int (1 : Int32)), (.ref a1), (.ref a1)])) rfl rfl (hb hby at_88)
  have Ex_a1_309 := Ex_a1_307.wr W308
  have N308 := Fr.snoc X308 N306 gz_a1
  have Z308 : n0 ≤ h308.size := Nat.le_trans Z306 (Nat.le_of_eq W308.size.symm)
  refine ownGo.st (st308) ?_
  show ownGo p.tables e below T308 (mkF m 89 #[.val (.long x0), .second, .val (.long x1), .second, .val (.long x2), .second, .val (.long x3), .second, .val (.long x4), .second, .val (.long x5), .second, .val (.int (Int32.ofNat k0)), .val (.int (Int32.ofNat k1)), .val (.int (Int32.ofNat k2)), .val (.long (own_mk k0)), .second, .val (.long (own_mk k1)), .second, .val (.long (own_mk k2)), .second, .val (.int l0), .val (.int l1), .val (.int l2), .unset, .unset, .unset, .unset, .unset, .unset, .unset, .unset, .unset, .unset, .unset, .unset, .unset, .unset, .unset] [(.ref a1)]) _
  refine ownGo.st (fun _ k => XS.dup X308.here hx rfl (hb hby at_89) rfl rfl k) ?_
  show ownGo p.tables e below T308 (mkF m 90 #[.val (.long x0), .second, .val (.long x1), .second, .val (.long x2), .second, .val (.long x3), .second, .val (.long x4), .second, .val (.long x5), .second, .val (.int (Int32.ofNat k0)), .val (.int (Int32.ofNat k1)), .val (.int (Int32.ofNat k2)), .val (.long (own_mk k0)), .second, .val (.long (own_mk k1)), .second, .val (.long (own_mk k2)), .second, .val (.int l0), .val (.int l1), .val (.int l2), .unset, .unset, .unset, .unset, .unset, .unset, .unset, .unset, .unset, .unset, .unset, .unset, .unset, .unset, .unset] [(.ref a1), (.ref a1)]) _
  refine ownGo.st (fun _ k => XS.iconst X308.here hx rfl (hb hby at_90)  k) ?_
  show ownGo p.tables e below T308 (mkF m 91 #[.val (.long x0), .second, .val (.long x1), .second, .val (.long x2), .second, .val (.long x3), .second, .val (.long x4), .second, .val (.long x5), .second, .val (.int (Int32.ofNat k0)), .val (.int (Int32.ofNat k1)), .val (.int (Int32.ofNat k2)), .val (.long (own_mk k0)), .second, .val (.long (own_mk k1)), .second, .val (.long (own_mk k2)), .second, .val (.int l0), .val (.int l1), .val (.int l2), .unset, .unset, .unset, .unset, .unset, .unset, .unset, .unset, .unset, .unset, .unset, .unset, .unset, .unset, .unset] [(.int (2 : Int32)), (.ref a1), (.ref a1)]) _
  refine ownGo.st (fun _ k => XS.iload X308.here hx rfl (hb hby at_91) rfl k) ?_
  show ownGo p.tables e below T308 (mkF m 93 #[.val (.long x0), .second, .val (.long x1), .second, .val (.long x2), .second, .val (.long x3), .second, .val (.long x4), .second, .val (.long x5), .second, .val (.int (Int32.ofNat k0)), .val (.int (Int32.ofNat k1)), .val (.int (Int32.ofNat k2)), .val (.long (own_mk k0)), .second, .val (.long (own_mk k1)), .second, .val (.long (own_mk k2)), .second, .val (.int l0), .val (.int l1), .val (.int l2), .unset, .unset, .unset, .unset, .unset, .unset, .unset, .unset, .unset, .unset, .unset, .unset, .unset, .unset, .unset] [(.int l2), (.int (2 : Int32)), (.ref a1), (.ref a1)]) _
  obtain ⟨T310, h310, X310, e310, W310, V_a1_310, st310⟩ := own_iastore X308 hx hZ e308 V_a1_308 (i := 2) rfl (by decide) (g := (mkF m 93 #[.val (.long x0), .second, .val (.long x1), .second, .val (.long x2), .second, .val (.long x3), .second, .val (.long x4), .second, .val (.long x5), .second, .val (.int (Int32.ofNat k0)), .val (.int (Int32.ofNat k1)), .val (.int (Int32.ofNat k2)), .val (.long (own_mk k0)), .second, .val (.long (own_mk k1)), .second, .val (.long (own_mk k2)), .second, .val (.int l0), .val (.int l1), .val (.int l2), .unset, .unset, .unset, .unset, .unset, .unset, .unset, .unset, .unset, .unset, .unset, .unset, .unset, .unset, .unset] [(.int l2), (.int (2 : Int32)), (.ref a1), (.ref a1)])) rfl rfl (hb hby at_93)
  have Ex_a1_311 := Ex_a1_309.wr W310
  have N310 := Fr.snoc X310 N308 gz_a1
  have Z310 : n0 ≤ h310.size := Nat.le_trans Z308 (Nat.le_of_eq W310.size.symm)
  refine ownGo.st (st310) ?_
  show ownGo p.tables e below T310 (mkF m 94 #[.val (.long x0), .second, .val (.long x1), .second, .val (.long x2), .second, .val (.long x3), .second, .val (.long x4), .second, .val (.long x5), .second, .val (.int (Int32.ofNat k0)), .val (.int (Int32.ofNat k1)), .val (.int (Int32.ofNat k2)), .val (.long (own_mk k0)), .second, .val (.long (own_mk k1)), .second, .val (.long (own_mk k2)), .second, .val (.int l0), .val (.int l1), .val (.int l2), .unset, .unset, .unset, .unset, .unset, .unset, .unset, .unset, .unset, .unset, .unset, .unset, .unset, .unset, .unset] [(.ref a1)]) _
  refine ownGo.st (fun _ k => XS.astore X310.here hx rfl (hb hby at_94) rfl rfl (l' := #[.val (.long x0), .second, .val (.long x1), .second, .val (.long x2), .second, .val (.long x3), .second, .val (.long x4), .second, .val (.long x5), .second, .val (.int (Int32.ofNat k0)), .val (.int (Int32.ofNat k1)), .val (.int (Int32.ofNat k2)), .val (.long (own_mk k0)), .second, .val (.long (own_mk k1)), .second, .val (.long (own_mk k2)), .second, .val (.int l0), .val (.int l1), .val (.int l2), .val (.ref a1), .unset, .unset, .unset, .unset, .unset, .unset, .unset, .unset, .unset, .unset, .unset, .unset, .unset, .unset]) rfl k) ?_
  show ownGo p.tables e below T310 (mkF m 96 #[.val (.long x0), .second, .val (.long x1), .second, .val (.long x2), .second, .val (.long x3), .second, .val (.long x4), .second, .val (.long x5), .second, .val (.int (Int32.ofNat k0)), .val (.int (Int32.ofNat k1)), .val (.int (Int32.ofNat k2)), .val (.long (own_mk k0)), .second, .val (.long (own_mk k1)), .second, .val (.long (own_mk k2)), .second, .val (.int l0), .val (.int l1), .val (.int l2), .val (.ref a1), .unset, .unset, .unset, .unset, .unset, .unset, .unset, .unset, .unset, .unset, .unset, .unset, .unset, .unset] []) _
  refine ownGo.st (fun _ k => XS.iconst X310.here hx rfl (hb hby at_96)  k) ?_
  show ownGo p.tables e below T310 (mkF m 97 #[.val (.long x0), .second, .val (.long x1), .second, .val (.long x2), .second, .val (.long x3), .second, .val (.long x4), .second, .val (.long x5), .second, .val (.int (Int32.ofNat k0)), .val (.int (Int32.ofNat k1)), .val (.int (Int32.ofNat k2)), .val (.long (own_mk k0)), .second, .val (.long (own_mk k1)), .second, .val (.long (own_mk k2)), .second, .val (.int l0), .val (.int l1), .val (.int l2), .val (.ref a1), .unset, .unset, .unset, .unset, .unset, .unset, .unset, .unset, .unset, .unset, .unset, .unset, .unset, .unset] [(.int (3 : Int32))]) _
  obtain ⟨T312, h312, a2, X312, e312, E312, V_a2, Ex_a2, g_a2, st312⟩ := own_newarray (aty := .int) X310 hx hZ (own_at hw 14 rfl) e310 3 3 (by decide) (by decide) (by decide) (by decide) (ad := "[I") (by rfl) rfl (z := (3 : Int32)) rfl (g := (mkF m 97 #[.val (.long x0), .second, .val (.long x1), .second, .val (.long x2), .second, .val (.long x3), .second, .val (.long x4), .second, .val (.long x5), .second, .val (.int (Int32.ofNat k0)), .val (.int (Int32.ofNat k1)), .val (.int (Int32.ofNat k2)), .val (.long (own_mk k0)), .second, .val (.long (own_mk k1)), .second, .val (.long (own_mk k2)), .second, .val (.int l0), .val (.int l1), .val (.int l2), .val (.ref a1), .unset, .unset, .unset, .unset, .unset, .unset, .unset, .unset, .unset, .unset, .unset, .unset, .unset, .unset] [(.int (3 : Int32))])) rfl (hb hby at_97) rfl
  have gz_a2 : n0 ≤ a2 := Nat.le_trans Z310 (Nat.le_of_eq g_a2.symm)
  have ne_a1_a2 : a1 ≠ a2 := Nat.ne_of_lt (Nat.lt_of_lt_of_le V_a1_310.lt (Nat.le_of_eq g_a2.symm))
  have V_a1_313 := V_a1_310.ext E312
  have Ex_a1_314 := Ex_a1_311.ext E312
  have Z312 : n0 ≤ h312.size := Nat.le_trans Z310 E312.1
  refine ownGo.st (st312) ?_
  show ownGo p.tables e below T312 (mkF m 99 #[.val (.long x0), .second, .val (.long x1), .second, .val (.long x2), .second, .val (.long x3), .second, .val (.long x4), .second, .val (.long x5), .second, .val (.int (Int32.ofNat k0)), .val (.int (Int32.ofNat k1)), .val (.int (Int32.ofNat k2)), .val (.long (own_mk k0)), .second, .val (.long (own_mk k1)), .second, .val (.long (own_mk k2)), .second, .val (.int l0), .val (.int l1), .val (.int l2), .val (.ref a1), .unset, .unset, .unset, .unset, .unset, .unset, .unset, .unset, .unset, .unset, .unset, .unset, .unset, .unset] [(.ref a2)]) _
  refine ownGo.st (fun _ k => XS.dup X312.here hx rfl (hb hby at_99) rfl rfl k) ?_
  show ownGo p.tables e below T312 (mkF m 100 #[.val (.long x0), .second, .val (.long x1), .second, .val (.long x2), .second, .val (.long x3), .second, .val (.long x4), .second, .val (.long x5), .second, .val (.int (Int32.ofNat k0)), .val (.int (Int32.ofNat k1)), .val (.int (Int32.ofNat k2)), .val (.long (own_mk k0)), .second, .val (.long (own_mk k1)), .second, .val (.long (own_mk k2)), .second, .val (.int l0), .val (.int l1), .val (.int l2), .val (.ref a1), .unset, .unset, .unset, .unset, .unset, .unset, .unset, .unset, .unset, .unset, .unset, .unset, .unset, .unset] [(.ref a2), (.ref a2)]) _
  refine ownGo.st (fun _ k => XS.iconst X312.here hx rfl (hb hby at_100)  k) ?_
  show ownGo p.tables e below T312 (mkF m 101 #[.val (.long x0), .second, .val (.long x1), .second, .val (.long x2), .second, .val (.long x3), .second, .val (.long x4), .second, .val (.long x5), .second, .val (.int (Int32.ofNat k0)), .val (.int (Int32.ofNat k1)), .val (.int (Int32.ofNat k2)), .val (.long (own_mk k0)), .second, .val (.long (own_mk k1)), .second, .val (.long (own_mk k2)), .second, .val (.int l0), .val (.int l1), .val (.int l2), .val (.ref a1), .unset, .unset, .unset, .unset, .unset, .unset, .unset, .unset, .unset, .unset, .unset, .unset, .unset, .unset] [(.int (0 : Int32)), (.ref a2), (.ref a2)]) _
  refine ownGo.st (fun _ k => XS.iload X312.here hx rfl (hb hby at_101) rfl k) ?_
  show ownGo p.tables e below T312 (mkF m 103 #[.val (.long x0), .second, .val (.long x1), .second, .val (.long x2), .second, .val (.long x3), .second, .val (.long x4), .second, .val (.long x5), .second, .val (.int (Int32.ofNat k0)), .val (.int (Int32.ofNat k1)), .val (.int (Int32.ofNat k2)), .val (.long (own_mk k0)), .second, .val (.long (own_mk k1)), .second, .val (.long (own_mk k2)), .second, .val (.int l0), .val (.int l1), .val (.int l2), .val (.ref a1), .unset, .unset, .unset, .unset, .unset, .unset, .unset, .unset, .unset, .unset, .unset, .unset, .unset, .unset] [(.int l0), (.int (0 : Int32)), (.ref a2), (.ref a2)]) _
  refine ownGo.st (fun _ k => XS.iload X312.here hx rfl (hb hby at_103) rfl k) ?_
  show ownGo p.tables e below T312 (mkF m 105 #[.val (.long x0), .second, .val (.long x1), .second, .val (.long x2), .second, .val (.long x3), .second, .val (.long x4), .second, .val (.long x5), .second, .val (.int (Int32.ofNat k0)), .val (.int (Int32.ofNat k1)), .val (.int (Int32.ofNat k2)), .val (.long (own_mk k0)), .second, .val (.long (own_mk k1)), .second, .val (.long (own_mk k2)), .second, .val (.int l0), .val (.int l1), .val (.int l2), .val (.ref a1), .unset, .unset, .unset, .unset, .unset, .unset, .unset, .unset, .unset, .unset, .unset, .unset, .unset, .unset] [(.int (Int32.ofNat k0)), (.int l0), (.int (0 : Int32)), (.ref a2), (.ref a2)]) _
  refine ownGo.st (fun _ k => XS.lload X312.here hx rfl (hb hby at_105) rfl k) ?_
  show ownGo p.tables e below T312 (mkF m 107 #[.val (.long x0), .second, .val (.long x1), .second, .val (.long x2), .second, .val (.long x3), .second, .val (.long x4), .second, .val (.long x5), .second, .val (.int (Int32.ofNat k0)), .val (.int (Int32.ofNat k1)), .val (.int (Int32.ofNat k2)), .val (.long (own_mk k0)), .second, .val (.long (own_mk k1)), .second, .val (.long (own_mk k2)), .second, .val (.int l0), .val (.int l1), .val (.int l2), .val (.ref a1), .unset, .unset, .unset, .unset, .unset, .unset, .unset, .unset, .unset, .unset, .unset, .unset, .unset, .unset] [(.long x4), (.int (Int32.ofNat k0)), (.int l0), (.int (0 : Int32)), (.ref a2), (.ref a2)]) _
  obtain ⟨_, T315, L315, X315, hQ315, st315⟩ := own_callS X312 hx hZ hown (own_at hw 15 rfl) (own_at hw 16 rfl) (own_at hw 2 rfl) (own_at hw 17 rfl) (by decide) (rm4 l Z a0 hw l0 (Int32.ofNat k0) x4 h312 n0) 3 (by decide) (by decide) e312 (by decide) (by decide) (g := (mkF m 107 #[.val (.long x0), .second, .val (.long x1), .second, .val (.long x2), .second, .val (.long x3), .second, .val (.long x4), .second, .val (.long x5), .second, .val (.int (Int32.ofNat k0)), .val (.int (Int32.ofNat k1)), .val (.int (Int32.ofNat k2)), .val (.long (own_mk k0)), .second, .val (.long (own_mk k1)), .second, .val (.long (own_mk k2)), .second, .val (.int l0), .val (.int l1), .val (.int l2), .val (.ref a1), .unset, .unset, .unset, .unset, .unset, .unset, .unset, .unset, .unset, .unset, .unset, .unset, .unset, .unset] [(.long x4), (.int (Int32.ofNat k0)), (.int l0), (.int (0 : Int32)), (.ref a2), (.ref a2)])) rfl (by rw [hml]; rfl) (argsL := [(.int l0), (.int (Int32.ofNat k0)), (.long x4)]) (rest := [(.int (0 : Int32)), (.ref a2), (.ref a2)]) (lenOf pd__IIJ_I rfl) rfl (by show 2 * 0 + _ ≤ _; exact Nat.le_of_eq rfl) (hb hby at_107)
  obtain ⟨rfl, N315q, e315⟩ := hQ315
  have N315 := Fr.app N310 N315q
  refine ownGo.st st315 ?_
  show ownGo p.tables e below T315 (mkF m 110 #[.val (.long x0), .second, .val (.long x1), .second, .val (.long x2), .second, .val (.long x3), .second, .val (.long x4), .second, .val (.long x5), .second, .val (.int (Int32.ofNat k0)), .val (.int (Int32.ofNat k1)), .val (.int (Int32.ofNat k2)), .val (.long (own_mk k0)), .second, .val (.long (own_mk k1)), .second, .val (.long (own_mk k2)), .second, .val (.int l0), .val (.int l1), .val (.int l2), .val (.ref a1), .unset, .unset, .unset, .unset, .unset, .unset, .unset, .unset, .unset, .unset, .unset, .unset, .unset, .unset] [(.int (F4 l0 (Int32.ofNat k0) x4)), (.int (0 : Int32)), (.ref a2), (.ref a2)]) _
  have hb0 := own_upp l0 x4 k0 (by omega) hl0
  obtain ⟨u0, eu0⟩ : ∃ z, z = (F4 l0 (Int32.ofNat k0) x4) := ⟨_, rfl⟩
  rw [← eu0] at hb0
  rw [← eu0]
  show ownGo p.tables e below T315 (mkF m 110 #[.val (.long x0), .second, .val (.long x1), .second, .val (.long x2), .second, .val (.long x3), .second, .val (.long x4), .second, .val (.long x5), .second, .val (.int (Int32.ofNat k0)), .val (.int (Int32.ofNat k1)), .val (.int (Int32.ofNat k2)), .val (.long (own_mk k0)), .second, .val (.long (own_mk k1)), .second, .val (.long (own_mk k2)), .second, .val (.int l0), .val (.int l1), .val (.int l2), .val (.ref a1), .unset, .unset, .unset, .unset, .unset, .unset, .unset, .unset, .unset, .unset, .unset, .unset, .unset, .unset] [(.int u0), (.int (0 : Int32)), (.ref a2), (.ref a2)]) _
  obtain ⟨T316, h316, X316, e316, W316, V_a2_316, st316⟩ := own_iastore X315 hx hZ e315 V_a2 (i := 0) rfl (by decide) (g := (mkF m 110 #[.val (.long x0), .second, .val (.long x1), .second, .val (.long x2), .second, .val (.long x3), .second, .val (.long x4), .second, .val (.long x5), .second, .val (.int (Int32.ofNat k0)), .val (.int (Int32.ofNat k1)), .val (.int (Int32.ofNat k2)), .val (.long (own_mk k0)), .second, .val (.long (own_mk k1)), .second, .val (.long (own_mk k2)), .second, .val (.int l0), .val (.int l1), .val (.int l2), .val (.ref a1), .unset, .unset, .unset, .unset, .unset, .unset, .unset, .unset, .unset, .unset, .unset, .unset, .unset, .unset] [(.int u0), (.int (0 : Int32)), (.ref a2), (.ref a2)])) rfl rfl (hb hby at_110)
  have V_a1_317 := V_a1_313.other W316 ne_a1_a2
  have Ex_a1_318 := Ex_a1_314.wr W316
  have Ex_a2_319 := Ex_a2.wr W316
  have N316 := Fr.snoc X316 N315 gz_a2
  have Z316 : n0 ≤ h316.size := Nat.le_trans Z312 (Nat.le_of_eq W316.size.symm)
  refine ownGo.st (st316) ?_
  show ownGo p.tables e below T316 (mkF m 111 #[.val (.long x0), .second, .val (.long x1), .second, .val (.long x2), .second, .val (.long x3), .second, .val (.long x4), .second, .val (.long x5), .second, .val (.int (Int32.ofNat k0)), .val (.int (Int32.ofNat k1)), .val (.int (Int32.ofNat k2)), .val (.long (own_mk k0)), .second, .val (.long (own_mk k1)), .second, .val (.long (own_mk k2)), .second, .val (.int l0), .val (.int l1), .val (.int l2), .val (.ref a1), .unset, .unset, .unset, .unset, .unset, .unset, .unset, .unset, .unset, .unset, .unset, .unset, .unset, .unset] [(.ref a2)]) _
  refine ownGo.st (fun _ k => XS.dup X316.here hx rfl (hb hby at_111) rfl rfl k) ?_
  show ownGo p.tables e below T316 (mkF m 112 #[.val (.long x0), .second, .val (.long x1), .second, .val (.long x2), .second, .val (.long x3), .second, .val (.long x4), .second, .val (.long x5), .second, .val (.int (Int32.ofNat k0)), .val (.int (Int32.ofNat k1)), .val (.int (Int32.ofNat k2)), .val (.long (own_mk k0)), .second, .val (.long (own_mk k1)), .second, .val (.long (own_mk k2)), .second, .val (.int l0), .val (.int l1), .val (.int l2), .val (.ref a1), .unset, .unset, .unset, .unset, .unset, .unset, .unset, .unset, .unset, .unset, .unset, .unset, .unset, .unset] [(.ref a2), (.ref a2)]) _
  refine ownGo.st (fun _ k => XS.iconst X316.here hx rfl (hb hby at_112)  k) ?_
  show ownGo p.tables e below T316 (mkF m 113 #[.val (.long x0), .second, .val (.long x1), .second, .val (.long x2), .second, .val (.long x3), .second, .val (.long x4), .second, .val (.long x5), .second, .val (.int (Int32.ofNat k0)), .val (.int (Int32.ofNat k1)), .val (.int (Int32.ofNat k2)), .val (.long (own_mk k0)), .second, .val (.long (own_mk k1)), .second, .val (.long (own_mk k2)), .second, .val (.int l0), .val (.int l1), .val (.int l2), .val (.ref a1), .unset, .unset, .unset, .unset, .unset, .unset, .unset, .unset, .unset, .unset, .unset, .unset, .unset, .unset] [(.int (1 : Int32)), (.ref a2), (.ref a2)]) _
  refine ownGo.st (fun _ k => XS.iload X316.here hx rfl (hb hby at_113) rfl k) ?_
  show ownGo p.tables e below T316 (mkF m 115 #[.val (.long x0), .second, .val (.long x1), .second, .val (.long x2), .second, .val (.long x3), .second, .val (.long x4), .second, .val (.long x5), .second, .val (.int (Int32.ofNat k0)), .val (.int (Int32.ofNat k1)), .val (.int (Int32.ofNat k2)), .val (.long (own_mk k0)), .second, .val (.long (own_mk k1)), .second, .val (.long (own_mk k2)), .second, .val (.int l0), .val (.int l1), .val (.int l2), .val (.ref a1), .unset, .unset, .unset, .unset, .unset, .unset, .unset, .unset, .unset, .unset, .unset, .unset, .unset, .unset] [(.int l1), (.int (1 : Int32)), (.ref a2), (.ref a2)]) _
  refine ownGo.st (fun _ k => XS.iload X316.here hx rfl (hb hby at_115) rfl k) ?_
  show ownGo p.tables e below T316 (mkF m 117 #[.val (.long x0), .second, .val (.long x1), .second, .val (.long x2), .second, .val (.long x3), .second, .val (.long x4), .second, .val (.long x5), .second, .val (.int (Int32.ofNat k0)), .val (.int (Int32.ofNat k1)), .val (.int (Int32.ofNat k2)), .val (.long (own_mk k0)), .second, .val (.long (own_mk k1)), .second, .val (.long (own_mk k2)), .second, .val (.int l0), .val (.int l1), .val (.int l2), .val (.ref a1), .unset, .unset, .unset, .unset, .unset, .unset, .unset, .unset, .unset, .unset, .unset, .unset, .unset, .unset] [(.int (Int32.ofNat k1)), (.int l1), (.int (1 : Int32)), (.ref a2), (.ref a2)]) _
  refine ownGo.st (fun _ k => XS.lload X316.here hx rfl (hb hby at_117) rfl k) ?_
  show ownGo p.tables e below T316 (mkF m 119 #[.val (.long x0), .second, .val (.long x1), .second, .val (.long x2), .second, .val (.long x3), .second, .val (.long x4), .second, .val (.long x5), .second, .val (.int (Int32.ofNat k0)), .val (.int (Int32.ofNat k1)), .val (.int (Int32.ofNat k2)), .val (.long (own_mk k0)), .second, .val (.long (own_mk k1)), .second, .val (.long (own_mk k2)), .second, .val (.int l0), .val (.int l1), .val (.int l2), .val (.ref a1), .unset, .unset, .unset, .unset, .unset, .unset, .unset, .unset, .unset, .unset, .unset, .unset, .unset, .unset] [(.long x4), (.int (Int32.ofNat k1)), (.int l1), (.int (1 : Int32)), (.ref a2), (.ref a2)]) _
  refine ownGo.st (fun _ k => XS.bipush X316.here hx rfl (hb hby at_119)  k) ?_
  show ownGo p.tables e below T316 (mkF m 121 #[.val (.long x0), .second, .val (.long x1), .second, .val (.long x2), .second, .val (.long x3), .second, .val (.long x4), .second, .val (.long x5), .second, .val (.int (Int32.ofNat k0)), .val (.int (Int32.ofNat k1)), .val (.int (Int32.ofNat k2)), .val (.long (own_mk k0)), .second, .val (.long (own_mk k1)), .second, .val (.long (own_mk k2)), .second, .val (.int l0), .val (.int l1), .val (.int l2), .val (.ref a1), .unset, .unset, .unset, .unset, .unset, .unset, .unset, .unset, .unset, .unset, .unset, .unset, .unset, .unset] [(.int (32 : Int32)), (.long x4), (.int (Int32.ofNat k1)), (.int l1), (.int (1 : Int32)), (.ref a2), (.ref a2)]) _
  refine ownGo.st (fun _ k => XS.lushr X316.here hx rfl (hb hby at_121) rfl k) ?_
  show ownGo p.tables e below T316 (mkF m 122 #[.val (.long x0), .second, .val (.long x1), .second, .val (.long x2), .second, .val (.long x3), .second, .val (.long x4), .second, .val (.long x5), .second, .val (.int (Int32.ofNat k0)), .val (.int (Int32.ofNat k1)), .val (.int (Int32.ofNat k2)), .val (.long (own_mk k0)), .second, .val (.long (own_mk k1)), .second, .val (.long (own_mk k2)), .second, .val (.int l0), .val (.int l1), .val (.int l2), .val (.ref a1), .unset, .unset, .unset, .unset, .unset, .unset, .unset, .unset, .unset, .unset, .unset, .unset, .unset, .unset] [(.long (own_lushr x4 (32 : Int32))), (.int (Int32.ofNat k1)), (.int l1), (.int (1 : Int32)), (.ref a2), (.ref a2)]) _
  obtain ⟨_, T320, L320, X320, hQ320, st320⟩ := own_callS X316 hx hZ hown (own_at hw 15 rfl) (own_at hw 16 rfl) (own_at hw 2 rfl) (own_at hw 17 rfl) (by decide) (rm4 l Z a0 hw l1 (Int32.ofNat k1) (own_lushr x4 (32 : Int32)) h316 n0) 3 (by decide) (by decide) e316 (by decide) (by decide) (g := (mkF m 122 #[.val (.long x0), .second, .val (.long x1), .second, .val (.long x2), .second, .val (.long x3), .second, .val (.long x4), .second, .val (.long x5), .second, .val (.int (Int32.ofNat k0)), .val (.int (Int32.ofNat k1)), .val (.int (Int32.ofNat k2)), .val (.long (own_mk k0)), .second, .val (.long (own_mk k1)), .second, .val (.long (own_mk k2)), .second, .val (.int l0), .val (.int l1), .val (.int l2), .val (.ref a1), .unset, .unset, .unset, .unset, .unset, .unset, .unset, .unset, .unset, .unset, .unset, .unset, .unset, .unset] [(.long (own_lushr x4 (32 : Int32))), (.int (Int32.ofNat k1)), (.int l1), (.int (1 : Int32)), (.ref a2), (.ref a2)])) rfl (by rw [hml]; rfl) (argsL := [(.int l1), (.int (Int32.ofNat k1)), (.long (own_lushr x4 (32 : Int32)))]) (rest := [(.int (1 : Int32)), (.ref a2), (.ref a2)]) (lenOf pd__IIJ_I rfl) rfl (by show 2 * 0 + _ ≤ _; exact Nat.le_of_eq rfl) (hb hby at_122)
  obtain ⟨rfl, N320q, e320⟩ := hQ320
  have N320 := Fr.app N316 N320q
  refine ownGo.st st320 ?_
  show ownGo p.tables e below T320 (mkF m 125 #[.val (.long x0), .second, .val (.long x1), .second, .val (.long x2), .second, .val (.long x3), .second, .val (.long x4), .second, .val (.long x5), .second, .val (.int (Int32.ofNat k0)), .val (.int (Int32.ofNat k1)), .val (.int (Int32.ofNat k2)), .val (.long (own_mk k0)), .second, .val (.long (own_mk k1)), .second, .val (.long (own_mk k2)), .second, .val (.int l0), .val (.int l1), .val (.int l2), .val (.ref a1), .unset, .unset, .unset, .unset, .unset, .unset, .unset, .unset, .unset, .unset, .unset, .unset, .unset, .unset] [(.int (F4 l1 (Int32.ofNat k1) (own_lushr x4 (32 : Int32)))), (.int (1 : Int32)), (.ref a2), (.ref a2)]) _
  have hb1 := own_upp l1 (own_lushr x4 (32 : Int32)) k1 (by omega) hl1
  obtain ⟨u1, eu1⟩ : ∃ z, z = (F4 l1 (Int32.ofNat k1) (own_lushr x4 (32 : Int32))) := ⟨_, rfl⟩
  rw [← eu1] at hb1
  rw [← eu1]
  show ownGo p.tables e below T320 (mkF m 125 #[.val (.long x0), .second, .val (.long x1), .second, .val (.long x2), .second, .val (.long x3), .second, .val (.long x4), .second, .val (.long x5), .second, .val (.int (Int32.ofNat k0)), .val (.int (Int32.ofNat k1)), .val (.int (Int32.ofNat k2)), .val (.long (own_mk k0)), .second, .val (.long (own_mk k1)), .second, .val (.long (own_mk k2)), .second, .val (.int l0), .val (.int l1), .val (.int l2), .val (.ref a1), .unset, .unset, .unset, .unset, .unset, .unset, .unset, .unset, .unset, .unset, .unset, .unset, .unset, .unset] [(.int u1), (.int (1 : Int32)), (.ref a2), (.ref a2)]) _
  obtain ⟨T321, h321, X321, e321, W321, V_a2_321, st321⟩ := own_iastore X320 hx hZ e320 V_a2_316 (i := 1) rfl (by decide) (g := (mkF m 125 #[.val (.long x0), .second, .val (.long x1), .second, .val (.long x2), .second, .val (.long x3), .second, .val (.long x4), .second, .val (.long x5), .second, .val (.int (Int32.ofNat k0)), .val (.int (Int32.ofNat k1)), .val (.int (Int32.ofNat k2)), .val (.long (own_mk k0)), .second, .val (.long (own_mk k1)), .second, .val (.long (own_mk k2)), .second, .val (.int l0), .val (.int l1), .val (.int l2), .val (.ref a1), .unset, .unset, .unset, .unset, .unset, .unset, .unset, .unset, .unset, .unset, .unset, .unset, .unset, .unset] [(.int u1), (.int (1 : Int32)), (.ref a2), (.ref a2)])) rfl rfl (hb hby at_125)
  have V_a1_322 := V_a1_317.other W321 ne_a1_a2
  have Ex_a1_323 := Ex_a1_318.wr W321
  have Ex_a2_324 := Ex_a2_319.wr W321
  have N321 := Fr.snoc X321 N320 gz_a2
  have Z321 : n0 ≤ h321.size := Nat.le_trans Z316 (Nat.le_of_eq W321.size.symm)
  refine ownGo.st (st321) ?_
  show ownGo p.tables e below T321 (mkF m 126 #[.val (.long x0), .second, .val (.long x1), .second, .val (.long x2), .second, .val (.long x3), .second, .val (.long x4), .second, .val (.long x5), .second, .val (.int (Int32.ofNat k0)), .val (.int (Int32.ofNat k1)), .val (.int (Int32.ofNat k2)), .val (.long (own_mk k0)), .second, .val (.long (own_mk k1)), .second, .val (.long (own_mk k2)), .second, .val (.int l0), .val (.int l1), .val (.int l2), .val (.ref a1), .unset, .unset, .unset, .unset, .unset, .unset, .unset, .unset, .unset, .unset, .unset, .unset, .unset, .unset] [(.ref a2)]) _
  refine ownGo.st (fun _ k => XS.dup X321.here hx rfl (hb hby at_126) rfl rfl k) ?_
  show ownGo p.tables e below T321 (mkF m 127 #[.val (.long x0), .second, .val (.long x1), .second, .val (.long x2), .second, .val (.long x3), .second, .val (.long x4), .second, .val (.long x5), .second, .val (.int (Int32.ofNat k0)), .val (.int (Int32.ofNat k1)), .val (.int (Int32.ofNat k2)), .val (.long (own_mk k0)), .second, .val (.long (own_mk k1)), .second, .val (.long (own_mk k2)), .second, .val (.int l0), .val (.int l1), .val (.int l2), .val (.ref a1), .unset, .unset, .unset, .unset, .unset, .unset, .unset, .unset, .unset, .unset, .unset, .unset, .unset, .unset] [(.ref a2), (.ref a2)]) _
  refine ownGo.st (fun _ k => XS.iconst X321.here hx rfl (hb hby at_127)  k) ?_
  show ownGo p.tables e below T321 (mkF m 128 #[.val (.long x0), .second, .val (.long x1), .second, .val (.long x2), .second, .val (.long x3), .second, .val (.long x4), .second, .val (.long x5), .second, .val (.int (Int32.ofNat k0)), .val (.int (Int32.ofNat k1)), .val (.int (Int32.ofNat k2)), .val (.long (own_mk k0)), .second, .val (.long (own_mk k1)), .second, .val (.long (own_mk k2)), .second, .val (.int l0), .val (.int l1), .val (.int l2), .val (.ref a1), .unset, .unset, .unset, .unset, .unset, .unset, .unset, .unset, .unset, .unset, .unset, .unset, .unset, .unset] [(.int (2 : Int32)), (.ref a2), (.ref a2)]) _
  refine ownGo.st (fun _ k => XS.iload X321.here hx rfl (hb hby at_128) rfl k) ?_
  show ownGo p.tables e below T321 (mkF m 130 #[.val (.long x0), .second, .val (.long x1), .second, .val (.long x2), .second, .val (.long x3), .second, .val (.long x4), .second, .val (.long x5), .second, .val (.int (Int32.ofNat k0)), .val (.int (Int32.ofNat k1)), .val (.int (Int32.ofNat k2)), .val (.long (own_mk k0)), .second, .val (.long (own_mk k1)), .second, .val (.long (own_mk k2)), .second, .val (.int l0), .val (.int l1), .val (.int l2), .val (.ref a1), .unset, .unset, .unset, .unset, .unset, .unset, .unset, .unset, .unset, .unset, .unset, .unset, .unset, .unset] [(.int l2), (.int (2 : Int32)), (.ref a2), (.ref a2)]) _
  refine ownGo.st (fun _ k => XS.iload X321.here hx rfl (hb hby at_130) rfl k) ?_
  show ownGo p.tables e below T321 (mkF m 132 #[.val (.long x0), .second, .val (.long x1), .second, .val (.long x2), .second, .val (.long x3), .second, .val (.long x4), .second, .val (.long x5), .second, .val (.int (Int32.ofNat k0)), .val (.int (Int32.ofNat k1)), .val (.int (Int32.ofNat k2)), .val (.long (own_mk k0)), .second, .val (.long (own_mk k1)), .second, .val (.long (own_mk k2)), .second, .val (.int l0), .val (.int l1), .val (.int l2), .val (.ref a1), .unset, .unset, .unset, .unset, .unset, .unset, .unset, .unset, .unset, .unset, .unset, .unset, .unset, .unset] [(.int (Int32.ofNat k2)), (.int l2), (.int (2 : Int32)), (.ref a2), (.ref a2)]) _
  refine ownGo.st (fun _ k => XS.lload X321.here hx rfl (hb hby at_132) rfl k) ?_
  show ownGo p.tables e below T321 (mkF m 134 #[.val (.long x0), .second, .val (.long x1), .second, .val (.long x2), .second, .val (.long x3), .second, .val (.long x4), .second, .val (.long x5), .second, .val (.int (Int32.ofNat k0)), .val (.int (Int32.ofNat k1)), .val (.int (Int32.ofNat k2)), .val (.long (own_mk k0)), .second, .val (.long (own_mk k1)), .second, .val (.long (own_mk k2)), .second, .val (.int l0), .val (.int l1), .val (.int l2), .val (.ref a1), .unset, .unset, .unset, .unset, .unset, .unset, .unset, .unset, .unset, .unset, .unset, .unset, .unset, .unset] [(.long x3), (.int (Int32.ofNat k2)), (.int l2), (.int (2 : Int32)), (.ref a2), (.ref a2)]) _
  refine ownGo.st (fun _ k => XS.bipush X321.here hx rfl (hb hby at_134)  k) ?_
  show ownGo p.tables e below T321 (mkF m 136 #[.val (.long x0), .second, .val (.long x1), .second, .val (.long x2), .second, .val (.long x3), .second, .val (.long x4), .second, .val (.long x5), .second, .val (.int (Int32.ofNat k0)), .val (.int (Int32.ofNat k1)), .val (.int (Int32.ofNat k2)), .val (.long (own_mk k0)), .second, .val (.long (own_mk k1)), .second, .val (.long (own_mk k2)), .second, .val (.int l0), .val (.int l1), .val (.int l2), .val (.ref a1), .unset, .unset, .unset, .unset, .unset, .unset, .unset, .unset, .unset, .unset, .unset, .unset, .unset, .unset] [(.int (32 : Int32)), (.long x3), (.int (Int32.ofNat k2)), (.int l2), (.int (2 : Int32)), (.ref a2), (.ref a2)]) _
  refine ownGo.st (fun _ k => XS.lushr X321.here hx rfl (hb hby at_136) rfl k) ?_
  show ownGo p.tables e below T321 (mkF m 137 #[.val (.long x0), .second, .val (.long x1), .second, .val (.long x2), .second, .val (.long x3), .second, .val (.long x4), .second, .val (.long x5), .second, .val (.int (Int32.ofNat k0)), .val (.int (Int32.ofNat k1)), .val (.int (Int32.ofNat k2)), .val (.long (own_mk k0)), .second, .val (.long (own_mk k1)), .second, .val (.long (own_mk k2)), .second, .val (.int l0), .val (.int l1), .val (.int l2), .val (.ref a1), .unset, .unset, .unset, .unset, .unset, .unset, .unset, .unset, .unset, .unset, .unset, .unset, .unset, .unset] [(.long (own_lushr x3 (32 : Int32))), (.int (Int32.ofNat k2)), (.int l2), (.int (2 : Int32)), (.ref a2), (.ref a2)]) _
  obtain ⟨_, T325, L325, X325, hQ325, st325⟩ := own_callS X321 hx hZ hown (own_at hw 15 rfl) (own_at hw 16 rfl) (own_at hw 2 rfl) (own_at hw 17 rfl) (by decide) (rm4 l Z a0 hw l2 (Int32.ofNat k2) (own_lushr x3 (32 : Int32)) h321 n0) 3 (by decide) (by decide) e321 (by decide) (by decide) (g := (mkF m 137 #[.val (.long x0), .second, .val (.long x1), .second, .val (.long x2), .second, .val (.long x3), .second, .val (.long x4), .second, .val (.long x5), .second, .val (.int (Int32.ofNat k0)), .val (.int (Int32.ofNat k1)), .val (.int (Int32.ofNat k2)), .val (.long (own_mk k0)), .second, .val (.long (own_mk k1)), .second, .val (.long (own_mk k2)), .second, .val (.int l0), .val (.int l1), .val (.int l2), .val (.ref a1), .unset, .unset, .unset, .unset, .unset, .unset, .unset, .unset, .unset, .unset, .unset, .unset, .unset, .unset] [(.long (own_lushr x3 (32 : Int32))), (.int (Int32.ofNat k2)), (.int l2), (.int (2 : Int32)), (.ref a2), (.ref a2)])) rfl (by rw [hml]; rfl) (argsL := [(.int l2), (.int (Int32.ofNat k2)), (.long (own_lushr x3 (32 : Int32)))]) (rest := [(.int (2 : Int32)), (.ref a2), (.ref a2)]) (lenOf pd__IIJ_I rfl) rfl (by show 2 * 0 + _ ≤ _; exact Nat.le_of_eq rfl) (hb hby at_137)
  obtain ⟨rfl, N325q, e325⟩ := hQ325
  have N325 := Fr.app N321 N325q
  refine ownGo.st st325 ?_
  show ownGo p.tables e below T325 (mkF m 140 #[.val (.long x0), .second, .val (.long x1), .second, .val (.long x2), .second, .val (.long x3), .second, .val (.long x4), .second, .val (.long x5), .second, .val (.int (Int32.ofNat k0)), .val (.int (Int32.ofNat k1)), .val (.int (Int32.ofNat k2)), .val (.long (own_mk k0)), .second, .val (.long (own_mk k1)), .second, .val (.long (own_mk k2)), .second, .val (.int l0), .val (.int l1), .val (.int l2), .val (.ref a1), .unset, .unset, .unset, .unset, .unset, .unset, .unset, .unset, .unset, .unset, .unset, .unset, .unset, .unset] [(.int (F4 l2 (Int32.ofNat k2) (own_lushr x3 (32 : Int32)))), (.int (2 : Int32)), (.ref a2), (.ref a2)]) _
  have hb2 := own_upp l2 (own_lushr x3 (32 : Int32)) k2 (by omega) hl2
  obtain ⟨u2, eu2⟩ : ∃ z, z = (F4 l2 (Int32.ofNat k2) (own_lushr x3 (32 : Int32))) := ⟨_, rfl⟩
  rw [← eu2] at hb2
  rw [← eu2]
  show ownGo p.tables e below T325 (mkF m 140 #[.val (.long x0), .second, .val (.long x1), .second, .val (.long x2), .second, .val (.long x3), .second, .val (.long x4), .second, .val (.long x5), .second, .val (.int (Int32.ofNat k0)), .val (.int (Int32.ofNat k1)), .val (.int (Int32.ofNat k2)), .val (.long (own_mk k0)), .second, .val (.long (own_mk k1)), .second, .val (.long (own_mk k2)), .second, .val (.int l0), .val (.int l1), .val (.int l2), .val (.ref a1), .unset, .unset, .unset, .unset, .unset, .unset, .unset, .unset, .unset, .unset, .unset, .unset, .unset, .unset] [(.int u2), (.int (2 : Int32)), (.ref a2), (.ref a2)]) _
  obtain ⟨T326, h326, X326, e326, W326, V_a2_326, st326⟩ := own_iastore X325 hx hZ e325 V_a2_321 (i := 2) rfl (by decide) (g := (mkF m 140 #[.val (.long x0), .second, .val (.long x1), .second, .val (.long x2), .second, .val (.long x3), .second, .val (.long x4), .second, .val (.long x5), .second, .val (.int (Int32.ofNat k0)), .val (.int (Int32.ofNat k1)), .val (.int (Int32.ofNat k2)), .val (.long (own_mk k0)), .second, .val (.long (own_mk k1)), .second, .val (.long (own_mk k2)), .second, .val (.int l0), .val (.int l1), .val (.int l2), .val (.ref a1), .unset, .unset, .unset, .unset, .unset, .unset, .unset, .unset, .unset, .unset, .unset, .unset, .unset, .unset] [(.int u2), (.int (2 : Int32)), (.ref a2), (.ref a2)])) rfl rfl (hb hby at_140)
  have V_a1_327 := V_a1_322.other W326 ne_a1_a2
  have Ex_a1_328 := Ex_a1_323.wr W326
  have Ex_a2_329 := Ex_a2_324.wr W326
  have N326 := Fr.snoc X326 N325 gz_a2
  have Z326 : n0 ≤ h326.size := Nat.le_trans Z321 (Nat.le_of_eq W326.size.symm)
  refine ownGo.st (st326) ?_
  show ownGo p.tables e below T326 (mkF m 141 #[.val (.long x0), .second, .val (.long x1), .second, .val (.long x2), .second, .val (.long x3), .second, .val (.long x4), .second, .val (.long x5), .second, .val (.int (Int32.ofNat k0)), .val (.int (Int32.ofNat k1)), .val (.int (Int32.ofNat k2)), .val (.long (own_mk k0)), .second, .val (.long (own_mk k1)), .second, .val (.long (own_mk k2)), .second, .val (.int l0), .val (.int l1), .val (.int l2), .val (.ref a1), .unset, .unset, .unset, .unset, .unset, .unset, .unset, .unset, .unset, .unset, .unset, .unset, .unset, .unset] [(.ref a2)]) _
  refine ownGo.st (fun _ k => XS.astore X326.here hx rfl (hb hby at_141) rfl rfl (l' := #[.val (.long x0), .second, .val (.long x1), .second, .val (.long x2), .second, .val (.long x3), .second, .val (.long x4), .second, .val (.long x5), .second, .val (.int (Int32.ofNat k0)), .val (.int (Int32.ofNat k1)), .val (.int (Int32.ofNat k2)), .val (.long (own_mk k0)), .second, .val (.long (own_mk k1)), .second, .val (.long (own_mk k2)), .second, .val (.int l0), .val (.int l1), .val (.int l2), .val (.ref a1), .val (.ref a2), .unset, .unset, .unset, .unset, .unset, .unset, .unset, .unset, .unset, .unset, .unset, .unset, .unset]) rfl k) ?_
  show ownGo p.tables e below T326 (mkF m 143 #[.val (.long x0), .second, .val (.long x1), .second, .val (.long x2), .second, .val (.long x3), .second, .val (.long x4), .second, .val (.long x5), .second, .val (.int (Int32.ofNat k0)), .val (.int (Int32.ofNat k1)), .val (.int (Int32.ofNat k2)), .val (.long (own_mk k0)), .second, .val (.long (own_mk k1)), .second, .val (.long (own_mk k2)), .second, .val (.int l0), .val (.int l1), .val (.int l2), .val (.ref a1), .val (.ref a2), .unset, .unset, .unset, .unset, .unset, .unset, .unset, .unset, .unset, .unset, .unset, .unset, .unset] []) _
  refine ownGo.st (fun _ k => XS.lloadN X326.here hx rfl (hb hby at_143) rfl k) ?_
  show ownGo p.tables e below T326 (mkF m 144 #[.val (.long x0), .second, .val (.long x1), .second, .val (.long x2), .second, .val (.long x3), .second, .val (.long x4), .second, .val (.long x5), .second, .val (.int (Int32.ofNat k0)), .val (.int (Int32.ofNat k1)), .val (.int (Int32.ofNat k2)), .val (.long (own_mk k0)), .second, .val (.long (own_mk k1)), .second, .val (.long (own_mk k2)), .second, .val (.int l0), .val (.int l1), .val (.int l2), .val (.ref a1), .val (.ref a2), .unset, .unset, .unset, .unset, .unset, .unset, .unset, .unset, .unset, .unset, .unset, .unset, .unset] [(.long x0)]) _
  refine ownGo.st (X326.ldc2Long hx hown (mvT hZ (own_at hw 18 rfl)) (g := (mkF m 144 #[.val (.long x0), .second, .val (.long x1), .second, .val (.long x2), .second, .val (.long x3), .second, .val (.long x4), .second, .val (.long x5), .second, .val (.int (Int32.ofNat k0)), .val (.int (Int32.ofNat k1)), .val (.int (Int32.ofNat k2)), .val (.long (own_mk k0)), .second, .val (.long (own_mk k1)), .second, .val (.long (own_mk k2)), .second, .val (.int l0), .val (.int l1), .val (.int l2), .val (.ref a1), .val (.ref a2), .unset, .unset, .unset, .unset, .unset, .unset, .unset, .unset, .unset, .unset, .unset, .unset, .unset] [(.long x0)])) rfl (hb hby at_144)) ?_
  show ownGo p.tables e below T326 (mkF m 147 #[.val (.long x0), .second, .val (.long x1), .second, .val (.long x2), .second, .val (.long x3), .second, .val (.long x4), .second, .val (.long x5), .second, .val (.int (Int32.ofNat k0)), .val (.int (Int32.ofNat k1)), .val (.int (Int32.ofNat k2)), .val (.long (own_mk k0)), .second, .val (.long (own_mk k1)), .second, .val (.long (own_mk k2)), .second, .val (.int l0), .val (.int l1), .val (.int l2), .val (.ref a1), .val (.ref a2), .unset, .unset, .unset, .unset, .unset, .unset, .unset, .unset, .unset, .unset, .unset, .unset, .unset] [(.long (4294967295 : Int64)), (.long x0)]) _
  refine ownGo.st (fun _ k => XS.land X326.here hx rfl (hb hby at_147) rfl k) ?_
  show ownGo p.tables e below T326 (mkF m 148 #[.val (.long x0), .second, .val (.long x1), .second, .val (.long x2), .second, .val (.long x3), .second, .val (.long x4), .second, .val (.long x5), .second, .val (.int (Int32.ofNat k0)), .val (.int (Int32.ofNat k1)), .val (.int (Int32.ofNat k2)), .val (.long (own_mk k0)), .second, .val (.long (own_mk k1)), .second, .val (.long (own_mk k2)), .second, .val (.int l0), .val (.int l1), .val (.int l2), .val (.ref a1), .val (.ref a2), .unset, .unset, .unset, .unset, .unset, .unset, .unset, .unset, .unset, .unset, .unset, .unset, .unset] [(.long (x0 &&& (4294967295 : Int64)))]) _
  refine ownGo.st (fun _ k => XS.lload X326.here hx rfl (hb hby at_148) rfl k) ?_
  show ownGo p.tables e below T326 (mkF m 150 #[.val (.long x0), .second, .val (.long x1), .second, .val (.long x2), .second, .val (.long x3), .second, .val (.long x4), .second, .val (.long x5), .second, .val (.int (Int32.ofNat k0)), .val (.int (Int32.ofNat k1)), .val (.int (Int32.ofNat k2)), .val (.long (own_mk k0)), .second, .val (.long (own_mk k1)), .second, .val (.long (own_mk k2)), .second, .val (.int l0), .val (.int l1), .val (.int l2), .val (.ref a1), .val (.ref a2), .unset, .unset, .unset, .unset, .unset, .unset, .unset, .unset, .unset, .unset, .unset, .unset, .unset] [(.long (own_mk k0)), (.long (x0 &&& (4294967295 : Int64)))]) _
  refine ownGo.st (fun _ k => XS.land X326.here hx rfl (hb hby at_150) rfl k) ?_
  show ownGo p.tables e below T326 (mkF m 151 #[.val (.long x0), .second, .val (.long x1), .second, .val (.long x2), .second, .val (.long x3), .second, .val (.long x4), .second, .val (.long x5), .second, .val (.int (Int32.ofNat k0)), .val (.int (Int32.ofNat k1)), .val (.int (Int32.ofNat k2)), .val (.long (own_mk k0)), .second, .val (.long (own_mk k1)), .second, .val (.long (own_mk k2)), .second, .val (.int l0), .val (.int l1), .val (.int l2), .val (.ref a1), .val (.ref a2), .unset, .unset, .unset, .unset, .unset, .unset, .unset, .unset, .unset, .unset, .unset, .unset, .unset] [(.long ((x0 &&& (4294967295 : Int64)) &&& (own_mk k0)))]) _
  have hd0 := own_dd x0 k0 (by omega)
  obtain ⟨d0, ed0⟩ : ∃ z, z = ((x0 &&& (4294967295 : Int64)) &&& (own_mk k0)) := ⟨_, rfl⟩
  rw [← ed0] at hd0
  rw [← ed0]
  show ownGo p.tables e below T326 (mkF m 151 #[.val (.long x0), .second, .val (.long x1), .second, .val (.long x2), .second, .val (.long x3), .second, .val (.long x4), .second, .val (.long x5), .second, .val (.int (Int32.ofNat k0)), .val (.int (Int32.ofNat k1)), .val (.int (Int32.ofNat k2)), .val (.long (own_mk k0)), .second, .val (.long (own_mk k1)), .second, .val (.long (own_mk k2)), .second, .val (.int l0), .val (.int l1), .val (.int l2), .val (.ref a1), .val (.ref a2), .unset, .unset, .unset, .unset, .unset, .unset, .unset, .unset, .unset, .unset, .unset, .unset, .unset] [(.long d0)]) _
  refine ownGo.st (fun _ k => XS.lstore X326.here hx rfl (hb hby at_151) rfl (l' := #[.val (.long x0), .second, .val (.long x1), .second, .val (.long x2), .second, .val (.long x3), .second, .val (.long x4), .second, .val (.long x5), .second, .val (.int (Int32.ofNat k0)), .val (.int (Int32.ofNat k1)), .val (.int (Int32.ofNat k2)), .val (.long (own_mk k0)), .second, .val (.long (own_mk k1)), .second, .val (.long (own_mk k2)), .second, .val (.int l0), .val (.int l1), .val (.int l2), .val (.ref a1), .val (.ref a2), .val (.long d0), .second, .unset, .unset, .unset, .unset, .unset, .unset, .unset, .unset, .unset, .unset, .unset]) rfl k) ?_
  show ownGo p.tables e below T326 (mkF m 153 #[.val (.long x0), .second, .val (.long x1), .second, .val (.long x2), .second, .val (.long x3), .second, .val (.long x4), .second, .val (.long x5), .second, .val (.int (Int32.ofNat k0)), .val (.int (Int32.ofNat k1)), .val (.int (Int32.ofNat k2)), .val (.long (own_mk k0)), .second, .val (.long (own_mk k1)), .second, .val (.long (own_mk k2)), .second, .val (.int l0), .val (.int l1), .val (.int l2), .val (.ref a1), .val (.ref a2), .val (.long d0), .second, .unset, .unset, .unset, .unset, .unset, .unset, .unset, .unset, .unset, .unset, .unset] []) _
  refine ownGo.st (fun _ k => XS.lloadN X326.here hx rfl (hb hby at_153) rfl k) ?_
  show ownGo p.tables e below T326 (mkF m 154 #[.val (.long x0), .second, .val (.long x1), .second, .val (.long x2), .second, .val (.long x3), .second, .val (.long x4), .second, .val (.long x5), .second, .val (.int (Int32.ofNat k0)), .val (.int (Int32.ofNat k1)), .val (.int (Int32.ofNat k2)), .val (.long (own_mk k0)), .second, .val (.long (own_mk k1)), .second, .val (.long (own_mk k2)), .second, .val (.int l0), .val (.int l1), .val (.int l2), .val (.ref a1), .val (.ref a2), .val (.long d0), .second, .unset, .unset, .unset, .unset, .unset, .unset, .unset, .unset, .unset, .unset, .unset] [(.long x1)]) _
  refine ownGo.st (X326.ldc2Long hx hown (mvT hZ (own_at hw 18 rfl)) (g := (mkF m 154 #[.val (.long x0), .second, .val (.long x1), .second, .val (.long x2), .second, .val (.long x3), .second, .val (.long x4), .second, .val (.long x5), .second, .val (.int (Int32.ofNat k0)), .val (.int (Int32.ofNat k1)), .val (.int (Int32.ofNat k2)), .val (.long (own_mk k0)), .second, .val (.long (own_mk k1)), .second, .val (.long (own_mk k2)), .second, .val (.int l0), .val (.int l1), .val (.int l2), .val (.ref a1), .val (.ref a2), .val (.long d0), .second, .unset, .unset, .unset, .unset, .unset, .unset, .unset, .unset, .unset, .unset, .unset] [(.long x1)])) rfl (hb hby at_154)) ?_
  show ownGo p.tables e below T326 (mkF m 157 #[.val (.long x0), .second, .val (.long x1), .second, .val (.long x2), .second, .val (.long x3), .second, .val (.long x4), .second, .val (.long x5), .second, .val (.int (Int32.ofNat k0)), .val (.int (Int32.ofNat k1)), .val (.int (Int32.ofNat k2)), .val (.long (own_mk k0)), .second, .val (.long (own_mk k1)), .second, .val (.long (own_mk k2)), .second, .val (.int l0), .val (.int l1), .val (.int l2), .val (.ref a1), .val (.ref a2), .val (.long d0), .second, .unset, .unset, .unset, .unset, .unset, .unset, .unset, .unset, .unset, .unset, .unset] [(.long (4294967295 : Int64)), (.long x1)]) _
  refine ownGo.st (fun _ k => XS.land X326.here hx rfl (hb hby at_157) rfl k) ?_
  show ownGo p.tables e below T326 (mkF m 158 #[.val (.long x0), .second, .val (.long x1), .second, .val (.long x2), .second, .val (.long x3), .second, .val (.long x4), .second, .val (.long x5), .second, .val (.int (Int32.ofNat k0)), .val (.int (Int32.ofNat k1)), .val (.int (Int32.ofNat k2)), .val (.long (own_mk k0)), .second, .val (.long (own_mk k1)), .second, .val (.long (own_mk k2)), .second, .val (.int l0), .val (.int l1), .val (.int l2), .val (.ref a1), .val (.ref a2), .val (.long d0), .second, .unset, .unset, .unset, .unset, .unset, .unset, .unset, .unset, .unset, .unset, .unset] [(.long (x1 &&& (4294967295 : Int64)))]) _
  refine ownGo.st (fun _ k => XS.lload X326.here hx rfl (hb hby at_158) rfl k) ?_
  show ownGo p.tables e below T326 (mkF m 160 #[.val (.long x0), .second, .val (.long x1), .second, .val (.long x2), .second, .val (.long x3), .second, .val (.long x4), .second, .val (.long x5), .second, .val (.int (Int32.ofNat k0)), .val (.int (Int32.ofNat k1)), .val (.int (Int32.ofNat k2)), .val (.long (own_mk k0)), .second, .val (.long (own_mk k1)), .second, .val (.long (own_mk k2)), .second, .val (.int l0), .val (.int l1), .val (.int l2), .val (.ref a1), .val (.ref a2), .val (.long d0), .second, .unset, .unset, .unset, .unset, .unset, .unset, .unset, .unset, .unset, .unset, .unset] [(.long (own_mk k1)), (.long (x1 &&& (4294967295 : Int64)))]) _
  refine ownGo.st (fun _ k => XS.land X326.here hx rfl (hb hby at_160) rfl k) ?_
  show ownGo p.tables e below T326 (mkF m 161 #[.val (.long x0), .second, .val (.long x1), .second, .val (.long x2), .second, .val (.long x3), .second, .val (.long x4), .second, .val (.long x5), .second, .val (.int (Int32.ofNat k0)), .val (.int (Int32.ofNat k1)), .val (.int (Int32.ofNat k2)), .val (.long (own_mk k0)), .second, .val (.long (own_mk k1)), .second, .val (.long (own_mk k2)), .second, .val (.int l0), .val (.int l1), .val (.int l2), .val (.ref a1), .val (.ref a2), .val (.long d0), .second, .unset, .unset, .unset, .unset, .unset, .unset, .unset, .unset, .unset, .unset, .unset] [(.long ((x1 &&& (4294967295 : Int64)) &&& (own_mk k1)))]) _
  have hd1 := own_dd x1 k1 (by omega)
  obtain ⟨d1, ed1⟩ : ∃ z, z = ((x1 &&& (4294967295 : Int64)) &&& (own_mk k1)) := ⟨_, rfl⟩
  rw [← ed1] at hd1
  rw [← ed1]
  show ownGo p.tables e below T326 (mkF m 161 #[.val (.long x0), .second, .val (.long x1), .second, .val (.long x2), .second, .val (.long x3), .second, .val (.long x4), .second, .val (.long x5), .second, .val (.int (Int32.ofNat k0)), .val (.int (Int32.ofNat k1)), .val (.int (Int32.ofNat k2)), .val (.long (own_mk k0)), .second, .val (.long (own_mk k1)), .second, .val (.long (own_mk k2)), .second, .val (.int l0), .val (.int l1), .val (.int l2), .val (.ref a1), .val (.ref a2), .val (.long d0), .second, .unset, .unset, .unset, .unset, .unset, .unset, .unset, .unset, .unset, .unset, .unset] [(.long d1)]) _
  refine ownGo.st (fun _ k => XS.lstore X326.here hx rfl (hb hby at_161) rfl (l' := #[.val (.long x0), .second, .val (.long x1), .second, .val (.long x2), .second, .val (.long x3), .second, .val (.long x4), .second, .val (.long x5), .second, .val (.int (Int32.ofNat k0)), .val (.int (Int32.ofNat k1)), .val (.int (Int32.ofNat k2)), .val (.long (own_mk k0)), .second, .val (.long (own_mk k1)), .second, .val (.long (own_mk k2)), .second, .val (.int l0), .val (.int l1), .val (.int l2), .val (.ref a1), .val (.ref a2), .val (.long d0), .second, .val (.long d1), .second, .unset, .unset, .unset, .unset, .unset, .unset, .unset, .unset, .unset]) rfl k) ?_
  show ownGo p.tables e below T326 (mkF m 163 #[.val (.long x0), .second, .val (.long x1), .second, .val (.long x2), .second, .val (.long x3), .second, .val (.long x4), .second, .val (.long x5), .second, .val (.int (Int32.ofNat k0)), .val (.int (Int32.ofNat k1)), .val (.int (Int32.ofNat k2)), .val (.long (own_mk k0)), .second, .val (.long (own_mk k1)), .second, .val (.long (own_mk k2)), .second, .val (.int l0), .val (.int l1), .val (.int l2), .val (.ref a1), .val (.ref a2), .val (.long d0), .second, .val (.long d1), .second, .unset, .unset, .unset, .unset, .unset, .unset, .unset, .unset, .unset] []) _
  refine ownGo.st (fun _ k => XS.lload X326.here hx rfl (hb hby at_163) rfl k) ?_
  show ownGo p.tables e below T326 (mkF m 165 #[.val (.long x0), .second, .val (.long x1), .second, .val (.long x2), .second, .val (.long x3), .second, .val (.long x4), .second, .val (.long x5), .second, .val (.int (Int32.ofNat k0)), .val (.int (Int32.ofNat k1)), .val (.int (Int32.ofNat k2)), .val (.long (own_mk k0)), .second, .val (.long (own_mk k1)), .second, .val (.long (own_mk k2)), .second, .val (.int l0), .val (.int l1), .val (.int l2), .val (.ref a1), .val (.ref a2), .val (.long d0), .second, .val (.long d1), .second, .unset, .unset, .unset, .unset, .unset, .unset, .unset, .unset, .unset] [(.long x2)]) _
  refine ownGo.st (X326.ldc2Long hx hown (mvT hZ (own_at hw 18 rfl)) (g := (mkF m 165 #[.val (.long x0), .second, .val (.long x1), .second, .val (.long x2), .second, .val (.long x3), .second, .val (.long x4), .second, .val (.long x5), .second, .val (.int (Int32.ofNat k0)), .val (.int (Int32.ofNat k1)), .val (.int (Int32.ofNat k2)), .val (.long (own_mk k0)), .second, .val (.long (own_mk k1)), .second, .val (.long (own_mk k2)), .second, .val (.int l0), .val (.int l1), .val (.int l2), .val (.ref a1), .val (.ref a2), .val (.long d0), .second, .val (.long d1), .second, .unset, .unset, .unset, .unset, .unset, .unset, .unset, .unset, .unset] [(.long x2)])) rfl (hb hby at_165)) ?_
  show ownGo p.tables e below T326 (mkF m 168 #[.val (.long x0), .second, .val (.long x1), .second, .val (.long x2), .second, .val (.long x3), .second, .val (.long x4), .second, .val (.long x5), .second, .val (.int (Int32.ofNat k0)), .val (.int (Int32.ofNat k1)), .val (.int (Int32.ofNat k2)), .val (.long (own_mk k0)), .second, .val (.long (own_mk k1)), .second, .val (.long (own_mk k2)), .second, .val (.int l0), .val (.int l1), .val (.int l2), .val (.ref a1), .val (.ref a2), .val (.long d0), .second, .val (.long d1), .second, .unset, .unset, .unset, .unset, .unset, .unset, .unset, .unset, .unset] [(.long (4294967295 : Int64)), (.long x2)]) _
  refine ownGo.st (fun _ k => XS.land X326.here hx rfl (hb hby at_168) rfl k) ?_
  show ownGo p.tables e below T326 (mkF m 169 #[.val (.long x0), .second, .val (.long x1), .second, .val (.long x2), .second, .val (.long x3), .second, .val (.long x4), .second, .val (.long x5), .second, .val (.int (Int32.ofNat k0)), .val (.int (Int32.ofNat k1)), .val (.int (Int32.ofNat k2)), .val (.long (own_mk k0)), .second, .val (.long (own_mk k1)), .second, .val (.long (own_mk k2)), .second, .val (.int l0), .val (.int l1), .val (.int l2), .val (.ref a1), .val (.ref a2), .val (.long d0), .second, .val (.long d1), .second, .unset, .unset, .unset, .unset, .unset, .unset, .unset, .unset, .unset] [(.long (x2 &&& (4294967295 : Int64)))]) _
  refine ownGo.st (fun _ k => XS.lload X326.here hx rfl (hb hby at_169) rfl k) ?_
  show ownGo p.tables e below T326 (mkF m 171 #[.val (.long x0), .second, .val (.long x1), .second, .val (.long x2), .second, .val (.long x3), .second, .val (.long x4), .second, .val (.long x5), .second, .val (.int (Int32.ofNat k0)), .val (.int (Int32.ofNat k1)), .val (.int (Int32.ofNat k2)), .val (.long (own_mk k0)), .second, .val (.long (own_mk k1)), .second, .val (.long (own_mk k2)), .second, .val (.int l0), .val (.int l1), .val (.int l2), .val (.ref a1), .val (.ref a2), .val (.long d0), .second, .val (.long d1), .second, .unset, .unset, .unset, .unset, .unset, .unset, .unset, .unset, .unset] [(.long (own_mk k2)), (.long (x2 &&& (4294967295 : Int64)))]) _
  refine ownGo.st (fun _ k => XS.land X326.here hx rfl (hb hby at_171) rfl k) ?_
  show ownGo p.tables e below T326 (mkF m 172 #[.val (.long x0), .second, .val (.long x1), .second, .val (.long x2), .second, .val (.long x3), .second, .val (.long x4), .second, .val (.long x5), .second, .val (.int (Int32.ofNat k0)), .val (.int (Int32.ofNat k1)), .val (.int (Int32.ofNat k2)), .val (.long (own_mk k0)), .second, .val (.long (own_mk k1)), .second, .val (.long (own_mk k2)), .second, .val (.int l0), .val (.int l1), .val (.int l2), .val (.ref a1), .val (.ref a2), .val (.long d0), .second, .val (.long d1), .second, .unset, .unset, .unset, .unset, .unset, .unset, .unset, .unset, .unset] [(.long ((x2 &&& (4294967295 : Int64)) &&& (own_mk k2)))]) _
  have hd2 := own_dd x2 k2 (by omega)
  obtain ⟨d2, ed2⟩ : ∃ z, z = ((x2 &&& (4294967295 : Int64)) &&& (own_mk k2)) := ⟨_, rfl⟩
  rw [← ed2] at hd2
  rw [← ed2]
  show ownGo p.tables e below T326 (mkF m 172 #[.val (.long x0), .second, .val (.long x1), .second, .val (.long x2), .second, .val (.long x3), .second, .val (.long x4), .second, .val (.long x5), .second, .val (.int (Int32.ofNat k0)), .val (.int (Int32.ofNat k1)), .val (.int (Int32.ofNat k2)), .val (.long (own_mk k0)), .second, .val (.long (own_mk k1)), .second, .val (.long (own_mk k2)), .second, .val (.int l0), .val (.int l1), .val (.int l2), .val (.ref a1), .val (.ref a2), .val (.long d0), .second, .val (.long d1), .second, .unset, .unset, .unset, .unset, .unset, .unset, .unset, .unset, .unset] [(.long d2)]) _
  refine ownGo.st (fun _ k => XS.lstore X326.here hx rfl (hb hby at_172) rfl (l' := #[.val (.long x0), .second, .val (.long x1), .second, .val (.long x2), .second, .val (.long x3), .second, .val (.long x4), .second, .val (.long x5), .second, .val (.int (Int32.ofNat k0)), .val (.int (Int32.ofNat k1)), .val (.int (Int32.ofNat k2)), .val (.long (own_mk k0)), .second, .val (.long (own_mk k1)), .second, .val (.long (own_mk k2)), .second, .val (.int l0), .val (.int l1), .val (.int l2), .val (.ref a1), .val (.ref a2), .val (.long d0), .second, .val (.long d1), .second, .val (.long d2), .second, .unset, .unset, .unset, .unset, .unset, .unset, .unset]) rfl k) ?_
  show ownGo p.tables e below T326 (mkF m 174 #[.val (.long x0), .second, .val (.long x1), .second, .val (.long x2), .second, .val (.long x3), .second, .val (.long x4), .second, .val (.long x5), .second, .val (.int (Int32.ofNat k0)), .val (.int (Int32.ofNat k1)), .val (.int (Int32.ofNat k2)), .val (.long (own_mk k0)), .second, .val (.long (own_mk k1)), .second, .val (.long (own_mk k2)), .second, .val (.int l0), .val (.int l1), .val (.int l2), .val (.ref a1), .val (.ref a2), .val (.long d0), .second, .val (.long d1), .second, .val (.long d2), .second, .unset, .unset, .unset, .unset, .unset, .unset, .unset] []) _
  refine ownGo.st (fun _ k => XS.iconst X326.here hx rfl (hb hby at_174)  k) ?_
  show ownGo p.tables e below T326 (mkF m 175 #[.val (.long x0), .second, .val (.long x1), .second, .val (.long x2), .second, .val (.long x3), .second, .val (.long x4), .second, .val (.long x5), .second, .val (.int (Int32.ofNat k0)), .val (.int (Int32.ofNat k1)), .val (.int (Int32.ofNat k2)), .val (.long (own_mk k0)), .second, .val (.long (own_mk k1)), .second, .val (.long (own_mk k2)), .second, .val (.int l0), .val (.int l1), .val (.int l2), .val (.ref a1), .val (.ref a2), .val (.long d0), .second, .val (.long d1), .second, .val (.long d2), .second, .unset, .unset, .unset, .unset, .unset, .unset, .unset] [(.int (3 : Int32))]) _
  obtain ⟨T330, h330, a3, X330, e330, E330, V_a3, Ex_a3, g_a3, st330⟩ := own_newarray (aty := .int) X326 hx hZ (own_at hw 14 rfl) e326 3 3 (by decide) (by decide) (by decide) (by decide) (ad := "[I") (by rfl) rfl (z := (3 : Int32)) rfl (g := (mkF m 175 #[.val (.long x0), .second, .val (.long x1), .second, .val (.long x2), .second, .val (.long x3), .second, .val (.long x4), .second, .val (.long x5), .second, .val (.int (Int32.ofNat k0)), .val (.int (Int32.ofNat k1)), .val (.int (Int32.ofNat k2)), .val (.long (own_mk k0)), .second, .val (.long (own_mk k1)), .second, .val (.long (own_mk k2)), .second, .val (.int l0), .val (.int l1), .val (.int l2), .val (.ref a1), .val (.ref a2), .val (.long d0), .second, .val (.long d1), .second, .val (.long d2), .second, .unset, .unset, .unset, .unset, .unset, .unset, .unset] [(.int (3 : Int32))])) rfl (hb hby at_175) rfl
  have gz_a3 : n0 ≤ a3 := Nat.le_trans Z326 (Nat.le_of_eq g_a3.symm)
  have ne_a1_a3 : a1 ≠ a3 := Nat.ne_of_lt (Nat.lt_of_lt_of_le V_a1_327.lt (Nat.le_of_eq g_a3.symm))
  have ne_a2_a3 : a2 ≠ a3 := Nat.ne_of_lt (Nat.lt_of_lt_of_le V_a2_326.lt (Nat.le_of_eq g_a3.symm))
  have V_a1_331 := V_a1_327.ext E330
  have Ex_a1_332 := Ex_a1_328.ext E330
  have V_a2_333 := V_a2_326.ext E330
  have Ex_a2_334 := Ex_a2_329.ext E330
  have Z330 : n0 ≤ h330.size := Nat.le_trans Z326 E330.1
  refine ownGo.st (st330) ?_
  show ownGo p.tables e below T330 (mkF m 177 #[.val (.long x0), .second, .val (.long x1), .second, .val (.long x2), .second, .val (.long x3), .second, .val (.long x4), .second, .val (.long x5), .second, .val (.int (Int32.ofNat k0)), .val (.int (Int32.ofNat k1)), .val (.int (Int32.ofNat k2)), .val (.long (own_mk k0)), .second, .val (.long (own_mk k1)), .second, .val (.long (own_mk k2)), .second, .val (.int l0), .val (.int l1), .val (.int l2), .val (.ref a1), .val (.ref a2), .val (.long d0), .second, .val (.long d1), .second, .val (.long d2), .second, .unset, .unset, .unset, .unset, .unset, .unset, .unset] [(.ref a3)]) _
  refine ownGo.st (fun _ k => XS.dup X330.here hx rfl (hb hby at_177) rfl rfl k) ?_
  show ownGo p.tables e below T330 (mkF m 178 #[.val (.long x0), .second, .val (.long x1), .second, .val (.long x2), .second, .val (.long x3), .second, .val (.long x4), .second, .val (.long x5), .second, .val (.int (Int32.ofNat k0)), .val (.int (Int32.ofNat k1)), .val (.int (Int32.ofNat k2)), .val (.long (own_mk k0)), .second, .val (.long (own_mk k1)), .second, .val (.long (own_mk k2)), .second, .val (.int l0), .val (.int l1), .val (.int l2), .val (.ref a1), .val (.ref a2), .val (.long d0), .second, .val (.long d1), .second, .val (.long d2), .second, .unset, .unset, .unset, .unset, .unset, .unset, .unset] [(.ref a3), (.ref a3)]) _
  refine ownGo.st (fun _ k => XS.iconst X330.here hx rfl (hb hby at_178)  k) ?_
  show ownGo p.tables e below T330 (mkF m 179 #[.val (.long x0), .second, .val (.long x1), .second, .val (.long x2), .second, .val (.long x3), .second, .val (.long x4), .second, .val (.long x5), .second, .val (.int (Int32.ofNat k0)), .val (.int (Int32.ofNat k1)), .val (.int (Int32.ofNat k2)), .val (.long (own_mk k0)), .second, .val (.long (own_mk k1)), .second, .val (.long (own_mk k2)), .second, .val (.int l0), .val (.int l1), .val (.int l2), .val (.ref a1), .val (.ref a2), .val (.long d0), .second, .val (.long d1), .second, .val (.long d2), .second, .unset, .unset, .unset, .unset, .unset, .unset, .unset] [(.int (0 : Int32)), (.ref a3), (.ref a3)]) _
  refine ownGo.st (fun _ k => XS.iload X330.here hx rfl (hb hby at_179) rfl k) ?_
  show ownGo p.tables e below T330 (mkF m 181 #[.val (.long x0), .second, .val (.long x1), .second, .val (.long x2), .second, .val (.long x3), .second, .val (.long x4), .second, .val (.long x5), .second, .val (.int (Int32.ofNat k0)), .val (.int (Int32.ofNat k1)), .val (.int (Int32.ofNat k2)), .val (.long (own_mk k0)), .second, .val (.long (own_mk k1)), .second, .val (.long (own_mk k2)), .second, .val (.int l0), .val (.int l1), .val (.int l2), .val (.ref a1), .val (.ref a2), .val (.long d0), .second, .val (.long d1), .second, .val (.long d2), .second, .unset, .unset, .unset, .unset, .unset, .unset, .unset] [(.int l0), (.int (0 : Int32)), (.ref a3), (.ref a3)]) _
  refine ownGo.st (fun _ k => XS.i2l X330.here hx rfl (hb hby at_181) rfl k) ?_
  show ownGo p.tables e below T330 (mkF m 182 #[.val (.long x0), .second, .val (.long x1), .second, .val (.long x2), .second, .val (.long x3), .second, .val (.long x4), .second, .val (.long x5), .second, .val (.int (Int32.ofNat k0)), .val (.int (Int32.ofNat k1)), .val (.int (Int32.ofNat k2)), .val (.long (own_mk k0)), .second, .val (.long (own_mk k1)), .second, .val (.long (own_mk k2)), .second, .val (.int l0), .val (.int l1), .val (.int l2), .val (.ref a1), .val (.ref a2), .val (.long d0), .second, .val (.long d1), .second, .val (.long d2), .second, .unset, .unset, .unset, .unset, .unset, .unset, .unset] [(.long (l0.toInt64)), (.int (0 : Int32)), (.ref a3), (.ref a3)]) _
  refine ownGo.st (fun _ k => XS.lload X330.here hx rfl (hb hby at_182) rfl k) ?_
  show ownGo p.tables e below T330 (mkF m 184 #[.val (.long x0), .second, .val (.long x1), .second, .val (.long x2), .second, .val (.long x3), .second, .val (.long x4), .second, .val (.long x5), .second, .val (.int (Int32.ofNat k0)), .val (.int (Int32.ofNat k1)), .val (.int (Int32.ofNat k2)), .val (.long (own_mk k0)), .second, .val (.long (own_mk k1)), .second, .val (.long (own_mk k2)), .second, .val (.int l0), .val (.int l1), .val (.int l2), .val (.ref a1), .val (.ref a2), .val (.long d0), .second, .val (.long d1), .second, .val (.long d2), .second, .unset, .unset, .unset, .unset, .unset, .unset, .unset] [(.long d0), (.long (l0.toInt64)), (.int (0 : Int32)), (.ref a3), (.ref a3)]) _
  refine ownGo.st (fun _ k => XS.ladd X330.here hx rfl (hb hby at_184) rfl k) ?_
  show ownGo p.tables e below T330 (mkF m 185 #[.val (.long x0), .second, .val (.long x1), .second, .val (.long x2), .second, .val (.long x3), .second, .val (.long x4), .second, .val (.long x5), .second, .val (.int (Int32.ofNat k0)), .val (.int (Int32.ofNat k1)), .val (.int (Int32.ofNat k2)), .val (.long (own_mk k0)), .second, .val (.long (own_mk k1)), .second, .val (.long (own_mk k2)), .second, .val (.int l0), .val (.int l1), .val (.int l2), .val (.ref a1), .val (.ref a2), .val (.long d0), .second, .val (.long d1), .second, .val (.long d2), .second, .unset, .unset, .unset, .unset, .unset, .unset, .unset] [(.long ((l0.toInt64) + d0)), (.int (0 : Int32)), (.ref a3), (.ref a3)]) _
  refine ownGo.st (fun _ k => XS.l2i X330.here hx rfl (hb hby at_185) rfl k) ?_
  show ownGo p.tables e below T330 (mkF m 186 #[.val (.long x0), .second, .val (.long x1), .second, .val (.long x2), .second, .val (.long x3), .second, .val (.long x4), .second, .val (.long x5), .second, .val (.int (Int32.ofNat k0)), .val (.int (Int32.ofNat k1)), .val (.int (Int32.ofNat k2)), .val (.long (own_mk k0)), .second, .val (.long (own_mk k1)), .second, .val (.long (own_mk k2)), .second, .val (.int l0), .val (.int l1), .val (.int l2), .val (.ref a1), .val (.ref a2), .val (.long d0), .second, .val (.long d1), .second, .val (.long d2), .second, .unset, .unset, .unset, .unset, .unset, .unset, .unset] [(.int (((l0.toInt64) + d0).toInt32)), (.int (0 : Int32)), (.ref a3), (.ref a3)]) _
  have hs0 := own_plus l0 d0 k0 hd0.1 hd0.2 hl0
  obtain ⟨s0, es0⟩ : ∃ z, z = (((l0.toInt64) + d0).toInt32) := ⟨_, rfl⟩
  rw [← es0] at hs0
  rw [← es0]
  show ownGo p.tables e below T330 (mkF m 186 #[.val (.long x0), .second, .val (.long x1), .second, .val (.long x2), .second, .val (.long x3), .second, .val (.long x4), .second, .val (.long x5), .second, .val (.int (Int32.ofNat k0)), .val (.int (Int32.ofNat k1)), .val (.int (Int32.ofNat k2)), .val (.long (own_mk k0)), .second, .val (.long (own_mk k1)), .second, .val (.long (own_mk k2)), .second, .val (.int l0), .val (.int l1), .val (.int l2), .val (.ref a1), .val (.ref a2), .val (.long d0), .second, .val (.long d1), .second, .val (.long d2), .second, .unset, .unset, .unset, .unset, .unset, .unset, .unset] [(.int s0), (.int (0 : Int32)), (.ref a3), (.ref a3)]) _
  obtain ⟨T335, h335, X335, e335, W335, V_a3_335, st335⟩ := own_iastore X330 hx hZ e330 V_a3 (i := 0) rfl (by decide) (g := (mkF m 186 #[.val (.long x0), .second, .val (.long x1), .second, .val (.long x2), .second, .val (.long x3), .second, .val (.long x4), .second, .val (.long x5), .second, .val (.int (Int32.ofNat k0)), .val (.int (Int32.ofNat k1)), .val (.int (Int32.ofNat k2)), .val (.long (own_mk k0)), .second, .val (.long (own_mk k1)), .second, .val (.long (own_mk k2)), .second, .val (.int l0), .val (.int l1), .val (.int l2), .val (.ref a1), .val (.ref a2), .val (.long d0), .second, .val (.long d1), .second, .val (.long d2), .second, .unset, .unset, .unset, .unset, .unset, .unset, .unset] [(.int s0), (.int (0 : Int32)), (.ref a3), (.ref a3)])) rfl rfl (hb hby at_186)
  have V_a1_336 := V_a1_331.other W335 ne_a1_a3
  have Ex_a1_337 := Ex_a1_332.wr W335
  have V_a2_338 := V_a2_333.other W335 ne_a2_a3
  have Ex_a2_339 := Ex_a2_334.wr W335
  have Ex_a3_340 := Ex_a3.wr W335
  have N335 := Fr.snoc X335 N326 gz_a3
  have Z335 : n0 ≤ h335.size := Nat.le_trans Z330 (Nat.le_of_eq W335.size.symm)
  refine ownGo.st (st335) ?_
  show ownGo p.tables e below T335 (mkF m 187 #[.val (.long x0), .second, .val (.long x1), .second, .val (.long x2), .second, .val (.long x3), .second, .val (.long x4), .second, .val (.long x5), .second, .val (.int (Int32.ofNat k0)), .val (.int (Int32.ofNat k1)), .val (.int (Int32.ofNat k2)), .val (.long (own_mk k0)), .second, .val (.long (own_mk k1)), .second, .val (.long (own_mk k2)), .second, .val (.int l0), .val (.int l1), .val (.int l2), .val (.ref a1), .val (.ref a2), .val (.long d0), .second, .val (.long d1), .second, .val (.long d2), .second, .unset, .unset, .unset, .unset, .unset, .unset, .unset] [(.ref a3)]) _
  refine ownGo.st (fun _ k => XS.dup X335.here hx rfl (hb hby at_187) rfl rfl k) ?_
  show ownGo p.tables e below T335 (mkF m 188 #[.val (.long x0), .second, .val (.long x1), .second, .val (.long x2), .second, .val (.long x3), .second, .val (.long x4), .second, .val (.long x5), .second, .val (.int (Int32.ofNat k0)), .val (.int (Int32.ofNat k1)), .val (.int (Int32.ofNat k2)), .val (.long (own_mk k0)), .second, .val (.long (own_mk k1)), .second, .val (.long (own_mk k2)), .second, .val (.int l0), .val (.int l1), .val (.int l2), .val (.ref a1), .val (.ref a2), .val (.long d0), .second, .val (.long d1), .second, .val (.long d2), .second, .unset, .unset, .unset, .unset, .unset, .unset, .unset] [(.ref a3), (.ref a3)]) _
  refine ownGo.st (fun _ k => XS.iconst X335.here hx rfl (hb hby at_188)  k) ?_
  show ownGo p.tables e below T335 (mkF m 189 #[.val (.long x0), .second, .val (.long x1), .second, .val (.long x2), .second, .val (.long x3), .second, .val (.long x4), .second, .val (.long x5), .second, .val (.int (Int32.ofNat k0)), .val (.int (Int32.ofNat k1)), .val (.int (Int32.ofNat k2)), .val (.long (own_mk k0)), .second, .val (.long (own_mk k1)), .second, .val (.long (own_mk k2)), .second, .val (.int l0), .val (.int l1), .val (.int l2), .val (.ref a1), .val (.ref a2), .val (.long d0), .second, .val (.long d1), .second, .val (.long d2), .second, .unset, .unset, .unset, .unset, .unset, .unset, .unset] [(.int (1 : Int32)), (.ref a3), (.ref a3)]) _
  refine ownGo.st (fun _ k => XS.iload X335.here hx rfl (hb hby at_189) rfl k) ?_
  show ownGo p.tables e below T335 (mkF m 191 #[.val (.long x0), .second, .val (.long x1), .second, .val (.long x2), .second, .val (.long x3), .second, .val (.long x4), .second, .val (.long x5), .second, .val (.int (Int32.ofNat k0)), .val (.int (Int32.ofNat k1)), .val (.int (Int32.ofNat k2)), .val (.long (own_mk k0)), .second, .val (.long (own_mk k1)), .second, .val (.long (own_mk k2)), .second, .val (.int l0), .val (.int l1), .val (.int l2), .val (.ref a1), .val (.ref a2), .val (.long d0), .second, .val (.long d1), .second, .val (.long d2), .second, .unset, .unset, .unset, .unset, .unset, .unset, .unset] [(.int l1), (.int (1 : Int32)), (.ref a3), (.ref a3)]) _
  refine ownGo.st (fun _ k => XS.i2l X335.here hx rfl (hb hby at_191) rfl k) ?_
  show ownGo p.tables e below T335 (mkF m 192 #[.val (.long x0), .second, .val (.long x1), .second, .val (.long x2), .second, .val (.long x3), .second, .val (.long x4), .second, .val (.long x5), .second, .val (.int (Int32.ofNat k0)), .val (.int (Int32.ofNat k1)), .val (.int (Int32.ofNat k2)), .val (.long (own_mk k0)), .second, .val (.long (own_mk k1)), .second, .val (.long (own_mk k2)), .second, .val (.int l0), .val (.int l1), .val (.int l2), .val (.ref a1), .val (.ref a2), .val (.long d0), .second, .val (.long d1), .second, .val (.long d2), .second, .unset, .unset, .unset, .unset, .unset, .unset, .unset] [(.long (l1.toInt64)), (.int (1 : Int32)), (.ref a3), (.ref a3)]) _
  refine ownGo.st (fun _ k => XS.lload X335.here hx rfl (hb hby at_192) rfl k) ?_
  show ownGo p.tables e below T335 (mkF m 194 #[.val (.long x0), .second, .val (.long x1), .second, .val (.long x2), .second, .val (.long x3), .second, .val (.long x4), .second, .val (.long x5), .second, .val (.int (Int32.ofNat k0)), .val (.int (Int32.ofNat k1)), .val (.int (Int32.ofNat k2)), .val (.long (own_mk k0)), .second, .val (.long (own_mk k1)), .second, .val (.long (own_mk k2)), .second, .val (.int l0), .val (.int l1), .val (.int l2), .val (.ref a1), .val (.ref a2), .val (.long d0), .second, .val (.long d1), .second, .val (.long d2), .second, .unset, .unset, .unset, .unset, .unset, .unset, .unset] [(.long d1), (.long (l1.toInt64)), (.int (1 : Int32)), (.ref a3), (.ref a3)]) _
  refine ownGo.st (fun _ k => XS.ladd X335.here hx rfl (hb hby at_194) rfl k) ?_
  show ownGo p.tables e below T335 (mkF m 195 #[.val (.long x0), .second, .val (.long x1), .second, .val (.long x2), .second, .val (.long x3), .second, .val (.long x4), .second, .val (.long x5), .second, .val (.int (Int32.ofNat k0)), .val (.int (Int32.ofNat k1)), .val (.int (Int32.ofNat k2)), .val (.long (own_mk k0)), .second, .val (.long (own_mk k1)), .second, .val (.long (own_mk k2)), .second, .val (.int l0), .val (.int l1), .val (.int l2), .val (.ref a1), .val (.ref a2), .val (.long d0), .second, .val (.long d1), .second, .val (.long d2), .second, .unset, .unset, .unset, .unset, .unset, .unset, .unset] [(.long ((l1.toInt64) + d1)), (.int (1 : Int32)), (.ref a3), (.ref a3)]) _
  refine ownGo.st (fun _ k => XS.l2i X335.here hx rfl (hb hby at_195) rfl k) ?_
  show ownGo p.tables e below T335 (mkF m 196 #[.val (.long x0), .second, .val (.long x1), .second, .val (.long x2), .second, .val (.long x3), .second, .val (.long x4), .second, .val (.long x5), .second, .val (.int (Int32.ofNat k0)), .val (.int (Int32.ofNat k1)), .val (.int (Int32.ofNat k2)), .val (.long (own_mk k0)), .second, .val (.long (own_mk k1)), .second, .val (.long (own_mk k2)), .second, .val (.int l0), .val (.int l1), .val (.int l2), .val (.ref a1), .val (.ref a2), .val (.long d0), .second, .val (.long d1), .second, .val (.long d2), .second, .unset, .unset, .unset, .unset, .unset, .unset, .unset] [(.int (((l1.toInt64) + d1).toInt32)), (.int (1 : Int32)), (.ref a3), (.ref a3)]) _
  have hs1 := own_plus l1 d1 k1 hd1.1 hd1.2 hl1
  obtain ⟨s1, es1⟩ : ∃ z, z = (((l1.toInt64) + d1).toInt32) := ⟨_, rfl⟩
  rw [← es1] at hs1
  rw [← es1]
  show ownGo p.tables e below T335 (mkF m 196 #[.val (.long x0), .second, .val (.long x1), .second, .val (.long x2), .second, .val (.long x3), .second, .val (.long x4), .second, .val (.long x5), .second, .val (.int (Int32.ofNat k0)), .val (.int (Int32.ofNat k1)), .val (.int (Int32.ofNat k2)), .val (.long (own_mk k0)), .second, .val (.long (own_mk k1)), .second, .val (.long (own_mk k2)), .second, .val (.int l0), .val (.int l1), .val (.int l2), .val (.ref a1), .val (.ref a2), .val (.long d0), .second, .val (.long d1), .second, .val (.long d2), .second, .unset, .unset, .unset, .unset, .unset, .unset, .unset] [(.int s1), (.int (1 : Int32)), (.ref a3), (.ref a3)]) _
  obtain ⟨T341, h341, X341, e341, W341, V_a3_341, st341⟩ := own_iastore X335 hx hZ e335 V_a3_335 (i := 1) rfl (by decide) (g := (mkF m 196 #[.val (.long x0), .second, .val (.long x1), .second, .val (.long x2), .second, .val (.long x3), .second, .val (.long x4), .second, .val (.long x5), .second, .val (.int (Int32.ofNat k0)), .val (.int (Int32.ofNat k1)), .val (.int (Int32.ofNat k2)), .val (.long (own_mk k0)), .second, .val (.long (own_mk k1)), .second, .val (.long (own_mk k2)), .second, .val (.int l0), .val (.int l1), .val (.int l2), .val (.ref a1), .val (.ref a2), .val (.long d0), .second, .val (.long d1), .second, .val (.long d2), .second, .unset, .unset, .unset, .unset, .unset, .unset, .unset] [(.int s1), (.int (1 : Int32)), (.ref a3), (.ref a3)])) rfl rfl (hb hby at_196)
  have V_a1_342 := V_a1_336.other W341 ne_a1_a3
  have Ex_a1_343 := Ex_a1_337.wr W341
  have V_a2_344 := V_a2_338.other W341 ne_a2_a3
  have Ex_a2_345 := Ex_a2_339.wr W341
  have Ex_a3_346 := Ex_a3_340.wr W341
  have N341 := Fr.snoc X341 N335 gz_a3
  have Z341 : n0 ≤ h341.size := Nat.le_trans Z335 (Nat.le_of_eq W341.size.symm)
  refine ownGo.st (st341) ?_
  show ownGo p.tables e below T341 (mkF m 197 #[.val (.long x0), .second, .val (.long x1), .second, .val (.long x2), .second, .val (.long x3), .second, .val (.long x4), .second, .val (.long x5), .second, .val (.int (Int32.ofNat k0)), .val (.int (Int32.ofNat k1)), .val (.int (Int32.ofNat k2)), .val (.long (own_mk k0)), .second, .val (.long (own_mk k1)), .second, .val (.long (own_mk k2)), .second, .val (.int l0), .val (.int l1), .val (.int l2), .val (.ref a1), .val (.ref a2), .val (.long d0), .second, .val (.long d1), .second, .val (.long d2), .second, .unset, .unset, .unset, .unset, .unset, .unset, .unset] [(.ref a3)]) _
  refine ownGo.st (fun _ k => XS.dup X341.here hx rfl (hb hby at_197) rfl rfl k) ?_
  show ownGo p.tables e below T341 (mkF m 198 #[.val (.long x0), .second, .val (.long x1), .second, .val (.long x2), .second, .val (.long x3), .second, .val (.long x4), .second, .val (.long x5), .second, .val (.int (Int32.ofNat k0)), .val (.int (Int32.ofNat k1)), .val (.int (Int32.ofNat k2)), .val (.long (own_mk k0)), .second, .val (.long (own_mk k1)), .second, .val (.long (own_mk k2)), .second, .val (.int l0), .val (.int l1), .val (.int l2), .val (.ref a1), .val (.ref a2), .val (.long d0), .second, .val (.long d1), .second, .val (.long d2), .second, .unset, .unset, .unset, .unset, .unset, .unset, .unset] [(.ref a3), (.ref a3)]) _
  refine ownGo.st (fun _ k => XS.iconst X341.here hx rfl (hb hby at_198)  k) ?_
  show ownGo p.tables e below T341 (mkF m 199 #[.val (.long x0), .second, .val (.long x1), .second, .val (.long x2), .second, .val (.long x3), .second, .val (.long x4), .second, .val (.long x5), .second, .val (.int (Int32.ofNat k0)), .val (.int (Int32.ofNat k1)), .val (.int (Int32.ofNat k2)), .val (.long (own_mk k0)), .second, .val (.long (own_mk k1)), .second, .val (.long (own_mk k2)), .second, .val (.int l0), .val (.int l1), .val (.int l2), .val (.ref a1), .val (.ref a2), .val (.long d0), .second, .val (.long d1), .second, .val (.long d2), .second, .unset, .unset, .unset, .unset, .unset, .unset, .unset] [(.int (2 : Int32)), (.ref a3), (.ref a3)]) _
  refine ownGo.st (fun _ k => XS.iload X341.here hx rfl (hb hby at_199) rfl k) ?_
  show ownGo p.tables e below T341 (mkF m 201 #[.val (.long x0), .second, .val (.long x1), .second, .val (.long x2), .second, .val (.long x3), .second, .val (.long x4), .second, .val (.long x5), .second, .val (.int (Int32.ofNat k0)), .val (.int (Int32.ofNat k1)), .val (.int (Int32.ofNat k2)), .val (.long (own_mk k0)), .second, .val (.long (own_mk k1)), .second, .val (.long (own_mk k2)), .second, .val (.int l0), .val (.int l1), .val (.int l2), .val (.ref a1), .val (.ref a2), .val (.long d0), .second, .val (.long d1), .second, .val (.long d2), .second, .unset, .unset, .unset, .unset, .unset, .unset, .unset] [(.int l2), (.int (2 : Int32)), (.ref a3), (.ref a3)]) _
  refine ownGo.st (fun _ k => XS.i2l X341.here hx rfl (hb hby at_201) rfl k) ?_
  show ownGo p.tables e below T341 (mkF m 202 #[.val (.long x0), .second, .val (.long x1), .second, .val (.long x2), .second, .val (.long x3), .second, .val (.long x4), .second, .val (.long x5), .second, .val (.int (Int32.ofNat k0)), .val (.int (Int32.ofNat k1)), .val (.int (Int32.ofNat k2)), .val (.long (own_mk k0)), .second, .val (.long (own_mk k1)), .second, .val (.long (own_mk k2)), .second, .val (.int l0), .val (.int l1), .val (.int l2), .val (.ref a1), .val (.ref a2), .val (.long d0), .second, .val (.long d1), .second, .val (.long d2), .second, .unset, .unset, .unset, .unset, .unset, .unset, .unset] [(.long (l2.toInt64)), (.int (2 : Int32)), (.ref a3), (.ref a3)]) _
  refine ownGo.st (fun _ k => XS.lload X341.here hx rfl (hb hby at_202) rfl k) ?_
  show ownGo p.tables e below T341 (mkF m 204 #[.val (.long x0), .second, .val (.long x1), .second, .val (.long x2), .second, .val (.long x3), .second, .val (.long x4), .second, .val (.long x5), .second, .val (.int (Int32.ofNat k0)), .val (.int (Int32.ofNat k1)), .val (.int (Int32.ofNat k2)), .val (.long (own_mk k0)), .second, .val (.long (own_mk k1)), .second, .val (.long (own_mk k2)), .second, .val (.int l0), .val (.int l1), .val (.int l2), .val (.ref a1), .val (.ref a2), .val (.long d0), .second, .val (.long d1), .second, .val (.long d2), .second, .unset, .unset, .unset, .unset, .unset, .unset, .unset] [(.long d2), (.long (l2.toInt64)), (.int (2 : Int32)), (.ref a3), (.ref a3)]) _
  refine ownGo.st (fun _ k => XS.ladd X341.here hx rfl (hb hby at_204) rfl k) ?_
  show ownGo p.tables e below T341 (mkF m 205 #[.val (.long x0), .second, .val (.long x1), .second, .val (.long x2), .second, .val (.long x3), .second, .val (.long x4), .second, .val (.long x5), .second, .val (.int (Int32.ofNat k0)), .val (.int (Int32.ofNat k1)), .val (.int (Int32.ofNat k2)), .val (.long (own_mk k0)), .second, .val (.long (own_mk k1)), .second, .val (.long (own_mk k2)), .second, .val (.int l0), .val (.int l1), .val (.int l2), .val (.ref a1), .val (.ref a2), .val (.long d0), .second, .val (.long d1), .second, .val (.long d2), .second, .unset, .unset, .unset, .unset, .unset, .unset, .unset] [(.long ((l2.toInt64) + d2)), (.int (2 : Int32)), (.ref a3), (.ref a3)]) _
  refine ownGo.st (fun _ k => XS.l2i X341.here hx rfl (hb hby at_205) rfl k) ?_
  show ownGo p.tables e below T341 (mkF m 206 #[.val (.long x0), .second, .val (.long x1), .second, .val (.long x2), .second, .val (.long x3), .second, .val (.long x4), .second, .val (.long x5), .second, .val (.int (Int32.ofNat k0)), .val (.int (Int32.ofNat k1)), .val (.int (Int32.ofNat k2)), .val (.long (own_mk k0)), .second, .val (.long (own_mk k1)), .second, .val (.long (own_mk k2)), .second, .val (.int l0), .val (.int l1), .val (.int l2), .val (.ref a1), .val (.ref a2), .val (.long d0), .second, .val (.long d1), .second, .val (.long d2), .second, .unset, .unset, .unset, .unset, .unset, .unset, .unset] [(.int (((l2.toInt64) + d2).toInt32)), (.int (2 : Int32)), (.ref a3), (.ref a3)]) _
  have hs2 := own_plus l2 d2 k2 hd2.1 hd2.2 hl2
  obtain ⟨s2, es2⟩ : ∃ z, z = (((l2.toInt64) + d2).toInt32) := ⟨_, rfl⟩
  rw [← es2] at hs2
  rw [← es2]
  show ownGo p.tables e below T341 (mkF m 206 #[.val (.long x0), .second, .val (.long x1), .second, .val (.long x2), .second, .val (.long x3), .second, .val (.long x4), .second, .val (.long x5), .second, .val (.int (Int32.ofNat k0)), .val (.int (Int32.ofNat k1)), .val (.int (Int32.ofNat k2)), .val (.long (own_mk k0)), .second, .val (.long (own_mk k1)), .second, .val (.long (own_mk k2)), .second, .val (.int l0), .val (.int l1), .val (.int l2), .val (.ref a1), .val (.ref a2), .val (.long d0), .second, .val (.long d1), .second, .val (.long d2), .second, .unset, .unset, .unset, .unset, .unset, .unset, .unset] [(.int s2), (.int (2 : Int32)), (.ref a3), (.ref a3)]) _
  obtain ⟨T347, h347, X347, e347, W347, V_a3_347, st347⟩ := own_iastore X341 hx hZ e341 V_a3_341 (i := 2) rfl (by decide) (g := (mkF m 206 #[.val (.long x0), .second, .val (.long x1), .second, .val (.long x2), .second, .val (.long x3), .second, .val (.long x4), .second, .val (.long x5), .second, .val (.int (Int32.ofNat k0)), .val (.int (Int32.ofNat k1)), .val (.int (Int32.ofNat k2)), .val (.long (own_mk k0)), .second, .val (.long (own_mk k1)), .second, .val (.long (own_mk k2)), .second, .val (.int l0), .val (.int l1), .val (.int l2), .val (.ref a1), .val (.ref a2), .val (.long d0), .second, .val (.long d1), .second, .val (.long d2), .second, .unset, .unset, .unset, .unset, .unset, .unset, .unset] [(.int s2), (.int (2 : Int32)), (.ref a3), (.ref a3)])) rfl rfl (hb hby at_206)
  have V_a1_348 := V_a1_342.other W347 ne_a1_a3
  have Ex_a1_349 := Ex_a1_343.wr W347
  have V_a2_350 := V_a2_344.other W347 ne_a2_a3
  have Ex_a2_351 := Ex_a2_345.wr W347
  have Ex_a3_352 := Ex_a3_346.wr W347
  have N347 := Fr.snoc X347 N341 gz_a3
  have Z347 : n0 ≤ h347.size := Nat.le_trans Z341 (Nat.le_of_eq W347.size.symm)
  refine ownGo.st (st347) ?_
  show ownGo p.tables e below T347 (mkF m 207 #[.val (.long x0), .second, .val (.long x1), .second, .val (.long x2), .second, .val (.long x3), .second, .val (.long x4), .second, .val (.long x5), .second, .val (.int (Int32.ofNat k0)), .val (.int (Int32.ofNat k1)), .val (.int (Int32.ofNat k2)), .val (.long (own_mk k0)), .second, .val (.long (own_mk k1)), .second, .val (.long (own_mk k2)), .second, .val (.int l0), .val (.int l1), .val (.int l2), .val (.ref a1), .val (.ref a2), .val (.long d0), .second, .val (.long d1), .second, .val (.long d2), .second, .unset, .unset, .unset, .unset, .unset, .unset, .unset] [(.ref a3)]) _
  refine ownGo.st (fun _ k => XS.astore X347.here hx rfl (hb hby at_207) rfl rfl (l' := #[.val (.long x0), .second, .val (.long x1), .second, .val (.long x2), .second, .val (.long x3), .second, .val (.long x4), .second, .val (.long x5), .second, .val (.int (Int32.ofNat k0)), .val (.int (Int32.ofNat k1)), .val (.int (Int32.ofNat k2)), .val (.long (own_mk k0)), .second, .val (.long (own_mk k1)), .second, .val (.long (own_mk k2)), .second, .val (.int l0), .val (.int l1), .val (.int l2), .val (.ref a1), .val (.ref a2), .val (.long d0), .second, .val (.long d1), .second, .val (.long d2), .second, .val (.ref a3), .unset, .unset, .unset, .unset, .unset, .unset]) rfl k) ?_
  show ownGo p.tables e below T347 (mkF m 209 #[.val (.long x0), .second, .val (.long x1), .second, .val (.long x2), .second, .val (.long x3), .second, .val (.long x4), .second, .val (.long x5), .second, .val (.int (Int32.ofNat k0)), .val (.int (Int32.ofNat k1)), .val (.int (Int32.ofNat k2)), .val (.long (own_mk k0)), .second, .val (.long (own_mk k1)), .second, .val (.long (own_mk k2)), .second, .val (.int l0), .val (.int l1), .val (.int l2), .val (.ref a1), .val (.ref a2), .val (.long d0), .second, .val (.long d1), .second, .val (.long d2), .second, .val (.ref a3), .unset, .unset, .unset, .unset, .unset, .unset] []) _
  refine ownGo.st (fun _ k => XS.iconst X347.here hx rfl (hb hby at_209)  k) ?_
  show ownGo p.tables e below T347 (mkF m 210 #[.val (.long x0), .second, .val (.long x1), .second, .val (.long x2), .second, .val (.long x3), .second, .val (.long x4), .second, .val (.long x5), .second, .val (.int (Int32.ofNat k0)), .val (.int (Int32.ofNat k1)), .val (.int (Int32.ofNat k2)), .val (.long (own_mk k0)), .second, .val (.long (own_mk k1)), .second, .val (.long (own_mk k2)), .second, .val (.int l0), .val (.int l1), .val (.int l2), .val (.ref a1), .val (.ref a2), .val (.long d0), .second, .val (.long d1), .second, .val (.long d2), .second, .val (.ref a3), .unset, .unset, .unset, .unset, .unset, .unset] [(.int (2 : Int32))]) _
  obtain ⟨T353, h353, a4, X353, e353, E353, V_a4, Ex_a4, g_a4, st353⟩ := own_newarray (aty := .long) X347 hx hZ (own_at hw 19 rfl) e347 2 2 (by decide) (by decide) (by decide) (by decide) (ad := "[J") (by rfl) rfl (z := (2 : Int32)) rfl (g := (mkF m 210 #[.val (.long x0), .second, .val (.long x1), .second, .val (.long x2), .second, .val (.long x3), .second, .val (.long x4), .second, .val (.long x5), .second, .val (.int (Int32.ofNat k0)), .val (.int (Int32.ofNat k1)), .val (.int (Int32.ofNat k2)), .val (.long (own_mk k0)), .second, .val (.long (own_mk k1)), .second, .val (.long (own_mk k2)), .second, .val (.int l0), .val (.int l1), .val (.int l2), .val (.ref a1), .val (.ref a2), .val (.long d0), .second, .val (.long d1), .second, .val (.long d2), .second, .val (.ref a3), .unset, .unset, .unset, .unset, .unset, .unset] [(.int (2 : Int32))])) rfl (hb hby at_210) rfl
  have gz_a4 : n0 ≤ a4 := Nat.le_trans Z347 (Nat.le_of_eq g_a4.symm)
  have ne_a1_a4 : a1 ≠ a4 := Nat.ne_of_lt (Nat.lt_of_lt_of_le V_a1_348.lt (Nat.le_of_eq g_a4.symm))
  have ne_a2_a4 : a2 ≠ a4 := Nat.ne_of_lt (Nat.lt_of_lt_of_le V_a2_350.lt (Nat.le_of_eq g_a4.symm))
  have ne_a3_a4 : a3 ≠ a4 := Nat.ne_of_lt (Nat.lt_of_lt_of_le V_a3_347.lt (Nat.le_of_eq g_a4.symm))
  have V_a1_354 := V_a1_348.ext E353
  have Ex_a1_355 := Ex_a1_349.ext E353
  have V_a2_356 := V_a2_350.ext E353
  have Ex_a2_357 := Ex_a2_351.ext E353
  have V_a3_358 := V_a3_347.ext E353
  have Ex_a3_359 := Ex_a3_352.ext E353
  have Z353 : n0 ≤ h353.size := Nat.le_trans Z347 E353.1
  refine ownGo.st (st353) ?_
  show ownGo p.tables e below T353 (mkF m 212 #[.val (.long x0), .second, .val (.long x1), .second, .val (.long x2), .second, .val (.long x3), .second, .val (.long x4), .second, .val (.long x5), .second, .val (.int (Int32.ofNat k0)), .val (.int (Int32.ofNat k1)), .val (.int (Int32.ofNat k2)), .val (.long (own_mk k0)), .second, .val (.long (own_mk k1)), .second, .val (.long (own_mk k2)), .second, .val (.int l0), .val (.int l1), .val (.int l2), .val (.ref a1), .val (.ref a2), .val (.long d0), .second, .val (.long d1), .second, .val (.long d2), .second, .val (.ref a3), .unset, .unset, .unset, .unset, .unset, .unset] [(.ref a4)]) _
  refine ownGo.st (fun _ k => XS.dup X353.here hx rfl (hb hby at_212) rfl rfl k) ?_
  show ownGo p.tables e below T353 (mkF m 213 #[.val (.long x0), .second, .val (.long x1), .second, .val (.long x2), .second, .val (.long x3), .second, .val (.long x4), .second, .val (.long x5), .second, .val (.int (Int32.ofNat k0)), .val (.int (Int32.ofNat k1)), .val (.int (Int32.ofNat k2)), .val (.long (own_mk k0)), .second, .val (.long (own_mk k1)), .second, .val (.long (own_mk k2)), .second, .val (.int l0), .val (.int l1), .val (.int l2), .val (.ref a1), .val (.ref a2), .val (.long d0), .second, .val (.long d1), .second, .val (.long d2), .second, .val (.ref a3), .unset, .unset, .unset, .unset, .unset, .unset] [(.ref a4), (.ref a4)]) _
  refine ownGo.st (fun _ k => XS.iconst X353.here hx rfl (hb hby at_213)  k) ?_
  show ownGo p.tables e below T353 (mkF m 214 #[.val (.long x0), .second, .val (.long x1), .second, .val (.long x2), .second, .val (.long x3), .second, .val (.long x4), .second, .val (.long x5), .second, .val (.int (Int32.ofNat k0)), .val (.int (Int32.ofNat k1)), .val (.int (Int32.ofNat k2)), .val (.long (own_mk k0)), .second, .val (.long (own_mk k1)), .second, .val (.long (own_mk k2)), .second, .val (.int l0), .val (.int l1), .val (.int l2), .val (.ref a1), .val (.ref a2), .val (.long d0), .second, .val (.long d1), .second, .val (.long d2), .second, .val (.ref a3), .unset, .unset, .unset, .unset, .unset, .unset] [(.int (0 : Int32)), (.ref a4), (.ref a4)]) _
  refine ownGo.st (fun _ k => XS.lload X353.here hx rfl (hb hby at_214) rfl k) ?_
  show ownGo p.tables e below T353 (mkF m 216 #[.val (.long x0), .second, .val (.long x1), .second, .val (.long x2), .second, .val (.long x3), .second, .val (.long x4), .second, .val (.long x5), .second, .val (.int (Int32.ofNat k0)), .val (.int (Int32.ofNat k1)), .val (.int (Int32.ofNat k2)), .val (.long (own_mk k0)), .second, .val (.long (own_mk k1)), .second, .val (.long (own_mk k2)), .second, .val (.int l0), .val (.int l1), .val (.int l2), .val (.ref a1), .val (.ref a2), .val (.long d0), .second, .val (.long d1), .second, .val (.long d2), .second, .val (.ref a3), .unset, .unset, .unset, .unset, .unset, .unset] [(.long x5), (.int (0 : Int32)), (.ref a4), (.ref a4)]) _
  obtain ⟨T360, h360, X360, e360, W360, V_a4_360, st360⟩ := own_lastore X353 hx hZ e353 V_a4 (i := 0) rfl (by decide) (g := (mkF m 216 #[.val (.long x0), .second, .val (.long x1), .second, .val (.long x2), .second, .val (.long x3), .second, .val (.long x4), .second, .val (.long x5), .second, .val (.int (Int32.ofNat k0)), .val (.int (Int32.ofNat k1)), .val (.int (Int32.ofNat k2)), .val (.long (own_mk k0)), .second, .val (.long (own_mk k1)), .second, .val (.long (own_mk k2)), .second, .val (.int l0), .val (.int l1), .val (.int l2), .val (.ref a1), .val (.ref a2), .val (.long d0), .second, .val (.long d1), .second, .val (.long d2), .second, .val (.ref a3), .unset, .unset, .unset, .unset, .unset, .unset] [(.long x5), (.int (0 : Int32)), (.ref a4), (.ref a4)])) rfl rfl (hb hby at_216)
  have V_a1_361 := V_a1_354.other W360 ne_a1_a4
  have Ex_a1_362 := Ex_a1_355.wr W360
  have V_a2_363 := V_a2_356.other W360 ne_a2_a4
  have Ex_a2_364 := Ex_a2_357.wr W360
  have V_a3_365 := V_a3_358.other W360 ne_a3_a4
  have Ex_a3_366 := Ex_a3_359.wr W360
  have Ex_a4_367 := Ex_a4.wr W360
  have N360 := Fr.snoc X360 N347 gz_a4
  have Z360 : n0 ≤ h360.size := Nat.le_trans Z353 (Nat.le_of_eq W360.size.symm)
  refine ownGo.st (st360) ?_
  show ownGo p.tables e below T360 (mkF m 217 #[.val (.long x0), .second, .val (.long x1), .second, .val (.long x2), .second, .val (.long x3), .second, .val (.long x4), .second, .val (.long x5), .second, .val (.int (Int32.ofNat k0)), .val (.int (Int32.ofNat k1)), .val (.int (Int32.ofNat k2)), .val (.long (own_mk k0)), .second, .val (.long (own_mk k1)), .second, .val (.long (own_mk k2)), .second, .val (.int l0), .val (.int l1), .val (.int l2), .val (.ref a1), .val (.ref a2), .val (.long d0), .second, .val (.long d1), .second, .val (.long d2), .second, .val (.ref a3), .unset, .unset, .unset, .unset, .unset, .unset] [(.ref a4)]) _
  refine ownGo.st (fun _ k => XS.dup X360.here hx rfl (hb hby at_217) rfl rfl k) ?_
  show ownGo p.tables e below T360 (mkF m 218 #[.val (.long x0), .second, .val (.long x1), .second, .val (.long x2), .second, .val (.long x3), .second, .val (.long x4), .second, .val (.long x5), .second, .val (.int (Int32.ofNat k0)), .val (.int (Int32.ofNat k1)), .val (.int (Int32.ofNat k2)), .val (.long (own_mk k0)), .second, .val (.long (own_mk k1)), .second, .val (.long (own_mk k2)), .second, .val (.int l0), .val (.int l1), .val (.int l2), .val (.ref a1), .val (.ref a2), .val (.long d0), .second, .val (.long d1), .second, .val (.long d2), .second, .val (.ref a3), .unset, .unset, .unset, .unset, .unset, .unset] [(.ref a4), (.ref a4)]) _
  refine ownGo.st (fun _ k => XS.iconst X360.here hx rfl (hb hby at_218)  k) ?_
  show ownGo p.tables e below T360 (mkF m 219 #[.val (.long x0), .second, .val (.long x1), .second, .val (.long x2), .second, .val (.long x3), .second, .val (.long x4), .second, .val (.long x5), .second, .val (.int (Int32.ofNat k0)), .val (.int (Int32.ofNat k1)), .val (.int (Int32.ofNat k2)), .val (.long (own_mk k0)), .second, .val (.long (own_mk k1)), .second, .val (.long (own_mk k2)), .second, .val (.int l0), .val (.int l1), .val (.int l2), .val (.ref a1), .val (.ref a2), .val (.long d0), .second, .val (.long d1), .second, .val (.long d2), .second, .val (.ref a3), .unset, .unset, .unset, .unset, .unset, .unset] [(.int (1 : Int32)), (.ref a4), (.ref a4)]) _
  refine ownGo.st (fun _ k => XS.lload X360.here hx rfl (hb hby at_219) rfl k) ?_
  show ownGo p.tables e below T360 (mkF m 221 #[.val (.long x0), .second, .val (.long x1), .second, .val (.long x2), .second, .val (.long x3), .second, .val (.long x4), .second, .val (.long x5), .second, .val (.int (Int32.ofNat k0)), .val (.int (Int32.ofNat k1)), .val (.int (Int32.ofNat k2)), .val (.long (own_mk k0)), .second, .val (.long (own_mk k1)), .second, .val (.long (own_mk k2)), .second, .val (.int l0), .val (.int l1), .val (.int l2), .val (.ref a1), .val (.ref a2), .val (.long d0), .second, .val (.long d1), .second, .val (.long d2), .second, .val (.ref a3), .unset, .unset, .unset, .unset, .unset, .unset] [(.long x5), (.int (1 : Int32)), (.ref a4), (.ref a4)]) _
  refine ownGo.st (X360.ldc2Long hx hown (mvT hZ (own_at hw 20 rfl)) (g := (mkF m 221 #[.val (.long x0), .second, .val (.long x1), .second, .val (.long x2), .second, .val (.long x3), .second, .val (.long x4), .second, .val (.long x5), .second, .val (.int (Int32.ofNat k0)), .val (.int (Int32.ofNat k1)), .val (.int (Int32.ofNat k2)), .val (.long (own_mk k0)), .second, .val (.long (own_mk k1)), .second, .val (.long (own_mk k2)), .second, .val (.int l0), .val (.int l1), .val (.int l2), .val (.ref a1), .val (.ref a2), .val (.long d0), .second, .val (.long d1), .second, .val (.long d2), .second, .val (.ref a3), .unset, .unset, .unset, .unset, .unset, .unset] [(.long x5), (.int (1 : Int32)), (.ref a4), (.ref a4)])) rfl (hb hby at_221)) ?_
  show ownGo p.tables e below T360 (mkF m 224 #[.val (.long x0), .second, .val (.long x1), .second, .val (.long x2), .second, .val (.long x3), .second, .val (.long x4), .second, .val (.long x5), .second, .val (.int (Int32.ofNat k0)), .val (.int (Int32.ofNat k1)), .val (.int (Int32.ofNat k2)), .val (.long (own_mk k0)), .second, .val (.long (own_mk k1)), .second, .val (.long (own_mk k2)), .second, .val (.int l0), .val (.int l1), .val (.int l2), .val (.ref a1), .val (.ref a2), .val (.long d0), .second, .val (.long d1), .second, .val (.long d2), .second, .val (.ref a3), .unset, .unset, .unset, .unset, .unset, .unset] [(.long (-1 : Int64)), (.long x5), (.int (1 : Int32)), (.ref a4), (.ref a4)]) _
  refine ownGo.st (fun _ k => XS.lxor X360.here hx rfl (hb hby at_224) rfl k) ?_
  show ownGo p.tables e below T360 (mkF m 225 #[.val (.long x0), .second, .val (.long x1), .second, .val (.long x2), .second, .val (.long x3), .second, .val (.long x4), .second, .val (.long x5), .second, .val (.int (Int32.ofNat k0)), .val (.int (Int32.ofNat k1)), .val (.int (Int32.ofNat k2)), .val (.long (own_mk k0)), .second, .val (.long (own_mk k1)), .second, .val (.long (own_mk k2)), .second, .val (.int l0), .val (.int l1), .val (.int l2), .val (.ref a1), .val (.ref a2), .val (.long d0), .second, .val (.long d1), .second, .val (.long d2), .second, .val (.ref a3), .unset, .unset, .unset, .unset, .unset, .unset] [(.long (x5 ^^^ (-1 : Int64))), (.int (1 : Int32)), (.ref a4), (.ref a4)]) _
  obtain ⟨T368, h368, X368, e368, W368, V_a4_368, st368⟩ := own_lastore X360 hx hZ e360 V_a4_360 (i := 1) rfl (by decide) (g := (mkF m 225 #[.val (.long x0), .second, .val (.long x1), .second, .val (.long x2), .second, .val (.long x3), .second, .val (.long x4), .second, .val (.long x5), .second, .val (.int (Int32.ofNat k0)), .val (.int (Int32.ofNat k1)), .val (.int (Int32.ofNat k2)), .val (.long (own_mk k0)), .second, .val (.long (own_mk k1)), .second, .val (.long (own_mk k2)), .second, .val (.int l0), .val (.int l1), .val (.int l2), .val (.ref a1), .val (.ref a2), .val (.long d0), .second, .val (.long d1), .second, .val (.long d2), .second, .val (.ref a3), .unset, .unset, .unset, .unset, .unset, .unset] [(.long (x5 ^^^ (-1 : Int64))), (.int (1 : Int32)), (.ref a4), (.ref a4)])) rfl rfl (hb hby at_225)
  have V_a1_369 := V_a1_361.other W368 ne_a1_a4
  have Ex_a1_370 := Ex_a1_362.wr W368
  have V_a2_371 := V_a2_363.other W368 ne_a2_a4
  have Ex_a2_372 := Ex_a2_364.wr W368
  have V_a3_373 := V_a3_365.other W368 ne_a3_a4
  have Ex_a3_374 := Ex_a3_366.wr W368
  have Ex_a4_375 := Ex_a4_367.wr W368
  have N368 := Fr.snoc X368 N360 gz_a4
  have Z368 : n0 ≤ h368.size := Nat.le_trans Z360 (Nat.le_of_eq W368.size.symm)
  refine ownGo.st (st368) ?_
  show ownGo p.tables e below T368 (mkF m 226 #[.val (.long x0), .second, .val (.long x1), .second, .val (.long x2), .second, .val (.long x3), .second, .val (.long x4), .second, .val (.long x5), .second, .val (.int (Int32.ofNat k0)), .val (.int (Int32.ofNat k1)), .val (.int (Int32.ofNat k2)), .val (.long (own_mk k0)), .second, .val (.long (own_mk k1)), .second, .val (.long (own_mk k2)), .second, .val (.int l0), .val (.int l1), .val (.int l2), .val (.ref a1), .val (.ref a2), .val (.long d0), .second, .val (.long d1), .second, .val (.long d2), .second, .val (.ref a3), .unset, .unset, .unset, .unset, .unset, .unset] [(.ref a4)]) _
  refine ownGo.st (fun _ k => XS.astore X368.here hx rfl (hb hby at_226) rfl rfl (l' := #[.val (.long x0), .second, .val (.long x1), .second, .val (.long x2), .second, .val (.long x3), .second, .val (.long x4), .second, .val (.long x5), .second, .val (.int (Int32.ofNat k0)), .val (.int (Int32.ofNat k1)), .val (.int (Int32.ofNat k2)), .val (.long (own_mk k0)), .second, .val (.long (own_mk k1)), .second, .val (.long (own_mk k2)), .second, .val (.int l0), .val (.int l1), .val (.int l2), .val (.ref a1), .val (.ref a2), .val (.long d0), .second, .val (.long d1), .second, .val (.long d2), .second, .val (.ref a3), .val (.ref a4), .unset, .unset, .unset, .unset, .unset]) rfl k) ?_
  show ownGo p.tables e below T368 (mkF m 228 #[.val (.long x0), .second, .val (.long x1), .second, .val (.long x2), .second, .val (.long x3), .second, .val (.long x4), .second, .val (.long x5), .second, .val (.int (Int32.ofNat k0)), .val (.int (Int32.ofNat k1)), .val (.int (Int32.ofNat k2)), .val (.long (own_mk k0)), .second, .val (.long (own_mk k1)), .second, .val (.long (own_mk k2)), .second, .val (.int l0), .val (.int l1), .val (.int l2), .val (.ref a1), .val (.ref a2), .val (.long d0), .second, .val (.long d1), .second, .val (.long d2), .second, .val (.ref a3), .val (.ref a4), .unset, .unset, .unset, .unset, .unset] []) _
  have U_a1 : ownA Z h368 a1 .int 3 (fun i => .int ((own_three l0 l1 l2) i)) := V_a1_369.eq (own_case3 rfl rfl rfl)
  have U_a2 : ownA Z h368 a2 .int 3 (fun i => .int ((own_three u0 u1 u2) i)) := V_a2_371.eq (own_case3 rfl rfl rfl)
  have U_a3 : ownA Z h368 a3 .int 3 (fun i => .int ((own_three s0 s1 s2) i)) := V_a3_373.eq (own_case3 rfl rfl rfl)
  have U_a4 : ownA Z h368 a4 .long 2 (fun j => .long ((own_pairL x5 (x5 ^^^ (-1 : Int64))) j)) := V_a4_368.eq (fun i hi => by
    have q : i = 0 ∨ i = 1 := by omega
    rcases q with rfl | rfl <;> rfl)
  obtain ⟨T376, h376, X376, e376, E376, Ex_o, D376, -, st376⟩ := newO X368 hx hZ hown (own_at hw 21 rfl) (own_at hw 22 rfl) (own_at hw 23 rfl) e368 (g := (mkF m 228 #[.val (.long x0), .second, .val (.long x1), .second, .val (.long x2), .second, .val (.long x3), .second, .val (.long x4), .second, .val (.long x5), .second, .val (.int (Int32.ofNat k0)), .val (.int (Int32.ofNat k1)), .val (.int (Int32.ofNat k2)), .val (.long (own_mk k0)), .second, .val (.long (own_mk k1)), .second, .val (.long (own_mk k2)), .second, .val (.int l0), .val (.int l1), .val (.int l2), .val (.ref a1), .val (.ref a2), .val (.long d0), .second, .val (.long d1), .second, .val (.long d2), .second, .val (.ref a3), .val (.ref a4), .unset, .unset, .unset, .unset, .unset] [])) rfl (hb hby at_228) (by decide) (by decide)
  obtain ⟨o, g_o⟩ : ∃ z, z = h368.size := ⟨_, rfl⟩
  rw [← g_o] at Ex_o D376 st376
  have gz_o : n0 ≤ o := Nat.le_trans Z368 (Nat.le_of_eq g_o.symm)
  have ne_a1_o : a1 ≠ o := Nat.ne_of_lt (Nat.lt_of_lt_of_le U_a1.lt (Nat.le_of_eq g_o.symm))
  have ne_a2_o : a2 ≠ o := Nat.ne_of_lt (Nat.lt_of_lt_of_le U_a2.lt (Nat.le_of_eq g_o.symm))
  have ne_a3_o : a3 ≠ o := Nat.ne_of_lt (Nat.lt_of_lt_of_le U_a3.lt (Nat.le_of_eq g_o.symm))
  have ne_a4_o : a4 ≠ o := Nat.ne_of_lt (Nat.lt_of_lt_of_le U_a4.lt (Nat.le_of_eq g_o.symm))
  have U_a1_377 := U_a1.ext E376
  have Ex_a1_378 := Ex_a1_370.ext E376
  have U_a2_379 := U_a2.ext E376
  have Ex_a2_380 := Ex_a2_372.ext E376
  have U_a3_381 := U_a3.ext E376
  have Ex_a3_382 := Ex_a3_374.ext E376
  have U_a4_383 := U_a4.ext E376
  have Ex_a4_384 := Ex_a4_375.ext E376
  have Z376 : n0 ≤ h376.size := Nat.le_trans Z368 E376.1
  have F_width_o : Fld Z h376 o "com/example/ningbo/ningbo/engine/StateLayout" "width" "I" (.int (0 : Int32)) := D376 (Or.inr (own_at hw 31 rfl)) (ty := .int) (by decide)
  have F_lowerBounds_o : Fld Z h376 o "com/example/ningbo/ningbo/engine/StateLayout" "lowerBounds" "[I" .null := D376 (Or.inr (own_at hw 42 rfl)) (ty := (.array .int)) (by decide)
  have F_wordOf_o : Fld Z h376 o "com/example/ningbo/ningbo/engine/StateLayout" "wordOf" "[I" .null := D376 (Or.inr (own_at hw 44 rfl)) (ty := (.array .int)) (by decide)
  have F_shiftOf_o : Fld Z h376 o "com/example/ningbo/ningbo/engine/StateLayout" "shiftOf" "[I" .null := D376 (Or.inr (own_at hw 46 rfl)) (ty := (.array .int)) (by decide)
  have F_maskOf_o : Fld Z h376 o "com/example/ningbo/ningbo/engine/StateLayout" "maskOf" "[J" .null := D376 (Or.inr (own_at hw 48 rfl)) (ty := (.array .long)) (by decide)
  have F_bits_o : Fld Z h376 o "com/example/ningbo/ningbo/engine/StateLayout" "bits" "I" (.int (0 : Int32)) := D376 (Or.inr (own_at hw 59 rfl)) (ty := .int) (by decide)
  have F_words_o : Fld Z h376 o "com/example/ningbo/ningbo/engine/StateLayout" "words" "I" (.int (0 : Int32)) := D376 (Or.inr (own_at hw 64 rfl)) (ty := .int) (by decide)
  refine ownGo.st (st376) ?_
  show ownGo p.tables e below T376 (mkF m 231 #[.val (.long x0), .second, .val (.long x1), .second, .val (.long x2), .second, .val (.long x3), .second, .val (.long x4), .second, .val (.long x5), .second, .val (.int (Int32.ofNat k0)), .val (.int (Int32.ofNat k1)), .val (.int (Int32.ofNat k2)), .val (.long (own_mk k0)), .second, .val (.long (own_mk k1)), .second, .val (.long (own_mk k2)), .second, .val (.int l0), .val (.int l1), .val (.int l2), .val (.ref a1), .val (.ref a2), .val (.long d0), .second, .val (.long d1), .second, .val (.long d2), .second, .val (.ref a3), .val (.ref a4), .unset, .unset, .unset, .unset, .unset] [(.ref o)]) _
  refine ownGo.st (fun _ k => XS.dup X376.here hx rfl (hb hby at_231) rfl rfl k) ?_
  show ownGo p.tables e below T376 (mkF m 232 #[.val (.long x0), .second, .val (.long x1), .second, .val (.long x2), .second, .val (.long x3), .second, .val (.long x4), .second, .val (.long x5), .second, .val (.int (Int32.ofNat k0)), .val (.int (Int32.ofNat k1)), .val (.int (Int32.ofNat k2)), .val (.long (own_mk k0)), .second, .val (.long (own_mk k1)), .second, .val (.long (own_mk k2)), .second, .val (.int l0), .val (.int l1), .val (.int l2), .val (.ref a1), .val (.ref a2), .val (.long d0), .second, .val (.long d1), .second, .val (.long d2), .second, .val (.ref a3), .val (.ref a4), .unset, .unset, .unset, .unset, .unset] [(.ref o), (.ref o)]) _
  refine ownGo.st (fun _ k => XS.aload X376.here hx rfl (hb hby at_232) rfl rfl k) ?_
  show ownGo p.tables e below T376 (mkF m 234 #[.val (.long x0), .second, .val (.long x1), .second, .val (.long x2), .second, .val (.long x3), .second, .val (.long x4), .second, .val (.long x5), .second, .val (.int (Int32.ofNat k0)), .val (.int (Int32.ofNat k1)), .val (.int (Int32.ofNat k2)), .val (.long (own_mk k0)), .second, .val (.long (own_mk k1)), .second, .val (.long (own_mk k2)), .second, .val (.int l0), .val (.int l1), .val (.int l2), .val (.ref a1), .val (.ref a2), .val (.long d0), .second, .val (.long d1), .second, .val (.long d2), .second, .val (.ref a3), .val (.ref a4), .unset, .unset, .unset, .unset, .unset] [(.ref a1), (.ref o), (.ref o)]) _
  refine ownGo.st (fun _ k => XS.aload X376.here hx rfl (hb hby at_234) rfl rfl k) ?_
  show ownGo p.tables e below T376 (mkF m 236 #[.val (.long x0), .second, .val (.long x1), .second, .val (.long x2), .second, .val (.long x3), .second, .val (.long x4), .second, .val (.long x5), .second, .val (.int (Int32.ofNat k0)), .val (.int (Int32.ofNat k1)), .val (.int (Int32.ofNat k2)), .val (.long (own_mk k0)), .second, .val (.long (own_mk k1)), .second, .val (.long (own_mk k2)), .second, .val (.int l0), .val (.int l1), .val (.int l2), .val (.ref a1), .val (.ref a2), .val (.long d0), .second, .val (.long d1), .second, .val (.long d2), .second, .val (.ref a3), .val (.ref a4), .unset, .unset, .unset, .unset, .unset] [(.ref a2), (.ref a1), (.ref o), (.ref o)]) _
  obtain ⟨_, T385, L385, X385, hQ385, st385⟩ := own_callC X376 hx hZ hown rfl (own_at hw 24 rfl) (own_at hw 25 rfl) (own_at hw 23 rfl) (own_at hw 26 rfl) (by decide) (rm5 l Z a0 hw o a1 a2 (own_three l0 l1 l2) (own_three u0 u1 u2) (own_threeN k0 k1 k2) h376 n0 Z376 gz_o (Ne.symm ne_a1_o) (Ne.symm ne_a2_o) Ex_o F_width_o F_lowerBounds_o F_wordOf_o F_shiftOf_o F_maskOf_o F_bits_o F_words_o Ex_a1_378 U_a1_377 U_a2_379 (own_case3 hb0 hb1 hb2)) 1 (by decide) (by decide) e376 (by decide) (by decide) (g := (mkF m 236 #[.val (.long x0), .second, .val (.long x1), .second, .val (.long x2), .second, .val (.long x3), .second, .val (.long x4), .second, .val (.long x5), .second, .val (.int (Int32.ofNat k0)), .val (.int (Int32.ofNat k1)), .val (.int (Int32.ofNat k2)), .val (.long (own_mk k0)), .second, .val (.long (own_mk k1)), .second, .val (.long (own_mk k2)), .second, .val (.int l0), .val (.int l1), .val (.int l2), .val (.ref a1), .val (.ref a2), .val (.long d0), .second, .val (.long d1), .second, .val (.long d2), .second, .val (.ref a3), .val (.ref a4), .unset, .unset, .unset, .unset, .unset] [(.ref a2), (.ref a1), (.ref o), (.ref o)])) rfl (by rw [hml]; rfl) (argsL := [(.ref a1), (.ref a2)]) (rest := [(.ref o)]) (lenOf pd___I_I_V rfl) rfl (by show 2 * 0 + _ ≤ _; exact Nat.le_of_eq rfl) (hb hby at_236)
  obtain ⟨rfl, N385q, K385, Y385⟩ := hQ385
  have N385 := Fr.app N368 N385q
  have V3_385 := U_a3_381.keep K385 (ninS ne_a3_o nin0)
  have V4_385 := U_a4_383.keep K385 (ninS ne_a4_o nin0)
  have lt4 : a4 < o := by rw [g_o]; exact U_a4.lt
  have Z385 : n0 ≤ T385.heap.size := Nat.le_trans Z376 K385.1
  refine ownGo.st st385 ?_
  show ownGo p.tables e below T385 (mkF m 239 #[.val (.long x0), .second, .val (.long x1), .second, .val (.long x2), .second, .val (.long x3), .second, .val (.long x4), .second, .val (.long x5), .second, .val (.int (Int32.ofNat k0)), .val (.int (Int32.ofNat k1)), .val (.int (Int32.ofNat k2)), .val (.long (own_mk k0)), .second, .val (.long (own_mk k1)), .second, .val (.long (own_mk k2)), .second, .val (.int l0), .val (.int l1), .val (.int l2), .val (.ref a1), .val (.ref a2), .val (.long d0), .second, .val (.long d1), .second, .val (.long d2), .second, .val (.ref a3), .val (.ref a4), .unset, .unset, .unset, .unset, .unset] [(.ref o)]) _
  refine ownGo.st (fun _ k => XS.astore X385.here hx rfl (hb hby at_239) rfl rfl (l' := #[.val (.long x0), .second, .val (.long x1), .second, .val (.long x2), .second, .val (.long x3), .second, .val (.long x4), .second, .val (.long x5), .second, .val (.int (Int32.ofNat k0)), .val (.int (Int32.ofNat k1)), .val (.int (Int32.ofNat k2)), .val (.long (own_mk k0)), .second, .val (.long (own_mk k1)), .second, .val (.long (own_mk k2)), .second, .val (.int l0), .val (.int l1), .val (.int l2), .val (.ref a1), .val (.ref a2), .val (.long d0), .second, .val (.long d1), .second, .val (.long d2), .second, .val (.ref a3), .val (.ref a4), .val (.ref o), .unset, .unset, .unset, .unset]) rfl k) ?_
  show ownGo p.tables e below T385 (mkF m 241 #[.val (.long x0), .second, .val (.long x1), .second, .val (.long x2), .second, .val (.long x3), .second, .val (.long x4), .second, .val (.long x5), .second, .val (.int (Int32.ofNat k0)), .val (.int (Int32.ofNat k1)), .val (.int (Int32.ofNat k2)), .val (.long (own_mk k0)), .second, .val (.long (own_mk k1)), .second, .val (.long (own_mk k2)), .second, .val (.int l0), .val (.int l1), .val (.int l2), .val (.ref a1), .val (.ref a2), .val (.long d0), .second, .val (.long d1), .second, .val (.long d2), .second, .val (.ref a3), .val (.ref a4), .val (.ref o), .unset, .unset, .unset, .unset] []) _
  refine ownGo.st (fun _ k => XS.aload X385.here hx rfl (hb hby at_241) rfl rfl k) ?_
  show ownGo p.tables e below T385 (mkF m 243 #[.val (.long x0), .second, .val (.long x1), .second, .val (.long x2), .second, .val (.long x3), .second, .val (.long x4), .second, .val (.long x5), .second, .val (.int (Int32.ofNat k0)), .val (.int (Int32.ofNat k1)), .val (.int (Int32.ofNat k2)), .val (.long (own_mk k0)), .second, .val (.long (own_mk k1)), .second, .val (.long (own_mk k2)), .second, .val (.int l0), .val (.int l1), .val (.int l2), .val (.ref a1), .val (.ref a2), .val (.long d0), .second, .val (.long d1), .second, .val (.long d2), .second, .val (.ref a3), .val (.ref a4), .val (.ref o), .unset, .unset, .unset, .unset] [(.ref o)]) _
  refine ownGo.st (fun _ k => XS.aload X385.here hx rfl (hb hby at_243) rfl rfl k) ?_
  show ownGo p.tables e below T385 (mkF m 245 #[.val (.long x0), .second, .val (.long x1), .second, .val (.long x2), .second, .val (.long x3), .second, .val (.long x4), .second, .val (.long x5), .second, .val (.int (Int32.ofNat k0)), .val (.int (Int32.ofNat k1)), .val (.int (Int32.ofNat k2)), .val (.long (own_mk k0)), .second, .val (.long (own_mk k1)), .second, .val (.long (own_mk k2)), .second, .val (.int l0), .val (.int l1), .val (.int l2), .val (.ref a1), .val (.ref a2), .val (.long d0), .second, .val (.long d1), .second, .val (.long d2), .second, .val (.ref a3), .val (.ref a4), .val (.ref o), .unset, .unset, .unset, .unset] [(.ref a3), (.ref o)]) _
  refine ownGo.st (fun _ k => XS.aload X385.here hx rfl (hb hby at_245) rfl rfl k) ?_
  show ownGo p.tables e below T385 (mkF m 247 #[.val (.long x0), .second, .val (.long x1), .second, .val (.long x2), .second, .val (.long x3), .second, .val (.long x4), .second, .val (.long x5), .second, .val (.int (Int32.ofNat k0)), .val (.int (Int32.ofNat k1)), .val (.int (Int32.ofNat k2)), .val (.long (own_mk k0)), .second, .val (.long (own_mk k1)), .second, .val (.long (own_mk k2)), .second, .val (.int l0), .val (.int l1), .val (.int l2), .val (.ref a1), .val (.ref a2), .val (.long d0), .second, .val (.long d1), .second, .val (.long d2), .second, .val (.ref a3), .val (.ref a4), .val (.ref o), .unset, .unset, .unset, .unset] [(.ref a4), (.ref a3), (.ref o)]) _
  obtain ⟨_, T386, L386, X386, hQ386, st386⟩ := own_callV X385 hx hZ hown (own_at hw 65 rfl) (own_at hw 66 rfl) (own_at hw 68 rfl) (own_at hw 67 rfl) (own_at hw 23 rfl) (own_at hw 69 rfl) (by decide) (rm10 l Z a0 hw o a3 a4 _ _ (own_three s0 s1 s2) (own_three l0 l1 l2) (own_threeN k0 k1 k2) (own_pairL x5 (x5 ^^^ (-1 : Int64))) T385.heap n0 Z385 gz_a4 ne_a3_a4 (Or.inl lt4) (own_case3 (show k0 ≤ 32 by omega) (show k1 ≤ 32 by omega) (show k2 ≤ 32 by omega)) Y385 V3_385 V4_385) 0 (by decide) (by decide) rfl (by decide) (by decide) Y385.exa (g := (mkF m 247 #[.val (.long x0), .second, .val (.long x1), .second, .val (.long x2), .second, .val (.long x3), .second, .val (.long x4), .second, .val (.long x5), .second, .val (.int (Int32.ofNat k0)), .val (.int (Int32.ofNat k1)), .val (.int (Int32.ofNat k2)), .val (.long (own_mk k0)), .second, .val (.long (own_mk k1)), .second, .val (.long (own_mk k2)), .second, .val (.int l0), .val (.int l1), .val (.int l2), .val (.ref a1), .val (.ref a2), .val (.long d0), .second, .val (.long d1), .second, .val (.long d2), .second, .val (.ref a3), .val (.ref a4), .val (.ref o), .unset, .unset, .unset, .unset] [(.ref a4), (.ref a3), (.ref o)])) rfl (by rw [hml]; rfl) (argsL := [(.ref a3), (.ref a4)]) (rest := []) (lenOf pd___I_J_V rfl) rfl (by show 2 * 0 + _ ≤ _; exact Nat.le_of_eq rfl) (hb hby at_247)
  obtain ⟨rfl, N386q, K386, Vp⟩ := hQ386
  have N386 := Fr.app N385 N386q
  refine ownGo.st st386 ?_
  show ownGo p.tables e below T386 (mkF m 250 #[.val (.long x0), .second, .val (.long x1), .second, .val (.long x2), .second, .val (.long x3), .second, .val (.long x4), .second, .val (.long x5), .second, .val (.int (Int32.ofNat k0)), .val (.int (Int32.ofNat k1)), .val (.int (Int32.ofNat k2)), .val (.long (own_mk k0)), .second, .val (.long (own_mk k1)), .second, .val (.long (own_mk k2)), .second, .val (.int l0), .val (.int l1), .val (.int l2), .val (.ref a1), .val (.ref a2), .val (.long d0), .second, .val (.long d1), .second, .val (.long d2), .second, .val (.ref a3), .val (.ref a4), .val (.ref o), .unset, .unset, .unset, .unset] []) _
  have fin := own_m1 l0 l1 l2 s0 s1 s2 d0 d1 d2 x5 (x5 ^^^ (-1 : Int64)) k0 k1 k2 (by omega) (by omega) (by omega) hs0 hs1 hs2
  refine ownGo.st (fun _ k => XS.iload X386.here hx rfl (hb hby at_250) rfl k) ?_
  show ownGo p.tables e below T386 (mkF m 252 #[.val (.long x0), .second, .val (.long x1), .second, .val (.long x2), .second, .val (.long x3), .second, .val (.long x4), .second, .val (.long x5), .second, .val (.int (Int32.ofNat k0)), .val (.int (Int32.ofNat k1)), .val (.int (Int32.ofNat k2)), .val (.long (own_mk k0)), .second, .val (.long (own_mk k1)), .second, .val (.long (own_mk k2)), .second, .val (.int l0), .val (.int l1), .val (.int l2), .val (.ref a1), .val (.ref a2), .val (.long d0), .second, .val (.long d1), .second, .val (.long d2), .second, .val (.ref a3), .val (.ref a4), .val (.ref o), .unset, .unset, .unset, .unset] [(.int (Int32.ofNat k0))]) _
  refine ownGo.st (fun _ k => XS.iload X386.here hx rfl (hb hby at_252) rfl k) ?_
  show ownGo p.tables e below T386 (mkF m 254 #[.val (.long x0), .second, .val (.long x1), .second, .val (.long x2), .second, .val (.long x3), .second, .val (.long x4), .second, .val (.long x5), .second, .val (.int (Int32.ofNat k0)), .val (.int (Int32.ofNat k1)), .val (.int (Int32.ofNat k2)), .val (.long (own_mk k0)), .second, .val (.long (own_mk k1)), .second, .val (.long (own_mk k2)), .second, .val (.int l0), .val (.int l1), .val (.int l2), .val (.ref a1), .val (.ref a2), .val (.long d0), .second, .val (.long d1), .second, .val (.long d2), .second, .val (.ref a3), .val (.ref a4), .val (.ref o), .unset, .unset, .unset, .unset] [(.int (Int32.ofNat k1)), (.int (Int32.ofNat k0))]) _
  refine ownGo.st (fun _ k => XS.iadd X386.here hx rfl (hb hby at_254) rfl k) ?_
  show ownGo p.tables e below T386 (mkF m 255 #[.val (.long x0), .second, .val (.long x1), .second, .val (.long x2), .second, .val (.long x3), .second, .val (.long x4), .second, .val (.long x5), .second, .val (.int (Int32.ofNat k0)), .val (.int (Int32.ofNat k1)), .val (.int (Int32.ofNat k2)), .val (.long (own_mk k0)), .second, .val (.long (own_mk k1)), .second, .val (.long (own_mk k2)), .second, .val (.int l0), .val (.int l1), .val (.int l2), .val (.ref a1), .val (.ref a2), .val (.long d0), .second, .val (.long d1), .second, .val (.long d2), .second, .val (.ref a3), .val (.ref a4), .val (.ref o), .unset, .unset, .unset, .unset] [(.int ((Int32.ofNat k0) + (Int32.ofNat k1)))]) _
  rw [← Int32.ofNat_add k0 k1]
  show ownGo p.tables e below T386 (mkF m 255 #[.val (.long x0), .second, .val (.long x1), .second, .val (.long x2), .second, .val (.long x3), .second, .val (.long x4), .second, .val (.long x5), .second, .val (.int (Int32.ofNat k0)), .val (.int (Int32.ofNat k1)), .val (.int (Int32.ofNat k2)), .val (.long (own_mk k0)), .second, .val (.long (own_mk k1)), .second, .val (.long (own_mk k2)), .second, .val (.int l0), .val (.int l1), .val (.int l2), .val (.ref a1), .val (.ref a2), .val (.long d0), .second, .val (.long d1), .second, .val (.long d2), .second, .val (.ref a3), .val (.ref a4), .val (.ref o), .unset, .unset, .unset, .unset] [(.int (Int32.ofNat (k0 + k1)))]) _
  refine ownGo.st (fun _ k => XS.iload X386.here hx rfl (hb hby at_255) rfl k) ?_
  show ownGo p.tables e below T386 (mkF m 257 #[.val (.long x0), .second, .val (.long x1), .second, .val (.long x2), .second, .val (.long x3), .second, .val (.long x4), .second, .val (.long x5), .second, .val (.int (Int32.ofNat k0)), .val (.int (Int32.ofNat k1)), .val (.int (Int32.ofNat k2)), .val (.long (own_mk k0)), .second, .val (.long (own_mk k1)), .second, .val (.long (own_mk k2)), .second, .val (.int l0), .val (.int l1), .val (.int l2), .val (.ref a1), .val (.ref a2), .val (.long d0), .second, .val (.long d1), .second, .val (.long d2), .second, .val (.ref a3), .val (.ref a4), .val (.ref o), .unset, .unset, .unset, .unset] [(.int (Int32.ofNat k2)), (.int (Int32.ofNat (k0 + k1)))]) _
  refine ownGo.st (fun _ k => XS.iadd X386.here hx rfl (hb hby at_257) rfl k) ?_
  show ownGo p.tables e below T386 (mkF m 258 #[.val (.long x0), .second, .val (.long x1), .second, .val (.long x2), .second, .val (.long x3), .second, .val (.long x4), .second, .val (.long x5), .second, .val (.int (Int32.ofNat k0)), .val (.int (Int32.ofNat k1)), .val (.int (Int32.ofNat k2)), .val (.long (own_mk k0)), .second, .val (.long (own_mk k1)), .second, .val (.long (own_mk k2)), .second, .val (.int l0), .val (.int l1), .val (.int l2), .val (.ref a1), .val (.ref a2), .val (.long d0), .second, .val (.long d1), .second, .val (.long d2), .second, .val (.ref a3), .val (.ref a4), .val (.ref o), .unset, .unset, .unset, .unset] [(.int ((Int32.ofNat (k0 + k1)) + (Int32.ofNat k2)))]) _
  rw [← Int32.ofNat_add (k0 + k1) k2]
  show ownGo p.tables e below T386 (mkF m 258 #[.val (.long x0), .second, .val (.long x1), .second, .val (.long x2), .second, .val (.long x3), .second, .val (.long x4), .second, .val (.long x5), .second, .val (.int (Int32.ofNat k0)), .val (.int (Int32.ofNat k1)), .val (.int (Int32.ofNat k2)), .val (.long (own_mk k0)), .second, .val (.long (own_mk k1)), .second, .val (.long (own_mk k2)), .second, .val (.int l0), .val (.int l1), .val (.int l2), .val (.ref a1), .val (.ref a2), .val (.long d0), .second, .val (.long d1), .second, .val (.long d2), .second, .val (.ref a3), .val (.ref a4), .val (.ref o), .unset, .unset, .unset, .unset] [(.int (Int32.ofNat (k0 + k1 + k2)))]) _
  refine ownGo.st (fun _ k => XS.bipush X386.here hx rfl (hb hby at_258)  k) ?_
  show ownGo p.tables e below T386 (mkF m 260 #[.val (.long x0), .second, .val (.long x1), .second, .val (.long x2), .second, .val (.long x3), .second, .val (.long x4), .second, .val (.long x5), .second, .val (.int (Int32.ofNat k0)), .val (.int (Int32.ofNat k1)), .val (.int (Int32.ofNat k2)), .val (.long (own_mk k0)), .second, .val (.long (own_mk k1)), .second, .val (.long (own_mk k2)), .second, .val (.int l0), .val (.int l1), .val (.int l2), .val (.ref a1), .val (.ref a2), .val (.long d0), .second, .val (.long d1), .second, .val (.long d2), .second, .val (.ref a3), .val (.ref a4), .val (.ref o), .unset, .unset, .unset, .unset] [(.int (64 : Int32)), (.int (Int32.ofNat (k0 + k1 + k2)))]) _
  by_cases hS : (64 : Int32) < (Int32.ofNat (k0 + k1 + k2))
  · refine ownGo.st (fun _ k => XS.icmpYes X386.here hx rfl (pc0 := 260) (pc' := 293) rfl (hb hby at_260) rfl (tlt hS).2.2.1 (by decide) (by decide) k) ?_
    show ownGo p.tables e below T386 (mkF m 293 #[.val (.long x0), .second, .val (.long x1), .second, .val (.long x2), .second, .val (.long x3), .second, .val (.long x4), .second, .val (.long x5), .second, .val (.int (Int32.ofNat k0)), .val (.int (Int32.ofNat k1)), .val (.int (Int32.ofNat k2)), .val (.long (own_mk k0)), .second, .val (.long (own_mk k1)), .second, .val (.long (own_mk k2)), .second, .val (.int l0), .val (.int l1), .val (.int l2), .val (.ref a1), .val (.ref a2), .val (.long d0), .second, .val (.long d1), .second, .val (.long d2), .second, .val (.ref a3), .val (.ref a4), .val (.ref o), .unset, .unset, .unset, .unset] []) _
    have fA := fin.2 ((own_lt_iff (a := 64) (by decide) (by omega)).mp hS)
    refine ownGo.st (fun _ k => XS.lload X386.here hx rfl (hb hby at_293) rfl k) ?_
    show ownGo p.tables e below T386 (mkF m 295 #[.val (.long x0), .second, .val (.long x1), .second, .val (.long x2), .second, .val (.long x3), .second, .val (.long x4), .second, .val (.long x5), .second, .val (.int (Int32.ofNat k0)), .val (.int (Int32.ofNat k1)), .val (.int (Int32.ofNat k2)), .val (.long (own_mk k0)), .second, .val (.long (own_mk k1)), .second, .val (.long (own_mk k2)), .second, .val (.int l0), .val (.int l1), .val (.int l2), .val (.ref a1), .val (.ref a2), .val (.long d0), .second, .val (.long d1), .second, .val (.long d2), .second, .val (.ref a3), .val (.ref a4), .val (.ref o), .unset, .unset, .unset, .unset] [(.long d0)]) _
    refine ownGo.st (fun _ k => XS.lload X386.here hx rfl (hb hby at_295) rfl k) ?_
    show ownGo p.tables e below T386 (mkF m 297 #[.val (.long x0), .second, .val (.long x1), .second, .val (.long x2), .second, .val (.long x3), .second, .val (.long x4), .second, .val (.long x5), .second, .val (.int (Int32.ofNat k0)), .val (.int (Int32.ofNat k1)), .val (.int (Int32.ofNat k2)), .val (.long (own_mk k0)), .second, .val (.long (own_mk k1)), .second, .val (.long (own_mk k2)), .second, .val (.int l0), .val (.int l1), .val (.int l2), .val (.ref a1), .val (.ref a2), .val (.long d0), .second, .val (.long d1), .second, .val (.long d2), .second, .val (.ref a3), .val (.ref a4), .val (.ref o), .unset, .unset, .unset, .unset] [(.long d1), (.long d0)]) _
    refine ownGo.st (fun _ k => XS.iload X386.here hx rfl (hb hby at_297) rfl k) ?_
    show ownGo p.tables e below T386 (mkF m 299 #[.val (.long x0), .second, .val (.long x1), .second, .val (.long x2), .second, .val (.long x3), .second, .val (.long x4), .second, .val (.long x5), .second, .val (.int (Int32.ofNat k0)), .val (.int (Int32.ofNat k1)), .val (.int (Int32.ofNat k2)), .val (.long (own_mk k0)), .second, .val (.long (own_mk k1)), .second, .val (.long (own_mk k2)), .second, .val (.int l0), .val (.int l1), .val (.int l2), .val (.ref a1), .val (.ref a2), .val (.long d0), .second, .val (.long d1), .second, .val (.long d2), .second, .val (.ref a3), .val (.ref a4), .val (.ref o), .unset, .unset, .unset, .unset] [(.int (Int32.ofNat k0)), (.long d1), (.long d0)]) _
    refine ownGo.st (fun _ k => XS.lshl X386.here hx rfl (hb hby at_299) rfl k) ?_
    show ownGo p.tables e below T386 (mkF m 300 #[.val (.long x0), .second, .val (.long x1), .second, .val (.long x2), .second, .val (.long x3), .second, .val (.long x4), .second, .val (.long x5), .second, .val (.int (Int32.ofNat k0)), .val (.int (Int32.ofNat k1)), .val (.int (Int32.ofNat k2)), .val (.long (own_mk k0)), .second, .val (.long (own_mk k1)), .second, .val (.long (own_mk k2)), .second, .val (.int l0), .val (.int l1), .val (.int l2), .val (.ref a1), .val (.ref a2), .val (.long d0), .second, .val (.long d1), .second, .val (.long d2), .second, .val (.ref a3), .val (.ref a4), .val (.ref o), .unset, .unset, .unset, .unset] [(.long (own_lshl d1 (Int32.ofNat k0))), (.long d0)]) _
    refine ownGo.st (fun _ k => XS.lor X386.here hx rfl (hb hby at_300) rfl k) ?_
    show ownGo p.tables e below T386 (mkF m 301 #[.val (.long x0), .second, .val (.long x1), .second, .val (.long x2), .second, .val (.long x3), .second, .val (.long x4), .second, .val (.long x5), .second, .val (.int (Int32.ofNat k0)), .val (.int (Int32.ofNat k1)), .val (.int (Int32.ofNat k2)), .val (.long (own_mk k0)), .second, .val (.long (own_mk k1)), .second, .val (.long (own_mk k2)), .second, .val (.int l0), .val (.int l1), .val (.int l2), .val (.ref a1), .val (.ref a2), .val (.long d0), .second, .val (.long d1), .second, .val (.long d2), .second, .val (.ref a3), .val (.ref a4), .val (.ref o), .unset, .unset, .unset, .unset] [(.long (d0 ||| (own_lshl d1 (Int32.ofNat k0))))]) _
    refine ownGo.st (fun _ k => XS.lstore X386.here hx rfl (hb hby at_301) rfl (l' := #[.val (.long x0), .second, .val (.long x1), .second, .val (.long x2), .second, .val (.long x3), .second, .val (.long x4), .second, .val (.long x5), .second, .val (.int (Int32.ofNat k0)), .val (.int (Int32.ofNat k1)), .val (.int (Int32.ofNat k2)), .val (.long (own_mk k0)), .second, .val (.long (own_mk k1)), .second, .val (.long (own_mk k2)), .second, .val (.int l0), .val (.int l1), .val (.int l2), .val (.ref a1), .val (.ref a2), .val (.long d0), .second, .val (.long d1), .second, .val (.long d2), .second, .val (.ref a3), .val (.ref a4), .val (.ref o), .val (.long (d0 ||| (own_lshl d1 (Int32.ofNat k0)))), .second, .unset, .unset]) rfl k) ?_
    show ownGo p.tables e below T386 (mkF m 303 #[.val (.long x0), .second, .val (.long x1), .second, .val (.long x2), .second, .val (.long x3), .second, .val (.long x4), .second, .val (.long x5), .second, .val (.int (Int32.ofNat k0)), .val (.int (Int32.ofNat k1)), .val (.int (Int32.ofNat k2)), .val (.long (own_mk k0)), .second, .val (.long (own_mk k1)), .second, .val (.long (own_mk k2)), .second, .val (.int l0), .val (.int l1), .val (.int l2), .val (.ref a1), .val (.ref a2), .val (.long d0), .second, .val (.long d1), .second, .val (.long d2), .second, .val (.ref a3), .val (.ref a4), .val (.ref o), .val (.long (d0 ||| (own_lshl d1 (Int32.ofNat k0)))), .second, .unset, .unset] []) _
    refine ownGo.st (fun _ k => XS.lload X386.here hx rfl (hb hby at_303) rfl k) ?_
    show ownGo p.tables e below T386 (mkF m 305 #[.val (.long x0), .second, .val (.long x1), .second, .val (.long x2), .second, .val (.long x3), .second, .val (.long x4), .second, .val (.long x5), .second, .val (.int (Int32.ofNat k0)), .val (.int (Int32.ofNat k1)), .val (.int (Int32.ofNat k2)), .val (.long (own_mk k0)), .second, .val (.long (own_mk k1)), .second, .val (.long (own_mk k2)), .second, .val (.int l0), .val (.int l1), .val (.int l2), .val (.ref a1), .val (.ref a2), .val (.long d0), .second, .val (.long d1), .second, .val (.long d2), .second, .val (.ref a3), .val (.ref a4), .val (.ref o), .val (.long (d0 ||| (own_lshl d1 (Int32.ofNat k0)))), .second, .unset, .unset] [(.long d2)]) _
    refine ownGo.st (fun _ k => XS.lstore X386.here hx rfl (hb hby at_305) rfl (l' := #[.val (.long x0), .second, .val (.long x1), .second, .val (.long x2), .second, .val (.long x3), .second, .val (.long x4), .second, .val (.long x5), .second, .val (.int (Int32.ofNat k0)), .val (.int (Int32.ofNat k1)), .val (.int (Int32.ofNat k2)), .val (.long (own_mk k0)), .second, .val (.long (own_mk k1)), .second, .val (.long (own_mk k2)), .second, .val (.int l0), .val (.int l1), .val (.int l2), .val (.ref a1), .val (.ref a2), .val (.long d0), .second, .val (.long d1), .second, .val (.long d2), .second, .val (.ref a3), .val (.ref a4), .val (.ref o), .val (.long (d0 ||| (own_lshl d1 (Int32.ofNat k0)))), .second, .val (.long d2), .second]) rfl k) ?_
    show ownGo p.tables e below T386 (mkF m 307 #[.val (.long x0), .second, .val (.long x1), .second, .val (.long x2), .second, .val (.long x3), .second, .val (.long x4), .second, .val (.long x5), .second, .val (.int (Int32.ofNat k0)), .val (.int (Int32.ofNat k1)), .val (.int (Int32.ofNat k2)), .val (.long (own_mk k0)), .second, .val (.long (own_mk k1)), .second, .val (.long (own_mk k2)), .second, .val (.int l0), .val (.int l1), .val (.int l2), .val (.ref a1), .val (.ref a2), .val (.long d0), .second, .val (.long d1), .second, .val (.long d2), .second, .val (.ref a3), .val (.ref a4), .val (.ref o), .val (.long (d0 ||| (own_lshl d1 (Int32.ofNat k0)))), .second, .val (.long d2), .second] []) _
    refine ownGo.st (fun _ k => XS.aload X386.here hx rfl (hb hby at_307) rfl rfl k) ?_
    show ownGo p.tables e below T386 (mkF m 309 #[.val (.long x0), .second, .val (.long x1), .second, .val (.long x2), .second, .val (.long x3), .second, .val (.long x4), .second, .val (.long x5), .second, .val (.int (Int32.ofNat k0)), .val (.int (Int32.ofNat k1)), .val (.int (Int32.ofNat k2)), .val (.long (own_mk k0)), .second, .val (.long (own_mk k1)), .second, .val (.long (own_mk k2)), .second, .val (.int l0), .val (.int l1), .val (.int l2), .val (.ref a1), .val (.ref a2), .val (.long d0), .second, .val (.long d1), .second, .val (.long d2), .second, .val (.ref a3), .val (.ref a4), .val (.ref o), .val (.long (d0 ||| (own_lshl d1 (Int32.ofNat k0)))), .second, .val (.long d2), .second] [(.ref a4)]) _
    refine ownGo.st (fun _ k => XS.iconst X386.here hx rfl (hb hby at_309)  k) ?_
    show ownGo p.tables e below T386 (mkF m 310 #[.val (.long x0), .second, .val (.long x1), .second, .val (.long x2), .second, .val (.long x3), .second, .val (.long x4), .second, .val (.long x5), .second, .val (.int (Int32.ofNat k0)), .val (.int (Int32.ofNat k1)), .val (.int (Int32.ofNat k2)), .val (.long (own_mk k0)), .second, .val (.long (own_mk k1)), .second, .val (.long (own_mk k2)), .second, .val (.int l0), .val (.int l1), .val (.int l2), .val (.ref a1), .val (.ref a2), .val (.long d0), .second, .val (.long d1), .second, .val (.long d2), .second, .val (.ref a3), .val (.ref a4), .val (.ref o), .val (.long (d0 ||| (own_lshl d1 (Int32.ofNat k0)))), .second, .val (.long d2), .second] [(.int (0 : Int32)), (.ref a4)]) _
    refine ownGo.st (own_laload X386 hx hZ rfl Vp (i := 0) (v := (own_packed (own_x (own_three s0 s1 s2) (own_three l0 l1 l2) (own_threeN k0 k1 k2)) (own_threeN k0 k1 k2) (own_pairL x5 (x5 ^^^ (-1 : Int64))) 0)) rfl (by decide) rfl (g := (mkF m 310 #[.val (.long x0), .second, .val (.long x1), .second, .val (.long x2), .second, .val (.long x3), .second, .val (.long x4), .second, .val (.long x5), .second, .val (.int (Int32.ofNat k0)), .val (.int (Int32.ofNat k1)), .val (.int (Int32.ofNat k2)), .val (.long (own_mk k0)), .second, .val (.long (own_mk k1)), .second, .val (.long (own_mk k2)), .second, .val (.int l0), .val (.int l1), .val (.int l2), .val (.ref a1), .val (.ref a2), .val (.long d0), .second, .val (.long d1), .second, .val (.long d2), .second, .val (.ref a3), .val (.ref a4), .val (.ref o), .val (.long (d0 ||| (own_lshl d1 (Int32.ofNat k0)))), .second, .val (.long d2), .second] [(.int (0 : Int32)), (.ref a4)])) rfl rfl (hb hby at_310)) ?_
    show ownGo p.tables e below T386 (mkF m 311 #[.val (.long x0), .second, .val (.long x1), .second, .val (.long x2), .second, .val (.long x3), .second, .val (.long x4), .second, .val (.long x5), .second, .val (.int (Int32.ofNat k0)), .val (.int (Int32.ofNat k1)), .val (.int (Int32.ofNat k2)), .val (.long (own_mk k0)), .second, .val (.long (own_mk k1)), .second, .val (.long (own_mk k2)), .second, .val (.int l0), .val (.int l1), .val (.int l2), .val (.ref a1), .val (.ref a2), .val (.long d0), .second, .val (.long d1), .second, .val (.long d2), .second, .val (.ref a3), .val (.ref a4), .val (.ref o), .val (.long (d0 ||| (own_lshl d1 (Int32.ofNat k0)))), .second, .val (.long d2), .second] [(.long (own_packed (own_x (own_three s0 s1 s2) (own_three l0 l1 l2) (own_threeN k0 k1 k2)) (own_threeN k0 k1 k2) (own_pairL x5 (x5 ^^^ (-1 : Int64))) 0))]) _
    refine ownGo.st (fun _ k => XS.lload X386.here hx rfl (hb hby at_311) rfl k) ?_
    show ownGo p.tables e below T386 (mkF m 313 #[.val (.long x0), .second, .val (.long x1), .second, .val (.long x2), .second, .val (.long x3), .second, .val (.long x4), .second, .val (.long x5), .second, .val (.int (Int32.ofNat k0)), .val (.int (Int32.ofNat k1)), .val (.int (Int32.ofNat k2)), .val (.long (own_mk k0)), .second, .val (.long (own_mk k1)), .second, .val (.long (own_mk k2)), .second, .val (.int l0), .val (.int l1), .val (.int l2), .val (.ref a1), .val (.ref a2), .val (.long d0), .second, .val (.long d1), .second, .val (.long d2), .second, .val (.ref a3), .val (.ref a4), .val (.ref o), .val (.long (d0 ||| (own_lshl d1 (Int32.ofNat k0)))), .second, .val (.long d2), .second] [(.long (d0 ||| (own_lshl d1 (Int32.ofNat k0)))), (.long (own_packed (own_x (own_three s0 s1 s2) (own_three l0 l1 l2) (own_threeN k0 k1 k2)) (own_threeN k0 k1 k2) (own_pairL x5 (x5 ^^^ (-1 : Int64))) 0))]) _
    refine ownGo.st (fun _ k => XS.lcmp X386.here hx rfl (hb hby at_313) rfl k) ?_
    show ownGo p.tables e below T386 (mkF m 314 #[.val (.long x0), .second, .val (.long x1), .second, .val (.long x2), .second, .val (.long x3), .second, .val (.long x4), .second, .val (.long x5), .second, .val (.int (Int32.ofNat k0)), .val (.int (Int32.ofNat k1)), .val (.int (Int32.ofNat k2)), .val (.long (own_mk k0)), .second, .val (.long (own_mk k1)), .second, .val (.long (own_mk k2)), .second, .val (.int l0), .val (.int l1), .val (.int l2), .val (.ref a1), .val (.ref a2), .val (.long d0), .second, .val (.long d1), .second, .val (.long d2), .second, .val (.ref a3), .val (.ref a4), .val (.ref o), .val (.long (d0 ||| (own_lshl d1 (Int32.ofNat k0)))), .second, .val (.long d2), .second] [(.int (lcmpW (own_packed (own_x (own_three s0 s1 s2) (own_three l0 l1 l2) (own_threeN k0 k1 k2)) (own_threeN k0 k1 k2) (own_pairL x5 (x5 ^^^ (-1 : Int64))) 0) (d0 ||| (own_lshl d1 (Int32.ofNat k0)))))]) _
    have hc387 : (own_packed (own_x (own_three s0 s1 s2) (own_three l0 l1 l2) (own_threeN k0 k1 k2)) (own_threeN k0 k1 k2) (own_pairL x5 (x5 ^^^ (-1 : Int64))) 0) = (d0 ||| (own_lshl d1 (Int32.ofNat k0))) := fA.1
    refine ownGo.st (fun _ k => XS.ifNo X386.here hx rfl (hb hby at_314) rfl ((if0 _ _).trans (teq ((lw_eq _ _).mpr hc387)).2) k) ?_
    show ownGo p.tables e below T386 (mkF m 317 #[.val (.long x0), .second, .val (.long x1), .second, .val (.long x2), .second, .val (.long x3), .second, .val (.long x4), .second, .val (.long x5), .second, .val (.int (Int32.ofNat k0)), .val (.int (Int32.ofNat k1)), .val (.int (Int32.ofNat k2)), .val (.long (own_mk k0)), .second, .val (.long (own_mk k1)), .second, .val (.long (own_mk k2)), .second, .val (.int l0), .val (.int l1), .val (.int l2), .val (.ref a1), .val (.ref a2), .val (.long d0), .second, .val (.long d1), .second, .val (.long d2), .second, .val (.ref a3), .val (.ref a4), .val (.ref o), .val (.long (d0 ||| (own_lshl d1 (Int32.ofNat k0)))), .second, .val (.long d2), .second] []) _
    refine ownGo.st (fun _ k => XS.aload X386.here hx rfl (hb hby at_317) rfl rfl k) ?_
    show ownGo p.tables e below T386 (mkF m 319 #[.val (.long x0), .second, .val (.long x1), .second, .val (.long x2), .second, .val (.long x3), .second, .val (.long x4), .second, .val (.long x5), .second, .val (.int (Int32.ofNat k0)), .val (.int (Int32.ofNat k1)), .val (.int (Int32.ofNat k2)), .val (.long (own_mk k0)), .second, .val (.long (own_mk k1)), .second, .val (.long (own_mk k2)), .second, .val (.int l0), .val (.int l1), .val (.int l2), .val (.ref a1), .val (.ref a2), .val (.long d0), .second, .val (.long d1), .second, .val (.long d2), .second, .val (.ref a3), .val (.ref a4), .val (.ref o), .val (.long (d0 ||| (own_lshl d1 (Int32.ofNat k0)))), .second, .val (.long d2), .second] [(.ref a4)]) _
    refine ownGo.st (fun _ k => XS.iconst X386.here hx rfl (hb hby at_319)  k) ?_
    show ownGo p.tables e below T386 (mkF m 320 #[.val (.long x0), .second, .val (.long x1), .second, .val (.long x2), .second, .val (.long x3), .second, .val (.long x4), .second, .val (.long x5), .second, .val (.int (Int32.ofNat k0)), .val (.int (Int32.ofNat k1)), .val (.int (Int32.ofNat k2)), .val (.long (own_mk k0)), .second, .val (.long (own_mk k1)), .second, .val (.long (own_mk k2)), .second, .val (.int l0), .val (.int l1), .val (.int l2), .val (.ref a1), .val (.ref a2), .val (.long d0), .second, .val (.long d1), .second, .val (.long d2), .second, .val (.ref a3), .val (.ref a4), .val (.ref o), .val (.long (d0 ||| (own_lshl d1 (Int32.ofNat k0)))), .second, .val (.long d2), .second] [(.int (1 : Int32)), (.ref a4)]) _
    refine ownGo.st (own_laload X386 hx hZ rfl Vp (i := 1) (v := (own_packed (own_x (own_three s0 s1 s2) (own_three l0 l1 l2) (own_threeN k0 k1 k2)) (own_threeN k0 k1 k2) (own_pairL x5 (x5 ^^^ (-1 : Int64))) 1)) rfl (by decide) rfl (g := (mkF m 320 #[.val (.long x0), .second, .val (.long x1), .second, .val (.long x2), .second, .val (.long x3), .second, .val (.long x4), .second, .val (.long x5), .second, .val (.int (Int32.ofNat k0)), .val (.int (Int32.ofNat k1)), .val (.int (Int32.ofNat k2)), .val (.long (own_mk k0)), .second, .val (.long (own_mk k1)), .second, .val (.long (own_mk k2)), .second, .val (.int l0), .val (.int l1), .val (.int l2), .val (.ref a1), .val (.ref a2), .val (.long d0), .second, .val (.long d1), .second, .val (.long d2), .second, .val (.ref a3), .val (.ref a4), .val (.ref o), .val (.long (d0 ||| (own_lshl d1 (Int32.ofNat k0)))), .second, .val (.long d2), .second] [(.int (1 : Int32)), (.ref a4)])) rfl rfl (hb hby at_320)) ?_
    show ownGo p.tables e below T386 (mkF m 321 #[.val (.long x0), .second, .val (.long x1), .second, .val (.long x2), .second, .val (.long x3), .second, .val (.long x4), .second, .val (.long x5), .second, .val (.int (Int32.ofNat k0)), .val (.int (Int32.ofNat k1)), .val (.int (Int32.ofNat k2)), .val (.long (own_mk k0)), .second, .val (.long (own_mk k1)), .second, .val (.long (own_mk k2)), .second, .val (.int l0), .val (.int l1), .val (.int l2), .val (.ref a1), .val (.ref a2), .val (.long d0), .second, .val (.long d1), .second, .val (.long d2), .second, .val (.ref a3), .val (.ref a4), .val (.ref o), .val (.long (d0 ||| (own_lshl d1 (Int32.ofNat k0)))), .second, .val (.long d2), .second] [(.long (own_packed (own_x (own_three s0 s1 s2) (own_three l0 l1 l2) (own_threeN k0 k1 k2)) (own_threeN k0 k1 k2) (own_pairL x5 (x5 ^^^ (-1 : Int64))) 1))]) _
    refine ownGo.st (fun _ k => XS.lload X386.here hx rfl (hb hby at_321) rfl k) ?_
    show ownGo p.tables e below T386 (mkF m 323 #[.val (.long x0), .second, .val (.long x1), .second, .val (.long x2), .second, .val (.long x3), .second, .val (.long x4), .second, .val (.long x5), .second, .val (.int (Int32.ofNat k0)), .val (.int (Int32.ofNat k1)), .val (.int (Int32.ofNat k2)), .val (.long (own_mk k0)), .second, .val (.long (own_mk k1)), .second, .val (.long (own_mk k2)), .second, .val (.int l0), .val (.int l1), .val (.int l2), .val (.ref a1), .val (.ref a2), .val (.long d0), .second, .val (.long d1), .second, .val (.long d2), .second, .val (.ref a3), .val (.ref a4), .val (.ref o), .val (.long (d0 ||| (own_lshl d1 (Int32.ofNat k0)))), .second, .val (.long d2), .second] [(.long d2), (.long (own_packed (own_x (own_three s0 s1 s2) (own_three l0 l1 l2) (own_threeN k0 k1 k2)) (own_threeN k0 k1 k2) (own_pairL x5 (x5 ^^^ (-1 : Int64))) 1))]) _
    refine ownGo.st (fun _ k => XS.lcmp X386.here hx rfl (hb hby at_323) rfl k) ?_
    show ownGo p.tables e below T386 (mkF m 324 #[.val (.long x0), .second, .val (.long x1), .second, .val (.long x2), .second, .val (.long x3), .second, .val (.long x4), .second, .val (.long x5), .second, .val (.int (Int32.ofNat k0)), .val (.int (Int32.ofNat k1)), .val (.int (Int32.ofNat k2)), .val (.long (own_mk k0)), .second, .val (.long (own_mk k1)), .second, .val (.long (own_mk k2)), .second, .val (.int l0), .val (.int l1), .val (.int l2), .val (.ref a1), .val (.ref a2), .val (.long d0), .second, .val (.long d1), .second, .val (.long d2), .second, .val (.ref a3), .val (.ref a4), .val (.ref o), .val (.long (d0 ||| (own_lshl d1 (Int32.ofNat k0)))), .second, .val (.long d2), .second] [(.int (lcmpW (own_packed (own_x (own_three s0 s1 s2) (own_three l0 l1 l2) (own_threeN k0 k1 k2)) (own_threeN k0 k1 k2) (own_pairL x5 (x5 ^^^ (-1 : Int64))) 1) d2))]) _
    have hc388 : (own_packed (own_x (own_three s0 s1 s2) (own_three l0 l1 l2) (own_threeN k0 k1 k2)) (own_threeN k0 k1 k2) (own_pairL x5 (x5 ^^^ (-1 : Int64))) 1) = d2 := fA.2
    refine ownGo.st (fun _ k => XS.ifNo X386.here hx rfl (hb hby at_324) rfl ((if0 _ _).trans (teq ((lw_eq _ _).mpr hc388)).2) k) ?_
    show ownGo p.tables e below T386 (mkF m 327 #[.val (.long x0), .second, .val (.long x1), .second, .val (.long x2), .second, .val (.long x3), .second, .val (.long x4), .second, .val (.long x5), .second, .val (.int (Int32.ofNat k0)), .val (.int (Int32.ofNat k1)), .val (.int (Int32.ofNat k2)), .val (.long (own_mk k0)), .second, .val (.long (own_mk k1)), .second, .val (.long (own_mk k2)), .second, .val (.int l0), .val (.int l1), .val (.int l2), .val (.ref a1), .val (.ref a2), .val (.long d0), .second, .val (.long d1), .second, .val (.long d2), .second, .val (.ref a3), .val (.ref a4), .val (.ref o), .val (.long (d0 ||| (own_lshl d1 (Int32.ofNat k0)))), .second, .val (.long d2), .second] []) _
    refine ownGo.st (fun _ k => XS.iconst X386.here hx rfl (hb hby at_327)  k) ?_
    show ownGo p.tables e below T386 (mkF m 328 #[.val (.long x0), .second, .val (.long x1), .second, .val (.long x2), .second, .val (.long x3), .second, .val (.long x4), .second, .val (.long x5), .second, .val (.int (Int32.ofNat k0)), .val (.int (Int32.ofNat k1)), .val (.int (Int32.ofNat k2)), .val (.long (own_mk k0)), .second, .val (.long (own_mk k1)), .second, .val (.long (own_mk k2)), .second, .val (.int l0), .val (.int l1), .val (.int l2), .val (.ref a1), .val (.ref a2), .val (.long d0), .second, .val (.long d1), .second, .val (.long d2), .second, .val (.ref a3), .val (.ref a4), .val (.ref o), .val (.long (d0 ||| (own_lshl d1 (Int32.ofNat k0)))), .second, .val (.long d2), .second] [(.int (1 : Int32))]) _
    refine ownGo.st (fun _ k => XS.goto X386.here hx rfl (pc0 := 328) (pc' := 332) rfl (hb hby at_328) (by decide) (by decide) k) ?_
    show ownGo p.tables e below T386 (mkF m 332 #[.val (.long x0), .second, .val (.long x1), .second, .val (.long x2), .second, .val (.long x3), .second, .val (.long x4), .second, .val (.long x5), .second, .val (.int (Int32.ofNat k0)), .val (.int (Int32.ofNat k1)), .val (.int (Int32.ofNat k2)), .val (.long (own_mk k0)), .second, .val (.long (own_mk k1)), .second, .val (.long (own_mk k2)), .second, .val (.int l0), .val (.int l1), .val (.int l2), .val (.ref a1), .val (.ref a2), .val (.long d0), .second, .val (.long d1), .second, .val (.long d2), .second, .val (.ref a3), .val (.ref a4), .val (.ref o), .val (.long (d0 ||| (own_lshl d1 (Int32.ofNat k0)))), .second, .val (.long d2), .second] [(.int (1 : Int32))]) _
    exact own_retZ X386 hx hlk hret (hb hby at_332) (Or.inr rfl) ⟨rfl, N386⟩ (by decide) (by decide)
  · refine ownGo.st (fun _ k => XS.icmpNo X386.here hx rfl (hb hby at_260) rfl (flt hS).2.2.1 k) ?_
    show ownGo p.tables e below T386 (mkF m 263 #[.val (.long x0), .second, .val (.long x1), .second, .val (.long x2), .second, .val (.long x3), .second, .val (.long x4), .second, .val (.long x5), .second, .val (.int (Int32.ofNat k0)), .val (.int (Int32.ofNat k1)), .val (.int (Int32.ofNat k2)), .val (.long (own_mk k0)), .second, .val (.long (own_mk k1)), .second, .val (.long (own_mk k2)), .second, .val (.int l0), .val (.int l1), .val (.int l2), .val (.ref a1), .val (.ref a2), .val (.long d0), .second, .val (.long d1), .second, .val (.long d2), .second, .val (.ref a3), .val (.ref a4), .val (.ref o), .unset, .unset, .unset, .unset] []) _
    have fB := fin.1 (Nat.le_of_not_lt fun y => hS ((own_lt_iff (a := 64) (by decide) (by omega)).mpr y))
    refine ownGo.st (fun _ k => XS.lload X386.here hx rfl (hb hby at_263) rfl k) ?_
    show ownGo p.tables e below T386 (mkF m 265 #[.val (.long x0), .second, .val (.long x1), .second, .val (.long x2), .second, .val (.long x3), .second, .val (.long x4), .second, .val (.long x5), .second, .val (.int (Int32.ofNat k0)), .val (.int (Int32.ofNat k1)), .val (.int (Int32.ofNat k2)), .val (.long (own_mk k0)), .second, .val (.long (own_mk k1)), .second, .val (.long (own_mk k2)), .second, .val (.int l0), .val (.int l1), .val (.int l2), .val (.ref a1), .val (.ref a2), .val (.long d0), .second, .val (.long d1), .second, .val (.long d2), .second, .val (.ref a3), .val (.ref a4), .val (.ref o), .unset, .unset, .unset, .unset] [(.long d0)]) _
    refine ownGo.st (fun _ k => XS.lload X386.here hx rfl (hb hby at_265) rfl k) ?_
    show ownGo p.tables e below T386 (mkF m 267 #[.val (.long x0), .second, .val (.long x1), .second, .val (.long x2), .second, .val (.long x3), .second, .val (.long x4), .second, .val (.long x5), .second, .val (.int (Int32.ofNat k0)), .val (.int (Int32.ofNat k1)), .val (.int (Int32.ofNat k2)), .val (.long (own_mk k0)), .second, .val (.long (own_mk k1)), .second, .val (.long (own_mk k2)), .second, .val (.int l0), .val (.int l1), .val (.int l2), .val (.ref a1), .val (.ref a2), .val (.long d0), .second, .val (.long d1), .second, .val (.long d2), .second, .val (.ref a3), .val (.ref a4), .val (.ref o), .unset, .unset, .unset, .unset] [(.long d1), (.long d0)]) _
    refine ownGo.st (fun _ k => XS.iload X386.here hx rfl (hb hby at_267) rfl k) ?_
    show ownGo p.tables e below T386 (mkF m 269 #[.val (.long x0), .second, .val (.long x1), .second, .val (.long x2), .second, .val (.long x3), .second, .val (.long x4), .second, .val (.long x5), .second, .val (.int (Int32.ofNat k0)), .val (.int (Int32.ofNat k1)), .val (.int (Int32.ofNat k2)), .val (.long (own_mk k0)), .second, .val (.long (own_mk k1)), .second, .val (.long (own_mk k2)), .second, .val (.int l0), .val (.int l1), .val (.int l2), .val (.ref a1), .val (.ref a2), .val (.long d0), .second, .val (.long d1), .second, .val (.long d2), .second, .val (.ref a3), .val (.ref a4), .val (.ref o), .unset, .unset, .unset, .unset] [(.int (Int32.ofNat k0)), (.long d1), (.long d0)]) _
    refine ownGo.st (fun _ k => XS.lshl X386.here hx rfl (hb hby at_269) rfl k) ?_
    show ownGo p.tables e below T386 (mkF m 270 #[.val (.long x0), .second, .val (.long x1), .second, .val (.long x2), .second, .val (.long x3), .second, .val (.long x4), .second, .val (.long x5), .second, .val (.int (Int32.ofNat k0)), .val (.int (Int32.ofNat k1)), .val (.int (Int32.ofNat k2)), .val (.long (own_mk k0)), .second, .val (.long (own_mk k1)), .second, .val (.long (own_mk k2)), .second, .val (.int l0), .val (.int l1), .val (.int l2), .val (.ref a1), .val (.ref a2), .val (.long d0), .second, .val (.long d1), .second, .val (.long d2), .second, .val (.ref a3), .val (.ref a4), .val (.ref o), .unset, .unset, .unset, .unset] [(.long (own_lshl d1 (Int32.ofNat k0))), (.long d0)]) _
    refine ownGo.st (fun _ k => XS.lor X386.here hx rfl (hb hby at_270) rfl k) ?_
    show ownGo p.tables e below T386 (mkF m 271 #[.val (.long x0), .second, .val (.long x1), .second, .val (.long x2), .second, .val (.long x3), .second, .val (.long x4), .second, .val (.long x5), .second, .val (.int (Int32.ofNat k0)), .val (.int (Int32.ofNat k1)), .val (.int (Int32.ofNat k2)), .val (.long (own_mk k0)), .second, .val (.long (own_mk k1)), .second, .val (.long (own_mk k2)), .second, .val (.int l0), .val (.int l1), .val (.int l2), .val (.ref a1), .val (.ref a2), .val (.long d0), .second, .val (.long d1), .second, .val (.long d2), .second, .val (.ref a3), .val (.ref a4), .val (.ref o), .unset, .unset, .unset, .unset] [(.long (d0 ||| (own_lshl d1 (Int32.ofNat k0))))]) _
    refine ownGo.st (fun _ k => XS.lload X386.here hx rfl (hb hby at_271) rfl k) ?_
    show ownGo p.tables e below T386 (mkF m 273 #[.val (.long x0), .second, .val (.long x1), .second, .val (.long x2), .second, .val (.long x3), .second, .val (.long x4), .second, .val (.long x5), .second, .val (.int (Int32.ofNat k0)), .val (.int (Int32.ofNat k1)), .val (.int (Int32.ofNat k2)), .val (.long (own_mk k0)), .second, .val (.long (own_mk k1)), .second, .val (.long (own_mk k2)), .second, .val (.int l0), .val (.int l1), .val (.int l2), .val (.ref a1), .val (.ref a2), .val (.long d0), .second, .val (.long d1), .second, .val (.long d2), .second, .val (.ref a3), .val (.ref a4), .val (.ref o), .unset, .unset, .unset, .unset] [(.long d2), (.long (d0 ||| (own_lshl d1 (Int32.ofNat k0))))]) _
    refine ownGo.st (fun _ k => XS.iload X386.here hx rfl (hb hby at_273) rfl k) ?_
    show ownGo p.tables e below T386 (mkF m 275 #[.val (.long x0), .second, .val (.long x1), .second, .val (.long x2), .second, .val (.long x3), .second, .val (.long x4), .second, .val (.long x5), .second, .val (.int (Int32.ofNat k0)), .val (.int (Int32.ofNat k1)), .val (.int (Int32.ofNat k2)), .val (.long (own_mk k0)), .second, .val (.long (own_mk k1)), .second, .val (.long (own_mk k2)), .second, .val (.int l0), .val (.int l1), .val (.int l2), .val (.ref a1), .val (.ref a2), .val (.long d0), .second, .val (.long d1), .second, .val (.long d2), .second, .val (.ref a3), .val (.ref a4), .val (.ref o), .unset, .unset, .unset, .unset] [(.int (Int32.ofNat k0)), (.long d2), (.long (d0 ||| (own_lshl d1 (Int32.ofNat k0))))]) _
    refine ownGo.st (fun _ k => XS.iload X386.here hx rfl (hb hby at_275) rfl k) ?_
    show ownGo p.tables e below T386 (mkF m 277 #[.val (.long x0), .second, .val (.long x1), .second, .val (.long x2), .second, .val (.long x3), .second, .val (.long x4), .second, .val (.long x5), .second, .val (.int (Int32.ofNat k0)), .val (.int (Int32.ofNat k1)), .val (.int (Int32.ofNat k2)), .val (.long (own_mk k0)), .second, .val (.long (own_mk k1)), .second, .val (.long (own_mk k2)), .second, .val (.int l0), .val (.int l1), .val (.int l2), .val (.ref a1), .val (.ref a2), .val (.long d0), .second, .val (.long d1), .second, .val (.long d2), .second, .val (.ref a3), .val (.ref a4), .val (.ref o), .unset, .unset, .unset, .unset] [(.int (Int32.ofNat k1)), (.int (Int32.ofNat k0)), (.long d2), (.long (d0 ||| (own_lshl d1 (Int32.ofNat k0))))]) _
    refine ownGo.st (fun _ k => XS.iadd X386.here hx rfl (hb hby at_277) rfl k) ?_
    show ownGo p.tables e below T386 (mkF m 278 #[.val (.long x0), .second, .val (.long x1), .second, .val (.long x2), .second, .val (.long x3), .second, .val (.long x4), .second, .val (.long x5), .second, .val (.int (Int32.ofNat k0)), .val (.int (Int32.ofNat k1)), .val (.int (Int32.ofNat k2)), .val (.long (own_mk k0)), .second, .val (.long (own_mk k1)), .second, .val (.long (own_mk k2)), .second, .val (.int l0), .val (.int l1), .val (.int l2), .val (.ref a1), .val (.ref a2), .val (.long d0), .second, .val (.long d1), .second, .val (.long d2), .second, .val (.ref a3), .val (.ref a4), .val (.ref o), .unset, .unset, .unset, .unset] [(.int ((Int32.ofNat k0) + (Int32.ofNat k1))), (.long d2), (.long (d0 ||| (own_lshl d1 (Int32.ofNat k0))))]) _
    refine ownGo.st (fun _ k => XS.lshl X386.here hx rfl (hb hby at_278) rfl k) ?_
    show ownGo p.tables e below T386 (mkF m 279 #[.val (.long x0), .second, .val (.long x1), .second, .val (.long x2), .second, .val (.long x3), .second, .val (.long x4), .second, .val (.long x5), .second, .val (.int (Int32.ofNat k0)), .val (.int (Int32.ofNat k1)), .val (.int (Int32.ofNat k2)), .val (.long (own_mk k0)), .second, .val (.long (own_mk k1)), .second, .val (.long (own_mk k2)), .second, .val (.int l0), .val (.int l1), .val (.int l2), .val (.ref a1), .val (.ref a2), .val (.long d0), .second, .val (.long d1), .second, .val (.long d2), .second, .val (.ref a3), .val (.ref a4), .val (.ref o), .unset, .unset, .unset, .unset] [(.long (own_lshl d2 ((Int32.ofNat k0) + (Int32.ofNat k1)))), (.long (d0 ||| (own_lshl d1 (Int32.ofNat k0))))]) _
    refine ownGo.st (fun _ k => XS.lor X386.here hx rfl (hb hby at_279) rfl k) ?_
    show ownGo p.tables e below T386 (mkF m 280 #[.val (.long x0), .second, .val (.long x1), .second, .val (.long x2), .second, .val (.long x3), .second, .val (.long x4), .second, .val (.long x5), .second, .val (.int (Int32.ofNat k0)), .val (.int (Int32.ofNat k1)), .val (.int (Int32.ofNat k2)), .val (.long (own_mk k0)), .second, .val (.long (own_mk k1)), .second, .val (.long (own_mk k2)), .second, .val (.int l0), .val (.int l1), .val (.int l2), .val (.ref a1), .val (.ref a2), .val (.long d0), .second, .val (.long d1), .second, .val (.long d2), .second, .val (.ref a3), .val (.ref a4), .val (.ref o), .unset, .unset, .unset, .unset] [(.long ((d0 ||| (own_lshl d1 (Int32.ofNat k0))) ||| (own_lshl d2 ((Int32.ofNat k0) + (Int32.ofNat k1)))))]) _
    refine ownGo.st (fun _ k => XS.lstore X386.here hx rfl (hb hby at_280) rfl (l' := #[.val (.long x0), .second, .val (.long x1), .second, .val (.long x2), .second, .val (.long x3), .second, .val (.long x4), .second, .val (.long x5), .second, .val (.int (Int32.ofNat k0)), .val (.int (Int32.ofNat k1)), .val (.int (Int32.ofNat k2)), .val (.long (own_mk k0)), .second, .val (.long (own_mk k1)), .second, .val (.long (own_mk k2)), .second, .val (.int l0), .val (.int l1), .val (.int l2), .val (.ref a1), .val (.ref a2), .val (.long d0), .second, .val (.long d1), .second, .val (.long d2), .second, .val (.ref a3), .val (.ref a4), .val (.ref o), .val (.long ((d0 ||| (own_lshl d1 (Int32.ofNat k0))) ||| (own_lshl d2 ((Int32.ofNat k0) + (Int32.ofNat k1))))), .second, .unset, .unset]) rfl k) ?_
    show ownGo p.tables e below T386 (mkF m 282 #[.val (.long x0), .second, .val (.long x1), .second, .val (.long x2), .second, .val (.long x3), .second, .val (.long x4), .second, .val (.long x5), .second, .val (.int (Int32.ofNat k0)), .val (.int (Int32.ofNat k1)), .val (.int (Int32.ofNat k2)), .val (.long (own_mk k0)), .second, .val (.long (own_mk k1)), .second, .val (.long (own_mk k2)), .second, .val (.int l0), .val (.int l1), .val (.int l2), .val (.ref a1), .val (.ref a2), .val (.long d0), .second, .val (.long d1), .second, .val (.long d2), .second, .val (.ref a3), .val (.ref a4), .val (.ref o), .val (.long ((d0 ||| (own_lshl d1 (Int32.ofNat k0))) ||| (own_lshl d2 ((Int32.ofNat k0) + (Int32.ofNat k1))))), .second, .unset, .unset] []) _
    refine ownGo.st (fun _ k => XS.lload X386.here hx rfl (hb hby at_282) rfl k) ?_
    show ownGo p.tables e below T386 (mkF m 284 #[.val (.long x0), .second, .val (.long x1), .second, .val (.long x2), .second, .val (.long x3), .second, .val (.long x4), .second, .val (.long x5), .second, .val (.int (Int32.ofNat k0)), .val (.int (Int32.ofNat k1)), .val (.int (Int32.ofNat k2)), .val (.long (own_mk k0)), .second, .val (.long (own_mk k1)), .second, .val (.long (own_mk k2)), .second, .val (.int l0), .val (.int l1), .val (.int l2), .val (.ref a1), .val (.ref a2), .val (.long d0), .second, .val (.long d1), .second, .val (.long d2), .second, .val (.ref a3), .val (.ref a4), .val (.ref o), .val (.long ((d0 ||| (own_lshl d1 (Int32.ofNat k0))) ||| (own_lshl d2 ((Int32.ofNat k0) + (Int32.ofNat k1))))), .second, .unset, .unset] [(.long x5)]) _
    refine ownGo.st (X386.ldc2Long hx hown (mvT hZ (own_at hw 20 rfl)) (g := (mkF m 284 #[.val (.long x0), .second, .val (.long x1), .second, .val (.long x2), .second, .val (.long x3), .second, .val (.long x4), .second, .val (.long x5), .second, .val (.int (Int32.ofNat k0)), .val (.int (Int32.ofNat k1)), .val (.int (Int32.ofNat k2)), .val (.long (own_mk k0)), .second, .val (.long (own_mk k1)), .second, .val (.long (own_mk k2)), .second, .val (.int l0), .val (.int l1), .val (.int l2), .val (.ref a1), .val (.ref a2), .val (.long d0), .second, .val (.long d1), .second, .val (.long d2), .second, .val (.ref a3), .val (.ref a4), .val (.ref o), .val (.long ((d0 ||| (own_lshl d1 (Int32.ofNat k0))) ||| (own_lshl d2 ((Int32.ofNat k0) + (Int32.ofNat k1))))), .second, .unset, .unset] [(.long x5)])) rfl (hb hby at_284)) ?_
    show ownGo p.tables e below T386 (mkF m 287 #[.val (.long x0), .second, .val (.long x1), .second, .val (.long x2), .second, .val (.long x3), .second, .val (.long x4), .second, .val (.long x5), .second, .val (.int (Int32.ofNat k0)), .val (.int (Int32.ofNat k1)), .val (.int (Int32.ofNat k2)), .val (.long (own_mk k0)), .second, .val (.long (own_mk k1)), .second, .val (.long (own_mk k2)), .second, .val (.int l0), .val (.int l1), .val (.int l2), .val (.ref a1), .val (.ref a2), .val (.long d0), .second, .val (.long d1), .second, .val (.long d2), .second, .val (.ref a3), .val (.ref a4), .val (.ref o), .val (.long ((d0 ||| (own_lshl d1 (Int32.ofNat k0))) ||| (own_lshl d2 ((Int32.ofNat k0) + (Int32.ofNat k1))))), .second, .unset, .unset] [(.long (-1 : Int64)), (.long x5)]) _
    refine ownGo.st (fun _ k => XS.lxor X386.here hx rfl (hb hby at_287) rfl k) ?_
    show ownGo p.tables e below T386 (mkF m 288 #[.val (.long x0), .second, .val (.long x1), .second, .val (.long x2), .second, .val (.long x3), .second, .val (.long x4), .second, .val (.long x5), .second, .val (.int (Int32.ofNat k0)), .val (.int (Int32.ofNat k1)), .val (.int (Int32.ofNat k2)), .val (.long (own_mk k0)), .second, .val (.long (own_mk k1)), .second, .val (.long (own_mk k2)), .second, .val (.int l0), .val (.int l1), .val (.int l2), .val (.ref a1), .val (.ref a2), .val (.long d0), .second, .val (.long d1), .second, .val (.long d2), .second, .val (.ref a3), .val (.ref a4), .val (.ref o), .val (.long ((d0 ||| (own_lshl d1 (Int32.ofNat k0))) ||| (own_lshl d2 ((Int32.ofNat k0) + (Int32.ofNat k1))))), .second, .unset, .unset] [(.long (x5 ^^^ (-1 : Int64)))]) _
    refine ownGo.st (fun _ k => XS.lstore X386.here hx rfl (hb hby at_288) rfl (l' := #[.val (.long x0), .second, .val (.long x1), .second, .val (.long x2), .second, .val (.long x3), .second, .val (.long x4), .second, .val (.long x5), .second, .val (.int (Int32.ofNat k0)), .val (.int (Int32.ofNat k1)), .val (.int (Int32.ofNat k2)), .val (.long (own_mk k0)), .second, .val (.long (own_mk k1)), .second, .val (.long (own_mk k2)), .second, .val (.int l0), .val (.int l1), .val (.int l2), .val (.ref a1), .val (.ref a2), .val (.long d0), .second, .val (.long d1), .second, .val (.long d2), .second, .val (.ref a3), .val (.ref a4), .val (.ref o), .val (.long ((d0 ||| (own_lshl d1 (Int32.ofNat k0))) ||| (own_lshl d2 ((Int32.ofNat k0) + (Int32.ofNat k1))))), .second, .val (.long (x5 ^^^ (-1 : Int64))), .second]) rfl k) ?_
    show ownGo p.tables e below T386 (mkF m 290 #[.val (.long x0), .second, .val (.long x1), .second, .val (.long x2), .second, .val (.long x3), .second, .val (.long x4), .second, .val (.long x5), .second, .val (.int (Int32.ofNat k0)), .val (.int (Int32.ofNat k1)), .val (.int (Int32.ofNat k2)), .val (.long (own_mk k0)), .second, .val (.long (own_mk k1)), .second, .val (.long (own_mk k2)), .second, .val (.int l0), .val (.int l1), .val (.int l2), .val (.ref a1), .val (.ref a2), .val (.long d0), .second, .val (.long d1), .second, .val (.long d2), .second, .val (.ref a3), .val (.ref a4), .val (.ref o), .val (.long ((d0 ||| (own_lshl d1 (Int32.ofNat k0))) ||| (own_lshl d2 ((Int32.ofNat k0) + (Int32.ofNat k1))))), .second, .val (.long (x5 ^^^ (-1 : Int64))), .second] []) _
    refine ownGo.st (fun _ k => XS.goto X386.here hx rfl (pc0 := 290) (pc' := 307) rfl (hb hby at_290) (by decide) (by decide) k) ?_
    show ownGo p.tables e below T386 (mkF m 307 #[.val (.long x0), .second, .val (.long x1), .second, .val (.long x2), .second, .val (.long x3), .second, .val (.long x4), .second, .val (.long x5), .second, .val (.int (Int32.ofNat k0)), .val (.int (Int32.ofNat k1)), .val (.int (Int32.ofNat k2)), .val (.long (own_mk k0)), .second, .val (.long (own_mk k1)), .second, .val (.long (own_mk k2)), .second, .val (.int l0), .val (.int l1), .val (.int l2), .val (.ref a1), .val (.ref a2), .val (.long d0), .second, .val (.long d1), .second, .val (.long d2), .second, .val (.ref a3), .val (.ref a4), .val (.ref o), .val (.long ((d0 ||| (own_lshl d1 (Int32.ofNat k0))) ||| (own_lshl d2 ((Int32.ofNat k0) + (Int32.ofNat k1))))), .second, .val (.long (x5 ^^^ (-1 : Int64))), .second] []) _
    refine ownGo.st (fun _ k => XS.aload X386.here hx rfl (hb hby at_307) rfl rfl k) ?_
    show ownGo p.tables e below T386 (mkF m 309 #[.val (.long x0), .second, .val (.long x1), .second, .val (.long x2), .second, .val (.long x3), .second, .val (.long x4), .second, .val (.long x5), .second, .val (.int (Int32.ofNat k0)), .val (.int (Int32.ofNat k1)), .val (.int (Int32.ofNat k2)), .val (.long (own_mk k0)), .second, .val (.long (own_mk k1)), .second, .val (.long (own_mk k2)), .second, .val (.int l0), .val (.int l1), .val (.int l2), .val (.ref a1), .val (.ref a2), .val (.long d0), .second, .val (.long d1), .second, .val (.long d2), .second, .val (.ref a3), .val (.ref a4), .val (.ref o), .val (.long ((d0 ||| (own_lshl d1 (Int32.ofNat k0))) ||| (own_lshl d2 ((Int32.ofNat k0) + (Int32.ofNat k1))))), .second, .val (.long (x5 ^^^ (-1 : Int64))), .second] [(.ref a4)]) _
    refine ownGo.st (fun _ k => XS.iconst X386.here hx rfl (hb hby at_309)  k) ?_
    show ownGo p.tables e below T386 (mkF m 310 #[.val (.long x0), .second, .val (.long x1), .second, .val (.long x2), .second, .val (.long x3), .second, .val (.long x4), .second, .val (.long x5), .second, .val (.int (Int32.ofNat k0)), .val (.int (Int32.ofNat k1)), .val (.int (Int32.ofNat k2)), .val (.long (own_mk k0)), .second, .val (.long (own_mk k1)), .second, .val (.long (own_mk k2)), .second, .val (.int l0), .val (.int l1), .val (.int l2), .val (.ref a1), .val (.ref a2), .val (.long d0), .second, .val (.long d1), .second, .val (.long d2), .second, .val (.ref a3), .val (.ref a4), .val (.ref o), .val (.long ((d0 ||| (own_lshl d1 (Int32.ofNat k0))) ||| (own_lshl d2 ((Int32.ofNat k0) + (Int32.ofNat k1))))), .second, .val (.long (x5 ^^^ (-1 : Int64))), .second] [(.int (0 : Int32)), (.ref a4)]) _
    refine ownGo.st (own_laload X386 hx hZ rfl Vp (i := 0) (v := (own_packed (own_x (own_three s0 s1 s2) (own_three l0 l1 l2) (own_threeN k0 k1 k2)) (own_threeN k0 k1 k2) (own_pairL x5 (x5 ^^^ (-1 : Int64))) 0)) rfl (by decide) rfl (g := (mkF m 310 #[.val (.long x0), .second, .val (.long x1), .second, .val (.long x2), .second, .val (.long x3), .second, .val (.long x4), .second, .val (.long x5), .second, .val (.int (Int32.ofNat k0)), .val (.int (Int32.ofNat k1)), .val (.int (Int32.ofNat k2)), .val (.long (own_mk k0)), .second, .val (.long (own_mk k1)), .second, .val (.long (own_mk k2)), .second, .val (.int l0), .val (.int l1), .val (.int l2), .val (.ref a1), .val (.ref a2), .val (.long d0), .second, .val (.long d1), .second, .val (.long d2), .second, .val (.ref a3), .val (.ref a4), .val (.ref o), .val (.long ((d0 ||| (own_lshl d1 (Int32.ofNat k0))) ||| (own_lshl d2 ((Int32.ofNat k0) + (Int32.ofNat k1))))), .second, .val (.long (x5 ^^^ (-1 : Int64))), .second] [(.int (0 : Int32)), (.ref a4)])) rfl rfl (hb hby at_310)) ?_
    show ownGo p.tables e below T386 (mkF m 311 #[.val (.long x0), .second, .val (.long x1), .second, .val (.long x2), .second, .val (.long x3), .second, .val (.long x4), .second, .val (.long x5), .second, .val (.int (Int32.ofNat k0)), .val (.int (Int32.ofNat k1)), .val (.int (Int32.ofNat k2)), .val (.long (own_mk k0)), .second, .val (.long (own_mk k1)), .second, .val (.long (own_mk k2)), .second, .val (.int l0), .val (.int l1), .val (.int l2), .val (.ref a1), .val (.ref a2), .val (.long d0), .second, .val (.long d1), .second, .val (.long d2), .second, .val (.ref a3), .val (.ref a4), .val (.ref o), .val (.long ((d0 ||| (own_lshl d1 (Int32.ofNat k0))) ||| (own_lshl d2 ((Int32.ofNat k0) + (Int32.ofNat k1))))), .second, .val (.long (x5 ^^^ (-1 : Int64))), .second] [(.long (own_packed (own_x (own_three s0 s1 s2) (own_three l0 l1 l2) (own_threeN k0 k1 k2)) (own_threeN k0 k1 k2) (own_pairL x5 (x5 ^^^ (-1 : Int64))) 0))]) _
    refine ownGo.st (fun _ k => XS.lload X386.here hx rfl (hb hby at_311) rfl k) ?_
    show ownGo p.tables e below T386 (mkF m 313 #[.val (.long x0), .second, .val (.long x1), .second, .val (.long x2), .second, .val (.long x3), .second, .val (.long x4), .second, .val (.long x5), .second, .val (.int (Int32.ofNat k0)), .val (.int (Int32.ofNat k1)), .val (.int (Int32.ofNat k2)), .val (.long (own_mk k0)), .second, .val (.long (own_mk k1)), .second, .val (.long (own_mk k2)), .second, .val (.int l0), .val (.int l1), .val (.int l2), .val (.ref a1), .val (.ref a2), .val (.long d0), .second, .val (.long d1), .second, .val (.long d2), .second, .val (.ref a3), .val (.ref a4), .val (.ref o), .val (.long ((d0 ||| (own_lshl d1 (Int32.ofNat k0))) ||| (own_lshl d2 ((Int32.ofNat k0) + (Int32.ofNat k1))))), .second, .val (.long (x5 ^^^ (-1 : Int64))), .second] [(.long ((d0 ||| (own_lshl d1 (Int32.ofNat k0))) ||| (own_lshl d2 ((Int32.ofNat k0) + (Int32.ofNat k1))))), (.long (own_packed (own_x (own_three s0 s1 s2) (own_three l0 l1 l2) (own_threeN k0 k1 k2)) (own_threeN k0 k1 k2) (own_pairL x5 (x5 ^^^ (-1 : Int64))) 0))]) _
    refine ownGo.st (fun _ k => XS.lcmp X386.here hx rfl (hb hby at_313) rfl k) ?_
    show ownGo p.tables e below T386 (mkF m 314 #[.val (.long x0), .second, .val (.long x1), .second, .val (.long x2), .second, .val (.long x3), .second, .val (.long x4), .second, .val (.long x5), .second, .val (.int (Int32.ofNat k0)), .val (.int (Int32.ofNat k1)), .val (.int (Int32.ofNat k2)), .val (.long (own_mk k0)), .second, .val (.long (own_mk k1)), .second, .val (.long (own_mk k2)), .second, .val (.int l0), .val (.int l1), .val (.int l2), .val (.ref a1), .val (.ref a2), .val (.long d0), .second, .val (.long d1), .second, .val (.long d2), .second, .val (.ref a3), .val (.ref a4), .val (.ref o), .val (.long ((d0 ||| (own_lshl d1 (Int32.ofNat k0))) ||| (own_lshl d2 ((Int32.ofNat k0) + (Int32.ofNat k1))))), .second, .val (.long (x5 ^^^ (-1 : Int64))), .second] [(.int (lcmpW (own_packed (own_x (own_three s0 s1 s2) (own_three l0 l1 l2) (own_threeN k0 k1 k2)) (own_threeN k0 k1 k2) (own_pairL x5 (x5 ^^^ (-1 : Int64))) 0) ((d0 ||| (own_lshl d1 (Int32.ofNat k0))) ||| (own_lshl d2 ((Int32.ofNat k0) + (Int32.ofNat k1))))))]) _
    have hc389 : (own_packed (own_x (own_three s0 s1 s2) (own_three l0 l1 l2) (own_threeN k0 k1 k2)) (own_threeN k0 k1 k2) (own_pairL x5 (x5 ^^^ (-1 : Int64))) 0) = ((d0 ||| (own_lshl d1 (Int32.ofNat k0))) ||| (own_lshl d2 ((Int32.ofNat k0) + (Int32.ofNat k1)))) := fB.1
    refine ownGo.st (fun _ k => XS.ifNo X386.here hx rfl (hb hby at_314) rfl ((if0 _ _).trans (teq ((lw_eq _ _).mpr hc389)).2) k) ?_
    show ownGo p.tables e below T386 (mkF m 317 #[.val (.long x0), .second, .val (.long x1), .second, .val (.long x2), .second, .val (.long x3), .second, .val (.long x4), .second, .val (.long x5), .second, .val (.int (Int32.ofNat k0)), .val (.int (Int32.ofNat k1)), .val (.int (Int32.ofNat k2)), .val (.long (own_mk k0)), .second, .val (.long (own_mk k1)), .second, .val (.long (own_mk k2)), .second, .val (.int l0), .val (.int l1), .val (.int l2), .val (.ref a1), .val (.ref a2), .val (.long d0), .second, .val (.long d1), .second, .val (.long d2), .second, .val (.ref a3), .val (.ref a4), .val (.ref o), .val (.long ((d0 ||| (own_lshl d1 (Int32.ofNat k0))) ||| (own_lshl d2 ((Int32.ofNat k0) + (Int32.ofNat k1))))), .second, .val (.long (x5 ^^^ (-1 : Int64))), .second] []) _
    refine ownGo.st (fun _ k => XS.aload X386.here hx rfl (hb hby at_317) rfl rfl k) ?_
    show ownGo p.tables e below T386 (mkF m 319 #[.val (.long x0), .second, .val (.long x1), .second, .val (.long x2), .second, .val (.long x3), .second, .val (.long x4), .second, .val (.long x5), .second, .val (.int (Int32.ofNat k0)), .val (.int (Int32.ofNat k1)), .val (.int (Int32.ofNat k2)), .val (.long (own_mk k0)), .second, .val (.long (own_mk k1)), .second, .val (.long (own_mk k2)), .second, .val (.int l0), .val (.int l1), .val (.int l2), .val (.ref a1), .val (.ref a2), .val (.long d0), .second, .val (.long d1), .second, .val (.long d2), .second, .val (.ref a3), .val (.ref a4), .val (.ref o), .val (.long ((d0 ||| (own_lshl d1 (Int32.ofNat k0))) ||| (own_lshl d2 ((Int32.ofNat k0) + (Int32.ofNat k1))))), .second, .val (.long (x5 ^^^ (-1 : Int64))), .second] [(.ref a4)]) _
    refine ownGo.st (fun _ k => XS.iconst X386.here hx rfl (hb hby at_319)  k) ?_
    show ownGo p.tables e below T386 (mkF m 320 #[.val (.long x0), .second, .val (.long x1), .second, .val (.long x2), .second, .val (.long x3), .second, .val (.long x4), .second, .val (.long x5), .second, .val (.int (Int32.ofNat k0)), .val (.int (Int32.ofNat k1)), .val (.int (Int32.ofNat k2)), .val (.long (own_mk k0)), .second, .val (.long (own_mk k1)), .second, .val (.long (own_mk k2)), .second, .val (.int l0), .val (.int l1), .val (.int l2), .val (.ref a1), .val (.ref a2), .val (.long d0), .second, .val (.long d1), .second, .val (.long d2), .second, .val (.ref a3), .val (.ref a4), .val (.ref o), .val (.long ((d0 ||| (own_lshl d1 (Int32.ofNat k0))) ||| (own_lshl d2 ((Int32.ofNat k0) + (Int32.ofNat k1))))), .second, .val (.long (x5 ^^^ (-1 : Int64))), .second] [(.int (1 : Int32)), (.ref a4)]) _
    refine ownGo.st (own_laload X386 hx hZ rfl Vp (i := 1) (v := (own_packed (own_x (own_three s0 s1 s2) (own_three l0 l1 l2) (own_threeN k0 k1 k2)) (own_threeN k0 k1 k2) (own_pairL x5 (x5 ^^^ (-1 : Int64))) 1)) rfl (by decide) rfl (g := (mkF m 320 #[.val (.long x0), .second, .val (.long x1), .second, .val (.long x2), .second, .val (.long x3), .second, .val (.long x4), .second, .val (.long x5), .second, .val (.int (Int32.ofNat k0)), .val (.int (Int32.ofNat k1)), .val (.int (Int32.ofNat k2)), .val (.long (own_mk k0)), .second, .val (.long (own_mk k1)), .second, .val (.long (own_mk k2)), .second, .val (.int l0), .val (.int l1), .val (.int l2), .val (.ref a1), .val (.ref a2), .val (.long d0), .second, .val (.long d1), .second, .val (.long d2), .second, .val (.ref a3), .val (.ref a4), .val (.ref o), .val (.long ((d0 ||| (own_lshl d1 (Int32.ofNat k0))) ||| (own_lshl d2 ((Int32.ofNat k0) + (Int32.ofNat k1))))), .second, .val (.long (x5 ^^^ (-1 : Int64))), .second] [(.int (1 : Int32)), (.ref a4)])) rfl rfl (hb hby at_320)) ?_
    show ownGo p.tables e below T386 (mkF m 321 #[.val (.long x0), .second, .val (.long x1), .second, .val (.long x2), .second, .val (.long x3), .second, .val (.long x4), .second, .val (.long x5), .second, .val (.int (Int32.ofNat k0)), .val (.int (Int32.ofNat k1)), .val (.int (Int32.ofNat k2)), .val (.long (own_mk k0)), .second, .val (.long (own_mk k1)), .second, .val (.long (own_mk k2)), .second, .val (.int l0), .val (.int l1), .val (.int l2), .val (.ref a1), .val (.ref a2), .val (.long d0), .second, .val (.long d1), .second, .val (.long d2), .second, .val (.ref a3), .val (.ref a4), .val (.ref o), .val (.long ((d0 ||| (own_lshl d1 (Int32.ofNat k0))) ||| (own_lshl d2 ((Int32.ofNat k0) + (Int32.ofNat k1))))), .second, .val (.long (x5 ^^^ (-1 : Int64))), .second] [(.long (own_packed (own_x (own_three s0 s1 s2) (own_three l0 l1 l2) (own_threeN k0 k1 k2)) (own_threeN k0 k1 k2) (own_pairL x5 (x5 ^^^ (-1 : Int64))) 1))]) _
    refine ownGo.st (fun _ k => XS.lload X386.here hx rfl (hb hby at_321) rfl k) ?_
    show ownGo p.tables e below T386 (mkF m 323 #[.val (.long x0), .second, .val (.long x1), .second, .val (.long x2), .second, .val (.long x3), .second, .val (.long x4), .second, .val (.long x5), .second, .val (.int (Int32.ofNat k0)), .val (.int (Int32.ofNat k1)), .val (.int (Int32.ofNat k2)), .val (.long (own_mk k0)), .second, .val (.long (own_mk k1)), .second, .val (.long (own_mk k2)), .second, .val (.int l0), .val (.int l1), .val (.int l2), .val (.ref a1), .val (.ref a2), .val (.long d0), .second, .val (.long d1), .second, .val (.long d2), .second, .val (.ref a3), .val (.ref a4), .val (.ref o), .val (.long ((d0 ||| (own_lshl d1 (Int32.ofNat k0))) ||| (own_lshl d2 ((Int32.ofNat k0) + (Int32.ofNat k1))))), .second, .val (.long (x5 ^^^ (-1 : Int64))), .second] [(.long (x5 ^^^ (-1 : Int64))), (.long (own_packed (own_x (own_three s0 s1 s2) (own_three l0 l1 l2) (own_threeN k0 k1 k2)) (own_threeN k0 k1 k2) (own_pairL x5 (x5 ^^^ (-1 : Int64))) 1))]) _
    refine ownGo.st (fun _ k => XS.lcmp X386.here hx rfl (hb hby at_323) rfl k) ?_
    show ownGo p.tables e below T386 (mkF m 324 #[.val (.long x0), .second, .val (.long x1), .second, .val (.long x2), .second, .val (.long x3), .second, .val (.long x4), .second, .val (.long x5), .second, .val (.int (Int32.ofNat k0)), .val (.int (Int32.ofNat k1)), .val (.int (Int32.ofNat k2)), .val (.long (own_mk k0)), .second, .val (.long (own_mk k1)), .second, .val (.long (own_mk k2)), .second, .val (.int l0), .val (.int l1), .val (.int l2), .val (.ref a1), .val (.ref a2), .val (.long d0), .second, .val (.long d1), .second, .val (.long d2), .second, .val (.ref a3), .val (.ref a4), .val (.ref o), .val (.long ((d0 ||| (own_lshl d1 (Int32.ofNat k0))) ||| (own_lshl d2 ((Int32.ofNat k0) + (Int32.ofNat k1))))), .second, .val (.long (x5 ^^^ (-1 : Int64))), .second] [(.int (lcmpW (own_packed (own_x (own_three s0 s1 s2) (own_three l0 l1 l2) (own_threeN k0 k1 k2)) (own_threeN k0 k1 k2) (own_pairL x5 (x5 ^^^ (-1 : Int64))) 1) (x5 ^^^ (-1 : Int64))))]) _
    have hc390 : (own_packed (own_x (own_three s0 s1 s2) (own_three l0 l1 l2) (own_threeN k0 k1 k2)) (own_threeN k0 k1 k2) (own_pairL x5 (x5 ^^^ (-1 : Int64))) 1) = (x5 ^^^ (-1 : Int64)) := fB.2
    refine ownGo.st (fun _ k => XS.ifNo X386.here hx rfl (hb hby at_324) rfl ((if0 _ _).trans (teq ((lw_eq _ _).mpr hc390)).2) k) ?_
    show ownGo p.tables e below T386 (mkF m 327 #[.val (.long x0), .second, .val (.long x1), .second, .val (.long x2), .second, .val (.long x3), .second, .val (.long x4), .second, .val (.long x5), .second, .val (.int (Int32.ofNat k0)), .val (.int (Int32.ofNat k1)), .val (.int (Int32.ofNat k2)), .val (.long (own_mk k0)), .second, .val (.long (own_mk k1)), .second, .val (.long (own_mk k2)), .second, .val (.int l0), .val (.int l1), .val (.int l2), .val (.ref a1), .val (.ref a2), .val (.long d0), .second, .val (.long d1), .second, .val (.long d2), .second, .val (.ref a3), .val (.ref a4), .val (.ref o), .val (.long ((d0 ||| (own_lshl d1 (Int32.ofNat k0))) ||| (own_lshl d2 ((Int32.ofNat k0) + (Int32.ofNat k1))))), .second, .val (.long (x5 ^^^ (-1 : Int64))), .second] []) _
    refine ownGo.st (fun _ k => XS.iconst X386.here hx rfl (hb hby at_327)  k) ?_
    show ownGo p.tables e below T386 (mkF m 328 #[.val (.long x0), .second, .val (.long x1), .second, .val (.long x2), .second, .val (.long x3), .second, .val (.long x4), .second, .val (.long x5), .second, .val (.int (Int32.ofNat k0)), .val (.int (Int32.ofNat k1)), .val (.int (Int32.ofNat k2)), .val (.long (own_mk k0)), .second, .val (.long (own_mk k1)), .second, .val (.long (own_mk k2)), .second, .val (.int l0), .val (.int l1), .val (.int l2), .val (.ref a1), .val (.ref a2), .val (.long d0), .second, .val (.long d1), .second, .val (.long d2), .second, .val (.ref a3), .val (.ref a4), .val (.ref o), .val (.long ((d0 ||| (own_lshl d1 (Int32.ofNat k0))) ||| (own_lshl d2 ((Int32.ofNat k0) + (Int32.ofNat k1))))), .second, .val (.long (x5 ^^^ (-1 : Int64))), .second] [(.int (1 : Int32))]) _
    refine ownGo.st (fun _ k => XS.goto X386.here hx rfl (pc0 := 328) (pc' := 332) rfl (hb hby at_328) (by decide) (by decide) k) ?_
    show ownGo p.tables e below T386 (mkF m 332 #[.val (.long x0), .second, .val (.long x1), .second, .val (.long x2), .second, .val (.long x3), .second, .val (.long x4), .second, .val (.long x5), .second, .val (.int (Int32.ofNat k0)), .val (.int (Int32.ofNat k1)), .val (.int (Int32.ofNat k2)), .val (.long (own_mk k0)), .second, .val (.long (own_mk k1)), .second, .val (.long (own_mk k2)), .second, .val (.int l0), .val (.int l1), .val (.int l2), .val (.ref a1), .val (.ref a2), .val (.long d0), .second, .val (.long d1), .second, .val (.long d2), .second, .val (.ref a3), .val (.ref a4), .val (.ref o), .val (.long ((d0 ||| (own_lshl d1 (Int32.ofNat k0))) ||| (own_lshl d2 ((Int32.ofNat k0) + (Int32.ofNat k1))))), .second, .val (.long (x5 ^^^ (-1 : Int64))), .second] [(.int (1 : Int32))]) _
    exact own_retZ X386 hx hlk hret (hb hby at_332) (Or.inr rfl) ⟨rfl, N386⟩ (by decide) (by decide)
set_option maxRecDepth 65536 in
set_option maxHeartbeats 40000000 in
theorem comes_1 {Post : Tables → Env → Array Value → State → Outcome → State → Prop} (hpost : ∀ tb e args s v u, (limb_1_1.after args s (.returned v) u = true ∧ limb_1_2.after args s (.returned v) u = true ∧ True) → FrameEnd s (.returned v) u (Jvm.fieldLocs frame_1_writes args s ++ Jvm.arrayLocs frame_1_arrays args s ++ Jvm.staticLocs frame_1_statics s) 32 128 → Post tb e args s (.returned v) u) :
    ArmFor flags0 classFile x code maxLocals ret World_1 tables_1 room_1 Calls_1 rest_1 Pre_1 Post := by
  intro l hfl _ _ p e ha hc hk s m args below hf hA hF happ hP
  obtain ⟨hcalls, hrest, hpre⟩ := hP
  obtain ⟨-, -, -, hnamed, -, -, -, hat⟩ := (Spec.applies_iff hf).mp happ
  obtain ⟨hg, hn⟩ := and_e (Cond.before_iff.mp (show (Jvm.Cond.and given_1 narrow_1).before args s = true from hpre))
  obtain ⟨hcount, g1⟩ := and_e hg
  obtain ⟨hv0, g3⟩ := and_e g1
  obtain ⟨hv1, g5⟩ := and_e g3
  obtain ⟨hv2, g7⟩ := and_e g5
  obtain ⟨hv3, g9⟩ := and_e g7
  obtain ⟨hv4, hv5⟩ := and_e g9
  obtain ⟨w0, w1, w2, w3, w4, w5, rfl⟩ : ∃ w0 w1 w2 w3 w4 w5 : Value, args = #[w0, w1, w2, w3, w4, w5] := by
    have hs : args.size = 6 := by simpa [Cond.value, given_1] using hcount
    obtain ⟨L⟩ := args
    match L, hs with
    | [w0, w1, w2, w3, w4, w5], _ => exact ⟨w0, w1, w2, w3, w4, w5, rfl⟩
  have hw := fun d (hd : d ∈ tables_1) => atoms_spec (ws := Jvm.Cond.code x code maxLocals ret :: tables_1) hat d (List.mem_cons_of_mem _ hd)
  obtain ⟨i0, ei0⟩ := isL_v hv0
  obtain rfl : w0 = (.long i0) := Option.some.inj ei0
  obtain ⟨i1, ei1⟩ := isL_v hv1
  obtain rfl : w1 = (.long i1) := Option.some.inj ei1
  obtain ⟨i2, ei2⟩ := isL_v hv2
  obtain rfl : w2 = (.long i2) := Option.some.inj ei2
  obtain ⟨i3, ei3⟩ := isL_v hv3
  obtain rfl : w3 = (.long i3) := Option.some.inj ei3
  obtain ⟨i4, ei4⟩ := isL_v hv4
  obtain rfl : w4 = (.long i4) := Option.some.inj ei4
  obtain ⟨i5, ei5⟩ := isL_v hv5
  obtain rfl : w5 = (.long i5) := Option.some.inj ei5
  obtain ⟨n, o, h1, h2, h3, _, L, rfl, ⟨rfl, N⟩, hq⟩ := rm0 l s _ hw i0 i1 i2 i3 i4 i5 s.heap s.heap.size (Nat.le_refl _) p e ha hc hk s m _ below hf ((Spec.applies_iff_loose hf).mp happ).1 ⟨rfl, State.Warmed39.refl s, rfl⟩ trivial
  refine ⟨n, _, h1, h2, h3, hpost _ _ _ _ _ _ ⟨Cond.after_iff.mpr rfl, Cond.after_iff.mpr (eq_i res_at (Term.int_eval (1)) rfl), trivial⟩ ⟨hq.1, hq.2.1, (hq.2.2.sift fun y hy => Or.inr (N y hy)).mono (by decide) (by decide)⟩⟩
theorem main_1_1 : Claimed_1_1 := comes_1 fun _ _ _ _ _ _ h hF => ⟨h.1, hF⟩
theorem main_1_2 : Claimed_1_2 := comes_1 fun _ _ _ _ _ _ h hF => ⟨h.2.1, hF⟩
end Jvm.Pilot.@@N@@
namespace Jvm.Pilot.@@N@@
open Jvm Jvm.ClassFile Sem Op Lib Jvm.Free Jvm.Stand Jvm.Pilot.@@N@@.Jvm.D
/-! MADE BY PROGRAM (witnessworld.py) out of the Statement's table words and the real class files: 18 classes; the members and pool entries that the words name. The judged class is class 1, her method 1. -/
namespace start1
open Jvm.ClassFile
def u (s : String) : CpInfo := .utf8 (stringToUtf16 s)
/-- a pool by its gaps: so many unusable entries, then the entry; so many at the end -/
def gap : Nat → List CpInfo → List CpInfo
  | 0, r => r
  | n + 1, r => .unusable :: gap n r
def poolList (es : List (Nat × CpInfo)) (last : Nat) : List CpInfo := es.foldr (fun e r => gap e.1 (e.2 :: r)) (gap last [])
def pool (es : List (Nat × CpInfo)) (last : Nat) : Array CpInfo := ⟨poolList es last⟩
def fileOf (pool : Array CpInfo) (this : Nat) (attrs : Array Attribute := #[]) (ms : Array MethodInfo := #[]) (fl : Nat := 33) (sup : Nat := 0) (ifs : Array Nat := #[]) (fds : Array FieldInfo := #[]) : ClassFile where
  minorVersion := 0
  majorVersion := 65
  constantPool := pool
  accessFlags := fl
  thisClass := this
  superClass := sup
  interfaces := ifs
  fields := fds
  methods := ms
  attributes := attrs
def plain (name : String) (sup : Option ClassId) : Class where
  name := name
  kind := .ordinary
  loader := none
  accessFlags := 33
  super := sup
  interfaces := #[]
  cf := none
  fields := #[]
  methods := #[]
  instanceTypes := #[]
  staticTypes := #[]
  resolved := #[]
  callSites := []
  init := .initialized
  statics := none
  mirror := none

def pool0 : Array CpInfo := pool [(5, u "<init>"), (0, u "()V"), (1, .class_ 10), (1, u "java/lang/Object"), (85, u "clone"), (0, u "()Ljava/lang/Object;")] 26

def k0c0 : Code := { maxStack := 0, maxLocals := 1, code := object_method_1_code, exceptionTable := #[], attributes := #[] }
def k0m0 : Method := { name := "<init>", desc := "()V", sig := { parameters := [], returnType := none }, accessFlags := 1, code := some k0c0 }
def k0m1 : Method := { name := "clone", desc := "()Ljava/lang/Object;", sig := { parameters := [], returnType := some (.object "java/lang/Object") }, accessFlags := 260, code := none }
/-- java/lang/Object -/
def k0 : Class := { plain "java/lang/Object" none with
  accessFlags := 33
  interfaces := #[]
  cf := some (fileOf pool0 8 #[] #[{ accessFlags := 1, nameIndex := 5, descriptorIndex := 6, attributes := #[] }, { accessFlags := 260, nameIndex := 96, descriptorIndex := 97, attributes := #[] }] 33 0 #[] #[])
  fields := #[]
  methods := #[k0m0, k0m1]
  instanceTypes := #[]
  staticTypes := #[]
  resolved := Array.replicate 124 none
  statics := none }

def pool1 : Array CpInfo := pool [(2, .class_ 4), (1, u "java/lang/Object"), (0, u "<init>"), (0, u "()V"), (0, .methodref 8 9), (0, .class_ 10), (0, .nameAndType 11 12), (0, u "com/example/ningbo/ningbo/engine/StateLayoutPackPinLaw"), (0, u "bitsOf"), (0, u "(J)I"), (0, .methodref 8 14), (0, .nameAndType 15 16), (0, u "lowerOf"), (0, u "(JJ)I"), (0, .methodref 8 18), (0, .nameAndType 19 20), (0, u "upperOf"), (0, u "(IIJ)I"), (0, .long 4294967295), (1, .long 18446744073709551615), (1, .class_ 26), (0, u "com/example/ningbo/ningbo/engine/StateLayout"), (0, .methodref 25 28), (0, .nameAndType 5 29), (0, u "([I[I)V"), (0, .methodref 25 31), (0, .nameAndType 32 33), (0, u "pack"), (0, u "([I[J)V"), (0, .long 63), (1, .long 33), (1, .long 2147483647), (1, .methodref 41 42), (0, .class_ 43), (0, .nameAndType 44 45), (0, u "java/lang/Math"), (0, u "min"), (0, u "(JJ)J"), (2, u "law"), (0, u "(JJJJJJ)Z")] 7

def k1m0 : Method := { name := "<init>", desc := "()V", sig := { parameters := [], returnType := none }, accessFlags := 1, code := none }
def k1c1 : Code := { maxStack := 8, maxLocals := 39, code := code, exceptionTable := #[], attributes := #[] }
def k1m1 : Method := { name := "law", desc := "(JJJJJJ)Z", sig := { parameters := [.long, .long, .long, .long, .long, .long], returnType := some .boolean }, accessFlags := 9, code := some k1c1 }
def k1c2 : Code := { maxStack := 4, maxLocals := 2, code := method_3_code, exceptionTable := #[], attributes := #[] }
def k1m2 : Method := { name := "bitsOf", desc := "(J)I", sig := { parameters := [.long], returnType := some .int }, accessFlags := 10, code := some k1c2 }
def k1c3 : Code := { maxStack := 6, maxLocals := 4, code := method_4_code, exceptionTable := #[], attributes := #[] }
def k1m3 : Method := { name := "lowerOf", desc := "(JJ)I", sig := { parameters := [.long, .long], returnType := some .int }, accessFlags := 10, code := some k1c3 }
def k1c4 : Code := { maxStack := 8, maxLocals := 6, code := method_5_code, exceptionTable := #[], attributes := #[] }
def k1m4 : Method := { name := "upperOf", desc := "(IIJ)I", sig := { parameters := [.int, .int, .long], returnType := some .int }, accessFlags := 10, code := some k1c4 }
/-- com/example/ningbo/ningbo/engine/StateLayoutPackPinLaw -/
def k1 : Class := { plain "com/example/ningbo/ningbo/engine/StateLayoutPackPinLaw" (some 0) with
  accessFlags := 49
  interfaces := #[]
  cf := some (fileOf pool1 8 #[] #[{ accessFlags := 1, nameIndex := 5, descriptorIndex := 6, attributes := #[] }, { accessFlags := 9, nameIndex := 48, descriptorIndex := 49, attributes := #[] }, { accessFlags := 10, nameIndex := 11, descriptorIndex := 12, attributes := #[] }, { accessFlags := 10, nameIndex := 15, descriptorIndex := 16, attributes := #[] }, { accessFlags := 10, nameIndex := 19, descriptorIndex := 20, attributes := #[] }] 49 2 #[] #[])
  fields := #[]
  methods := #[k1m0, k1m1, k1m2, k1m3, k1m4]
  instanceTypes := #[]
  staticTypes := #[]
  resolved := Array.replicate 57 none
  statics := none }

def pool2 : Array CpInfo := pool [(1, .class_ 2), (0, u "java/lang/Math"), (1, .class_ 6), (1, u "java/lang/Object"), (0, u "<init>"), (0, u "()V"), (89, .class_ 100), (1, u "java/lang/Math$RandomNumberGeneratorHolder"), (20, u "(JJ)J"), (50, u "negativeZeroFloatBits"), (0, u "J"), (2, u "negativeZeroDoubleBits"), (21, u "max"), (2, u "min"), (43, u "$assertionsDisabled"), (0, u "Z"), (88, u "(II)I"), (2, u "twoToTheDoubleScaleDown"), (0, u "D"), (4, u "twoToTheDoubleScaleUp"), (9, u "E"), (3, u "PI"), (2, u "TAU"), (2, u "DEGREES_TO_RADIANS"), (0, u "RADIANS_TO_DEGREES")] 94

def k2m0 : Method := { name := "<init>", desc := "()V", sig := { parameters := [], returnType := none }, accessFlags := 2, code := none }
def k2c1 : Code := { maxStack := 2, maxLocals := 2, code := jdk_29_method_65_code, exceptionTable := #[], attributes := #[] }
def k2m1 : Method := { name := "max", desc := "(II)I", sig := { parameters := [.int, .int], returnType := some .int }, accessFlags := 9, code := some k2c1 }
def k2c2 : Code := { maxStack := 4, maxLocals := 4, code := jdk_29_method_70_code, exceptionTable := #[], attributes := #[] }
def k2m2 : Method := { name := "min", desc := "(JJ)J", sig := { parameters := [.long, .long], returnType := some .long }, accessFlags := 9, code := some k2c2 }
/-- java/lang/Math -/
def k2 : Class := { plain "java/lang/Math" (some 0) with
  accessFlags := 49
  interfaces := #[]
  cf := some (fileOf pool2 1 #[.nestMembers #[98]] #[{ accessFlags := 2, nameIndex := 7, descriptorIndex := 8, attributes := #[] }, { accessFlags := 9, nameIndex := 198, descriptorIndex := 335, attributes := #[] }, { accessFlags := 9, nameIndex := 201, descriptorIndex := 121, attributes := #[] }] 49 4 #[] #[{ accessFlags := 25, nameIndex := 354, descriptorIndex := 339, attributes := #[] }, { accessFlags := 25, nameIndex := 358, descriptorIndex := 339, attributes := #[] }, { accessFlags := 25, nameIndex := 361, descriptorIndex := 339, attributes := #[] }, { accessFlags := 26, nameIndex := 364, descriptorIndex := 339, attributes := #[] }, { accessFlags := 26, nameIndex := 365, descriptorIndex := 339, attributes := #[] }, { accessFlags := 26, nameIndex := 172, descriptorIndex := 173, attributes := #[] }, { accessFlags := 26, nameIndex := 176, descriptorIndex := 173, attributes := #[] }, { accessFlags := 8, nameIndex := 344, descriptorIndex := 339, attributes := #[] }, { accessFlags := 8, nameIndex := 338, descriptorIndex := 339, attributes := #[] }, { accessFlags := 4120, nameIndex := 245, descriptorIndex := 246, attributes := #[] }])
  fields := #[{ name := "E", type := .double, accessFlags := 25, slot := 0, constantValue := 0 }, { name := "PI", type := .double, accessFlags := 25, slot := 1, constantValue := 0 }, { name := "TAU", type := .double, accessFlags := 25, slot := 2, constantValue := 0 }, { name := "DEGREES_TO_RADIANS", type := .double, accessFlags := 26, slot := 3, constantValue := 0 }, { name := "RADIANS_TO_DEGREES", type := .double, accessFlags := 26, slot := 4, constantValue := 0 }, { name := "negativeZeroFloatBits", type := .long, accessFlags := 26, slot := 5, constantValue := 0 }, { name := "negativeZeroDoubleBits", type := .long, accessFlags := 26, slot := 6, constantValue := 0 }, { name := "twoToTheDoubleScaleUp", type := .double, accessFlags := 8, slot := 7, constantValue := 0 }, { name := "twoToTheDoubleScaleDown", type := .double, accessFlags := 8, slot := 8, constantValue := 0 }, { name := "$assertionsDisabled", type := .boolean, accessFlags := 4120, slot := 9, constantValue := 0 }]
  methods := #[k2m0, k2m1, k2m2]
  instanceTypes := #[]
  staticTypes := #[.double, .double, .double, .double, .double, .long, .long, .double, .double, .boolean]
  resolved := Array.replicate 460 none
  statics := none }

def pool3 : Array CpInfo := pool [(1, .methodref 2 3), (0, .class_ 4), (0, .nameAndType 5 6), (0, u "java/lang/Object"), (0, u "<init>"), (0, u "()V"), (0, .fieldref 8 9), (0, .class_ 10), (0, .nameAndType 11 12), (0, u "com/example/ningbo/ningbo/engine/StateLayout"), (0, u "width"), (0, u "I"), (0, .methodref 14 15), (0, .class_ 16), (0, .nameAndType 17 18), (0, u "[I"), (0, u "clone"), (0, u "()Ljava/lang/Object;"), (0, .fieldref 8 20), (0, .nameAndType 21 16), (0, u "lowerBounds"), (0, .fieldref 8 23), (0, .nameAndType 24 16), (0, u "wordOf"), (0, .fieldref 8 26), (0, .nameAndType 27 16), (0, u "shiftOf"), (0, .fieldref 8 29), (0, .nameAndType 30 31), (0, u "maskOf"), (0, u "[J"), (0, .methodref 33 34), (0, .class_ 35), (0, .nameAndType 36 37), (0, u "java/lang/Long"), (0, u "numberOfLeadingZeros"), (0, u "(J)I"), (0, .long 18446744073709551615), (1, .fieldref 8 41), (0, .nameAndType 42 12), (0, u "bits"), (0, .methodref 44 45), (0, .class_ 46), (0, .nameAndType 47 48), (0, u "java/lang/Math"), (0, u "max"), (0, u "(II)I"), (0, .fieldref 8 50), (0, .nameAndType 51 12), (0, u "words"), (20, u "([I[I)V"), (10, u "pack"), (0, u "([I[J)V")] 6

def k3c0 : Code := { maxStack := 6, maxLocals := 8, code := prog_49_method_1_code, exceptionTable := #[], attributes := #[] }
def k3m0 : Method := { name := "<init>", desc := "([I[I)V", sig := { parameters := [(.array .int), (.array .int)], returnType := none }, accessFlags := 0, code := some k3c0 }
def k3c1 : Code := { maxStack := 8, maxLocals := 6, code := prog_49_method_7_code, exceptionTable := #[], attributes := #[] }
def k3m1 : Method := { name := "pack", desc := "([I[J)V", sig := { parameters := [(.array .int), (.array .long)], returnType := none }, accessFlags := 0, code := some k3c1 }
/-- com/example/ningbo/ningbo/engine/StateLayout -/
def k3 : Class := { plain "com/example/ningbo/ningbo/engine/StateLayout" (some 0) with
  accessFlags := 32
  interfaces := #[]
  cf := some (fileOf pool3 8 #[] #[{ accessFlags := 0, nameIndex := 5, descriptorIndex := 72, attributes := #[] }, { accessFlags := 0, nameIndex := 83, descriptorIndex := 84, attributes := #[] }] 32 2 #[] #[{ accessFlags := 18, nameIndex := 11, descriptorIndex := 12, attributes := #[] }, { accessFlags := 18, nameIndex := 21, descriptorIndex := 16, attributes := #[] }, { accessFlags := 18, nameIndex := 24, descriptorIndex := 16, attributes := #[] }, { accessFlags := 18, nameIndex := 27, descriptorIndex := 16, attributes := #[] }, { accessFlags := 18, nameIndex := 30, descriptorIndex := 31, attributes := #[] }, { accessFlags := 18, nameIndex := 42, descriptorIndex := 12, attributes := #[] }, { accessFlags := 18, nameIndex := 51, descriptorIndex := 12, attributes := #[] }])
  fields := #[{ name := "width", type := .int, accessFlags := 18, slot := 0, constantValue := 0 }, { name := "lowerBounds", type := (.array .int), accessFlags := 18, slot := 1, constantValue := 0 }, { name := "wordOf", type := (.array .int), accessFlags := 18, slot := 2, constantValue := 0 }, { name := "shiftOf", type := (.array .int), accessFlags := 18, slot := 3, constantValue := 0 }, { name := "maskOf", type := (.array .long), accessFlags := 18, slot := 4, constantValue := 0 }, { name := "bits", type := .int, accessFlags := 18, slot := 5, constantValue := 0 }, { name := "words", type := .int, accessFlags := 18, slot := 6, constantValue := 0 }]
  methods := #[k3m0, k3m1]
  instanceTypes := #[.int, (.array .int), (.array .int), (.array .int), (.array .long), .int, .int]
  staticTypes := #[]
  resolved := Array.replicate 91 none
  statics := none }

def pool4 : Array CpInfo := pool [(1, .class_ 2), (0, u "java/lang/Cloneable"), (0, .class_ 4), (0, u "java/lang/Object")] 2

/-- java/lang/Cloneable -/
def k4 : Class := { plain "java/lang/Cloneable" (some 0) with
  accessFlags := 1537
  interfaces := #[]
  cf := some (fileOf pool4 1 #[] #[] 1537 3 #[] #[])
  fields := #[]
  methods := #[]
  instanceTypes := #[]
  staticTypes := #[]
  resolved := Array.replicate 7 none
  statics := none }

def pool5 : Array CpInfo := pool [(1, .class_ 2), (0, u "java/io/Serializable"), (0, .class_ 4), (0, u "java/lang/Object")] 2

/-- java/io/Serializable -/
def k5 : Class := { plain "java/io/Serializable" (some 0) with
  accessFlags := 1537
  interfaces := #[]
  cf := some (fileOf pool5 1 #[] #[] 1537 3 #[] #[])
  fields := #[]
  methods := #[]
  instanceTypes := #[]
  staticTypes := #[]
  resolved := Array.replicate 7 none
  statics := none }

def pool6 : Array CpInfo := pool [(2, .class_ 4), (1, u "java/lang/Object"), (0, u "<init>"), (0, u "()V"), (1, .class_ 10), (1, u "java/lang/Number"), (2, .class_ 14), (0, u "java/io/Serializable"), (0, u "serialVersionUID"), (0, u "J")] 20

def k6m0 : Method := { name := "<init>", desc := "()V", sig := { parameters := [], returnType := none }, accessFlags := 1, code := none }
/-- java/lang/Number -/
def k6 : Class := { plain "java/lang/Number" (some 0) with
  accessFlags := 1057
  interfaces := #[5]
  cf := some (fileOf pool6 8 #[] #[{ accessFlags := 1, nameIndex := 5, descriptorIndex := 6, attributes := #[] }] 1057 2 #[13] #[{ accessFlags := 26, nameIndex := 15, descriptorIndex := 16, attributes := #[] }])
  fields := #[{ name := "serialVersionUID", type := .long, accessFlags := 26, slot := 0, constantValue := 0 }]
  methods := #[k6m0]
  instanceTypes := #[]
  staticTypes := #[.long]
  resolved := Array.replicate 37 none
  statics := none }

def pool7 : Array CpInfo := pool [(1, .class_ 2), (0, u "java/lang/Comparable"), (0, .class_ 4), (0, u "java/lang/Object")] 7

/-- java/lang/Comparable -/
def k7 : Class := { plain "java/lang/Comparable" (some 0) with
  accessFlags := 1537
  interfaces := #[]
  cf := some (fileOf pool7 1 #[] #[] 1537 3 #[] #[])
  fields := #[]
  methods := #[]
  instanceTypes := #[]
  staticTypes := #[]
  resolved := Array.replicate 12 none
  statics := none }

def pool8 : Array CpInfo := pool [(1, .class_ 2), (0, u "java/lang/constant/Constable"), (0, .class_ 4), (0, u "java/lang/Object")] 6

/-- java/lang/constant/Constable -/
def k8 : Class := { plain "java/lang/constant/Constable" (some 0) with
  accessFlags := 1537
  interfaces := #[]
  cf := some (fileOf pool8 1 #[] #[] 1537 3 #[] #[])
  fields := #[]
  methods := #[]
  instanceTypes := #[]
  staticTypes := #[]
  resolved := Array.replicate 11 none
  statics := none }

def pool9 : Array CpInfo := pool [(1, .class_ 2), (0, u "java/lang/constant/ConstantDesc"), (0, .class_ 4), (0, u "java/lang/Object")] 32

/-- java/lang/constant/ConstantDesc -/
def k9 : Class := { plain "java/lang/constant/ConstantDesc" (some 0) with
  accessFlags := 1537
  interfaces := #[]
  cf := some (fileOf pool9 1 #[] #[] 1537 3 #[] #[])
  fields := #[]
  methods := #[]
  instanceTypes := #[]
  staticTypes := #[]
  resolved := Array.replicate 37 none
  statics := none }

def pool10 : Array CpInfo := pool [(1, .class_ 2), (0, u "java/lang/Long"), (15, .class_ 20), (1, u "java/lang/Integer"), (79, u "numberOfLeadingZeros"), (0, u "(J)I"), (133, .class_ 237), (1, u "java/lang/Long$LongCache"), (33, .class_ 272), (0, u "java/lang/Number"), (2, u "value"), (0, u "J"), (31, .methodref 18 309), (0, .nameAndType 100 310), (0, u "(I)I"), (50, u "TYPE"), (0, u "Ljava/lang/Class;"), (0, .class_ 364), (0, u "java/lang/Comparable"), (0, .class_ 366), (0, u "java/lang/constant/Constable"), (0, .class_ 368), (0, u "java/lang/constant/ConstantDesc"), (0, u "MIN_VALUE"), (1, u "MAX_VALUE"), (4, u "SIZE"), (0, u "I"), (1, u "BYTES"), (1, u "serialVersionUID")] 142

def k10c0 : Code := { maxStack := 3, maxLocals := 3, code := jdk_35_method_48_code, exceptionTable := #[], attributes := #[] }
def k10m0 : Method := { name := "numberOfLeadingZeros", desc := "(J)I", sig := { parameters := [.long], returnType := some .int }, accessFlags := 9, code := some k10c0 }
/-- java/lang/Long -/
def k10 : Class := { plain "java/lang/Long" (some 6) with
  accessFlags := 49
  interfaces := #[7, 8, 9]
  cf := some (fileOf pool10 1 #[.nestMembers #[235]] #[{ accessFlags := 9, nameIndex := 100, descriptorIndex := 101, attributes := #[] }] 49 271 #[363, 365, 367] #[{ accessFlags := 25, nameIndex := 369, descriptorIndex := 276, attributes := #[] }, { accessFlags := 25, nameIndex := 371, descriptorIndex := 276, attributes := #[] }, { accessFlags := 25, nameIndex := 361, descriptorIndex := 362, attributes := #[] }, { accessFlags := 18, nameIndex := 275, descriptorIndex := 276, attributes := #[] }, { accessFlags := 25, nameIndex := 376, descriptorIndex := 377, attributes := #[] }, { accessFlags := 25, nameIndex := 379, descriptorIndex := 377, attributes := #[] }, { accessFlags := 26, nameIndex := 381, descriptorIndex := 276, attributes := #[] }])
  fields := #[{ name := "MIN_VALUE", type := .long, accessFlags := 25, slot := 0, constantValue := 0 }, { name := "MAX_VALUE", type := .long, accessFlags := 25, slot := 1, constantValue := 0 }, { name := "TYPE", type := (.object "java/lang/Class"), accessFlags := 25, slot := 2, constantValue := 0 }, { name := "value", type := .long, accessFlags := 18, slot := 0, constantValue := 0 }, { name := "SIZE", type := .int, accessFlags := 25, slot := 3, constantValue := 0 }, { name := "BYTES", type := .int, accessFlags := 25, slot := 4, constantValue := 0 }, { name := "serialVersionUID", type := .long, accessFlags := 26, slot := 5, constantValue := 0 }]
  methods := #[k10m0]
  instanceTypes := #[.long]
  staticTypes := #[.long, .long, (.object "java/lang/Class"), .int, .int, .long]
  resolved := Array.replicate 524 none
  statics := none }

def pool11 : Array CpInfo := pool [(1, .class_ 2), (0, u "java/lang/Integer"), (16, u "digits"), (0, u "[C"), (32, u "numberOfLeadingZeros"), (0, u "(I)I"), (30, u "DigitOnes"), (0, u "[B"), (2, u "DigitTens"), (99, .class_ 190), (0, u "java/lang/Integer$IntegerCache"), (3, u "I"), (8, .class_ 204), (0, u "java/lang/Number"), (2, u "value"), (56, .integer 65536), (37, u "TYPE"), (0, u "Ljava/lang/Class;"), (0, .class_ 305), (0, u "java/lang/Comparable"), (0, .class_ 307), (0, u "java/lang/constant/Constable"), (0, .class_ 309), (0, u "java/lang/constant/ConstantDesc"), (0, u "MIN_VALUE"), (1, u "MAX_VALUE"), (3, u "SIZE"), (1, u "BYTES"), (1, u "serialVersionUID"), (0, u "J")] 131

def k11c0 : Code := { maxStack := 3, maxLocals := 2, code := jdk_33_method_47_code, exceptionTable := #[], attributes := #[] }
def k11m0 : Method := { name := "numberOfLeadingZeros", desc := "(I)I", sig := { parameters := [.int], returnType := some .int }, accessFlags := 9, code := some k11c0 }
/-- java/lang/Integer -/
def k11 : Class := { plain "java/lang/Integer" (some 6) with
  accessFlags := 49
  interfaces := #[7, 8, 9]
  cf := some (fileOf pool11 1 #[.nestMembers #[189]] #[{ accessFlags := 9, nameIndex := 53, descriptorIndex := 54, attributes := #[] }] 49 203 #[304, 306, 308] #[{ accessFlags := 25, nameIndex := 310, descriptorIndex := 194, attributes := #[] }, { accessFlags := 25, nameIndex := 312, descriptorIndex := 194, attributes := #[] }, { accessFlags := 25, nameIndex := 302, descriptorIndex := 303, attributes := #[] }, { accessFlags := 24, nameIndex := 19, descriptorIndex := 20, attributes := #[] }, { accessFlags := 24, nameIndex := 89, descriptorIndex := 86, attributes := #[] }, { accessFlags := 24, nameIndex := 85, descriptorIndex := 86, attributes := #[] }, { accessFlags := 18, nameIndex := 207, descriptorIndex := 194, attributes := #[] }, { accessFlags := 25, nameIndex := 316, descriptorIndex := 194, attributes := #[] }, { accessFlags := 25, nameIndex := 318, descriptorIndex := 194, attributes := #[] }, { accessFlags := 26, nameIndex := 320, descriptorIndex := 321, attributes := #[] }])
  fields := #[{ name := "MIN_VALUE", type := .int, accessFlags := 25, slot := 0, constantValue := 0 }, { name := "MAX_VALUE", type := .int, accessFlags := 25, slot := 1, constantValue := 0 }, { name := "TYPE", type := (.object "java/lang/Class"), accessFlags := 25, slot := 2, constantValue := 0 }, { name := "digits", type := (.array .char), accessFlags := 24, slot := 3, constantValue := 0 }, { name := "DigitTens", type := (.array .byte), accessFlags := 24, slot := 4, constantValue := 0 }, { name := "DigitOnes", type := (.array .byte), accessFlags := 24, slot := 5, constantValue := 0 }, { name := "value", type := .int, accessFlags := 18, slot := 0, constantValue := 0 }, { name := "SIZE", type := .int, accessFlags := 25, slot := 6, constantValue := 0 }, { name := "BYTES", type := .int, accessFlags := 25, slot := 7, constantValue := 0 }, { name := "serialVersionUID", type := .long, accessFlags := 26, slot := 8, constantValue := 0 }]
  methods := #[k11m0]
  instanceTypes := #[.int]
  staticTypes := #[.int, .int, (.object "java/lang/Class"), (.array .char), (.array .byte), (.array .byte), .int, .int, .long]
  resolved := Array.replicate 453 none
  statics := none }

/-- the primitive byte -/
def k12 : Class := { plain "byte" none with kind := .primitive 'B', accessFlags := 0x411 }
/-- [B -/
def k13 : Class := { plain "[B" (some 0) with kind := .array 12 .byte, interfaces := #[4, 5], accessFlags := 1041 }

/-- the primitive int -/
def k14 : Class := { plain "int" none with kind := .primitive 'I', accessFlags := 0x411 }
/-- [I -/
def k15 : Class := { plain "[I" (some 0) with kind := .array 14 .int, interfaces := #[4, 5], accessFlags := 1041 }

/-- the primitive long -/
def k16 : Class := { plain "long" none with kind := .primitive 'J', accessFlags := 0x411 }
/-- [J -/
def k17 : Class := { plain "[J" (some 0) with kind := .array 16 .long, interfaces := #[4, 5], accessFlags := 1041 }

def heap : Heap := #[]
def classes : Array Class := #[k0, k1, k2, k3, k4, k5, k6, k7, k8, k9, k10, k11, k12, k13, k14, k15, k16, k17]
def interned : List (Array UInt16 × Addr) := []
def slotsUsed : Nat := 0
def theMethod : MethodId := ⟨1, 1⟩
def args0 : Array Value := #[.long 3, .long 5, .long 7, .long 9, .long 11, .long 13]
def aboutOver (below : List Frame) : State where
  vm := { classes := classes, interned := interned.toArray }
  heap := heap
  slotsUsed := slotsUsed
  threads := #[{ frames := .invoking theMethod args0 :: below }]
def below0 : List Frame := [.native { method := ⟨0, 0⟩, args := #[] }]
def about1 : State := aboutOver below0
def p0 : Program := .bare "" "" ""
def e0 : Env := launch0.env 0 0 0
theorem w_frames : about1.frames = Frame.invoking theMethod args0 :: below0 := rfl
set_option maxRecDepth 65536 in
theorem w_args : argsFit about1.vm theMethod args0 = true := by decide +kernel
set_option maxRecDepth 65536 in
theorem w_heap : heapFits about1 = true := by decide +kernel
set_option maxRecDepth 65536 in
theorem w_runnable : about1.curStatus? = some .runnable := by decide +kernel
set_option maxRecDepth 65536 in
theorem w_alone : about1.alone = true := by decide +kernel
set_option maxRecDepth 65536 in
theorem w_named : about1.methodNamed? x = some theMethod := by decide +kernel
set_option maxRecDepth 65536 in
theorem w_hears : about1.hears theMethod below0 = true := by decide +kernel
set_option maxRecDepth 65536 in
theorem w_ripe : about1.ripe theMethod args0 below0 = true := by decide +kernel
theorem w_running : about1.status = .running := rfl
set_option maxRecDepth 65536 in
theorem w_room : about1.hasRoom e0.platform room_1 = true :=
  launch0.hasRoom_least _ room_1 (by decide +kernel) (by decide +kernel) (by decide +kernel) (by decide +kernel) (by decide +kernel) (by decide +kernel)
theorem allAtoms_all (ts : List Jvm.Cond) (a : Array Jvm.Value) (st : Jvm.State) : (allAtoms ts).before a st = ts.all (fun c => c.before a st) := by
  induction ts with
  | nil => rfl
  | cons c t ih =>
    show (Jvm.Cond.and c (allAtoms t)).before a st = _
    rw [Jvm.Cond.before_and, ih, List.all_cons]
def words1 : List Jvm.Cond := Jvm.Cond.code x code maxLocals ret :: tables_1
/-- a 'code' word, met by the world's own term for the bytes: nothing is compared byte by byte -/
theorem code_word {y : MethodName} {bytes : ByteArray} {mx : Nat} {rt : Option FieldType} {a : Array Value} {s : State} {m : MethodId} {meth : Method} {c : Code} (h1 : s.methodNamed? y = some m) (h2 : s.vm.method? m = some meth) (h3 : meth.code = some c) (h4 : c.code = bytes)
    (h5 : (c.maxLocals == mx && c.exceptionTable.isEmpty && decide (c.maxStack ≤ mostOperands) && decide (meth.sig.returnType = rt) && !meth.locks && decide (parseMethodDescriptor y.desc = some meth.sig)) = true) : (Jvm.Cond.code y bytes mx rt).before a s = true := by
  simp only [Bool.and_eq_true, beq_iff_eq, Bool.not_eq_true', decide_eq_true_eq] at h5
  obtain ⟨⟨⟨⟨⟨g1, g2⟩, g3⟩, g4⟩, g5⟩, g6⟩ := h5
  simp [Cond.before, Cond.holds, Cond.value, h1, h2, h3, h4, g1, g2, g3, g4, g5, g6]
def isCode : Jvm.Cond → Bool
  | .code _ _ _ _ => true
  | _ => false
theorem all_split {L : List Jvm.Cond} {P : Jvm.Cond → Bool} (h1 : L.all (fun c => isCode c || P c) = true) (h2 : ∀ c ∈ L.filter isCode, P c = true) : L.all P = true := by
  refine List.all_eq_true.mpr fun c hc => ?_
  have h := List.all_eq_true.mp h1 c hc
  rcases Bool.eq_false_or_eq_true (isCode c) with hi | hi
  · exact h2 c (List.mem_filter.mpr ⟨hc, hi⟩)
  · simpa [hi] using h
set_option maxRecDepth 65536 in
theorem w_c0 : (Jvm.Cond.code x code maxLocals ret).before args0 about1 = true := code_word (m := ⟨1, 1⟩) (meth := k1m1) (c := k1c1) (by decide +kernel) rfl rfl rfl (by decide +kernel)
set_option maxRecDepth 65536 in
theorem w_c1 : (Jvm.Cond.code ({ cls := "com/example/ningbo/ningbo/engine/StateLayoutPackPinLaw", name := "bitsOf", desc := "(J)I" } : Jvm.MethodName) method_3_code (2 : Nat) (Option.some Jvm.ClassFile.FieldType.int)).before args0 about1 = true := code_word (m := ⟨1, 2⟩) (meth := k1m2) (c := k1c2) (by decide +kernel) rfl rfl rfl (by decide +kernel)
set_option maxRecDepth 65536 in
theorem w_c2 : (Jvm.Cond.code ({ cls := "com/example/ningbo/ningbo/engine/StateLayoutPackPinLaw", name := "lowerOf", desc := "(JJ)I" } : Jvm.MethodName) method_4_code (4 : Nat) (Option.some Jvm.ClassFile.FieldType.int)).before args0 about1 = true := code_word (m := ⟨1, 3⟩) (meth := k1m3) (c := k1c3) (by decide +kernel) rfl rfl rfl (by decide +kernel)
set_option maxRecDepth 65536 in
theorem w_c3 : (Jvm.Cond.code ({ cls := "java/lang/Math", name := "min", desc := "(JJ)J" } : Jvm.MethodName) jdk_29_method_70_code (4 : Nat) (Option.some Jvm.ClassFile.FieldType.long)).before args0 about1 = true := code_word (m := ⟨2, 2⟩) (meth := k2m2) (c := k2c2) (by decide +kernel) rfl rfl rfl (by decide +kernel)
set_option maxRecDepth 65536 in
theorem w_c4 : (Jvm.Cond.code ({ cls := "com/example/ningbo/ningbo/engine/StateLayoutPackPinLaw", name := "upperOf", desc := "(IIJ)I" } : Jvm.MethodName) method_5_code (6 : Nat) (Option.some Jvm.ClassFile.FieldType.int)).before args0 about1 = true := code_word (m := ⟨1, 4⟩) (meth := k1m4) (c := k1c4) (by decide +kernel) rfl rfl rfl (by decide +kernel)
set_option maxRecDepth 65536 in
theorem w_c5 : (Jvm.Cond.code ({ cls := "com/example/ningbo/ningbo/engine/StateLayout", name := "<init>", desc := "([I[I)V" } : Jvm.MethodName) prog_49_method_1_code (8 : Nat) (Option.none : Option Jvm.ClassFile.FieldType)).before args0 about1 = true := code_word (m := ⟨3, 0⟩) (meth := k3m0) (c := k3c0) (by decide +kernel) rfl rfl rfl (by decide +kernel)
set_option maxRecDepth 65536 in
theorem w_c6 : (Jvm.Cond.code ({ cls := "java/lang/Object", name := "<init>", desc := "()V" } : Jvm.MethodName) object_method_1_code (1 : Nat) (Option.none : Option Jvm.ClassFile.FieldType)).before args0 about1 = true := code_word (m := ⟨0, 0⟩) (meth := k0m0) (c := k0c0) (by decide +kernel) rfl rfl rfl (by decide +kernel)
set_option maxRecDepth 65536 in
theorem w_c7 : (Jvm.Cond.code ({ cls := "java/lang/Long", name := "numberOfLeadingZeros", desc := "(J)I" } : Jvm.MethodName) jdk_35_method_48_code (3 : Nat) (Option.some Jvm.ClassFile.FieldType.int)).before args0 about1 = true := code_word (m := ⟨10, 0⟩) (meth := k10m0) (c := k10c0) (by decide +kernel) rfl rfl rfl (by decide +kernel)
set_option maxRecDepth 65536 in
theorem w_c8 : (Jvm.Cond.code ({ cls := "java/lang/Integer", name := "numberOfLeadingZeros", desc := "(I)I" } : Jvm.MethodName) jdk_33_method_47_code (2 : Nat) (Option.some Jvm.ClassFile.FieldType.int)).before args0 about1 = true := code_word (m := ⟨11, 0⟩) (meth := k11m0) (c := k11c0) (by decide +kernel) rfl rfl rfl (by decide +kernel)
set_option maxRecDepth 65536 in
theorem w_c9 : (Jvm.Cond.code ({ cls := "java/lang/Math", name := "max", desc := "(II)I" } : Jvm.MethodName) jdk_29_method_65_code (2 : Nat) (Option.some Jvm.ClassFile.FieldType.int)).before args0 about1 = true := code_word (m := ⟨2, 1⟩) (meth := k2m1) (c := k2c1) (by decide +kernel) rfl rfl rfl (by decide +kernel)
set_option maxRecDepth 65536 in
theorem w_c10 : (Jvm.Cond.code ({ cls := "com/example/ningbo/ningbo/engine/StateLayout", name := "pack", desc := "([I[J)V" } : Jvm.MethodName) prog_49_method_7_code (6 : Nat) (Option.none : Option Jvm.ClassFile.FieldType)).before args0 about1 = true := code_word (m := ⟨3, 1⟩) (meth := k3m1) (c := k3c1) (by decide +kernel) rfl rfl rfl (by decide +kernel)
def codes1 : List Jvm.Cond := [Jvm.Cond.code x code maxLocals ret, Jvm.Cond.code ({ cls := "com/example/ningbo/ningbo/engine/StateLayoutPackPinLaw", name := "bitsOf", desc := "(J)I" } : Jvm.MethodName) method_3_code (2 : Nat) (Option.some Jvm.ClassFile.FieldType.int), Jvm.Cond.code ({ cls := "com/example/ningbo/ningbo/engine/StateLayoutPackPinLaw", name := "lowerOf", desc := "(JJ)I" } : Jvm.MethodName) method_4_code (4 : Nat) (Option.some Jvm.ClassFile.FieldType.int), Jvm.Cond.code ({ cls := "java/lang/Math", name := "min", desc := "(JJ)J" } : Jvm.MethodName) jdk_29_method_70_code (4 : Nat) (Option.some Jvm.ClassFile.FieldType.long), Jvm.Cond.code ({ cls := "com/example/ningbo/ningbo/engine/StateLayoutPackPinLaw", name := "upperOf", desc := "(IIJ)I" } : Jvm.MethodName) method_5_code (6 : Nat) (Option.some Jvm.ClassFile.FieldType.int), Jvm.Cond.code ({ cls := "com/example/ningbo/ningbo/engine/StateLayout", name := "<init>", desc := "([I[I)V" } : Jvm.MethodName) prog_49_method_1_code (8 : Nat) (Option.none : Option Jvm.ClassFile.FieldType), Jvm.Cond.code ({ cls := "java/lang/Object", name := "<init>", desc := "()V" } : Jvm.MethodName) object_method_1_code (1 : Nat) (Option.none : Option Jvm.ClassFile.FieldType), Jvm.Cond.code ({ cls := "java/lang/Long", name := "numberOfLeadingZeros", desc := "(J)I" } : Jvm.MethodName) jdk_35_method_48_code (3 : Nat) (Option.some Jvm.ClassFile.FieldType.int), Jvm.Cond.code ({ cls := "java/lang/Integer", name := "numberOfLeadingZeros", desc := "(I)I" } : Jvm.MethodName) jdk_33_method_47_code (2 : Nat) (Option.some Jvm.ClassFile.FieldType.int), Jvm.Cond.code ({ cls := "java/lang/Math", name := "max", desc := "(II)I" } : Jvm.MethodName) jdk_29_method_65_code (2 : Nat) (Option.some Jvm.ClassFile.FieldType.int), Jvm.Cond.code ({ cls := "com/example/ningbo/ningbo/engine/StateLayout", name := "pack", desc := "([I[J)V" } : Jvm.MethodName) prog_49_method_7_code (6 : Nat) (Option.none : Option Jvm.ClassFile.FieldType)]
set_option maxRecDepth 65536 in
theorem codes_eq : words1.filter isCode = codes1 := rfl
theorem w_codes : ∀ c ∈ words1.filter isCode, c.before args0 about1 = true := by
  rw [codes_eq]
  intro c hc
  simp only [codes1, List.mem_cons, List.not_mem_nil, or_false] at hc
  rcases hc with rfl | rfl | rfl | rfl | rfl | rfl | rfl | rfl | rfl | rfl | rfl
  · exact w_c0
  · exact w_c1
  · exact w_c2
  · exact w_c3
  · exact w_c4
  · exact w_c5
  · exact w_c6
  · exact w_c7
  · exact w_c8
  · exact w_c9
  · exact w_c10
set_option maxRecDepth 65536 in
theorem w_t1 : (words1.take 24).all (fun c => isCode c || c.before args0 about1) = true := by decide +kernel
set_option maxRecDepth 65536 in
theorem w_t2 : ((words1.drop 24).take 24).all (fun c => isCode c || c.before args0 about1) = true := by decide +kernel
set_option maxRecDepth 65536 in
theorem w_t3 : ((words1.drop 24).drop 24).all (fun c => isCode c || c.before args0 about1) = true := by decide +kernel
theorem w_tables : (allAtoms (Jvm.Cond.code x code maxLocals ret :: tables_1)).before args0 about1 = true := by
  rw [allAtoms_all]
  show words1.all (fun c => c.before args0 about1) = true
  refine all_split ?_ w_codes
  rw [← List.take_append_drop 24 words1, List.all_append, w_t1, ← List.take_append_drop 24 (words1.drop 24), List.all_append, w_t2, w_t3]
  rfl
set_option maxRecDepth 65536 in
theorem w_case : (Jvm.Cond.and given_1 narrow_1).before args0 about1 = true := by decide +kernel
theorem w_applies : (headSpec (Jvm.Cond.code x code maxLocals ret :: tables_1) room_1).applies x e0.platform about1 = true :=
  (Spec.applies_iff w_frames).mpr ⟨w_running, w_runnable, w_alone, w_named, w_hears, w_ripe, w_room, w_tables⟩
theorem atStart : AtStart classFile x code maxLocals ret World_1 tables_1 room_1 Calls_1 rest_1 Pre_1 launch0 p0 e0 about1 theMethod args0 below0 :=
  ⟨lists_1, trivial, launch0.admits_env _ _ _, launch0.least_env, fairChoices_fair.cas, fairChoices_fair.clock, w_frames, w_args, w_heap, w_applies, trivial, trivial, w_case⟩
end start1
theorem witness_1 : WitnessClaimed_1 := ⟨start1.p0, start1.e0, start1.about1, start1.theMethod, start1.args0, start1.below0, start1.atStart⟩
end Jvm.Pilot.@@N@@
