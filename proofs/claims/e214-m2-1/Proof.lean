import JvmDerived
import JvmDerived.Pilot.@@N@@Statement
import JvmDerived.Pilot.@@N@@Code
set_option linter.unusedVariables false
set_option linter.unusedSimpArgs false
namespace Jvm.Pilot.@@N@@
open Jvm Jvm.ClassFile Sem Op Lib Jvm.Free Jvm.Stand Jvm.LawKit Jvm.RoadKit Bundle Jvm.Pilot.@@N@@.Jvm.D
abbrev own_iushr (x y : Int32) : Int32 := (x.toUInt32 >>> (y &&& 31).toUInt32).toInt32
abbrev own_lshl (x : Int64) (y : Int32) : Int64 := x <<< (y &&& 0x3f).toInt64
abbrev own_lshr (x : Int64) (y : Int32) : Int64 := x >>> (y &&& 0x3f).toInt64
abbrev own_lushr (x : Int64) (y : Int32) : Int64 := (x.toUInt64 >>> (y &&& 0x3f).toInt64.toUInt64).toInt64
section Core
variable {p : Program} {l : Launch} {e : Env} {R : Room} {s : State} {m : MethodId} {args : Array Value} {below : List Frame} {meth : Method} {c : Code} {T T' : State} {locs : List Loc} {cells slots : Nat} {Z : State} {a0 : Array Value} {h h0 h' : Heap} {n0 : Nat}
/-- the i-th word of the sheet -/
theorem own_at (hw : ∀ d ∈ tables_1, d.before a0 Z = true) {d : Jvm.Cond} (i : Nat) (q : tables_1[i]? = some d) : d.before a0 Z = true := hw _ (List.mem_of_getElem? q)
/-- from this frame the method comes to its end, and G says what the end is -/
def ownGo (tb : Tables) (e : Env) (below : List Frame) (T : State) (g : JFrame) (G : Outcome → State → Prop) : Prop :=
  ∃ s₂ o, Steps tb e below (T.setTop g) s₂ ∧ s₂.status = .running ∧ Ended s₂ below o ∧ G o s₂
def ownDone (s : State) (Q : Option Value → Heap → List Loc → Prop) (kc ks : Nat) (o : Outcome) (U : State) : Prop :=
  ∃ v L, o = .returned v ∧ Q v U.heap L ∧ FrameEnd s o U L kc ks
/-- what a method leaves that only reckons -/
def ownPure (r : Value) (h0 : Heap) (n0 : Nat) (v : Option Value) (h : Heap) (L : List Loc) : Prop := v = some r ∧ Fr n0 L ∧ h = h0
theorem ownGo.st {tb : Tables} {g g' : JFrame} {G : Outcome → State → Prop} (q : ∀ t, Steps tb e below (T'.setTop g') t → Steps tb e below (T.setTop g) t) (k : ownGo tb e below T' g' G) : ownGo tb e below T g G := by
  obtain ⟨s₂, o, h1, h2⟩ := k
  exact ⟨s₂, o, q _ h1, h2⟩
theorem ownGo.sq {tb : Tables} {g g' : JFrame} {G : Outcome → State → Prop} (q : Steps tb e below (T.setTop g) (T'.setTop g')) (k : ownGo tb e below T' g' G) : ownGo tb e below T g G := by
  obtain ⟨s₂, o, h1, h2⟩ := k
  exact ⟨s₂, o, q.trans h1, h2⟩
theorem own_ret {Q : Option Value → Heap → List Loc → Prop} {kc ks : Nat} {g : JFrame} {v : Option Value} (X : Stand p l e R s m args below meth c T locs cells slots) (hlk : meth.locks = false) (hv : meth.sig.returnType = none → v = none)
    (hst : ∀ fs, (∀ (f : JFrame) (acts : List Action), f.method = m → f.locked = none → f.entered = [] → (doReturn e (T.setTop f) acts v).1 = T.setFrames fs) → Steps p.tables e below (T.setTop g) (T.setFrames fs))
    (hq : Q v T.heap locs) (hc : cells ≤ kc) (hs : slots ≤ ks) : ownGo p.tables e below T g (ownDone s Q kc ks) := by
  obtain ⟨fs, hr, hrun, hended, hW, hsame⟩ := X.leave (v := v) hv hlk
  exact ⟨_, _, hst fs hr, hrun, hended, _, _, rfl, hq, ⟨_, rfl⟩, hW, hsame.mono hc hs⟩
theorem own_retI {Q : Option Value → Heap → List Loc → Prop} {kc ks : Nat} {pc : Nat} {Ls : Array Slot} {z : Int32} {rest : List Value} (X : Stand p l e R s m args below meth c T locs cells slots) (hx : p.tables.exec = Jvm.exec) (hlk : meth.locks = false) (hret : meth.sig.returnType = some .int)
    (hd : decode c.code pc = .ok (.ireturn, 1)) (hq : Q (some (.int z)) T.heap locs) (hc : cells ≤ kc) (hs : slots ≤ ks) : ownGo p.tables e below T (mkF m pc Ls (.int z :: rest)) (ownDone s Q kc ks) :=
  own_ret X hlk (fun q => by rw [hret] at q; cases q) (fun fs hr => retOut X hx hret rfl (Or.inl ⟨rfl, Or.inl rfl, z, rfl⟩) hd hr) hq hc hs
theorem own_retZ {Q : Option Value → Heap → List Loc → Prop} {kc ks : Nat} {pc : Nat} {Ls : Array Slot} {z : Int32} {rest : List Value} (X : Stand p l e R s m args below meth c T locs cells slots) (hx : p.tables.exec = Jvm.exec) (hlk : meth.locks = false) (hret : meth.sig.returnType = some .boolean)
    (hd : decode c.code pc = .ok (.ireturn, 1)) (hz : z = 0 ∨ z = 1) (hq : Q (some (.int z)) T.heap locs) (hc : cells ≤ kc) (hs : slots ≤ ks) : ownGo p.tables e below T (mkF m pc Ls (.int z :: rest)) (ownDone s Q kc ks) := by
  have e1 : nar .boolean z = z := by rcases hz with rfl | rfl <;> decide
  exact own_ret X hlk (fun q => by rw [hret] at q; cases q) (fun fs hr => retN X hx (t := .boolean) hret (by simp) hd (by rw [e1]; exact hr)) hq hc hs
theorem own_retJ {Q : Option Value → Heap → List Loc → Prop} {kc ks : Nat} {pc : Nat} {Ls : Array Slot} {z : Int64} {rest : List Value} (X : Stand p l e R s m args below meth c T locs cells slots) (hx : p.tables.exec = Jvm.exec) (hlk : meth.locks = false) (hret : meth.sig.returnType = some .long)
    (hd : decode c.code pc = .ok (.lreturn, 1)) (hq : Q (some (.long z)) T.heap locs) (hc : cells ≤ kc) (hs : slots ≤ ks) : ownGo p.tables e below T (mkF m pc Ls (.long z :: rest)) (ownDone s Q kc ks) :=
  own_ret X hlk (fun q => by rw [hret] at q; cases q) (fun fs hr => retOut X hx hret rfl (Or.inr (Or.inl ⟨rfl, rfl, z, rfl⟩)) hd hr) hq hc hs
theorem own_retA {Q : Option Value → Heap → List Loc → Prop} {kc ks : Nat} {pc : Nat} {Ls : Array Slot} {z : Addr} {t : FieldType} {rest : List Value} (X : Stand p l e R s m args below meth c T locs cells slots) (hx : p.tables.exec = Jvm.exec) (hlk : meth.locks = false) (hret : meth.sig.returnType = some (.array t))
    (hd : decode c.code pc = .ok (.areturn, 1)) (hq : Q (some (.ref z)) T.heap locs) (hc : cells ≤ kc) (hs : slots ≤ ks) : ownGo p.tables e below T (mkF m pc Ls (.ref z :: rest)) (ownDone s Q kc ks) :=
  own_ret X hlk (fun q => by rw [hret] at q; cases q) (fun fs hr => retOut X hx hret rfl (Or.inr (Or.inr (Or.inr (Or.inr ⟨rfl, rfl, rfl⟩)))) hd hr) hq hc hs
theorem own_retV {Q : Option Value → Heap → List Loc → Prop} {kc ks : Nat} {pc : Nat} {Ls : Array Slot} (X : Stand p l e R s m args below meth c T locs cells slots) (hx : p.tables.exec = Jvm.exec) (hlk : meth.locks = false) (hret : meth.sig.returnType = none)
    (hd : decode c.code pc = .ok (.return_, 1)) (hq : Q none T.heap locs) (hc : cells ≤ kc) (hs : slots ≤ ks) : ownGo p.tables e below T (mkF m pc Ls []) (ownDone s Q kc ks) :=
  own_ret X hlk (fun _ => rfl) (fun fs hr => X.returnOut hx hret hd hr) hq hc hs
/-- a static call by the callee's contract -/
theorem own_callS (X : Stand p l e R s m args below meth c T locs cells slots) (hx : p.tables.exec = Jvm.exec) (hZ : Z.Warmed39 s.vm) {own : String} {index : Nat} {y : MethodName} {bytes : ByteArray} {maxL : Nat} {ret : Option FieldType} (hown : s.vm.findClass own = some m.cls)
    (w1 : (Jvm.Cond.methodLink own index y).before a0 Z = true) (w2 : (Jvm.Cond.static y).before a0 Z = true) (w3 : (Jvm.Cond.initialized y.cls).before a0 Z = true) (w4 : (Jvm.Cond.code y bytes maxL ret).before a0 Z = true) (hy : y.cls ≠ "java/lang/invoke/MethodHandle" ∧ y.cls ≠ "java/lang/invoke/VarHandle")
    {rm : Room} {argsL rest : List Value} {Q : Option Value → Heap → List Loc → Prop}
    (K : MetFree l y (head1 [Jvm.Cond.code y bytes maxL ret] rm) (fun a U => a = argsL.toArray ∧ Z.Warmed39 U.vm ∧ U.heap = h0) (fun _ _ _ _ _ => True) (fun _ U o U' => ∃ v L, o = .returned v ∧ Q v U'.heap L ∧ FrameEnd U o U' L rm.cells rm.slots))
    (W : Nat) (hf : rm.frames + 1 ≤ R.frames) (hl : W + (maxL + 11) + rm.locals ≤ R.locals) (eT : T.heap = h0) (hcl : cells + rm.cells ≤ R.cells) (hsl : slots + rm.slots ≤ R.slots)
    {g : JFrame} (hg : g.method = m) (hsize : g.locals.size = c.maxLocals) (hlen : ∀ sig, parseMethodDescriptor y.desc = some sig → argsL.length = sig.parameters.length) (hstack : g.stack = argsL.reverse ++ rest) (hW : 2 * g.monitorRoom + (rest.map fun v => v.category).sum ≤ W) (hdg : decode c.code g.pc = .ok (.invokestatic index, 3)) :
    ∃ (v : Option Value) (T' : State) (L : List Loc), Stand p l e R s m args below meth c T' (locs ++ L) (cells + rm.cells) (slots + rm.slots) ∧ Q v T'.heap L ∧ ∀ t, Steps p.tables e below (T'.setTop { g with pc := g.pc + 3, stack := v.toList ++ rest }) t → Steps p.tables e below (T.setTop g) t := by
  obtain ⟨v, _, ⟨T1, L1, k1, n1⟩, -, X1, ⟨Lc, hQ, l1, y1, z1⟩, st⟩ := Jvm.LawKit.callS X hx (y := y) hown (mvT hZ w1) (mvT hZ w2) (mvT hZ w3) (mvT hZ w4) hy (backOf (W := W) K hZ w4 w3 hf hl) (g := g) hg hsize (argsL := argsL) (rest := rest) hlen hstack hW hdg (fun _ _ => ⟨rfl, eT, hcl, hsl⟩)
  dsimp only [Pt.U, Pt.locs, Pt.cells, Pt.slots] at X1 l1 y1 z1 st hQ
  subst l1 y1 z1
  exact ⟨v, T1, Lc, X1, hQ, st⟩
/-! arrays: n places, place i holds f i -/
def ownA (Z : State) (h : Heap) (a : Addr) (ty : FieldType) (n : Nat) (f : Nat → Value) : Prop :=
  ∃ c : Cell, Arr Z h a c ty ∧ c.slots.size = n ∧ n < 2147483648 ∧ ∀ i, i < n → c.slots[i]? = some (f i) ∧ fits ty (f i) = true
def own_up (f : Nat → Value) (j : Nat) (v : Value) (i : Nat) : Value := if i = j then v else f i
theorem own_up_hit {f : Nat → Value} {j : Nat} {v : Value} : own_up f j v j = v := if_pos rfl
theorem own_up_miss {f : Nat → Value} {i j : Nat} {v : Value} (q : i ≠ j) : own_up f j v i = f i := if_neg q
theorem ownA.ext {a : Addr} {ty : FieldType} {n : Nat} {f : Nat → Value} (V : ownA Z h a ty n f) (E : Ext h h') : ownA Z h' a ty n f := by obtain ⟨c, A, r⟩ := V; exact ⟨c, A.ext E, r⟩
theorem ownA.other {a b : Addr} {ty : FieldType} {n sl : Nat} {v : Value} {f : Nat → Value} (V : ownA Z h a ty n f) (W : Wr h h' b sl v) (q : a ≠ b) : ownA Z h' a ty n f := by obtain ⟨c, A, r⟩ := V; exact ⟨c, A.other W q, r⟩
theorem ownA.keep {a : Addr} {ty : FieldType} {n : Nat} {ws : List Addr} {f : Nat → Value} (V : ownA Z h a ty n f) (K : Keep h h' ws) (q : a ∉ ws) : ownA Z h' a ty n f := by obtain ⟨c, A, r⟩ := V; exact ⟨c, ⟨K.2.1 a c A.1 q, A.2⟩, r⟩
theorem ownA.lt {a : Addr} {ty : FieldType} {n : Nat} {f : Nat → Value} (V : ownA Z h a ty n f) : a < h.size := by obtain ⟨c, A, r⟩ := V; exact A.lt
theorem ownA.eq {a : Addr} {ty : FieldType} {n : Nat} {f f' : Nat → Value} (V : ownA Z h a ty n f) (q : ∀ i, i < n → f i = f' i) : ownA Z h a ty n f' := by
  obtain ⟨c, A, r1, r2, r3⟩ := V
  exact ⟨c, A, r1, r2, fun i hi => by rw [← q i hi]; exact r3 i hi⟩
theorem own_n32 {n : Nat} (q : n < 2147483648) : (Int32.ofNat n).toNatClampNeg = n := by rw [Int32.toNatClampNeg, Int32.toInt_ofNat_of_lt q]; rfl
theorem own_nn {n : Nat} (q : n < 2147483648) : ¬ Int32.ofNat n < 0 := by
  rw [Int32.lt_iff_toInt_lt, Int32.toInt_ofNat_of_lt q, show (0 : Int32).toInt = 0 from rfl]; omega
theorem ownA.new {a : Addr} {k : ClassId} {ty : FieldType} {n : Nat} (A : Arr Z h a (newA k ty (Int32.ofNat n)) ty) (q : n < 2147483648) (d : fits ty (defaultValue ty) = true) : ownA Z h a ty n (fun _ => defaultValue ty) := by
  refine ⟨_, A, by rw [sz_new, own_n32 q], q, fun i hi => ⟨?_, d⟩⟩
  simp [newA, own_n32 q, hi]
theorem own_in {cl : Cell} {n i : Nat} {j : Int32} (S : cl.slots.size = n) (q : n < 2147483648) (hj : j = Int32.ofNat i) (hi : i < n) : ¬ (j < 0 ∨ cl.slots.size ≤ j.toNatClampNeg) := by
  subst hj
  rw [S, own_n32 (by omega)]
  exact fun z => z.elim (own_nn (by omega)) (fun z => by omega)
theorem own_iaload {a : Addr} {n i : Nat} {f : Nat → Value} {j v : Int32} (X : Stand p l e R s m args below meth c T locs cells slots) (hx : p.tables.exec = Jvm.exec) (hZ : Z.Warmed39 s.vm) (eT : T.heap = h) (V : ownA Z h a .int n f) (hj : j = Int32.ofNat i) (hi : i < n) (hv : f i = .int v)
    {g : JFrame} (hg : g.method = m) {rest : List Value} (hs : g.stack = .int j :: .ref a :: rest) (hd : decode c.code g.pc = .ok (.iaload, 1)) :
    ∀ t, Steps p.tables e below (T.setTop { g with pc := g.pc + 1, stack := .int v :: rest }) t → Steps p.tables e below (T.setTop g) t := by
  obtain ⟨cl, A, S, q, H⟩ := V
  have hat : cl.slots[j.toNatClampNeg]? = some (.int v) := by rw [hj, own_n32 (by omega), ← hv]; exact (H i hi).1
  exact X.iaload hx (j := j) (by rw [eT]; exact A.1) (State.isArrayOf_alike hZ.alike A.2.1) A.2.2 (own_in S q hj hi) hat hg hs hd
theorem own_laload {a : Addr} {n i : Nat} {f : Nat → Value} {j : Int32} {v : Int64} (X : Stand p l e R s m args below meth c T locs cells slots) (hx : p.tables.exec = Jvm.exec) (hZ : Z.Warmed39 s.vm) (eT : T.heap = h) (V : ownA Z h a .long n f) (hj : j = Int32.ofNat i) (hi : i < n) (hv : f i = .long v)
    {g : JFrame} (hg : g.method = m) {rest : List Value} (hs : g.stack = .int j :: .ref a :: rest) (hd : decode c.code g.pc = .ok (.laload, 1)) :
    ∀ t, Steps p.tables e below (T.setTop { g with pc := g.pc + 1, stack := .long v :: rest }) t → Steps p.tables e below (T.setTop g) t := by
  obtain ⟨cl, A, S, q, H⟩ := V
  have hat : cl.slots[j.toNatClampNeg]? = some (.long v) := by rw [hj, own_n32 (by omega), ← hv]; exact (H i hi).1
  exact X.laload hx (j := j) (by rw [eT]; exact A.1) (State.isArrayOf_alike hZ.alike A.2.1) A.2.2 (own_in S q hj hi) hat hg hs hd
theorem own_baload {a : Addr} {n i : Nat} {f : Nat → Value} {j v : Int32} (X : Stand p l e R s m args below meth c T locs cells slots) (hx : p.tables.exec = Jvm.exec) (hZ : Z.Warmed39 s.vm) (eT : T.heap = h) (V : ownA Z h a .byte n f) (hj : j = Int32.ofNat i) (hi : i < n) (hv : f i = .int v)
    {g : JFrame} (hg : g.method = m) {rest : List Value} (hs : g.stack = .int j :: .ref a :: rest) (hd : decode c.code g.pc = .ok (.baload, 1)) :
    ∀ t, Steps p.tables e below (T.setTop { g with pc := g.pc + 1, stack := .int v :: rest }) t → Steps p.tables e below (T.setTop g) t := by
  obtain ⟨cl, A, S, q, H⟩ := V
  have hat : cl.slots[j.toNatClampNeg]? = some (.int v) := by rw [hj, own_n32 (by omega), ← hv]; exact (H i hi).1
  exact X.baloadBytes hx (j := j) (by rw [eT]; exact A.1) (State.isArrayOf_alike hZ.alike A.2.1) A.2.2 (own_in S q hj hi) hat hg hs hd
theorem own_alen {a : Addr} {ty : FieldType} {n : Nat} {f : Nat → Value} (X : Stand p l e R s m args below meth c T locs cells slots) (hx : p.tables.exec = Jvm.exec) (hZ : Z.Warmed39 s.vm) (eT : T.heap = h) (V : ownA Z h a ty n f)
    {g : JFrame} (hg : g.method = m) {rest : List Value} (hs : g.stack = .ref a :: rest) (hd : decode c.code g.pc = .ok (.arraylength, 1)) :
    ∀ t, Steps p.tables e below (T.setTop { g with pc := g.pc + 1, stack := .int (Int32.ofNat n) :: rest }) t → Steps p.tables e below (T.setTop g) t := by
  obtain ⟨cl, A, S, q, H⟩ := V
  intro t k
  refine X.arraylength hx (cell := cl) (by rw [eT]; exact A.1) (State.isArrayOf_alike hZ.alike A.2.1) hg hs hd t ?_
  rw [S]; exact k
theorem ownA.put {a : Addr} {ty : FieldType} {n i : Nat} {f : Nat → Value} {v : Value} (V : ownA Z h a ty n f) (W : Wr h h' a i v) (hv : fits ty v = true) : ownA Z h' a ty n (own_up f i v) := by
  obtain ⟨cl, A, S, q, H⟩ := V
  refine ⟨_, A.same W, by rw [sz_set]; exact S, q, fun k hk => ?_⟩
  by_cases z : k = i
  · subst z
    rw [own_up_hit]
    exact ⟨by simp [Cell.setSlot, S, hk], hv⟩
  · rw [own_up_miss z]
    refine ⟨?_, (H k hk).2⟩
    rw [← (H k hk).1]
    exact Array.getElem?_setIfInBounds_ne (Ne.symm z)
theorem own_iastore {a : Addr} {n i : Nat} {f : Nat → Value} {j x : Int32} (X : Stand p l e R s m args below meth c T locs cells slots) (hx : p.tables.exec = Jvm.exec) (hZ : Z.Warmed39 s.vm) (eT : T.heap = h) (V : ownA Z h a .int n f) (hj : j = Int32.ofNat i) (hi : i < n)
    {g : JFrame} (hg : g.method = m) {rest : List Value} (hs : g.stack = .int x :: .int j :: .ref a :: rest) (hd : decode c.code g.pc = .ok (.iastore, 1)) :
    ∃ T' h', Stand p l e R s m args below meth c T' (locs ++ [⟨a, i⟩]) cells slots ∧ T'.heap = h' ∧ Wr h h' a i (.int x) ∧ ownA Z h' a .int n (own_up f i (.int x)) ∧ ∀ t, Steps p.tables e below (T'.setTop { g with pc := g.pc + 1, stack := rest }) t → Steps p.tables e below (T.setTop g) t := by
  have V0 := V
  obtain ⟨cl, A, S, q, H⟩ := V
  obtain ⟨T', h', X', e', W', st⟩ := stI X hx hZ eT A (j := j) (own_in S q hj hi) hg hs hd
  have ej : j.toNatClampNeg = i := by rw [hj]; exact own_n32 (by omega)
  rw [ej] at X' W'
  exact ⟨T', h', X', e', W', V0.put W' rfl, st⟩
theorem own_lastore {a : Addr} {n i : Nat} {f : Nat → Value} {j : Int32} {x : Int64} (X : Stand p l e R s m args below meth c T locs cells slots) (hx : p.tables.exec = Jvm.exec) (hZ : Z.Warmed39 s.vm) (eT : T.heap = h) (V : ownA Z h a .long n f) (hj : j = Int32.ofNat i) (hi : i < n)
    {g : JFrame} (hg : g.method = m) {rest : List Value} (hs : g.stack = .long x :: .int j :: .ref a :: rest) (hd : decode c.code g.pc = .ok (.lastore, 1)) :
    ∃ T' h', Stand p l e R s m args below meth c T' (locs ++ [⟨a, i⟩]) cells slots ∧ T'.heap = h' ∧ Wr h h' a i (.long x) ∧ ownA Z h' a .long n (own_up f i (.long x)) ∧ ∀ t, Steps p.tables e below (T'.setTop { g with pc := g.pc + 1, stack := rest }) t → Steps p.tables e below (T.setTop g) t := by
  have V0 := V
  obtain ⟨cl, A, S, q, H⟩ := V
  obtain ⟨T', h', X', e', W', st⟩ := stJ X hx hZ eT A (j := j) (own_in S q hj hi) hg hs hd
  have ej : j.toNatClampNeg = i := by rw [hj]; exact own_n32 (by omega)
  rw [ej] at X' W'
  exact ⟨T', h', X', e', W', V0.put W' rfl, st⟩
theorem own_bastore {a : Addr} {n i : Nat} {f : Nat → Value} {j x : Int32} (X : Stand p l e R s m args below meth c T locs cells slots) (hx : p.tables.exec = Jvm.exec) (hZ : Z.Warmed39 s.vm) (eT : T.heap = h) (V : ownA Z h a .byte n f) (hj : j = Int32.ofNat i) (hi : i < n)
    {g : JFrame} (hg : g.method = m) {rest : List Value} (hs : g.stack = .int x :: .int j :: .ref a :: rest) (hd : decode c.code g.pc = .ok (.bastore, 1)) :
    ∃ T' h', Stand p l e R s m args below meth c T' (locs ++ [⟨a, i⟩]) cells slots ∧ T'.heap = h' ∧ Wr h h' a i (.int x.toInt8.toInt32) ∧ ownA Z h' a .byte n (own_up f i (.int x.toInt8.toInt32)) ∧ ∀ t, Steps p.tables e below (T'.setTop { g with pc := g.pc + 1, stack := rest }) t → Steps p.tables e below (T.setTop g) t := by
  have V0 := V
  obtain ⟨cl, A, S, q, H⟩ := V
  obtain ⟨T', h', X', e', W', st⟩ := stB X hx hZ eT A (j := j) (own_in S q hj hi) hg hs hd
  have ej : j.toNatClampNeg = i := by rw [hj]; exact own_n32 (by omega)
  rw [ej] at X' W'
  exact ⟨T', h', X', e', W', V0.put W' (fits_nar_byte _), st⟩
/-- newarray of n places, at most cap -/
theorem own_newarray {aty : ArrayType} (X : Stand p l e R s m args below meth c T locs cells slots) (hx : p.tables.exec = Jvm.exec) (hZ : Z.Warmed39 s.vm) (w : (Jvm.Cond.arrayClass (newarray.typeOf aty)).before a0 Z = true) (eT : T.heap = h) (n : Nat) (cap : Nat) (hn : n ≤ cap) (hb : cap * 8 ≤ 536870912) (hc : cells + 1 ≤ R.cells) (hl : slots + cap ≤ R.slots) {ad : String} (had : "[" ++ (newarray.typeOf aty).toString = ad) (d : fits (newarray.typeOf aty) (defaultValue (newarray.typeOf aty)) = true)
    {z : Int32} (hz : z = Int32.ofNat n) {g : JFrame} (hg : g.method = m) (hd : decode c.code g.pc = .ok (.newarray aty, 2)) {rest : List Value} (hs : g.stack = .int z :: rest) :
    ∃ T' h' b, Stand p l e R s m args below meth c T' locs (cells + 1) (slots + cap) ∧ T'.heap = h' ∧ Ext h h' ∧ ownA Z h' b (newarray.typeOf aty) n (fun _ => defaultValue (newarray.typeOf aty)) ∧ Exa Z h' b ad ∧ b = h.size ∧
      ∀ t, Steps p.tables e below (T'.setTop { g with pc := g.pc + 2, stack := .ref b :: rest }) t → Steps p.tables e below (T.setTop g) t := by
  have hn' : n < 2147483648 := by omega
  subst hz
  obtain ⟨T', h', k, X', e', E, A, Ex, st⟩ := newPE X hx hZ w eT hg hd hs (own_nn hn') (by rw [own_n32 hn']; exact hn) hb hc hl had
  exact ⟨T', h', _, X', e', E, ownA.new A hn' d, Ex, rfl, st⟩
end Core
theorem ownA.int {Z : State} {h : Heap} {a : Addr} {n i : Nat} {f : Nat → Value} (V : ownA Z h a .int n f) (hi : i < n) : ∃ v : Int32, f i = .int v := by
  obtain ⟨c, A, S, q, H⟩ := V
  have q := (H i hi).2
  generalize f i = w at q
  cases w <;> first | exact ⟨_, rfl⟩ | simp [fits] at q
section Core2
variable {p : Program} {l : Launch} {e : Env} {R : Room} {s : State} {m : MethodId} {args : Array Value} {below : List Frame} {meth : Method} {c : Code} {T T' : State} {locs : List Loc} {cells slots : Nat} {Z : State} {a0 : Array Value} {h h0 h' : Heap} {n0 : Nat}
/-- a constructor by its contract -/
theorem own_callC (X : Stand p l e R s m args below meth c T locs cells slots) (hx : p.tables.exec = Jvm.exec) (hZ : Z.Warmed39 s.vm) {own : String} {index : Nat} {y : MethodName} {bytes : ByteArray} {maxL : Nat} (hown : s.vm.findClass own = some m.cls) (hy1 : y.name = "<init>")
    (w1 : (Jvm.Cond.methodLink own index y).before a0 Z = true) (w2 : (Jvm.Cond.instanceMethod y).before a0 Z = true) (w3 : (Jvm.Cond.initialized y.cls).before a0 Z = true) (w4 : (Jvm.Cond.code y bytes maxL none).before a0 Z = true) (hy : y.cls ≠ "java/lang/invoke/MethodHandle" ∧ y.cls ≠ "java/lang/invoke/VarHandle")
    {rm : Room} {b : Addr} {argsL rest : List Value} {Q : Option Value → Heap → List Loc → Prop}
    (K : MetFree l y (head1 [Jvm.Cond.code y bytes maxL none] rm) (fun a U => a = (.ref b :: argsL).toArray ∧ Z.Warmed39 U.vm ∧ U.heap = h0) (fun _ _ _ _ _ => True) (fun _ U o U' => ∃ v L, o = .returned v ∧ Q v U'.heap L ∧ FrameEnd U o U' L rm.cells rm.slots))
    (W : Nat) (hf : rm.frames + 1 ≤ R.frames) (hl : W + (maxL + 11) + rm.locals ≤ R.locals) (eT : T.heap = h0) (hcl : cells + rm.cells ≤ R.cells) (hsl : slots + rm.slots ≤ R.slots)
    {g : JFrame} (hg : g.method = m) (hsize : g.locals.size = c.maxLocals) (hlen : ∀ sig, parseMethodDescriptor y.desc = some sig → argsL.length = sig.parameters.length) (hstack : g.stack = argsL.reverse ++ .ref b :: rest) (hW : 2 * g.monitorRoom + (rest.map fun v => v.category).sum ≤ W) (hdg : decode c.code g.pc = .ok (.invokespecial index, 3)) :
    ∃ (v : Option Value) (T' : State) (L : List Loc), Stand p l e R s m args below meth c T' (locs ++ L) (cells + rm.cells) (slots + rm.slots) ∧ Q v T'.heap L ∧ ∀ t, Steps p.tables e below (T'.setTop { g with pc := g.pc + 3, stack := v.toList ++ rest }) t → Steps p.tables e below (T.setTop g) t := by
  obtain ⟨v, _, ⟨T1, L1, k1, n1⟩, -, X1, ⟨Lc, hQ, l1, y1, z1⟩, st⟩ := X.specialBack hx (y := y) hy1 hown (mvT hZ w1) (mvT hZ w2) (mvT hZ w4) hy (backOf (W := W) K hZ w4 w3 hf hl) (g := g) hg hsize (Steps.refl _) (a := b) (argsL := argsL) (rest := rest) hlen hstack hW hdg (fun _ _ => ⟨rfl, eT, hcl, hsl⟩)
  dsimp only [Pt.U, Pt.locs, Pt.cells, Pt.slots] at X1 l1 y1 z1 st hQ
  subst l1 y1 z1
  exact ⟨v, T1, Lc, X1, hQ, fun t k => st.trans k⟩
/-- an instance method by its contract -/
theorem own_callV (X : Stand p l e R s m args below meth c T locs cells slots) (hx : p.tables.exec = Jvm.exec) (hZ : Z.Warmed39 s.vm) {own : String} {index : Nat} {y : MethodName} {bytes : ByteArray} {maxL : Nat} {ret : Option FieldType} (hown : s.vm.findClass own = some m.cls)
    (w1 : (Jvm.Cond.methodLink own index y).before a0 Z = true) (w2 : (Jvm.Cond.declares y).before a0 Z = true) (w5 : (Jvm.Cond.selects y.cls y y).before a0 Z = true) (w6 : (Jvm.Cond.instanceMethod y).before a0 Z = true) (w3 : (Jvm.Cond.initialized y.cls).before a0 Z = true) (w4 : (Jvm.Cond.code y bytes maxL ret).before a0 Z = true) (hy : y.cls ≠ "java/lang/invoke/MethodHandle" ∧ y.cls ≠ "java/lang/invoke/VarHandle")
    {rm : Room} {b : Addr} {argsL rest : List Value} {Q : Option Value → Heap → List Loc → Prop}
    (K : MetFree l y (head1 [Jvm.Cond.code y bytes maxL ret] rm) (fun a U => a = (.ref b :: argsL).toArray ∧ Z.Warmed39 U.vm ∧ U.heap = h0) (fun _ _ _ _ _ => True) (fun _ U o U' => ∃ v L, o = .returned v ∧ Q v U'.heap L ∧ FrameEnd U o U' L rm.cells rm.slots))
    (W : Nat) (hf : rm.frames + 1 ≤ R.frames) (hl : W + (maxL + 11) + rm.locals ≤ R.locals) (eT : T.heap = h0) (hcl : cells + rm.cells ≤ R.cells) (hsl : slots + rm.slots ≤ R.slots) (Ex : Exa Z h0 b y.cls)
    {g : JFrame} (hg : g.method = m) (hsize : g.locals.size = c.maxLocals) (hlen : ∀ sig, parseMethodDescriptor y.desc = some sig → argsL.length = sig.parameters.length) (hstack : g.stack = argsL.reverse ++ .ref b :: rest) (hW : 2 * g.monitorRoom + (rest.map fun v => v.category).sum ≤ W) (hdg : decode c.code g.pc = .ok (.invokevirtual index, 3)) :
    ∃ (v : Option Value) (T' : State) (L : List Loc), Stand p l e R s m args below meth c T' (locs ++ L) (cells + rm.cells) (slots + rm.slots) ∧ Q v T'.heap L ∧ ∀ t, Steps p.tables e below (T'.setTop { g with pc := g.pc + 3, stack := v.toList ++ rest }) t → Steps p.tables e below (T.setTop g) t := by
  obtain ⟨cq, kq, q1, q2, q3⟩ := isOf hZ eT Ex
  obtain ⟨v, _, ⟨T1, L1, k1, n1⟩, -, X1, ⟨Lc, hQ, l1, y1, z1⟩, st⟩ := X.virtualBack hx (y := y) (z := y) hown (mvT hZ w1) (mvT hZ w2) (notFace_of_selects (args := #[]) (mvT hZ w5)) (mvT hZ w5) (mvT hZ w6) hy (backOf (W := W) K hZ w4 w3 hf hl) q1 q3 (g := g) hg hsize (Steps.refl _) (argsL := argsL) (rest := rest) hlen hstack hW hdg (fun _ _ => ⟨rfl, eT, hcl, hsl⟩)
  dsimp only [Pt.U, Pt.locs, Pt.cells, Pt.slots] at X1 l1 y1 z1 st hQ
  subst l1 y1 z1
  exact ⟨v, T1, Lc, X1, hQ, fun t k => st.trans k⟩
/-- a private method, called by invokevirtual -/
theorem own_callPr (X : Stand p l e R s m args below meth c T locs cells slots) (hx : p.tables.exec = Jvm.exec) (hZ : Z.Warmed39 s.vm) {own : String} {index kk : Nat} {y : MethodName} {bytes : ByteArray} {maxL : Nat} {ret : Option FieldType} (hown : s.vm.findClass own = some m.cls)
    (w1 : (Jvm.Cond.methodLink own index y).before a0 Z = true) (w2 : (Jvm.Cond.privateMethod y).before a0 Z = true) (w5 : (Jvm.Cond.instantiable y.cls kk).before a0 Z = true) (w6 : (Jvm.Cond.instanceMethod y).before a0 Z = true) (w3 : (Jvm.Cond.initialized y.cls).before a0 Z = true) (w4 : (Jvm.Cond.code y bytes maxL ret).before a0 Z = true) (hy : y.cls ≠ "java/lang/invoke/MethodHandle" ∧ y.cls ≠ "java/lang/invoke/VarHandle")
    {rm : Room} {b : Addr} {argsL rest : List Value} {Q : Option Value → Heap → List Loc → Prop}
    (K : MetFree l y (head1 [Jvm.Cond.code y bytes maxL ret] rm) (fun a U => a = (.ref b :: argsL).toArray ∧ Z.Warmed39 U.vm ∧ U.heap = h0) (fun _ _ _ _ _ => True) (fun _ U o U' => ∃ v L, o = .returned v ∧ Q v U'.heap L ∧ FrameEnd U o U' L rm.cells rm.slots))
    (W : Nat) (hf : rm.frames + 1 ≤ R.frames) (hl : W + (maxL + 11) + rm.locals ≤ R.locals) (eT : T.heap = h0) (hcl : cells + rm.cells ≤ R.cells) (hsl : slots + rm.slots ≤ R.slots) (Ex : Exa Z h0 b y.cls)
    {g : JFrame} (hg : g.method = m) (hsize : g.locals.size = c.maxLocals) (hlen : ∀ sig, parseMethodDescriptor y.desc = some sig → argsL.length = sig.parameters.length) (hstack : g.stack = argsL.reverse ++ .ref b :: rest) (hW : 2 * g.monitorRoom + (rest.map fun v => v.category).sum ≤ W) (hdg : decode c.code g.pc = .ok (.invokevirtual index, 3)) :
    ∃ (v : Option Value) (T' : State) (L : List Loc), Stand p l e R s m args below meth c T' (locs ++ L) (cells + rm.cells) (slots + rm.slots) ∧ Q v T'.heap L ∧ ∀ t, Steps p.tables e below (T'.setTop { g with pc := g.pc + 3, stack := v.toList ++ rest }) t → Steps p.tables e below (T.setTop g) t := by
  obtain ⟨cq, q, q'⟩ := Ex.cell
  have w5' : (Jvm.Cond.instantiable y.cls kk).before args s = true := mvT hZ w5
  obtain ⟨ci, ki, i1, i2, -, i4, -⟩ := Cond.instantiable_spec w5'
  have ni : ki.isInterface = false := by
    cases hq : ki.isInterface with
    | false => rfl
    | true => rw [hq] at i4; exact absurd i4 (by simp)
  have hp : s.PrivateAt y := Cond.privateMethod_at (mvP hZ w2 (args := #[]))
  have hsel : (Jvm.Cond.selects y.cls y y).before args s = true := selects_self_of_private i1 i2 ni hp (mvT hZ w6) hy
  obtain ⟨v, _, ⟨T1, L1, k1, n1⟩, -, X1, ⟨Lc, hQ, l1, y1, z1⟩, st⟩ := X.privateBack hx (y := y) hown (mvT hZ w1) (mvT hZ w6) hsel hp (mvT hZ w4) hy (backOf (W := W) K hZ w4 w3 hf hl) (g := g) hg hsize (Steps.refl _) (a := b) (by rw [eT]; exact q) q' (argsL := argsL) (rest := rest) hlen hstack hW hdg (fun _ _ => ⟨rfl, eT, hcl, hsl⟩)
  dsimp only [Pt.U, Pt.locs, Pt.cells, Pt.slots] at X1 l1 y1 z1 st hQ
  subst l1 y1 z1
  exact ⟨v, T1, Lc, X1, hQ, fun t k => st.trans k⟩
theorem ownA.arv {a : Addr} {ty : FieldType} {n : Nat} {f : Nat → Value} (d : Value) (V : ownA Z h a ty n f) : ∃ k, Arv Z h a k ty (Int32.ofNat n) ((List.range n).map f) d := by
  obtain ⟨cl, A, S, q, H⟩ := V
  have g : ∀ i, i < n → ((List.range n).map f).getD i d = f i := fun i hi => by simp [List.getD_eq_getElem?_getD, hi]
  refine ⟨_, cl, A, rfl, by rw [S, own_n32 q], own_nn q, fun i hi => ?_, fun i hi => ?_⟩
  · rw [g i (by omega)]; exact (H i (by omega)).1
  · rw [g i (by omega)]; exact (H i (by omega)).2
theorem ownA.ofArv {a : Addr} {k : ClassId} {ty : FieldType} {n : Nat} {vs : List Value} {d : Value} (q : n < 2147483648) (V : Arv Z h a k ty (Int32.ofNat n) vs d) : ownA Z h a ty n (fun i => vs.getD i d) := by
  obtain ⟨cl, A, -, S, -, H, G⟩ := V
  rw [own_n32 q] at S
  exact ⟨cl, A, S, q, fun i hi => ⟨H i (by omega), G i (by omega)⟩⟩
end Core2
theorem own_idx (j : Int32) (n : Nat) (q0 : 0 ≤ j.toInt) (q1 : j.toInt < n) : ∃ i, i < n ∧ j = Int32.ofNat i := by
  have q2 := j.toInt_lt
  refine ⟨j.toInt.toNat, by omega, ?_⟩
  apply Int32.toInt_inj.mp
  rw [Int32.toInt_ofNat_of_lt (by omega)]
  omega
theorem own_ltn {i n : Nat} (q : i < n) (hn : n < 2147483648) : Int32.ofNat i < Int32.ofNat n := by
  rw [Int32.lt_iff_toInt_lt, Int32.toInt_ofNat_of_lt (by omega), Int32.toInt_ofNat_of_lt hn]
  omega
theorem own_lrem {p : Program} {l : Launch} {e : Env} {R : Room} {s : State} {m : MethodId} {args : Array Value} {below : List Frame} {meth : Method} {c : Code} {T : State} {locs : List Loc} {cells slots : Nat} {g : JFrame} {target : State} (X : Stand p l e R s m args below meth c T locs cells slots) (hx : p.tables.exec = Jvm.exec) (hg : g.method = m) {x y : Int64} {rest : List Value} (hd : decode c.code g.pc = .ok (.lrem, 1)) (hs : g.stack = .long y :: .long x :: rest) (hy : y ≠ 0)
    (hr : Steps p.tables e below (T.setTop { g with pc := g.pc + 1, stack := .long (x % y) :: rest }) target) : Steps p.tables e below (T.setTop g) target := by
  have q : x - (x / y) * y = x % y := lrem_mod x y
  exact XS.lrem X.here hx hg hd hs hy (by rw [q]; exact hr)
theorem d1_0 : decode jdk_29_method_69_code 0 = .ok (.iload_n 0, 1) := by decide +kernel
theorem d1_1 : decode jdk_29_method_69_code 1 = .ok (.iload_n 1, 1) := by decide +kernel
theorem d1_2 : decode jdk_29_method_69_code 2 = .ok (.if_icmp .gt 7, 3) := by decide +kernel
theorem d1_5 : decode jdk_29_method_69_code 5 = .ok (.iload_n 0, 1) := by decide +kernel
theorem d1_6 : decode jdk_29_method_69_code 6 = .ok (.goto 4, 3) := by decide +kernel
theorem d1_9 : decode jdk_29_method_69_code 9 = .ok (.iload_n 1, 1) := by decide +kernel
theorem d1_10 : decode jdk_29_method_69_code 10 = .ok (.ireturn, 1) := by decide +kernel
abbrev R1 : Room := { frames := 0, cells := 0, slots := 0, locals := 0 }
def f1_0 (x0 : Int32) (x1 : Int32) : Int32 := (if x1 < x0 then x1 else x0)
set_option maxRecDepth 65536 in
set_option maxHeartbeats 40000000 in
theorem b1_0 {p : Program} {l : Launch} {e : Env} {s : State} {m : MethodId} {args : Array Value} {below : List Frame} {meth : Method} {c : Code} {T0 : State} {locs : List Loc} {Z : State} {a0 : Array Value} {h0 : Heap} {n0 : Nat} (hx : p.tables.exec = Jvm.exec) (hZ : Z.Warmed39 s.vm) (hw : ∀ d ∈ tables_1, d.before a0 Z = true) (hby : c.code = jdk_29_method_69_code) (hml : c.maxLocals = 2) (hown : s.vm.findClass "java/lang/Math" = some m.cls) (hret : meth.sig.returnType = (some .int)) (hlk : meth.locks = false) (X0 : Stand p l e R1 s m args below meth c T0 locs 0 0) (e0 : T0.heap = h0) (N0 : Fr n0 locs) (x0 : Int32) (x1 : Int32) (r : Int32) (hr : r = f1_0 x0 x1) :
    ownGo p.tables e below T0 (mkF m 0 #[.val (.int x0), .val (.int x1)] []) (ownDone s (ownPure (.int r) h0 n0) 0 0) := by
  have hr0 : r = (if x1 < x0 then x1 else x0) := hr
  refine ownGo.st (fun _ k => XS.iloadN X0.here hx rfl (hb hby d1_0) rfl k) ?_
  show ownGo p.tables e below T0 (mkF m 1 #[.val (.int x0), .val (.int x1)] [(.int x0)]) _
  refine ownGo.st (fun _ k => XS.iloadN X0.here hx rfl (hb hby d1_1) rfl k) ?_
  show ownGo p.tables e below T0 (mkF m 2 #[.val (.int x0), .val (.int x1)] [(.int x1), (.int x0)]) _
  by_cases hc2 : x1 < x0
  · have hr1 := hr0.trans (if_pos hc2)
    refine ownGo.st (fun _ k => XS.icmpYes X0.here hx rfl (pc0 := 2) (pc' := 9) rfl (hb hby d1_2) rfl (tlt hc2).2.2.1 (by decide) (by decide) k) ?_
    show ownGo p.tables e below T0 (mkF m 9 #[.val (.int x0), .val (.int x1)] []) _
    refine ownGo.st (fun _ k => XS.iloadN X0.here hx rfl (hb hby d1_9) rfl k) ?_
    show ownGo p.tables e below T0 (mkF m 10 #[.val (.int x0), .val (.int x1)] [(.int x1)]) _
    exact own_retI X0 hx hlk hret (hb hby d1_10) ⟨congrArg (fun z => some (Value.int z)) hr1.symm, N0, e0⟩ (Nat.le_refl _) (Nat.le_refl _)
  · have hr1 := hr0.trans (if_neg hc2)
    refine ownGo.st (fun _ k => XS.icmpNo X0.here hx rfl (hb hby d1_2) rfl (flt hc2).2.2.1 k) ?_
    show ownGo p.tables e below T0 (mkF m 5 #[.val (.int x0), .val (.int x1)] []) _
    refine ownGo.st (fun _ k => XS.iloadN X0.here hx rfl (hb hby d1_5) rfl k) ?_
    show ownGo p.tables e below T0 (mkF m 6 #[.val (.int x0), .val (.int x1)] [(.int x0)]) _
    refine ownGo.st (fun _ k => XS.goto X0.here hx rfl (pc0 := 6) (pc' := 10) rfl (hb hby d1_6) (by decide) (by decide) k) ?_
    show ownGo p.tables e below T0 (mkF m 10 #[.val (.int x0), .val (.int x1)] [(.int x0)]) _
    exact own_retI X0 hx hlk hret (hb hby d1_10) ⟨congrArg (fun z => some (Value.int z)) hr1.symm, N0, e0⟩ (Nat.le_refl _) (Nat.le_refl _)
abbrev F1 (x0 : Int32) (x1 : Int32) : Int32 := f1_0 x0 x1
theorem ef_1 (m : MethodId) (x0 : Int32) (x1 : Int32) : entryFrame m #[(.int x0), (.int x1)] 2 = mkF m 0 #[.val (.int x0), .val (.int x1)] [] := by first | (simp [entryFrame, mkF, argsToLocals, Value.category]; done) | rfl
set_option maxRecDepth 65536 in
set_option maxHeartbeats 40000000 in
theorem rm1 (l : Launch) (Z : State) (a0 : Array Value) (hw : ∀ d ∈ tables_1, d.before a0 Z = true) (x0 : Int32) (x1 : Int32) (h0 : Heap) (n0 : Nat)  :
    MetFree l (⟨"java/lang/Math", "min", "(II)I"⟩ : MethodName) (head1 [Jvm.Cond.code (⟨"java/lang/Math", "min", "(II)I"⟩ : MethodName) jdk_29_method_69_code 2 (some .int)] R1) (fun a U => a = #[(.int x0), (.int x1)] ∧ Z.Warmed39 U.vm ∧ U.heap = h0) (fun _ _ _ _ _ => True) (fun _ U o U' => ∃ v L, o = .returned v ∧ ownPure (.int (F1 x0 x1)) h0 n0 v U'.heap L ∧ FrameEnd U o U' L R1.cells R1.slots) := by
  refine MetFree.of_bodySF (Jvm.Free.JP.mathPlain rfl (by decide +kernel)) hisR ?_
  intro p e s m args below meth c s₁ Bd hml0 hP hK
  obtain ⟨rfl, hZ, hh⟩ := hP
  have hx := Bd.exec
  have hby := Bd.bytes
  have hml : c.maxLocals = 2 := hml0
  have hown : s.vm.findClass "java/lang/Math" = some m.cls := findClass_of_methodNamed Bd.named
  have hnm := (name_of_methodNamed Bd.named Bd.method).1
  have hret := Bd.returns
  have hlk : meth.locks = false := BodyLoose.notSynchronized Bd
  have X0 : Stand p l e R1 s m #[(.int x0), (.int x1)] below meth c s₁ [] 0 0 := Stand.of_body Bd
  have e0 : s₁.heap = h0 := by rw [← hh, Bd.state]; rfl
  have N0 := Fr.nil n0
  show ownGo p.tables e below s₁ (entryFrame m #[(.int x0), (.int x1)] 2) (ownDone s (ownPure (.int (F1 x0 x1)) h0 n0) R1.cells R1.slots)
  rw [ef_1 m x0 x1]
  exact b1_0 hx hZ hw hby hml hown hret hlk X0 e0 N0 x0 x1 _ rfl
theorem d6_0 : decode jdk_33_method_47_code 0 = .ok (.iload_n 0, 1) := by decide +kernel
theorem d6_1 : decode jdk_33_method_47_code 1 = .ok (.ifCond .gt 14, 3) := by decide +kernel
theorem d6_4 : decode jdk_33_method_47_code 4 = .ok (.iload_n 0, 1) := by decide +kernel
theorem d6_5 : decode jdk_33_method_47_code 5 = .ok (.ifCond .ne 8, 3) := by decide +kernel
theorem d6_8 : decode jdk_33_method_47_code 8 = .ok (.bipush 32, 2) := by decide +kernel
theorem d6_10 : decode jdk_33_method_47_code 10 = .ok (.goto 4, 3) := by decide +kernel
theorem d6_13 : decode jdk_33_method_47_code 13 = .ok (.iconst 0, 1) := by decide +kernel
theorem d6_14 : decode jdk_33_method_47_code 14 = .ok (.ireturn, 1) := by decide +kernel
theorem d6_15 : decode jdk_33_method_47_code 15 = .ok (.bipush 31, 2) := by decide +kernel
theorem d6_17 : decode jdk_33_method_47_code 17 = .ok (.istore_n 1, 1) := by decide +kernel
theorem d6_18 : decode jdk_33_method_47_code 18 = .ok (.iload_n 0, 1) := by decide +kernel
theorem d6_19 : decode jdk_33_method_47_code 19 = .ok (.ldc_w 264, 3) := by decide +kernel
theorem d6_22 : decode jdk_33_method_47_code 22 = .ok (.if_icmp .lt 11, 3) := by decide +kernel
theorem d6_25 : decode jdk_33_method_47_code 25 = .ok (.iinc 1 (-16), 3) := by decide +kernel
theorem d6_28 : decode jdk_33_method_47_code 28 = .ok (.iload_n 0, 1) := by decide +kernel
theorem d6_29 : decode jdk_33_method_47_code 29 = .ok (.bipush 16, 2) := by decide +kernel
theorem d6_31 : decode jdk_33_method_47_code 31 = .ok (.iushr, 1) := by decide +kernel
theorem d6_32 : decode jdk_33_method_47_code 32 = .ok (.istore_n 0, 1) := by decide +kernel
theorem d6_33 : decode jdk_33_method_47_code 33 = .ok (.iload_n 0, 1) := by decide +kernel
theorem d6_34 : decode jdk_33_method_47_code 34 = .ok (.sipush 256, 3) := by decide +kernel
theorem d6_37 : decode jdk_33_method_47_code 37 = .ok (.if_icmp .lt 11, 3) := by decide +kernel
theorem d6_40 : decode jdk_33_method_47_code 40 = .ok (.iinc 1 (-8), 3) := by decide +kernel
theorem d6_43 : decode jdk_33_method_47_code 43 = .ok (.iload_n 0, 1) := by decide +kernel
theorem d6_44 : decode jdk_33_method_47_code 44 = .ok (.bipush 8, 2) := by decide +kernel
theorem d6_46 : decode jdk_33_method_47_code 46 = .ok (.iushr, 1) := by decide +kernel
theorem d6_47 : decode jdk_33_method_47_code 47 = .ok (.istore_n 0, 1) := by decide +kernel
theorem d6_48 : decode jdk_33_method_47_code 48 = .ok (.iload_n 0, 1) := by decide +kernel
theorem d6_49 : decode jdk_33_method_47_code 49 = .ok (.bipush 16, 2) := by decide +kernel
theorem d6_51 : decode jdk_33_method_47_code 51 = .ok (.if_icmp .lt 10, 3) := by decide +kernel
theorem d6_54 : decode jdk_33_method_47_code 54 = .ok (.iinc 1 (-4), 3) := by decide +kernel
theorem d6_57 : decode jdk_33_method_47_code 57 = .ok (.iload_n 0, 1) := by decide +kernel
theorem d6_58 : decode jdk_33_method_47_code 58 = .ok (.iconst 4, 1) := by decide +kernel
theorem d6_59 : decode jdk_33_method_47_code 59 = .ok (.iushr, 1) := by decide +kernel
theorem d6_60 : decode jdk_33_method_47_code 60 = .ok (.istore_n 0, 1) := by decide +kernel
theorem d6_61 : decode jdk_33_method_47_code 61 = .ok (.iload_n 0, 1) := by decide +kernel
theorem d6_62 : decode jdk_33_method_47_code 62 = .ok (.iconst 4, 1) := by decide +kernel
theorem d6_63 : decode jdk_33_method_47_code 63 = .ok (.if_icmp .lt 10, 3) := by decide +kernel
theorem d6_66 : decode jdk_33_method_47_code 66 = .ok (.iinc 1 (-2), 3) := by decide +kernel
theorem d6_69 : decode jdk_33_method_47_code 69 = .ok (.iload_n 0, 1) := by decide +kernel
theorem d6_70 : decode jdk_33_method_47_code 70 = .ok (.iconst 2, 1) := by decide +kernel
theorem d6_71 : decode jdk_33_method_47_code 71 = .ok (.iushr, 1) := by decide +kernel
theorem d6_72 : decode jdk_33_method_47_code 72 = .ok (.istore_n 0, 1) := by decide +kernel
theorem d6_73 : decode jdk_33_method_47_code 73 = .ok (.iload_n 1, 1) := by decide +kernel
theorem d6_74 : decode jdk_33_method_47_code 74 = .ok (.iload_n 0, 1) := by decide +kernel
theorem d6_75 : decode jdk_33_method_47_code 75 = .ok (.iconst 1, 1) := by decide +kernel
theorem d6_76 : decode jdk_33_method_47_code 76 = .ok (.iushr, 1) := by decide +kernel
theorem d6_77 : decode jdk_33_method_47_code 77 = .ok (.isub, 1) := by decide +kernel
theorem d6_78 : decode jdk_33_method_47_code 78 = .ok (.ireturn, 1) := by decide +kernel
abbrev R6 : Room := { frames := 0, cells := 0, slots := 0, locals := 0 }
def f6_73 (x0 : Int32) (x1 : Int32) : Int32 := (x1 - (own_iushr x0 (1 : Int32)))
set_option maxRecDepth 65536 in
set_option maxHeartbeats 40000000 in
theorem b6_73 {p : Program} {l : Launch} {e : Env} {s : State} {m : MethodId} {args : Array Value} {below : List Frame} {meth : Method} {c : Code} {T0 : State} {locs : List Loc} {Z : State} {a0 : Array Value} {h0 : Heap} {n0 : Nat} (hx : p.tables.exec = Jvm.exec) (hZ : Z.Warmed39 s.vm) (hw : ∀ d ∈ tables_1, d.before a0 Z = true) (hby : c.code = jdk_33_method_47_code) (hml : c.maxLocals = 2) (hown : s.vm.findClass "java/lang/Integer" = some m.cls) (hret : meth.sig.returnType = (some .int)) (hlk : meth.locks = false) (X0 : Stand p l e R6 s m args below meth c T0 locs 0 0) (e0 : T0.heap = h0) (N0 : Fr n0 locs) (x0 : Int32) (x1 : Int32) (r : Int32) (hr : r = f6_73 x0 x1) :
    ownGo p.tables e below T0 (mkF m 73 #[.val (.int x0), .val (.int x1)] []) (ownDone s (ownPure (.int r) h0 n0) 0 0) := by
  have hr0 : r = (x1 - (own_iushr x0 (1 : Int32))) := hr
  refine ownGo.st (fun _ k => XS.iloadN X0.here hx rfl (hb hby d6_73) rfl k) ?_
  show ownGo p.tables e below T0 (mkF m 74 #[.val (.int x0), .val (.int x1)] [(.int x1)]) _
  refine ownGo.st (fun _ k => XS.iloadN X0.here hx rfl (hb hby d6_74) rfl k) ?_
  show ownGo p.tables e below T0 (mkF m 75 #[.val (.int x0), .val (.int x1)] [(.int x0), (.int x1)]) _
  refine ownGo.st (fun _ k => XS.iconst X0.here hx rfl (hb hby d6_75)  k) ?_
  show ownGo p.tables e below T0 (mkF m 76 #[.val (.int x0), .val (.int x1)] [(.int (1 : Int32)), (.int x0), (.int x1)]) _
  refine ownGo.st (fun _ k => XS.iushr X0.here hx rfl (hb hby d6_76) rfl k) ?_
  show ownGo p.tables e below T0 (mkF m 77 #[.val (.int x0), .val (.int x1)] [(.int (own_iushr x0 (1 : Int32))), (.int x1)]) _
  refine ownGo.st (fun _ k => XS.isub X0.here hx rfl (hb hby d6_77) rfl k) ?_
  show ownGo p.tables e below T0 (mkF m 78 #[.val (.int x0), .val (.int x1)] [(.int (x1 - (own_iushr x0 (1 : Int32))))]) _
  exact own_retI X0 hx hlk hret (hb hby d6_78) ⟨congrArg (fun z => some (Value.int z)) hr0.symm, N0, e0⟩ (Nat.le_refl _) (Nat.le_refl _)
def f6_61 (x0 : Int32) (x1 : Int32) : Int32 := (if x0 < (4 : Int32) then (f6_73 x0 x1) else (f6_73 (own_iushr x0 (2 : Int32)) (x1 + (-2 : Int32))))
set_option maxRecDepth 65536 in
set_option maxHeartbeats 40000000 in
theorem b6_61 {p : Program} {l : Launch} {e : Env} {s : State} {m : MethodId} {args : Array Value} {below : List Frame} {meth : Method} {c : Code} {T0 : State} {locs : List Loc} {Z : State} {a0 : Array Value} {h0 : Heap} {n0 : Nat} (hx : p.tables.exec = Jvm.exec) (hZ : Z.Warmed39 s.vm) (hw : ∀ d ∈ tables_1, d.before a0 Z = true) (hby : c.code = jdk_33_method_47_code) (hml : c.maxLocals = 2) (hown : s.vm.findClass "java/lang/Integer" = some m.cls) (hret : meth.sig.returnType = (some .int)) (hlk : meth.locks = false) (X0 : Stand p l e R6 s m args below meth c T0 locs 0 0) (e0 : T0.heap = h0) (N0 : Fr n0 locs) (x0 : Int32) (x1 : Int32) (r : Int32) (hr : r = f6_61 x0 x1) :
    ownGo p.tables e below T0 (mkF m 61 #[.val (.int x0), .val (.int x1)] []) (ownDone s (ownPure (.int r) h0 n0) 0 0) := by
  have hr0 : r = (if x0 < (4 : Int32) then (f6_73 x0 x1) else (f6_73 (own_iushr x0 (2 : Int32)) (x1 + (-2 : Int32)))) := hr
  refine ownGo.st (fun _ k => XS.iloadN X0.here hx rfl (hb hby d6_61) rfl k) ?_
  show ownGo p.tables e below T0 (mkF m 62 #[.val (.int x0), .val (.int x1)] [(.int x0)]) _
  refine ownGo.st (fun _ k => XS.iconst X0.here hx rfl (hb hby d6_62)  k) ?_
  show ownGo p.tables e below T0 (mkF m 63 #[.val (.int x0), .val (.int x1)] [(.int (4 : Int32)), (.int x0)]) _
  by_cases hc63 : x0 < (4 : Int32)
  · have hr6 := hr0.trans (if_pos hc63)
    refine ownGo.st (fun _ k => XS.icmpYes X0.here hx rfl (pc0 := 63) (pc' := 73) rfl (hb hby d6_63) rfl (tlt hc63).1 (by decide) (by decide) k) ?_
    show ownGo p.tables e below T0 (mkF m 73 #[.val (.int x0), .val (.int x1)] []) _
    exact b6_73 hx hZ hw hby hml hown hret hlk X0 e0 N0 x0 x1 r hr6
  · have hr6 := hr0.trans (if_neg hc63)
    refine ownGo.st (fun _ k => XS.icmpNo X0.here hx rfl (hb hby d6_63) rfl (flt hc63).1 k) ?_
    show ownGo p.tables e below T0 (mkF m 66 #[.val (.int x0), .val (.int x1)] []) _
    refine ownGo.st (fun _ k => XS.iinc X0.here hx rfl (hb hby d6_66) rfl (l' := #[.val (.int x0), .val (.int (x1 + (-2 : Int32)))]) rfl k) ?_
    show ownGo p.tables e below T0 (mkF m 69 #[.val (.int x0), .val (.int (x1 + (-2 : Int32)))] []) _
    refine ownGo.st (fun _ k => XS.iloadN X0.here hx rfl (hb hby d6_69) rfl k) ?_
    show ownGo p.tables e below T0 (mkF m 70 #[.val (.int x0), .val (.int (x1 + (-2 : Int32)))] [(.int x0)]) _
    refine ownGo.st (fun _ k => XS.iconst X0.here hx rfl (hb hby d6_70)  k) ?_
    show ownGo p.tables e below T0 (mkF m 71 #[.val (.int x0), .val (.int (x1 + (-2 : Int32)))] [(.int (2 : Int32)), (.int x0)]) _
    refine ownGo.st (fun _ k => XS.iushr X0.here hx rfl (hb hby d6_71) rfl k) ?_
    show ownGo p.tables e below T0 (mkF m 72 #[.val (.int x0), .val (.int (x1 + (-2 : Int32)))] [(.int (own_iushr x0 (2 : Int32)))]) _
    refine ownGo.st (fun _ k => XS.istoreN X0.here hx rfl (hb hby d6_72) rfl (l' := #[.val (.int (own_iushr x0 (2 : Int32))), .val (.int (x1 + (-2 : Int32)))]) rfl k) ?_
    show ownGo p.tables e below T0 (mkF m 73 #[.val (.int (own_iushr x0 (2 : Int32))), .val (.int (x1 + (-2 : Int32)))] []) _
    exact b6_73 hx hZ hw hby hml hown hret hlk X0 e0 N0 (own_iushr x0 (2 : Int32)) (x1 + (-2 : Int32)) r hr6
def f6_48 (x0 : Int32) (x1 : Int32) : Int32 := (if x0 < (16 : Int32) then (f6_61 x0 x1) else (f6_61 (own_iushr x0 (4 : Int32)) (x1 + (-4 : Int32))))
set_option maxRecDepth 65536 in
set_option maxHeartbeats 40000000 in
theorem b6_48 {p : Program} {l : Launch} {e : Env} {s : State} {m : MethodId} {args : Array Value} {below : List Frame} {meth : Method} {c : Code} {T0 : State} {locs : List Loc} {Z : State} {a0 : Array Value} {h0 : Heap} {n0 : Nat} (hx : p.tables.exec = Jvm.exec) (hZ : Z.Warmed39 s.vm) (hw : ∀ d ∈ tables_1, d.before a0 Z = true) (hby : c.code = jdk_33_method_47_code) (hml : c.maxLocals = 2) (hown : s.vm.findClass "java/lang/Integer" = some m.cls) (hret : meth.sig.returnType = (some .int)) (hlk : meth.locks = false) (X0 : Stand p l e R6 s m args below meth c T0 locs 0 0) (e0 : T0.heap = h0) (N0 : Fr n0 locs) (x0 : Int32) (x1 : Int32) (r : Int32) (hr : r = f6_48 x0 x1) :
    ownGo p.tables e below T0 (mkF m 48 #[.val (.int x0), .val (.int x1)] []) (ownDone s (ownPure (.int r) h0 n0) 0 0) := by
  have hr0 : r = (if x0 < (16 : Int32) then (f6_61 x0 x1) else (f6_61 (own_iushr x0 (4 : Int32)) (x1 + (-4 : Int32)))) := hr
  refine ownGo.st (fun _ k => XS.iloadN X0.here hx rfl (hb hby d6_48) rfl k) ?_
  show ownGo p.tables e below T0 (mkF m 49 #[.val (.int x0), .val (.int x1)] [(.int x0)]) _
  refine ownGo.st (fun _ k => XS.bipush X0.here hx rfl (hb hby d6_49)  k) ?_
  show ownGo p.tables e below T0 (mkF m 51 #[.val (.int x0), .val (.int x1)] [(.int (16 : Int32)), (.int x0)]) _
  by_cases hc51 : x0 < (16 : Int32)
  · have hr5 := hr0.trans (if_pos hc51)
    refine ownGo.st (fun _ k => XS.icmpYes X0.here hx rfl (pc0 := 51) (pc' := 61) rfl (hb hby d6_51) rfl (tlt hc51).1 (by decide) (by decide) k) ?_
    show ownGo p.tables e below T0 (mkF m 61 #[.val (.int x0), .val (.int x1)] []) _
    exact b6_61 hx hZ hw hby hml hown hret hlk X0 e0 N0 x0 x1 r hr5
  · have hr5 := hr0.trans (if_neg hc51)
    refine ownGo.st (fun _ k => XS.icmpNo X0.here hx rfl (hb hby d6_51) rfl (flt hc51).1 k) ?_
    show ownGo p.tables e below T0 (mkF m 54 #[.val (.int x0), .val (.int x1)] []) _
    refine ownGo.st (fun _ k => XS.iinc X0.here hx rfl (hb hby d6_54) rfl (l' := #[.val (.int x0), .val (.int (x1 + (-4 : Int32)))]) rfl k) ?_
    show ownGo p.tables e below T0 (mkF m 57 #[.val (.int x0), .val (.int (x1 + (-4 : Int32)))] []) _
    refine ownGo.st (fun _ k => XS.iloadN X0.here hx rfl (hb hby d6_57) rfl k) ?_
    show ownGo p.tables e below T0 (mkF m 58 #[.val (.int x0), .val (.int (x1 + (-4 : Int32)))] [(.int x0)]) _
    refine ownGo.st (fun _ k => XS.iconst X0.here hx rfl (hb hby d6_58)  k) ?_
    show ownGo p.tables e below T0 (mkF m 59 #[.val (.int x0), .val (.int (x1 + (-4 : Int32)))] [(.int (4 : Int32)), (.int x0)]) _
    refine ownGo.st (fun _ k => XS.iushr X0.here hx rfl (hb hby d6_59) rfl k) ?_
    show ownGo p.tables e below T0 (mkF m 60 #[.val (.int x0), .val (.int (x1 + (-4 : Int32)))] [(.int (own_iushr x0 (4 : Int32)))]) _
    refine ownGo.st (fun _ k => XS.istoreN X0.here hx rfl (hb hby d6_60) rfl (l' := #[.val (.int (own_iushr x0 (4 : Int32))), .val (.int (x1 + (-4 : Int32)))]) rfl k) ?_
    show ownGo p.tables e below T0 (mkF m 61 #[.val (.int (own_iushr x0 (4 : Int32))), .val (.int (x1 + (-4 : Int32)))] []) _
    exact b6_61 hx hZ hw hby hml hown hret hlk X0 e0 N0 (own_iushr x0 (4 : Int32)) (x1 + (-4 : Int32)) r hr5
def f6_33 (x0 : Int32) (x1 : Int32) : Int32 := (if x0 < (256 : Int32) then (f6_48 x0 x1) else (f6_48 (own_iushr x0 (8 : Int32)) (x1 + (-8 : Int32))))
set_option maxRecDepth 65536 in
set_option maxHeartbeats 40000000 in
theorem b6_33 {p : Program} {l : Launch} {e : Env} {s : State} {m : MethodId} {args : Array Value} {below : List Frame} {meth : Method} {c : Code} {T0 : State} {locs : List Loc} {Z : State} {a0 : Array Value} {h0 : Heap} {n0 : Nat} (hx : p.tables.exec = Jvm.exec) (hZ : Z.Warmed39 s.vm) (hw : ∀ d ∈ tables_1, d.before a0 Z = true) (hby : c.code = jdk_33_method_47_code) (hml : c.maxLocals = 2) (hown : s.vm.findClass "java/lang/Integer" = some m.cls) (hret : meth.sig.returnType = (some .int)) (hlk : meth.locks = false) (X0 : Stand p l e R6 s m args below meth c T0 locs 0 0) (e0 : T0.heap = h0) (N0 : Fr n0 locs) (x0 : Int32) (x1 : Int32) (r : Int32) (hr : r = f6_33 x0 x1) :
    ownGo p.tables e below T0 (mkF m 33 #[.val (.int x0), .val (.int x1)] []) (ownDone s (ownPure (.int r) h0 n0) 0 0) := by
  have hr0 : r = (if x0 < (256 : Int32) then (f6_48 x0 x1) else (f6_48 (own_iushr x0 (8 : Int32)) (x1 + (-8 : Int32)))) := hr
  refine ownGo.st (fun _ k => XS.iloadN X0.here hx rfl (hb hby d6_33) rfl k) ?_
  show ownGo p.tables e below T0 (mkF m 34 #[.val (.int x0), .val (.int x1)] [(.int x0)]) _
  refine ownGo.st (fun _ k => XS.sipush X0.here hx rfl (hb hby d6_34)  k) ?_
  show ownGo p.tables e below T0 (mkF m 37 #[.val (.int x0), .val (.int x1)] [(.int (256 : Int32)), (.int x0)]) _
  by_cases hc37 : x0 < (256 : Int32)
  · have hr4 := hr0.trans (if_pos hc37)
    refine ownGo.st (fun _ k => XS.icmpYes X0.here hx rfl (pc0 := 37) (pc' := 48) rfl (hb hby d6_37) rfl (tlt hc37).1 (by decide) (by decide) k) ?_
    show ownGo p.tables e below T0 (mkF m 48 #[.val (.int x0), .val (.int x1)] []) _
    exact b6_48 hx hZ hw hby hml hown hret hlk X0 e0 N0 x0 x1 r hr4
  · have hr4 := hr0.trans (if_neg hc37)
    refine ownGo.st (fun _ k => XS.icmpNo X0.here hx rfl (hb hby d6_37) rfl (flt hc37).1 k) ?_
    show ownGo p.tables e below T0 (mkF m 40 #[.val (.int x0), .val (.int x1)] []) _
    refine ownGo.st (fun _ k => XS.iinc X0.here hx rfl (hb hby d6_40) rfl (l' := #[.val (.int x0), .val (.int (x1 + (-8 : Int32)))]) rfl k) ?_
    show ownGo p.tables e below T0 (mkF m 43 #[.val (.int x0), .val (.int (x1 + (-8 : Int32)))] []) _
    refine ownGo.st (fun _ k => XS.iloadN X0.here hx rfl (hb hby d6_43) rfl k) ?_
    show ownGo p.tables e below T0 (mkF m 44 #[.val (.int x0), .val (.int (x1 + (-8 : Int32)))] [(.int x0)]) _
    refine ownGo.st (fun _ k => XS.bipush X0.here hx rfl (hb hby d6_44)  k) ?_
    show ownGo p.tables e below T0 (mkF m 46 #[.val (.int x0), .val (.int (x1 + (-8 : Int32)))] [(.int (8 : Int32)), (.int x0)]) _
    refine ownGo.st (fun _ k => XS.iushr X0.here hx rfl (hb hby d6_46) rfl k) ?_
    show ownGo p.tables e below T0 (mkF m 47 #[.val (.int x0), .val (.int (x1 + (-8 : Int32)))] [(.int (own_iushr x0 (8 : Int32)))]) _
    refine ownGo.st (fun _ k => XS.istoreN X0.here hx rfl (hb hby d6_47) rfl (l' := #[.val (.int (own_iushr x0 (8 : Int32))), .val (.int (x1 + (-8 : Int32)))]) rfl k) ?_
    show ownGo p.tables e below T0 (mkF m 48 #[.val (.int (own_iushr x0 (8 : Int32))), .val (.int (x1 + (-8 : Int32)))] []) _
    exact b6_48 hx hZ hw hby hml hown hret hlk X0 e0 N0 (own_iushr x0 (8 : Int32)) (x1 + (-8 : Int32)) r hr4
def f6_0 (x0 : Int32) : Int32 := (if (0 : Int32) < x0 then (if x0 < (65536 : Int32) then (f6_33 x0 (31 : Int32)) else (f6_33 (own_iushr x0 (16 : Int32)) ((31 : Int32) + (-16 : Int32)))) else (if x0 = (0 : Int32) then (32 : Int32) else (0 : Int32)))
set_option maxRecDepth 65536 in
set_option maxHeartbeats 40000000 in
theorem b6_0 {p : Program} {l : Launch} {e : Env} {s : State} {m : MethodId} {args : Array Value} {below : List Frame} {meth : Method} {c : Code} {T0 : State} {locs : List Loc} {Z : State} {a0 : Array Value} {h0 : Heap} {n0 : Nat} (hx : p.tables.exec = Jvm.exec) (hZ : Z.Warmed39 s.vm) (hw : ∀ d ∈ tables_1, d.before a0 Z = true) (hby : c.code = jdk_33_method_47_code) (hml : c.maxLocals = 2) (hown : s.vm.findClass "java/lang/Integer" = some m.cls) (hret : meth.sig.returnType = (some .int)) (hlk : meth.locks = false) (X0 : Stand p l e R6 s m args below meth c T0 locs 0 0) (e0 : T0.heap = h0) (N0 : Fr n0 locs) (x0 : Int32) (r : Int32) (hr : r = f6_0 x0) :
    ownGo p.tables e below T0 (mkF m 0 #[.val (.int x0), .unset] []) (ownDone s (ownPure (.int r) h0 n0) 0 0) := by
  have hr0 : r = (if (0 : Int32) < x0 then (if x0 < (65536 : Int32) then (f6_33 x0 (31 : Int32)) else (f6_33 (own_iushr x0 (16 : Int32)) ((31 : Int32) + (-16 : Int32)))) else (if x0 = (0 : Int32) then (32 : Int32) else (0 : Int32))) := hr
  refine ownGo.st (fun _ k => XS.iloadN X0.here hx rfl (hb hby d6_0) rfl k) ?_
  show ownGo p.tables e below T0 (mkF m 1 #[.val (.int x0), .unset] [(.int x0)]) _
  by_cases hc1 : (0 : Int32) < x0
  · have hr2 := hr0.trans (if_pos hc1)
    refine ownGo.st (fun _ k => XS.ifYes X0.here hx rfl (pc0 := 1) (pc' := 15) rfl (hb hby d6_1) rfl ((if0 _ _).trans (tlt hc1).2.2.1) (by decide) (by decide) k) ?_
    show ownGo p.tables e below T0 (mkF m 15 #[.val (.int x0), .unset] []) _
    refine ownGo.st (fun _ k => XS.bipush X0.here hx rfl (hb hby d6_15)  k) ?_
    show ownGo p.tables e below T0 (mkF m 17 #[.val (.int x0), .unset] [(.int (31 : Int32))]) _
    refine ownGo.st (fun _ k => XS.istoreN X0.here hx rfl (hb hby d6_17) rfl (l' := #[.val (.int x0), .val (.int (31 : Int32))]) rfl k) ?_
    show ownGo p.tables e below T0 (mkF m 18 #[.val (.int x0), .val (.int (31 : Int32))] []) _
    refine ownGo.st (fun _ k => XS.iloadN X0.here hx rfl (hb hby d6_18) rfl k) ?_
    show ownGo p.tables e below T0 (mkF m 19 #[.val (.int x0), .val (.int (31 : Int32))] [(.int x0)]) _
    refine ownGo.st (X0.ldcwInt hx hown (mvT hZ (own_at hw 45 rfl)) (g := (mkF m 19 #[.val (.int x0), .val (.int (31 : Int32))] [(.int x0)])) rfl (hb hby d6_19)) ?_
    show ownGo p.tables e below T0 (mkF m 22 #[.val (.int x0), .val (.int (31 : Int32))] [(.int (65536 : Int32)), (.int x0)]) _
    by_cases hc22 : x0 < (65536 : Int32)
    · have hr3 := hr2.trans (if_pos hc22)
      refine ownGo.st (fun _ k => XS.icmpYes X0.here hx rfl (pc0 := 22) (pc' := 33) rfl (hb hby d6_22) rfl (tlt hc22).1 (by decide) (by decide) k) ?_
      show ownGo p.tables e below T0 (mkF m 33 #[.val (.int x0), .val (.int (31 : Int32))] []) _
      exact b6_33 hx hZ hw hby hml hown hret hlk X0 e0 N0 x0 (31 : Int32) r hr3
    · have hr3 := hr2.trans (if_neg hc22)
      refine ownGo.st (fun _ k => XS.icmpNo X0.here hx rfl (hb hby d6_22) rfl (flt hc22).1 k) ?_
      show ownGo p.tables e below T0 (mkF m 25 #[.val (.int x0), .val (.int (31 : Int32))] []) _
      refine ownGo.st (fun _ k => XS.iinc X0.here hx rfl (hb hby d6_25) rfl (l' := #[.val (.int x0), .val (.int ((31 : Int32) + (-16 : Int32)))]) rfl k) ?_
      show ownGo p.tables e below T0 (mkF m 28 #[.val (.int x0), .val (.int ((31 : Int32) + (-16 : Int32)))] []) _
      refine ownGo.st (fun _ k => XS.iloadN X0.here hx rfl (hb hby d6_28) rfl k) ?_
      show ownGo p.tables e below T0 (mkF m 29 #[.val (.int x0), .val (.int ((31 : Int32) + (-16 : Int32)))] [(.int x0)]) _
      refine ownGo.st (fun _ k => XS.bipush X0.here hx rfl (hb hby d6_29)  k) ?_
      show ownGo p.tables e below T0 (mkF m 31 #[.val (.int x0), .val (.int ((31 : Int32) + (-16 : Int32)))] [(.int (16 : Int32)), (.int x0)]) _
      refine ownGo.st (fun _ k => XS.iushr X0.here hx rfl (hb hby d6_31) rfl k) ?_
      show ownGo p.tables e below T0 (mkF m 32 #[.val (.int x0), .val (.int ((31 : Int32) + (-16 : Int32)))] [(.int (own_iushr x0 (16 : Int32)))]) _
      refine ownGo.st (fun _ k => XS.istoreN X0.here hx rfl (hb hby d6_32) rfl (l' := #[.val (.int (own_iushr x0 (16 : Int32))), .val (.int ((31 : Int32) + (-16 : Int32)))]) rfl k) ?_
      show ownGo p.tables e below T0 (mkF m 33 #[.val (.int (own_iushr x0 (16 : Int32))), .val (.int ((31 : Int32) + (-16 : Int32)))] []) _
      exact b6_33 hx hZ hw hby hml hown hret hlk X0 e0 N0 (own_iushr x0 (16 : Int32)) ((31 : Int32) + (-16 : Int32)) r hr3
  · have hr2 := hr0.trans (if_neg hc1)
    refine ownGo.st (fun _ k => XS.ifNo X0.here hx rfl (hb hby d6_1) rfl ((if0 _ _).trans (flt hc1).2.2.1) k) ?_
    show ownGo p.tables e below T0 (mkF m 4 #[.val (.int x0), .unset] []) _
    refine ownGo.st (fun _ k => XS.iloadN X0.here hx rfl (hb hby d6_4) rfl k) ?_
    show ownGo p.tables e below T0 (mkF m 5 #[.val (.int x0), .unset] [(.int x0)]) _
    by_cases hc5 : x0 = (0 : Int32)
    · have hr7 := hr2.trans (if_pos hc5)
      refine ownGo.st (fun _ k => XS.ifNo X0.here hx rfl (hb hby d6_5) rfl ((if0 _ _).trans (teq hc5).2) k) ?_
      show ownGo p.tables e below T0 (mkF m 8 #[.val (.int x0), .unset] []) _
      refine ownGo.st (fun _ k => XS.bipush X0.here hx rfl (hb hby d6_8)  k) ?_
      show ownGo p.tables e below T0 (mkF m 10 #[.val (.int x0), .unset] [(.int (32 : Int32))]) _
      refine ownGo.st (fun _ k => XS.goto X0.here hx rfl (pc0 := 10) (pc' := 14) rfl (hb hby d6_10) (by decide) (by decide) k) ?_
      show ownGo p.tables e below T0 (mkF m 14 #[.val (.int x0), .unset] [(.int (32 : Int32))]) _
      exact own_retI X0 hx hlk hret (hb hby d6_14) ⟨congrArg (fun z => some (Value.int z)) hr7.symm, N0, e0⟩ (Nat.le_refl _) (Nat.le_refl _)
    · have hr7 := hr2.trans (if_neg hc5)
      refine ownGo.st (fun _ k => XS.ifYes X0.here hx rfl (pc0 := 5) (pc' := 13) rfl (hb hby d6_5) rfl ((if0 _ _).trans (feq hc5).2) (by decide) (by decide) k) ?_
      show ownGo p.tables e below T0 (mkF m 13 #[.val (.int x0), .unset] []) _
      refine ownGo.st (fun _ k => XS.iconst X0.here hx rfl (hb hby d6_13)  k) ?_
      show ownGo p.tables e below T0 (mkF m 14 #[.val (.int x0), .unset] [(.int (0 : Int32))]) _
      exact own_retI X0 hx hlk hret (hb hby d6_14) ⟨congrArg (fun z => some (Value.int z)) hr7.symm, N0, e0⟩ (Nat.le_refl _) (Nat.le_refl _)
abbrev F6 (x0 : Int32) : Int32 := f6_0 x0
theorem pn_6 : plainName "java/lang/Integer" = true := by first | (simp [plainName, overriddenIn]; done) | decide +kernel
theorem ef_6 (m : MethodId) (x0 : Int32) : entryFrame m #[(.int x0)] 2 = mkF m 0 #[.val (.int x0), .unset] [] := by first | (simp [entryFrame, mkF, argsToLocals, Value.category]; done) | rfl
set_option maxRecDepth 65536 in
set_option maxHeartbeats 40000000 in
theorem rm6 (l : Launch) (Z : State) (a0 : Array Value) (hw : ∀ d ∈ tables_1, d.before a0 Z = true) (x0 : Int32) (h0 : Heap) (n0 : Nat)  :
    MetFree l (⟨"java/lang/Integer", "numberOfLeadingZeros", "(I)I"⟩ : MethodName) (head1 [Jvm.Cond.code (⟨"java/lang/Integer", "numberOfLeadingZeros", "(I)I"⟩ : MethodName) jdk_33_method_47_code 2 (some .int)] R6) (fun a U => a = #[(.int x0)] ∧ Z.Warmed39 U.vm ∧ U.heap = h0) (fun _ _ _ _ _ => True) (fun _ U o U' => ∃ v L, o = .returned v ∧ ownPure (.int (F6 x0)) h0 n0 v U'.heap L ∧ FrameEnd U o U' L R6.cells R6.slots) := by
  refine MetFree.of_bodySF (plainFor_of_name pn_6) hisR ?_
  intro p e s m args below meth c s₁ Bd hml0 hP hK
  obtain ⟨rfl, hZ, hh⟩ := hP
  have hx := Bd.exec
  have hby := Bd.bytes
  have hml : c.maxLocals = 2 := hml0
  have hown : s.vm.findClass "java/lang/Integer" = some m.cls := findClass_of_methodNamed Bd.named
  have hnm := (name_of_methodNamed Bd.named Bd.method).1
  have hret := Bd.returns
  have hlk : meth.locks = false := BodyLoose.notSynchronized Bd
  have X0 : Stand p l e R6 s m #[(.int x0)] below meth c s₁ [] 0 0 := Stand.of_body Bd
  have e0 : s₁.heap = h0 := by rw [← hh, Bd.state]; rfl
  have N0 := Fr.nil n0
  show ownGo p.tables e below s₁ (entryFrame m #[(.int x0)] 2) (ownDone s (ownPure (.int (F6 x0)) h0 n0) R6.cells R6.slots)
  rw [ef_6 m x0]
  exact b6_0 hx hZ hw hby hml hown hret hlk X0 e0 N0 x0 _ rfl
theorem d5_0 : decode jdk_35_method_48_code 0 = .ok (.lload_n 0, 1) := by decide +kernel
theorem d5_1 : decode jdk_35_method_48_code 1 = .ok (.bipush 32, 2) := by decide +kernel
theorem d5_3 : decode jdk_35_method_48_code 3 = .ok (.lushr, 1) := by decide +kernel
theorem d5_4 : decode jdk_35_method_48_code 4 = .ok (.l2i, 1) := by decide +kernel
theorem d5_5 : decode jdk_35_method_48_code 5 = .ok (.istore_n 2, 1) := by decide +kernel
theorem d5_6 : decode jdk_35_method_48_code 6 = .ok (.iload_n 2, 1) := by decide +kernel
theorem d5_7 : decode jdk_35_method_48_code 7 = .ok (.ifCond .ne 14, 3) := by decide +kernel
theorem d5_10 : decode jdk_35_method_48_code 10 = .ok (.bipush 32, 2) := by decide +kernel
theorem d5_12 : decode jdk_35_method_48_code 12 = .ok (.lload_n 0, 1) := by decide +kernel
theorem d5_13 : decode jdk_35_method_48_code 13 = .ok (.l2i, 1) := by decide +kernel
theorem d5_14 : decode jdk_35_method_48_code 14 = .ok (.invokestatic 308, 3) := by decide +kernel
theorem d5_17 : decode jdk_35_method_48_code 17 = .ok (.iadd, 1) := by decide +kernel
theorem d5_18 : decode jdk_35_method_48_code 18 = .ok (.goto 7, 3) := by decide +kernel
theorem d5_21 : decode jdk_35_method_48_code 21 = .ok (.iload_n 2, 1) := by decide +kernel
theorem d5_22 : decode jdk_35_method_48_code 22 = .ok (.invokestatic 308, 3) := by decide +kernel
theorem d5_25 : decode jdk_35_method_48_code 25 = .ok (.ireturn, 1) := by decide +kernel
theorem pd__I_I : parseMethodDescriptor "(I)I" = some ⟨[.int], some .int⟩ := by decide +kernel
abbrev R5 : Room := { frames := 1, cells := 0, slots := 0, locals := 14 }
def f5_0 (x0 : Int64) : Int32 := (if ((own_lushr x0 (32 : Int32)).toInt32) = (0 : Int32) then ((32 : Int32) + (F6 (x0.toInt32))) else (F6 ((own_lushr x0 (32 : Int32)).toInt32)))
set_option maxRecDepth 65536 in
set_option maxHeartbeats 40000000 in
theorem b5_0 {p : Program} {l : Launch} {e : Env} {s : State} {m : MethodId} {args : Array Value} {below : List Frame} {meth : Method} {c : Code} {T0 : State} {locs : List Loc} {Z : State} {a0 : Array Value} {h0 : Heap} {n0 : Nat} (hx : p.tables.exec = Jvm.exec) (hZ : Z.Warmed39 s.vm) (hw : ∀ d ∈ tables_1, d.before a0 Z = true) (hby : c.code = jdk_35_method_48_code) (hml : c.maxLocals = 3) (hown : s.vm.findClass "java/lang/Long" = some m.cls) (hret : meth.sig.returnType = (some .int)) (hlk : meth.locks = false) (X0 : Stand p l e R5 s m args below meth c T0 locs 0 0) (e0 : T0.heap = h0) (N0 : Fr n0 locs) (x0 : Int64) (r : Int32) (hr : r = f5_0 x0) :
    ownGo p.tables e below T0 (mkF m 0 #[.val (.long x0), .second, .unset] []) (ownDone s (ownPure (.int r) h0 n0) 0 0) := by
  have hr0 : r = (if ((own_lushr x0 (32 : Int32)).toInt32) = (0 : Int32) then ((32 : Int32) + (F6 (x0.toInt32))) else (F6 ((own_lushr x0 (32 : Int32)).toInt32))) := hr
  refine ownGo.st (fun _ k => XS.lloadN X0.here hx rfl (hb hby d5_0) rfl k) ?_
  show ownGo p.tables e below T0 (mkF m 1 #[.val (.long x0), .second, .unset] [(.long x0)]) _
  refine ownGo.st (fun _ k => XS.bipush X0.here hx rfl (hb hby d5_1)  k) ?_
  show ownGo p.tables e below T0 (mkF m 3 #[.val (.long x0), .second, .unset] [(.int (32 : Int32)), (.long x0)]) _
  refine ownGo.st (fun _ k => XS.lushr X0.here hx rfl (hb hby d5_3) rfl k) ?_
  show ownGo p.tables e below T0 (mkF m 4 #[.val (.long x0), .second, .unset] [(.long (own_lushr x0 (32 : Int32)))]) _
  refine ownGo.st (fun _ k => XS.l2i X0.here hx rfl (hb hby d5_4) rfl k) ?_
  show ownGo p.tables e below T0 (mkF m 5 #[.val (.long x0), .second, .unset] [(.int ((own_lushr x0 (32 : Int32)).toInt32))]) _
  refine ownGo.st (fun _ k => XS.istoreN X0.here hx rfl (hb hby d5_5) rfl (l' := #[.val (.long x0), .second, .val (.int ((own_lushr x0 (32 : Int32)).toInt32))]) rfl k) ?_
  show ownGo p.tables e below T0 (mkF m 6 #[.val (.long x0), .second, .val (.int ((own_lushr x0 (32 : Int32)).toInt32))] []) _
  refine ownGo.st (fun _ k => XS.iloadN X0.here hx rfl (hb hby d5_6) rfl k) ?_
  show ownGo p.tables e below T0 (mkF m 7 #[.val (.long x0), .second, .val (.int ((own_lushr x0 (32 : Int32)).toInt32))] [(.int ((own_lushr x0 (32 : Int32)).toInt32))]) _
  by_cases hc7 : ((own_lushr x0 (32 : Int32)).toInt32) = (0 : Int32)
  · have hr8 := hr0.trans (if_pos hc7)
    refine ownGo.st (fun _ k => XS.ifNo X0.here hx rfl (hb hby d5_7) rfl ((if0 _ _).trans (teq hc7).2) k) ?_
    show ownGo p.tables e below T0 (mkF m 10 #[.val (.long x0), .second, .val (.int ((own_lushr x0 (32 : Int32)).toInt32))] []) _
    refine ownGo.st (fun _ k => XS.bipush X0.here hx rfl (hb hby d5_10)  k) ?_
    show ownGo p.tables e below T0 (mkF m 12 #[.val (.long x0), .second, .val (.int ((own_lushr x0 (32 : Int32)).toInt32))] [(.int (32 : Int32))]) _
    refine ownGo.st (fun _ k => XS.lloadN X0.here hx rfl (hb hby d5_12) rfl k) ?_
    show ownGo p.tables e below T0 (mkF m 13 #[.val (.long x0), .second, .val (.int ((own_lushr x0 (32 : Int32)).toInt32))] [(.long x0), (.int (32 : Int32))]) _
    refine ownGo.st (fun _ k => XS.l2i X0.here hx rfl (hb hby d5_13) rfl k) ?_
    show ownGo p.tables e below T0 (mkF m 14 #[.val (.long x0), .second, .val (.int ((own_lushr x0 (32 : Int32)).toInt32))] [(.int (x0.toInt32)), (.int (32 : Int32))]) _
    obtain ⟨_, T9, L9, X9, hQ9, st9⟩ := own_callS X0 hx hZ hown (own_at hw 41 rfl) (own_at hw 42 rfl) (own_at hw 43 rfl) (own_at hw 44 rfl) (by decide) (rm6 l Z a0 hw (x0.toInt32) h0 n0) 1 (by decide) (by decide) e0 (by decide) (by decide) (g := (mkF m 14 #[.val (.long x0), .second, .val (.int ((own_lushr x0 (32 : Int32)).toInt32))] [(.int (x0.toInt32)), (.int (32 : Int32))])) rfl (by rw [hml]; rfl) (argsL := [(.int (x0.toInt32))]) (rest := [(.int (32 : Int32))]) (lenOf pd__I_I rfl) rfl (by show 2 * 0 + _ ≤ _; exact Nat.le_of_eq rfl) (hb hby d5_14)
    obtain ⟨rfl, N9q, e9⟩ := hQ9
    have N9 := Fr.app N0 N9q
    refine ownGo.st st9 ?_
    show ownGo p.tables e below T9 (mkF m 17 #[.val (.long x0), .second, .val (.int ((own_lushr x0 (32 : Int32)).toInt32))] [(.int (F6 (x0.toInt32))), (.int (32 : Int32))]) _
    refine ownGo.st (fun _ k => XS.iadd X9.here hx rfl (hb hby d5_17) rfl k) ?_
    show ownGo p.tables e below T9 (mkF m 18 #[.val (.long x0), .second, .val (.int ((own_lushr x0 (32 : Int32)).toInt32))] [(.int ((32 : Int32) + (F6 (x0.toInt32))))]) _
    refine ownGo.st (fun _ k => XS.goto X9.here hx rfl (pc0 := 18) (pc' := 25) rfl (hb hby d5_18) (by decide) (by decide) k) ?_
    show ownGo p.tables e below T9 (mkF m 25 #[.val (.long x0), .second, .val (.int ((own_lushr x0 (32 : Int32)).toInt32))] [(.int ((32 : Int32) + (F6 (x0.toInt32))))]) _
    exact own_retI X9 hx hlk hret (hb hby d5_25) ⟨congrArg (fun z => some (Value.int z)) hr8.symm, N9, e9⟩ (Nat.le_refl _) (Nat.le_refl _)
  · have hr8 := hr0.trans (if_neg hc7)
    refine ownGo.st (fun _ k => XS.ifYes X0.here hx rfl (pc0 := 7) (pc' := 21) rfl (hb hby d5_7) rfl ((if0 _ _).trans (feq hc7).2) (by decide) (by decide) k) ?_
    show ownGo p.tables e below T0 (mkF m 21 #[.val (.long x0), .second, .val (.int ((own_lushr x0 (32 : Int32)).toInt32))] []) _
    refine ownGo.st (fun _ k => XS.iloadN X0.here hx rfl (hb hby d5_21) rfl k) ?_
    show ownGo p.tables e below T0 (mkF m 22 #[.val (.long x0), .second, .val (.int ((own_lushr x0 (32 : Int32)).toInt32))] [(.int ((own_lushr x0 (32 : Int32)).toInt32))]) _
    obtain ⟨_, T10, L10, X10, hQ10, st10⟩ := own_callS X0 hx hZ hown (own_at hw 41 rfl) (own_at hw 42 rfl) (own_at hw 43 rfl) (own_at hw 44 rfl) (by decide) (rm6 l Z a0 hw ((own_lushr x0 (32 : Int32)).toInt32) h0 n0) 0 (by decide) (by decide) e0 (by decide) (by decide) (g := (mkF m 22 #[.val (.long x0), .second, .val (.int ((own_lushr x0 (32 : Int32)).toInt32))] [(.int ((own_lushr x0 (32 : Int32)).toInt32))])) rfl (by rw [hml]; rfl) (argsL := [(.int ((own_lushr x0 (32 : Int32)).toInt32))]) (rest := []) (lenOf pd__I_I rfl) rfl (by show 2 * 0 + _ ≤ _; exact Nat.le_of_eq rfl) (hb hby d5_22)
    obtain ⟨rfl, N10q, e10⟩ := hQ10
    have N10 := Fr.app N0 N10q
    refine ownGo.st st10 ?_
    show ownGo p.tables e below T10 (mkF m 25 #[.val (.long x0), .second, .val (.int ((own_lushr x0 (32 : Int32)).toInt32))] [(.int (F6 ((own_lushr x0 (32 : Int32)).toInt32)))]) _
    exact own_retI X10 hx hlk hret (hb hby d5_25) ⟨congrArg (fun z => some (Value.int z)) hr8.symm, N10, e10⟩ (Nat.le_refl _) (Nat.le_refl _)
abbrev F5 (x0 : Int64) : Int32 := f5_0 x0
theorem pn_5 : plainName "java/lang/Long" = true := by first | (simp [plainName, overriddenIn]; done) | decide +kernel
theorem ef_5 (m : MethodId) (x0 : Int64) : entryFrame m #[(.long x0)] 3 = mkF m 0 #[.val (.long x0), .second, .unset] [] := by first | (simp [entryFrame, mkF, argsToLocals, Value.category]; done) | rfl
set_option maxRecDepth 65536 in
set_option maxHeartbeats 40000000 in
theorem rm5 (l : Launch) (Z : State) (a0 : Array Value) (hw : ∀ d ∈ tables_1, d.before a0 Z = true) (x0 : Int64) (h0 : Heap) (n0 : Nat)  :
    MetFree l (⟨"java/lang/Long", "numberOfLeadingZeros", "(J)I"⟩ : MethodName) (head1 [Jvm.Cond.code (⟨"java/lang/Long", "numberOfLeadingZeros", "(J)I"⟩ : MethodName) jdk_35_method_48_code 3 (some .int)] R5) (fun a U => a = #[(.long x0)] ∧ Z.Warmed39 U.vm ∧ U.heap = h0) (fun _ _ _ _ _ => True) (fun _ U o U' => ∃ v L, o = .returned v ∧ ownPure (.int (F5 x0)) h0 n0 v U'.heap L ∧ FrameEnd U o U' L R5.cells R5.slots) := by
  refine MetFree.of_bodySF (plainFor_of_name pn_5) hisR ?_
  intro p e s m args below meth c s₁ Bd hml0 hP hK
  obtain ⟨rfl, hZ, hh⟩ := hP
  have hx := Bd.exec
  have hby := Bd.bytes
  have hml : c.maxLocals = 3 := hml0
  have hown : s.vm.findClass "java/lang/Long" = some m.cls := findClass_of_methodNamed Bd.named
  have hnm := (name_of_methodNamed Bd.named Bd.method).1
  have hret := Bd.returns
  have hlk : meth.locks = false := BodyLoose.notSynchronized Bd
  have X0 : Stand p l e R5 s m #[(.long x0)] below meth c s₁ [] 0 0 := Stand.of_body Bd
  have e0 : s₁.heap = h0 := by rw [← hh, Bd.state]; rfl
  have N0 := Fr.nil n0
  show ownGo p.tables e below s₁ (entryFrame m #[(.long x0)] 3) (ownDone s (ownPure (.int (F5 x0)) h0 n0) R5.cells R5.slots)
  rw [ef_5 m x0]
  exact b5_0 hx hZ hw hby hml hown hret hlk X0 e0 N0 x0 _ rfl
theorem d2_0 : decode jdk_29_method_65_code 0 = .ok (.iload_n 0, 1) := by decide +kernel
theorem d2_1 : decode jdk_29_method_65_code 1 = .ok (.iload_n 1, 1) := by decide +kernel
theorem d2_2 : decode jdk_29_method_65_code 2 = .ok (.if_icmp .lt 7, 3) := by decide +kernel
theorem d2_5 : decode jdk_29_method_65_code 5 = .ok (.iload_n 0, 1) := by decide +kernel
theorem d2_6 : decode jdk_29_method_65_code 6 = .ok (.goto 4, 3) := by decide +kernel
theorem d2_9 : decode jdk_29_method_65_code 9 = .ok (.iload_n 1, 1) := by decide +kernel
theorem d2_10 : decode jdk_29_method_65_code 10 = .ok (.ireturn, 1) := by decide +kernel
abbrev R2 : Room := { frames := 0, cells := 0, slots := 0, locals := 0 }
def f2_0 (x0 : Int32) (x1 : Int32) : Int32 := (if x0 < x1 then x1 else x0)
set_option maxRecDepth 65536 in
set_option maxHeartbeats 40000000 in
theorem b2_0 {p : Program} {l : Launch} {e : Env} {s : State} {m : MethodId} {args : Array Value} {below : List Frame} {meth : Method} {c : Code} {T0 : State} {locs : List Loc} {Z : State} {a0 : Array Value} {h0 : Heap} {n0 : Nat} (hx : p.tables.exec = Jvm.exec) (hZ : Z.Warmed39 s.vm) (hw : ∀ d ∈ tables_1, d.before a0 Z = true) (hby : c.code = jdk_29_method_65_code) (hml : c.maxLocals = 2) (hown : s.vm.findClass "java/lang/Math" = some m.cls) (hret : meth.sig.returnType = (some .int)) (hlk : meth.locks = false) (X0 : Stand p l e R2 s m args below meth c T0 locs 0 0) (e0 : T0.heap = h0) (N0 : Fr n0 locs) (x0 : Int32) (x1 : Int32) (r : Int32) (hr : r = f2_0 x0 x1) :
    ownGo p.tables e below T0 (mkF m 0 #[.val (.int x0), .val (.int x1)] []) (ownDone s (ownPure (.int r) h0 n0) 0 0) := by
  have hr0 : r = (if x0 < x1 then x1 else x0) := hr
  refine ownGo.st (fun _ k => XS.iloadN X0.here hx rfl (hb hby d2_0) rfl k) ?_
  show ownGo p.tables e below T0 (mkF m 1 #[.val (.int x0), .val (.int x1)] [(.int x0)]) _
  refine ownGo.st (fun _ k => XS.iloadN X0.here hx rfl (hb hby d2_1) rfl k) ?_
  show ownGo p.tables e below T0 (mkF m 2 #[.val (.int x0), .val (.int x1)] [(.int x1), (.int x0)]) _
  by_cases hc2 : x0 < x1
  · have hr11 := hr0.trans (if_pos hc2)
    refine ownGo.st (fun _ k => XS.icmpYes X0.here hx rfl (pc0 := 2) (pc' := 9) rfl (hb hby d2_2) rfl (tlt hc2).1 (by decide) (by decide) k) ?_
    show ownGo p.tables e below T0 (mkF m 9 #[.val (.int x0), .val (.int x1)] []) _
    refine ownGo.st (fun _ k => XS.iloadN X0.here hx rfl (hb hby d2_9) rfl k) ?_
    show ownGo p.tables e below T0 (mkF m 10 #[.val (.int x0), .val (.int x1)] [(.int x1)]) _
    exact own_retI X0 hx hlk hret (hb hby d2_10) ⟨congrArg (fun z => some (Value.int z)) hr11.symm, N0, e0⟩ (Nat.le_refl _) (Nat.le_refl _)
  · have hr11 := hr0.trans (if_neg hc2)
    refine ownGo.st (fun _ k => XS.icmpNo X0.here hx rfl (hb hby d2_2) rfl (flt hc2).1 k) ?_
    show ownGo p.tables e below T0 (mkF m 5 #[.val (.int x0), .val (.int x1)] []) _
    refine ownGo.st (fun _ k => XS.iloadN X0.here hx rfl (hb hby d2_5) rfl k) ?_
    show ownGo p.tables e below T0 (mkF m 6 #[.val (.int x0), .val (.int x1)] [(.int x0)]) _
    refine ownGo.st (fun _ k => XS.goto X0.here hx rfl (pc0 := 6) (pc' := 10) rfl (hb hby d2_6) (by decide) (by decide) k) ?_
    show ownGo p.tables e below T0 (mkF m 10 #[.val (.int x0), .val (.int x1)] [(.int x0)]) _
    exact own_retI X0 hx hlk hret (hb hby d2_10) ⟨congrArg (fun z => some (Value.int z)) hr11.symm, N0, e0⟩ (Nat.le_refl _) (Nat.le_refl _)
abbrev F2 (x0 : Int32) (x1 : Int32) : Int32 := f2_0 x0 x1
theorem ef_2 (m : MethodId) (x0 : Int32) (x1 : Int32) : entryFrame m #[(.int x0), (.int x1)] 2 = mkF m 0 #[.val (.int x0), .val (.int x1)] [] := by first | (simp [entryFrame, mkF, argsToLocals, Value.category]; done) | rfl
set_option maxRecDepth 65536 in
set_option maxHeartbeats 40000000 in
theorem rm2 (l : Launch) (Z : State) (a0 : Array Value) (hw : ∀ d ∈ tables_1, d.before a0 Z = true) (x0 : Int32) (x1 : Int32) (h0 : Heap) (n0 : Nat)  :
    MetFree l (⟨"java/lang/Math", "max", "(II)I"⟩ : MethodName) (head1 [Jvm.Cond.code (⟨"java/lang/Math", "max", "(II)I"⟩ : MethodName) jdk_29_method_65_code 2 (some .int)] R2) (fun a U => a = #[(.int x0), (.int x1)] ∧ Z.Warmed39 U.vm ∧ U.heap = h0) (fun _ _ _ _ _ => True) (fun _ U o U' => ∃ v L, o = .returned v ∧ ownPure (.int (F2 x0 x1)) h0 n0 v U'.heap L ∧ FrameEnd U o U' L R2.cells R2.slots) := by
  refine MetFree.of_bodySF (Jvm.Free.JP.mathPlain rfl (by decide +kernel)) hisR ?_
  intro p e s m args below meth c s₁ Bd hml0 hP hK
  obtain ⟨rfl, hZ, hh⟩ := hP
  have hx := Bd.exec
  have hby := Bd.bytes
  have hml : c.maxLocals = 2 := hml0
  have hown : s.vm.findClass "java/lang/Math" = some m.cls := findClass_of_methodNamed Bd.named
  have hnm := (name_of_methodNamed Bd.named Bd.method).1
  have hret := Bd.returns
  have hlk : meth.locks = false := BodyLoose.notSynchronized Bd
  have X0 : Stand p l e R2 s m #[(.int x0), (.int x1)] below meth c s₁ [] 0 0 := Stand.of_body Bd
  have e0 : s₁.heap = h0 := by rw [← hh, Bd.state]; rfl
  have N0 := Fr.nil n0
  show ownGo p.tables e below s₁ (entryFrame m #[(.int x0), (.int x1)] 2) (ownDone s (ownPure (.int (F2 x0 x1)) h0 n0) R2.cells R2.slots)
  rw [ef_2 m x0 x1]
  exact b2_0 hx hZ hw hby hml hown hret hlk X0 e0 N0 x0 x1 _ rfl
theorem own_ush (x : Int32) (q : Int32) (k : Nat) (hk : q.toBitVec.toNat % 32 = k) (h0 : 0 < k) (hx : 0 ≤ x.toInt) : (own_iushr x q).toInt = x.toInt / (2 ^ k : Nat) := by
  have e := c_iushr x q k hk h0
  have r := x.toInt_lt
  rw [e, Int.emod_eq_of_lt hx (by omega)]
theorem own_z73 (x n : Int32) (k : Nat) (hk : k < 2) (h1 : ((2 ^ k : Nat) : Int) ≤ x.toInt) (h2 : x.toInt < ((2 ^ (k + 1) : Nat) : Int)) : f6_73 x n = n - Int32.ofNat k := by
  have e := own_ush x 1 1 (by decide) (by decide) (by omega)
  have q : own_iushr x (1 : Int32) = Int32.ofNat k := by
    apply Int32.toInt_inj.mp
    rw [e, Int32.toInt_ofNat_of_lt (by omega)]
    have z : k = 0 ∨ k = 1 := by omega
    rcases z with rfl | rfl
    · simp at h1 h2; omega
    · simp at h1 h2; omega
  show n - own_iushr x (1 : Int32) = _
  rw [q]
theorem own_pow (k j : Nat) : (2 ^ (j + k) : Nat) = 2 ^ j * 2 ^ k := Nat.pow_add 2 j k
theorem own_lit {c : Int32} {z : Int} (h : c.toInt = z) (x : Int32) : x < c ↔ x.toInt < z := by rw [Int32.lt_iff_toInt_lt, h]
theorem own_subk (n : Int32) (k s : Nat) (c : Int32) (hc : c = -Int32.ofNat s) (h : s ≤ k) : (n + c) - Int32.ofNat (k - s) = n - Int32.ofNat k := by
  have e : Int32.ofNat k = Int32.ofNat (k - s) + Int32.ofNat s := by rw [← Int32.ofNat_add]; congr 1; omega
  rw [hc, e, ← Int32.sub_eq_add_neg]
  rw [Int32.sub_eq_add_neg, Int32.sub_eq_add_neg, Int32.sub_eq_add_neg, Int32.neg_add, Int32.add_assoc, Int32.add_comm (-Int32.ofNat s), Int32.sub_eq_add_neg]
theorem own_zs {f g : Int32 → Int32 → Int32} (s : Nat) (hs : 0 < s) (hs' : s ≤ 16) (B : Int32) (hB : B.toInt = ((2 ^ s : Nat) : Int)) (sh c : Int32) (hsh : sh.toBitVec.toNat % 32 = s) (hc : c = -Int32.ofNat s) (K : Nat) (hK : K ≤ s)
    (hg : ∀ (x n : Int32) (k : Nat), k < s → ((2 ^ k : Nat) : Int) ≤ x.toInt → x.toInt < ((2 ^ (k + 1) : Nat) : Int) → g x n = n - Int32.ofNat k) (hf : ∀ x n, f x n = if x < B then g x n else g (own_iushr x sh) (n + c))
    (x n : Int32) (k : Nat) (hk : k < s + K) (h1 : ((2 ^ k : Nat) : Int) ≤ x.toInt) (h2 : x.toInt < ((2 ^ (k + 1) : Nat) : Int)) : f x n = n - Int32.ofNat k := by
  have hp : (0 : Int) < ((2 ^ k : Nat) : Int) := by exact_mod_cast Nat.two_pow_pos k
  rw [hf]
  by_cases q : k < s
  · have : (2 ^ (k + 1) : Nat) ≤ 2 ^ s := Nat.pow_le_pow_right (by decide) (by omega)
    rw [if_pos ((own_lit hB x).mpr (by omega))]
    exact hg x n k q h1 h2
  · have : (2 ^ s : Nat) ≤ 2 ^ k := Nat.pow_le_pow_right (by decide) (by omega)
    rw [if_neg (fun z => by have := (own_lit hB x).mp z; omega)]
    have e := own_ush x sh s hsh hs (by omega)
    obtain ⟨j, rfl⟩ : ∃ j, k = j + s := ⟨k - s, by omega⟩
    have p1 := own_pow s j
    have p2 : (2 ^ (j + s + 1) : Nat) = 2 ^ (j + 1) * 2 ^ s := by rw [show j + s + 1 = (j + 1) + s by omega, own_pow]
    have ps : (0 : Int) < ((2 ^ s : Nat) : Int) := by exact_mod_cast Nat.two_pow_pos s
    rw [hg (own_iushr x sh) (n + c) j (by omega) ?_ ?_]
    · have := own_subk n (j + s) s c hc (by omega)
      rw [show j + s - s = j by omega] at this
      exact this
    · rw [e]
      apply Int.le_ediv_of_mul_le ps
      rw [p1] at h1
      exact_mod_cast h1
    · rw [e]
      apply Int.ediv_lt_of_lt_mul ps
      rw [p2] at h2
      exact_mod_cast h2
theorem own_z61 (x n : Int32) (k : Nat) (hk : k < 4) (h1 : ((2 ^ k : Nat) : Int) ≤ x.toInt) (h2 : x.toInt < ((2 ^ (k + 1) : Nat) : Int)) : f6_61 x n = n - Int32.ofNat k :=
  own_zs 2 (by decide) (by decide) 4 rfl 2 (-2) (by decide) (by decide) 2 (by decide) own_z73 (fun _ _ => rfl) x n k hk h1 h2
theorem own_z48 (x n : Int32) (k : Nat) (hk : k < 8) (h1 : ((2 ^ k : Nat) : Int) ≤ x.toInt) (h2 : x.toInt < ((2 ^ (k + 1) : Nat) : Int)) : f6_48 x n = n - Int32.ofNat k :=
  own_zs 4 (by decide) (by decide) 16 rfl 4 (-4) (by decide) (by decide) 4 (by decide) own_z61 (fun _ _ => rfl) x n k hk h1 h2
theorem own_z33 (x n : Int32) (k : Nat) (hk : k < 16) (h1 : ((2 ^ k : Nat) : Int) ≤ x.toInt) (h2 : x.toInt < ((2 ^ (k + 1) : Nat) : Int)) : f6_33 x n = n - Int32.ofNat k :=
  own_zs 8 (by decide) (by decide) 256 rfl 8 (-8) (by decide) (by decide) 8 (by decide) own_z48 (fun _ _ => rfl) x n k hk h1 h2
theorem own_z0 (x : Int32) (k : Nat) (hk : k < 31) (h1 : ((2 ^ k : Nat) : Int) ≤ x.toInt) (h2 : x.toInt < ((2 ^ (k + 1) : Nat) : Int)) : F6 x = (31 : Int32) - Int32.ofNat k := by
  have hp : (0 : Int) < ((2 ^ k : Nat) : Int) := by exact_mod_cast Nat.two_pow_pos k
  have q : F6 x = (if x < (65536 : Int32) then (f6_33 x (31 : Int32)) else (f6_33 (own_iushr x (16 : Int32)) ((31 : Int32) + (-16 : Int32)))) := if_pos (by rw [Int32.lt_iff_toInt_lt, show (0 : Int32).toInt = 0 from rfl]; omega)
  rw [q]
  exact own_zs (f := fun x n => if x < (65536 : Int32) then f6_33 x n else f6_33 (own_iushr x (16 : Int32)) (n + (-16 : Int32))) 16 (by decide) (by decide) 65536 rfl 16 (-16) (by decide) (by decide) 16 (by decide) own_z33 (fun _ _ => rfl) x 31 k (by omega) h1 h2
/-- kb is the number of bits of v, 0 to 32 -/
def ownBits (v : Int) (kb : Nat) : Prop := (v = 0 ∧ kb = 0) ∨ (1 ≤ kb ∧ kb ≤ 32 ∧ ((2 ^ (kb - 1) : Nat) : Int) ≤ v ∧ v < ((2 ^ kb : Nat) : Int))
theorem ownBits.rng {v : Int} {kb : Nat} (h : ownBits v kb) : 0 ≤ v ∧ v < 4294967296 ∧ kb ≤ 32 ∧ v < ((2 ^ kb : Nat) : Int) := by
  rcases h with ⟨rfl, rfl⟩ | ⟨h1, h2, h3, h4⟩
  · simp
  · have : (2 ^ kb : Nat) ≤ 2 ^ 32 := Nat.pow_le_pow_right (by decide) h2
    have h0 : (0 : Int) ≤ ((2 ^ (kb - 1) : Nat) : Int) := Int.natCast_nonneg _
    refine ⟨?_, ?_, h2, h4⟩ <;> omega
theorem own_hi0 (v : Int64) (h0 : 0 ≤ v.toInt) (h1 : v.toInt < 4294967296) : (own_lushr v (32 : Int32)).toInt32 = (0 : Int32) := by
  have e := c_lushr v 32 32 (by decide) (by decide)
  have q : own_lushr v (32 : Int32) = 0 := by
    apply Int64.toInt_inj.mp
    rw [e, Int.emod_eq_of_lt h0 (by omega), show (0 : Int64).toInt = 0 from rfl]
    exact Int.ediv_eq_zero_of_lt h0 (by rw [show ((2 ^ 32 : Nat) : Int) = 4294967296 from rfl]; exact h1)
  rw [q]; rfl
theorem own_nlz (v : Int64) (kb : Nat) (h : ownBits v.toInt kb) : (64 : Int32) - F5 v = Int32.ofNat kb := by
  have r := h.rng
  have q : F5 v = (32 : Int32) + F6 v.toInt32 := if_pos (own_hi0 v r.1 r.2.1)
  have ci := c_l2i v
  have r3 := v.toInt32.toInt_lt
  have r4 := v.toInt32.le_toInt
  rw [q]
  rcases h with ⟨h1, rfl⟩ | ⟨h1, h2, h3, h4⟩
  · have : v.toInt32 = 0 := by apply Int32.toInt_inj.mp; rw [show (0 : Int32).toInt = 0 from rfl]; omega
    rw [this]; rfl
  · by_cases z : kb = 32
    · subst z
      have e : F6 v.toInt32 = 0 := by
        have g1 : ¬ (0 : Int32) < v.toInt32 := by rw [Int32.lt_iff_toInt_lt, show (0 : Int32).toInt = 0 from rfl]; simp at h3 h4; omega
        have g2 : ¬ v.toInt32 = (0 : Int32) := fun z => by rw [z, show (0 : Int32).toInt = 0 from rfl] at ci; simp at h3 h4; omega
        exact (if_neg g1).trans (if_neg g2)
      rw [e]; rfl
    · have p : (2 ^ kb : Nat) ≤ 2 ^ 31 := Nat.pow_le_pow_right (by decide) (by omega)
      have hp : (0 : Int) < ((2 ^ (kb - 1) : Nat) : Int) := by exact_mod_cast Nat.two_pow_pos _
      have e : v.toInt32.toInt = v.toInt := by omega
      rw [own_z0 v.toInt32 (kb - 1) (by omega) (by rw [e]; exact h3) (by rw [e, show kb - 1 + 1 = kb by omega]; exact h4)]
      apply Int32.toInt_inj.mp
      have e1 := c_isub 31 (Int32.ofNat (kb - 1))
      have e2 := c_iadd 32 (31 - Int32.ofNat (kb - 1))
      have e3 := c_isub 64 (32 + (31 - Int32.ofNat (kb - 1)))
      have r5 := ((64 : Int32) - (32 + (31 - Int32.ofNat (kb - 1)))).toInt_lt
      have r6 := ((64 : Int32) - (32 + (31 - Int32.ofNat (kb - 1)))).le_toInt
      rw [Int32.toInt_ofNat_of_lt (by omega)] at *
      rw [show (31 : Int32).toInt = 31 from rfl] at e1
      rw [show (32 : Int32).toInt = 32 from rfl] at e2
      rw [show (64 : Int32).toInt = 64 from rfl] at e3
      omega
theorem own_bits_ex (v : Int) (h0 : 0 ≤ v) (h1 : v < 4294967296) : ∃ kb, ownBits v kb := by
  by_cases z : v = 0
  · exact ⟨0, Or.inl ⟨z, rfl⟩⟩
  · have e : ((v.toNat : Nat) : Int) = v := Int.toNat_of_nonneg h0
    have nz : v.toNat ≠ 0 := by omega
    have a1 := Nat.log2_self_le nz
    have a2 := Nat.lt_log2_self (n := v.toNat)
    have lt : v.toNat.log2 < 32 := (Nat.log2_lt nz).mpr (by omega)
    refine ⟨v.toNat.log2 + 1, Or.inr ⟨by omega, by omega, ?_, ?_⟩⟩
    · rw [Nat.add_sub_cancel, ← e]; exact_mod_cast a1
    · rw [← e]; exact_mod_cast a2
/-- the mask of k bits, as the layout reckons it -/
def own_mk (k : Nat) : Int64 := (own_lshl (1 : Int64) (Int32.ofNat k)) - (1 : Int64)
theorem own_k63 (k : Nat) (hk : k < 64) : ((Int32.ofNat k) &&& 0x3f).toInt64.toBitVec = BitVec.ofNat 64 k := by
  have h : ∀ k : Fin 64, ((Int32.ofNat k.1) &&& 0x3f).toInt64.toBitVec = BitVec.ofNat 64 k.1 := by decide +kernel
  exact h ⟨k, hk⟩
theorem own_smod (k : Nat) (hk : k < 64) : ((BitVec.ofNat 64 k).smod 64).toNat = k := by
  have h : ∀ k : Fin 64, ((BitVec.ofNat 64 k.1).smod 64).toNat = k.1 := by decide +kernel
  exact h ⟨k, hk⟩
theorem own_lshl_bv (x : Int64) (k : Nat) (hk : k < 64) : (own_lshl x (Int32.ofNat k)).toBitVec = x.toBitVec <<< k := by
  show (x <<< ((Int32.ofNat k) &&& 0x3f).toInt64).toBitVec = _
  rw [Int64.toBitVec_shiftLeft, own_k63 k hk, BitVec.shiftLeft_eq', own_smod k hk]
theorem own_lushr_bv' (x : Int64) (k : Nat) (hk : k < 64) : (own_lushr x (Int32.ofNat k)).toBitVec = x.toBitVec >>> k := by
  show (x.toUInt64 >>> ((Int32.ofNat k) &&& 0x3f).toInt64.toUInt64).toInt64.toBitVec = _
  have e : ((Int32.ofNat k) &&& 0x3f).toInt64.toUInt64.toBitVec = BitVec.ofNat 64 k := own_k63 k hk
  have e2 : (x.toUInt64 >>> ((Int32.ofNat k) &&& 0x3f).toInt64.toUInt64).toInt64.toBitVec = (x.toUInt64 >>> ((Int32.ofNat k) &&& 0x3f).toInt64.toUInt64).toBitVec := rfl
  rw [e2, UInt64.toBitVec_shiftRight, e]
  have e3 : (BitVec.ofNat 64 k % 64).toNat = k := by
    rw [BitVec.toNat_umod, BitVec.toNat_ofNat]; show k % 2 ^ 64 % 64 = k; omega
  rw [BitVec.ushiftRight_eq', e3]
  rfl
theorem own_mk_nat (k : Nat) (hk : k < 64) : (own_mk k).toBitVec.toNat = 2 ^ k - 1 := by
  have p1 : 0 < 2 ^ k := Nat.two_pow_pos k
  have p2 : 2 ^ k < 2 ^ 64 := Nat.pow_lt_pow_right (by decide) hk
  rw [own_mk, Int64.toBitVec_sub, own_lshl_bv 1 k hk]
  have e : ((1 : Int64).toBitVec <<< k).toNat = 2 ^ k := by
    rw [BitVec.toNat_shiftLeft, show (1 : Int64).toBitVec.toNat = 1 from rfl, Nat.shiftLeft_eq, Nat.one_mul, Nat.mod_eq_of_lt p2]
  rw [BitVec.toNat_sub, e, show (1 : Int64).toBitVec.toNat = 1 from rfl]
  omega
theorem own_mk_bit (k : Nat) (hk : k < 64) (j : Nat) : (own_mk k).toBitVec.getLsbD j = decide (j < k) := by
  rw [← BitVec.testBit_toNat, own_mk_nat k hk, Nat.testBit_two_pow_sub_one]
/-- v as a word of 64 bits, where v is not negative -/
theorem own_tonat (v : Int64) (h : 0 ≤ v.toInt) : ((v.toBitVec.toNat : Nat) : Int) = v.toInt := by
  have e : v.toInt = v.toBitVec.toInt := rfl
  have := v.toBitVec.isLt
  rw [e, BitVec.toInt_eq_toNat_cond] at h
  rw [e, BitVec.toInt_eq_toNat_cond]
  split at h <;> rename_i z
  · rw [if_pos z]
  · omega
def own_al (off kb : Nat) : Nat := if off % 64 + kb ≤ 64 then off else off + (64 - off % 64)
/-- how many bits the first i variables take, with what alignment leaves out -/
def own_off (kb : Nat → Nat) : Nat → Nat
  | 0 => 0
  | i + 1 => own_al (own_off kb i) (kb i) + kb i
def own_st (kb : Nat → Nat) (i : Nat) : Nat := own_al (own_off kb i) (kb i)
def own_wds (kb : Nat → Nat) (n : Nat) : Nat := if (own_off kb n + 63) / 64 ≤ 1 then 1 else (own_off kb n + 63) / 64
theorem own_al_le (off kb : Nat) : off ≤ own_al off kb ∧ own_al off kb ≤ off + 64 := by unfold own_al; split <;> omega
theorem own_off_le (kb : Nat → Nat) (n : Nat) (h : ∀ i, i < n → kb i ≤ 32) : ∀ i, i ≤ n → own_off kb i ≤ 96 * i
  | 0, _ => Nat.le_refl _
  | i + 1, hi => by
    have q := own_off_le kb n h i (by omega)
    have q2 := own_al_le (own_off kb i) (kb i)
    have q3 := h i (by omega)
    show own_al (own_off kb i) (kb i) + kb i ≤ _
    omega
theorem own_i32 {a : Nat} (h : a < 2147483648) : (Int32.ofNat a).toInt = a := Int32.toInt_ofNat_of_lt h
theorem own_rem64 {a : Nat} (h : a < 2147483648) : Int32.ofNat a % (64 : Int32) = Int32.ofNat (a % 64) := by
  apply Int32.toInt_inj.mp
  rw [(c_irem (Int32.ofNat a) 64 64 rfl).1 (by rw [own_i32 h]; omega), own_i32 h, own_i32 (by omega)]
  omega
theorem own_div64 {a : Nat} (h : a < 2147483648) : Int32.ofNat a / (64 : Int32) = Int32.ofNat (a / 64) := by
  apply Int32.toInt_inj.mp
  rw [(c_idiv (Int32.ofNat a) 64 64 rfl (by decide)).1 (by rw [own_i32 h]; omega), own_i32 h, own_i32 (by omega)]
  omega
theorem own_add {a b : Nat} : Int32.ofNat a + Int32.ofNat b = Int32.ofNat (a + b) := (Int32.ofNat_add a b).symm
theorem own_sub {a b : Nat} (q : b ≤ a) (hb : a < 2147483648) : Int32.ofNat a - Int32.ofNat b = Int32.ofNat (a - b) := by
  apply Int32.toInt_inj.mp
  have e := c_isub (Int32.ofNat a) (Int32.ofNat b)
  have r := (Int32.ofNat a - Int32.ofNat b).toInt_lt
  have r' := (Int32.ofNat a - Int32.ofNat b).le_toInt
  rw [own_i32 (by omega), own_i32 (by omega)] at e
  rw [own_i32 (by omega)]
  omega
theorem own_lt_iff {a b : Nat} (ha : a < 2147483648) (hb : b < 2147483648) : Int32.ofNat a < Int32.ofNat b ↔ a < b := by
  rw [Int32.lt_iff_toInt_lt, own_i32 ha, own_i32 hb]; omega
theorem own_eq_iff {a b : Nat} (ha : a < 2147483648) (hb : b < 2147483648) : Int32.ofNat a = Int32.ofNat b ↔ a = b := by
  rw [← Int32.toInt_inj, own_i32 ha, own_i32 hb]; omega
def ownTwo (s5 s6 : Slot) : Prop := (s5 = .unset ∧ s6 = .unset) ∨ ∃ z : Int64, s5 = .val (.long z) ∧ s6 = .second
theorem own_os5 {x0 x1 x2 : Addr} {o i : Int32} {v : Int64} {s5 s6 s7 : Slot} (q : ownTwo s5 s6) : storeLocals #[.val (.ref x0), .val (.ref x1), .val (.ref x2), .val (.int o), .val (.int i), s5, s6, s7] 5 (.long v) = some #[.val (.ref x0), .val (.ref x1), .val (.ref x2), .val (.int o), .val (.int i), .val (.long v), .second, s7] := by
  rcases q with ⟨rfl, rfl⟩ | ⟨z, rfl, rfl⟩ <;> rfl
theorem own_os7 {x0 x1 x2 : Addr} {o i v : Int32} {z : Int64} {s7 : Slot} (q : One s7) : storeLocals #[.val (.ref x0), .val (.ref x1), .val (.ref x2), .val (.int o), .val (.int i), .val (.long z), .second, s7] 7 (.int v) = some #[.val (.ref x0), .val (.ref x1), .val (.ref x2), .val (.int o), .val (.int i), .val (.long z), .second, .val (.int v)] := by
  rcases q with rfl | ⟨w, rfl, hw⟩
  · rfl
  · cases w <;> first | rfl | (simp [Value.category] at hw)
theorem own_upto {f : Nat → Value} {g : Nat → Value} {i : Nat} (h : ∀ j, j < i → f j = g j) : ∀ j, j < i + 1 → own_up f i (g i) j = g j := fun j hj => by
  by_cases q : j = i
  · subst q; exact own_up_hit
  · rw [own_up_miss q]; exact h j (by omega)
def ownLay (Z : State) (h : Heap) (A B o : Addr) (n : Nat) (lo : Nat → Int32) (kb : Nat → Nat) : Prop :=
  (A ≤ o ∧ o < B) ∧ Exa Z h o "com/example/ningbo/ningbo/engine/StateLayout" ∧ Fld Z h o "com/example/ningbo/ningbo/engine/StateLayout" "width" "I" (.int (Int32.ofNat n)) ∧ Fld Z h o "com/example/ningbo/ningbo/engine/StateLayout" "words" "I" (.int (Int32.ofNat (own_wds kb n))) ∧ ∃ lb w s k : Addr,
    (A ≤ lb ∧ lb < B) ∧ (A ≤ w ∧ w < B) ∧ (A ≤ s ∧ s < B) ∧ (A ≤ k ∧ k < B) ∧ Fld Z h o "com/example/ningbo/ningbo/engine/StateLayout" "lowerBounds" "[I" (.ref lb) ∧ Fld Z h o "com/example/ningbo/ningbo/engine/StateLayout" "wordOf" "[I" (.ref w) ∧ Fld Z h o "com/example/ningbo/ningbo/engine/StateLayout" "shiftOf" "[I" (.ref s) ∧ Fld Z h o "com/example/ningbo/ningbo/engine/StateLayout" "maskOf" "[J" (.ref k) ∧
    ownA Z h lb .int n (fun i => .int (lo i)) ∧ ownA Z h w .int n (fun i => .int (Int32.ofNat (own_st kb i / 64))) ∧ ownA Z h s .int n (fun i => .int (Int32.ofNat (own_st kb i % 64))) ∧ ownA Z h k .long n (fun i => .long (own_mk (kb i)))
theorem own_far {A B x t : Nat} (q : A ≤ x ∧ x < B) (r : t < A ∨ B ≤ t) : x ≠ t := by omega
theorem ownLay.keep {Z : State} {h h' : Heap} {A B o : Addr} {n : Nat} {lo : Nat → Int32} {kb : Nat → Nat} {ws : List Addr} (Y : ownLay Z h A B o n lo kb) (K : Keep h h' ws) (q : ∀ t ∈ ws, t < A ∨ B ≤ t) : ownLay Z h' A B o n lo kb := by
  obtain ⟨o1, E, F1, F2, lb, w, s, k, r1, r2, r3, r4, G1, G2, G3, G4, V1, V2, V3, V4⟩ := Y
  have ni : ∀ x, (A ≤ x ∧ x < B) → x ∉ ws := fun x hx hm => own_far hx (q x hm) rfl
  exact ⟨o1, E.keep K, F1.keep K (ni _ o1), F2.keep K (ni _ o1), lb, w, s, k, r1, r2, r3, r4, G1.keep K (ni _ o1), G2.keep K (ni _ o1), G3.keep K (ni _ o1), G4.keep K (ni _ o1), V1.keep K (ni _ r1), V2.keep K (ni _ r2), V3.keep K (ni _ r3), V4.keep K (ni _ r4)⟩
theorem ownLay.ext {Z : State} {h h' : Heap} {A B o : Addr} {n : Nat} {lo : Nat → Int32} {kb : Nat → Nat} (Y : ownLay Z h A B o n lo kb) (E : Ext h h') : ownLay Z h' A B o n lo kb :=
  Y.keep (ws := []) ((Keep.refl h []).ext E) (fun _ z => nomatch z)
theorem ownLay.wr {Z : State} {h h' : Heap} {A B o t : Addr} {n i : Nat} {v : Value} {lo : Nat → Int32} {kb : Nat → Nat} (Y : ownLay Z h A B o n lo kb) (W : Wr h h' t i v) (q : t < A ∨ B ≤ t) : ownLay Z h' A B o n lo kb :=
  Y.keep (Keep.of_wr W) (fun x hx => by cases List.mem_singleton.mp hx; exact q)
theorem ownLay.exa {Z : State} {h : Heap} {A B o : Addr} {n : Nat} {lo : Nat → Int32} {kb : Nat → Nat} (Y : ownLay Z h A B o n lo kb) : Exa Z h o "com/example/ningbo/ningbo/engine/StateLayout" := Y.2.1
theorem ownLay.lt {Z : State} {h : Heap} {A B o : Addr} {n : Nat} {lo : Nat → Int32} {kb : Nat → Nat} (Y : ownLay Z h A B o n lo kb) : o < h.size := Y.2.1.lt
theorem own_max1 (q : Nat) (h : q < 2147483648) : F2 (1 : Int32) (Int32.ofNat q) = Int32.ofNat (if q ≤ 1 then 1 else q) := by
  show (if Int32.ofNat 1 < Int32.ofNat q then Int32.ofNat q else (1 : Int32)) = _
  by_cases z : q ≤ 1
  · rw [if_neg (fun y => by have := (own_lt_iff (by decide) h).mp y; omega), if_pos z]; rfl
  · rw [if_pos ((own_lt_iff (by decide) h).mpr (by omega)), if_neg z]
def ownMade (Z : State) (x0 : Addr) (lo : Nat → Int32) (kb : Nat → Nat) (h0 : Heap) (n0 : Nat) (v : Option Value) (h : Heap) (L : List Loc) : Prop := v = none ∧ Fr n0 L ∧ Keep h0 h [x0] ∧ ownLay Z h x0 h.size x0 3 lo kb
theorem d3_0 : decode prog_49_method_1_code 0 = .ok (.aload_n 0, 1) := by decide +kernel
theorem d3_1 : decode prog_49_method_1_code 1 = .ok (.invokespecial 1, 3) := by decide +kernel
theorem d3_4 : decode prog_49_method_1_code 4 = .ok (.aload_n 0, 1) := by decide +kernel
theorem d3_5 : decode prog_49_method_1_code 5 = .ok (.aload_n 1, 1) := by decide +kernel
theorem d3_6 : decode prog_49_method_1_code 6 = .ok (.arraylength, 1) := by decide +kernel
theorem d3_7 : decode prog_49_method_1_code 7 = .ok (.putfield 7, 3) := by decide +kernel
theorem d3_10 : decode prog_49_method_1_code 10 = .ok (.aload_n 0, 1) := by decide +kernel
theorem d3_11 : decode prog_49_method_1_code 11 = .ok (.aload_n 1, 1) := by decide +kernel
theorem d3_12 : decode prog_49_method_1_code 12 = .ok (.invokevirtual 13, 3) := by decide +kernel
theorem d3_15 : decode prog_49_method_1_code 15 = .ok (.checkcast 14, 3) := by decide +kernel
theorem d3_18 : decode prog_49_method_1_code 18 = .ok (.putfield 19, 3) := by decide +kernel
theorem d3_21 : decode prog_49_method_1_code 21 = .ok (.aload_n 0, 1) := by decide +kernel
theorem d3_22 : decode prog_49_method_1_code 22 = .ok (.aload_n 0, 1) := by decide +kernel
theorem d3_23 : decode prog_49_method_1_code 23 = .ok (.getfield 7, 3) := by decide +kernel
theorem d3_26 : decode prog_49_method_1_code 26 = .ok (.newarray .int, 2) := by decide +kernel
theorem d3_28 : decode prog_49_method_1_code 28 = .ok (.putfield 22, 3) := by decide +kernel
theorem d3_31 : decode prog_49_method_1_code 31 = .ok (.aload_n 0, 1) := by decide +kernel
theorem d3_32 : decode prog_49_method_1_code 32 = .ok (.aload_n 0, 1) := by decide +kernel
theorem d3_33 : decode prog_49_method_1_code 33 = .ok (.getfield 7, 3) := by decide +kernel
theorem d3_36 : decode prog_49_method_1_code 36 = .ok (.newarray .int, 2) := by decide +kernel
theorem d3_38 : decode prog_49_method_1_code 38 = .ok (.putfield 25, 3) := by decide +kernel
theorem d3_41 : decode prog_49_method_1_code 41 = .ok (.aload_n 0, 1) := by decide +kernel
theorem d3_42 : decode prog_49_method_1_code 42 = .ok (.aload_n 0, 1) := by decide +kernel
theorem d3_43 : decode prog_49_method_1_code 43 = .ok (.getfield 7, 3) := by decide +kernel
theorem d3_46 : decode prog_49_method_1_code 46 = .ok (.newarray .long, 2) := by decide +kernel
theorem d3_48 : decode prog_49_method_1_code 48 = .ok (.putfield 28, 3) := by decide +kernel
theorem d3_51 : decode prog_49_method_1_code 51 = .ok (.iconst 0, 1) := by decide +kernel
theorem d3_52 : decode prog_49_method_1_code 52 = .ok (.istore_n 3, 1) := by decide +kernel
theorem d3_53 : decode prog_49_method_1_code 53 = .ok (.iconst 0, 1) := by decide +kernel
theorem d3_54 : decode prog_49_method_1_code 54 = .ok (.istore 4, 2) := by decide +kernel
theorem d3_56 : decode prog_49_method_1_code 56 = .ok (.iload 4, 2) := by decide +kernel
theorem d3_58 : decode prog_49_method_1_code 58 = .ok (.aload_n 0, 1) := by decide +kernel
theorem d3_59 : decode prog_49_method_1_code 59 = .ok (.getfield 7, 3) := by decide +kernel
theorem d3_62 : decode prog_49_method_1_code 62 = .ok (.if_icmp .ge 107, 3) := by decide +kernel
theorem d3_65 : decode prog_49_method_1_code 65 = .ok (.aload_n 2, 1) := by decide +kernel
theorem d3_66 : decode prog_49_method_1_code 66 = .ok (.iload 4, 2) := by decide +kernel
theorem d3_68 : decode prog_49_method_1_code 68 = .ok (.iaload, 1) := by decide +kernel
theorem d3_69 : decode prog_49_method_1_code 69 = .ok (.i2l, 1) := by decide +kernel
theorem d3_70 : decode prog_49_method_1_code 70 = .ok (.aload_n 1, 1) := by decide +kernel
theorem d3_71 : decode prog_49_method_1_code 71 = .ok (.iload 4, 2) := by decide +kernel
theorem d3_73 : decode prog_49_method_1_code 73 = .ok (.iaload, 1) := by decide +kernel
theorem d3_74 : decode prog_49_method_1_code 74 = .ok (.i2l, 1) := by decide +kernel
theorem d3_75 : decode prog_49_method_1_code 75 = .ok (.lsub, 1) := by decide +kernel
theorem d3_76 : decode prog_49_method_1_code 76 = .ok (.lstore 5, 2) := by decide +kernel
theorem d3_78 : decode prog_49_method_1_code 78 = .ok (.bipush 64, 2) := by decide +kernel
theorem d3_80 : decode prog_49_method_1_code 80 = .ok (.lload 5, 2) := by decide +kernel
theorem d3_82 : decode prog_49_method_1_code 82 = .ok (.invokestatic 32, 3) := by decide +kernel
theorem d3_85 : decode prog_49_method_1_code 85 = .ok (.isub, 1) := by decide +kernel
theorem d3_86 : decode prog_49_method_1_code 86 = .ok (.istore 7, 2) := by decide +kernel
theorem d3_88 : decode prog_49_method_1_code 88 = .ok (.iload_n 3, 1) := by decide +kernel
theorem d3_89 : decode prog_49_method_1_code 89 = .ok (.bipush 64, 2) := by decide +kernel
theorem d3_91 : decode prog_49_method_1_code 91 = .ok (.irem, 1) := by decide +kernel
theorem d3_92 : decode prog_49_method_1_code 92 = .ok (.iload 7, 2) := by decide +kernel
theorem d3_94 : decode prog_49_method_1_code 94 = .ok (.iadd, 1) := by decide +kernel
theorem d3_95 : decode prog_49_method_1_code 95 = .ok (.bipush 64, 2) := by decide +kernel
theorem d3_97 : decode prog_49_method_1_code 97 = .ok (.if_icmp .le 13, 3) := by decide +kernel
theorem d3_100 : decode prog_49_method_1_code 100 = .ok (.iload_n 3, 1) := by decide +kernel
theorem d3_101 : decode prog_49_method_1_code 101 = .ok (.bipush 64, 2) := by decide +kernel
theorem d3_103 : decode prog_49_method_1_code 103 = .ok (.iload_n 3, 1) := by decide +kernel
theorem d3_104 : decode prog_49_method_1_code 104 = .ok (.bipush 64, 2) := by decide +kernel
theorem d3_106 : decode prog_49_method_1_code 106 = .ok (.irem, 1) := by decide +kernel
theorem d3_107 : decode prog_49_method_1_code 107 = .ok (.isub, 1) := by decide +kernel
theorem d3_108 : decode prog_49_method_1_code 108 = .ok (.iadd, 1) := by decide +kernel
theorem d3_109 : decode prog_49_method_1_code 109 = .ok (.istore_n 3, 1) := by decide +kernel
theorem d3_110 : decode prog_49_method_1_code 110 = .ok (.aload_n 0, 1) := by decide +kernel
theorem d3_111 : decode prog_49_method_1_code 111 = .ok (.getfield 22, 3) := by decide +kernel
theorem d3_114 : decode prog_49_method_1_code 114 = .ok (.iload 4, 2) := by decide +kernel
theorem d3_116 : decode prog_49_method_1_code 116 = .ok (.iload_n 3, 1) := by decide +kernel
theorem d3_117 : decode prog_49_method_1_code 117 = .ok (.bipush 64, 2) := by decide +kernel
theorem d3_119 : decode prog_49_method_1_code 119 = .ok (.idiv, 1) := by decide +kernel
theorem d3_120 : decode prog_49_method_1_code 120 = .ok (.iastore, 1) := by decide +kernel
theorem d3_121 : decode prog_49_method_1_code 121 = .ok (.aload_n 0, 1) := by decide +kernel
theorem d3_122 : decode prog_49_method_1_code 122 = .ok (.getfield 25, 3) := by decide +kernel
theorem d3_125 : decode prog_49_method_1_code 125 = .ok (.iload 4, 2) := by decide +kernel
theorem d3_127 : decode prog_49_method_1_code 127 = .ok (.iload_n 3, 1) := by decide +kernel
theorem d3_128 : decode prog_49_method_1_code 128 = .ok (.bipush 64, 2) := by decide +kernel
theorem d3_130 : decode prog_49_method_1_code 130 = .ok (.irem, 1) := by decide +kernel
theorem d3_131 : decode prog_49_method_1_code 131 = .ok (.iastore, 1) := by decide +kernel
theorem d3_132 : decode prog_49_method_1_code 132 = .ok (.aload_n 0, 1) := by decide +kernel
theorem d3_133 : decode prog_49_method_1_code 133 = .ok (.getfield 28, 3) := by decide +kernel
theorem d3_136 : decode prog_49_method_1_code 136 = .ok (.iload 4, 2) := by decide +kernel
theorem d3_138 : decode prog_49_method_1_code 138 = .ok (.iload 7, 2) := by decide +kernel
theorem d3_140 : decode prog_49_method_1_code 140 = .ok (.bipush 64, 2) := by decide +kernel
theorem d3_142 : decode prog_49_method_1_code 142 = .ok (.if_icmp .ne 9, 3) := by decide +kernel
theorem d3_151 : decode prog_49_method_1_code 151 = .ok (.lconst 1, 1) := by decide +kernel
theorem d3_152 : decode prog_49_method_1_code 152 = .ok (.iload 7, 2) := by decide +kernel
theorem d3_154 : decode prog_49_method_1_code 154 = .ok (.lshl, 1) := by decide +kernel
theorem d3_155 : decode prog_49_method_1_code 155 = .ok (.lconst 1, 1) := by decide +kernel
theorem d3_156 : decode prog_49_method_1_code 156 = .ok (.lsub, 1) := by decide +kernel
theorem d3_157 : decode prog_49_method_1_code 157 = .ok (.lastore, 1) := by decide +kernel
theorem d3_158 : decode prog_49_method_1_code 158 = .ok (.iload_n 3, 1) := by decide +kernel
theorem d3_159 : decode prog_49_method_1_code 159 = .ok (.iload 7, 2) := by decide +kernel
theorem d3_161 : decode prog_49_method_1_code 161 = .ok (.iadd, 1) := by decide +kernel
theorem d3_162 : decode prog_49_method_1_code 162 = .ok (.istore_n 3, 1) := by decide +kernel
theorem d3_163 : decode prog_49_method_1_code 163 = .ok (.iinc 4 1, 3) := by decide +kernel
theorem d3_166 : decode prog_49_method_1_code 166 = .ok (.goto (-110), 3) := by decide +kernel
theorem d3_169 : decode prog_49_method_1_code 169 = .ok (.aload_n 0, 1) := by decide +kernel
theorem d3_170 : decode prog_49_method_1_code 170 = .ok (.iload_n 3, 1) := by decide +kernel
theorem d3_171 : decode prog_49_method_1_code 171 = .ok (.putfield 40, 3) := by decide +kernel
theorem d3_174 : decode prog_49_method_1_code 174 = .ok (.aload_n 0, 1) := by decide +kernel
theorem d3_175 : decode prog_49_method_1_code 175 = .ok (.iconst 1, 1) := by decide +kernel
theorem d3_176 : decode prog_49_method_1_code 176 = .ok (.iload_n 3, 1) := by decide +kernel
theorem d3_177 : decode prog_49_method_1_code 177 = .ok (.bipush 63, 2) := by decide +kernel
theorem d3_179 : decode prog_49_method_1_code 179 = .ok (.iadd, 1) := by decide +kernel
theorem d3_180 : decode prog_49_method_1_code 180 = .ok (.bipush 64, 2) := by decide +kernel
theorem d3_182 : decode prog_49_method_1_code 182 = .ok (.idiv, 1) := by decide +kernel
theorem d3_183 : decode prog_49_method_1_code 183 = .ok (.invokestatic 43, 3) := by decide +kernel
theorem d3_186 : decode prog_49_method_1_code 186 = .ok (.putfield 49, 3) := by decide +kernel
theorem d3_189 : decode prog_49_method_1_code 189 = .ok (.return_, 1) := by decide +kernel
theorem pd__II_I : parseMethodDescriptor "(II)I" = some ⟨[.int, .int], some .int⟩ := by decide +kernel
theorem pd__J_I : parseMethodDescriptor "(J)I" = some ⟨[.long], some .int⟩ := by decide +kernel
abbrev R3 : Room := { frames := 2, cells := 4, slots := 12, locals := 29 }
set_option maxRecDepth 65536 in
set_option maxHeartbeats 40000000 in
theorem own_loopC {p : Program} {l : Launch} {e : Env} {s : State} {m : MethodId} {args : Array Value} {below : List Frame} {meth : Method} {c : Code} {Z : State} {a0 : Array Value} {h0 : Heap} {n0 : Nat} (hx : p.tables.exec = Jvm.exec) (hZ : Z.Warmed39 s.vm) (hw : ∀ d ∈ tables_1, d.before a0 Z = true) (hby : c.code = prog_49_method_1_code) (hml : c.maxLocals = 8) (hown : s.vm.findClass "com/example/ningbo/ningbo/engine/StateLayout" = some m.cls) (hret : meth.sig.returnType = none) (hlk : meth.locks = false) (hnm : meth.name = "<init>") (x0 x1 x2 lb w sh k : Addr) (lo up : Nat → Int32) (kb : Nat → Nat) (hkb : ∀ i, i < 3 → ownBits ((up i).toInt64 - (lo i).toInt64).toInt (kb i)) (hk32 : ∀ i, i < 3 → kb i ≤ 32) (gz_x0 : n0 ≤ x0) (gx_lb : x0 ≤ lb) (gx_w : x0 ≤ w) (gx_sh : x0 ≤ sh) (gx_k : x0 ≤ k) (gz_w : n0 ≤ w) (gz_sh : n0 ≤ sh) (gz_k : n0 ≤ k) (sz_w : h0.size ≤ w) (sz_sh : h0.size ≤ sh) (sz_k : h0.size ≤ k) (ne_x0_x1 : x0 ≠ x1) (ne_x0_x2 : x0 ≠ x2) (ne_x0_lb : x0 ≠ lb) (ne_x0_w : x0 ≠ w) (ne_x0_sh : x0 ≠ sh) (ne_x0_k : x0 ≠ k) (ne_x1_lb : x1 ≠ lb) (ne_x1_w : x1 ≠ w) (ne_x1_sh : x1 ≠ sh) (ne_x1_k : x1 ≠ k) (ne_x2_lb : x2 ≠ lb) (ne_x2_w : x2 ≠ w) (ne_x2_sh : x2 ≠ sh) (ne_x2_k : x2 ≠ k) (ne_lb_w : lb ≠ w) (ne_lb_sh : lb ≠ sh) (ne_lb_k : lb ≠ k) (ne_w_sh : w ≠ sh) (ne_w_k : w ≠ k) (ne_sh_k : sh ≠ k) :
    ∀ (kk i : Nat), i + kk = 3 → ∀ (T0 : State) (h : Heap) (locs : List Loc) (fw fs fk : Nat → Value) (s5 s6 s7 : Slot), ownTwo s5 s6 → One s7 → Stand p l e R3 s m args below meth c T0 locs 4 12 → T0.heap = h → Fr n0 locs → n0 ≤ h.size → Keep h0 h [x0] → Exa Z h x0 "com/example/ningbo/ningbo/engine/StateLayout" → Fld Z h x0 "com/example/ningbo/ningbo/engine/StateLayout" "width" "I" (.int (3 : Int32)) → Fld Z h x0 "com/example/ningbo/ningbo/engine/StateLayout" "lowerBounds" "[I" (.ref lb) → Fld Z h x0 "com/example/ningbo/ningbo/engine/StateLayout" "wordOf" "[I" (.ref w) → Fld Z h x0 "com/example/ningbo/ningbo/engine/StateLayout" "shiftOf" "[I" (.ref sh) → Fld Z h x0 "com/example/ningbo/ningbo/engine/StateLayout" "maskOf" "[J" (.ref k) → Fld Z h x0 "com/example/ningbo/ningbo/engine/StateLayout" "bits" "I" (.int (0 : Int32)) → Fld Z h x0 "com/example/ningbo/ningbo/engine/StateLayout" "words" "I" (.int (0 : Int32)) → ownA Z h x1 .int 3 (fun i => .int (lo i)) → ownA Z h x2 .int 3 (fun i => .int (up i)) → ownA Z h lb .int 3 (fun i => .int (lo i)) →
      ownA Z h w .int 3 fw → (∀ j, j < i → fw j = .int (Int32.ofNat (own_st kb j / 64))) → ownA Z h sh .int 3 fs → (∀ j, j < i → fs j = .int (Int32.ofNat (own_st kb j % 64))) → ownA Z h k .long 3 fk → (∀ j, j < i → fk j = .long (own_mk (kb j))) →
      ownGo p.tables e below T0 (mkF m 56 #[.val (.ref x0), .val (.ref x1), .val (.ref x2), .val (.int (Int32.ofNat (own_off kb i))), .val (.int (Int32.ofNat i)), s5, s6, s7] []) (ownDone s (ownMade Z x0 lo kb h0 n0) R3.cells R3.slots) := by
  intro kk
  induction kk with
  | zero =>
    intro i hi T0 h locs fw fs fk s5 s6 s7 h56 h7 X0 e0 N0 Z1 K0 E0 F_width F_lowerBounds F_wordOf F_shiftOf F_maskOf F_bits F_words V1 V2 VL Vw hw_ Vs hs_ Vk hk_
    obtain rfl : i = 3 := by omega
    have ob := own_off_le kb 3 hk32 3 (Nat.le_refl _)
    refine ownGo.st (fun _ k => XS.iload X0.here hx rfl (hb hby d3_56) rfl k) ?_
    show ownGo p.tables e below T0 (mkF m 58 #[.val (.ref x0), .val (.ref x1), .val (.ref x2), .val (.int (Int32.ofNat (own_off kb 3))), .val (.int (Int32.ofNat 3)), s5, s6, s7] [(.int (Int32.ofNat 3))]) _
    refine ownGo.st (fun _ k => XS.aloadN X0.here hx rfl (hb hby d3_58) rfl rfl k) ?_
    show ownGo p.tables e below T0 (mkF m 59 #[.val (.ref x0), .val (.ref x1), .val (.ref x2), .val (.int (Int32.ofNat (own_off kb 3))), .val (.int (Int32.ofNat 3)), s5, s6, s7] [(.ref x0), (.int (Int32.ofNat 3))]) _
    obtain ⟨T12, X12, e12, st12⟩ := getF X0 hx hZ hown (host := "") (Or.inl (own_at hw 17 rfl)) Via.refl e0 F_width (g := (mkF m 59 #[.val (.ref x0), .val (.ref x1), .val (.ref x2), .val (.int (Int32.ofNat (own_off kb 3))), .val (.int (Int32.ofNat 3)), s5, s6, s7] [(.ref x0), (.int (Int32.ofNat 3))])) rfl rfl (hb hby d3_59)
    refine ownGo.st (st12) ?_
    show ownGo p.tables e below T12 (mkF m 62 #[.val (.ref x0), .val (.ref x1), .val (.ref x2), .val (.int (Int32.ofNat (own_off kb 3))), .val (.int (Int32.ofNat 3)), s5, s6, s7] [(.int (3 : Int32)), (.int (Int32.ofNat 3))]) _
    have hc13 : ¬ ((Int32.ofNat 3) < (3 : Int32)) := Int32.lt_irrefl
    refine ownGo.st (fun _ k => XS.icmpYes X12.here hx rfl (pc0 := 62) (pc' := 169) rfl (hb hby d3_62) rfl (flt hc13).2.1 (by decide) (by decide) k) ?_
    show ownGo p.tables e below T12 (mkF m 169 #[.val (.ref x0), .val (.ref x1), .val (.ref x2), .val (.int (Int32.ofNat (own_off kb 3))), .val (.int (Int32.ofNat 3)), s5, s6, s7] []) _
    refine ownGo.st (fun _ k => XS.aloadN X12.here hx rfl (hb hby d3_169) rfl rfl k) ?_
    show ownGo p.tables e below T12 (mkF m 170 #[.val (.ref x0), .val (.ref x1), .val (.ref x2), .val (.int (Int32.ofNat (own_off kb 3))), .val (.int (Int32.ofNat 3)), s5, s6, s7] [(.ref x0)]) _
    refine ownGo.st (fun _ k => XS.iloadN X12.here hx rfl (hb hby d3_170) rfl k) ?_
    show ownGo p.tables e below T12 (mkF m 171 #[.val (.ref x0), .val (.ref x1), .val (.ref x2), .val (.int (Int32.ofNat (own_off kb 3))), .val (.int (Int32.ofNat 3)), s5, s6, s7] [(.int (Int32.ofNat (own_off kb 3))), (.ref x0)]) _
    obtain ⟨T14, h14, X14, e14, W14, st14⟩ := putF X12 hx hZ hown (host := "") (Or.inl (own_at hw 46 rfl)) Via.refl e12 F_bits E0 (Or.inr ⟨(own_at hw 47 rfl), rfl, hnm⟩) (own_at hw 9 rfl) (ty := .int) (by decide) rfl rfl (g := (mkF m 171 #[.val (.ref x0), .val (.ref x1), .val (.ref x2), .val (.int (Int32.ofNat (own_off kb 3))), .val (.int (Int32.ofNat 3)), s5, s6, s7] [(.int (Int32.ofNat (own_off kb 3))), (.ref x0)])) rfl rfl (hb hby d3_171)
    have E0_15 := E0.wr W14
    have F_width_16 := F_width.other W14 (Or.inr (slot_ne (Or.inr (own_at hw 18 rfl)) (Or.inr (own_at hw 47 rfl)) (by decide) (t := .int) (t' := .int) (by decide) (by decide)))
    have F_lowerBounds_17 := F_lowerBounds.other W14 (Or.inr (slot_ne (Or.inr (own_at hw 29 rfl)) (Or.inr (own_at hw 47 rfl)) (by decide) (t := (.array .int)) (t' := .int) (by decide) (by decide)))
    have F_wordOf_18 := F_wordOf.other W14 (Or.inr (slot_ne (Or.inr (own_at hw 31 rfl)) (Or.inr (own_at hw 47 rfl)) (by decide) (t := (.array .int)) (t' := .int) (by decide) (by decide)))
    have F_shiftOf_19 := F_shiftOf.other W14 (Or.inr (slot_ne (Or.inr (own_at hw 33 rfl)) (Or.inr (own_at hw 47 rfl)) (by decide) (t := (.array .int)) (t' := .int) (by decide) (by decide)))
    have F_maskOf_20 := F_maskOf.other W14 (Or.inr (slot_ne (Or.inr (own_at hw 36 rfl)) (Or.inr (own_at hw 47 rfl)) (by decide) (t := (.array .long)) (t' := .int) (by decide) (by decide)))
    have F_bits_21 := F_bits.same W14
    have F_words_22 := F_words.other W14 (Or.inr (slot_ne (Or.inr (own_at hw 50 rfl)) (Or.inr (own_at hw 47 rfl)) (by decide) (t := .int) (t' := .int) (by decide) (by decide)))
    have V1_23 := V1.other W14 (Ne.symm ne_x0_x1)
    have V2_24 := V2.other W14 (Ne.symm ne_x0_x2)
    have VL_25 := VL.other W14 (Ne.symm ne_x0_lb)
    have Vw_26 := Vw.other W14 (Ne.symm ne_x0_w)
    have Vs_27 := Vs.other W14 (Ne.symm ne_x0_sh)
    have Vk_28 := Vk.other W14 (Ne.symm ne_x0_k)
    have N14 := Fr.snoc X14 N0 gz_x0
    have Z14 : n0 ≤ h14.size := Nat.le_trans Z1 (Nat.le_of_eq W14.size.symm)
    have K14 := K0.wr W14 (Or.inl (List.mem_singleton.mpr rfl))
    refine ownGo.st (st14) ?_
    show ownGo p.tables e below T14 (mkF m 174 #[.val (.ref x0), .val (.ref x1), .val (.ref x2), .val (.int (Int32.ofNat (own_off kb 3))), .val (.int (Int32.ofNat 3)), s5, s6, s7] []) _
    refine ownGo.st (fun _ k => XS.aloadN X14.here hx rfl (hb hby d3_174) rfl rfl k) ?_
    show ownGo p.tables e below T14 (mkF m 175 #[.val (.ref x0), .val (.ref x1), .val (.ref x2), .val (.int (Int32.ofNat (own_off kb 3))), .val (.int (Int32.ofNat 3)), s5, s6, s7] [(.ref x0)]) _
    refine ownGo.st (fun _ k => XS.iconst X14.here hx rfl (hb hby d3_175)  k) ?_
    show ownGo p.tables e below T14 (mkF m 176 #[.val (.ref x0), .val (.ref x1), .val (.ref x2), .val (.int (Int32.ofNat (own_off kb 3))), .val (.int (Int32.ofNat 3)), s5, s6, s7] [(.int (1 : Int32)), (.ref x0)]) _
    refine ownGo.st (fun _ k => XS.iloadN X14.here hx rfl (hb hby d3_176) rfl k) ?_
    show ownGo p.tables e below T14 (mkF m 177 #[.val (.ref x0), .val (.ref x1), .val (.ref x2), .val (.int (Int32.ofNat (own_off kb 3))), .val (.int (Int32.ofNat 3)), s5, s6, s7] [(.int (Int32.ofNat (own_off kb 3))), (.int (1 : Int32)), (.ref x0)]) _
    refine ownGo.st (fun _ k => XS.bipush X14.here hx rfl (hb hby d3_177)  k) ?_
    show ownGo p.tables e below T14 (mkF m 179 #[.val (.ref x0), .val (.ref x1), .val (.ref x2), .val (.int (Int32.ofNat (own_off kb 3))), .val (.int (Int32.ofNat 3)), s5, s6, s7] [(.int (63 : Int32)), (.int (Int32.ofNat (own_off kb 3))), (.int (1 : Int32)), (.ref x0)]) _
    refine ownGo.st (fun _ k => XS.iadd X14.here hx rfl (hb hby d3_179) rfl k) ?_
    show ownGo p.tables e below T14 (mkF m 180 #[.val (.ref x0), .val (.ref x1), .val (.ref x2), .val (.int (Int32.ofNat (own_off kb 3))), .val (.int (Int32.ofNat 3)), s5, s6, s7] [(.int ((Int32.ofNat (own_off kb 3)) + (63 : Int32))), (.int (1 : Int32)), (.ref x0)]) _
    rw [show Int32.ofNat (own_off kb 3) + (63 : Int32) = Int32.ofNat (own_off kb 3 + 63) from (Int32.ofNat_add _ 63).symm]
    show ownGo p.tables e below T14 (mkF m 180 #[.val (.ref x0), .val (.ref x1), .val (.ref x2), .val (.int (Int32.ofNat (own_off kb 3))), .val (.int (Int32.ofNat 3)), s5, s6, s7] [(.int (Int32.ofNat (own_off kb 3 + 63))), (.int (1 : Int32)), (.ref x0)]) _
    refine ownGo.st (fun _ k => XS.bipush X14.here hx rfl (hb hby d3_180)  k) ?_
    show ownGo p.tables e below T14 (mkF m 182 #[.val (.ref x0), .val (.ref x1), .val (.ref x2), .val (.int (Int32.ofNat (own_off kb 3))), .val (.int (Int32.ofNat 3)), s5, s6, s7] [(.int (64 : Int32)), (.int (Int32.ofNat (own_off kb 3 + 63))), (.int (1 : Int32)), (.ref x0)]) _
    refine ownGo.st (fun _ k => XS.idiv X14.here hx rfl (hb hby d3_182) rfl (by decide) k) ?_
    show ownGo p.tables e below T14 (mkF m 183 #[.val (.ref x0), .val (.ref x1), .val (.ref x2), .val (.int (Int32.ofNat (own_off kb 3))), .val (.int (Int32.ofNat 3)), s5, s6, s7] [(.int ((Int32.ofNat (own_off kb 3 + 63)) / (64 : Int32))), (.int (1 : Int32)), (.ref x0)]) _
    rw [own_div64 (by omega)]
    show ownGo p.tables e below T14 (mkF m 183 #[.val (.ref x0), .val (.ref x1), .val (.ref x2), .val (.int (Int32.ofNat (own_off kb 3))), .val (.int (Int32.ofNat 3)), s5, s6, s7] [(.int (Int32.ofNat ((own_off kb 3 + 63) / 64))), (.int (1 : Int32)), (.ref x0)]) _
    obtain ⟨_, T29, L29, X29, hQ29, st29⟩ := own_callS X14 hx hZ hown (own_at hw 48 rfl) (own_at hw 6 rfl) (own_at hw 3 rfl) (own_at hw 7 rfl) (by decide) (rm2 l Z a0 hw (1 : Int32) (Int32.ofNat ((own_off kb 3 + 63) / 64)) h14 n0) 1 (by decide) (by decide) e14 (by decide) (by decide) (g := (mkF m 183 #[.val (.ref x0), .val (.ref x1), .val (.ref x2), .val (.int (Int32.ofNat (own_off kb 3))), .val (.int (Int32.ofNat 3)), s5, s6, s7] [(.int (Int32.ofNat ((own_off kb 3 + 63) / 64))), (.int (1 : Int32)), (.ref x0)])) rfl (by rw [hml]; rfl) (argsL := [(.int (1 : Int32)), (.int (Int32.ofNat ((own_off kb 3 + 63) / 64)))]) (rest := [(.ref x0)]) (lenOf pd__II_I rfl) rfl (by show 2 * 0 + _ ≤ _; exact Nat.le_of_eq rfl) (hb hby d3_183)
    obtain ⟨rfl, N29q, e29⟩ := hQ29
    have N29 := Fr.app N14 N29q
    refine ownGo.st st29 ?_
    show ownGo p.tables e below T29 (mkF m 186 #[.val (.ref x0), .val (.ref x1), .val (.ref x2), .val (.int (Int32.ofNat (own_off kb 3))), .val (.int (Int32.ofNat 3)), s5, s6, s7] [(.int (F2 (1 : Int32) (Int32.ofNat ((own_off kb 3 + 63) / 64)))), (.ref x0)]) _
    rw [show F2 (1 : Int32) (Int32.ofNat ((own_off kb 3 + 63) / 64)) = Int32.ofNat (own_wds kb 3) from own_max1 _ (by omega)]
    show ownGo p.tables e below T29 (mkF m 186 #[.val (.ref x0), .val (.ref x1), .val (.ref x2), .val (.int (Int32.ofNat (own_off kb 3))), .val (.int (Int32.ofNat 3)), s5, s6, s7] [(.int (Int32.ofNat (own_wds kb 3))), (.ref x0)]) _
    obtain ⟨T30, h30, X30, e30, W30, st30⟩ := putF X29 hx hZ hown (host := "") (Or.inl (own_at hw 49 rfl)) Via.refl e29 F_words_22 E0_15 (Or.inr ⟨(own_at hw 50 rfl), rfl, hnm⟩) (own_at hw 9 rfl) (ty := .int) (by decide) rfl rfl (g := (mkF m 186 #[.val (.ref x0), .val (.ref x1), .val (.ref x2), .val (.int (Int32.ofNat (own_off kb 3))), .val (.int (Int32.ofNat 3)), s5, s6, s7] [(.int (Int32.ofNat (own_wds kb 3))), (.ref x0)])) rfl rfl (hb hby d3_186)
    have E0_31 := E0_15.wr W30
    have F_width_32 := F_width_16.other W30 (Or.inr (slot_ne (Or.inr (own_at hw 18 rfl)) (Or.inr (own_at hw 50 rfl)) (by decide) (t := .int) (t' := .int) (by decide) (by decide)))
    have F_lowerBounds_33 := F_lowerBounds_17.other W30 (Or.inr (slot_ne (Or.inr (own_at hw 29 rfl)) (Or.inr (own_at hw 50 rfl)) (by decide) (t := (.array .int)) (t' := .int) (by decide) (by decide)))
    have F_wordOf_34 := F_wordOf_18.other W30 (Or.inr (slot_ne (Or.inr (own_at hw 31 rfl)) (Or.inr (own_at hw 50 rfl)) (by decide) (t := (.array .int)) (t' := .int) (by decide) (by decide)))
    have F_shiftOf_35 := F_shiftOf_19.other W30 (Or.inr (slot_ne (Or.inr (own_at hw 33 rfl)) (Or.inr (own_at hw 50 rfl)) (by decide) (t := (.array .int)) (t' := .int) (by decide) (by decide)))
    have F_maskOf_36 := F_maskOf_20.other W30 (Or.inr (slot_ne (Or.inr (own_at hw 36 rfl)) (Or.inr (own_at hw 50 rfl)) (by decide) (t := (.array .long)) (t' := .int) (by decide) (by decide)))
    have F_bits_37 := F_bits_21.other W30 (Or.inr (slot_ne (Or.inr (own_at hw 47 rfl)) (Or.inr (own_at hw 50 rfl)) (by decide) (t := .int) (t' := .int) (by decide) (by decide)))
    have F_words_38 := F_words_22.same W30
    have V1_39 := V1_23.other W30 (Ne.symm ne_x0_x1)
    have V2_40 := V2_24.other W30 (Ne.symm ne_x0_x2)
    have VL_41 := VL_25.other W30 (Ne.symm ne_x0_lb)
    have Vw_42 := Vw_26.other W30 (Ne.symm ne_x0_w)
    have Vs_43 := Vs_27.other W30 (Ne.symm ne_x0_sh)
    have Vk_44 := Vk_28.other W30 (Ne.symm ne_x0_k)
    have N30 := Fr.snoc X30 N29 gz_x0
    have Z30 : n0 ≤ h30.size := Nat.le_trans Z14 (Nat.le_of_eq W30.size.symm)
    have K30 := K14.wr W30 (Or.inl (List.mem_singleton.mpr rfl))
    refine ownGo.st (st30) ?_
    show ownGo p.tables e below T30 (mkF m 189 #[.val (.ref x0), .val (.ref x1), .val (.ref x2), .val (.int (Int32.ofNat (own_off kb 3))), .val (.int (Int32.ofNat 3)), s5, s6, s7] []) _
    have Bq : ∀ y, y < h30.size → y < T30.heap.size := fun y hy => by rw [e30]; exact hy
    exact own_retV X30 hx hlk hret (hb hby d3_189) ⟨rfl, N30, by rw [e30]; exact K30, ⟨⟨Nat.le_refl _, Bq _ E0_31.lt⟩, (by rw [e30]; exact E0_31), (by rw [e30]; exact F_width_32), (by rw [e30]; exact F_words_38), lb, w, sh, k, ⟨gx_lb, Bq _ VL_41.lt⟩, ⟨gx_w, Bq _ Vw_42.lt⟩, ⟨gx_sh, Bq _ Vs_43.lt⟩, ⟨gx_k, Bq _ Vk_44.lt⟩, (by rw [e30]; exact F_lowerBounds_33), (by rw [e30]; exact F_wordOf_34), (by rw [e30]; exact F_shiftOf_35), (by rw [e30]; exact F_maskOf_36), (by rw [e30]; exact VL_41), ownA.eq (by rw [e30]; exact Vw_42) hw_, ownA.eq (by rw [e30]; exact Vs_43) hs_, ownA.eq (by rw [e30]; exact Vk_44) hk_⟩⟩ (by decide) (by decide)
  | succ kk ih =>
    intro i hi T0 h locs fw fs fk s5 s6 s7 h56 h7 X0 e0 N0 Z1 K0 E0 F_width F_lowerBounds F_wordOf F_shiftOf F_maskOf F_bits F_words V1 V2 VL Vw hw_ Vs hs_ Vk hk_
    have ob := own_off_le kb 3 hk32 i (by omega)
    have k32 := hk32 i (by omega)
    have al := own_al_le (own_off kb i) (kb i)
    refine ownGo.st (fun _ k => XS.iload X0.here hx rfl (hb hby d3_56) rfl k) ?_
    show ownGo p.tables e below T0 (mkF m 58 #[.val (.ref x0), .val (.ref x1), .val (.ref x2), .val (.int (Int32.ofNat (own_off kb i))), .val (.int (Int32.ofNat i)), s5, s6, s7] [(.int (Int32.ofNat i))]) _
    refine ownGo.st (fun _ k => XS.aloadN X0.here hx rfl (hb hby d3_58) rfl rfl k) ?_
    show ownGo p.tables e below T0 (mkF m 59 #[.val (.ref x0), .val (.ref x1), .val (.ref x2), .val (.int (Int32.ofNat (own_off kb i))), .val (.int (Int32.ofNat i)), s5, s6, s7] [(.ref x0), (.int (Int32.ofNat i))]) _
    obtain ⟨T45, X45, e45, st45⟩ := getF X0 hx hZ hown (host := "") (Or.inl (own_at hw 17 rfl)) Via.refl e0 F_width (g := (mkF m 59 #[.val (.ref x0), .val (.ref x1), .val (.ref x2), .val (.int (Int32.ofNat (own_off kb i))), .val (.int (Int32.ofNat i)), s5, s6, s7] [(.ref x0), (.int (Int32.ofNat i))])) rfl rfl (hb hby d3_59)
    refine ownGo.st (st45) ?_
    show ownGo p.tables e below T45 (mkF m 62 #[.val (.ref x0), .val (.ref x1), .val (.ref x2), .val (.int (Int32.ofNat (own_off kb i))), .val (.int (Int32.ofNat i)), s5, s6, s7] [(.int (3 : Int32)), (.int (Int32.ofNat i))]) _
    have hc46 : (Int32.ofNat i) < (3 : Int32) := own_ltn (n := 3) (by omega) (by decide)
    refine ownGo.st (fun _ k => XS.icmpNo X45.here hx rfl (hb hby d3_62) rfl (tlt hc46).2.1 k) ?_
    show ownGo p.tables e below T45 (mkF m 65 #[.val (.ref x0), .val (.ref x1), .val (.ref x2), .val (.int (Int32.ofNat (own_off kb i))), .val (.int (Int32.ofNat i)), s5, s6, s7] []) _
    refine ownGo.st (fun _ k => XS.aloadN X45.here hx rfl (hb hby d3_65) rfl rfl k) ?_
    show ownGo p.tables e below T45 (mkF m 66 #[.val (.ref x0), .val (.ref x1), .val (.ref x2), .val (.int (Int32.ofNat (own_off kb i))), .val (.int (Int32.ofNat i)), s5, s6, s7] [(.ref x2)]) _
    refine ownGo.st (fun _ k => XS.iload X45.here hx rfl (hb hby d3_66) rfl k) ?_
    show ownGo p.tables e below T45 (mkF m 68 #[.val (.ref x0), .val (.ref x1), .val (.ref x2), .val (.int (Int32.ofNat (own_off kb i))), .val (.int (Int32.ofNat i)), s5, s6, s7] [(.int (Int32.ofNat i)), (.ref x2)]) _
    refine ownGo.st (own_iaload X45 hx hZ e45 V2 (i := i) (v := (up i)) rfl (by omega) rfl (g := (mkF m 68 #[.val (.ref x0), .val (.ref x1), .val (.ref x2), .val (.int (Int32.ofNat (own_off kb i))), .val (.int (Int32.ofNat i)), s5, s6, s7] [(.int (Int32.ofNat i)), (.ref x2)])) rfl rfl (hb hby d3_68)) ?_
    show ownGo p.tables e below T45 (mkF m 69 #[.val (.ref x0), .val (.ref x1), .val (.ref x2), .val (.int (Int32.ofNat (own_off kb i))), .val (.int (Int32.ofNat i)), s5, s6, s7] [(.int (up i))]) _
    refine ownGo.st (fun _ k => XS.i2l X45.here hx rfl (hb hby d3_69) rfl k) ?_
    show ownGo p.tables e below T45 (mkF m 70 #[.val (.ref x0), .val (.ref x1), .val (.ref x2), .val (.int (Int32.ofNat (own_off kb i))), .val (.int (Int32.ofNat i)), s5, s6, s7] [(.long ((up i).toInt64))]) _
    refine ownGo.st (fun _ k => XS.aloadN X45.here hx rfl (hb hby d3_70) rfl rfl k) ?_
    show ownGo p.tables e below T45 (mkF m 71 #[.val (.ref x0), .val (.ref x1), .val (.ref x2), .val (.int (Int32.ofNat (own_off kb i))), .val (.int (Int32.ofNat i)), s5, s6, s7] [(.ref x1), (.long ((up i).toInt64))]) _
    refine ownGo.st (fun _ k => XS.iload X45.here hx rfl (hb hby d3_71) rfl k) ?_
    show ownGo p.tables e below T45 (mkF m 73 #[.val (.ref x0), .val (.ref x1), .val (.ref x2), .val (.int (Int32.ofNat (own_off kb i))), .val (.int (Int32.ofNat i)), s5, s6, s7] [(.int (Int32.ofNat i)), (.ref x1), (.long ((up i).toInt64))]) _
    refine ownGo.st (own_iaload X45 hx hZ e45 V1 (i := i) (v := (lo i)) rfl (by omega) rfl (g := (mkF m 73 #[.val (.ref x0), .val (.ref x1), .val (.ref x2), .val (.int (Int32.ofNat (own_off kb i))), .val (.int (Int32.ofNat i)), s5, s6, s7] [(.int (Int32.ofNat i)), (.ref x1), (.long ((up i).toInt64))])) rfl rfl (hb hby d3_73)) ?_
    show ownGo p.tables e below T45 (mkF m 74 #[.val (.ref x0), .val (.ref x1), .val (.ref x2), .val (.int (Int32.ofNat (own_off kb i))), .val (.int (Int32.ofNat i)), s5, s6, s7] [(.int (lo i)), (.long ((up i).toInt64))]) _
    refine ownGo.st (fun _ k => XS.i2l X45.here hx rfl (hb hby d3_74) rfl k) ?_
    show ownGo p.tables e below T45 (mkF m 75 #[.val (.ref x0), .val (.ref x1), .val (.ref x2), .val (.int (Int32.ofNat (own_off kb i))), .val (.int (Int32.ofNat i)), s5, s6, s7] [(.long ((lo i).toInt64)), (.long ((up i).toInt64))]) _
    refine ownGo.st (fun _ k => XS.lsub X45.here hx rfl (hb hby d3_75) rfl k) ?_
    show ownGo p.tables e below T45 (mkF m 76 #[.val (.ref x0), .val (.ref x1), .val (.ref x2), .val (.int (Int32.ofNat (own_off kb i))), .val (.int (Int32.ofNat i)), s5, s6, s7] [(.long (((up i).toInt64) - ((lo i).toInt64)))]) _
    refine ownGo.st (fun _ k => XS.lstore X45.here hx rfl (hb hby d3_76) rfl (l' := #[.val (.ref x0), .val (.ref x1), .val (.ref x2), .val (.int (Int32.ofNat (own_off kb i))), .val (.int (Int32.ofNat i)), .val (.long (((up i).toInt64) - ((lo i).toInt64))), .second, s7]) (own_os5 h56) k) ?_
    show ownGo p.tables e below T45 (mkF m 78 #[.val (.ref x0), .val (.ref x1), .val (.ref x2), .val (.int (Int32.ofNat (own_off kb i))), .val (.int (Int32.ofNat i)), .val (.long (((up i).toInt64) - ((lo i).toInt64))), .second, s7] []) _
    refine ownGo.st (fun _ k => XS.bipush X45.here hx rfl (hb hby d3_78)  k) ?_
    show ownGo p.tables e below T45 (mkF m 80 #[.val (.ref x0), .val (.ref x1), .val (.ref x2), .val (.int (Int32.ofNat (own_off kb i))), .val (.int (Int32.ofNat i)), .val (.long (((up i).toInt64) - ((lo i).toInt64))), .second, s7] [(.int (64 : Int32))]) _
    refine ownGo.st (fun _ k => XS.lload X45.here hx rfl (hb hby d3_80) rfl k) ?_
    show ownGo p.tables e below T45 (mkF m 82 #[.val (.ref x0), .val (.ref x1), .val (.ref x2), .val (.int (Int32.ofNat (own_off kb i))), .val (.int (Int32.ofNat i)), .val (.long (((up i).toInt64) - ((lo i).toInt64))), .second, s7] [(.long (((up i).toInt64) - ((lo i).toInt64))), (.int (64 : Int32))]) _
    obtain ⟨_, T47, L47, X47, hQ47, st47⟩ := own_callS X45 hx hZ hown (own_at hw 37 rfl) (own_at hw 38 rfl) (own_at hw 39 rfl) (own_at hw 40 rfl) (by decide) (rm5 l Z a0 hw (((up i).toInt64) - ((lo i).toInt64)) h n0) 1 (by decide) (by decide) e45 (by decide) (by decide) (g := (mkF m 82 #[.val (.ref x0), .val (.ref x1), .val (.ref x2), .val (.int (Int32.ofNat (own_off kb i))), .val (.int (Int32.ofNat i)), .val (.long (((up i).toInt64) - ((lo i).toInt64))), .second, s7] [(.long (((up i).toInt64) - ((lo i).toInt64))), (.int (64 : Int32))])) rfl (by rw [hml]; rfl) (argsL := [(.long (((up i).toInt64) - ((lo i).toInt64)))]) (rest := [(.int (64 : Int32))]) (lenOf pd__J_I rfl) rfl (by show 2 * 0 + _ ≤ _; exact Nat.le_of_eq rfl) (hb hby d3_82)
    obtain ⟨rfl, N47q, e47⟩ := hQ47
    have N47 := Fr.app N0 N47q
    refine ownGo.st st47 ?_
    show ownGo p.tables e below T47 (mkF m 85 #[.val (.ref x0), .val (.ref x1), .val (.ref x2), .val (.int (Int32.ofNat (own_off kb i))), .val (.int (Int32.ofNat i)), .val (.long (((up i).toInt64) - ((lo i).toInt64))), .second, s7] [(.int (F5 (((up i).toInt64) - ((lo i).toInt64)))), (.int (64 : Int32))]) _
    refine ownGo.st (fun _ k => XS.isub X47.here hx rfl (hb hby d3_85) rfl k) ?_
    show ownGo p.tables e below T47 (mkF m 86 #[.val (.ref x0), .val (.ref x1), .val (.ref x2), .val (.int (Int32.ofNat (own_off kb i))), .val (.int (Int32.ofNat i)), .val (.long (((up i).toInt64) - ((lo i).toInt64))), .second, s7] [(.int ((64 : Int32) - (F5 (((up i).toInt64) - ((lo i).toInt64)))))]) _
    rw [own_nlz _ (kb i) (hkb i (by omega))]
    show ownGo p.tables e below T47 (mkF m 86 #[.val (.ref x0), .val (.ref x1), .val (.ref x2), .val (.int (Int32.ofNat (own_off kb i))), .val (.int (Int32.ofNat i)), .val (.long (((up i).toInt64) - ((lo i).toInt64))), .second, s7] [(.int (Int32.ofNat (kb i)))]) _
    refine ownGo.st (fun _ k => XS.istore X47.here hx rfl (hb hby d3_86) rfl (l' := #[.val (.ref x0), .val (.ref x1), .val (.ref x2), .val (.int (Int32.ofNat (own_off kb i))), .val (.int (Int32.ofNat i)), .val (.long (((up i).toInt64) - ((lo i).toInt64))), .second, .val (.int (Int32.ofNat (kb i)))]) (own_os7 h7) k) ?_
    show ownGo p.tables e below T47 (mkF m 88 #[.val (.ref x0), .val (.ref x1), .val (.ref x2), .val (.int (Int32.ofNat (own_off kb i))), .val (.int (Int32.ofNat i)), .val (.long (((up i).toInt64) - ((lo i).toInt64))), .second, .val (.int (Int32.ofNat (kb i)))] []) _
    have J48 : ∀ G, ownGo p.tables e below T47 (mkF m 110 #[.val (.ref x0), .val (.ref x1), .val (.ref x2), .val (.int (Int32.ofNat (own_st kb i))), .val (.int (Int32.ofNat i)), .val (.long (((up i).toInt64) - ((lo i).toInt64))), .second, .val (.int (Int32.ofNat (kb i)))] []) G → ownGo p.tables e below T47 (mkF m 88 #[.val (.ref x0), .val (.ref x1), .val (.ref x2), .val (.int (Int32.ofNat (own_off kb i))), .val (.int (Int32.ofNat i)), .val (.long (((up i).toInt64) - ((lo i).toInt64))), .second, .val (.int (Int32.ofNat (kb i)))] []) G := by
      intro G kk
      refine ownGo.st (fun _ k => XS.iloadN X47.here hx rfl (hb hby d3_88) rfl k) ?_
      show ownGo p.tables e below T47 (mkF m 89 #[.val (.ref x0), .val (.ref x1), .val (.ref x2), .val (.int (Int32.ofNat (own_off kb i))), .val (.int (Int32.ofNat i)), .val (.long (((up i).toInt64) - ((lo i).toInt64))), .second, .val (.int (Int32.ofNat (kb i)))] [(.int (Int32.ofNat (own_off kb i)))]) _
      refine ownGo.st (fun _ k => XS.bipush X47.here hx rfl (hb hby d3_89)  k) ?_
      show ownGo p.tables e below T47 (mkF m 91 #[.val (.ref x0), .val (.ref x1), .val (.ref x2), .val (.int (Int32.ofNat (own_off kb i))), .val (.int (Int32.ofNat i)), .val (.long (((up i).toInt64) - ((lo i).toInt64))), .second, .val (.int (Int32.ofNat (kb i)))] [(.int (64 : Int32)), (.int (Int32.ofNat (own_off kb i)))]) _
      refine ownGo.st (fun _ k => iremM X47 hx rfl (hb hby d3_91) rfl (by decide) k) ?_
      show ownGo p.tables e below T47 (mkF m 92 #[.val (.ref x0), .val (.ref x1), .val (.ref x2), .val (.int (Int32.ofNat (own_off kb i))), .val (.int (Int32.ofNat i)), .val (.long (((up i).toInt64) - ((lo i).toInt64))), .second, .val (.int (Int32.ofNat (kb i)))] [(.int ((Int32.ofNat (own_off kb i)) % (64 : Int32)))]) _
      rw [own_rem64 (by omega)]
      show ownGo p.tables e below T47 (mkF m 92 #[.val (.ref x0), .val (.ref x1), .val (.ref x2), .val (.int (Int32.ofNat (own_off kb i))), .val (.int (Int32.ofNat i)), .val (.long (((up i).toInt64) - ((lo i).toInt64))), .second, .val (.int (Int32.ofNat (kb i)))] [(.int (Int32.ofNat (own_off kb i % 64)))]) _
      refine ownGo.st (fun _ k => XS.iload X47.here hx rfl (hb hby d3_92) rfl k) ?_
      show ownGo p.tables e below T47 (mkF m 94 #[.val (.ref x0), .val (.ref x1), .val (.ref x2), .val (.int (Int32.ofNat (own_off kb i))), .val (.int (Int32.ofNat i)), .val (.long (((up i).toInt64) - ((lo i).toInt64))), .second, .val (.int (Int32.ofNat (kb i)))] [(.int (Int32.ofNat (kb i))), (.int (Int32.ofNat (own_off kb i % 64)))]) _
      refine ownGo.st (fun _ k => XS.iadd X47.here hx rfl (hb hby d3_94) rfl k) ?_
      show ownGo p.tables e below T47 (mkF m 95 #[.val (.ref x0), .val (.ref x1), .val (.ref x2), .val (.int (Int32.ofNat (own_off kb i))), .val (.int (Int32.ofNat i)), .val (.long (((up i).toInt64) - ((lo i).toInt64))), .second, .val (.int (Int32.ofNat (kb i)))] [(.int ((Int32.ofNat (own_off kb i % 64)) + (Int32.ofNat (kb i))))]) _
      rw [← Int32.ofNat_add]
      show ownGo p.tables e below T47 (mkF m 95 #[.val (.ref x0), .val (.ref x1), .val (.ref x2), .val (.int (Int32.ofNat (own_off kb i))), .val (.int (Int32.ofNat i)), .val (.long (((up i).toInt64) - ((lo i).toInt64))), .second, .val (.int (Int32.ofNat (kb i)))] [(.int (Int32.ofNat (own_off kb i % 64 + kb i)))]) _
      refine ownGo.st (fun _ k => XS.bipush X47.here hx rfl (hb hby d3_95)  k) ?_
      show ownGo p.tables e below T47 (mkF m 97 #[.val (.ref x0), .val (.ref x1), .val (.ref x2), .val (.int (Int32.ofNat (own_off kb i))), .val (.int (Int32.ofNat i)), .val (.long (((up i).toInt64) - ((lo i).toInt64))), .second, .val (.int (Int32.ofNat (kb i)))] [(.int (64 : Int32)), (.int (Int32.ofNat (own_off kb i % 64 + kb i)))]) _
      by_cases ha : (64 : Int32) < (Int32.ofNat (own_off kb i % 64 + kb i))
      · refine ownGo.st (fun _ k => XS.icmpNo X47.here hx rfl (hb hby d3_97) rfl (tlt ha).2.2.2 k) ?_
        show ownGo p.tables e below T47 (mkF m 100 #[.val (.ref x0), .val (.ref x1), .val (.ref x2), .val (.int (Int32.ofNat (own_off kb i))), .val (.int (Int32.ofNat i)), .val (.long (((up i).toInt64) - ((lo i).toInt64))), .second, .val (.int (Int32.ofNat (kb i)))] []) _
        refine ownGo.st (fun _ k => XS.iloadN X47.here hx rfl (hb hby d3_100) rfl k) ?_
        show ownGo p.tables e below T47 (mkF m 101 #[.val (.ref x0), .val (.ref x1), .val (.ref x2), .val (.int (Int32.ofNat (own_off kb i))), .val (.int (Int32.ofNat i)), .val (.long (((up i).toInt64) - ((lo i).toInt64))), .second, .val (.int (Int32.ofNat (kb i)))] [(.int (Int32.ofNat (own_off kb i)))]) _
        refine ownGo.st (fun _ k => XS.bipush X47.here hx rfl (hb hby d3_101)  k) ?_
        show ownGo p.tables e below T47 (mkF m 103 #[.val (.ref x0), .val (.ref x1), .val (.ref x2), .val (.int (Int32.ofNat (own_off kb i))), .val (.int (Int32.ofNat i)), .val (.long (((up i).toInt64) - ((lo i).toInt64))), .second, .val (.int (Int32.ofNat (kb i)))] [(.int (64 : Int32)), (.int (Int32.ofNat (own_off kb i)))]) _
        refine ownGo.st (fun _ k => XS.iloadN X47.here hx rfl (hb hby d3_103) rfl k) ?_
        show ownGo p.tables e below T47 (mkF m 104 #[.val (.ref x0), .val (.ref x1), .val (.ref x2), .val (.int (Int32.ofNat (own_off kb i))), .val (.int (Int32.ofNat i)), .val (.long (((up i).toInt64) - ((lo i).toInt64))), .second, .val (.int (Int32.ofNat (kb i)))] [(.int (Int32.ofNat (own_off kb i))), (.int (64 : Int32)), (.int (Int32.ofNat (own_off kb i)))]) _
        refine ownGo.st (fun _ k => XS.bipush X47.here hx rfl (hb hby d3_104)  k) ?_
        show ownGo p.tables e below T47 (mkF m 106 #[.val (.ref x0), .val (.ref x1), .val (.ref x2), .val (.int (Int32.ofNat (own_off kb i))), .val (.int (Int32.ofNat i)), .val (.long (((up i).toInt64) - ((lo i).toInt64))), .second, .val (.int (Int32.ofNat (kb i)))] [(.int (64 : Int32)), (.int (Int32.ofNat (own_off kb i))), (.int (64 : Int32)), (.int (Int32.ofNat (own_off kb i)))]) _
        refine ownGo.st (fun _ k => iremM X47 hx rfl (hb hby d3_106) rfl (by decide) k) ?_
        show ownGo p.tables e below T47 (mkF m 107 #[.val (.ref x0), .val (.ref x1), .val (.ref x2), .val (.int (Int32.ofNat (own_off kb i))), .val (.int (Int32.ofNat i)), .val (.long (((up i).toInt64) - ((lo i).toInt64))), .second, .val (.int (Int32.ofNat (kb i)))] [(.int ((Int32.ofNat (own_off kb i)) % (64 : Int32))), (.int (64 : Int32)), (.int (Int32.ofNat (own_off kb i)))]) _
        rw [own_rem64 (by omega)]
        show ownGo p.tables e below T47 (mkF m 107 #[.val (.ref x0), .val (.ref x1), .val (.ref x2), .val (.int (Int32.ofNat (own_off kb i))), .val (.int (Int32.ofNat i)), .val (.long (((up i).toInt64) - ((lo i).toInt64))), .second, .val (.int (Int32.ofNat (kb i)))] [(.int (Int32.ofNat (own_off kb i % 64))), (.int (64 : Int32)), (.int (Int32.ofNat (own_off kb i)))]) _
        refine ownGo.st (fun _ k => XS.isub X47.here hx rfl (hb hby d3_107) rfl k) ?_
        show ownGo p.tables e below T47 (mkF m 108 #[.val (.ref x0), .val (.ref x1), .val (.ref x2), .val (.int (Int32.ofNat (own_off kb i))), .val (.int (Int32.ofNat i)), .val (.long (((up i).toInt64) - ((lo i).toInt64))), .second, .val (.int (Int32.ofNat (kb i)))] [(.int ((64 : Int32) - (Int32.ofNat (own_off kb i % 64)))), (.int (Int32.ofNat (own_off kb i)))]) _
        rw [show (64 : Int32) - Int32.ofNat (own_off kb i % 64) = Int32.ofNat (64 - own_off kb i % 64) from own_sub (a := 64) (by omega) (by decide)]
        show ownGo p.tables e below T47 (mkF m 108 #[.val (.ref x0), .val (.ref x1), .val (.ref x2), .val (.int (Int32.ofNat (own_off kb i))), .val (.int (Int32.ofNat i)), .val (.long (((up i).toInt64) - ((lo i).toInt64))), .second, .val (.int (Int32.ofNat (kb i)))] [(.int (Int32.ofNat (64 - own_off kb i % 64))), (.int (Int32.ofNat (own_off kb i)))]) _
        refine ownGo.st (fun _ k => XS.iadd X47.here hx rfl (hb hby d3_108) rfl k) ?_
        show ownGo p.tables e below T47 (mkF m 109 #[.val (.ref x0), .val (.ref x1), .val (.ref x2), .val (.int (Int32.ofNat (own_off kb i))), .val (.int (Int32.ofNat i)), .val (.long (((up i).toInt64) - ((lo i).toInt64))), .second, .val (.int (Int32.ofNat (kb i)))] [(.int ((Int32.ofNat (own_off kb i)) + (Int32.ofNat (64 - own_off kb i % 64))))]) _
        rw [← Int32.ofNat_add]
        show ownGo p.tables e below T47 (mkF m 109 #[.val (.ref x0), .val (.ref x1), .val (.ref x2), .val (.int (Int32.ofNat (own_off kb i))), .val (.int (Int32.ofNat i)), .val (.long (((up i).toInt64) - ((lo i).toInt64))), .second, .val (.int (Int32.ofNat (kb i)))] [(.int (Int32.ofNat (own_off kb i + (64 - own_off kb i % 64))))]) _
        refine ownGo.st (fun _ k => XS.istoreN X47.here hx rfl (hb hby d3_109) rfl (l' := #[.val (.ref x0), .val (.ref x1), .val (.ref x2), .val (.int (Int32.ofNat (own_off kb i + (64 - own_off kb i % 64)))), .val (.int (Int32.ofNat i)), .val (.long (((up i).toInt64) - ((lo i).toInt64))), .second, .val (.int (Int32.ofNat (kb i)))]) rfl k) ?_
        show ownGo p.tables e below T47 (mkF m 110 #[.val (.ref x0), .val (.ref x1), .val (.ref x2), .val (.int (Int32.ofNat (own_off kb i + (64 - own_off kb i % 64)))), .val (.int (Int32.ofNat i)), .val (.long (((up i).toInt64) - ((lo i).toInt64))), .second, .val (.int (Int32.ofNat (kb i)))] []) _
        have e : own_st kb i = own_off kb i + (64 - own_off kb i % 64) := if_neg (fun y => by have := (own_lt_iff (a := 64) (by decide) (by omega)).mp ha; omega)
        rw [e] at kk
        exact kk
      · refine ownGo.st (fun _ k => XS.icmpYes X47.here hx rfl (pc0 := 97) (pc' := 110) rfl (hb hby d3_97) rfl (flt ha).2.2.2 (by decide) (by decide) k) ?_
        show ownGo p.tables e below T47 (mkF m 110 #[.val (.ref x0), .val (.ref x1), .val (.ref x2), .val (.int (Int32.ofNat (own_off kb i))), .val (.int (Int32.ofNat i)), .val (.long (((up i).toInt64) - ((lo i).toInt64))), .second, .val (.int (Int32.ofNat (kb i)))] []) _
        have e : own_st kb i = own_off kb i := if_pos (Nat.le_of_not_lt fun y => ha ((own_lt_iff (a := 64) (by decide) (by omega)).mpr y))
        rw [e] at kk
        exact kk
    refine J48 _ ?_
    show ownGo p.tables e below T47 (mkF m 110 #[.val (.ref x0), .val (.ref x1), .val (.ref x2), .val (.int (Int32.ofNat (own_st kb i))), .val (.int (Int32.ofNat i)), .val (.long (((up i).toInt64) - ((lo i).toInt64))), .second, .val (.int (Int32.ofNat (kb i)))] []) _
    have al : own_off kb i ≤ own_st kb i ∧ own_st kb i ≤ own_off kb i + 64 := own_al_le _ _
    refine ownGo.st (fun _ k => XS.aloadN X47.here hx rfl (hb hby d3_110) rfl rfl k) ?_
    show ownGo p.tables e below T47 (mkF m 111 #[.val (.ref x0), .val (.ref x1), .val (.ref x2), .val (.int (Int32.ofNat (own_st kb i))), .val (.int (Int32.ofNat i)), .val (.long (((up i).toInt64) - ((lo i).toInt64))), .second, .val (.int (Int32.ofNat (kb i)))] [(.ref x0)]) _
    obtain ⟨T49, X49, e49, st49⟩ := getF X47 hx hZ hown (host := "") (Or.inl (own_at hw 30 rfl)) Via.refl e47 F_wordOf (g := (mkF m 111 #[.val (.ref x0), .val (.ref x1), .val (.ref x2), .val (.int (Int32.ofNat (own_st kb i))), .val (.int (Int32.ofNat i)), .val (.long (((up i).toInt64) - ((lo i).toInt64))), .second, .val (.int (Int32.ofNat (kb i)))] [(.ref x0)])) rfl rfl (hb hby d3_111)
    refine ownGo.st (st49) ?_
    show ownGo p.tables e below T49 (mkF m 114 #[.val (.ref x0), .val (.ref x1), .val (.ref x2), .val (.int (Int32.ofNat (own_st kb i))), .val (.int (Int32.ofNat i)), .val (.long (((up i).toInt64) - ((lo i).toInt64))), .second, .val (.int (Int32.ofNat (kb i)))] [(.ref w)]) _
    refine ownGo.st (fun _ k => XS.iload X49.here hx rfl (hb hby d3_114) rfl k) ?_
    show ownGo p.tables e below T49 (mkF m 116 #[.val (.ref x0), .val (.ref x1), .val (.ref x2), .val (.int (Int32.ofNat (own_st kb i))), .val (.int (Int32.ofNat i)), .val (.long (((up i).toInt64) - ((lo i).toInt64))), .second, .val (.int (Int32.ofNat (kb i)))] [(.int (Int32.ofNat i)), (.ref w)]) _
    refine ownGo.st (fun _ k => XS.iloadN X49.here hx rfl (hb hby d3_116) rfl k) ?_
    show ownGo p.tables e below T49 (mkF m 117 #[.val (.ref x0), .val (.ref x1), .val (.ref x2), .val (.int (Int32.ofNat (own_st kb i))), .val (.int (Int32.ofNat i)), .val (.long (((up i).toInt64) - ((lo i).toInt64))), .second, .val (.int (Int32.ofNat (kb i)))] [(.int (Int32.ofNat (own_st kb i))), (.int (Int32.ofNat i)), (.ref w)]) _
    refine ownGo.st (fun _ k => XS.bipush X49.here hx rfl (hb hby d3_117)  k) ?_
    show ownGo p.tables e below T49 (mkF m 119 #[.val (.ref x0), .val (.ref x1), .val (.ref x2), .val (.int (Int32.ofNat (own_st kb i))), .val (.int (Int32.ofNat i)), .val (.long (((up i).toInt64) - ((lo i).toInt64))), .second, .val (.int (Int32.ofNat (kb i)))] [(.int (64 : Int32)), (.int (Int32.ofNat (own_st kb i))), (.int (Int32.ofNat i)), (.ref w)]) _
    refine ownGo.st (fun _ k => XS.idiv X49.here hx rfl (hb hby d3_119) rfl (by decide) k) ?_
    show ownGo p.tables e below T49 (mkF m 120 #[.val (.ref x0), .val (.ref x1), .val (.ref x2), .val (.int (Int32.ofNat (own_st kb i))), .val (.int (Int32.ofNat i)), .val (.long (((up i).toInt64) - ((lo i).toInt64))), .second, .val (.int (Int32.ofNat (kb i)))] [(.int ((Int32.ofNat (own_st kb i)) / (64 : Int32))), (.int (Int32.ofNat i)), (.ref w)]) _
    rw [own_div64 (by omega)]
    show ownGo p.tables e below T49 (mkF m 120 #[.val (.ref x0), .val (.ref x1), .val (.ref x2), .val (.int (Int32.ofNat (own_st kb i))), .val (.int (Int32.ofNat i)), .val (.long (((up i).toInt64) - ((lo i).toInt64))), .second, .val (.int (Int32.ofNat (kb i)))] [(.int (Int32.ofNat (own_st kb i / 64))), (.int (Int32.ofNat i)), (.ref w)]) _
    obtain ⟨T50, h50, X50, e50, W50, V_w_50, st50⟩ := own_iastore X49 hx hZ e49 Vw (i := i) rfl (by omega) (g := (mkF m 120 #[.val (.ref x0), .val (.ref x1), .val (.ref x2), .val (.int (Int32.ofNat (own_st kb i))), .val (.int (Int32.ofNat i)), .val (.long (((up i).toInt64) - ((lo i).toInt64))), .second, .val (.int (Int32.ofNat (kb i)))] [(.int (Int32.ofNat (own_st kb i / 64))), (.int (Int32.ofNat i)), (.ref w)])) rfl rfl (hb hby d3_120)
    have E0_51 := E0.wr W50
    have F_width_52 := F_width.other W50 (Or.inl ne_x0_w)
    have F_lowerBounds_53 := F_lowerBounds.other W50 (Or.inl ne_x0_w)
    have F_wordOf_54 := F_wordOf.other W50 (Or.inl ne_x0_w)
    have F_shiftOf_55 := F_shiftOf.other W50 (Or.inl ne_x0_w)
    have F_maskOf_56 := F_maskOf.other W50 (Or.inl ne_x0_w)
    have F_bits_57 := F_bits.other W50 (Or.inl ne_x0_w)
    have F_words_58 := F_words.other W50 (Or.inl ne_x0_w)
    have V1_59 := V1.other W50 ne_x1_w
    have V2_60 := V2.other W50 ne_x2_w
    have VL_61 := VL.other W50 ne_lb_w
    have Vs_62 := Vs.other W50 (Ne.symm ne_w_sh)
    have Vk_63 := Vk.other W50 (Ne.symm ne_w_k)
    have N50 := Fr.snoc X50 N47 gz_w
    have Z50 : n0 ≤ h50.size := Nat.le_trans Z1 (Nat.le_of_eq W50.size.symm)
    have K50 := K0.wr W50 (Or.inr sz_w)
    refine ownGo.st (st50) ?_
    show ownGo p.tables e below T50 (mkF m 121 #[.val (.ref x0), .val (.ref x1), .val (.ref x2), .val (.int (Int32.ofNat (own_st kb i))), .val (.int (Int32.ofNat i)), .val (.long (((up i).toInt64) - ((lo i).toInt64))), .second, .val (.int (Int32.ofNat (kb i)))] []) _
    refine ownGo.st (fun _ k => XS.aloadN X50.here hx rfl (hb hby d3_121) rfl rfl k) ?_
    show ownGo p.tables e below T50 (mkF m 122 #[.val (.ref x0), .val (.ref x1), .val (.ref x2), .val (.int (Int32.ofNat (own_st kb i))), .val (.int (Int32.ofNat i)), .val (.long (((up i).toInt64) - ((lo i).toInt64))), .second, .val (.int (Int32.ofNat (kb i)))] [(.ref x0)]) _
    obtain ⟨T64, X64, e64, st64⟩ := getF X50 hx hZ hown (host := "") (Or.inl (own_at hw 32 rfl)) Via.refl e50 F_shiftOf_55 (g := (mkF m 122 #[.val (.ref x0), .val (.ref x1), .val (.ref x2), .val (.int (Int32.ofNat (own_st kb i))), .val (.int (Int32.ofNat i)), .val (.long (((up i).toInt64) - ((lo i).toInt64))), .second, .val (.int (Int32.ofNat (kb i)))] [(.ref x0)])) rfl rfl (hb hby d3_122)
    refine ownGo.st (st64) ?_
    show ownGo p.tables e below T64 (mkF m 125 #[.val (.ref x0), .val (.ref x1), .val (.ref x2), .val (.int (Int32.ofNat (own_st kb i))), .val (.int (Int32.ofNat i)), .val (.long (((up i).toInt64) - ((lo i).toInt64))), .second, .val (.int (Int32.ofNat (kb i)))] [(.ref sh)]) _
    refine ownGo.st (fun _ k => XS.iload X64.here hx rfl (hb hby d3_125) rfl k) ?_
    show ownGo p.tables e below T64 (mkF m 127 #[.val (.ref x0), .val (.ref x1), .val (.ref x2), .val (.int (Int32.ofNat (own_st kb i))), .val (.int (Int32.ofNat i)), .val (.long (((up i).toInt64) - ((lo i).toInt64))), .second, .val (.int (Int32.ofNat (kb i)))] [(.int (Int32.ofNat i)), (.ref sh)]) _
    refine ownGo.st (fun _ k => XS.iloadN X64.here hx rfl (hb hby d3_127) rfl k) ?_
    show ownGo p.tables e below T64 (mkF m 128 #[.val (.ref x0), .val (.ref x1), .val (.ref x2), .val (.int (Int32.ofNat (own_st kb i))), .val (.int (Int32.ofNat i)), .val (.long (((up i).toInt64) - ((lo i).toInt64))), .second, .val (.int (Int32.ofNat (kb i)))] [(.int (Int32.ofNat (own_st kb i))), (.int (Int32.ofNat i)), (.ref sh)]) _
    refine ownGo.st (fun _ k => XS.bipush X64.here hx rfl (hb hby d3_128)  k) ?_
    show ownGo p.tables e below T64 (mkF m 130 #[.val (.ref x0), .val (.ref x1), .val (.ref x2), .val (.int (Int32.ofNat (own_st kb i))), .val (.int (Int32.ofNat i)), .val (.long (((up i).toInt64) - ((lo i).toInt64))), .second, .val (.int (Int32.ofNat (kb i)))] [(.int (64 : Int32)), (.int (Int32.ofNat (own_st kb i))), (.int (Int32.ofNat i)), (.ref sh)]) _
    refine ownGo.st (fun _ k => iremM X64 hx rfl (hb hby d3_130) rfl (by decide) k) ?_
    show ownGo p.tables e below T64 (mkF m 131 #[.val (.ref x0), .val (.ref x1), .val (.ref x2), .val (.int (Int32.ofNat (own_st kb i))), .val (.int (Int32.ofNat i)), .val (.long (((up i).toInt64) - ((lo i).toInt64))), .second, .val (.int (Int32.ofNat (kb i)))] [(.int ((Int32.ofNat (own_st kb i)) % (64 : Int32))), (.int (Int32.ofNat i)), (.ref sh)]) _
    rw [own_rem64 (by omega)]
    show ownGo p.tables e below T64 (mkF m 131 #[.val (.ref x0), .val (.ref x1), .val (.ref x2), .val (.int (Int32.ofNat (own_st kb i))), .val (.int (Int32.ofNat i)), .val (.long (((up i).toInt64) - ((lo i).toInt64))), .second, .val (.int (Int32.ofNat (kb i)))] [(.int (Int32.ofNat (own_st kb i % 64))), (.int (Int32.ofNat i)), (.ref sh)]) _
    obtain ⟨T65, h65, X65, e65, W65, V_sh_65, st65⟩ := own_iastore X64 hx hZ e64 Vs_62 (i := i) rfl (by omega) (g := (mkF m 131 #[.val (.ref x0), .val (.ref x1), .val (.ref x2), .val (.int (Int32.ofNat (own_st kb i))), .val (.int (Int32.ofNat i)), .val (.long (((up i).toInt64) - ((lo i).toInt64))), .second, .val (.int (Int32.ofNat (kb i)))] [(.int (Int32.ofNat (own_st kb i % 64))), (.int (Int32.ofNat i)), (.ref sh)])) rfl rfl (hb hby d3_131)
    have E0_66 := E0_51.wr W65
    have F_width_67 := F_width_52.other W65 (Or.inl ne_x0_sh)
    have F_lowerBounds_68 := F_lowerBounds_53.other W65 (Or.inl ne_x0_sh)
    have F_wordOf_69 := F_wordOf_54.other W65 (Or.inl ne_x0_sh)
    have F_shiftOf_70 := F_shiftOf_55.other W65 (Or.inl ne_x0_sh)
    have F_maskOf_71 := F_maskOf_56.other W65 (Or.inl ne_x0_sh)
    have F_bits_72 := F_bits_57.other W65 (Or.inl ne_x0_sh)
    have F_words_73 := F_words_58.other W65 (Or.inl ne_x0_sh)
    have V1_74 := V1_59.other W65 ne_x1_sh
    have V2_75 := V2_60.other W65 ne_x2_sh
    have VL_76 := VL_61.other W65 ne_lb_sh
    have V_w_77 := V_w_50.other W65 ne_w_sh
    have Vk_78 := Vk_63.other W65 (Ne.symm ne_sh_k)
    have N65 := Fr.snoc X65 N50 gz_sh
    have Z65 : n0 ≤ h65.size := Nat.le_trans Z50 (Nat.le_of_eq W65.size.symm)
    have K65 := K50.wr W65 (Or.inr sz_sh)
    refine ownGo.st (st65) ?_
    show ownGo p.tables e below T65 (mkF m 132 #[.val (.ref x0), .val (.ref x1), .val (.ref x2), .val (.int (Int32.ofNat (own_st kb i))), .val (.int (Int32.ofNat i)), .val (.long (((up i).toInt64) - ((lo i).toInt64))), .second, .val (.int (Int32.ofNat (kb i)))] []) _
    refine ownGo.st (fun _ k => XS.aloadN X65.here hx rfl (hb hby d3_132) rfl rfl k) ?_
    show ownGo p.tables e below T65 (mkF m 133 #[.val (.ref x0), .val (.ref x1), .val (.ref x2), .val (.int (Int32.ofNat (own_st kb i))), .val (.int (Int32.ofNat i)), .val (.long (((up i).toInt64) - ((lo i).toInt64))), .second, .val (.int (Int32.ofNat (kb i)))] [(.ref x0)]) _
    obtain ⟨T79, X79, e79, st79⟩ := getF X65 hx hZ hown (host := "") (Or.inl (own_at hw 35 rfl)) Via.refl e65 F_maskOf_71 (g := (mkF m 133 #[.val (.ref x0), .val (.ref x1), .val (.ref x2), .val (.int (Int32.ofNat (own_st kb i))), .val (.int (Int32.ofNat i)), .val (.long (((up i).toInt64) - ((lo i).toInt64))), .second, .val (.int (Int32.ofNat (kb i)))] [(.ref x0)])) rfl rfl (hb hby d3_133)
    refine ownGo.st (st79) ?_
    show ownGo p.tables e below T79 (mkF m 136 #[.val (.ref x0), .val (.ref x1), .val (.ref x2), .val (.int (Int32.ofNat (own_st kb i))), .val (.int (Int32.ofNat i)), .val (.long (((up i).toInt64) - ((lo i).toInt64))), .second, .val (.int (Int32.ofNat (kb i)))] [(.ref k)]) _
    refine ownGo.st (fun _ k => XS.iload X79.here hx rfl (hb hby d3_136) rfl k) ?_
    show ownGo p.tables e below T79 (mkF m 138 #[.val (.ref x0), .val (.ref x1), .val (.ref x2), .val (.int (Int32.ofNat (own_st kb i))), .val (.int (Int32.ofNat i)), .val (.long (((up i).toInt64) - ((lo i).toInt64))), .second, .val (.int (Int32.ofNat (kb i)))] [(.int (Int32.ofNat i)), (.ref k)]) _
    refine ownGo.st (fun _ k => XS.iload X79.here hx rfl (hb hby d3_138) rfl k) ?_
    show ownGo p.tables e below T79 (mkF m 140 #[.val (.ref x0), .val (.ref x1), .val (.ref x2), .val (.int (Int32.ofNat (own_st kb i))), .val (.int (Int32.ofNat i)), .val (.long (((up i).toInt64) - ((lo i).toInt64))), .second, .val (.int (Int32.ofNat (kb i)))] [(.int (Int32.ofNat (kb i))), (.int (Int32.ofNat i)), (.ref k)]) _
    refine ownGo.st (fun _ k => XS.bipush X79.here hx rfl (hb hby d3_140)  k) ?_
    show ownGo p.tables e below T79 (mkF m 142 #[.val (.ref x0), .val (.ref x1), .val (.ref x2), .val (.int (Int32.ofNat (own_st kb i))), .val (.int (Int32.ofNat i)), .val (.long (((up i).toInt64) - ((lo i).toInt64))), .second, .val (.int (Int32.ofNat (kb i)))] [(.int (64 : Int32)), (.int (Int32.ofNat (kb i))), (.int (Int32.ofNat i)), (.ref k)]) _
    have hc80 : ¬ ((Int32.ofNat (kb i)) = (64 : Int32)) := fun y => by have := (own_eq_iff (b := 64) (by omega) (by decide)).mp y; omega
    refine ownGo.st (fun _ k => XS.icmpYes X79.here hx rfl (pc0 := 142) (pc' := 151) rfl (hb hby d3_142) rfl (feq hc80).2 (by decide) (by decide) k) ?_
    show ownGo p.tables e below T79 (mkF m 151 #[.val (.ref x0), .val (.ref x1), .val (.ref x2), .val (.int (Int32.ofNat (own_st kb i))), .val (.int (Int32.ofNat i)), .val (.long (((up i).toInt64) - ((lo i).toInt64))), .second, .val (.int (Int32.ofNat (kb i)))] [(.int (Int32.ofNat i)), (.ref k)]) _
    refine ownGo.st (fun _ k => XS.lconst X79.here hx rfl (hb hby d3_151)  k) ?_
    show ownGo p.tables e below T79 (mkF m 152 #[.val (.ref x0), .val (.ref x1), .val (.ref x2), .val (.int (Int32.ofNat (own_st kb i))), .val (.int (Int32.ofNat i)), .val (.long (((up i).toInt64) - ((lo i).toInt64))), .second, .val (.int (Int32.ofNat (kb i)))] [(.long (1 : Int64)), (.int (Int32.ofNat i)), (.ref k)]) _
    refine ownGo.st (fun _ k => XS.iload X79.here hx rfl (hb hby d3_152) rfl k) ?_
    show ownGo p.tables e below T79 (mkF m 154 #[.val (.ref x0), .val (.ref x1), .val (.ref x2), .val (.int (Int32.ofNat (own_st kb i))), .val (.int (Int32.ofNat i)), .val (.long (((up i).toInt64) - ((lo i).toInt64))), .second, .val (.int (Int32.ofNat (kb i)))] [(.int (Int32.ofNat (kb i))), (.long (1 : Int64)), (.int (Int32.ofNat i)), (.ref k)]) _
    refine ownGo.st (fun _ k => XS.lshl X79.here hx rfl (hb hby d3_154) rfl k) ?_
    show ownGo p.tables e below T79 (mkF m 155 #[.val (.ref x0), .val (.ref x1), .val (.ref x2), .val (.int (Int32.ofNat (own_st kb i))), .val (.int (Int32.ofNat i)), .val (.long (((up i).toInt64) - ((lo i).toInt64))), .second, .val (.int (Int32.ofNat (kb i)))] [(.long (own_lshl (1 : Int64) (Int32.ofNat (kb i)))), (.int (Int32.ofNat i)), (.ref k)]) _
    refine ownGo.st (fun _ k => XS.lconst X79.here hx rfl (hb hby d3_155)  k) ?_
    show ownGo p.tables e below T79 (mkF m 156 #[.val (.ref x0), .val (.ref x1), .val (.ref x2), .val (.int (Int32.ofNat (own_st kb i))), .val (.int (Int32.ofNat i)), .val (.long (((up i).toInt64) - ((lo i).toInt64))), .second, .val (.int (Int32.ofNat (kb i)))] [(.long (1 : Int64)), (.long (own_lshl (1 : Int64) (Int32.ofNat (kb i)))), (.int (Int32.ofNat i)), (.ref k)]) _
    refine ownGo.st (fun _ k => XS.lsub X79.here hx rfl (hb hby d3_156) rfl k) ?_
    show ownGo p.tables e below T79 (mkF m 157 #[.val (.ref x0), .val (.ref x1), .val (.ref x2), .val (.int (Int32.ofNat (own_st kb i))), .val (.int (Int32.ofNat i)), .val (.long (((up i).toInt64) - ((lo i).toInt64))), .second, .val (.int (Int32.ofNat (kb i)))] [(.long ((own_lshl (1 : Int64) (Int32.ofNat (kb i))) - (1 : Int64))), (.int (Int32.ofNat i)), (.ref k)]) _
    obtain ⟨T81, h81, X81, e81, W81, V_k_81, st81⟩ := own_lastore X79 hx hZ e79 Vk_78 (i := i) rfl (by omega) (g := (mkF m 157 #[.val (.ref x0), .val (.ref x1), .val (.ref x2), .val (.int (Int32.ofNat (own_st kb i))), .val (.int (Int32.ofNat i)), .val (.long (((up i).toInt64) - ((lo i).toInt64))), .second, .val (.int (Int32.ofNat (kb i)))] [(.long ((own_lshl (1 : Int64) (Int32.ofNat (kb i))) - (1 : Int64))), (.int (Int32.ofNat i)), (.ref k)])) rfl rfl (hb hby d3_157)
    have E0_82 := E0_66.wr W81
    have F_width_83 := F_width_67.other W81 (Or.inl ne_x0_k)
    have F_lowerBounds_84 := F_lowerBounds_68.other W81 (Or.inl ne_x0_k)
    have F_wordOf_85 := F_wordOf_69.other W81 (Or.inl ne_x0_k)
    have F_shiftOf_86 := F_shiftOf_70.other W81 (Or.inl ne_x0_k)
    have F_maskOf_87 := F_maskOf_71.other W81 (Or.inl ne_x0_k)
    have F_bits_88 := F_bits_72.other W81 (Or.inl ne_x0_k)
    have F_words_89 := F_words_73.other W81 (Or.inl ne_x0_k)
    have V1_90 := V1_74.other W81 ne_x1_k
    have V2_91 := V2_75.other W81 ne_x2_k
    have VL_92 := VL_76.other W81 ne_lb_k
    have V_w_93 := V_w_77.other W81 ne_w_k
    have V_sh_94 := V_sh_65.other W81 ne_sh_k
    have N81 := Fr.snoc X81 N65 gz_k
    have Z81 : n0 ≤ h81.size := Nat.le_trans Z65 (Nat.le_of_eq W81.size.symm)
    have K81 := K65.wr W81 (Or.inr sz_k)
    refine ownGo.st (st81) ?_
    show ownGo p.tables e below T81 (mkF m 158 #[.val (.ref x0), .val (.ref x1), .val (.ref x2), .val (.int (Int32.ofNat (own_st kb i))), .val (.int (Int32.ofNat i)), .val (.long (((up i).toInt64) - ((lo i).toInt64))), .second, .val (.int (Int32.ofNat (kb i)))] []) _
    refine ownGo.st (fun _ k => XS.iloadN X81.here hx rfl (hb hby d3_158) rfl k) ?_
    show ownGo p.tables e below T81 (mkF m 159 #[.val (.ref x0), .val (.ref x1), .val (.ref x2), .val (.int (Int32.ofNat (own_st kb i))), .val (.int (Int32.ofNat i)), .val (.long (((up i).toInt64) - ((lo i).toInt64))), .second, .val (.int (Int32.ofNat (kb i)))] [(.int (Int32.ofNat (own_st kb i)))]) _
    refine ownGo.st (fun _ k => XS.iload X81.here hx rfl (hb hby d3_159) rfl k) ?_
    show ownGo p.tables e below T81 (mkF m 161 #[.val (.ref x0), .val (.ref x1), .val (.ref x2), .val (.int (Int32.ofNat (own_st kb i))), .val (.int (Int32.ofNat i)), .val (.long (((up i).toInt64) - ((lo i).toInt64))), .second, .val (.int (Int32.ofNat (kb i)))] [(.int (Int32.ofNat (kb i))), (.int (Int32.ofNat (own_st kb i)))]) _
    refine ownGo.st (fun _ k => XS.iadd X81.here hx rfl (hb hby d3_161) rfl k) ?_
    show ownGo p.tables e below T81 (mkF m 162 #[.val (.ref x0), .val (.ref x1), .val (.ref x2), .val (.int (Int32.ofNat (own_st kb i))), .val (.int (Int32.ofNat i)), .val (.long (((up i).toInt64) - ((lo i).toInt64))), .second, .val (.int (Int32.ofNat (kb i)))] [(.int ((Int32.ofNat (own_st kb i)) + (Int32.ofNat (kb i))))]) _
    rw [show Int32.ofNat (own_st kb i) + Int32.ofNat (kb i) = Int32.ofNat (own_off kb (i + 1)) from (Int32.ofNat_add _ _).symm]
    show ownGo p.tables e below T81 (mkF m 162 #[.val (.ref x0), .val (.ref x1), .val (.ref x2), .val (.int (Int32.ofNat (own_st kb i))), .val (.int (Int32.ofNat i)), .val (.long (((up i).toInt64) - ((lo i).toInt64))), .second, .val (.int (Int32.ofNat (kb i)))] [(.int (Int32.ofNat (own_off kb (i + 1))))]) _
    refine ownGo.st (fun _ k => XS.istoreN X81.here hx rfl (hb hby d3_162) rfl (l' := #[.val (.ref x0), .val (.ref x1), .val (.ref x2), .val (.int (Int32.ofNat (own_off kb (i + 1)))), .val (.int (Int32.ofNat i)), .val (.long (((up i).toInt64) - ((lo i).toInt64))), .second, .val (.int (Int32.ofNat (kb i)))]) rfl k) ?_
    show ownGo p.tables e below T81 (mkF m 163 #[.val (.ref x0), .val (.ref x1), .val (.ref x2), .val (.int (Int32.ofNat (own_off kb (i + 1)))), .val (.int (Int32.ofNat i)), .val (.long (((up i).toInt64) - ((lo i).toInt64))), .second, .val (.int (Int32.ofNat (kb i)))] []) _
    refine ownGo.st (fun _ k => XS.iinc X81.here hx rfl (hb hby d3_163) rfl (l' := #[.val (.ref x0), .val (.ref x1), .val (.ref x2), .val (.int (Int32.ofNat (own_off kb (i + 1)))), .val (.int ((Int32.ofNat i) + (1 : Int32))), .val (.long (((up i).toInt64) - ((lo i).toInt64))), .second, .val (.int (Int32.ofNat (kb i)))]) rfl k) ?_
    show ownGo p.tables e below T81 (mkF m 166 #[.val (.ref x0), .val (.ref x1), .val (.ref x2), .val (.int (Int32.ofNat (own_off kb (i + 1)))), .val (.int ((Int32.ofNat i) + (1 : Int32))), .val (.long (((up i).toInt64) - ((lo i).toInt64))), .second, .val (.int (Int32.ofNat (kb i)))] []) _
    refine ownGo.st (fun _ k => XS.goto X81.here hx rfl (pc0 := 166) (pc' := 56) rfl (hb hby d3_166) (by decide) (by decide) k) ?_
    show ownGo p.tables e below T81 (mkF m 56 #[.val (.ref x0), .val (.ref x1), .val (.ref x2), .val (.int (Int32.ofNat (own_off kb (i + 1)))), .val (.int ((Int32.ofNat i) + (1 : Int32))), .val (.long (((up i).toInt64) - ((lo i).toInt64))), .second, .val (.int (Int32.ofNat (kb i)))] []) _
    rw [show Int32.ofNat i + (1 : Int32) = Int32.ofNat (i + 1) from (Int32.ofNat_add i 1).symm]
    exact ih (i + 1) (by omega) T81 h81 _ _ _ _ _ _ _ (Or.inr ⟨_, rfl, rfl⟩) (One.val rfl) X81 e81 N81 Z81 K81 E0_82 F_width_83 F_lowerBounds_84 F_wordOf_85 F_shiftOf_86 F_maskOf_87 F_bits_88 F_words_89 V1_90 V2_91 VL_92 V_w_93 (own_upto hw_) V_sh_94 (own_upto hs_) V_k_81 (own_upto hk_)
theorem pn_3 : plainName "com/example/ningbo/ningbo/engine/StateLayout" = true := by first | (simp [plainName, overriddenIn]; done) | decide +kernel
theorem ef_3 (m : MethodId) (x0 : Addr) (x1 : Addr) (x2 : Addr) : entryFrame m #[(.ref x0), (.ref x1), (.ref x2)] 8 = mkF m 0 #[.val (.ref x0), .val (.ref x1), .val (.ref x2), .unset, .unset, .unset, .unset, .unset] [] := by first | (simp [entryFrame, mkF, argsToLocals, Value.category]; done) | rfl
set_option maxRecDepth 65536 in
set_option maxHeartbeats 40000000 in
theorem rm3 (l : Launch) (Z : State) (a0 : Array Value) (hw : ∀ d ∈ tables_1, d.before a0 Z = true) (x0 x1 x2 : Addr) (lo up : Nat → Int32) (kb : Nat → Nat) (h0 : Heap) (n0 : Nat) (Z0 : n0 ≤ h0.size) (gz_x0 : n0 ≤ x0) (hne1 : x0 ≠ x1) (hne2 : x0 ≠ x2) (E0 : Exa Z h0 x0 "com/example/ningbo/ningbo/engine/StateLayout") (F_width : Fld Z h0 x0 "com/example/ningbo/ningbo/engine/StateLayout" "width" "I" (.int (0 : Int32))) (F_lowerBounds : Fld Z h0 x0 "com/example/ningbo/ningbo/engine/StateLayout" "lowerBounds" "[I" .null) (F_wordOf : Fld Z h0 x0 "com/example/ningbo/ningbo/engine/StateLayout" "wordOf" "[I" .null) (F_shiftOf : Fld Z h0 x0 "com/example/ningbo/ningbo/engine/StateLayout" "shiftOf" "[I" .null) (F_maskOf : Fld Z h0 x0 "com/example/ningbo/ningbo/engine/StateLayout" "maskOf" "[J" .null) (F_bits : Fld Z h0 x0 "com/example/ningbo/ningbo/engine/StateLayout" "bits" "I" (.int (0 : Int32))) (F_words : Fld Z h0 x0 "com/example/ningbo/ningbo/engine/StateLayout" "words" "I" (.int (0 : Int32))) (Ex1 : Exa Z h0 x1 "[I") (V1 : ownA Z h0 x1 .int 3 (fun i => .int (lo i))) (V2 : ownA Z h0 x2 .int 3 (fun i => .int (up i))) (hkb : ∀ i, i < 3 → ownBits ((up i).toInt64 - (lo i).toInt64).toInt (kb i)) :
    MetFree l (⟨"com/example/ningbo/ningbo/engine/StateLayout", "<init>", "([I[I)V"⟩ : MethodName) (head1 [Jvm.Cond.code (⟨"com/example/ningbo/ningbo/engine/StateLayout", "<init>", "([I[I)V"⟩ : MethodName) prog_49_method_1_code 8 none] R3) (fun a U => a = #[(.ref x0), (.ref x1), (.ref x2)] ∧ Z.Warmed39 U.vm ∧ U.heap = h0) (fun _ _ _ _ _ => True) (fun _ U o U' => ∃ v L, o = .returned v ∧ ownMade Z x0 lo kb h0 n0 v U'.heap L ∧ FrameEnd U o U' L R3.cells R3.slots) := by
  refine MetFree.of_bodySF (plainFor_of_name pn_3) hisR ?_
  intro p e s m args below meth c s₁ Bd hml0 hP hK
  obtain ⟨rfl, hZ, hh⟩ := hP
  have hx := Bd.exec
  have hby := Bd.bytes
  have hml : c.maxLocals = 8 := hml0
  have hown : s.vm.findClass "com/example/ningbo/ningbo/engine/StateLayout" = some m.cls := findClass_of_methodNamed Bd.named
  have hnm := (name_of_methodNamed Bd.named Bd.method).1
  have hret := Bd.returns
  have hlk : meth.locks = false := BodyLoose.notSynchronized Bd
  have X0 : Stand p l e R3 s m #[(.ref x0), (.ref x1), (.ref x2)] below meth c s₁ [] 0 0 := Stand.of_body Bd
  have e0 : s₁.heap = h0 := by rw [← hh, Bd.state]; rfl
  have N0 := Fr.nil n0
  show ownGo p.tables e below s₁ (entryFrame m #[(.ref x0), (.ref x1), (.ref x2)] 8) (ownDone s (ownMade Z x0 lo kb h0 n0) R3.cells R3.slots)
  rw [ef_3 m x0 x1 x2]
  have K0 : Keep h0 h0 [x0] := Keep.refl _ _
  have sx0 : x0 ≤ h0.size := Nat.le_of_lt E0.lt
  show ownGo p.tables e below s₁ (mkF m 0 #[.val (.ref x0), .val (.ref x1), .val (.ref x2), .unset, .unset, .unset, .unset, .unset] []) _
  refine ownGo.st (fun _ k => XS.aloadN X0.here hx rfl (hb hby d3_0) rfl rfl k) ?_
  show ownGo p.tables e below s₁ (mkF m 1 #[.val (.ref x0), .val (.ref x1), .val (.ref x2), .unset, .unset, .unset, .unset, .unset] [(.ref x0)]) _
  obtain ⟨T95, X95, e95, st95⟩ := initO X0 hx hZ hown (own_at hw 14 rfl) (own_at hw 15 rfl) (own_at hw 16 rfl) e0 (g := (mkF m 1 #[.val (.ref x0), .val (.ref x1), .val (.ref x2), .unset, .unset, .unset, .unset, .unset] [(.ref x0)])) rfl (by rw [hml]; rfl) rfl (hb hby d3_1) (by decide) (W := 0) (by show 2 * 0 + _ ≤ _; exact Nat.le_of_eq rfl) (by decide)
  refine ownGo.st (st95) ?_
  show ownGo p.tables e below T95 (mkF m 4 #[.val (.ref x0), .val (.ref x1), .val (.ref x2), .unset, .unset, .unset, .unset, .unset] []) _
  refine ownGo.st (fun _ k => XS.aloadN X95.here hx rfl (hb hby d3_4) rfl rfl k) ?_
  show ownGo p.tables e below T95 (mkF m 5 #[.val (.ref x0), .val (.ref x1), .val (.ref x2), .unset, .unset, .unset, .unset, .unset] [(.ref x0)]) _
  refine ownGo.st (fun _ k => XS.aloadN X95.here hx rfl (hb hby d3_5) rfl rfl k) ?_
  show ownGo p.tables e below T95 (mkF m 6 #[.val (.ref x0), .val (.ref x1), .val (.ref x2), .unset, .unset, .unset, .unset, .unset] [(.ref x1), (.ref x0)]) _
  refine ownGo.st (own_alen X95 hx hZ e95 V1 (g := (mkF m 6 #[.val (.ref x0), .val (.ref x1), .val (.ref x2), .unset, .unset, .unset, .unset, .unset] [(.ref x1), (.ref x0)])) rfl rfl (hb hby d3_6)) ?_
  show ownGo p.tables e below T95 (mkF m 7 #[.val (.ref x0), .val (.ref x1), .val (.ref x2), .unset, .unset, .unset, .unset, .unset] [(.int (3 : Int32)), (.ref x0)]) _
  obtain ⟨T96, h96, X96, e96, W96, st96⟩ := putF X95 hx hZ hown (host := "") (Or.inl (own_at hw 17 rfl)) Via.refl e95 F_width E0 (Or.inr ⟨(own_at hw 18 rfl), rfl, hnm⟩) (own_at hw 9 rfl) (ty := .int) (by decide) rfl rfl (g := (mkF m 7 #[.val (.ref x0), .val (.ref x1), .val (.ref x2), .unset, .unset, .unset, .unset, .unset] [(.int (3 : Int32)), (.ref x0)])) rfl rfl (hb hby d3_7)
  have E0_97 := E0.wr W96
  have Ex1_98 := Ex1.wr W96
  have V1_99 := V1.other W96 (Ne.symm hne1)
  have V2_100 := V2.other W96 (Ne.symm hne2)
  have F_width_101 := F_width.same W96
  have F_lowerBounds_102 := F_lowerBounds.other W96 (Or.inr (slot_ne (Or.inr (own_at hw 29 rfl)) (Or.inr (own_at hw 18 rfl)) (by decide) (t := (.array .int)) (t' := .int) (by decide) (by decide)))
  have F_wordOf_103 := F_wordOf.other W96 (Or.inr (slot_ne (Or.inr (own_at hw 31 rfl)) (Or.inr (own_at hw 18 rfl)) (by decide) (t := (.array .int)) (t' := .int) (by decide) (by decide)))
  have F_shiftOf_104 := F_shiftOf.other W96 (Or.inr (slot_ne (Or.inr (own_at hw 33 rfl)) (Or.inr (own_at hw 18 rfl)) (by decide) (t := (.array .int)) (t' := .int) (by decide) (by decide)))
  have F_maskOf_105 := F_maskOf.other W96 (Or.inr (slot_ne (Or.inr (own_at hw 36 rfl)) (Or.inr (own_at hw 18 rfl)) (by decide) (t := (.array .long)) (t' := .int) (by decide) (by decide)))
  have F_bits_106 := F_bits.other W96 (Or.inr (slot_ne (Or.inr (own_at hw 47 rfl)) (Or.inr (own_at hw 18 rfl)) (by decide) (t := .int) (t' := .int) (by decide) (by decide)))
  have F_words_107 := F_words.other W96 (Or.inr (slot_ne (Or.inr (own_at hw 50 rfl)) (Or.inr (own_at hw 18 rfl)) (by decide) (t := .int) (t' := .int) (by decide) (by decide)))
  have N96 := Fr.snoc X96 N0 gz_x0
  have Z96 : n0 ≤ h96.size := Nat.le_trans Z0 (Nat.le_of_eq W96.size.symm)
  have K96 := K0.wr W96 (Or.inl (List.mem_singleton.mpr rfl))
  refine ownGo.st (st96) ?_
  show ownGo p.tables e below T96 (mkF m 10 #[.val (.ref x0), .val (.ref x1), .val (.ref x2), .unset, .unset, .unset, .unset, .unset] []) _
  refine ownGo.st (fun _ k => XS.aloadN X96.here hx rfl (hb hby d3_10) rfl rfl k) ?_
  show ownGo p.tables e below T96 (mkF m 11 #[.val (.ref x0), .val (.ref x1), .val (.ref x2), .unset, .unset, .unset, .unset, .unset] [(.ref x0)]) _
  refine ownGo.st (fun _ k => XS.aloadN X96.here hx rfl (hb hby d3_11) rfl rfl k) ?_
  show ownGo p.tables e below T96 (mkF m 12 #[.val (.ref x0), .val (.ref x1), .val (.ref x2), .unset, .unset, .unset, .unset, .unset] [(.ref x1), (.ref x0)]) _
  obtain ⟨kc108, Vc108⟩ := V1_99.arv (.int 0)
  obtain ⟨T108, h108, X108, e108, E108, V_lb, Ex_lb, st108⟩ := cloneH X96 hx hZ hown (own_at hw 19 rfl) (own_at hw 20 rfl) (own_at hw 24 rfl) (own_at hw 22 rfl) (own_at hw 23 rfl) (own_at hw 25 rfl) e96 Vc108.arh Ex1_98 (g := (mkF m 12 #[.val (.ref x0), .val (.ref x1), .val (.ref x2), .unset, .unset, .unset, .unset, .unset] [(.ref x1), (.ref x0)])) rfl (by rw [hml]; rfl) rfl (hb hby d3_12) (by decide) (W := 1) (cap := 3) (by show 2 * 0 + _ ≤ _; exact Nat.le_of_eq rfl) (by decide) (by decide) (by decide) (by decide)
  obtain ⟨lb, g_lb⟩ : ∃ z, z = h96.size := ⟨_, rfl⟩
  rw [← g_lb] at V_lb Ex_lb st108
  have gz_lb : n0 ≤ lb := Nat.le_trans Z96 (Nat.le_of_eq g_lb.symm)
  have ne_x0_lb : x0 ≠ lb := Nat.ne_of_lt (Nat.lt_of_lt_of_le E0_97.lt (Nat.le_of_eq g_lb.symm))
  have ne_x1_lb : x1 ≠ lb := Nat.ne_of_lt (Nat.lt_of_lt_of_le Ex1_98.lt (Nat.le_of_eq g_lb.symm))
  have ne_x2_lb : x2 ≠ lb := Nat.ne_of_lt (Nat.lt_of_lt_of_le V2_100.lt (Nat.le_of_eq g_lb.symm))
  have E0_109 := E0_97.ext E108
  have Ex1_110 := Ex1_98.ext E108
  have V1_111 := V1_99.ext E108
  have V2_112 := V2_100.ext E108
  have F_width_113 := F_width_101.ext E108
  have F_lowerBounds_114 := F_lowerBounds_102.ext E108
  have F_wordOf_115 := F_wordOf_103.ext E108
  have F_shiftOf_116 := F_shiftOf_104.ext E108
  have F_maskOf_117 := F_maskOf_105.ext E108
  have F_bits_118 := F_bits_106.ext E108
  have F_words_119 := F_words_107.ext E108
  have Z108 : n0 ≤ h108.size := Nat.le_trans Z96 E108.1
  have K108 := K96.ext E108
  have sz_lb : h0.size ≤ lb := Nat.le_trans K96.1 (Nat.le_of_eq g_lb.symm)
  have Va_lb : ownA Z h108 lb .int 3 (fun i => .int (lo i)) := (ownA.ofArv (by decide) V_lb).eq (fun i hi => by simp [List.getD_eq_getElem?_getD, hi])
  refine ownGo.st (st108) ?_
  show ownGo p.tables e below T108 (mkF m 15 #[.val (.ref x0), .val (.ref x1), .val (.ref x2), .unset, .unset, .unset, .unset, .unset] [(.ref lb), (.ref x0)]) _
  obtain ⟨T120, X120, e120, st120⟩ := castY X108 hx hZ hown (own_at hw 26 rfl) e108 (Ins.self Ex_lb) (g := (mkF m 15 #[.val (.ref x0), .val (.ref x1), .val (.ref x2), .unset, .unset, .unset, .unset, .unset] [(.ref lb), (.ref x0)])) rfl rfl (hb hby d3_15)
  refine ownGo.st (st120) ?_
  show ownGo p.tables e below T120 (mkF m 18 #[.val (.ref x0), .val (.ref x1), .val (.ref x2), .unset, .unset, .unset, .unset, .unset] [(.ref lb), (.ref x0)]) _
  obtain ⟨T121, h121, X121, e121, W121, st121⟩ := putF X120 hx hZ hown (host := "") (Or.inl (own_at hw 28 rfl)) Via.refl e120 F_lowerBounds_114 E0_109 (Or.inr ⟨(own_at hw 29 rfl), rfl, hnm⟩) (own_at hw 9 rfl) (ty := (.array .int)) (by decide) rfl rfl (g := (mkF m 18 #[.val (.ref x0), .val (.ref x1), .val (.ref x2), .unset, .unset, .unset, .unset, .unset] [(.ref lb), (.ref x0)])) rfl rfl (hb hby d3_18)
  have E0_122 := E0_109.wr W121
  have V1_123 := V1_111.other W121 (Ne.symm hne1)
  have V2_124 := V2_112.other W121 (Ne.symm hne2)
  have F_width_125 := F_width_113.other W121 (Or.inr (slot_ne (Or.inr (own_at hw 18 rfl)) (Or.inr (own_at hw 29 rfl)) (by decide) (t := .int) (t' := (.array .int)) (by decide) (by decide)))
  have F_lowerBounds_126 := F_lowerBounds_114.same W121
  have F_wordOf_127 := F_wordOf_115.other W121 (Or.inr (slot_ne (Or.inr (own_at hw 31 rfl)) (Or.inr (own_at hw 29 rfl)) (by decide) (t := (.array .int)) (t' := (.array .int)) (by decide) (by decide)))
  have F_shiftOf_128 := F_shiftOf_116.other W121 (Or.inr (slot_ne (Or.inr (own_at hw 33 rfl)) (Or.inr (own_at hw 29 rfl)) (by decide) (t := (.array .int)) (t' := (.array .int)) (by decide) (by decide)))
  have F_maskOf_129 := F_maskOf_117.other W121 (Or.inr (slot_ne (Or.inr (own_at hw 36 rfl)) (Or.inr (own_at hw 29 rfl)) (by decide) (t := (.array .long)) (t' := (.array .int)) (by decide) (by decide)))
  have F_bits_130 := F_bits_118.other W121 (Or.inr (slot_ne (Or.inr (own_at hw 47 rfl)) (Or.inr (own_at hw 29 rfl)) (by decide) (t := .int) (t' := (.array .int)) (by decide) (by decide)))
  have F_words_131 := F_words_119.other W121 (Or.inr (slot_ne (Or.inr (own_at hw 50 rfl)) (Or.inr (own_at hw 29 rfl)) (by decide) (t := .int) (t' := (.array .int)) (by decide) (by decide)))
  have Va_lb_132 := Va_lb.other W121 (Ne.symm ne_x0_lb)
  have N121 := Fr.snoc X121 N96 gz_x0
  have Z121 : n0 ≤ h121.size := Nat.le_trans Z108 (Nat.le_of_eq W121.size.symm)
  have K121 := K108.wr W121 (Or.inl (List.mem_singleton.mpr rfl))
  refine ownGo.st (st121) ?_
  show ownGo p.tables e below T121 (mkF m 21 #[.val (.ref x0), .val (.ref x1), .val (.ref x2), .unset, .unset, .unset, .unset, .unset] []) _
  refine ownGo.st (fun _ k => XS.aloadN X121.here hx rfl (hb hby d3_21) rfl rfl k) ?_
  show ownGo p.tables e below T121 (mkF m 22 #[.val (.ref x0), .val (.ref x1), .val (.ref x2), .unset, .unset, .unset, .unset, .unset] [(.ref x0)]) _
  refine ownGo.st (fun _ k => XS.aloadN X121.here hx rfl (hb hby d3_22) rfl rfl k) ?_
  show ownGo p.tables e below T121 (mkF m 23 #[.val (.ref x0), .val (.ref x1), .val (.ref x2), .unset, .unset, .unset, .unset, .unset] [(.ref x0), (.ref x0)]) _
  obtain ⟨T133, X133, e133, st133⟩ := getF X121 hx hZ hown (host := "") (Or.inl (own_at hw 17 rfl)) Via.refl e121 F_width_125 (g := (mkF m 23 #[.val (.ref x0), .val (.ref x1), .val (.ref x2), .unset, .unset, .unset, .unset, .unset] [(.ref x0), (.ref x0)])) rfl rfl (hb hby d3_23)
  refine ownGo.st (st133) ?_
  show ownGo p.tables e below T133 (mkF m 26 #[.val (.ref x0), .val (.ref x1), .val (.ref x2), .unset, .unset, .unset, .unset, .unset] [(.int (3 : Int32)), (.ref x0)]) _
  obtain ⟨T134, h134, w, X134, e134, E134, V_w, Ex_w, g_w, st134⟩ := own_newarray (aty := .int) X133 hx hZ (own_at hw 0 rfl) e133 3 3 (by decide) (by decide) (by decide) (by decide) (ad := "[I") (by rfl) rfl (z := (3 : Int32)) rfl (g := (mkF m 26 #[.val (.ref x0), .val (.ref x1), .val (.ref x2), .unset, .unset, .unset, .unset, .unset] [(.int (3 : Int32)), (.ref x0)])) rfl (hb hby d3_26) rfl
  have gz_w : n0 ≤ w := Nat.le_trans Z121 (Nat.le_of_eq g_w.symm)
  have ne_lb_w : lb ≠ w := Nat.ne_of_lt (Nat.lt_of_lt_of_le Va_lb_132.lt (Nat.le_of_eq g_w.symm))
  have ne_x0_w : x0 ≠ w := Nat.ne_of_lt (Nat.lt_of_lt_of_le E0_122.lt (Nat.le_of_eq g_w.symm))
  have ne_x1_w : x1 ≠ w := Nat.ne_of_lt (Nat.lt_of_lt_of_le V1_123.lt (Nat.le_of_eq g_w.symm))
  have ne_x2_w : x2 ≠ w := Nat.ne_of_lt (Nat.lt_of_lt_of_le V2_124.lt (Nat.le_of_eq g_w.symm))
  have E0_135 := E0_122.ext E134
  have V1_136 := V1_123.ext E134
  have V2_137 := V2_124.ext E134
  have F_width_138 := F_width_125.ext E134
  have F_lowerBounds_139 := F_lowerBounds_126.ext E134
  have F_wordOf_140 := F_wordOf_127.ext E134
  have F_shiftOf_141 := F_shiftOf_128.ext E134
  have F_maskOf_142 := F_maskOf_129.ext E134
  have F_bits_143 := F_bits_130.ext E134
  have F_words_144 := F_words_131.ext E134
  have Va_lb_145 := Va_lb_132.ext E134
  have Z134 : n0 ≤ h134.size := Nat.le_trans Z121 E134.1
  have K134 := K121.ext E134
  have sz_w : h0.size ≤ w := Nat.le_trans K121.1 (Nat.le_of_eq g_w.symm)
  refine ownGo.st (st134) ?_
  show ownGo p.tables e below T134 (mkF m 28 #[.val (.ref x0), .val (.ref x1), .val (.ref x2), .unset, .unset, .unset, .unset, .unset] [(.ref w), (.ref x0)]) _
  obtain ⟨T146, h146, X146, e146, W146, st146⟩ := putF X134 hx hZ hown (host := "") (Or.inl (own_at hw 30 rfl)) Via.refl e134 F_wordOf_140 E0_135 (Or.inr ⟨(own_at hw 31 rfl), rfl, hnm⟩) (own_at hw 9 rfl) (ty := (.array .int)) (by decide) rfl rfl (g := (mkF m 28 #[.val (.ref x0), .val (.ref x1), .val (.ref x2), .unset, .unset, .unset, .unset, .unset] [(.ref w), (.ref x0)])) rfl rfl (hb hby d3_28)
  have E0_147 := E0_135.wr W146
  have V1_148 := V1_136.other W146 (Ne.symm hne1)
  have V2_149 := V2_137.other W146 (Ne.symm hne2)
  have F_width_150 := F_width_138.other W146 (Or.inr (slot_ne (Or.inr (own_at hw 18 rfl)) (Or.inr (own_at hw 31 rfl)) (by decide) (t := .int) (t' := (.array .int)) (by decide) (by decide)))
  have F_lowerBounds_151 := F_lowerBounds_139.other W146 (Or.inr (slot_ne (Or.inr (own_at hw 29 rfl)) (Or.inr (own_at hw 31 rfl)) (by decide) (t := (.array .int)) (t' := (.array .int)) (by decide) (by decide)))
  have F_wordOf_152 := F_wordOf_140.same W146
  have F_shiftOf_153 := F_shiftOf_141.other W146 (Or.inr (slot_ne (Or.inr (own_at hw 33 rfl)) (Or.inr (own_at hw 31 rfl)) (by decide) (t := (.array .int)) (t' := (.array .int)) (by decide) (by decide)))
  have F_maskOf_154 := F_maskOf_142.other W146 (Or.inr (slot_ne (Or.inr (own_at hw 36 rfl)) (Or.inr (own_at hw 31 rfl)) (by decide) (t := (.array .long)) (t' := (.array .int)) (by decide) (by decide)))
  have F_bits_155 := F_bits_143.other W146 (Or.inr (slot_ne (Or.inr (own_at hw 47 rfl)) (Or.inr (own_at hw 31 rfl)) (by decide) (t := .int) (t' := (.array .int)) (by decide) (by decide)))
  have F_words_156 := F_words_144.other W146 (Or.inr (slot_ne (Or.inr (own_at hw 50 rfl)) (Or.inr (own_at hw 31 rfl)) (by decide) (t := .int) (t' := (.array .int)) (by decide) (by decide)))
  have Va_lb_157 := Va_lb_145.other W146 (Ne.symm ne_x0_lb)
  have V_w_158 := V_w.other W146 (Ne.symm ne_x0_w)
  have Ex_w_159 := Ex_w.wr W146
  have N146 := Fr.snoc X146 N121 gz_x0
  have Z146 : n0 ≤ h146.size := Nat.le_trans Z134 (Nat.le_of_eq W146.size.symm)
  have K146 := K134.wr W146 (Or.inl (List.mem_singleton.mpr rfl))
  refine ownGo.st (st146) ?_
  show ownGo p.tables e below T146 (mkF m 31 #[.val (.ref x0), .val (.ref x1), .val (.ref x2), .unset, .unset, .unset, .unset, .unset] []) _
  refine ownGo.st (fun _ k => XS.aloadN X146.here hx rfl (hb hby d3_31) rfl rfl k) ?_
  show ownGo p.tables e below T146 (mkF m 32 #[.val (.ref x0), .val (.ref x1), .val (.ref x2), .unset, .unset, .unset, .unset, .unset] [(.ref x0)]) _
  refine ownGo.st (fun _ k => XS.aloadN X146.here hx rfl (hb hby d3_32) rfl rfl k) ?_
  show ownGo p.tables e below T146 (mkF m 33 #[.val (.ref x0), .val (.ref x1), .val (.ref x2), .unset, .unset, .unset, .unset, .unset] [(.ref x0), (.ref x0)]) _
  obtain ⟨T160, X160, e160, st160⟩ := getF X146 hx hZ hown (host := "") (Or.inl (own_at hw 17 rfl)) Via.refl e146 F_width_150 (g := (mkF m 33 #[.val (.ref x0), .val (.ref x1), .val (.ref x2), .unset, .unset, .unset, .unset, .unset] [(.ref x0), (.ref x0)])) rfl rfl (hb hby d3_33)
  refine ownGo.st (st160) ?_
  show ownGo p.tables e below T160 (mkF m 36 #[.val (.ref x0), .val (.ref x1), .val (.ref x2), .unset, .unset, .unset, .unset, .unset] [(.int (3 : Int32)), (.ref x0)]) _
  obtain ⟨T161, h161, sh, X161, e161, E161, V_sh, Ex_sh, g_sh, st161⟩ := own_newarray (aty := .int) X160 hx hZ (own_at hw 0 rfl) e160 3 3 (by decide) (by decide) (by decide) (by decide) (ad := "[I") (by rfl) rfl (z := (3 : Int32)) rfl (g := (mkF m 36 #[.val (.ref x0), .val (.ref x1), .val (.ref x2), .unset, .unset, .unset, .unset, .unset] [(.int (3 : Int32)), (.ref x0)])) rfl (hb hby d3_36) rfl
  have gz_sh : n0 ≤ sh := Nat.le_trans Z146 (Nat.le_of_eq g_sh.symm)
  have ne_lb_sh : lb ≠ sh := Nat.ne_of_lt (Nat.lt_of_lt_of_le Va_lb_157.lt (Nat.le_of_eq g_sh.symm))
  have ne_w_sh : w ≠ sh := Nat.ne_of_lt (Nat.lt_of_lt_of_le V_w_158.lt (Nat.le_of_eq g_sh.symm))
  have ne_x0_sh : x0 ≠ sh := Nat.ne_of_lt (Nat.lt_of_lt_of_le E0_147.lt (Nat.le_of_eq g_sh.symm))
  have ne_x1_sh : x1 ≠ sh := Nat.ne_of_lt (Nat.lt_of_lt_of_le V1_148.lt (Nat.le_of_eq g_sh.symm))
  have ne_x2_sh : x2 ≠ sh := Nat.ne_of_lt (Nat.lt_of_lt_of_le V2_149.lt (Nat.le_of_eq g_sh.symm))
  have E0_162 := E0_147.ext E161
  have V1_163 := V1_148.ext E161
  have V2_164 := V2_149.ext E161
  have F_width_165 := F_width_150.ext E161
  have F_lowerBounds_166 := F_lowerBounds_151.ext E161
  have F_wordOf_167 := F_wordOf_152.ext E161
  have F_shiftOf_168 := F_shiftOf_153.ext E161
  have F_maskOf_169 := F_maskOf_154.ext E161
  have F_bits_170 := F_bits_155.ext E161
  have F_words_171 := F_words_156.ext E161
  have Va_lb_172 := Va_lb_157.ext E161
  have V_w_173 := V_w_158.ext E161
  have Ex_w_174 := Ex_w_159.ext E161
  have Z161 : n0 ≤ h161.size := Nat.le_trans Z146 E161.1
  have K161 := K146.ext E161
  have sz_sh : h0.size ≤ sh := Nat.le_trans K146.1 (Nat.le_of_eq g_sh.symm)
  refine ownGo.st (st161) ?_
  show ownGo p.tables e below T161 (mkF m 38 #[.val (.ref x0), .val (.ref x1), .val (.ref x2), .unset, .unset, .unset, .unset, .unset] [(.ref sh), (.ref x0)]) _
  obtain ⟨T175, h175, X175, e175, W175, st175⟩ := putF X161 hx hZ hown (host := "") (Or.inl (own_at hw 32 rfl)) Via.refl e161 F_shiftOf_168 E0_162 (Or.inr ⟨(own_at hw 33 rfl), rfl, hnm⟩) (own_at hw 9 rfl) (ty := (.array .int)) (by decide) rfl rfl (g := (mkF m 38 #[.val (.ref x0), .val (.ref x1), .val (.ref x2), .unset, .unset, .unset, .unset, .unset] [(.ref sh), (.ref x0)])) rfl rfl (hb hby d3_38)
  have E0_176 := E0_162.wr W175
  have V1_177 := V1_163.other W175 (Ne.symm hne1)
  have V2_178 := V2_164.other W175 (Ne.symm hne2)
  have F_width_179 := F_width_165.other W175 (Or.inr (slot_ne (Or.inr (own_at hw 18 rfl)) (Or.inr (own_at hw 33 rfl)) (by decide) (t := .int) (t' := (.array .int)) (by decide) (by decide)))
  have F_lowerBounds_180 := F_lowerBounds_166.other W175 (Or.inr (slot_ne (Or.inr (own_at hw 29 rfl)) (Or.inr (own_at hw 33 rfl)) (by decide) (t := (.array .int)) (t' := (.array .int)) (by decide) (by decide)))
  have F_wordOf_181 := F_wordOf_167.other W175 (Or.inr (slot_ne (Or.inr (own_at hw 31 rfl)) (Or.inr (own_at hw 33 rfl)) (by decide) (t := (.array .int)) (t' := (.array .int)) (by decide) (by decide)))
  have F_shiftOf_182 := F_shiftOf_168.same W175
  have F_maskOf_183 := F_maskOf_169.other W175 (Or.inr (slot_ne (Or.inr (own_at hw 36 rfl)) (Or.inr (own_at hw 33 rfl)) (by decide) (t := (.array .long)) (t' := (.array .int)) (by decide) (by decide)))
  have F_bits_184 := F_bits_170.other W175 (Or.inr (slot_ne (Or.inr (own_at hw 47 rfl)) (Or.inr (own_at hw 33 rfl)) (by decide) (t := .int) (t' := (.array .int)) (by decide) (by decide)))
  have F_words_185 := F_words_171.other W175 (Or.inr (slot_ne (Or.inr (own_at hw 50 rfl)) (Or.inr (own_at hw 33 rfl)) (by decide) (t := .int) (t' := (.array .int)) (by decide) (by decide)))
  have Va_lb_186 := Va_lb_172.other W175 (Ne.symm ne_x0_lb)
  have V_w_187 := V_w_173.other W175 (Ne.symm ne_x0_w)
  have Ex_w_188 := Ex_w_174.wr W175
  have V_sh_189 := V_sh.other W175 (Ne.symm ne_x0_sh)
  have Ex_sh_190 := Ex_sh.wr W175
  have N175 := Fr.snoc X175 N146 gz_x0
  have Z175 : n0 ≤ h175.size := Nat.le_trans Z161 (Nat.le_of_eq W175.size.symm)
  have K175 := K161.wr W175 (Or.inl (List.mem_singleton.mpr rfl))
  refine ownGo.st (st175) ?_
  show ownGo p.tables e below T175 (mkF m 41 #[.val (.ref x0), .val (.ref x1), .val (.ref x2), .unset, .unset, .unset, .unset, .unset] []) _
  refine ownGo.st (fun _ k => XS.aloadN X175.here hx rfl (hb hby d3_41) rfl rfl k) ?_
  show ownGo p.tables e below T175 (mkF m 42 #[.val (.ref x0), .val (.ref x1), .val (.ref x2), .unset, .unset, .unset, .unset, .unset] [(.ref x0)]) _
  refine ownGo.st (fun _ k => XS.aloadN X175.here hx rfl (hb hby d3_42) rfl rfl k) ?_
  show ownGo p.tables e below T175 (mkF m 43 #[.val (.ref x0), .val (.ref x1), .val (.ref x2), .unset, .unset, .unset, .unset, .unset] [(.ref x0), (.ref x0)]) _
  obtain ⟨T191, X191, e191, st191⟩ := getF X175 hx hZ hown (host := "") (Or.inl (own_at hw 17 rfl)) Via.refl e175 F_width_179 (g := (mkF m 43 #[.val (.ref x0), .val (.ref x1), .val (.ref x2), .unset, .unset, .unset, .unset, .unset] [(.ref x0), (.ref x0)])) rfl rfl (hb hby d3_43)
  refine ownGo.st (st191) ?_
  show ownGo p.tables e below T191 (mkF m 46 #[.val (.ref x0), .val (.ref x1), .val (.ref x2), .unset, .unset, .unset, .unset, .unset] [(.int (3 : Int32)), (.ref x0)]) _
  obtain ⟨T192, h192, k, X192, e192, E192, V_k, Ex_k, g_k, st192⟩ := own_newarray (aty := .long) X191 hx hZ (own_at hw 34 rfl) e191 3 3 (by decide) (by decide) (by decide) (by decide) (ad := "[J") (by rfl) rfl (z := (3 : Int32)) rfl (g := (mkF m 46 #[.val (.ref x0), .val (.ref x1), .val (.ref x2), .unset, .unset, .unset, .unset, .unset] [(.int (3 : Int32)), (.ref x0)])) rfl (hb hby d3_46) rfl
  have gz_k : n0 ≤ k := Nat.le_trans Z175 (Nat.le_of_eq g_k.symm)
  have ne_lb_k : lb ≠ k := Nat.ne_of_lt (Nat.lt_of_lt_of_le Va_lb_186.lt (Nat.le_of_eq g_k.symm))
  have ne_sh_k : sh ≠ k := Nat.ne_of_lt (Nat.lt_of_lt_of_le V_sh_189.lt (Nat.le_of_eq g_k.symm))
  have ne_w_k : w ≠ k := Nat.ne_of_lt (Nat.lt_of_lt_of_le V_w_187.lt (Nat.le_of_eq g_k.symm))
  have ne_x0_k : x0 ≠ k := Nat.ne_of_lt (Nat.lt_of_lt_of_le E0_176.lt (Nat.le_of_eq g_k.symm))
  have ne_x1_k : x1 ≠ k := Nat.ne_of_lt (Nat.lt_of_lt_of_le V1_177.lt (Nat.le_of_eq g_k.symm))
  have ne_x2_k : x2 ≠ k := Nat.ne_of_lt (Nat.lt_of_lt_of_le V2_178.lt (Nat.le_of_eq g_k.symm))
  have E0_193 := E0_176.ext E192
  have V1_194 := V1_177.ext E192
  have V2_195 := V2_178.ext E192
  have F_width_196 := F_width_179.ext E192
  have F_lowerBounds_197 := F_lowerBounds_180.ext E192
  have F_wordOf_198 := F_wordOf_181.ext E192
  have F_shiftOf_199 := F_shiftOf_182.ext E192
  have F_maskOf_200 := F_maskOf_183.ext E192
  have F_bits_201 := F_bits_184.ext E192
  have F_words_202 := F_words_185.ext E192
  have Va_lb_203 := Va_lb_186.ext E192
  have V_w_204 := V_w_187.ext E192
  have Ex_w_205 := Ex_w_188.ext E192
  have V_sh_206 := V_sh_189.ext E192
  have Ex_sh_207 := Ex_sh_190.ext E192
  have Z192 : n0 ≤ h192.size := Nat.le_trans Z175 E192.1
  have K192 := K175.ext E192
  have sz_k : h0.size ≤ k := Nat.le_trans K175.1 (Nat.le_of_eq g_k.symm)
  refine ownGo.st (st192) ?_
  show ownGo p.tables e below T192 (mkF m 48 #[.val (.ref x0), .val (.ref x1), .val (.ref x2), .unset, .unset, .unset, .unset, .unset] [(.ref k), (.ref x0)]) _
  obtain ⟨T208, h208, X208, e208, W208, st208⟩ := putF X192 hx hZ hown (host := "") (Or.inl (own_at hw 35 rfl)) Via.refl e192 F_maskOf_200 E0_193 (Or.inr ⟨(own_at hw 36 rfl), rfl, hnm⟩) (own_at hw 9 rfl) (ty := (.array .long)) (by decide) rfl rfl (g := (mkF m 48 #[.val (.ref x0), .val (.ref x1), .val (.ref x2), .unset, .unset, .unset, .unset, .unset] [(.ref k), (.ref x0)])) rfl rfl (hb hby d3_48)
  have E0_209 := E0_193.wr W208
  have V1_210 := V1_194.other W208 (Ne.symm hne1)
  have V2_211 := V2_195.other W208 (Ne.symm hne2)
  have F_width_212 := F_width_196.other W208 (Or.inr (slot_ne (Or.inr (own_at hw 18 rfl)) (Or.inr (own_at hw 36 rfl)) (by decide) (t := .int) (t' := (.array .long)) (by decide) (by decide)))
  have F_lowerBounds_213 := F_lowerBounds_197.other W208 (Or.inr (slot_ne (Or.inr (own_at hw 29 rfl)) (Or.inr (own_at hw 36 rfl)) (by decide) (t := (.array .int)) (t' := (.array .long)) (by decide) (by decide)))
  have F_wordOf_214 := F_wordOf_198.other W208 (Or.inr (slot_ne (Or.inr (own_at hw 31 rfl)) (Or.inr (own_at hw 36 rfl)) (by decide) (t := (.array .int)) (t' := (.array .long)) (by decide) (by decide)))
  have F_shiftOf_215 := F_shiftOf_199.other W208 (Or.inr (slot_ne (Or.inr (own_at hw 33 rfl)) (Or.inr (own_at hw 36 rfl)) (by decide) (t := (.array .int)) (t' := (.array .long)) (by decide) (by decide)))
  have F_maskOf_216 := F_maskOf_200.same W208
  have F_bits_217 := F_bits_201.other W208 (Or.inr (slot_ne (Or.inr (own_at hw 47 rfl)) (Or.inr (own_at hw 36 rfl)) (by decide) (t := .int) (t' := (.array .long)) (by decide) (by decide)))
  have F_words_218 := F_words_202.other W208 (Or.inr (slot_ne (Or.inr (own_at hw 50 rfl)) (Or.inr (own_at hw 36 rfl)) (by decide) (t := .int) (t' := (.array .long)) (by decide) (by decide)))
  have Va_lb_219 := Va_lb_203.other W208 (Ne.symm ne_x0_lb)
  have V_w_220 := V_w_204.other W208 (Ne.symm ne_x0_w)
  have Ex_w_221 := Ex_w_205.wr W208
  have V_sh_222 := V_sh_206.other W208 (Ne.symm ne_x0_sh)
  have Ex_sh_223 := Ex_sh_207.wr W208
  have V_k_224 := V_k.other W208 (Ne.symm ne_x0_k)
  have Ex_k_225 := Ex_k.wr W208
  have N208 := Fr.snoc X208 N175 gz_x0
  have Z208 : n0 ≤ h208.size := Nat.le_trans Z192 (Nat.le_of_eq W208.size.symm)
  have K208 := K192.wr W208 (Or.inl (List.mem_singleton.mpr rfl))
  refine ownGo.st (st208) ?_
  show ownGo p.tables e below T208 (mkF m 51 #[.val (.ref x0), .val (.ref x1), .val (.ref x2), .unset, .unset, .unset, .unset, .unset] []) _
  refine ownGo.st (fun _ k => XS.iconst X208.here hx rfl (hb hby d3_51)  k) ?_
  show ownGo p.tables e below T208 (mkF m 52 #[.val (.ref x0), .val (.ref x1), .val (.ref x2), .unset, .unset, .unset, .unset, .unset] [(.int (0 : Int32))]) _
  refine ownGo.st (fun _ k => XS.istoreN X208.here hx rfl (hb hby d3_52) rfl (l' := #[.val (.ref x0), .val (.ref x1), .val (.ref x2), .val (.int (0 : Int32)), .unset, .unset, .unset, .unset]) rfl k) ?_
  show ownGo p.tables e below T208 (mkF m 53 #[.val (.ref x0), .val (.ref x1), .val (.ref x2), .val (.int (0 : Int32)), .unset, .unset, .unset, .unset] []) _
  refine ownGo.st (fun _ k => XS.iconst X208.here hx rfl (hb hby d3_53)  k) ?_
  show ownGo p.tables e below T208 (mkF m 54 #[.val (.ref x0), .val (.ref x1), .val (.ref x2), .val (.int (0 : Int32)), .unset, .unset, .unset, .unset] [(.int (0 : Int32))]) _
  refine ownGo.st (fun _ k => XS.istore X208.here hx rfl (hb hby d3_54) rfl (l' := #[.val (.ref x0), .val (.ref x1), .val (.ref x2), .val (.int (0 : Int32)), .val (.int (0 : Int32)), .unset, .unset, .unset]) rfl k) ?_
  show ownGo p.tables e below T208 (mkF m 56 #[.val (.ref x0), .val (.ref x1), .val (.ref x2), .val (.int (0 : Int32)), .val (.int (0 : Int32)), .unset, .unset, .unset] []) _
  exact own_loopC hx hZ hw hby hml hown hret hlk hnm x0 x1 x2 lb w sh k lo up kb hkb (fun i hi => (hkb i hi).rng.2.2.1) gz_x0 (Nat.le_trans sx0 sz_lb) (Nat.le_trans sx0 sz_w) (Nat.le_trans sx0 sz_sh) (Nat.le_trans sx0 sz_k) gz_w gz_sh gz_k sz_w sz_sh sz_k hne1 hne2 ne_x0_lb ne_x0_w ne_x0_sh ne_x0_k ne_x1_lb ne_x1_w ne_x1_sh ne_x1_k ne_x2_lb ne_x2_w ne_x2_sh ne_x2_k ne_lb_w ne_lb_sh ne_lb_k ne_w_sh ne_w_k ne_sh_k 3 0 rfl T208 h208 _ _ _ _ _ _ _ (Or.inl ⟨rfl, rfl⟩) One.u X208 e208 N208 Z208 K208 E0_209 F_width_212 F_lowerBounds_213 F_wordOf_214 F_shiftOf_215 F_maskOf_216 F_bits_217 F_words_218 V1_210 V2_211 Va_lb_219 V_w_220 (fun j hj => absurd hj (Nat.not_lt_zero j)) V_sh_222 (fun j hj => absurd hj (Nat.not_lt_zero j)) V_k_224 (fun j hj => absurd hj (Nat.not_lt_zero j))
/-- the i-th variable's bits where they lie in their word -/
def own_x (sv lo : Nat → Int32) (kb : Nat → Nat) (i : Nat) : Int64 := own_lshl ((sv i).toInt64 - (lo i).toInt64) (Int32.ofNat (own_st kb i % 64))
def own_acc (x : Nat → Int64) : Nat → Int64
  | 0 => 0
  | i + 1 => own_acc x i ||| x i
def own_pk (x : Nat → Int64) (kb : Nat → Nat) : Nat → Nat → Int64
  | 0, _ => 0
  | i + 1, j => if j = own_st kb i / 64 then own_pk x kb i j ||| x i else own_pk x kb i j
/-- what pack leaves in the words -/
def own_packed (x : Nat → Int64) (kb : Nat → Nat) (wv : Nat → Int64) (j : Nat) : Int64 := if own_wds kb 3 = 1 then (if j = 0 then own_acc x 3 else wv j) else own_pk x kb 3 j
theorem own_lay3 (kb : Nat → Nat) (h : ∀ i, i < 3 → kb i ≤ 32) : own_st kb 0 = 0 ∧ own_st kb 1 = kb 0 ∧ ((kb 0 + kb 1 + kb 2 ≤ 64 ∧ own_st kb 2 = kb 0 + kb 1 ∧ own_wds kb 3 = 1) ∨ (64 < kb 0 + kb 1 + kb 2 ∧ own_st kb 2 = 64 ∧ own_wds kb 3 = 2)) := by
  have h0 := h 0 (by decide)
  have h1 := h 1 (by decide)
  have h2 := h 2 (by decide)
  have e0 : own_st kb 0 = 0 := by show own_al 0 (kb 0) = 0; unfold own_al; rw [if_pos (by omega)]
  have f1 : own_off kb 1 = kb 0 := by show own_al 0 (kb 0) + kb 0 = kb 0; have : own_al 0 (kb 0) = 0 := e0; omega
  have e1 : own_st kb 1 = kb 0 := by show own_al (own_off kb 1) (kb 1) = _; rw [f1]; unfold own_al; rw [if_pos (by omega)]
  have f2 : own_off kb 2 = kb 0 + kb 1 := by show own_st kb 1 + kb 1 = _; rw [e1]
  have e2 : own_st kb 2 = if kb 0 + kb 1 + kb 2 ≤ 64 then kb 0 + kb 1 else 64 := by
    show own_al (own_off kb 2) (kb 2) = _
    rw [f2]; unfold own_al
    split <;> split <;> omega
  have f3 : own_off kb 3 = own_st kb 2 + kb 2 := rfl
  refine ⟨e0, e1, ?_⟩
  unfold own_wds
  rw [f3, e2]
  by_cases q : kb 0 + kb 1 + kb 2 ≤ 64
  · left
    rw [if_pos q]
    exact ⟨q, rfl, if_pos (by omega)⟩
  · right
    rw [if_neg q, if_neg (by omega)]
    exact ⟨by omega, rfl, by omega⟩
theorem own_st64 (kb : Nat → Nat) (h : ∀ i, i < 3 → kb i ≤ 32) (i : Nat) (hi : i < 3) : own_st kb i ≤ 64 := by
  have q := own_lay3 kb h
  have h0 := h 0 (by decide)
  have h1 := h 1 (by decide)
  have z : i = 0 ∨ i = 1 ∨ i = 2 := by omega
  rcases z with rfl | rfl | rfl <;> omega
def ownPacked (Z : State) (t : Addr) (g : Nat → Int64) (h0 : Heap) (n0 : Nat) (v : Option Value) (h : Heap) (L : List Loc) : Prop := v = none ∧ Fr n0 L ∧ Keep h0 h [t] ∧ ownA Z h t .long 2 (fun j => .long (g j))
theorem d8_0 : decode prog_49_method_7_code 0 = .ok (.aload_n 0, 1) := by decide +kernel
theorem d8_1 : decode prog_49_method_7_code 1 = .ok (.getfield 49, 3) := by decide +kernel
theorem d8_4 : decode prog_49_method_7_code 4 = .ok (.iconst 1, 1) := by decide +kernel
theorem d8_5 : decode prog_49_method_7_code 5 = .ok (.if_icmp .ne 53, 3) := by decide +kernel
theorem d8_8 : decode prog_49_method_7_code 8 = .ok (.lconst 0, 1) := by decide +kernel
theorem d8_9 : decode prog_49_method_7_code 9 = .ok (.lstore_n 3, 1) := by decide +kernel
theorem d8_10 : decode prog_49_method_7_code 10 = .ok (.iconst 0, 1) := by decide +kernel
theorem d8_11 : decode prog_49_method_7_code 11 = .ok (.istore 5, 2) := by decide +kernel
theorem d8_13 : decode prog_49_method_7_code 13 = .ok (.iload 5, 2) := by decide +kernel
theorem d8_15 : decode prog_49_method_7_code 15 = .ok (.aload_n 0, 1) := by decide +kernel
theorem d8_16 : decode prog_49_method_7_code 16 = .ok (.getfield 7, 3) := by decide +kernel
theorem d8_19 : decode prog_49_method_7_code 19 = .ok (.if_icmp .ge 34, 3) := by decide +kernel
theorem d8_22 : decode prog_49_method_7_code 22 = .ok (.lload_n 3, 1) := by decide +kernel
theorem d8_23 : decode prog_49_method_7_code 23 = .ok (.aload_n 1, 1) := by decide +kernel
theorem d8_24 : decode prog_49_method_7_code 24 = .ok (.iload 5, 2) := by decide +kernel
theorem d8_26 : decode prog_49_method_7_code 26 = .ok (.iaload, 1) := by decide +kernel
theorem d8_27 : decode prog_49_method_7_code 27 = .ok (.i2l, 1) := by decide +kernel
theorem d8_28 : decode prog_49_method_7_code 28 = .ok (.aload_n 0, 1) := by decide +kernel
theorem d8_29 : decode prog_49_method_7_code 29 = .ok (.getfield 19, 3) := by decide +kernel
theorem d8_32 : decode prog_49_method_7_code 32 = .ok (.iload 5, 2) := by decide +kernel
theorem d8_34 : decode prog_49_method_7_code 34 = .ok (.iaload, 1) := by decide +kernel
theorem d8_35 : decode prog_49_method_7_code 35 = .ok (.i2l, 1) := by decide +kernel
theorem d8_36 : decode prog_49_method_7_code 36 = .ok (.lsub, 1) := by decide +kernel
theorem d8_37 : decode prog_49_method_7_code 37 = .ok (.aload_n 0, 1) := by decide +kernel
theorem d8_38 : decode prog_49_method_7_code 38 = .ok (.getfield 25, 3) := by decide +kernel
theorem d8_41 : decode prog_49_method_7_code 41 = .ok (.iload 5, 2) := by decide +kernel
theorem d8_43 : decode prog_49_method_7_code 43 = .ok (.iaload, 1) := by decide +kernel
theorem d8_44 : decode prog_49_method_7_code 44 = .ok (.lshl, 1) := by decide +kernel
theorem d8_45 : decode prog_49_method_7_code 45 = .ok (.lor, 1) := by decide +kernel
theorem d8_46 : decode prog_49_method_7_code 46 = .ok (.lstore_n 3, 1) := by decide +kernel
theorem d8_47 : decode prog_49_method_7_code 47 = .ok (.iinc 5 1, 3) := by decide +kernel
theorem d8_50 : decode prog_49_method_7_code 50 = .ok (.goto (-37), 3) := by decide +kernel
theorem d8_53 : decode prog_49_method_7_code 53 = .ok (.aload_n 2, 1) := by decide +kernel
theorem d8_54 : decode prog_49_method_7_code 54 = .ok (.iconst 0, 1) := by decide +kernel
theorem d8_55 : decode prog_49_method_7_code 55 = .ok (.lload_n 3, 1) := by decide +kernel
theorem d8_56 : decode prog_49_method_7_code 56 = .ok (.lastore, 1) := by decide +kernel
theorem d8_57 : decode prog_49_method_7_code 57 = .ok (.return_, 1) := by decide +kernel
theorem d8_58 : decode prog_49_method_7_code 58 = .ok (.iconst 0, 1) := by decide +kernel
theorem d8_59 : decode prog_49_method_7_code 59 = .ok (.istore_n 3, 1) := by decide +kernel
theorem d8_60 : decode prog_49_method_7_code 60 = .ok (.iload_n 3, 1) := by decide +kernel
theorem d8_61 : decode prog_49_method_7_code 61 = .ok (.aload_n 0, 1) := by decide +kernel
theorem d8_62 : decode prog_49_method_7_code 62 = .ok (.getfield 49, 3) := by decide +kernel
theorem d8_65 : decode prog_49_method_7_code 65 = .ok (.if_icmp .ge 13, 3) := by decide +kernel
theorem d8_68 : decode prog_49_method_7_code 68 = .ok (.aload_n 2, 1) := by decide +kernel
theorem d8_69 : decode prog_49_method_7_code 69 = .ok (.iload_n 3, 1) := by decide +kernel
theorem d8_70 : decode prog_49_method_7_code 70 = .ok (.lconst 0, 1) := by decide +kernel
theorem d8_71 : decode prog_49_method_7_code 71 = .ok (.lastore, 1) := by decide +kernel
theorem d8_72 : decode prog_49_method_7_code 72 = .ok (.iinc 3 1, 3) := by decide +kernel
theorem d8_75 : decode prog_49_method_7_code 75 = .ok (.goto (-15), 3) := by decide +kernel
theorem d8_78 : decode prog_49_method_7_code 78 = .ok (.iconst 0, 1) := by decide +kernel
theorem d8_79 : decode prog_49_method_7_code 79 = .ok (.istore_n 3, 1) := by decide +kernel
theorem d8_80 : decode prog_49_method_7_code 80 = .ok (.iload_n 3, 1) := by decide +kernel
theorem d8_81 : decode prog_49_method_7_code 81 = .ok (.aload_n 0, 1) := by decide +kernel
theorem d8_82 : decode prog_49_method_7_code 82 = .ok (.getfield 7, 3) := by decide +kernel
theorem d8_85 : decode prog_49_method_7_code 85 = .ok (.if_icmp .ge 39, 3) := by decide +kernel
theorem d8_88 : decode prog_49_method_7_code 88 = .ok (.aload_n 2, 1) := by decide +kernel
theorem d8_89 : decode prog_49_method_7_code 89 = .ok (.aload_n 0, 1) := by decide +kernel
theorem d8_90 : decode prog_49_method_7_code 90 = .ok (.getfield 22, 3) := by decide +kernel
theorem d8_93 : decode prog_49_method_7_code 93 = .ok (.iload_n 3, 1) := by decide +kernel
theorem d8_94 : decode prog_49_method_7_code 94 = .ok (.iaload, 1) := by decide +kernel
theorem d8_95 : decode prog_49_method_7_code 95 = .ok (.dup2, 1) := by decide +kernel
theorem d8_96 : decode prog_49_method_7_code 96 = .ok (.laload, 1) := by decide +kernel
theorem d8_97 : decode prog_49_method_7_code 97 = .ok (.aload_n 1, 1) := by decide +kernel
theorem d8_98 : decode prog_49_method_7_code 98 = .ok (.iload_n 3, 1) := by decide +kernel
theorem d8_99 : decode prog_49_method_7_code 99 = .ok (.iaload, 1) := by decide +kernel
theorem d8_100 : decode prog_49_method_7_code 100 = .ok (.i2l, 1) := by decide +kernel
theorem d8_101 : decode prog_49_method_7_code 101 = .ok (.aload_n 0, 1) := by decide +kernel
theorem d8_102 : decode prog_49_method_7_code 102 = .ok (.getfield 19, 3) := by decide +kernel
theorem d8_105 : decode prog_49_method_7_code 105 = .ok (.iload_n 3, 1) := by decide +kernel
theorem d8_106 : decode prog_49_method_7_code 106 = .ok (.iaload, 1) := by decide +kernel
theorem d8_107 : decode prog_49_method_7_code 107 = .ok (.i2l, 1) := by decide +kernel
theorem d8_108 : decode prog_49_method_7_code 108 = .ok (.lsub, 1) := by decide +kernel
theorem d8_109 : decode prog_49_method_7_code 109 = .ok (.aload_n 0, 1) := by decide +kernel
theorem d8_110 : decode prog_49_method_7_code 110 = .ok (.getfield 25, 3) := by decide +kernel
theorem d8_113 : decode prog_49_method_7_code 113 = .ok (.iload_n 3, 1) := by decide +kernel
theorem d8_114 : decode prog_49_method_7_code 114 = .ok (.iaload, 1) := by decide +kernel
theorem d8_115 : decode prog_49_method_7_code 115 = .ok (.lshl, 1) := by decide +kernel
theorem d8_116 : decode prog_49_method_7_code 116 = .ok (.lor, 1) := by decide +kernel
theorem d8_117 : decode prog_49_method_7_code 117 = .ok (.lastore, 1) := by decide +kernel
theorem d8_118 : decode prog_49_method_7_code 118 = .ok (.iinc 3 1, 3) := by decide +kernel
theorem d8_121 : decode prog_49_method_7_code 121 = .ok (.goto (-41), 3) := by decide +kernel
theorem d8_124 : decode prog_49_method_7_code 124 = .ok (.return_, 1) := by decide +kernel
abbrev R8 : Room := { frames := 0, cells := 0, slots := 0, locals := 0 }
set_option maxRecDepth 65536 in
set_option maxHeartbeats 40000000 in
theorem own_loopP1 {p : Program} {l : Launch} {e : Env} {s : State} {m : MethodId} {args : Array Value} {below : List Frame} {meth : Method} {c : Code} {locs : List Loc} {Z : State} {a0 : Array Value} {h0 : Heap} {n0 : Nat} (hx : p.tables.exec = Jvm.exec) (hZ : Z.Warmed39 s.vm) (hw : ∀ d ∈ tables_1, d.before a0 Z = true) (hby : c.code = prog_49_method_7_code) (hml : c.maxLocals = 6) (hown : s.vm.findClass "com/example/ningbo/ningbo/engine/StateLayout" = some m.cls) (hret : meth.sig.returnType = none) (hlk : meth.locks = false) (N0 : Fr n0 locs) (Z0 : n0 ≤ h0.size) (x0 x1 x2 lb w sh k : Addr) (sv lo : Nat → Int32) (kb : Nat → Nat) (wv : Nat → Int64) (hk32 : ∀ i, i < 3 → kb i ≤ 32) (K0 : Keep h0 h0 [x2]) (hw1 : own_wds kb 3 = 1) (gz_x2 : n0 ≤ x2) (ne_x0 : x0 ≠ x2) (ne_x1 : x1 ≠ x2) (ne_lb : lb ≠ x2) (ne_w : w ≠ x2) (ne_sh : sh ≠ x2) (ne_k : k ≠ x2) (F1 : Fld Z h0 x0 "com/example/ningbo/ningbo/engine/StateLayout" "width" "I" (.int (3 : Int32))) (F2 : Fld Z h0 x0 "com/example/ningbo/ningbo/engine/StateLayout" "words" "I" (.int (1 : Int32))) (G1 : Fld Z h0 x0 "com/example/ningbo/ningbo/engine/StateLayout" "lowerBounds" "[I" (.ref lb)) (G2 : Fld Z h0 x0 "com/example/ningbo/ningbo/engine/StateLayout" "wordOf" "[I" (.ref w)) (G3 : Fld Z h0 x0 "com/example/ningbo/ningbo/engine/StateLayout" "shiftOf" "[I" (.ref sh)) (G4 : Fld Z h0 x0 "com/example/ningbo/ningbo/engine/StateLayout" "maskOf" "[J" (.ref k)) (VL : ownA Z h0 lb .int 3 (fun i => .int (lo i))) (Vw : ownA Z h0 w .int 3 (fun i => .int (Int32.ofNat (own_st kb i / 64)))) (Vs : ownA Z h0 sh .int 3 (fun i => .int (Int32.ofNat (own_st kb i % 64)))) (Vk : ownA Z h0 k .long 3 (fun i => .long (own_mk (kb i)))) (V1 : ownA Z h0 x1 .int 3 (fun i => .int (sv i))) (V2 : ownA Z h0 x2 .long 2 (fun j => .long (wv j))) :
    ∀ (kk i : Nat), i + kk = 3 → ∀ (T0 : State), Stand p l e R8 s m args below meth c T0 locs 0 0 → T0.heap = h0 → ownGo p.tables e below T0 (mkF m 13 #[.val (.ref x0), .val (.ref x1), .val (.ref x2), .val (.long (own_acc (own_x sv lo kb) i)), .second, .val (.int (Int32.ofNat i))] []) (ownDone s (ownPacked Z x2 (own_packed (own_x sv lo kb) kb wv) h0 n0) 0 0) := by
  intro kk
  induction kk with
  | zero =>
    intro i hi T0 X0 e0
    obtain rfl : i = 3 := by omega
    refine ownGo.st (fun _ k => XS.iload X0.here hx rfl (hb hby d8_13) rfl k) ?_
    show ownGo p.tables e below T0 (mkF m 15 #[.val (.ref x0), .val (.ref x1), .val (.ref x2), .val (.long (own_acc (own_x sv lo kb) 3)), .second, .val (.int (Int32.ofNat 3))] [(.int (Int32.ofNat 3))]) _
    refine ownGo.st (fun _ k => XS.aloadN X0.here hx rfl (hb hby d8_15) rfl rfl k) ?_
    show ownGo p.tables e below T0 (mkF m 16 #[.val (.ref x0), .val (.ref x1), .val (.ref x2), .val (.long (own_acc (own_x sv lo kb) 3)), .second, .val (.int (Int32.ofNat 3))] [(.ref x0), (.int (Int32.ofNat 3))]) _
    obtain ⟨T226, X226, e226, st226⟩ := getF X0 hx hZ hown (host := "") (Or.inl (own_at hw 17 rfl)) Via.refl e0 F1 (g := (mkF m 16 #[.val (.ref x0), .val (.ref x1), .val (.ref x2), .val (.long (own_acc (own_x sv lo kb) 3)), .second, .val (.int (Int32.ofNat 3))] [(.ref x0), (.int (Int32.ofNat 3))])) rfl rfl (hb hby d8_16)
    refine ownGo.st (st226) ?_
    show ownGo p.tables e below T226 (mkF m 19 #[.val (.ref x0), .val (.ref x1), .val (.ref x2), .val (.long (own_acc (own_x sv lo kb) 3)), .second, .val (.int (Int32.ofNat 3))] [(.int (3 : Int32)), (.int (Int32.ofNat 3))]) _
    have hc227 : ¬ ((Int32.ofNat 3) < (3 : Int32)) := Int32.lt_irrefl
    refine ownGo.st (fun _ k => XS.icmpYes X226.here hx rfl (pc0 := 19) (pc' := 53) rfl (hb hby d8_19) rfl (flt hc227).2.1 (by decide) (by decide) k) ?_
    show ownGo p.tables e below T226 (mkF m 53 #[.val (.ref x0), .val (.ref x1), .val (.ref x2), .val (.long (own_acc (own_x sv lo kb) 3)), .second, .val (.int (Int32.ofNat 3))] []) _
    refine ownGo.st (fun _ k => XS.aloadN X226.here hx rfl (hb hby d8_53) rfl rfl k) ?_
    show ownGo p.tables e below T226 (mkF m 54 #[.val (.ref x0), .val (.ref x1), .val (.ref x2), .val (.long (own_acc (own_x sv lo kb) 3)), .second, .val (.int (Int32.ofNat 3))] [(.ref x2)]) _
    refine ownGo.st (fun _ k => XS.iconst X226.here hx rfl (hb hby d8_54)  k) ?_
    show ownGo p.tables e below T226 (mkF m 55 #[.val (.ref x0), .val (.ref x1), .val (.ref x2), .val (.long (own_acc (own_x sv lo kb) 3)), .second, .val (.int (Int32.ofNat 3))] [(.int (0 : Int32)), (.ref x2)]) _
    refine ownGo.st (fun _ k => XS.lloadN X226.here hx rfl (hb hby d8_55) rfl k) ?_
    show ownGo p.tables e below T226 (mkF m 56 #[.val (.ref x0), .val (.ref x1), .val (.ref x2), .val (.long (own_acc (own_x sv lo kb) 3)), .second, .val (.int (Int32.ofNat 3))] [(.long (own_acc (own_x sv lo kb) 3)), (.int (0 : Int32)), (.ref x2)]) _
    obtain ⟨T228, h228, X228, e228, W228, V_x2_228, st228⟩ := own_lastore X226 hx hZ e226 V2 (i := 0) rfl (by decide) (g := (mkF m 56 #[.val (.ref x0), .val (.ref x1), .val (.ref x2), .val (.long (own_acc (own_x sv lo kb) 3)), .second, .val (.int (Int32.ofNat 3))] [(.long (own_acc (own_x sv lo kb) 3)), (.int (0 : Int32)), (.ref x2)])) rfl rfl (hb hby d8_56)
    have F1_229 := F1.other W228 (Or.inl ne_x0)
    have F2_230 := F2.other W228 (Or.inl ne_x0)
    have G1_231 := G1.other W228 (Or.inl ne_x0)
    have G2_232 := G2.other W228 (Or.inl ne_x0)
    have G3_233 := G3.other W228 (Or.inl ne_x0)
    have G4_234 := G4.other W228 (Or.inl ne_x0)
    have VL_235 := VL.other W228 ne_lb
    have Vw_236 := Vw.other W228 ne_w
    have Vs_237 := Vs.other W228 ne_sh
    have Vk_238 := Vk.other W228 ne_k
    have V1_239 := V1.other W228 ne_x1
    have N228 := Fr.snoc X228 N0 gz_x2
    have Z228 : n0 ≤ h228.size := Nat.le_trans Z0 (Nat.le_of_eq W228.size.symm)
    have K228 := K0.wr W228 (Or.inl (List.mem_singleton.mpr rfl))
    refine ownGo.st (st228) ?_
    show ownGo p.tables e below T228 (mkF m 57 #[.val (.ref x0), .val (.ref x1), .val (.ref x2), .val (.long (own_acc (own_x sv lo kb) 3)), .second, .val (.int (Int32.ofNat 3))] []) _
    exact own_retV X228 hx hlk hret (hb hby d8_57) ⟨rfl, N228, by rw [e228]; exact K228, (by rw [e228]; exact V_x2_228 : ownA Z _ x2 .long 2 _).eq (fun j hj => by
      have q : j = 0 ∨ j = 1 := by omega
      rcases q with rfl | rfl
      · exact congrArg Value.long ((if_pos rfl : (if (0 : Nat) = 0 then own_acc (own_x sv lo kb) 3 else wv 0) = own_acc (own_x sv lo kb) 3).symm.trans (if_pos hw1 : own_packed (own_x sv lo kb) kb wv 0 = _).symm)
      · exact congrArg Value.long ((if_neg (by decide) : (if (1 : Nat) = 0 then own_acc (own_x sv lo kb) 3 else wv 1) = wv 1).symm.trans (if_pos hw1 : own_packed (own_x sv lo kb) kb wv 1 = _).symm))⟩ (by decide) (by decide)
  | succ kk ih =>
    intro i hi T0 X0 e0
    refine ownGo.st (fun _ k => XS.iload X0.here hx rfl (hb hby d8_13) rfl k) ?_
    show ownGo p.tables e below T0 (mkF m 15 #[.val (.ref x0), .val (.ref x1), .val (.ref x2), .val (.long (own_acc (own_x sv lo kb) i)), .second, .val (.int (Int32.ofNat i))] [(.int (Int32.ofNat i))]) _
    refine ownGo.st (fun _ k => XS.aloadN X0.here hx rfl (hb hby d8_15) rfl rfl k) ?_
    show ownGo p.tables e below T0 (mkF m 16 #[.val (.ref x0), .val (.ref x1), .val (.ref x2), .val (.long (own_acc (own_x sv lo kb) i)), .second, .val (.int (Int32.ofNat i))] [(.ref x0), (.int (Int32.ofNat i))]) _
    obtain ⟨T240, X240, e240, st240⟩ := getF X0 hx hZ hown (host := "") (Or.inl (own_at hw 17 rfl)) Via.refl e0 F1 (g := (mkF m 16 #[.val (.ref x0), .val (.ref x1), .val (.ref x2), .val (.long (own_acc (own_x sv lo kb) i)), .second, .val (.int (Int32.ofNat i))] [(.ref x0), (.int (Int32.ofNat i))])) rfl rfl (hb hby d8_16)
    refine ownGo.st (st240) ?_
    show ownGo p.tables e below T240 (mkF m 19 #[.val (.ref x0), .val (.ref x1), .val (.ref x2), .val (.long (own_acc (own_x sv lo kb) i)), .second, .val (.int (Int32.ofNat i))] [(.int (3 : Int32)), (.int (Int32.ofNat i))]) _
    have hc241 : (Int32.ofNat i) < (3 : Int32) := own_ltn (n := 3) (by omega) (by decide)
    refine ownGo.st (fun _ k => XS.icmpNo X240.here hx rfl (hb hby d8_19) rfl (tlt hc241).2.1 k) ?_
    show ownGo p.tables e below T240 (mkF m 22 #[.val (.ref x0), .val (.ref x1), .val (.ref x2), .val (.long (own_acc (own_x sv lo kb) i)), .second, .val (.int (Int32.ofNat i))] []) _
    refine ownGo.st (fun _ k => XS.lloadN X240.here hx rfl (hb hby d8_22) rfl k) ?_
    show ownGo p.tables e below T240 (mkF m 23 #[.val (.ref x0), .val (.ref x1), .val (.ref x2), .val (.long (own_acc (own_x sv lo kb) i)), .second, .val (.int (Int32.ofNat i))] [(.long (own_acc (own_x sv lo kb) i))]) _
    refine ownGo.st (fun _ k => XS.aloadN X240.here hx rfl (hb hby d8_23) rfl rfl k) ?_
    show ownGo p.tables e below T240 (mkF m 24 #[.val (.ref x0), .val (.ref x1), .val (.ref x2), .val (.long (own_acc (own_x sv lo kb) i)), .second, .val (.int (Int32.ofNat i))] [(.ref x1), (.long (own_acc (own_x sv lo kb) i))]) _
    refine ownGo.st (fun _ k => XS.iload X240.here hx rfl (hb hby d8_24) rfl k) ?_
    show ownGo p.tables e below T240 (mkF m 26 #[.val (.ref x0), .val (.ref x1), .val (.ref x2), .val (.long (own_acc (own_x sv lo kb) i)), .second, .val (.int (Int32.ofNat i))] [(.int (Int32.ofNat i)), (.ref x1), (.long (own_acc (own_x sv lo kb) i))]) _
    refine ownGo.st (own_iaload X240 hx hZ e240 V1 (i := i) (v := (sv i)) rfl (by omega) rfl (g := (mkF m 26 #[.val (.ref x0), .val (.ref x1), .val (.ref x2), .val (.long (own_acc (own_x sv lo kb) i)), .second, .val (.int (Int32.ofNat i))] [(.int (Int32.ofNat i)), (.ref x1), (.long (own_acc (own_x sv lo kb) i))])) rfl rfl (hb hby d8_26)) ?_
    show ownGo p.tables e below T240 (mkF m 27 #[.val (.ref x0), .val (.ref x1), .val (.ref x2), .val (.long (own_acc (own_x sv lo kb) i)), .second, .val (.int (Int32.ofNat i))] [(.int (sv i)), (.long (own_acc (own_x sv lo kb) i))]) _
    refine ownGo.st (fun _ k => XS.i2l X240.here hx rfl (hb hby d8_27) rfl k) ?_
    show ownGo p.tables e below T240 (mkF m 28 #[.val (.ref x0), .val (.ref x1), .val (.ref x2), .val (.long (own_acc (own_x sv lo kb) i)), .second, .val (.int (Int32.ofNat i))] [(.long ((sv i).toInt64)), (.long (own_acc (own_x sv lo kb) i))]) _
    refine ownGo.st (fun _ k => XS.aloadN X240.here hx rfl (hb hby d8_28) rfl rfl k) ?_
    show ownGo p.tables e below T240 (mkF m 29 #[.val (.ref x0), .val (.ref x1), .val (.ref x2), .val (.long (own_acc (own_x sv lo kb) i)), .second, .val (.int (Int32.ofNat i))] [(.ref x0), (.long ((sv i).toInt64)), (.long (own_acc (own_x sv lo kb) i))]) _
    obtain ⟨T242, X242, e242, st242⟩ := getF X240 hx hZ hown (host := "") (Or.inl (own_at hw 28 rfl)) Via.refl e240 G1 (g := (mkF m 29 #[.val (.ref x0), .val (.ref x1), .val (.ref x2), .val (.long (own_acc (own_x sv lo kb) i)), .second, .val (.int (Int32.ofNat i))] [(.ref x0), (.long ((sv i).toInt64)), (.long (own_acc (own_x sv lo kb) i))])) rfl rfl (hb hby d8_29)
    refine ownGo.st (st242) ?_
    show ownGo p.tables e below T242 (mkF m 32 #[.val (.ref x0), .val (.ref x1), .val (.ref x2), .val (.long (own_acc (own_x sv lo kb) i)), .second, .val (.int (Int32.ofNat i))] [(.ref lb), (.long ((sv i).toInt64)), (.long (own_acc (own_x sv lo kb) i))]) _
    refine ownGo.st (fun _ k => XS.iload X242.here hx rfl (hb hby d8_32) rfl k) ?_
    show ownGo p.tables e below T242 (mkF m 34 #[.val (.ref x0), .val (.ref x1), .val (.ref x2), .val (.long (own_acc (own_x sv lo kb) i)), .second, .val (.int (Int32.ofNat i))] [(.int (Int32.ofNat i)), (.ref lb), (.long ((sv i).toInt64)), (.long (own_acc (own_x sv lo kb) i))]) _
    refine ownGo.st (own_iaload X242 hx hZ e242 VL (i := i) (v := (lo i)) rfl (by omega) rfl (g := (mkF m 34 #[.val (.ref x0), .val (.ref x1), .val (.ref x2), .val (.long (own_acc (own_x sv lo kb) i)), .second, .val (.int (Int32.ofNat i))] [(.int (Int32.ofNat i)), (.ref lb), (.long ((sv i).toInt64)), (.long (own_acc (own_x sv lo kb) i))])) rfl rfl (hb hby d8_34)) ?_
    show ownGo p.tables e below T242 (mkF m 35 #[.val (.ref x0), .val (.ref x1), .val (.ref x2), .val (.long (own_acc (own_x sv lo kb) i)), .second, .val (.int (Int32.ofNat i))] [(.int (lo i)), (.long ((sv i).toInt64)), (.long (own_acc (own_x sv lo kb) i))]) _
    refine ownGo.st (fun _ k => XS.i2l X242.here hx rfl (hb hby d8_35) rfl k) ?_
    show ownGo p.tables e below T242 (mkF m 36 #[.val (.ref x0), .val (.ref x1), .val (.ref x2), .val (.long (own_acc (own_x sv lo kb) i)), .second, .val (.int (Int32.ofNat i))] [(.long ((lo i).toInt64)), (.long ((sv i).toInt64)), (.long (own_acc (own_x sv lo kb) i))]) _
    refine ownGo.st (fun _ k => XS.lsub X242.here hx rfl (hb hby d8_36) rfl k) ?_
    show ownGo p.tables e below T242 (mkF m 37 #[.val (.ref x0), .val (.ref x1), .val (.ref x2), .val (.long (own_acc (own_x sv lo kb) i)), .second, .val (.int (Int32.ofNat i))] [(.long (((sv i).toInt64) - ((lo i).toInt64))), (.long (own_acc (own_x sv lo kb) i))]) _
    refine ownGo.st (fun _ k => XS.aloadN X242.here hx rfl (hb hby d8_37) rfl rfl k) ?_
    show ownGo p.tables e below T242 (mkF m 38 #[.val (.ref x0), .val (.ref x1), .val (.ref x2), .val (.long (own_acc (own_x sv lo kb) i)), .second, .val (.int (Int32.ofNat i))] [(.ref x0), (.long (((sv i).toInt64) - ((lo i).toInt64))), (.long (own_acc (own_x sv lo kb) i))]) _
    obtain ⟨T243, X243, e243, st243⟩ := getF X242 hx hZ hown (host := "") (Or.inl (own_at hw 32 rfl)) Via.refl e242 G3 (g := (mkF m 38 #[.val (.ref x0), .val (.ref x1), .val (.ref x2), .val (.long (own_acc (own_x sv lo kb) i)), .second, .val (.int (Int32.ofNat i))] [(.ref x0), (.long (((sv i).toInt64) - ((lo i).toInt64))), (.long (own_acc (own_x sv lo kb) i))])) rfl rfl (hb hby d8_38)
    refine ownGo.st (st243) ?_
    show ownGo p.tables e below T243 (mkF m 41 #[.val (.ref x0), .val (.ref x1), .val (.ref x2), .val (.long (own_acc (own_x sv lo kb) i)), .second, .val (.int (Int32.ofNat i))] [(.ref sh), (.long (((sv i).toInt64) - ((lo i).toInt64))), (.long (own_acc (own_x sv lo kb) i))]) _
    refine ownGo.st (fun _ k => XS.iload X243.here hx rfl (hb hby d8_41) rfl k) ?_
    show ownGo p.tables e below T243 (mkF m 43 #[.val (.ref x0), .val (.ref x1), .val (.ref x2), .val (.long (own_acc (own_x sv lo kb) i)), .second, .val (.int (Int32.ofNat i))] [(.int (Int32.ofNat i)), (.ref sh), (.long (((sv i).toInt64) - ((lo i).toInt64))), (.long (own_acc (own_x sv lo kb) i))]) _
    refine ownGo.st (own_iaload X243 hx hZ e243 Vs (i := i) (v := (Int32.ofNat (own_st kb i % 64))) rfl (by omega) rfl (g := (mkF m 43 #[.val (.ref x0), .val (.ref x1), .val (.ref x2), .val (.long (own_acc (own_x sv lo kb) i)), .second, .val (.int (Int32.ofNat i))] [(.int (Int32.ofNat i)), (.ref sh), (.long (((sv i).toInt64) - ((lo i).toInt64))), (.long (own_acc (own_x sv lo kb) i))])) rfl rfl (hb hby d8_43)) ?_
    show ownGo p.tables e below T243 (mkF m 44 #[.val (.ref x0), .val (.ref x1), .val (.ref x2), .val (.long (own_acc (own_x sv lo kb) i)), .second, .val (.int (Int32.ofNat i))] [(.int (Int32.ofNat (own_st kb i % 64))), (.long (((sv i).toInt64) - ((lo i).toInt64))), (.long (own_acc (own_x sv lo kb) i))]) _
    refine ownGo.st (fun _ k => XS.lshl X243.here hx rfl (hb hby d8_44) rfl k) ?_
    show ownGo p.tables e below T243 (mkF m 45 #[.val (.ref x0), .val (.ref x1), .val (.ref x2), .val (.long (own_acc (own_x sv lo kb) i)), .second, .val (.int (Int32.ofNat i))] [(.long (own_lshl (((sv i).toInt64) - ((lo i).toInt64)) (Int32.ofNat (own_st kb i % 64)))), (.long (own_acc (own_x sv lo kb) i))]) _
    refine ownGo.st (fun _ k => XS.lor X243.here hx rfl (hb hby d8_45) rfl k) ?_
    show ownGo p.tables e below T243 (mkF m 46 #[.val (.ref x0), .val (.ref x1), .val (.ref x2), .val (.long (own_acc (own_x sv lo kb) i)), .second, .val (.int (Int32.ofNat i))] [(.long ((own_acc (own_x sv lo kb) i) ||| (own_lshl (((sv i).toInt64) - ((lo i).toInt64)) (Int32.ofNat (own_st kb i % 64)))))]) _
    refine ownGo.st (fun _ k => XS.lstoreN X243.here hx rfl (hb hby d8_46) rfl (l' := #[.val (.ref x0), .val (.ref x1), .val (.ref x2), .val (.long ((own_acc (own_x sv lo kb) i) ||| (own_lshl (((sv i).toInt64) - ((lo i).toInt64)) (Int32.ofNat (own_st kb i % 64))))), .second, .val (.int (Int32.ofNat i))]) rfl k) ?_
    show ownGo p.tables e below T243 (mkF m 47 #[.val (.ref x0), .val (.ref x1), .val (.ref x2), .val (.long ((own_acc (own_x sv lo kb) i) ||| (own_lshl (((sv i).toInt64) - ((lo i).toInt64)) (Int32.ofNat (own_st kb i % 64))))), .second, .val (.int (Int32.ofNat i))] []) _
    refine ownGo.st (fun _ k => XS.iinc X243.here hx rfl (hb hby d8_47) rfl (l' := #[.val (.ref x0), .val (.ref x1), .val (.ref x2), .val (.long ((own_acc (own_x sv lo kb) i) ||| (own_lshl (((sv i).toInt64) - ((lo i).toInt64)) (Int32.ofNat (own_st kb i % 64))))), .second, .val (.int ((Int32.ofNat i) + (1 : Int32)))]) rfl k) ?_
    show ownGo p.tables e below T243 (mkF m 50 #[.val (.ref x0), .val (.ref x1), .val (.ref x2), .val (.long ((own_acc (own_x sv lo kb) i) ||| (own_lshl (((sv i).toInt64) - ((lo i).toInt64)) (Int32.ofNat (own_st kb i % 64))))), .second, .val (.int ((Int32.ofNat i) + (1 : Int32)))] []) _
    refine ownGo.st (fun _ k => XS.goto X243.here hx rfl (pc0 := 50) (pc' := 13) rfl (hb hby d8_50) (by decide) (by decide) k) ?_
    show ownGo p.tables e below T243 (mkF m 13 #[.val (.ref x0), .val (.ref x1), .val (.ref x2), .val (.long ((own_acc (own_x sv lo kb) i) ||| (own_lshl (((sv i).toInt64) - ((lo i).toInt64)) (Int32.ofNat (own_st kb i % 64))))), .second, .val (.int ((Int32.ofNat i) + (1 : Int32)))] []) _
    rw [show Int32.ofNat i + (1 : Int32) = Int32.ofNat (i + 1) from (Int32.ofNat_add i 1).symm]
    exact ih (i + 1) (by omega) T243 X243 e243
set_option maxRecDepth 65536 in
set_option maxHeartbeats 40000000 in
theorem own_loopP2 {p : Program} {l : Launch} {e : Env} {s : State} {m : MethodId} {args : Array Value} {below : List Frame} {meth : Method} {c : Code} {Z : State} {a0 : Array Value} {h0 : Heap} {n0 : Nat} (hx : p.tables.exec = Jvm.exec) (hZ : Z.Warmed39 s.vm) (hw : ∀ d ∈ tables_1, d.before a0 Z = true) (hby : c.code = prog_49_method_7_code) (hml : c.maxLocals = 6) (hown : s.vm.findClass "com/example/ningbo/ningbo/engine/StateLayout" = some m.cls) (hret : meth.sig.returnType = none) (hlk : meth.locks = false) (x0 x1 x2 lb w sh k : Addr) (sv lo : Nat → Int32) (kb : Nat → Nat) (wv : Nat → Int64) (hk32 : ∀ i, i < 3 → kb i ≤ 32) (hw2 : own_wds kb 3 = 2) (gz_x2 : n0 ≤ x2) (ne_x0 : x0 ≠ x2) (ne_x1 : x1 ≠ x2) (ne_lb : lb ≠ x2) (ne_w : w ≠ x2) (ne_sh : sh ≠ x2) (ne_k : k ≠ x2) :
    ∀ (kk i : Nat), i + kk = 3 → ∀ (T0 : State) (h : Heap) (locs : List Loc) (f : Nat → Value), Stand p l e R8 s m args below meth c T0 locs 0 0 → T0.heap = h → Fr n0 locs → n0 ≤ h.size → Keep h0 h [x2] → Fld Z h x0 "com/example/ningbo/ningbo/engine/StateLayout" "width" "I" (.int (3 : Int32)) → Fld Z h x0 "com/example/ningbo/ningbo/engine/StateLayout" "words" "I" (.int (2 : Int32)) → Fld Z h x0 "com/example/ningbo/ningbo/engine/StateLayout" "lowerBounds" "[I" (.ref lb) → Fld Z h x0 "com/example/ningbo/ningbo/engine/StateLayout" "wordOf" "[I" (.ref w) → Fld Z h x0 "com/example/ningbo/ningbo/engine/StateLayout" "shiftOf" "[I" (.ref sh) → Fld Z h x0 "com/example/ningbo/ningbo/engine/StateLayout" "maskOf" "[J" (.ref k) → ownA Z h lb .int 3 (fun i => .int (lo i)) → ownA Z h w .int 3 (fun i => .int (Int32.ofNat (own_st kb i / 64))) → ownA Z h sh .int 3 (fun i => .int (Int32.ofNat (own_st kb i % 64))) → ownA Z h k .long 3 (fun i => .long (own_mk (kb i))) → ownA Z h x1 .int 3 (fun i => .int (sv i)) → ownA Z h x2 .long 2 f → (∀ j, j < 2 → f j = .long (own_pk (own_x sv lo kb) kb i j)) →
      ownGo p.tables e below T0 (mkF m 80 #[.val (.ref x0), .val (.ref x1), .val (.ref x2), .val (.int (Int32.ofNat i)), .unset, .unset] []) (ownDone s (ownPacked Z x2 (own_packed (own_x sv lo kb) kb wv) h0 n0) 0 0) := by
  intro kk
  induction kk with
  | zero =>
    intro i hi T0 h locs f X0 e0 N0 Z1 K0 F1 F2 G1 G2 G3 G4 VL Vw Vs Vk V1 V2 hf
    obtain rfl : i = 3 := by omega
    refine ownGo.st (fun _ k => XS.iloadN X0.here hx rfl (hb hby d8_80) rfl k) ?_
    show ownGo p.tables e below T0 (mkF m 81 #[.val (.ref x0), .val (.ref x1), .val (.ref x2), .val (.int (Int32.ofNat 3)), .unset, .unset] [(.int (Int32.ofNat 3))]) _
    refine ownGo.st (fun _ k => XS.aloadN X0.here hx rfl (hb hby d8_81) rfl rfl k) ?_
    show ownGo p.tables e below T0 (mkF m 82 #[.val (.ref x0), .val (.ref x1), .val (.ref x2), .val (.int (Int32.ofNat 3)), .unset, .unset] [(.ref x0), (.int (Int32.ofNat 3))]) _
    obtain ⟨T244, X244, e244, st244⟩ := getF X0 hx hZ hown (host := "") (Or.inl (own_at hw 17 rfl)) Via.refl e0 F1 (g := (mkF m 82 #[.val (.ref x0), .val (.ref x1), .val (.ref x2), .val (.int (Int32.ofNat 3)), .unset, .unset] [(.ref x0), (.int (Int32.ofNat 3))])) rfl rfl (hb hby d8_82)
    refine ownGo.st (st244) ?_
    show ownGo p.tables e below T244 (mkF m 85 #[.val (.ref x0), .val (.ref x1), .val (.ref x2), .val (.int (Int32.ofNat 3)), .unset, .unset] [(.int (3 : Int32)), (.int (Int32.ofNat 3))]) _
    have hc245 : ¬ ((Int32.ofNat 3) < (3 : Int32)) := Int32.lt_irrefl
    refine ownGo.st (fun _ k => XS.icmpYes X244.here hx rfl (pc0 := 85) (pc' := 124) rfl (hb hby d8_85) rfl (flt hc245).2.1 (by decide) (by decide) k) ?_
    show ownGo p.tables e below T244 (mkF m 124 #[.val (.ref x0), .val (.ref x1), .val (.ref x2), .val (.int (Int32.ofNat 3)), .unset, .unset] []) _
    exact own_retV X244 hx hlk hret (hb hby d8_124) ⟨rfl, N0, by rw [e244]; exact K0, (by rw [e244]; exact V2 : ownA Z _ x2 .long 2 _).eq (fun j hj => (hf j hj).trans (congrArg Value.long (if_neg (fun y => by rw [hw2] at y; cases y) : own_packed (own_x sv lo kb) kb wv j = _).symm))⟩ (by decide) (by decide)
  | succ kk ih =>
    intro i hi T0 h locs f X0 e0 N0 Z1 K0 F1 F2 G1 G2 G3 G4 VL Vw Vs Vk V1 V2 hf
    have s64 := own_st64 kb hk32 i (by omega)
    refine ownGo.st (fun _ k => XS.iloadN X0.here hx rfl (hb hby d8_80) rfl k) ?_
    show ownGo p.tables e below T0 (mkF m 81 #[.val (.ref x0), .val (.ref x1), .val (.ref x2), .val (.int (Int32.ofNat i)), .unset, .unset] [(.int (Int32.ofNat i))]) _
    refine ownGo.st (fun _ k => XS.aloadN X0.here hx rfl (hb hby d8_81) rfl rfl k) ?_
    show ownGo p.tables e below T0 (mkF m 82 #[.val (.ref x0), .val (.ref x1), .val (.ref x2), .val (.int (Int32.ofNat i)), .unset, .unset] [(.ref x0), (.int (Int32.ofNat i))]) _
    obtain ⟨T246, X246, e246, st246⟩ := getF X0 hx hZ hown (host := "") (Or.inl (own_at hw 17 rfl)) Via.refl e0 F1 (g := (mkF m 82 #[.val (.ref x0), .val (.ref x1), .val (.ref x2), .val (.int (Int32.ofNat i)), .unset, .unset] [(.ref x0), (.int (Int32.ofNat i))])) rfl rfl (hb hby d8_82)
    refine ownGo.st (st246) ?_
    show ownGo p.tables e below T246 (mkF m 85 #[.val (.ref x0), .val (.ref x1), .val (.ref x2), .val (.int (Int32.ofNat i)), .unset, .unset] [(.int (3 : Int32)), (.int (Int32.ofNat i))]) _
    have hc247 : (Int32.ofNat i) < (3 : Int32) := own_ltn (n := 3) (by omega) (by decide)
    refine ownGo.st (fun _ k => XS.icmpNo X246.here hx rfl (hb hby d8_85) rfl (tlt hc247).2.1 k) ?_
    show ownGo p.tables e below T246 (mkF m 88 #[.val (.ref x0), .val (.ref x1), .val (.ref x2), .val (.int (Int32.ofNat i)), .unset, .unset] []) _
    refine ownGo.st (fun _ k => XS.aloadN X246.here hx rfl (hb hby d8_88) rfl rfl k) ?_
    show ownGo p.tables e below T246 (mkF m 89 #[.val (.ref x0), .val (.ref x1), .val (.ref x2), .val (.int (Int32.ofNat i)), .unset, .unset] [(.ref x2)]) _
    refine ownGo.st (fun _ k => XS.aloadN X246.here hx rfl (hb hby d8_89) rfl rfl k) ?_
    show ownGo p.tables e below T246 (mkF m 90 #[.val (.ref x0), .val (.ref x1), .val (.ref x2), .val (.int (Int32.ofNat i)), .unset, .unset] [(.ref x0), (.ref x2)]) _
    obtain ⟨T248, X248, e248, st248⟩ := getF X246 hx hZ hown (host := "") (Or.inl (own_at hw 30 rfl)) Via.refl e246 G2 (g := (mkF m 90 #[.val (.ref x0), .val (.ref x1), .val (.ref x2), .val (.int (Int32.ofNat i)), .unset, .unset] [(.ref x0), (.ref x2)])) rfl rfl (hb hby d8_90)
    refine ownGo.st (st248) ?_
    show ownGo p.tables e below T248 (mkF m 93 #[.val (.ref x0), .val (.ref x1), .val (.ref x2), .val (.int (Int32.ofNat i)), .unset, .unset] [(.ref w), (.ref x2)]) _
    refine ownGo.st (fun _ k => XS.iloadN X248.here hx rfl (hb hby d8_93) rfl k) ?_
    show ownGo p.tables e below T248 (mkF m 94 #[.val (.ref x0), .val (.ref x1), .val (.ref x2), .val (.int (Int32.ofNat i)), .unset, .unset] [(.int (Int32.ofNat i)), (.ref w), (.ref x2)]) _
    refine ownGo.st (own_iaload X248 hx hZ e248 Vw (i := i) (v := (Int32.ofNat (own_st kb i / 64))) rfl (by omega) rfl (g := (mkF m 94 #[.val (.ref x0), .val (.ref x1), .val (.ref x2), .val (.int (Int32.ofNat i)), .unset, .unset] [(.int (Int32.ofNat i)), (.ref w), (.ref x2)])) rfl rfl (hb hby d8_94)) ?_
    show ownGo p.tables e below T248 (mkF m 95 #[.val (.ref x0), .val (.ref x1), .val (.ref x2), .val (.int (Int32.ofNat i)), .unset, .unset] [(.int (Int32.ofNat (own_st kb i / 64))), (.ref x2)]) _
    refine ownGo.st (fun _ k => Jvm.Free.XT.dup2 X248.here hx rfl (hb hby d8_95) rfl rfl rfl k) ?_
    show ownGo p.tables e below T248 (mkF m 96 #[.val (.ref x0), .val (.ref x1), .val (.ref x2), .val (.int (Int32.ofNat i)), .unset, .unset] [(.int (Int32.ofNat (own_st kb i / 64))), (.ref x2), (.int (Int32.ofNat (own_st kb i / 64))), (.ref x2)]) _
    refine ownGo.st (own_laload X248 hx hZ e248 V2 (i := (own_st kb i / 64)) (v := (own_pk (own_x sv lo kb) kb i (own_st kb i / 64))) rfl (by omega) (hf _ (by omega)) (g := (mkF m 96 #[.val (.ref x0), .val (.ref x1), .val (.ref x2), .val (.int (Int32.ofNat i)), .unset, .unset] [(.int (Int32.ofNat (own_st kb i / 64))), (.ref x2), (.int (Int32.ofNat (own_st kb i / 64))), (.ref x2)])) rfl rfl (hb hby d8_96)) ?_
    show ownGo p.tables e below T248 (mkF m 97 #[.val (.ref x0), .val (.ref x1), .val (.ref x2), .val (.int (Int32.ofNat i)), .unset, .unset] [(.long (own_pk (own_x sv lo kb) kb i (own_st kb i / 64))), (.int (Int32.ofNat (own_st kb i / 64))), (.ref x2)]) _
    refine ownGo.st (fun _ k => XS.aloadN X248.here hx rfl (hb hby d8_97) rfl rfl k) ?_
    show ownGo p.tables e below T248 (mkF m 98 #[.val (.ref x0), .val (.ref x1), .val (.ref x2), .val (.int (Int32.ofNat i)), .unset, .unset] [(.ref x1), (.long (own_pk (own_x sv lo kb) kb i (own_st kb i / 64))), (.int (Int32.ofNat (own_st kb i / 64))), (.ref x2)]) _
    refine ownGo.st (fun _ k => XS.iloadN X248.here hx rfl (hb hby d8_98) rfl k) ?_
    show ownGo p.tables e below T248 (mkF m 99 #[.val (.ref x0), .val (.ref x1), .val (.ref x2), .val (.int (Int32.ofNat i)), .unset, .unset] [(.int (Int32.ofNat i)), (.ref x1), (.long (own_pk (own_x sv lo kb) kb i (own_st kb i / 64))), (.int (Int32.ofNat (own_st kb i / 64))), (.ref x2)]) _
    refine ownGo.st (own_iaload X248 hx hZ e248 V1 (i := i) (v := (sv i)) rfl (by omega) rfl (g := (mkF m 99 #[.val (.ref x0), .val (.ref x1), .val (.ref x2), .val (.int (Int32.ofNat i)), .unset, .unset] [(.int (Int32.ofNat i)), (.ref x1), (.long (own_pk (own_x sv lo kb) kb i (own_st kb i / 64))), (.int (Int32.ofNat (own_st kb i / 64))), (.ref x2)])) rfl rfl (hb hby d8_99)) ?_
    show ownGo p.tables e below T248 (mkF m 100 #[.val (.ref x0), .val (.ref x1), .val (.ref x2), .val (.int (Int32.ofNat i)), .unset, .unset] [(.int (sv i)), (.long (own_pk (own_x sv lo kb) kb i (own_st kb i / 64))), (.int (Int32.ofNat (own_st kb i / 64))), (.ref x2)]) _
    refine ownGo.st (fun _ k => XS.i2l X248.here hx rfl (hb hby d8_100) rfl k) ?_
    show ownGo p.tables e below T248 (mkF m 101 #[.val (.ref x0), .val (.ref x1), .val (.ref x2), .val (.int (Int32.ofNat i)), .unset, .unset] [(.long ((sv i).toInt64)), (.long (own_pk (own_x sv lo kb) kb i (own_st kb i / 64))), (.int (Int32.ofNat (own_st kb i / 64))), (.ref x2)]) _
    refine ownGo.st (fun _ k => XS.aloadN X248.here hx rfl (hb hby d8_101) rfl rfl k) ?_
    show ownGo p.tables e below T248 (mkF m 102 #[.val (.ref x0), .val (.ref x1), .val (.ref x2), .val (.int (Int32.ofNat i)), .unset, .unset] [(.ref x0), (.long ((sv i).toInt64)), (.long (own_pk (own_x sv lo kb) kb i (own_st kb i / 64))), (.int (Int32.ofNat (own_st kb i / 64))), (.ref x2)]) _
    obtain ⟨T249, X249, e249, st249⟩ := getF X248 hx hZ hown (host := "") (Or.inl (own_at hw 28 rfl)) Via.refl e248 G1 (g := (mkF m 102 #[.val (.ref x0), .val (.ref x1), .val (.ref x2), .val (.int (Int32.ofNat i)), .unset, .unset] [(.ref x0), (.long ((sv i).toInt64)), (.long (own_pk (own_x sv lo kb) kb i (own_st kb i / 64))), (.int (Int32.ofNat (own_st kb i / 64))), (.ref x2)])) rfl rfl (hb hby d8_102)
    refine ownGo.st (st249) ?_
    show ownGo p.tables e below T249 (mkF m 105 #[.val (.ref x0), .val (.ref x1), .val (.ref x2), .val (.int (Int32.ofNat i)), .unset, .unset] [(.ref lb), (.long ((sv i).toInt64)), (.long (own_pk (own_x sv lo kb) kb i (own_st kb i / 64))), (.int (Int32.ofNat (own_st kb i / 64))), (.ref x2)]) _
    refine ownGo.st (fun _ k => XS.iloadN X249.here hx rfl (hb hby d8_105) rfl k) ?_
    show ownGo p.tables e below T249 (mkF m 106 #[.val (.ref x0), .val (.ref x1), .val (.ref x2), .val (.int (Int32.ofNat i)), .unset, .unset] [(.int (Int32.ofNat i)), (.ref lb), (.long ((sv i).toInt64)), (.long (own_pk (own_x sv lo kb) kb i (own_st kb i / 64))), (.int (Int32.ofNat (own_st kb i / 64))), (.ref x2)]) _
    refine ownGo.st (own_iaload X249 hx hZ e249 VL (i := i) (v := (lo i)) rfl (by omega) rfl (g := (mkF m 106 #[.val (.ref x0), .val (.ref x1), .val (.ref x2), .val (.int (Int32.ofNat i)), .unset, .unset] [(.int (Int32.ofNat i)), (.ref lb), (.long ((sv i).toInt64)), (.long (own_pk (own_x sv lo kb) kb i (own_st kb i / 64))), (.int (Int32.ofNat (own_st kb i / 64))), (.ref x2)])) rfl rfl (hb hby d8_106)) ?_
    show ownGo p.tables e below T249 (mkF m 107 #[.val (.ref x0), .val (.ref x1), .val (.ref x2), .val (.int (Int32.ofNat i)), .unset, .unset] [(.int (lo i)), (.long ((sv i).toInt64)), (.long (own_pk (own_x sv lo kb) kb i (own_st kb i / 64))), (.int (Int32.ofNat (own_st kb i / 64))), (.ref x2)]) _
    refine ownGo.st (fun _ k => XS.i2l X249.here hx rfl (hb hby d8_107) rfl k) ?_
    show ownGo p.tables e below T249 (mkF m 108 #[.val (.ref x0), .val (.ref x1), .val (.ref x2), .val (.int (Int32.ofNat i)), .unset, .unset] [(.long ((lo i).toInt64)), (.long ((sv i).toInt64)), (.long (own_pk (own_x sv lo kb) kb i (own_st kb i / 64))), (.int (Int32.ofNat (own_st kb i / 64))), (.ref x2)]) _
    refine ownGo.st (fun _ k => XS.lsub X249.here hx rfl (hb hby d8_108) rfl k) ?_
    show ownGo p.tables e below T249 (mkF m 109 #[.val (.ref x0), .val (.ref x1), .val (.ref x2), .val (.int (Int32.ofNat i)), .unset, .unset] [(.long (((sv i).toInt64) - ((lo i).toInt64))), (.long (own_pk (own_x sv lo kb) kb i (own_st kb i / 64))), (.int (Int32.ofNat (own_st kb i / 64))), (.ref x2)]) _
    refine ownGo.st (fun _ k => XS.aloadN X249.here hx rfl (hb hby d8_109) rfl rfl k) ?_
    show ownGo p.tables e below T249 (mkF m 110 #[.val (.ref x0), .val (.ref x1), .val (.ref x2), .val (.int (Int32.ofNat i)), .unset, .unset] [(.ref x0), (.long (((sv i).toInt64) - ((lo i).toInt64))), (.long (own_pk (own_x sv lo kb) kb i (own_st kb i / 64))), (.int (Int32.ofNat (own_st kb i / 64))), (.ref x2)]) _
    obtain ⟨T250, X250, e250, st250⟩ := getF X249 hx hZ hown (host := "") (Or.inl (own_at hw 32 rfl)) Via.refl e249 G3 (g := (mkF m 110 #[.val (.ref x0), .val (.ref x1), .val (.ref x2), .val (.int (Int32.ofNat i)), .unset, .unset] [(.ref x0), (.long (((sv i).toInt64) - ((lo i).toInt64))), (.long (own_pk (own_x sv lo kb) kb i (own_st kb i / 64))), (.int (Int32.ofNat (own_st kb i / 64))), (.ref x2)])) rfl rfl (hb hby d8_110)
    refine ownGo.st (st250) ?_
    show ownGo p.tables e below T250 (mkF m 113 #[.val (.ref x0), .val (.ref x1), .val (.ref x2), .val (.int (Int32.ofNat i)), .unset, .unset] [(.ref sh), (.long (((sv i).toInt64) - ((lo i).toInt64))), (.long (own_pk (own_x sv lo kb) kb i (own_st kb i / 64))), (.int (Int32.ofNat (own_st kb i / 64))), (.ref x2)]) _
    refine ownGo.st (fun _ k => XS.iloadN X250.here hx rfl (hb hby d8_113) rfl k) ?_
    show ownGo p.tables e below T250 (mkF m 114 #[.val (.ref x0), .val (.ref x1), .val (.ref x2), .val (.int (Int32.ofNat i)), .unset, .unset] [(.int (Int32.ofNat i)), (.ref sh), (.long (((sv i).toInt64) - ((lo i).toInt64))), (.long (own_pk (own_x sv lo kb) kb i (own_st kb i / 64))), (.int (Int32.ofNat (own_st kb i / 64))), (.ref x2)]) _
    refine ownGo.st (own_iaload X250 hx hZ e250 Vs (i := i) (v := (Int32.ofNat (own_st kb i % 64))) rfl (by omega) rfl (g := (mkF m 114 #[.val (.ref x0), .val (.ref x1), .val (.ref x2), .val (.int (Int32.ofNat i)), .unset, .unset] [(.int (Int32.ofNat i)), (.ref sh), (.long (((sv i).toInt64) - ((lo i).toInt64))), (.long (own_pk (own_x sv lo kb) kb i (own_st kb i / 64))), (.int (Int32.ofNat (own_st kb i / 64))), (.ref x2)])) rfl rfl (hb hby d8_114)) ?_
    show ownGo p.tables e below T250 (mkF m 115 #[.val (.ref x0), .val (.ref x1), .val (.ref x2), .val (.int (Int32.ofNat i)), .unset, .unset] [(.int (Int32.ofNat (own_st kb i % 64))), (.long (((sv i).toInt64) - ((lo i).toInt64))), (.long (own_pk (own_x sv lo kb) kb i (own_st kb i / 64))), (.int (Int32.ofNat (own_st kb i / 64))), (.ref x2)]) _
    refine ownGo.st (fun _ k => XS.lshl X250.here hx rfl (hb hby d8_115) rfl k) ?_
    show ownGo p.tables e below T250 (mkF m 116 #[.val (.ref x0), .val (.ref x1), .val (.ref x2), .val (.int (Int32.ofNat i)), .unset, .unset] [(.long (own_lshl (((sv i).toInt64) - ((lo i).toInt64)) (Int32.ofNat (own_st kb i % 64)))), (.long (own_pk (own_x sv lo kb) kb i (own_st kb i / 64))), (.int (Int32.ofNat (own_st kb i / 64))), (.ref x2)]) _
    refine ownGo.st (fun _ k => XS.lor X250.here hx rfl (hb hby d8_116) rfl k) ?_
    show ownGo p.tables e below T250 (mkF m 117 #[.val (.ref x0), .val (.ref x1), .val (.ref x2), .val (.int (Int32.ofNat i)), .unset, .unset] [(.long ((own_pk (own_x sv lo kb) kb i (own_st kb i / 64)) ||| (own_lshl (((sv i).toInt64) - ((lo i).toInt64)) (Int32.ofNat (own_st kb i % 64))))), (.int (Int32.ofNat (own_st kb i / 64))), (.ref x2)]) _
    obtain ⟨T251, h251, X251, e251, W251, V_x2_251, st251⟩ := own_lastore X250 hx hZ e250 V2 (i := (own_st kb i / 64)) rfl (by omega) (g := (mkF m 117 #[.val (.ref x0), .val (.ref x1), .val (.ref x2), .val (.int (Int32.ofNat i)), .unset, .unset] [(.long ((own_pk (own_x sv lo kb) kb i (own_st kb i / 64)) ||| (own_lshl (((sv i).toInt64) - ((lo i).toInt64)) (Int32.ofNat (own_st kb i % 64))))), (.int (Int32.ofNat (own_st kb i / 64))), (.ref x2)])) rfl rfl (hb hby d8_117)
    have F1_252 := F1.other W251 (Or.inl ne_x0)
    have F2_253 := F2.other W251 (Or.inl ne_x0)
    have G1_254 := G1.other W251 (Or.inl ne_x0)
    have G2_255 := G2.other W251 (Or.inl ne_x0)
    have G3_256 := G3.other W251 (Or.inl ne_x0)
    have G4_257 := G4.other W251 (Or.inl ne_x0)
    have VL_258 := VL.other W251 ne_lb
    have Vw_259 := Vw.other W251 ne_w
    have Vs_260 := Vs.other W251 ne_sh
    have Vk_261 := Vk.other W251 ne_k
    have V1_262 := V1.other W251 ne_x1
    have N251 := Fr.snoc X251 N0 gz_x2
    have Z251 : n0 ≤ h251.size := Nat.le_trans Z1 (Nat.le_of_eq W251.size.symm)
    have K251 := K0.wr W251 (Or.inl (List.mem_singleton.mpr rfl))
    refine ownGo.st (st251) ?_
    show ownGo p.tables e below T251 (mkF m 118 #[.val (.ref x0), .val (.ref x1), .val (.ref x2), .val (.int (Int32.ofNat i)), .unset, .unset] []) _
    refine ownGo.st (fun _ k => XS.iinc X251.here hx rfl (hb hby d8_118) rfl (l' := #[.val (.ref x0), .val (.ref x1), .val (.ref x2), .val (.int ((Int32.ofNat i) + (1 : Int32))), .unset, .unset]) rfl k) ?_
    show ownGo p.tables e below T251 (mkF m 121 #[.val (.ref x0), .val (.ref x1), .val (.ref x2), .val (.int ((Int32.ofNat i) + (1 : Int32))), .unset, .unset] []) _
    refine ownGo.st (fun _ k => XS.goto X251.here hx rfl (pc0 := 121) (pc' := 80) rfl (hb hby d8_121) (by decide) (by decide) k) ?_
    show ownGo p.tables e below T251 (mkF m 80 #[.val (.ref x0), .val (.ref x1), .val (.ref x2), .val (.int ((Int32.ofNat i) + (1 : Int32))), .unset, .unset] []) _
    rw [show Int32.ofNat i + (1 : Int32) = Int32.ofNat (i + 1) from (Int32.ofNat_add i 1).symm]
    exact ih (i + 1) (by omega) T251 h251 _ _ X251 e251 N251 Z251 K251 F1_252 F2_253 G1_254 G2_255 G3_256 G4_257 VL_258 Vw_259 Vs_260 Vk_261 V1_262 V_x2_251 (fun j hj => by
      by_cases y : j = own_st kb i / 64
      · subst y; exact own_up_hit.trans (congrArg Value.long (if_pos rfl : own_pk (own_x sv lo kb) kb (i + 1) (own_st kb i / 64) = _).symm)
      · exact (own_up_miss y).trans ((hf j hj).trans (congrArg Value.long (if_neg y : own_pk (own_x sv lo kb) kb (i + 1) j = _).symm)))
theorem pn_8 : plainName "com/example/ningbo/ningbo/engine/StateLayout" = true := by first | (simp [plainName, overriddenIn]; done) | decide +kernel
theorem ef_8 (m : MethodId) (x0 : Addr) (x1 : Addr) (x2 : Addr) : entryFrame m #[(.ref x0), (.ref x1), (.ref x2)] 6 = mkF m 0 #[.val (.ref x0), .val (.ref x1), .val (.ref x2), .unset, .unset, .unset] [] := by first | (simp [entryFrame, mkF, argsToLocals, Value.category]; done) | rfl
set_option maxRecDepth 65536 in
set_option maxHeartbeats 40000000 in
theorem rm8 (l : Launch) (Z : State) (a0 : Array Value) (hw : ∀ d ∈ tables_1, d.before a0 Z = true) (x0 x1 x2 A B : Addr) (sv lo : Nat → Int32) (kb : Nat → Nat) (wv : Nat → Int64) (h0 : Heap) (n0 : Nat) (Z0 : n0 ≤ h0.size) (gz_x2 : n0 ≤ x2) (hne : x1 ≠ x2) (far : x2 < A ∨ B ≤ x2) (hk32 : ∀ i, i < 3 → kb i ≤ 32) (Y : ownLay Z h0 A B x0 3 lo kb) (V1 : ownA Z h0 x1 .int 3 (fun i => .int (sv i))) (V2 : ownA Z h0 x2 .long 2 (fun j => .long (wv j))) :
    MetFree l (⟨"com/example/ningbo/ningbo/engine/StateLayout", "pack", "([I[J)V"⟩ : MethodName) (head1 [Jvm.Cond.code (⟨"com/example/ningbo/ningbo/engine/StateLayout", "pack", "([I[J)V"⟩ : MethodName) prog_49_method_7_code 6 none] R8) (fun a U => a = #[(.ref x0), (.ref x1), (.ref x2)] ∧ Z.Warmed39 U.vm ∧ U.heap = h0) (fun _ _ _ _ _ => True) (fun _ U o U' => ∃ v L, o = .returned v ∧ ownPacked Z x2 (own_packed (own_x sv lo kb) kb wv) h0 n0 v U'.heap L ∧ FrameEnd U o U' L R8.cells R8.slots) := by
  refine MetFree.of_bodySF (plainFor_of_name pn_8) hisR ?_
  intro p e s m args below meth c s₁ Bd hml0 hP hK
  obtain ⟨rfl, hZ, hh⟩ := hP
  have hx := Bd.exec
  have hby := Bd.bytes
  have hml : c.maxLocals = 6 := hml0
  have hown : s.vm.findClass "com/example/ningbo/ningbo/engine/StateLayout" = some m.cls := findClass_of_methodNamed Bd.named
  have hnm := (name_of_methodNamed Bd.named Bd.method).1
  have hret := Bd.returns
  have hlk : meth.locks = false := BodyLoose.notSynchronized Bd
  have X0 : Stand p l e R8 s m #[(.ref x0), (.ref x1), (.ref x2)] below meth c s₁ [] 0 0 := Stand.of_body Bd
  have e0 : s₁.heap = h0 := by rw [← hh, Bd.state]; rfl
  have N0 := Fr.nil n0
  show ownGo p.tables e below s₁ (entryFrame m #[(.ref x0), (.ref x1), (.ref x2)] 6) (ownDone s (ownPacked Z x2 (own_packed (own_x sv lo kb) kb wv) h0 n0) R8.cells R8.slots)
  rw [ef_8 m x0 x1 x2]
  obtain ⟨o1, Ex, F1, F2, lb, w, sh, k, r1, r2, r3, r4, G1, G2, G3, G4, VL, Vw, Vs, Vk⟩ := Y
  have K0 : Keep h0 h0 [x2] := Keep.refl _ _
  have ne_x0 : x0 ≠ x2 := own_far o1 far
  have ne_x1 : x1 ≠ x2 := hne
  have ne_lb : lb ≠ x2 := own_far r1 far
  have ne_w : w ≠ x2 := own_far r2 far
  have ne_sh : sh ≠ x2 := own_far r3 far
  have ne_k : k ≠ x2 := own_far r4 far
  rcases (own_lay3 kb hk32).2.2 with ⟨-, -, hw1⟩ | ⟨-, -, hw2⟩
  · rw [hw1] at F2
    show ownGo p.tables e below s₁ (mkF m 0 #[.val (.ref x0), .val (.ref x1), .val (.ref x2), .unset, .unset, .unset] []) _
    refine ownGo.st (fun _ k => XS.aloadN X0.here hx rfl (hb hby d8_0) rfl rfl k) ?_
    show ownGo p.tables e below s₁ (mkF m 1 #[.val (.ref x0), .val (.ref x1), .val (.ref x2), .unset, .unset, .unset] [(.ref x0)]) _
    obtain ⟨T263, X263, e263, st263⟩ := getF X0 hx hZ hown (host := "") (Or.inl (own_at hw 49 rfl)) Via.refl e0 F2 (g := (mkF m 1 #[.val (.ref x0), .val (.ref x1), .val (.ref x2), .unset, .unset, .unset] [(.ref x0)])) rfl rfl (hb hby d8_1)
    refine ownGo.st (st263) ?_
    show ownGo p.tables e below T263 (mkF m 4 #[.val (.ref x0), .val (.ref x1), .val (.ref x2), .unset, .unset, .unset] [(.int (1 : Int32))]) _
    refine ownGo.st (fun _ k => XS.iconst X263.here hx rfl (hb hby d8_4)  k) ?_
    show ownGo p.tables e below T263 (mkF m 5 #[.val (.ref x0), .val (.ref x1), .val (.ref x2), .unset, .unset, .unset] [(.int (1 : Int32)), (.int (1 : Int32))]) _
    have hc264 : (1 : Int32) = (1 : Int32) := rfl
    refine ownGo.st (fun _ k => XS.icmpNo X263.here hx rfl (hb hby d8_5) rfl (teq hc264).2 k) ?_
    show ownGo p.tables e below T263 (mkF m 8 #[.val (.ref x0), .val (.ref x1), .val (.ref x2), .unset, .unset, .unset] []) _
    refine ownGo.st (fun _ k => XS.lconst X263.here hx rfl (hb hby d8_8)  k) ?_
    show ownGo p.tables e below T263 (mkF m 9 #[.val (.ref x0), .val (.ref x1), .val (.ref x2), .unset, .unset, .unset] [(.long (0 : Int64))]) _
    refine ownGo.st (fun _ k => XS.lstoreN X263.here hx rfl (hb hby d8_9) rfl (l' := #[.val (.ref x0), .val (.ref x1), .val (.ref x2), .val (.long (0 : Int64)), .second, .unset]) rfl k) ?_
    show ownGo p.tables e below T263 (mkF m 10 #[.val (.ref x0), .val (.ref x1), .val (.ref x2), .val (.long (0 : Int64)), .second, .unset] []) _
    refine ownGo.st (fun _ k => XS.iconst X263.here hx rfl (hb hby d8_10)  k) ?_
    show ownGo p.tables e below T263 (mkF m 11 #[.val (.ref x0), .val (.ref x1), .val (.ref x2), .val (.long (0 : Int64)), .second, .unset] [(.int (0 : Int32))]) _
    refine ownGo.st (fun _ k => XS.istore X263.here hx rfl (hb hby d8_11) rfl (l' := #[.val (.ref x0), .val (.ref x1), .val (.ref x2), .val (.long (0 : Int64)), .second, .val (.int (0 : Int32))]) rfl k) ?_
    show ownGo p.tables e below T263 (mkF m 13 #[.val (.ref x0), .val (.ref x1), .val (.ref x2), .val (.long (0 : Int64)), .second, .val (.int (0 : Int32))] []) _
    exact own_loopP1 hx hZ hw hby hml hown hret hlk N0 Z0 x0 x1 x2 lb w sh k sv lo kb wv hk32 K0 hw1 gz_x2 ne_x0 ne_x1 ne_lb ne_w ne_sh ne_k F1 F2 G1 G2 G3 G4 VL Vw Vs Vk V1 V2 3 0 rfl T263 X263 e263
  · rw [hw2] at F2
    show ownGo p.tables e below s₁ (mkF m 0 #[.val (.ref x0), .val (.ref x1), .val (.ref x2), .unset, .unset, .unset] []) _
    refine ownGo.st (fun _ k => XS.aloadN X0.here hx rfl (hb hby d8_0) rfl rfl k) ?_
    show ownGo p.tables e below s₁ (mkF m 1 #[.val (.ref x0), .val (.ref x1), .val (.ref x2), .unset, .unset, .unset] [(.ref x0)]) _
    obtain ⟨T265, X265, e265, st265⟩ := getF X0 hx hZ hown (host := "") (Or.inl (own_at hw 49 rfl)) Via.refl e0 F2 (g := (mkF m 1 #[.val (.ref x0), .val (.ref x1), .val (.ref x2), .unset, .unset, .unset] [(.ref x0)])) rfl rfl (hb hby d8_1)
    refine ownGo.st (st265) ?_
    show ownGo p.tables e below T265 (mkF m 4 #[.val (.ref x0), .val (.ref x1), .val (.ref x2), .unset, .unset, .unset] [(.int (2 : Int32))]) _
    refine ownGo.st (fun _ k => XS.iconst X265.here hx rfl (hb hby d8_4)  k) ?_
    show ownGo p.tables e below T265 (mkF m 5 #[.val (.ref x0), .val (.ref x1), .val (.ref x2), .unset, .unset, .unset] [(.int (1 : Int32)), (.int (2 : Int32))]) _
    have hc266 : ¬ ((2 : Int32) = (1 : Int32)) := (by decide)
    refine ownGo.st (fun _ k => XS.icmpYes X265.here hx rfl (pc0 := 5) (pc' := 58) rfl (hb hby d8_5) rfl (feq hc266).2 (by decide) (by decide) k) ?_
    show ownGo p.tables e below T265 (mkF m 58 #[.val (.ref x0), .val (.ref x1), .val (.ref x2), .unset, .unset, .unset] []) _
    refine ownGo.st (fun _ k => XS.iconst X265.here hx rfl (hb hby d8_58)  k) ?_
    show ownGo p.tables e below T265 (mkF m 59 #[.val (.ref x0), .val (.ref x1), .val (.ref x2), .unset, .unset, .unset] [(.int (0 : Int32))]) _
    refine ownGo.st (fun _ k => XS.istoreN X265.here hx rfl (hb hby d8_59) rfl (l' := #[.val (.ref x0), .val (.ref x1), .val (.ref x2), .val (.int (0 : Int32)), .unset, .unset]) rfl k) ?_
    show ownGo p.tables e below T265 (mkF m 60 #[.val (.ref x0), .val (.ref x1), .val (.ref x2), .val (.int (0 : Int32)), .unset, .unset] []) _
    refine ownGo.st (fun _ k => XS.iloadN X265.here hx rfl (hb hby d8_60) rfl k) ?_
    show ownGo p.tables e below T265 (mkF m 61 #[.val (.ref x0), .val (.ref x1), .val (.ref x2), .val (.int (0 : Int32)), .unset, .unset] [(.int (0 : Int32))]) _
    refine ownGo.st (fun _ k => XS.aloadN X265.here hx rfl (hb hby d8_61) rfl rfl k) ?_
    show ownGo p.tables e below T265 (mkF m 62 #[.val (.ref x0), .val (.ref x1), .val (.ref x2), .val (.int (0 : Int32)), .unset, .unset] [(.ref x0), (.int (0 : Int32))]) _
    obtain ⟨T267, X267, e267, st267⟩ := getF X265 hx hZ hown (host := "") (Or.inl (own_at hw 49 rfl)) Via.refl e265 F2 (g := (mkF m 62 #[.val (.ref x0), .val (.ref x1), .val (.ref x2), .val (.int (0 : Int32)), .unset, .unset] [(.ref x0), (.int (0 : Int32))])) rfl rfl (hb hby d8_62)
    refine ownGo.st (st267) ?_
    show ownGo p.tables e below T267 (mkF m 65 #[.val (.ref x0), .val (.ref x1), .val (.ref x2), .val (.int (0 : Int32)), .unset, .unset] [(.int (2 : Int32)), (.int (0 : Int32))]) _
    have hc268 : (0 : Int32) < (2 : Int32) := (by decide)
    refine ownGo.st (fun _ k => XS.icmpNo X267.here hx rfl (hb hby d8_65) rfl (tlt hc268).2.1 k) ?_
    show ownGo p.tables e below T267 (mkF m 68 #[.val (.ref x0), .val (.ref x1), .val (.ref x2), .val (.int (0 : Int32)), .unset, .unset] []) _
    refine ownGo.st (fun _ k => XS.aloadN X267.here hx rfl (hb hby d8_68) rfl rfl k) ?_
    show ownGo p.tables e below T267 (mkF m 69 #[.val (.ref x0), .val (.ref x1), .val (.ref x2), .val (.int (0 : Int32)), .unset, .unset] [(.ref x2)]) _
    refine ownGo.st (fun _ k => XS.iloadN X267.here hx rfl (hb hby d8_69) rfl k) ?_
    show ownGo p.tables e below T267 (mkF m 70 #[.val (.ref x0), .val (.ref x1), .val (.ref x2), .val (.int (0 : Int32)), .unset, .unset] [(.int (0 : Int32)), (.ref x2)]) _
    refine ownGo.st (fun _ k => XS.lconst X267.here hx rfl (hb hby d8_70)  k) ?_
    show ownGo p.tables e below T267 (mkF m 71 #[.val (.ref x0), .val (.ref x1), .val (.ref x2), .val (.int (0 : Int32)), .unset, .unset] [(.long (0 : Int64)), (.int (0 : Int32)), (.ref x2)]) _
    obtain ⟨T269, h269, X269, e269, W269, V_x2_269, st269⟩ := own_lastore X267 hx hZ e267 V2 (i := 0) (by decide) (by decide) (g := (mkF m 71 #[.val (.ref x0), .val (.ref x1), .val (.ref x2), .val (.int (0 : Int32)), .unset, .unset] [(.long (0 : Int64)), (.int (0 : Int32)), (.ref x2)])) rfl rfl (hb hby d8_71)
    have F1_270 := F1.other W269 (Or.inl ne_x0)
    have F2_271 := F2.other W269 (Or.inl ne_x0)
    have G1_272 := G1.other W269 (Or.inl ne_x0)
    have G2_273 := G2.other W269 (Or.inl ne_x0)
    have G3_274 := G3.other W269 (Or.inl ne_x0)
    have G4_275 := G4.other W269 (Or.inl ne_x0)
    have VL_276 := VL.other W269 ne_lb
    have Vw_277 := Vw.other W269 ne_w
    have Vs_278 := Vs.other W269 ne_sh
    have Vk_279 := Vk.other W269 ne_k
    have V1_280 := V1.other W269 ne_x1
    have N269 := Fr.snoc X269 N0 gz_x2
    have Z269 : n0 ≤ h269.size := Nat.le_trans Z0 (Nat.le_of_eq W269.size.symm)
    have K269 := K0.wr W269 (Or.inl (List.mem_singleton.mpr rfl))
    refine ownGo.st (st269) ?_
    show ownGo p.tables e below T269 (mkF m 72 #[.val (.ref x0), .val (.ref x1), .val (.ref x2), .val (.int (0 : Int32)), .unset, .unset] []) _
    refine ownGo.st (fun _ k => XS.iinc X269.here hx rfl (hb hby d8_72) rfl (l' := #[.val (.ref x0), .val (.ref x1), .val (.ref x2), .val (.int ((0 : Int32) + (1 : Int32))), .unset, .unset]) rfl k) ?_
    show ownGo p.tables e below T269 (mkF m 75 #[.val (.ref x0), .val (.ref x1), .val (.ref x2), .val (.int ((0 : Int32) + (1 : Int32))), .unset, .unset] []) _
    refine ownGo.st (fun _ k => XS.goto X269.here hx rfl (pc0 := 75) (pc' := 60) rfl (hb hby d8_75) (by decide) (by decide) k) ?_
    show ownGo p.tables e below T269 (mkF m 60 #[.val (.ref x0), .val (.ref x1), .val (.ref x2), .val (.int ((0 : Int32) + (1 : Int32))), .unset, .unset] []) _
    refine ownGo.st (fun _ k => XS.iloadN X269.here hx rfl (hb hby d8_60) rfl k) ?_
    show ownGo p.tables e below T269 (mkF m 61 #[.val (.ref x0), .val (.ref x1), .val (.ref x2), .val (.int ((0 : Int32) + (1 : Int32))), .unset, .unset] [(.int ((0 : Int32) + (1 : Int32)))]) _
    refine ownGo.st (fun _ k => XS.aloadN X269.here hx rfl (hb hby d8_61) rfl rfl k) ?_
    show ownGo p.tables e below T269 (mkF m 62 #[.val (.ref x0), .val (.ref x1), .val (.ref x2), .val (.int ((0 : Int32) + (1 : Int32))), .unset, .unset] [(.ref x0), (.int ((0 : Int32) + (1 : Int32)))]) _
    obtain ⟨T281, X281, e281, st281⟩ := getF X269 hx hZ hown (host := "") (Or.inl (own_at hw 49 rfl)) Via.refl e269 F2_271 (g := (mkF m 62 #[.val (.ref x0), .val (.ref x1), .val (.ref x2), .val (.int ((0 : Int32) + (1 : Int32))), .unset, .unset] [(.ref x0), (.int ((0 : Int32) + (1 : Int32)))])) rfl rfl (hb hby d8_62)
    refine ownGo.st (st281) ?_
    show ownGo p.tables e below T281 (mkF m 65 #[.val (.ref x0), .val (.ref x1), .val (.ref x2), .val (.int ((0 : Int32) + (1 : Int32))), .unset, .unset] [(.int (2 : Int32)), (.int ((0 : Int32) + (1 : Int32)))]) _
    have hc282 : ((0 : Int32) + (1 : Int32)) < (2 : Int32) := (by decide)
    refine ownGo.st (fun _ k => XS.icmpNo X281.here hx rfl (hb hby d8_65) rfl (tlt hc282).2.1 k) ?_
    show ownGo p.tables e below T281 (mkF m 68 #[.val (.ref x0), .val (.ref x1), .val (.ref x2), .val (.int ((0 : Int32) + (1 : Int32))), .unset, .unset] []) _
    refine ownGo.st (fun _ k => XS.aloadN X281.here hx rfl (hb hby d8_68) rfl rfl k) ?_
    show ownGo p.tables e below T281 (mkF m 69 #[.val (.ref x0), .val (.ref x1), .val (.ref x2), .val (.int ((0 : Int32) + (1 : Int32))), .unset, .unset] [(.ref x2)]) _
    refine ownGo.st (fun _ k => XS.iloadN X281.here hx rfl (hb hby d8_69) rfl k) ?_
    show ownGo p.tables e below T281 (mkF m 70 #[.val (.ref x0), .val (.ref x1), .val (.ref x2), .val (.int ((0 : Int32) + (1 : Int32))), .unset, .unset] [(.int ((0 : Int32) + (1 : Int32))), (.ref x2)]) _
    refine ownGo.st (fun _ k => XS.lconst X281.here hx rfl (hb hby d8_70)  k) ?_
    show ownGo p.tables e below T281 (mkF m 71 #[.val (.ref x0), .val (.ref x1), .val (.ref x2), .val (.int ((0 : Int32) + (1 : Int32))), .unset, .unset] [(.long (0 : Int64)), (.int ((0 : Int32) + (1 : Int32))), (.ref x2)]) _
    obtain ⟨T283, h283, X283, e283, W283, V_x2_283, st283⟩ := own_lastore X281 hx hZ e281 V_x2_269 (i := 1) (by decide) (by decide) (g := (mkF m 71 #[.val (.ref x0), .val (.ref x1), .val (.ref x2), .val (.int ((0 : Int32) + (1 : Int32))), .unset, .unset] [(.long (0 : Int64)), (.int ((0 : Int32) + (1 : Int32))), (.ref x2)])) rfl rfl (hb hby d8_71)
    have F1_284 := F1_270.other W283 (Or.inl ne_x0)
    have F2_285 := F2_271.other W283 (Or.inl ne_x0)
    have G1_286 := G1_272.other W283 (Or.inl ne_x0)
    have G2_287 := G2_273.other W283 (Or.inl ne_x0)
    have G3_288 := G3_274.other W283 (Or.inl ne_x0)
    have G4_289 := G4_275.other W283 (Or.inl ne_x0)
    have VL_290 := VL_276.other W283 ne_lb
    have Vw_291 := Vw_277.other W283 ne_w
    have Vs_292 := Vs_278.other W283 ne_sh
    have Vk_293 := Vk_279.other W283 ne_k
    have V1_294 := V1_280.other W283 ne_x1
    have N283 := Fr.snoc X283 N269 gz_x2
    have Z283 : n0 ≤ h283.size := Nat.le_trans Z269 (Nat.le_of_eq W283.size.symm)
    have K283 := K269.wr W283 (Or.inl (List.mem_singleton.mpr rfl))
    refine ownGo.st (st283) ?_
    show ownGo p.tables e below T283 (mkF m 72 #[.val (.ref x0), .val (.ref x1), .val (.ref x2), .val (.int ((0 : Int32) + (1 : Int32))), .unset, .unset] []) _
    refine ownGo.st (fun _ k => XS.iinc X283.here hx rfl (hb hby d8_72) rfl (l' := #[.val (.ref x0), .val (.ref x1), .val (.ref x2), .val (.int (((0 : Int32) + (1 : Int32)) + (1 : Int32))), .unset, .unset]) rfl k) ?_
    show ownGo p.tables e below T283 (mkF m 75 #[.val (.ref x0), .val (.ref x1), .val (.ref x2), .val (.int (((0 : Int32) + (1 : Int32)) + (1 : Int32))), .unset, .unset] []) _
    refine ownGo.st (fun _ k => XS.goto X283.here hx rfl (pc0 := 75) (pc' := 60) rfl (hb hby d8_75) (by decide) (by decide) k) ?_
    show ownGo p.tables e below T283 (mkF m 60 #[.val (.ref x0), .val (.ref x1), .val (.ref x2), .val (.int (((0 : Int32) + (1 : Int32)) + (1 : Int32))), .unset, .unset] []) _
    refine ownGo.st (fun _ k => XS.iloadN X283.here hx rfl (hb hby d8_60) rfl k) ?_
    show ownGo p.tables e below T283 (mkF m 61 #[.val (.ref x0), .val (.ref x1), .val (.ref x2), .val (.int (((0 : Int32) + (1 : Int32)) + (1 : Int32))), .unset, .unset] [(.int (((0 : Int32) + (1 : Int32)) + (1 : Int32)))]) _
    refine ownGo.st (fun _ k => XS.aloadN X283.here hx rfl (hb hby d8_61) rfl rfl k) ?_
    show ownGo p.tables e below T283 (mkF m 62 #[.val (.ref x0), .val (.ref x1), .val (.ref x2), .val (.int (((0 : Int32) + (1 : Int32)) + (1 : Int32))), .unset, .unset] [(.ref x0), (.int (((0 : Int32) + (1 : Int32)) + (1 : Int32)))]) _
    obtain ⟨T295, X295, e295, st295⟩ := getF X283 hx hZ hown (host := "") (Or.inl (own_at hw 49 rfl)) Via.refl e283 F2_285 (g := (mkF m 62 #[.val (.ref x0), .val (.ref x1), .val (.ref x2), .val (.int (((0 : Int32) + (1 : Int32)) + (1 : Int32))), .unset, .unset] [(.ref x0), (.int (((0 : Int32) + (1 : Int32)) + (1 : Int32)))])) rfl rfl (hb hby d8_62)
    refine ownGo.st (st295) ?_
    show ownGo p.tables e below T295 (mkF m 65 #[.val (.ref x0), .val (.ref x1), .val (.ref x2), .val (.int (((0 : Int32) + (1 : Int32)) + (1 : Int32))), .unset, .unset] [(.int (2 : Int32)), (.int (((0 : Int32) + (1 : Int32)) + (1 : Int32)))]) _
    have hc296 : ¬ ((((0 : Int32) + (1 : Int32)) + (1 : Int32)) < (2 : Int32)) := (by decide)
    refine ownGo.st (fun _ k => XS.icmpYes X295.here hx rfl (pc0 := 65) (pc' := 78) rfl (hb hby d8_65) rfl (flt hc296).2.1 (by decide) (by decide) k) ?_
    show ownGo p.tables e below T295 (mkF m 78 #[.val (.ref x0), .val (.ref x1), .val (.ref x2), .val (.int (((0 : Int32) + (1 : Int32)) + (1 : Int32))), .unset, .unset] []) _
    refine ownGo.st (fun _ k => XS.iconst X295.here hx rfl (hb hby d8_78)  k) ?_
    show ownGo p.tables e below T295 (mkF m 79 #[.val (.ref x0), .val (.ref x1), .val (.ref x2), .val (.int (((0 : Int32) + (1 : Int32)) + (1 : Int32))), .unset, .unset] [(.int (0 : Int32))]) _
    refine ownGo.st (fun _ k => XS.istoreN X295.here hx rfl (hb hby d8_79) rfl (l' := #[.val (.ref x0), .val (.ref x1), .val (.ref x2), .val (.int (0 : Int32)), .unset, .unset]) rfl k) ?_
    show ownGo p.tables e below T295 (mkF m 80 #[.val (.ref x0), .val (.ref x1), .val (.ref x2), .val (.int (0 : Int32)), .unset, .unset] []) _
    exact own_loopP2 hx hZ hw hby hml hown hret hlk x0 x1 x2 lb w sh k sv lo kb wv hk32 hw2 gz_x2 ne_x0 ne_x1 ne_lb ne_w ne_sh ne_k 3 0 rfl T295 h283 _ _ X295 e295 N283 Z283 K283 F1_284 F2_285 G1_286 G2_287 G3_288 G4_289 VL_290 Vw_291 Vs_292 Vk_293 V1_294 V_x2_283 (fun j hj => by
    have q : j = 0 ∨ j = 1 := by omega
    rcases q with rfl | rfl <;> rfl)
def own_three (a b c : Int32) : Nat → Int32
  | 0 => a
  | 1 => b
  | _ => c
def own_threeN (a b c : Nat) : Nat → Nat
  | 0 => a
  | 1 => b
  | _ => c
def own_pairL (a b : Int64) : Nat → Int64
  | 0 => a
  | _ => b
theorem own_case3 {P : Nat → Prop} (h0 : P 0) (h1 : P 1) (h2 : P 2) : ∀ i, i < 3 → P i := fun i hi => by
  have q : i = 0 ∨ i = 1 ∨ i = 2 := by omega
  rcases q with rfl | rfl | rfl
  · exact h0
  · exact h1
  · exact h2
theorem own_lshl0 (x : Int64) : own_lshl x (Int32.ofNat 0) = x := by
  apply Int64.toBitVec_inj.mp
  rw [own_lshl_bv x 0 (by decide)]
  simp
theorem own_lshl64 (x : Int64) (a : Nat) (h : a ≤ 64) : own_lshl x (Int32.ofNat a) = own_lshl x (Int32.ofNat (a % 64)) := by
  by_cases q : a = 64
  · subst q
    have e : (Int32.ofNat 64 &&& 0x3f) = (Int32.ofNat (64 % 64) &&& 0x3f) := by decide
    show x <<< (Int32.ofNat 64 &&& 0x3f).toInt64 = x <<< (Int32.ofNat (64 % 64) &&& 0x3f).toInt64
    rw [e]
  · rw [Nat.mod_eq_of_lt (by omega)]
def own_zero (_ : Nat) : Int64 := 0
def own_upd (sv : Nat → Int32) (k : Nat) (v : Int32) (i : Nat) : Int32 := if i = k then v else sv i
def own_set (wv : Nat → Int64) (lo : Nat → Int32) (kb : Nat → Nat) (k : Nat) (v : Int32) (j : Nat) : Int64 :=
  if j = own_st kb k / 64 then (wv j &&& ((own_lshl (own_mk (kb k)) (Int32.ofNat (own_st kb k % 64))) ^^^ (-1 : Int64))) ||| (own_lshl (v.toInt64 - (lo k).toInt64) (Int32.ofNat (own_st kb k % 64))) else wv j
def own_un (wv : Nat → Int64) (lo : Nat → Int32) (kb : Nat → Nat) (i : Nat) : Int32 := ((own_lushr (wv (own_st kb i / 64)) (Int32.ofNat (own_st kb i % 64))) &&& own_mk (kb i)).toInt32 + lo i
/-- d has no bit at or above k -/
def ownLow (d : Int64) (k : Nat) : Prop := ∀ t, k ≤ t → d.toBitVec.getLsbD t = false
theorem ownLow.of {d : Int64} {k : Nat} (h0 : 0 ≤ d.toInt) (h1 : d.toInt < ((2 ^ k : Nat) : Int)) : ownLow d k := fun t ht => by
  have e := own_tonat d h0
  rw [← e] at h1
  have l : d.toBitVec.toNat < 2 ^ k := by exact_mod_cast h1
  rw [← BitVec.testBit_toNat]
  exact Nat.testBit_lt_two_pow (Nat.lt_of_lt_of_le l (Nat.pow_le_pow_right (by decide) ht))
abbrev ownIn (kb : Nat → Nat) (i j b : Nat) : Prop := own_st kb i / 64 = j ∧ own_st kb i % 64 ≤ b ∧ b < own_st kb i % 64 + kb i
theorem own_disj (kb : Nat → Nat) (h : ∀ i, i < 3 → kb i ≤ 32) {i k j b : Nat} (hi : i < 3) (hk : k < 3) (hik : i ≠ k) (h1 : ownIn kb i j b) (h2 : ownIn kb k j b) : False := by
  obtain ⟨q0, q1, q2⟩ := own_lay3 kb h
  have z0 := h 0 (by decide)
  have z1 := h 1 (by decide)
  have z2 := h 2 (by decide)
  unfold ownIn at h1 h2
  have ci : i = 0 ∨ i = 1 ∨ i = 2 := by omega
  have ck : k = 0 ∨ k = 1 ∨ k = 2 := by omega
  rcases ci with rfl | rfl | rfl <;> rcases ck with rfl | rfl | rfl <;> first | exact absurd rfl hik | (rcases q2 with ⟨a1, a2, -⟩ | ⟨a1, a2, -⟩ <;> omega)
theorem own_fits64 (kb : Nat → Nat) (h : ∀ i, i < 3 → kb i ≤ 32) {i : Nat} (hi : i < 3) : own_st kb i % 64 + kb i ≤ 64 ∧ own_st kb i / 64 < 2 := by
  obtain ⟨q0, q1, q2⟩ := own_lay3 kb h
  have z0 := h 0 (by decide)
  have z1 := h 1 (by decide)
  have z2 := h 2 (by decide)
  have ci : i = 0 ∨ i = 1 ∨ i = 2 := by omega
  rcases ci with rfl | rfl | rfl <;> rcases q2 with ⟨a1, a2, -⟩ | ⟨a1, a2, -⟩ <;> omega
theorem own_shl_bit (d : Int64) (s : Nat) (hs : s < 64) (b : Nat) (hb : b < 64) : (own_lshl d (Int32.ofNat s)).toBitVec.getLsbD b = (decide (s ≤ b) && d.toBitVec.getLsbD (b - s)) := by
  rw [own_lshl_bv d s hs, BitVec.getLsbD_shiftLeft]
  by_cases q : s ≤ b
  · simp [hb, q, Nat.not_lt.mpr q]
  · simp [q, Nat.lt_of_not_le q]
/-- does variable i light bit b of word j? -/
def ownB (x : Nat → Int64) (kb : Nat → Nat) (i j b : Nat) : Bool := decide (own_st kb i / 64 = j) && (x i).toBitVec.getLsbD b
theorem own_pk_bit (x : Nat → Int64) (kb : Nat → Nat) (j b : Nat) : (own_pk x kb 3 j).toBitVec.getLsbD b = (ownB x kb 0 j b || ownB x kb 1 j b || ownB x kb 2 j b) := by
  have st : ∀ i, (own_pk x kb (i + 1) j).toBitVec.getLsbD b = ((own_pk x kb i j).toBitVec.getLsbD b || ownB x kb i j b) := fun i => by
    rw [own_pk]
    by_cases q : j = own_st kb i / 64
    · rw [if_pos q, Int64.toBitVec_or, BitVec.getLsbD_or, ownB, decide_eq_true q.symm, Bool.true_and]
    · rw [if_neg q, ownB, decide_eq_false (fun y => q y.symm), Bool.false_and, Bool.or_false]
  have z : (own_pk x kb 0 j).toBitVec.getLsbD b = false := by
    show (0 : Int64).toBitVec.getLsbD b = false
    rw [show (0 : Int64).toBitVec = 0#64 from rfl, BitVec.getLsbD_zero]
  rw [st 2, st 1, st 0, z, Bool.false_or]
theorem own_in_of {sv lo : Nat → Int32} {kb : Nat → Nat} (h : ∀ i, i < 3 → kb i ≤ 32) {i j b : Nat} (hi : i < 3) (hb : b < 64) (hd : ownLow ((sv i).toInt64 - (lo i).toInt64) (kb i)) (q : ownB (own_x sv lo kb) kb i j b = true) : ownIn kb i j b := by
  have f := own_fits64 kb h hi
  rw [ownB, Bool.and_eq_true, decide_eq_true_iff, own_x, own_shl_bit _ _ (by omega) b hb, Bool.and_eq_true, decide_eq_true_iff] at q
  refine ⟨q.1, q.2.1, ?_⟩
  apply Nat.lt_of_not_le
  intro y
  rw [hd (b - own_st kb i % 64) (by omega)] at q
  exact absurd q.2.2 (by decide)
theorem own_mask_bit (kb : Nat → Nat) (h : ∀ i, i < 3 → kb i ≤ 32) {k b : Nat} (hk : k < 3) (hb : b < 64) : ((own_lshl (own_mk (kb k)) (Int32.ofNat (own_st kb k % 64)))).toBitVec.getLsbD b = decide (ownIn kb k (own_st kb k / 64) b) := by
  have f := own_fits64 kb h hk
  have z := h k hk
  rw [own_shl_bit _ _ (by omega) b hb, own_mk_bit (kb k) (by omega), ← Bool.decide_and]
  apply decide_eq_decide.mpr
  unfold ownIn
  constructor
  · rintro ⟨a, c⟩; exact ⟨rfl, a, by omega⟩
  · rintro ⟨-, a, c⟩; exact ⟨a, by omega⟩
theorem own_bool0 : ∀ B0 B1 B2 M X : Bool, (B0 = true → M = true) → (B1 = true → M = false) → (B2 = true → M = false) → (((B0 || B1 || B2) && !M) || X) = (X || B1 || B2) := by decide
theorem own_bool1 : ∀ B0 B1 B2 M X : Bool, (B1 = true → M = true) → (B0 = true → M = false) → (B2 = true → M = false) → (((B0 || B1 || B2) && !M) || X) = (B0 || X || B2) := by decide
theorem own_bool2 : ∀ B0 B1 B2 M X : Bool, (B2 = true → M = true) → (B0 = true → M = false) → (B1 = true → M = false) → (((B0 || B1 || B2) && !M) || X) = (B0 || B1 || X) := by decide
theorem own_neg1 (b : Nat) (hb : b < 64) : (-1 : Int64).toBitVec.getLsbD b = true := by
  rw [show (-1 : Int64).toBitVec = BitVec.allOnes 64 from by decide, BitVec.getLsbD_allOnes, decide_eq_true hb]
theorem ownB_upd (sv lo : Nat → Int32) (kb : Nat → Nat) {i k : Nat} (v : Int32) (j b : Nat) (q : i ≠ k) : ownB (own_x (own_upd sv k v) lo kb) kb i j b = ownB (own_x sv lo kb) kb i j b := by
  unfold ownB own_x
  rw [show own_upd sv k v i = sv i from if_neg q]
theorem own_set_ok (sv lo : Nat → Int32) (kb : Nat → Nat) (h : ∀ i, i < 3 → kb i ≤ 32) (hd : ∀ i, i < 3 → ownLow ((sv i).toInt64 - (lo i).toInt64) (kb i)) (k : Nat) (hk : k < 3) (v : Int32) (j : Nat) :
    own_set (own_pk (own_x sv lo kb) kb 3) lo kb k v j = own_pk (own_x (own_upd sv k v) lo kb) kb 3 j := by
  apply Int64.toBitVec_inj.mp
  apply BitVec.eq_of_getLsbD_eq
  intro b hb
  rw [own_pk_bit]
  unfold own_set
  by_cases q : j = own_st kb k / 64
  · rw [if_pos q, Int64.toBitVec_or, BitVec.getLsbD_or, Int64.toBitVec_and, BitVec.getLsbD_and, Int64.toBitVec_xor, BitVec.getLsbD_xor, own_neg1 b hb, Bool.xor_true, own_mask_bit kb h hk hb, own_pk_bit]
    have tin : ∀ i, i < 3 → ownB (own_x sv lo kb) kb i j b = true → ownIn kb i j b := fun i hi y => own_in_of h hi hb (hd i hi) y
    have hx : ∀ i, i = k → (own_lshl (v.toInt64 - (lo k).toInt64) (Int32.ofNat (own_st kb k % 64))).toBitVec.getLsbD b = ownB (own_x (own_upd sv k v) lo kb) kb i j b := fun i hi => by
      subst hi
      unfold ownB own_x
      rw [decide_eq_true q.symm, Bool.true_and, show own_upd sv i v i = v from if_pos rfl]
    have mt : ∀ i, i = k → ownB (own_x sv lo kb) kb i j b = true → decide (ownIn kb k (own_st kb k / 64) b) = true := fun i hi y => by
      subst hi
      rw [decide_eq_true_iff, ← q]; exact tin i hk y
    have mf : ∀ i, i < 3 → i ≠ k → ownB (own_x sv lo kb) kb i j b = true → decide (ownIn kb k (own_st kb k / 64) b) = false := fun i hi ne y => by
      rw [decide_eq_false_iff_not, ← q]
      exact fun z => own_disj kb h hi hk ne (tin i hi y) z
    have ck : k = 0 ∨ k = 1 ∨ k = 2 := by omega
    rcases ck with rfl | rfl | rfl
    · rw [hx 0 rfl, ownB_upd sv lo kb v j b (show (1 : Nat) ≠ 0 by decide), ownB_upd sv lo kb v j b (show (2 : Nat) ≠ 0 by decide)]
      exact own_bool0 _ _ _ _ _ (mt 0 rfl) (mf 1 (by decide) (by decide)) (mf 2 (by decide) (by decide))
    · rw [hx 1 rfl, ownB_upd sv lo kb v j b (show (0 : Nat) ≠ 1 by decide), ownB_upd sv lo kb v j b (show (2 : Nat) ≠ 1 by decide)]
      exact own_bool1 _ _ _ _ _ (mt 1 rfl) (mf 0 (by decide) (by decide)) (mf 2 (by decide) (by decide))
    · rw [hx 2 rfl, ownB_upd sv lo kb v j b (show (0 : Nat) ≠ 2 by decide), ownB_upd sv lo kb v j b (show (1 : Nat) ≠ 2 by decide)]
      exact own_bool2 _ _ _ _ _ (mt 2 rfl) (mf 0 (by decide) (by decide)) (mf 1 (by decide) (by decide))
  · rw [if_neg q, own_pk_bit]
    have e : ∀ i, ownB (own_x (own_upd sv k v) lo kb) kb i j b = ownB (own_x sv lo kb) kb i j b := fun i => by
      by_cases z : i = k
      · subst z
        unfold ownB
        rw [decide_eq_false (fun y => q y.symm), Bool.false_and, Bool.false_and]
      · exact ownB_upd sv lo kb v j b z
    rw [e 0, e 1, e 2]
theorem own_back (a b : Int32) : (a.toInt64 - b.toInt64).toInt32 + b = a := by
  apply Int32.toInt_inj.mp
  have e1 := c_lsub a.toInt64 b.toInt64
  rw [c_i2l, c_i2l] at e1
  have e2 := c_l2i (a.toInt64 - b.toInt64)
  have e3 := c_iadd (a.toInt64 - b.toInt64).toInt32 b
  have r1 := a.toInt_lt
  have r2 := a.le_toInt
  have r3 := ((a.toInt64 - b.toInt64).toInt32 + b).toInt_lt
  have r4 := ((a.toInt64 - b.toInt64).toInt32 + b).le_toInt
  omega
theorem own_un_ok (sv lo : Nat → Int32) (kb : Nat → Nat) (h : ∀ i, i < 3 → kb i ≤ 32) (hd : ∀ i, i < 3 → ownLow ((sv i).toInt64 - (lo i).toInt64) (kb i)) (i : Nat) (hi : i < 3) : own_un (own_pk (own_x sv lo kb) kb 3) lo kb i = sv i := by
  have f := own_fits64 kb h hi
  have z := h i hi
  have key : (own_lushr (own_pk (own_x sv lo kb) kb 3 (own_st kb i / 64)) (Int32.ofNat (own_st kb i % 64))) &&& own_mk (kb i) = (sv i).toInt64 - (lo i).toInt64 := by
    apply Int64.toBitVec_inj.mp
    apply BitVec.eq_of_getLsbD_eq
    intro t ht
    rw [Int64.toBitVec_and, BitVec.getLsbD_and, own_mk_bit (kb i) (by omega), own_lushr_bv' _ _ (by omega), BitVec.getLsbD_ushiftRight]
    by_cases q : t < kb i
    · have hb : own_st kb i % 64 + t < 64 := by omega
      rw [decide_eq_true q, Bool.and_true, own_pk_bit]
      have inn : ownIn kb i (own_st kb i / 64) (own_st kb i % 64 + t) := ⟨rfl, by omega, by omega⟩
      have other : ∀ k, k < 3 → k ≠ i → ownB (own_x sv lo kb) kb k (own_st kb i / 64) (own_st kb i % 64 + t) = false := fun k hk ne => by
        cases y : ownB (own_x sv lo kb) kb k (own_st kb i / 64) (own_st kb i % 64 + t) with
        | false => rfl
        | true => exact (own_disj kb h hk hi ne (own_in_of h hk hb (hd k hk) y) inn).elim
      have own : ownB (own_x sv lo kb) kb i (own_st kb i / 64) (own_st kb i % 64 + t) = ((sv i).toInt64 - (lo i).toInt64).toBitVec.getLsbD t := by
        unfold ownB
        rw [decide_eq_true rfl, Bool.true_and, own_x, own_shl_bit _ _ (by omega) _ hb, decide_eq_true (by omega), Bool.true_and, Nat.add_sub_cancel_left]
      have ci : i = 0 ∨ i = 1 ∨ i = 2 := by omega
      rcases ci with rfl | rfl | rfl
      · rw [own, other 1 (by decide) (by decide), other 2 (by decide) (by decide), Bool.or_false, Bool.or_false]
      · rw [own, other 0 (by decide) (by decide), other 2 (by decide) (by decide), Bool.or_false, Bool.false_or]
      · rw [own, other 0 (by decide) (by decide), other 1 (by decide) (by decide), Bool.false_or, Bool.false_or]
    · rw [decide_eq_false q, Bool.and_false, hd i hi t (by omega)]
  unfold own_un
  rw [key]
  exact own_back (sv i) (lo i)
theorem own_packed_pk (sv lo : Nat → Int32) (kb : Nat → Nat) (h : ∀ i, i < 3 → kb i ≤ 32) (hd : ∀ i, i < 3 → ownLow ((sv i).toInt64 - (lo i).toInt64) (kb i)) (j : Nat) (hj : j < 2) : own_packed (own_x sv lo kb) kb own_zero j = own_pk (own_x sv lo kb) kb 3 j := by
  obtain ⟨q0, q1, q2⟩ := own_lay3 kb h
  have z0 := h 0 (by decide)
  have z1 := h 1 (by decide)
  rcases q2 with ⟨a1, a2, a3⟩ | ⟨a1, a2, a3⟩
  · have w0 : own_st kb 0 / 64 = 0 := by omega
    have w1 : own_st kb 1 / 64 = 0 := by omega
    rw [own_packed, if_pos a3]
    have x2 : ∀ (_ : kb 0 + kb 1 = 64), own_x sv lo kb 2 = 0 := fun e => by
      have k0 : kb 2 = 0 := by omega
      have dz : (sv 2).toInt64 - (lo 2).toInt64 = 0 := by
        apply Int64.toBitVec_inj.mp
        apply BitVec.eq_of_getLsbD_eq
        intro t ht
        rw [hd 2 (by decide) t (by omega), show (0 : Int64).toBitVec = 0#64 from rfl, BitVec.getLsbD_zero]
      unfold own_x
      rw [dz]
      apply Int64.toBitVec_inj.mp
      rw [own_lshl_bv _ _ (by omega), show (0 : Int64).toBitVec = 0#64 from rfl, BitVec.zero_shiftLeft]
    have cj : j = 0 ∨ j = 1 := by omega
    rcases cj with rfl | rfl
    · rw [if_pos rfl]
      show ((own_zero 0 ||| own_x sv lo kb 0) ||| own_x sv lo kb 1) ||| own_x sv lo kb 2 = _
      by_cases e : kb 0 + kb 1 = 64
      · rw [own_pk, if_neg (by omega), own_pk, if_pos w1.symm, own_pk, if_pos w0.symm, own_pk, x2 e, Int64.or_zero]; rfl
      · rw [own_pk, if_pos (by omega), own_pk, if_pos w1.symm, own_pk, if_pos w0.symm, own_pk]; rfl
    · rw [if_neg (by decide)]
      by_cases e : kb 0 + kb 1 = 64
      · rw [own_pk, if_pos (by omega), own_pk, if_neg (by omega), own_pk, if_neg (by omega), own_pk, x2 e, Int64.or_zero]; rfl
      · rw [own_pk, if_neg (by omega), own_pk, if_neg (by omega), own_pk, if_neg (by omega), own_pk]; rfl
  · rw [own_packed, if_neg (by rw [a3]; decide)]
theorem own_mm (a b : Int32) : (F1 a b).toInt ≤ (F2 a b).toInt := by
  have e1 : F1 a b = if b < a then b else a := rfl
  have e2 : F2 a b = if a < b then b else a := rfl
  rw [e1, e2]
  simp only [Int32.lt_iff_toInt_lt]
  split <;> split <;> omega
theorem own_spn (l u : Int32) (h : l.toInt ≤ u.toInt) : (u.toInt64 - l.toInt64).toInt = u.toInt - l.toInt := by
  have e := c_lsub u.toInt64 l.toInt64
  rw [c_i2l, c_i2l] at e
  have r1 := (u.toInt64 - l.toInt64).toInt_lt
  have r2 := (u.toInt64 - l.toInt64).le_toInt
  have r3 := u.toInt_lt
  have r4 := l.le_toInt
  omega
theorem own_spn1 (l u : Int32) (h : l.toInt ≤ u.toInt) : ((u.toInt64 - l.toInt64) + (1 : Int64)).toInt = u.toInt - l.toInt + 1 := by
  have q := own_spn l u h
  have e := c_ladd (u.toInt64 - l.toInt64) (1 : Int64)
  rw [q, show (1 : Int64).toInt = 1 from rfl] at e
  have r1 := ((u.toInt64 - l.toInt64) + (1 : Int64)).toInt_lt
  have r2 := ((u.toInt64 - l.toInt64) + (1 : Int64)).le_toInt
  have r3 := u.toInt_lt
  have r4 := l.le_toInt
  omega
theorem own_spnz (l u : Int32) (h : l.toInt ≤ u.toInt) : (u.toInt64 - l.toInt64) + (1 : Int64) ≠ 0 := fun q => by
  have e := own_spn1 l u h
  rw [q, show (0 : Int64).toInt = 0 from rfl] at e
  omega
/-- what pick answers -/
def own_pick (l u : Int32) (x : Int64) : Int32 := ((l.toInt64) + ((x &&& (4294967295 : Int64)) % ((u.toInt64 - l.toInt64) + (1 : Int64)))).toInt32
theorem own_pick_low (l u : Int32) (x : Int64) (k : Nat) (h : l.toInt ≤ u.toInt) (hb : ownBits (u.toInt64 - l.toInt64).toInt k) : ownLow ((own_pick l u x).toInt64 - l.toInt64) k := by
  have q := own_spn l u h
  have q1 := own_spn1 l u h
  have rb := hb.rng
  rw [q] at rb
  have m := c_maskL x 4294967295 32 (by decide) (by decide)
  have rm := (c_lrem (x &&& (4294967295 : Int64)) ((u.toInt64 - l.toInt64) + (1 : Int64)) (u.toInt - l.toInt + 1) q1).1 (by rw [m]; omega)
  rw [lrem_mod] at rm
  have d0 : 0 ≤ ((x &&& (4294967295 : Int64)) % ((u.toInt64 - l.toInt64) + (1 : Int64))).toInt := by rw [rm]; exact Int.emod_nonneg _ (by omega)
  have d1 : ((x &&& (4294967295 : Int64)) % ((u.toInt64 - l.toInt64) + (1 : Int64))).toInt < u.toInt - l.toInt + 1 := by rw [rm]; exact Int.emod_lt_of_pos _ (by omega)
  unfold own_pick
  generalize (x &&& (4294967295 : Int64)) % ((u.toInt64 - l.toInt64) + (1 : Int64)) = d at d0 d1
  have e : ((l.toInt64 + d).toInt32).toInt64 - l.toInt64 = d := by
    apply Int64.toInt_inj.mp
    have a := c_ladd l.toInt64 d
    have b := c_l2i (l.toInt64 + d)
    have e := c_lsub ((l.toInt64 + d).toInt32).toInt64 l.toInt64
    rw [c_i2l] at a
    rw [c_i2l, c_i2l] at e
    have r1 := u.toInt_lt
    have r2 := l.le_toInt
    have r3 := ((l.toInt64 + d).toInt32).toInt_lt
    have r4 := ((l.toInt64 + d).toInt32).le_toInt
    have r5 := (((l.toInt64 + d).toInt32).toInt64 - l.toInt64).toInt_lt
    have r6 := (((l.toInt64 + d).toInt32).toInt64 - l.toInt64).le_toInt
    have r7 := (l.toInt64 + d).toInt_lt
    have r8 := (l.toInt64 + d).le_toInt
    omega
  rw [e]
  exact ownLow.of d0 (by omega)
theorem own_k3 (x : Int64) : ∃ k, k < 3 ∧ (((own_lushr x (32 : Int32)) &&& (2147483647 : Int64)).toInt32) % (3 : Int32) = Int32.ofNat k := by
  have m := c_maskL (own_lushr x (32 : Int32)) 2147483647 31 (by decide) (by decide)
  have e := c_l2i ((own_lushr x (32 : Int32)) &&& (2147483647 : Int64))
  have r1 := (((own_lushr x (32 : Int32)) &&& (2147483647 : Int64)).toInt32).toInt_lt
  have r2 := (((own_lushr x (32 : Int32)) &&& (2147483647 : Int64)).toInt32).le_toInt
  have q := (c_irem (((own_lushr x (32 : Int32)) &&& (2147483647 : Int64)).toInt32) (3 : Int32) 3 rfl).1 (by omega)
  refine own_idx _ 3 ?_ ?_ <;> (rw [q]; omega)
theorem d9_0 : decode prog_49_method_8_code 0 = .ok (.aload_n 0, 1) := by decide +kernel
theorem d9_1 : decode prog_49_method_8_code 1 = .ok (.getfield 22, 3) := by decide +kernel
theorem d9_4 : decode prog_49_method_8_code 4 = .ok (.iload_n 2, 1) := by decide +kernel
theorem d9_5 : decode prog_49_method_8_code 5 = .ok (.iaload, 1) := by decide +kernel
theorem d9_6 : decode prog_49_method_8_code 6 = .ok (.istore 4, 2) := by decide +kernel
theorem d9_8 : decode prog_49_method_8_code 8 = .ok (.aload_n 0, 1) := by decide +kernel
theorem d9_9 : decode prog_49_method_8_code 9 = .ok (.getfield 25, 3) := by decide +kernel
theorem d9_12 : decode prog_49_method_8_code 12 = .ok (.iload_n 2, 1) := by decide +kernel
theorem d9_13 : decode prog_49_method_8_code 13 = .ok (.iaload, 1) := by decide +kernel
theorem d9_14 : decode prog_49_method_8_code 14 = .ok (.istore 5, 2) := by decide +kernel
theorem d9_16 : decode prog_49_method_8_code 16 = .ok (.iload_n 3, 1) := by decide +kernel
theorem d9_17 : decode prog_49_method_8_code 17 = .ok (.i2l, 1) := by decide +kernel
theorem d9_18 : decode prog_49_method_8_code 18 = .ok (.aload_n 0, 1) := by decide +kernel
theorem d9_19 : decode prog_49_method_8_code 19 = .ok (.getfield 19, 3) := by decide +kernel
theorem d9_22 : decode prog_49_method_8_code 22 = .ok (.iload_n 2, 1) := by decide +kernel
theorem d9_23 : decode prog_49_method_8_code 23 = .ok (.iaload, 1) := by decide +kernel
theorem d9_24 : decode prog_49_method_8_code 24 = .ok (.i2l, 1) := by decide +kernel
theorem d9_25 : decode prog_49_method_8_code 25 = .ok (.lsub, 1) := by decide +kernel
theorem d9_26 : decode prog_49_method_8_code 26 = .ok (.lstore 6, 2) := by decide +kernel
theorem d9_28 : decode prog_49_method_8_code 28 = .ok (.aload_n 1, 1) := by decide +kernel
theorem d9_29 : decode prog_49_method_8_code 29 = .ok (.iload 4, 2) := by decide +kernel
theorem d9_31 : decode prog_49_method_8_code 31 = .ok (.aload_n 1, 1) := by decide +kernel
theorem d9_32 : decode prog_49_method_8_code 32 = .ok (.iload 4, 2) := by decide +kernel
theorem d9_34 : decode prog_49_method_8_code 34 = .ok (.laload, 1) := by decide +kernel
theorem d9_35 : decode prog_49_method_8_code 35 = .ok (.aload_n 0, 1) := by decide +kernel
theorem d9_36 : decode prog_49_method_8_code 36 = .ok (.getfield 28, 3) := by decide +kernel
theorem d9_39 : decode prog_49_method_8_code 39 = .ok (.iload_n 2, 1) := by decide +kernel
theorem d9_40 : decode prog_49_method_8_code 40 = .ok (.laload, 1) := by decide +kernel
theorem d9_41 : decode prog_49_method_8_code 41 = .ok (.iload 5, 2) := by decide +kernel
theorem d9_43 : decode prog_49_method_8_code 43 = .ok (.lshl, 1) := by decide +kernel
theorem d9_44 : decode prog_49_method_8_code 44 = .ok (.ldc2_w 38, 3) := by decide +kernel
theorem d9_47 : decode prog_49_method_8_code 47 = .ok (.lxor, 1) := by decide +kernel
theorem d9_48 : decode prog_49_method_8_code 48 = .ok (.land, 1) := by decide +kernel
theorem d9_49 : decode prog_49_method_8_code 49 = .ok (.lload 6, 2) := by decide +kernel
theorem d9_51 : decode prog_49_method_8_code 51 = .ok (.iload 5, 2) := by decide +kernel
theorem d9_53 : decode prog_49_method_8_code 53 = .ok (.lshl, 1) := by decide +kernel
theorem d9_54 : decode prog_49_method_8_code 54 = .ok (.lor, 1) := by decide +kernel
theorem d9_55 : decode prog_49_method_8_code 55 = .ok (.lastore, 1) := by decide +kernel
theorem d9_56 : decode prog_49_method_8_code 56 = .ok (.return_, 1) := by decide +kernel
abbrev R9 : Room := { frames := 0, cells := 0, slots := 0, locals := 0 }
theorem pn_9 : plainName "com/example/ningbo/ningbo/engine/StateLayout" = true := by first | (simp [plainName, overriddenIn]; done) | decide +kernel
theorem ef_9 (m : MethodId) (x0 : Addr) (x1 : Addr) (x2 : Int32) (x3 : Int32) : entryFrame m #[(.ref x0), (.ref x1), (.int x2), (.int x3)] 8 = mkF m 0 #[.val (.ref x0), .val (.ref x1), .val (.int x2), .val (.int x3), .unset, .unset, .unset, .unset] [] := by first | (simp [entryFrame, mkF, argsToLocals, Value.category]; done) | rfl
set_option maxRecDepth 65536 in
set_option maxHeartbeats 40000000 in
theorem rm9 (l : Launch) (Z : State) (a0 : Array Value) (hw : ∀ d ∈ tables_1, d.before a0 Z = true) (x0 x1 : Addr) (x2 x3 : Int32) (A B : Addr) (kx : Nat) (lo : Nat → Int32) (kb : Nat → Nat) (wv : Nat → Int64) (h0 : Heap) (n0 : Nat) (Z0 : n0 ≤ h0.size) (gz_x1 : n0 ≤ x1) (far : x1 < A ∨ B ≤ x1) (h2 : x2 = Int32.ofNat kx) (hk : kx < 3) (hk32 : ∀ i, i < 3 → kb i ≤ 32) (Y : ownLay Z h0 A B x0 3 lo kb) (V1 : ownA Z h0 x1 .long 2 (fun j => .long (wv j))) :
    MetFree l (⟨"com/example/ningbo/ningbo/engine/StateLayout", "set", "([JII)V"⟩ : MethodName) (head1 [Jvm.Cond.code (⟨"com/example/ningbo/ningbo/engine/StateLayout", "set", "([JII)V"⟩ : MethodName) prog_49_method_8_code 8 none] R9) (fun a U => a = #[(.ref x0), (.ref x1), (.int x2), (.int x3)] ∧ Z.Warmed39 U.vm ∧ U.heap = h0) (fun _ _ _ _ _ => True) (fun _ U o U' => ∃ v L, o = .returned v ∧ ownPacked Z x1 (own_set wv lo kb kx x3) h0 n0 v U'.heap L ∧ FrameEnd U o U' L R9.cells R9.slots) := by
  refine MetFree.of_bodySF (plainFor_of_name pn_9) hisR ?_
  intro p e s m args below meth c s₁ Bd hml0 hP hK
  obtain ⟨rfl, hZ, hh⟩ := hP
  have hx := Bd.exec
  have hby := Bd.bytes
  have hml : c.maxLocals = 8 := hml0
  have hown : s.vm.findClass "com/example/ningbo/ningbo/engine/StateLayout" = some m.cls := findClass_of_methodNamed Bd.named
  have hnm := (name_of_methodNamed Bd.named Bd.method).1
  have hret := Bd.returns
  have hlk : meth.locks = false := BodyLoose.notSynchronized Bd
  have X0 : Stand p l e R9 s m #[(.ref x0), (.ref x1), (.int x2), (.int x3)] below meth c s₁ [] 0 0 := Stand.of_body Bd
  have e0 : s₁.heap = h0 := by rw [← hh, Bd.state]; rfl
  have N0 := Fr.nil n0
  show ownGo p.tables e below s₁ (entryFrame m #[(.ref x0), (.ref x1), (.int x2), (.int x3)] 8) (ownDone s (ownPacked Z x1 (own_set wv lo kb kx x3) h0 n0) R9.cells R9.slots)
  rw [ef_9 m x0 x1 x2 x3]
  obtain ⟨o1, Ex, F1, F2, lb, w, sh, k, r1, r2, r3, r4, G1, G2, G3, G4, VL, Vw, Vs, Vk⟩ := Y
  subst h2
  have K0 : Keep h0 h0 [x1] := Keep.refl _ _
  have f64 := own_fits64 kb hk32 hk
  have ne_x0 : x0 ≠ x1 := own_far o1 far
  have ne_lb : lb ≠ x1 := own_far r1 far
  have ne_w : w ≠ x1 := own_far r2 far
  have ne_sh : sh ≠ x1 := own_far r3 far
  have ne_k : k ≠ x1 := own_far r4 far
  show ownGo p.tables e below s₁ (mkF m 0 #[.val (.ref x0), .val (.ref x1), .val (.int (Int32.ofNat kx)), .val (.int x3), .unset, .unset, .unset, .unset] []) _
  refine ownGo.st (fun _ k => XS.aloadN X0.here hx rfl (hb hby d9_0) rfl rfl k) ?_
  show ownGo p.tables e below s₁ (mkF m 1 #[.val (.ref x0), .val (.ref x1), .val (.int (Int32.ofNat kx)), .val (.int x3), .unset, .unset, .unset, .unset] [(.ref x0)]) _
  obtain ⟨T297, X297, e297, st297⟩ := getF X0 hx hZ hown (host := "") (Or.inl (own_at hw 30 rfl)) Via.refl e0 G2 (g := (mkF m 1 #[.val (.ref x0), .val (.ref x1), .val (.int (Int32.ofNat kx)), .val (.int x3), .unset, .unset, .unset, .unset] [(.ref x0)])) rfl rfl (hb hby d9_1)
  refine ownGo.st (st297) ?_
  show ownGo p.tables e below T297 (mkF m 4 #[.val (.ref x0), .val (.ref x1), .val (.int (Int32.ofNat kx)), .val (.int x3), .unset, .unset, .unset, .unset] [(.ref w)]) _
  refine ownGo.st (fun _ k => XS.iloadN X297.here hx rfl (hb hby d9_4) rfl k) ?_
  show ownGo p.tables e below T297 (mkF m 5 #[.val (.ref x0), .val (.ref x1), .val (.int (Int32.ofNat kx)), .val (.int x3), .unset, .unset, .unset, .unset] [(.int (Int32.ofNat kx)), (.ref w)]) _
  refine ownGo.st (own_iaload X297 hx hZ e297 Vw (i := kx) (v := (Int32.ofNat (own_st kb kx / 64))) rfl hk rfl (g := (mkF m 5 #[.val (.ref x0), .val (.ref x1), .val (.int (Int32.ofNat kx)), .val (.int x3), .unset, .unset, .unset, .unset] [(.int (Int32.ofNat kx)), (.ref w)])) rfl rfl (hb hby d9_5)) ?_
  show ownGo p.tables e below T297 (mkF m 6 #[.val (.ref x0), .val (.ref x1), .val (.int (Int32.ofNat kx)), .val (.int x3), .unset, .unset, .unset, .unset] [(.int (Int32.ofNat (own_st kb kx / 64)))]) _
  refine ownGo.st (fun _ k => XS.istore X297.here hx rfl (hb hby d9_6) rfl (l' := #[.val (.ref x0), .val (.ref x1), .val (.int (Int32.ofNat kx)), .val (.int x3), .val (.int (Int32.ofNat (own_st kb kx / 64))), .unset, .unset, .unset]) rfl k) ?_
  show ownGo p.tables e below T297 (mkF m 8 #[.val (.ref x0), .val (.ref x1), .val (.int (Int32.ofNat kx)), .val (.int x3), .val (.int (Int32.ofNat (own_st kb kx / 64))), .unset, .unset, .unset] []) _
  refine ownGo.st (fun _ k => XS.aloadN X297.here hx rfl (hb hby d9_8) rfl rfl k) ?_
  show ownGo p.tables e below T297 (mkF m 9 #[.val (.ref x0), .val (.ref x1), .val (.int (Int32.ofNat kx)), .val (.int x3), .val (.int (Int32.ofNat (own_st kb kx / 64))), .unset, .unset, .unset] [(.ref x0)]) _
  obtain ⟨T298, X298, e298, st298⟩ := getF X297 hx hZ hown (host := "") (Or.inl (own_at hw 32 rfl)) Via.refl e297 G3 (g := (mkF m 9 #[.val (.ref x0), .val (.ref x1), .val (.int (Int32.ofNat kx)), .val (.int x3), .val (.int (Int32.ofNat (own_st kb kx / 64))), .unset, .unset, .unset] [(.ref x0)])) rfl rfl (hb hby d9_9)
  refine ownGo.st (st298) ?_
  show ownGo p.tables e below T298 (mkF m 12 #[.val (.ref x0), .val (.ref x1), .val (.int (Int32.ofNat kx)), .val (.int x3), .val (.int (Int32.ofNat (own_st kb kx / 64))), .unset, .unset, .unset] [(.ref sh)]) _
  refine ownGo.st (fun _ k => XS.iloadN X298.here hx rfl (hb hby d9_12) rfl k) ?_
  show ownGo p.tables e below T298 (mkF m 13 #[.val (.ref x0), .val (.ref x1), .val (.int (Int32.ofNat kx)), .val (.int x3), .val (.int (Int32.ofNat (own_st kb kx / 64))), .unset, .unset, .unset] [(.int (Int32.ofNat kx)), (.ref sh)]) _
  refine ownGo.st (own_iaload X298 hx hZ e298 Vs (i := kx) (v := (Int32.ofNat (own_st kb kx % 64))) rfl hk rfl (g := (mkF m 13 #[.val (.ref x0), .val (.ref x1), .val (.int (Int32.ofNat kx)), .val (.int x3), .val (.int (Int32.ofNat (own_st kb kx / 64))), .unset, .unset, .unset] [(.int (Int32.ofNat kx)), (.ref sh)])) rfl rfl (hb hby d9_13)) ?_
  show ownGo p.tables e below T298 (mkF m 14 #[.val (.ref x0), .val (.ref x1), .val (.int (Int32.ofNat kx)), .val (.int x3), .val (.int (Int32.ofNat (own_st kb kx / 64))), .unset, .unset, .unset] [(.int (Int32.ofNat (own_st kb kx % 64)))]) _
  refine ownGo.st (fun _ k => XS.istore X298.here hx rfl (hb hby d9_14) rfl (l' := #[.val (.ref x0), .val (.ref x1), .val (.int (Int32.ofNat kx)), .val (.int x3), .val (.int (Int32.ofNat (own_st kb kx / 64))), .val (.int (Int32.ofNat (own_st kb kx % 64))), .unset, .unset]) rfl k) ?_
  show ownGo p.tables e below T298 (mkF m 16 #[.val (.ref x0), .val (.ref x1), .val (.int (Int32.ofNat kx)), .val (.int x3), .val (.int (Int32.ofNat (own_st kb kx / 64))), .val (.int (Int32.ofNat (own_st kb kx % 64))), .unset, .unset] []) _
  refine ownGo.st (fun _ k => XS.iloadN X298.here hx rfl (hb hby d9_16) rfl k) ?_
  show ownGo p.tables e below T298 (mkF m 17 #[.val (.ref x0), .val (.ref x1), .val (.int (Int32.ofNat kx)), .val (.int x3), .val (.int (Int32.ofNat (own_st kb kx / 64))), .val (.int (Int32.ofNat (own_st kb kx % 64))), .unset, .unset] [(.int x3)]) _
  refine ownGo.st (fun _ k => XS.i2l X298.here hx rfl (hb hby d9_17) rfl k) ?_
  show ownGo p.tables e below T298 (mkF m 18 #[.val (.ref x0), .val (.ref x1), .val (.int (Int32.ofNat kx)), .val (.int x3), .val (.int (Int32.ofNat (own_st kb kx / 64))), .val (.int (Int32.ofNat (own_st kb kx % 64))), .unset, .unset] [(.long (x3.toInt64))]) _
  refine ownGo.st (fun _ k => XS.aloadN X298.here hx rfl (hb hby d9_18) rfl rfl k) ?_
  show ownGo p.tables e below T298 (mkF m 19 #[.val (.ref x0), .val (.ref x1), .val (.int (Int32.ofNat kx)), .val (.int x3), .val (.int (Int32.ofNat (own_st kb kx / 64))), .val (.int (Int32.ofNat (own_st kb kx % 64))), .unset, .unset] [(.ref x0), (.long (x3.toInt64))]) _
  obtain ⟨T299, X299, e299, st299⟩ := getF X298 hx hZ hown (host := "") (Or.inl (own_at hw 28 rfl)) Via.refl e298 G1 (g := (mkF m 19 #[.val (.ref x0), .val (.ref x1), .val (.int (Int32.ofNat kx)), .val (.int x3), .val (.int (Int32.ofNat (own_st kb kx / 64))), .val (.int (Int32.ofNat (own_st kb kx % 64))), .unset, .unset] [(.ref x0), (.long (x3.toInt64))])) rfl rfl (hb hby d9_19)
  refine ownGo.st (st299) ?_
  show ownGo p.tables e below T299 (mkF m 22 #[.val (.ref x0), .val (.ref x1), .val (.int (Int32.ofNat kx)), .val (.int x3), .val (.int (Int32.ofNat (own_st kb kx / 64))), .val (.int (Int32.ofNat (own_st kb kx % 64))), .unset, .unset] [(.ref lb), (.long (x3.toInt64))]) _
  refine ownGo.st (fun _ k => XS.iloadN X299.here hx rfl (hb hby d9_22) rfl k) ?_
  show ownGo p.tables e below T299 (mkF m 23 #[.val (.ref x0), .val (.ref x1), .val (.int (Int32.ofNat kx)), .val (.int x3), .val (.int (Int32.ofNat (own_st kb kx / 64))), .val (.int (Int32.ofNat (own_st kb kx % 64))), .unset, .unset] [(.int (Int32.ofNat kx)), (.ref lb), (.long (x3.toInt64))]) _
  refine ownGo.st (own_iaload X299 hx hZ e299 VL (i := kx) (v := (lo kx)) rfl hk rfl (g := (mkF m 23 #[.val (.ref x0), .val (.ref x1), .val (.int (Int32.ofNat kx)), .val (.int x3), .val (.int (Int32.ofNat (own_st kb kx / 64))), .val (.int (Int32.ofNat (own_st kb kx % 64))), .unset, .unset] [(.int (Int32.ofNat kx)), (.ref lb), (.long (x3.toInt64))])) rfl rfl (hb hby d9_23)) ?_
  show ownGo p.tables e below T299 (mkF m 24 #[.val (.ref x0), .val (.ref x1), .val (.int (Int32.ofNat kx)), .val (.int x3), .val (.int (Int32.ofNat (own_st kb kx / 64))), .val (.int (Int32.ofNat (own_st kb kx % 64))), .unset, .unset] [(.int (lo kx)), (.long (x3.toInt64))]) _
  refine ownGo.st (fun _ k => XS.i2l X299.here hx rfl (hb hby d9_24) rfl k) ?_
  show ownGo p.tables e below T299 (mkF m 25 #[.val (.ref x0), .val (.ref x1), .val (.int (Int32.ofNat kx)), .val (.int x3), .val (.int (Int32.ofNat (own_st kb kx / 64))), .val (.int (Int32.ofNat (own_st kb kx % 64))), .unset, .unset] [(.long ((lo kx).toInt64)), (.long (x3.toInt64))]) _
  refine ownGo.st (fun _ k => XS.lsub X299.here hx rfl (hb hby d9_25) rfl k) ?_
  show ownGo p.tables e below T299 (mkF m 26 #[.val (.ref x0), .val (.ref x1), .val (.int (Int32.ofNat kx)), .val (.int x3), .val (.int (Int32.ofNat (own_st kb kx / 64))), .val (.int (Int32.ofNat (own_st kb kx % 64))), .unset, .unset] [(.long ((x3.toInt64) - ((lo kx).toInt64)))]) _
  refine ownGo.st (fun _ k => XS.lstore X299.here hx rfl (hb hby d9_26) rfl (l' := #[.val (.ref x0), .val (.ref x1), .val (.int (Int32.ofNat kx)), .val (.int x3), .val (.int (Int32.ofNat (own_st kb kx / 64))), .val (.int (Int32.ofNat (own_st kb kx % 64))), .val (.long ((x3.toInt64) - ((lo kx).toInt64))), .second]) rfl k) ?_
  show ownGo p.tables e below T299 (mkF m 28 #[.val (.ref x0), .val (.ref x1), .val (.int (Int32.ofNat kx)), .val (.int x3), .val (.int (Int32.ofNat (own_st kb kx / 64))), .val (.int (Int32.ofNat (own_st kb kx % 64))), .val (.long ((x3.toInt64) - ((lo kx).toInt64))), .second] []) _
  refine ownGo.st (fun _ k => XS.aloadN X299.here hx rfl (hb hby d9_28) rfl rfl k) ?_
  show ownGo p.tables e below T299 (mkF m 29 #[.val (.ref x0), .val (.ref x1), .val (.int (Int32.ofNat kx)), .val (.int x3), .val (.int (Int32.ofNat (own_st kb kx / 64))), .val (.int (Int32.ofNat (own_st kb kx % 64))), .val (.long ((x3.toInt64) - ((lo kx).toInt64))), .second] [(.ref x1)]) _
  refine ownGo.st (fun _ k => XS.iload X299.here hx rfl (hb hby d9_29) rfl k) ?_
  show ownGo p.tables e below T299 (mkF m 31 #[.val (.ref x0), .val (.ref x1), .val (.int (Int32.ofNat kx)), .val (.int x3), .val (.int (Int32.ofNat (own_st kb kx / 64))), .val (.int (Int32.ofNat (own_st kb kx % 64))), .val (.long ((x3.toInt64) - ((lo kx).toInt64))), .second] [(.int (Int32.ofNat (own_st kb kx / 64))), (.ref x1)]) _
  refine ownGo.st (fun _ k => XS.aloadN X299.here hx rfl (hb hby d9_31) rfl rfl k) ?_
  show ownGo p.tables e below T299 (mkF m 32 #[.val (.ref x0), .val (.ref x1), .val (.int (Int32.ofNat kx)), .val (.int x3), .val (.int (Int32.ofNat (own_st kb kx / 64))), .val (.int (Int32.ofNat (own_st kb kx % 64))), .val (.long ((x3.toInt64) - ((lo kx).toInt64))), .second] [(.ref x1), (.int (Int32.ofNat (own_st kb kx / 64))), (.ref x1)]) _
  refine ownGo.st (fun _ k => XS.iload X299.here hx rfl (hb hby d9_32) rfl k) ?_
  show ownGo p.tables e below T299 (mkF m 34 #[.val (.ref x0), .val (.ref x1), .val (.int (Int32.ofNat kx)), .val (.int x3), .val (.int (Int32.ofNat (own_st kb kx / 64))), .val (.int (Int32.ofNat (own_st kb kx % 64))), .val (.long ((x3.toInt64) - ((lo kx).toInt64))), .second] [(.int (Int32.ofNat (own_st kb kx / 64))), (.ref x1), (.int (Int32.ofNat (own_st kb kx / 64))), (.ref x1)]) _
  refine ownGo.st (own_laload X299 hx hZ e299 V1 (i := (own_st kb kx / 64)) (v := (wv (own_st kb kx / 64))) rfl f64.2 rfl (g := (mkF m 34 #[.val (.ref x0), .val (.ref x1), .val (.int (Int32.ofNat kx)), .val (.int x3), .val (.int (Int32.ofNat (own_st kb kx / 64))), .val (.int (Int32.ofNat (own_st kb kx % 64))), .val (.long ((x3.toInt64) - ((lo kx).toInt64))), .second] [(.int (Int32.ofNat (own_st kb kx / 64))), (.ref x1), (.int (Int32.ofNat (own_st kb kx / 64))), (.ref x1)])) rfl rfl (hb hby d9_34)) ?_
  show ownGo p.tables e below T299 (mkF m 35 #[.val (.ref x0), .val (.ref x1), .val (.int (Int32.ofNat kx)), .val (.int x3), .val (.int (Int32.ofNat (own_st kb kx / 64))), .val (.int (Int32.ofNat (own_st kb kx % 64))), .val (.long ((x3.toInt64) - ((lo kx).toInt64))), .second] [(.long (wv (own_st kb kx / 64))), (.int (Int32.ofNat (own_st kb kx / 64))), (.ref x1)]) _
  refine ownGo.st (fun _ k => XS.aloadN X299.here hx rfl (hb hby d9_35) rfl rfl k) ?_
  show ownGo p.tables e below T299 (mkF m 36 #[.val (.ref x0), .val (.ref x1), .val (.int (Int32.ofNat kx)), .val (.int x3), .val (.int (Int32.ofNat (own_st kb kx / 64))), .val (.int (Int32.ofNat (own_st kb kx % 64))), .val (.long ((x3.toInt64) - ((lo kx).toInt64))), .second] [(.ref x0), (.long (wv (own_st kb kx / 64))), (.int (Int32.ofNat (own_st kb kx / 64))), (.ref x1)]) _
  obtain ⟨T300, X300, e300, st300⟩ := getF X299 hx hZ hown (host := "") (Or.inl (own_at hw 35 rfl)) Via.refl e299 G4 (g := (mkF m 36 #[.val (.ref x0), .val (.ref x1), .val (.int (Int32.ofNat kx)), .val (.int x3), .val (.int (Int32.ofNat (own_st kb kx / 64))), .val (.int (Int32.ofNat (own_st kb kx % 64))), .val (.long ((x3.toInt64) - ((lo kx).toInt64))), .second] [(.ref x0), (.long (wv (own_st kb kx / 64))), (.int (Int32.ofNat (own_st kb kx / 64))), (.ref x1)])) rfl rfl (hb hby d9_36)
  refine ownGo.st (st300) ?_
  show ownGo p.tables e below T300 (mkF m 39 #[.val (.ref x0), .val (.ref x1), .val (.int (Int32.ofNat kx)), .val (.int x3), .val (.int (Int32.ofNat (own_st kb kx / 64))), .val (.int (Int32.ofNat (own_st kb kx % 64))), .val (.long ((x3.toInt64) - ((lo kx).toInt64))), .second] [(.ref k), (.long (wv (own_st kb kx / 64))), (.int (Int32.ofNat (own_st kb kx / 64))), (.ref x1)]) _
  refine ownGo.st (fun _ k => XS.iloadN X300.here hx rfl (hb hby d9_39) rfl k) ?_
  show ownGo p.tables e below T300 (mkF m 40 #[.val (.ref x0), .val (.ref x1), .val (.int (Int32.ofNat kx)), .val (.int x3), .val (.int (Int32.ofNat (own_st kb kx / 64))), .val (.int (Int32.ofNat (own_st kb kx % 64))), .val (.long ((x3.toInt64) - ((lo kx).toInt64))), .second] [(.int (Int32.ofNat kx)), (.ref k), (.long (wv (own_st kb kx / 64))), (.int (Int32.ofNat (own_st kb kx / 64))), (.ref x1)]) _
  refine ownGo.st (own_laload X300 hx hZ e300 Vk (i := kx) (v := (own_mk (kb kx))) rfl hk rfl (g := (mkF m 40 #[.val (.ref x0), .val (.ref x1), .val (.int (Int32.ofNat kx)), .val (.int x3), .val (.int (Int32.ofNat (own_st kb kx / 64))), .val (.int (Int32.ofNat (own_st kb kx % 64))), .val (.long ((x3.toInt64) - ((lo kx).toInt64))), .second] [(.int (Int32.ofNat kx)), (.ref k), (.long (wv (own_st kb kx / 64))), (.int (Int32.ofNat (own_st kb kx / 64))), (.ref x1)])) rfl rfl (hb hby d9_40)) ?_
  show ownGo p.tables e below T300 (mkF m 41 #[.val (.ref x0), .val (.ref x1), .val (.int (Int32.ofNat kx)), .val (.int x3), .val (.int (Int32.ofNat (own_st kb kx / 64))), .val (.int (Int32.ofNat (own_st kb kx % 64))), .val (.long ((x3.toInt64) - ((lo kx).toInt64))), .second] [(.long (own_mk (kb kx))), (.long (wv (own_st kb kx / 64))), (.int (Int32.ofNat (own_st kb kx / 64))), (.ref x1)]) _
  refine ownGo.st (fun _ k => XS.iload X300.here hx rfl (hb hby d9_41) rfl k) ?_
  show ownGo p.tables e below T300 (mkF m 43 #[.val (.ref x0), .val (.ref x1), .val (.int (Int32.ofNat kx)), .val (.int x3), .val (.int (Int32.ofNat (own_st kb kx / 64))), .val (.int (Int32.ofNat (own_st kb kx % 64))), .val (.long ((x3.toInt64) - ((lo kx).toInt64))), .second] [(.int (Int32.ofNat (own_st kb kx % 64))), (.long (own_mk (kb kx))), (.long (wv (own_st kb kx / 64))), (.int (Int32.ofNat (own_st kb kx / 64))), (.ref x1)]) _
  refine ownGo.st (fun _ k => XS.lshl X300.here hx rfl (hb hby d9_43) rfl k) ?_
  show ownGo p.tables e below T300 (mkF m 44 #[.val (.ref x0), .val (.ref x1), .val (.int (Int32.ofNat kx)), .val (.int x3), .val (.int (Int32.ofNat (own_st kb kx / 64))), .val (.int (Int32.ofNat (own_st kb kx % 64))), .val (.long ((x3.toInt64) - ((lo kx).toInt64))), .second] [(.long (own_lshl (own_mk (kb kx)) (Int32.ofNat (own_st kb kx % 64)))), (.long (wv (own_st kb kx / 64))), (.int (Int32.ofNat (own_st kb kx / 64))), (.ref x1)]) _
  refine ownGo.st (X300.ldc2Long hx hown (mvT hZ (own_at hw 67 rfl)) (g := (mkF m 44 #[.val (.ref x0), .val (.ref x1), .val (.int (Int32.ofNat kx)), .val (.int x3), .val (.int (Int32.ofNat (own_st kb kx / 64))), .val (.int (Int32.ofNat (own_st kb kx % 64))), .val (.long ((x3.toInt64) - ((lo kx).toInt64))), .second] [(.long (own_lshl (own_mk (kb kx)) (Int32.ofNat (own_st kb kx % 64)))), (.long (wv (own_st kb kx / 64))), (.int (Int32.ofNat (own_st kb kx / 64))), (.ref x1)])) rfl (hb hby d9_44)) ?_
  show ownGo p.tables e below T300 (mkF m 47 #[.val (.ref x0), .val (.ref x1), .val (.int (Int32.ofNat kx)), .val (.int x3), .val (.int (Int32.ofNat (own_st kb kx / 64))), .val (.int (Int32.ofNat (own_st kb kx % 64))), .val (.long ((x3.toInt64) - ((lo kx).toInt64))), .second] [(.long (-1 : Int64)), (.long (own_lshl (own_mk (kb kx)) (Int32.ofNat (own_st kb kx % 64)))), (.long (wv (own_st kb kx / 64))), (.int (Int32.ofNat (own_st kb kx / 64))), (.ref x1)]) _
  refine ownGo.st (fun _ k => XS.lxor X300.here hx rfl (hb hby d9_47) rfl k) ?_
  show ownGo p.tables e below T300 (mkF m 48 #[.val (.ref x0), .val (.ref x1), .val (.int (Int32.ofNat kx)), .val (.int x3), .val (.int (Int32.ofNat (own_st kb kx / 64))), .val (.int (Int32.ofNat (own_st kb kx % 64))), .val (.long ((x3.toInt64) - ((lo kx).toInt64))), .second] [(.long ((own_lshl (own_mk (kb kx)) (Int32.ofNat (own_st kb kx % 64))) ^^^ (-1 : Int64))), (.long (wv (own_st kb kx / 64))), (.int (Int32.ofNat (own_st kb kx / 64))), (.ref x1)]) _
  refine ownGo.st (fun _ k => XS.land X300.here hx rfl (hb hby d9_48) rfl k) ?_
  show ownGo p.tables e below T300 (mkF m 49 #[.val (.ref x0), .val (.ref x1), .val (.int (Int32.ofNat kx)), .val (.int x3), .val (.int (Int32.ofNat (own_st kb kx / 64))), .val (.int (Int32.ofNat (own_st kb kx % 64))), .val (.long ((x3.toInt64) - ((lo kx).toInt64))), .second] [(.long ((wv (own_st kb kx / 64)) &&& ((own_lshl (own_mk (kb kx)) (Int32.ofNat (own_st kb kx % 64))) ^^^ (-1 : Int64)))), (.int (Int32.ofNat (own_st kb kx / 64))), (.ref x1)]) _
  refine ownGo.st (fun _ k => XS.lload X300.here hx rfl (hb hby d9_49) rfl k) ?_
  show ownGo p.tables e below T300 (mkF m 51 #[.val (.ref x0), .val (.ref x1), .val (.int (Int32.ofNat kx)), .val (.int x3), .val (.int (Int32.ofNat (own_st kb kx / 64))), .val (.int (Int32.ofNat (own_st kb kx % 64))), .val (.long ((x3.toInt64) - ((lo kx).toInt64))), .second] [(.long ((x3.toInt64) - ((lo kx).toInt64))), (.long ((wv (own_st kb kx / 64)) &&& ((own_lshl (own_mk (kb kx)) (Int32.ofNat (own_st kb kx % 64))) ^^^ (-1 : Int64)))), (.int (Int32.ofNat (own_st kb kx / 64))), (.ref x1)]) _
  refine ownGo.st (fun _ k => XS.iload X300.here hx rfl (hb hby d9_51) rfl k) ?_
  show ownGo p.tables e below T300 (mkF m 53 #[.val (.ref x0), .val (.ref x1), .val (.int (Int32.ofNat kx)), .val (.int x3), .val (.int (Int32.ofNat (own_st kb kx / 64))), .val (.int (Int32.ofNat (own_st kb kx % 64))), .val (.long ((x3.toInt64) - ((lo kx).toInt64))), .second] [(.int (Int32.ofNat (own_st kb kx % 64))), (.long ((x3.toInt64) - ((lo kx).toInt64))), (.long ((wv (own_st kb kx / 64)) &&& ((own_lshl (own_mk (kb kx)) (Int32.ofNat (own_st kb kx % 64))) ^^^ (-1 : Int64)))), (.int (Int32.ofNat (own_st kb kx / 64))), (.ref x1)]) _
  refine ownGo.st (fun _ k => XS.lshl X300.here hx rfl (hb hby d9_53) rfl k) ?_
  show ownGo p.tables e below T300 (mkF m 54 #[.val (.ref x0), .val (.ref x1), .val (.int (Int32.ofNat kx)), .val (.int x3), .val (.int (Int32.ofNat (own_st kb kx / 64))), .val (.int (Int32.ofNat (own_st kb kx % 64))), .val (.long ((x3.toInt64) - ((lo kx).toInt64))), .second] [(.long (own_lshl ((x3.toInt64) - ((lo kx).toInt64)) (Int32.ofNat (own_st kb kx % 64)))), (.long ((wv (own_st kb kx / 64)) &&& ((own_lshl (own_mk (kb kx)) (Int32.ofNat (own_st kb kx % 64))) ^^^ (-1 : Int64)))), (.int (Int32.ofNat (own_st kb kx / 64))), (.ref x1)]) _
  refine ownGo.st (fun _ k => XS.lor X300.here hx rfl (hb hby d9_54) rfl k) ?_
  show ownGo p.tables e below T300 (mkF m 55 #[.val (.ref x0), .val (.ref x1), .val (.int (Int32.ofNat kx)), .val (.int x3), .val (.int (Int32.ofNat (own_st kb kx / 64))), .val (.int (Int32.ofNat (own_st kb kx % 64))), .val (.long ((x3.toInt64) - ((lo kx).toInt64))), .second] [(.long (((wv (own_st kb kx / 64)) &&& ((own_lshl (own_mk (kb kx)) (Int32.ofNat (own_st kb kx % 64))) ^^^ (-1 : Int64))) ||| (own_lshl ((x3.toInt64) - ((lo kx).toInt64)) (Int32.ofNat (own_st kb kx % 64))))), (.int (Int32.ofNat (own_st kb kx / 64))), (.ref x1)]) _
  obtain ⟨T301, h301, X301, e301, W301, V_x1_301, st301⟩ := own_lastore X300 hx hZ e300 V1 (i := (own_st kb kx / 64)) rfl f64.2 (g := (mkF m 55 #[.val (.ref x0), .val (.ref x1), .val (.int (Int32.ofNat kx)), .val (.int x3), .val (.int (Int32.ofNat (own_st kb kx / 64))), .val (.int (Int32.ofNat (own_st kb kx % 64))), .val (.long ((x3.toInt64) - ((lo kx).toInt64))), .second] [(.long (((wv (own_st kb kx / 64)) &&& ((own_lshl (own_mk (kb kx)) (Int32.ofNat (own_st kb kx % 64))) ^^^ (-1 : Int64))) ||| (own_lshl ((x3.toInt64) - ((lo kx).toInt64)) (Int32.ofNat (own_st kb kx % 64))))), (.int (Int32.ofNat (own_st kb kx / 64))), (.ref x1)])) rfl rfl (hb hby d9_55)
  have F1_302 := F1.other W301 (Or.inl ne_x0)
  have F2_303 := F2.other W301 (Or.inl ne_x0)
  have G1_304 := G1.other W301 (Or.inl ne_x0)
  have G2_305 := G2.other W301 (Or.inl ne_x0)
  have G3_306 := G3.other W301 (Or.inl ne_x0)
  have G4_307 := G4.other W301 (Or.inl ne_x0)
  have VL_308 := VL.other W301 ne_lb
  have Vw_309 := Vw.other W301 ne_w
  have Vs_310 := Vs.other W301 ne_sh
  have Vk_311 := Vk.other W301 ne_k
  have N301 := Fr.snoc X301 N0 gz_x1
  have Z301 : n0 ≤ h301.size := Nat.le_trans Z0 (Nat.le_of_eq W301.size.symm)
  have K301 := K0.wr W301 (Or.inl (List.mem_singleton.mpr rfl))
  refine ownGo.st (st301) ?_
  show ownGo p.tables e below T301 (mkF m 56 #[.val (.ref x0), .val (.ref x1), .val (.int (Int32.ofNat kx)), .val (.int x3), .val (.int (Int32.ofNat (own_st kb kx / 64))), .val (.int (Int32.ofNat (own_st kb kx % 64))), .val (.long ((x3.toInt64) - ((lo kx).toInt64))), .second] []) _
  exact own_retV X301 hx hlk hret (hb hby d9_56) ⟨rfl, N301, by rw [e301]; exact K301, (by rw [e301]; exact V_x1_301 : ownA Z _ x1 .long 2 _).eq (fun j hj => by
    by_cases y : j = own_st kb kx / 64
    · subst y; exact own_up_hit.trans (congrArg Value.long (if_pos rfl : own_set wv lo kb kx x3 (own_st kb kx / 64) = _).symm)
    · exact (own_up_miss y).trans (congrArg Value.long (if_neg y : own_set wv lo kb kx x3 j = _).symm))⟩ (by decide) (by decide)
def ownRead (Z : State) (t : Addr) (g : Nat → Int32) (h0 : Heap) (n0 : Nat) (v : Option Value) (h : Heap) (L : List Loc) : Prop := v = none ∧ Fr n0 L ∧ Keep h0 h [t] ∧ ownA Z h t .int 3 (fun i => .int (g i))
theorem d10_0 : decode prog_49_method_9_code 0 = .ok (.iconst 0, 1) := by decide +kernel
theorem d10_1 : decode prog_49_method_9_code 1 = .ok (.istore_n 3, 1) := by decide +kernel
theorem d10_2 : decode prog_49_method_9_code 2 = .ok (.iload_n 3, 1) := by decide +kernel
theorem d10_3 : decode prog_49_method_9_code 3 = .ok (.aload_n 0, 1) := by decide +kernel
theorem d10_4 : decode prog_49_method_9_code 4 = .ok (.getfield 7, 3) := by decide +kernel
theorem d10_7 : decode prog_49_method_9_code 7 = .ok (.if_icmp .ge 42, 3) := by decide +kernel
theorem d10_10 : decode prog_49_method_9_code 10 = .ok (.aload_n 2, 1) := by decide +kernel
theorem d10_11 : decode prog_49_method_9_code 11 = .ok (.iload_n 3, 1) := by decide +kernel
theorem d10_12 : decode prog_49_method_9_code 12 = .ok (.aload_n 1, 1) := by decide +kernel
theorem d10_13 : decode prog_49_method_9_code 13 = .ok (.aload_n 0, 1) := by decide +kernel
theorem d10_14 : decode prog_49_method_9_code 14 = .ok (.getfield 22, 3) := by decide +kernel
theorem d10_17 : decode prog_49_method_9_code 17 = .ok (.iload_n 3, 1) := by decide +kernel
theorem d10_18 : decode prog_49_method_9_code 18 = .ok (.iaload, 1) := by decide +kernel
theorem d10_19 : decode prog_49_method_9_code 19 = .ok (.laload, 1) := by decide +kernel
theorem d10_20 : decode prog_49_method_9_code 20 = .ok (.aload_n 0, 1) := by decide +kernel
theorem d10_21 : decode prog_49_method_9_code 21 = .ok (.getfield 25, 3) := by decide +kernel
theorem d10_24 : decode prog_49_method_9_code 24 = .ok (.iload_n 3, 1) := by decide +kernel
theorem d10_25 : decode prog_49_method_9_code 25 = .ok (.iaload, 1) := by decide +kernel
theorem d10_26 : decode prog_49_method_9_code 26 = .ok (.lushr, 1) := by decide +kernel
theorem d10_27 : decode prog_49_method_9_code 27 = .ok (.aload_n 0, 1) := by decide +kernel
theorem d10_28 : decode prog_49_method_9_code 28 = .ok (.getfield 28, 3) := by decide +kernel
theorem d10_31 : decode prog_49_method_9_code 31 = .ok (.iload_n 3, 1) := by decide +kernel
theorem d10_32 : decode prog_49_method_9_code 32 = .ok (.laload, 1) := by decide +kernel
theorem d10_33 : decode prog_49_method_9_code 33 = .ok (.land, 1) := by decide +kernel
theorem d10_34 : decode prog_49_method_9_code 34 = .ok (.l2i, 1) := by decide +kernel
theorem d10_35 : decode prog_49_method_9_code 35 = .ok (.aload_n 0, 1) := by decide +kernel
theorem d10_36 : decode prog_49_method_9_code 36 = .ok (.getfield 19, 3) := by decide +kernel
theorem d10_39 : decode prog_49_method_9_code 39 = .ok (.iload_n 3, 1) := by decide +kernel
theorem d10_40 : decode prog_49_method_9_code 40 = .ok (.iaload, 1) := by decide +kernel
theorem d10_41 : decode prog_49_method_9_code 41 = .ok (.iadd, 1) := by decide +kernel
theorem d10_42 : decode prog_49_method_9_code 42 = .ok (.iastore, 1) := by decide +kernel
theorem d10_43 : decode prog_49_method_9_code 43 = .ok (.iinc 3 1, 3) := by decide +kernel
theorem d10_46 : decode prog_49_method_9_code 46 = .ok (.goto (-44), 3) := by decide +kernel
theorem d10_49 : decode prog_49_method_9_code 49 = .ok (.return_, 1) := by decide +kernel
abbrev R10 : Room := { frames := 0, cells := 0, slots := 0, locals := 0 }
set_option maxRecDepth 65536 in
set_option maxHeartbeats 40000000 in
theorem own_loopU {p : Program} {l : Launch} {e : Env} {s : State} {m : MethodId} {args : Array Value} {below : List Frame} {meth : Method} {c : Code} {Z : State} {a0 : Array Value} {h0 : Heap} {n0 : Nat} (hx : p.tables.exec = Jvm.exec) (hZ : Z.Warmed39 s.vm) (hw : ∀ d ∈ tables_1, d.before a0 Z = true) (hby : c.code = prog_49_method_9_code) (hml : c.maxLocals = 4) (hown : s.vm.findClass "com/example/ningbo/ningbo/engine/StateLayout" = some m.cls) (hret : meth.sig.returnType = none) (hlk : meth.locks = false) (x0 x1 x2 lb w sh k : Addr) (lo : Nat → Int32) (kb : Nat → Nat) (wv : Nat → Int64) (hk32 : ∀ i, i < 3 → kb i ≤ 32) (gz_x2 : n0 ≤ x2) (ne_x0 : x0 ≠ x2) (ne_x1 : x1 ≠ x2) (ne_lb : lb ≠ x2) (ne_w : w ≠ x2) (ne_sh : sh ≠ x2) (ne_k : k ≠ x2) :
    ∀ (kk i : Nat), i + kk = 3 → ∀ (T0 : State) (h : Heap) (locs : List Loc) (f : Nat → Value), Stand p l e R10 s m args below meth c T0 locs 0 0 → T0.heap = h → Fr n0 locs → n0 ≤ h.size → Keep h0 h [x2] → Fld Z h x0 "com/example/ningbo/ningbo/engine/StateLayout" "width" "I" (.int (3 : Int32)) → Fld Z h x0 "com/example/ningbo/ningbo/engine/StateLayout" "words" "I" (.int (Int32.ofNat (own_wds kb 3))) → Fld Z h x0 "com/example/ningbo/ningbo/engine/StateLayout" "lowerBounds" "[I" (.ref lb) → Fld Z h x0 "com/example/ningbo/ningbo/engine/StateLayout" "wordOf" "[I" (.ref w) → Fld Z h x0 "com/example/ningbo/ningbo/engine/StateLayout" "shiftOf" "[I" (.ref sh) → Fld Z h x0 "com/example/ningbo/ningbo/engine/StateLayout" "maskOf" "[J" (.ref k) → ownA Z h lb .int 3 (fun i => .int (lo i)) → ownA Z h w .int 3 (fun i => .int (Int32.ofNat (own_st kb i / 64))) → ownA Z h sh .int 3 (fun i => .int (Int32.ofNat (own_st kb i % 64))) → ownA Z h k .long 3 (fun i => .long (own_mk (kb i))) → ownA Z h x1 .long 2 (fun j => .long (wv j)) → ownA Z h x2 .int 3 f → (∀ j, j < i → f j = .int (own_un wv lo kb j)) →
      ownGo p.tables e below T0 (mkF m 2 #[.val (.ref x0), .val (.ref x1), .val (.ref x2), .val (.int (Int32.ofNat i))] []) (ownDone s (ownRead Z x2 (own_un wv lo kb) h0 n0) 0 0) := by
  intro kk
  induction kk with
  | zero =>
    intro i hi T0 h locs f X0 e0 N0 Z1 K0 F1 F2 G1 G2 G3 G4 VL Vw Vs Vk V1 V2 hf
    obtain rfl : i = 3 := by omega
    refine ownGo.st (fun _ k => XS.iloadN X0.here hx rfl (hb hby d10_2) rfl k) ?_
    show ownGo p.tables e below T0 (mkF m 3 #[.val (.ref x0), .val (.ref x1), .val (.ref x2), .val (.int (Int32.ofNat 3))] [(.int (Int32.ofNat 3))]) _
    refine ownGo.st (fun _ k => XS.aloadN X0.here hx rfl (hb hby d10_3) rfl rfl k) ?_
    show ownGo p.tables e below T0 (mkF m 4 #[.val (.ref x0), .val (.ref x1), .val (.ref x2), .val (.int (Int32.ofNat 3))] [(.ref x0), (.int (Int32.ofNat 3))]) _
    obtain ⟨T312, X312, e312, st312⟩ := getF X0 hx hZ hown (host := "") (Or.inl (own_at hw 17 rfl)) Via.refl e0 F1 (g := (mkF m 4 #[.val (.ref x0), .val (.ref x1), .val (.ref x2), .val (.int (Int32.ofNat 3))] [(.ref x0), (.int (Int32.ofNat 3))])) rfl rfl (hb hby d10_4)
    refine ownGo.st (st312) ?_
    show ownGo p.tables e below T312 (mkF m 7 #[.val (.ref x0), .val (.ref x1), .val (.ref x2), .val (.int (Int32.ofNat 3))] [(.int (3 : Int32)), (.int (Int32.ofNat 3))]) _
    have hc313 : ¬ ((Int32.ofNat 3) < (3 : Int32)) := Int32.lt_irrefl
    refine ownGo.st (fun _ k => XS.icmpYes X312.here hx rfl (pc0 := 7) (pc' := 49) rfl (hb hby d10_7) rfl (flt hc313).2.1 (by decide) (by decide) k) ?_
    show ownGo p.tables e below T312 (mkF m 49 #[.val (.ref x0), .val (.ref x1), .val (.ref x2), .val (.int (Int32.ofNat 3))] []) _
    exact own_retV X312 hx hlk hret (hb hby d10_49) ⟨rfl, N0, by rw [e312]; exact K0, (by rw [e312]; exact V2 : ownA Z _ x2 .int 3 _).eq (fun j hj => hf j hj)⟩ (by decide) (by decide)
  | succ kk ih =>
    intro i hi T0 h locs f X0 e0 N0 Z1 K0 F1 F2 G1 G2 G3 G4 VL Vw Vs Vk V1 V2 hf
    have f64 := own_fits64 kb hk32 (show i < 3 by omega)
    refine ownGo.st (fun _ k => XS.iloadN X0.here hx rfl (hb hby d10_2) rfl k) ?_
    show ownGo p.tables e below T0 (mkF m 3 #[.val (.ref x0), .val (.ref x1), .val (.ref x2), .val (.int (Int32.ofNat i))] [(.int (Int32.ofNat i))]) _
    refine ownGo.st (fun _ k => XS.aloadN X0.here hx rfl (hb hby d10_3) rfl rfl k) ?_
    show ownGo p.tables e below T0 (mkF m 4 #[.val (.ref x0), .val (.ref x1), .val (.ref x2), .val (.int (Int32.ofNat i))] [(.ref x0), (.int (Int32.ofNat i))]) _
    obtain ⟨T314, X314, e314, st314⟩ := getF X0 hx hZ hown (host := "") (Or.inl (own_at hw 17 rfl)) Via.refl e0 F1 (g := (mkF m 4 #[.val (.ref x0), .val (.ref x1), .val (.ref x2), .val (.int (Int32.ofNat i))] [(.ref x0), (.int (Int32.ofNat i))])) rfl rfl (hb hby d10_4)
    refine ownGo.st (st314) ?_
    show ownGo p.tables e below T314 (mkF m 7 #[.val (.ref x0), .val (.ref x1), .val (.ref x2), .val (.int (Int32.ofNat i))] [(.int (3 : Int32)), (.int (Int32.ofNat i))]) _
    have hc315 : (Int32.ofNat i) < (3 : Int32) := own_ltn (n := 3) (by omega) (by decide)
    refine ownGo.st (fun _ k => XS.icmpNo X314.here hx rfl (hb hby d10_7) rfl (tlt hc315).2.1 k) ?_
    show ownGo p.tables e below T314 (mkF m 10 #[.val (.ref x0), .val (.ref x1), .val (.ref x2), .val (.int (Int32.ofNat i))] []) _
    refine ownGo.st (fun _ k => XS.aloadN X314.here hx rfl (hb hby d10_10) rfl rfl k) ?_
    show ownGo p.tables e below T314 (mkF m 11 #[.val (.ref x0), .val (.ref x1), .val (.ref x2), .val (.int (Int32.ofNat i))] [(.ref x2)]) _
    refine ownGo.st (fun _ k => XS.iloadN X314.here hx rfl (hb hby d10_11) rfl k) ?_
    show ownGo p.tables e below T314 (mkF m 12 #[.val (.ref x0), .val (.ref x1), .val (.ref x2), .val (.int (Int32.ofNat i))] [(.int (Int32.ofNat i)), (.ref x2)]) _
    refine ownGo.st (fun _ k => XS.aloadN X314.here hx rfl (hb hby d10_12) rfl rfl k) ?_
    show ownGo p.tables e below T314 (mkF m 13 #[.val (.ref x0), .val (.ref x1), .val (.ref x2), .val (.int (Int32.ofNat i))] [(.ref x1), (.int (Int32.ofNat i)), (.ref x2)]) _
    refine ownGo.st (fun _ k => XS.aloadN X314.here hx rfl (hb hby d10_13) rfl rfl k) ?_
    show ownGo p.tables e below T314 (mkF m 14 #[.val (.ref x0), .val (.ref x1), .val (.ref x2), .val (.int (Int32.ofNat i))] [(.ref x0), (.ref x1), (.int (Int32.ofNat i)), (.ref x2)]) _
    obtain ⟨T316, X316, e316, st316⟩ := getF X314 hx hZ hown (host := "") (Or.inl (own_at hw 30 rfl)) Via.refl e314 G2 (g := (mkF m 14 #[.val (.ref x0), .val (.ref x1), .val (.ref x2), .val (.int (Int32.ofNat i))] [(.ref x0), (.ref x1), (.int (Int32.ofNat i)), (.ref x2)])) rfl rfl (hb hby d10_14)
    refine ownGo.st (st316) ?_
    show ownGo p.tables e below T316 (mkF m 17 #[.val (.ref x0), .val (.ref x1), .val (.ref x2), .val (.int (Int32.ofNat i))] [(.ref w), (.ref x1), (.int (Int32.ofNat i)), (.ref x2)]) _
    refine ownGo.st (fun _ k => XS.iloadN X316.here hx rfl (hb hby d10_17) rfl k) ?_
    show ownGo p.tables e below T316 (mkF m 18 #[.val (.ref x0), .val (.ref x1), .val (.ref x2), .val (.int (Int32.ofNat i))] [(.int (Int32.ofNat i)), (.ref w), (.ref x1), (.int (Int32.ofNat i)), (.ref x2)]) _
    refine ownGo.st (own_iaload X316 hx hZ e316 Vw (i := i) (v := (Int32.ofNat (own_st kb i / 64))) rfl (by omega) rfl (g := (mkF m 18 #[.val (.ref x0), .val (.ref x1), .val (.ref x2), .val (.int (Int32.ofNat i))] [(.int (Int32.ofNat i)), (.ref w), (.ref x1), (.int (Int32.ofNat i)), (.ref x2)])) rfl rfl (hb hby d10_18)) ?_
    show ownGo p.tables e below T316 (mkF m 19 #[.val (.ref x0), .val (.ref x1), .val (.ref x2), .val (.int (Int32.ofNat i))] [(.int (Int32.ofNat (own_st kb i / 64))), (.ref x1), (.int (Int32.ofNat i)), (.ref x2)]) _
    refine ownGo.st (own_laload X316 hx hZ e316 V1 (i := (own_st kb i / 64)) (v := (wv (own_st kb i / 64))) rfl f64.2 rfl (g := (mkF m 19 #[.val (.ref x0), .val (.ref x1), .val (.ref x2), .val (.int (Int32.ofNat i))] [(.int (Int32.ofNat (own_st kb i / 64))), (.ref x1), (.int (Int32.ofNat i)), (.ref x2)])) rfl rfl (hb hby d10_19)) ?_
    show ownGo p.tables e below T316 (mkF m 20 #[.val (.ref x0), .val (.ref x1), .val (.ref x2), .val (.int (Int32.ofNat i))] [(.long (wv (own_st kb i / 64))), (.int (Int32.ofNat i)), (.ref x2)]) _
    refine ownGo.st (fun _ k => XS.aloadN X316.here hx rfl (hb hby d10_20) rfl rfl k) ?_
    show ownGo p.tables e below T316 (mkF m 21 #[.val (.ref x0), .val (.ref x1), .val (.ref x2), .val (.int (Int32.ofNat i))] [(.ref x0), (.long (wv (own_st kb i / 64))), (.int (Int32.ofNat i)), (.ref x2)]) _
    obtain ⟨T317, X317, e317, st317⟩ := getF X316 hx hZ hown (host := "") (Or.inl (own_at hw 32 rfl)) Via.refl e316 G3 (g := (mkF m 21 #[.val (.ref x0), .val (.ref x1), .val (.ref x2), .val (.int (Int32.ofNat i))] [(.ref x0), (.long (wv (own_st kb i / 64))), (.int (Int32.ofNat i)), (.ref x2)])) rfl rfl (hb hby d10_21)
    refine ownGo.st (st317) ?_
    show ownGo p.tables e below T317 (mkF m 24 #[.val (.ref x0), .val (.ref x1), .val (.ref x2), .val (.int (Int32.ofNat i))] [(.ref sh), (.long (wv (own_st kb i / 64))), (.int (Int32.ofNat i)), (.ref x2)]) _
    refine ownGo.st (fun _ k => XS.iloadN X317.here hx rfl (hb hby d10_24) rfl k) ?_
    show ownGo p.tables e below T317 (mkF m 25 #[.val (.ref x0), .val (.ref x1), .val (.ref x2), .val (.int (Int32.ofNat i))] [(.int (Int32.ofNat i)), (.ref sh), (.long (wv (own_st kb i / 64))), (.int (Int32.ofNat i)), (.ref x2)]) _
    refine ownGo.st (own_iaload X317 hx hZ e317 Vs (i := i) (v := (Int32.ofNat (own_st kb i % 64))) rfl (by omega) rfl (g := (mkF m 25 #[.val (.ref x0), .val (.ref x1), .val (.ref x2), .val (.int (Int32.ofNat i))] [(.int (Int32.ofNat i)), (.ref sh), (.long (wv (own_st kb i / 64))), (.int (Int32.ofNat i)), (.ref x2)])) rfl rfl (hb hby d10_25)) ?_
    show ownGo p.tables e below T317 (mkF m 26 #[.val (.ref x0), .val (.ref x1), .val (.ref x2), .val (.int (Int32.ofNat i))] [(.int (Int32.ofNat (own_st kb i % 64))), (.long (wv (own_st kb i / 64))), (.int (Int32.ofNat i)), (.ref x2)]) _
    refine ownGo.st (fun _ k => XS.lushr X317.here hx rfl (hb hby d10_26) rfl k) ?_
    show ownGo p.tables e below T317 (mkF m 27 #[.val (.ref x0), .val (.ref x1), .val (.ref x2), .val (.int (Int32.ofNat i))] [(.long (own_lushr (wv (own_st kb i / 64)) (Int32.ofNat (own_st kb i % 64)))), (.int (Int32.ofNat i)), (.ref x2)]) _
    refine ownGo.st (fun _ k => XS.aloadN X317.here hx rfl (hb hby d10_27) rfl rfl k) ?_
    show ownGo p.tables e below T317 (mkF m 28 #[.val (.ref x0), .val (.ref x1), .val (.ref x2), .val (.int (Int32.ofNat i))] [(.ref x0), (.long (own_lushr (wv (own_st kb i / 64)) (Int32.ofNat (own_st kb i % 64)))), (.int (Int32.ofNat i)), (.ref x2)]) _
    obtain ⟨T318, X318, e318, st318⟩ := getF X317 hx hZ hown (host := "") (Or.inl (own_at hw 35 rfl)) Via.refl e317 G4 (g := (mkF m 28 #[.val (.ref x0), .val (.ref x1), .val (.ref x2), .val (.int (Int32.ofNat i))] [(.ref x0), (.long (own_lushr (wv (own_st kb i / 64)) (Int32.ofNat (own_st kb i % 64)))), (.int (Int32.ofNat i)), (.ref x2)])) rfl rfl (hb hby d10_28)
    refine ownGo.st (st318) ?_
    show ownGo p.tables e below T318 (mkF m 31 #[.val (.ref x0), .val (.ref x1), .val (.ref x2), .val (.int (Int32.ofNat i))] [(.ref k), (.long (own_lushr (wv (own_st kb i / 64)) (Int32.ofNat (own_st kb i % 64)))), (.int (Int32.ofNat i)), (.ref x2)]) _
    refine ownGo.st (fun _ k => XS.iloadN X318.here hx rfl (hb hby d10_31) rfl k) ?_
    show ownGo p.tables e below T318 (mkF m 32 #[.val (.ref x0), .val (.ref x1), .val (.ref x2), .val (.int (Int32.ofNat i))] [(.int (Int32.ofNat i)), (.ref k), (.long (own_lushr (wv (own_st kb i / 64)) (Int32.ofNat (own_st kb i % 64)))), (.int (Int32.ofNat i)), (.ref x2)]) _
    refine ownGo.st (own_laload X318 hx hZ e318 Vk (i := i) (v := (own_mk (kb i))) rfl (by omega) rfl (g := (mkF m 32 #[.val (.ref x0), .val (.ref x1), .val (.ref x2), .val (.int (Int32.ofNat i))] [(.int (Int32.ofNat i)), (.ref k), (.long (own_lushr (wv (own_st kb i / 64)) (Int32.ofNat (own_st kb i % 64)))), (.int (Int32.ofNat i)), (.ref x2)])) rfl rfl (hb hby d10_32)) ?_
    show ownGo p.tables e below T318 (mkF m 33 #[.val (.ref x0), .val (.ref x1), .val (.ref x2), .val (.int (Int32.ofNat i))] [(.long (own_mk (kb i))), (.long (own_lushr (wv (own_st kb i / 64)) (Int32.ofNat (own_st kb i % 64)))), (.int (Int32.ofNat i)), (.ref x2)]) _
    refine ownGo.st (fun _ k => XS.land X318.here hx rfl (hb hby d10_33) rfl k) ?_
    show ownGo p.tables e below T318 (mkF m 34 #[.val (.ref x0), .val (.ref x1), .val (.ref x2), .val (.int (Int32.ofNat i))] [(.long ((own_lushr (wv (own_st kb i / 64)) (Int32.ofNat (own_st kb i % 64))) &&& (own_mk (kb i)))), (.int (Int32.ofNat i)), (.ref x2)]) _
    refine ownGo.st (fun _ k => XS.l2i X318.here hx rfl (hb hby d10_34) rfl k) ?_
    show ownGo p.tables e below T318 (mkF m 35 #[.val (.ref x0), .val (.ref x1), .val (.ref x2), .val (.int (Int32.ofNat i))] [(.int (((own_lushr (wv (own_st kb i / 64)) (Int32.ofNat (own_st kb i % 64))) &&& (own_mk (kb i))).toInt32)), (.int (Int32.ofNat i)), (.ref x2)]) _
    refine ownGo.st (fun _ k => XS.aloadN X318.here hx rfl (hb hby d10_35) rfl rfl k) ?_
    show ownGo p.tables e below T318 (mkF m 36 #[.val (.ref x0), .val (.ref x1), .val (.ref x2), .val (.int (Int32.ofNat i))] [(.ref x0), (.int (((own_lushr (wv (own_st kb i / 64)) (Int32.ofNat (own_st kb i % 64))) &&& (own_mk (kb i))).toInt32)), (.int (Int32.ofNat i)), (.ref x2)]) _
    obtain ⟨T319, X319, e319, st319⟩ := getF X318 hx hZ hown (host := "") (Or.inl (own_at hw 28 rfl)) Via.refl e318 G1 (g := (mkF m 36 #[.val (.ref x0), .val (.ref x1), .val (.ref x2), .val (.int (Int32.ofNat i))] [(.ref x0), (.int (((own_lushr (wv (own_st kb i / 64)) (Int32.ofNat (own_st kb i % 64))) &&& (own_mk (kb i))).toInt32)), (.int (Int32.ofNat i)), (.ref x2)])) rfl rfl (hb hby d10_36)
    refine ownGo.st (st319) ?_
    show ownGo p.tables e below T319 (mkF m 39 #[.val (.ref x0), .val (.ref x1), .val (.ref x2), .val (.int (Int32.ofNat i))] [(.ref lb), (.int (((own_lushr (wv (own_st kb i / 64)) (Int32.ofNat (own_st kb i % 64))) &&& (own_mk (kb i))).toInt32)), (.int (Int32.ofNat i)), (.ref x2)]) _
    refine ownGo.st (fun _ k => XS.iloadN X319.here hx rfl (hb hby d10_39) rfl k) ?_
    show ownGo p.tables e below T319 (mkF m 40 #[.val (.ref x0), .val (.ref x1), .val (.ref x2), .val (.int (Int32.ofNat i))] [(.int (Int32.ofNat i)), (.ref lb), (.int (((own_lushr (wv (own_st kb i / 64)) (Int32.ofNat (own_st kb i % 64))) &&& (own_mk (kb i))).toInt32)), (.int (Int32.ofNat i)), (.ref x2)]) _
    refine ownGo.st (own_iaload X319 hx hZ e319 VL (i := i) (v := (lo i)) rfl (by omega) rfl (g := (mkF m 40 #[.val (.ref x0), .val (.ref x1), .val (.ref x2), .val (.int (Int32.ofNat i))] [(.int (Int32.ofNat i)), (.ref lb), (.int (((own_lushr (wv (own_st kb i / 64)) (Int32.ofNat (own_st kb i % 64))) &&& (own_mk (kb i))).toInt32)), (.int (Int32.ofNat i)), (.ref x2)])) rfl rfl (hb hby d10_40)) ?_
    show ownGo p.tables e below T319 (mkF m 41 #[.val (.ref x0), .val (.ref x1), .val (.ref x2), .val (.int (Int32.ofNat i))] [(.int (lo i)), (.int (((own_lushr (wv (own_st kb i / 64)) (Int32.ofNat (own_st kb i % 64))) &&& (own_mk (kb i))).toInt32)), (.int (Int32.ofNat i)), (.ref x2)]) _
    refine ownGo.st (fun _ k => XS.iadd X319.here hx rfl (hb hby d10_41) rfl k) ?_
    show ownGo p.tables e below T319 (mkF m 42 #[.val (.ref x0), .val (.ref x1), .val (.ref x2), .val (.int (Int32.ofNat i))] [(.int ((((own_lushr (wv (own_st kb i / 64)) (Int32.ofNat (own_st kb i % 64))) &&& (own_mk (kb i))).toInt32) + (lo i))), (.int (Int32.ofNat i)), (.ref x2)]) _
    obtain ⟨T320, h320, X320, e320, W320, V_x2_320, st320⟩ := own_iastore X319 hx hZ e319 V2 (i := i) rfl (by omega) (g := (mkF m 42 #[.val (.ref x0), .val (.ref x1), .val (.ref x2), .val (.int (Int32.ofNat i))] [(.int ((((own_lushr (wv (own_st kb i / 64)) (Int32.ofNat (own_st kb i % 64))) &&& (own_mk (kb i))).toInt32) + (lo i))), (.int (Int32.ofNat i)), (.ref x2)])) rfl rfl (hb hby d10_42)
    have F1_321 := F1.other W320 (Or.inl ne_x0)
    have F2_322 := F2.other W320 (Or.inl ne_x0)
    have G1_323 := G1.other W320 (Or.inl ne_x0)
    have G2_324 := G2.other W320 (Or.inl ne_x0)
    have G3_325 := G3.other W320 (Or.inl ne_x0)
    have G4_326 := G4.other W320 (Or.inl ne_x0)
    have VL_327 := VL.other W320 ne_lb
    have Vw_328 := Vw.other W320 ne_w
    have Vs_329 := Vs.other W320 ne_sh
    have Vk_330 := Vk.other W320 ne_k
    have V1_331 := V1.other W320 ne_x1
    have N320 := Fr.snoc X320 N0 gz_x2
    have Z320 : n0 ≤ h320.size := Nat.le_trans Z1 (Nat.le_of_eq W320.size.symm)
    have K320 := K0.wr W320 (Or.inl (List.mem_singleton.mpr rfl))
    refine ownGo.st (st320) ?_
    show ownGo p.tables e below T320 (mkF m 43 #[.val (.ref x0), .val (.ref x1), .val (.ref x2), .val (.int (Int32.ofNat i))] []) _
    refine ownGo.st (fun _ k => XS.iinc X320.here hx rfl (hb hby d10_43) rfl (l' := #[.val (.ref x0), .val (.ref x1), .val (.ref x2), .val (.int ((Int32.ofNat i) + (1 : Int32)))]) rfl k) ?_
    show ownGo p.tables e below T320 (mkF m 46 #[.val (.ref x0), .val (.ref x1), .val (.ref x2), .val (.int ((Int32.ofNat i) + (1 : Int32)))] []) _
    refine ownGo.st (fun _ k => XS.goto X320.here hx rfl (pc0 := 46) (pc' := 2) rfl (hb hby d10_46) (by decide) (by decide) k) ?_
    show ownGo p.tables e below T320 (mkF m 2 #[.val (.ref x0), .val (.ref x1), .val (.ref x2), .val (.int ((Int32.ofNat i) + (1 : Int32)))] []) _
    rw [show Int32.ofNat i + (1 : Int32) = Int32.ofNat (i + 1) from (Int32.ofNat_add i 1).symm]
    exact ih (i + 1) (by omega) T320 h320 _ _ X320 e320 N320 Z320 K320 F1_321 F2_322 G1_323 G2_324 G3_325 G4_326 VL_327 Vw_328 Vs_329 Vk_330 V1_331 V_x2_320 (own_upto (g := fun i => .int (own_un wv lo kb i)) hf)
theorem pn_10 : plainName "com/example/ningbo/ningbo/engine/StateLayout" = true := by first | (simp [plainName, overriddenIn]; done) | decide +kernel
theorem ef_10 (m : MethodId) (x0 : Addr) (x1 : Addr) (x2 : Addr) : entryFrame m #[(.ref x0), (.ref x1), (.ref x2)] 4 = mkF m 0 #[.val (.ref x0), .val (.ref x1), .val (.ref x2), .unset] [] := by first | (simp [entryFrame, mkF, argsToLocals, Value.category]; done) | rfl
set_option maxRecDepth 65536 in
set_option maxHeartbeats 40000000 in
theorem rm10 (l : Launch) (Z : State) (a0 : Array Value) (hw : ∀ d ∈ tables_1, d.before a0 Z = true) (x0 x1 x2 A B : Addr) (lo : Nat → Int32) (kb : Nat → Nat) (wv : Nat → Int64) (f : Nat → Value) (h0 : Heap) (n0 : Nat) (Z0 : n0 ≤ h0.size) (gz_x2 : n0 ≤ x2) (hne : x1 ≠ x2) (far : x2 < A ∨ B ≤ x2) (hk32 : ∀ i, i < 3 → kb i ≤ 32) (Y : ownLay Z h0 A B x0 3 lo kb) (V1 : ownA Z h0 x1 .long 2 (fun j => .long (wv j))) (V2 : ownA Z h0 x2 .int 3 f) :
    MetFree l (⟨"com/example/ningbo/ningbo/engine/StateLayout", "unpack", "([J[I)V"⟩ : MethodName) (head1 [Jvm.Cond.code (⟨"com/example/ningbo/ningbo/engine/StateLayout", "unpack", "([J[I)V"⟩ : MethodName) prog_49_method_9_code 4 none] R10) (fun a U => a = #[(.ref x0), (.ref x1), (.ref x2)] ∧ Z.Warmed39 U.vm ∧ U.heap = h0) (fun _ _ _ _ _ => True) (fun _ U o U' => ∃ v L, o = .returned v ∧ ownRead Z x2 (own_un wv lo kb) h0 n0 v U'.heap L ∧ FrameEnd U o U' L R10.cells R10.slots) := by
  refine MetFree.of_bodySF (plainFor_of_name pn_10) hisR ?_
  intro p e s m args below meth c s₁ Bd hml0 hP hK
  obtain ⟨rfl, hZ, hh⟩ := hP
  have hx := Bd.exec
  have hby := Bd.bytes
  have hml : c.maxLocals = 4 := hml0
  have hown : s.vm.findClass "com/example/ningbo/ningbo/engine/StateLayout" = some m.cls := findClass_of_methodNamed Bd.named
  have hnm := (name_of_methodNamed Bd.named Bd.method).1
  have hret := Bd.returns
  have hlk : meth.locks = false := BodyLoose.notSynchronized Bd
  have X0 : Stand p l e R10 s m #[(.ref x0), (.ref x1), (.ref x2)] below meth c s₁ [] 0 0 := Stand.of_body Bd
  have e0 : s₁.heap = h0 := by rw [← hh, Bd.state]; rfl
  have N0 := Fr.nil n0
  show ownGo p.tables e below s₁ (entryFrame m #[(.ref x0), (.ref x1), (.ref x2)] 4) (ownDone s (ownRead Z x2 (own_un wv lo kb) h0 n0) R10.cells R10.slots)
  rw [ef_10 m x0 x1 x2]
  obtain ⟨o1, Ex, F1, F2, lb, w, sh, k, r1, r2, r3, r4, G1, G2, G3, G4, VL, Vw, Vs, Vk⟩ := Y
  show ownGo p.tables e below s₁ (mkF m 0 #[.val (.ref x0), .val (.ref x1), .val (.ref x2), .unset] []) _
  refine ownGo.st (fun _ k => XS.iconst X0.here hx rfl (hb hby d10_0)  k) ?_
  show ownGo p.tables e below s₁ (mkF m 1 #[.val (.ref x0), .val (.ref x1), .val (.ref x2), .unset] [(.int (0 : Int32))]) _
  refine ownGo.st (fun _ k => XS.istoreN X0.here hx rfl (hb hby d10_1) rfl (l' := #[.val (.ref x0), .val (.ref x1), .val (.ref x2), .val (.int (0 : Int32))]) rfl k) ?_
  show ownGo p.tables e below s₁ (mkF m 2 #[.val (.ref x0), .val (.ref x1), .val (.ref x2), .val (.int (0 : Int32))] []) _
  exact own_loopU hx hZ hw hby hml hown hret hlk x0 x1 x2 lb w sh k lo kb wv hk32 gz_x2 (own_far o1 far) hne (own_far r1 far) (own_far r2 far) (own_far r3 far) (own_far r4 far) 3 0 rfl s₁ h0 _ _ X0 e0 N0 Z0 (Keep.refl _ _) F1 F2 G1 G2 G3 G4 VL Vw Vs Vk V1 V2 (fun j hj => absurd hj (Nat.not_lt_zero j))
theorem d7_0 : decode method_3_code 0 = .ok (.iload_n 1, 1) := by decide +kernel
theorem d7_1 : decode method_3_code 1 = .ok (.i2l, 1) := by decide +kernel
theorem d7_2 : decode method_3_code 2 = .ok (.iload_n 0, 1) := by decide +kernel
theorem d7_3 : decode method_3_code 3 = .ok (.i2l, 1) := by decide +kernel
theorem d7_4 : decode method_3_code 4 = .ok (.lsub, 1) := by decide +kernel
theorem d7_5 : decode method_3_code 5 = .ok (.lstore 4, 2) := by decide +kernel
theorem d7_7 : decode method_3_code 7 = .ok (.iload_n 0, 1) := by decide +kernel
theorem d7_8 : decode method_3_code 8 = .ok (.i2l, 1) := by decide +kernel
theorem d7_9 : decode method_3_code 9 = .ok (.lload_n 2, 1) := by decide +kernel
theorem d7_10 : decode method_3_code 10 = .ok (.ldc2_w 41, 3) := by decide +kernel
theorem d7_13 : decode method_3_code 13 = .ok (.land, 1) := by decide +kernel
theorem d7_14 : decode method_3_code 14 = .ok (.lload 4, 2) := by decide +kernel
theorem d7_16 : decode method_3_code 16 = .ok (.lconst 1, 1) := by decide +kernel
theorem d7_17 : decode method_3_code 17 = .ok (.ladd, 1) := by decide +kernel
theorem d7_18 : decode method_3_code 18 = .ok (.lrem, 1) := by decide +kernel
theorem d7_19 : decode method_3_code 19 = .ok (.ladd, 1) := by decide +kernel
theorem d7_20 : decode method_3_code 20 = .ok (.l2i, 1) := by decide +kernel
theorem d7_21 : decode method_3_code 21 = .ok (.ireturn, 1) := by decide +kernel
abbrev R7 : Room := { frames := 0, cells := 0, slots := 0, locals := 0 }
theorem pn_7 : plainName "com/example/ningbo/ningbo/engine/StateLayoutSetPinLaw" = true := by first | (simp [plainName, overriddenIn]; done) | decide +kernel
theorem ef_7 (m : MethodId) (x0 : Int32) (x1 : Int32) (x2 : Int64) : entryFrame m #[(.int x0), (.int x1), (.long x2)] 6 = mkF m 0 #[.val (.int x0), .val (.int x1), .val (.long x2), .second, .unset, .unset] [] := by first | (simp [entryFrame, mkF, argsToLocals, Value.category]; done) | rfl
set_option maxRecDepth 65536 in
set_option maxHeartbeats 40000000 in
theorem rm7 (l : Launch) (Z : State) (a0 : Array Value) (hw : ∀ d ∈ tables_1, d.before a0 Z = true) (x0 x1 : Int32) (x2 : Int64) (h0 : Heap) (n0 : Nat) (nz : (x1.toInt64 - x0.toInt64) + (1 : Int64) ≠ 0) :
    MetFree l (⟨"com/example/ningbo/ningbo/engine/StateLayoutSetPinLaw", "pick", "(IIJ)I"⟩ : MethodName) (head1 [Jvm.Cond.code (⟨"com/example/ningbo/ningbo/engine/StateLayoutSetPinLaw", "pick", "(IIJ)I"⟩ : MethodName) method_3_code 6 (some .int)] R7) (fun a U => a = #[(.int x0), (.int x1), (.long x2)] ∧ Z.Warmed39 U.vm ∧ U.heap = h0) (fun _ _ _ _ _ => True) (fun _ U o U' => ∃ v L, o = .returned v ∧ ownPure (.int (own_pick x0 x1 x2)) h0 n0 v U'.heap L ∧ FrameEnd U o U' L R7.cells R7.slots) := by
  refine MetFree.of_bodySF (plainFor_of_name pn_7) hisR ?_
  intro p e s m args below meth c s₁ Bd hml0 hP hK
  obtain ⟨rfl, hZ, hh⟩ := hP
  have hx := Bd.exec
  have hby := Bd.bytes
  have hml : c.maxLocals = 6 := hml0
  have hown : s.vm.findClass "com/example/ningbo/ningbo/engine/StateLayoutSetPinLaw" = some m.cls := findClass_of_methodNamed Bd.named
  have hnm := (name_of_methodNamed Bd.named Bd.method).1
  have hret := Bd.returns
  have hlk : meth.locks = false := BodyLoose.notSynchronized Bd
  have X0 : Stand p l e R7 s m #[(.int x0), (.int x1), (.long x2)] below meth c s₁ [] 0 0 := Stand.of_body Bd
  have e0 : s₁.heap = h0 := by rw [← hh, Bd.state]; rfl
  have N0 := Fr.nil n0
  show ownGo p.tables e below s₁ (entryFrame m #[(.int x0), (.int x1), (.long x2)] 6) (ownDone s (ownPure (.int (own_pick x0 x1 x2)) h0 n0) R7.cells R7.slots)
  rw [ef_7 m x0 x1 x2]
  show ownGo p.tables e below s₁ (mkF m 0 #[.val (.int x0), .val (.int x1), .val (.long x2), .second, .unset, .unset] []) _
  refine ownGo.st (fun _ k => XS.iloadN X0.here hx rfl (hb hby d7_0) rfl k) ?_
  show ownGo p.tables e below s₁ (mkF m 1 #[.val (.int x0), .val (.int x1), .val (.long x2), .second, .unset, .unset] [(.int x1)]) _
  refine ownGo.st (fun _ k => XS.i2l X0.here hx rfl (hb hby d7_1) rfl k) ?_
  show ownGo p.tables e below s₁ (mkF m 2 #[.val (.int x0), .val (.int x1), .val (.long x2), .second, .unset, .unset] [(.long (x1.toInt64))]) _
  refine ownGo.st (fun _ k => XS.iloadN X0.here hx rfl (hb hby d7_2) rfl k) ?_
  show ownGo p.tables e below s₁ (mkF m 3 #[.val (.int x0), .val (.int x1), .val (.long x2), .second, .unset, .unset] [(.int x0), (.long (x1.toInt64))]) _
  refine ownGo.st (fun _ k => XS.i2l X0.here hx rfl (hb hby d7_3) rfl k) ?_
  show ownGo p.tables e below s₁ (mkF m 4 #[.val (.int x0), .val (.int x1), .val (.long x2), .second, .unset, .unset] [(.long (x0.toInt64)), (.long (x1.toInt64))]) _
  refine ownGo.st (fun _ k => XS.lsub X0.here hx rfl (hb hby d7_4) rfl k) ?_
  show ownGo p.tables e below s₁ (mkF m 5 #[.val (.int x0), .val (.int x1), .val (.long x2), .second, .unset, .unset] [(.long ((x1.toInt64) - (x0.toInt64)))]) _
  refine ownGo.st (fun _ k => XS.lstore X0.here hx rfl (hb hby d7_5) rfl (l' := #[.val (.int x0), .val (.int x1), .val (.long x2), .second, .val (.long ((x1.toInt64) - (x0.toInt64))), .second]) rfl k) ?_
  show ownGo p.tables e below s₁ (mkF m 7 #[.val (.int x0), .val (.int x1), .val (.long x2), .second, .val (.long ((x1.toInt64) - (x0.toInt64))), .second] []) _
  refine ownGo.st (fun _ k => XS.iloadN X0.here hx rfl (hb hby d7_7) rfl k) ?_
  show ownGo p.tables e below s₁ (mkF m 8 #[.val (.int x0), .val (.int x1), .val (.long x2), .second, .val (.long ((x1.toInt64) - (x0.toInt64))), .second] [(.int x0)]) _
  refine ownGo.st (fun _ k => XS.i2l X0.here hx rfl (hb hby d7_8) rfl k) ?_
  show ownGo p.tables e below s₁ (mkF m 9 #[.val (.int x0), .val (.int x1), .val (.long x2), .second, .val (.long ((x1.toInt64) - (x0.toInt64))), .second] [(.long (x0.toInt64))]) _
  refine ownGo.st (fun _ k => XS.lloadN X0.here hx rfl (hb hby d7_9) rfl k) ?_
  show ownGo p.tables e below s₁ (mkF m 10 #[.val (.int x0), .val (.int x1), .val (.long x2), .second, .val (.long ((x1.toInt64) - (x0.toInt64))), .second] [(.long x2), (.long (x0.toInt64))]) _
  refine ownGo.st (X0.ldc2Long hx hown (mvT hZ (own_at hw 55 rfl)) (g := (mkF m 10 #[.val (.int x0), .val (.int x1), .val (.long x2), .second, .val (.long ((x1.toInt64) - (x0.toInt64))), .second] [(.long x2), (.long (x0.toInt64))])) rfl (hb hby d7_10)) ?_
  show ownGo p.tables e below s₁ (mkF m 13 #[.val (.int x0), .val (.int x1), .val (.long x2), .second, .val (.long ((x1.toInt64) - (x0.toInt64))), .second] [(.long (4294967295 : Int64)), (.long x2), (.long (x0.toInt64))]) _
  refine ownGo.st (fun _ k => XS.land X0.here hx rfl (hb hby d7_13) rfl k) ?_
  show ownGo p.tables e below s₁ (mkF m 14 #[.val (.int x0), .val (.int x1), .val (.long x2), .second, .val (.long ((x1.toInt64) - (x0.toInt64))), .second] [(.long (x2 &&& (4294967295 : Int64))), (.long (x0.toInt64))]) _
  refine ownGo.st (fun _ k => XS.lload X0.here hx rfl (hb hby d7_14) rfl k) ?_
  show ownGo p.tables e below s₁ (mkF m 16 #[.val (.int x0), .val (.int x1), .val (.long x2), .second, .val (.long ((x1.toInt64) - (x0.toInt64))), .second] [(.long ((x1.toInt64) - (x0.toInt64))), (.long (x2 &&& (4294967295 : Int64))), (.long (x0.toInt64))]) _
  refine ownGo.st (fun _ k => XS.lconst X0.here hx rfl (hb hby d7_16)  k) ?_
  show ownGo p.tables e below s₁ (mkF m 17 #[.val (.int x0), .val (.int x1), .val (.long x2), .second, .val (.long ((x1.toInt64) - (x0.toInt64))), .second] [(.long (1 : Int64)), (.long ((x1.toInt64) - (x0.toInt64))), (.long (x2 &&& (4294967295 : Int64))), (.long (x0.toInt64))]) _
  refine ownGo.st (fun _ k => XS.ladd X0.here hx rfl (hb hby d7_17) rfl k) ?_
  show ownGo p.tables e below s₁ (mkF m 18 #[.val (.int x0), .val (.int x1), .val (.long x2), .second, .val (.long ((x1.toInt64) - (x0.toInt64))), .second] [(.long (((x1.toInt64) - (x0.toInt64)) + (1 : Int64))), (.long (x2 &&& (4294967295 : Int64))), (.long (x0.toInt64))]) _
  refine ownGo.st (fun _ k => own_lrem X0 hx rfl (hb hby d7_18) rfl nz k) ?_
  show ownGo p.tables e below s₁ (mkF m 19 #[.val (.int x0), .val (.int x1), .val (.long x2), .second, .val (.long ((x1.toInt64) - (x0.toInt64))), .second] [(.long ((x2 &&& (4294967295 : Int64)) % (((x1.toInt64) - (x0.toInt64)) + (1 : Int64)))), (.long (x0.toInt64))]) _
  refine ownGo.st (fun _ k => XS.ladd X0.here hx rfl (hb hby d7_19) rfl k) ?_
  show ownGo p.tables e below s₁ (mkF m 20 #[.val (.int x0), .val (.int x1), .val (.long x2), .second, .val (.long ((x1.toInt64) - (x0.toInt64))), .second] [(.long ((x0.toInt64) + ((x2 &&& (4294967295 : Int64)) % (((x1.toInt64) - (x0.toInt64)) + (1 : Int64)))))]) _
  refine ownGo.st (fun _ k => XS.l2i X0.here hx rfl (hb hby d7_20) rfl k) ?_
  show ownGo p.tables e below s₁ (mkF m 21 #[.val (.int x0), .val (.int x1), .val (.long x2), .second, .val (.long ((x1.toInt64) - (x0.toInt64))), .second] [(.int (((x0.toInt64) + ((x2 &&& (4294967295 : Int64)) % (((x1.toInt64) - (x0.toInt64)) + (1 : Int64)))).toInt32))]) _
  exact own_retI X0 hx hlk hret (hb hby d7_21) ⟨rfl, N0, e0⟩ (Nat.le_refl _) (Nat.le_refl _)
def Q0 (n0 : Nat) (v : Option Value) (h : Heap) (L : List Loc) : Prop := v = some (.int 1) ∧ Fr n0 L
theorem pd___I_I_V : parseMethodDescriptor "([I[I)V" = some ⟨[(.array .int), (.array .int)], none⟩ := by decide +kernel
theorem pd__IIJ_I : parseMethodDescriptor "(IIJ)I" = some ⟨[.int, .int, .long], some .int⟩ := by decide +kernel
theorem pd___I_J_V : parseMethodDescriptor "([I[J)V" = some ⟨[(.array .int), (.array .long)], none⟩ := by decide +kernel
theorem pd___JII_V : parseMethodDescriptor "([JII)V" = some ⟨[(.array .long), .int, .int], none⟩ := by decide +kernel
theorem pd___J_I_V : parseMethodDescriptor "([J[I)V" = some ⟨[(.array .long), (.array .int)], none⟩ := by decide +kernel
theorem pn_0 : plainName "com/example/ningbo/ningbo/engine/StateLayoutSetPinLaw" = true := by first | (simp [plainName, overriddenIn]; done) | decide +kernel
theorem ef_0 (m : MethodId) (x0 : Int64) (x1 : Int64) (x2 : Int64) (x3 : Int64) (x4 : Int64) (x5 : Int64) : entryFrame m #[(.long x0), (.long x1), (.long x2), (.long x3), (.long x4), (.long x5)] maxLocals = mkF m 0 #[.val (.long x0), .second, .val (.long x1), .second, .val (.long x2), .second, .val (.long x3), .second, .val (.long x4), .second, .val (.long x5), .second, .unset, .unset, .unset, .unset, .unset, .unset, .unset, .unset, .unset, .unset] [] := by first | (simp [entryFrame, mkF, argsToLocals, Value.category, maxLocals]; done) | rfl
set_option maxRecDepth 65536 in
set_option maxHeartbeats 40000000 in
theorem rm0 (l : Launch) (Z : State) (a0 : Array Value) (hw : ∀ d ∈ tables_1, d.before a0 Z = true) (x0 : Int64) (x1 : Int64) (x2 : Int64) (x3 : Int64) (x4 : Int64) (x5 : Int64) (h0 : Heap) (n0 : Nat) (Z0 : n0 ≤ h0.size) :
    MetFree l x (head1 (Jvm.Cond.code x code maxLocals ret :: tables_1) room_1) (fun a U => a = #[(.long x0), (.long x1), (.long x2), (.long x3), (.long x4), (.long x5)] ∧ Z.Warmed39 U.vm ∧ U.heap = h0) (fun _ _ _ _ _ => True) (fun _ U o U' => ∃ v L, o = .returned v ∧ Q0 n0 v U'.heap L ∧ FrameEnd U o U' L room_1.cells room_1.slots) := by
  refine MetFree.of_bodySF (plainFor_of_name pn_0) hisR ?_
  intro p e s m args below meth c s₁ Bd hml0 hP hK
  obtain ⟨rfl, hZ, hh⟩ := hP
  have hx := Bd.exec
  have hby := Bd.bytes
  have hml : c.maxLocals = 22 := hml0
  have hown : s.vm.findClass "com/example/ningbo/ningbo/engine/StateLayoutSetPinLaw" = some m.cls := findClass_of_methodNamed Bd.named
  have hnm := (name_of_methodNamed Bd.named Bd.method).1
  have hret := Bd.returns
  have hlk : meth.locks = false := BodyLoose.notSynchronized Bd
  have X0 : Stand p l e room_1 s m #[(.long x0), (.long x1), (.long x2), (.long x3), (.long x4), (.long x5)] below meth c s₁ [] 0 0 := Stand.of_body Bd
  have e0 : s₁.heap = h0 := by rw [← hh, Bd.state]; rfl
  have N0 := Fr.nil n0
  show ownGo p.tables e below s₁ (entryFrame m #[(.long x0), (.long x1), (.long x2), (.long x3), (.long x4), (.long x5)] maxLocals) (ownDone s (Q0 n0) room_1.cells room_1.slots)
  rw [ef_0 m x0 x1 x2 x3 x4 x5]
  show ownGo p.tables e below s₁ (mkF m 0 #[.val (.long x0), .second, .val (.long x1), .second, .val (.long x2), .second, .val (.long x3), .second, .val (.long x4), .second, .val (.long x5), .second, .unset, .unset, .unset, .unset, .unset, .unset, .unset, .unset, .unset, .unset] []) _
  refine ownGo.st (fun _ k => XS.iconst X0.here hx rfl (hb hby at_0)  k) ?_
  show ownGo p.tables e below s₁ (mkF m 1 #[.val (.long x0), .second, .val (.long x1), .second, .val (.long x2), .second, .val (.long x3), .second, .val (.long x4), .second, .val (.long x5), .second, .unset, .unset, .unset, .unset, .unset, .unset, .unset, .unset, .unset, .unset] [(.int (3 : Int32))]) _
  obtain ⟨T332, h332, a1, X332, e332, E332, V_a1, Ex_a1, g_a1, st332⟩ := own_newarray (aty := .int) X0 hx hZ (own_at hw 0 rfl) e0 3 3 (by decide) (by decide) (by decide) (by decide) (ad := "[I") (by rfl) rfl (z := (3 : Int32)) rfl (g := (mkF m 1 #[.val (.long x0), .second, .val (.long x1), .second, .val (.long x2), .second, .val (.long x3), .second, .val (.long x4), .second, .val (.long x5), .second, .unset, .unset, .unset, .unset, .unset, .unset, .unset, .unset, .unset, .unset] [(.int (3 : Int32))])) rfl (hb hby at_1) rfl
  have gz_a1 : n0 ≤ a1 := Nat.le_trans Z0 (Nat.le_of_eq g_a1.symm)
  have Z332 : n0 ≤ h332.size := Nat.le_trans Z0 E332.1
  refine ownGo.st (st332) ?_
  show ownGo p.tables e below T332 (mkF m 3 #[.val (.long x0), .second, .val (.long x1), .second, .val (.long x2), .second, .val (.long x3), .second, .val (.long x4), .second, .val (.long x5), .second, .unset, .unset, .unset, .unset, .unset, .unset, .unset, .unset, .unset, .unset] [(.ref a1)]) _
  refine ownGo.st (fun _ k => XS.astore X332.here hx rfl (hb hby at_3) rfl rfl (l' := #[.val (.long x0), .second, .val (.long x1), .second, .val (.long x2), .second, .val (.long x3), .second, .val (.long x4), .second, .val (.long x5), .second, .val (.ref a1), .unset, .unset, .unset, .unset, .unset, .unset, .unset, .unset, .unset]) rfl k) ?_
  show ownGo p.tables e below T332 (mkF m 5 #[.val (.long x0), .second, .val (.long x1), .second, .val (.long x2), .second, .val (.long x3), .second, .val (.long x4), .second, .val (.long x5), .second, .val (.ref a1), .unset, .unset, .unset, .unset, .unset, .unset, .unset, .unset, .unset] []) _
  refine ownGo.st (fun _ k => XS.iconst X332.here hx rfl (hb hby at_5)  k) ?_
  show ownGo p.tables e below T332 (mkF m 6 #[.val (.long x0), .second, .val (.long x1), .second, .val (.long x2), .second, .val (.long x3), .second, .val (.long x4), .second, .val (.long x5), .second, .val (.ref a1), .unset, .unset, .unset, .unset, .unset, .unset, .unset, .unset, .unset] [(.int (3 : Int32))]) _
  obtain ⟨T333, h333, a2, X333, e333, E333, V_a2, Ex_a2, g_a2, st333⟩ := own_newarray (aty := .int) X332 hx hZ (own_at hw 0 rfl) e332 3 3 (by decide) (by decide) (by decide) (by decide) (ad := "[I") (by rfl) rfl (z := (3 : Int32)) rfl (g := (mkF m 6 #[.val (.long x0), .second, .val (.long x1), .second, .val (.long x2), .second, .val (.long x3), .second, .val (.long x4), .second, .val (.long x5), .second, .val (.ref a1), .unset, .unset, .unset, .unset, .unset, .unset, .unset, .unset, .unset] [(.int (3 : Int32))])) rfl (hb hby at_6) rfl
  have gz_a2 : n0 ≤ a2 := Nat.le_trans Z332 (Nat.le_of_eq g_a2.symm)
  have ne_a1_a2 : a1 ≠ a2 := Nat.ne_of_lt (Nat.lt_of_lt_of_le V_a1.lt (Nat.le_of_eq g_a2.symm))
  have V_a1_334 := V_a1.ext E333
  have Ex_a1_335 := Ex_a1.ext E333
  have Z333 : n0 ≤ h333.size := Nat.le_trans Z332 E333.1
  refine ownGo.st (st333) ?_
  show ownGo p.tables e below T333 (mkF m 8 #[.val (.long x0), .second, .val (.long x1), .second, .val (.long x2), .second, .val (.long x3), .second, .val (.long x4), .second, .val (.long x5), .second, .val (.ref a1), .unset, .unset, .unset, .unset, .unset, .unset, .unset, .unset, .unset] [(.ref a2)]) _
  have hle0 := own_mm (x0.toInt32) ((own_lshr x0 (32 : Int32)).toInt32)
  obtain ⟨l0, el0⟩ : ∃ z, z = F1 (x0.toInt32) ((own_lshr x0 (32 : Int32)).toInt32) := ⟨_, rfl⟩
  obtain ⟨u0, eu0⟩ : ∃ z, z = F2 (x0.toInt32) ((own_lshr x0 (32 : Int32)).toInt32) := ⟨_, rfl⟩
  rw [← el0, ← eu0] at hle0
  refine ownGo.st (fun _ k => XS.astore X333.here hx rfl (hb hby at_8) rfl rfl (l' := #[.val (.long x0), .second, .val (.long x1), .second, .val (.long x2), .second, .val (.long x3), .second, .val (.long x4), .second, .val (.long x5), .second, .val (.ref a1), .val (.ref a2), .unset, .unset, .unset, .unset, .unset, .unset, .unset, .unset]) rfl k) ?_
  show ownGo p.tables e below T333 (mkF m 10 #[.val (.long x0), .second, .val (.long x1), .second, .val (.long x2), .second, .val (.long x3), .second, .val (.long x4), .second, .val (.long x5), .second, .val (.ref a1), .val (.ref a2), .unset, .unset, .unset, .unset, .unset, .unset, .unset, .unset] []) _
  refine ownGo.st (fun _ k => XS.aload X333.here hx rfl (hb hby at_10) rfl rfl k) ?_
  show ownGo p.tables e below T333 (mkF m 12 #[.val (.long x0), .second, .val (.long x1), .second, .val (.long x2), .second, .val (.long x3), .second, .val (.long x4), .second, .val (.long x5), .second, .val (.ref a1), .val (.ref a2), .unset, .unset, .unset, .unset, .unset, .unset, .unset, .unset] [(.ref a1)]) _
  refine ownGo.st (fun _ k => XS.iconst X333.here hx rfl (hb hby at_12)  k) ?_
  show ownGo p.tables e below T333 (mkF m 13 #[.val (.long x0), .second, .val (.long x1), .second, .val (.long x2), .second, .val (.long x3), .second, .val (.long x4), .second, .val (.long x5), .second, .val (.ref a1), .val (.ref a2), .unset, .unset, .unset, .unset, .unset, .unset, .unset, .unset] [(.int (0 : Int32)), (.ref a1)]) _
  refine ownGo.st (fun _ k => XS.lloadN X333.here hx rfl (hb hby at_13) rfl k) ?_
  show ownGo p.tables e below T333 (mkF m 14 #[.val (.long x0), .second, .val (.long x1), .second, .val (.long x2), .second, .val (.long x3), .second, .val (.long x4), .second, .val (.long x5), .second, .val (.ref a1), .val (.ref a2), .unset, .unset, .unset, .unset, .unset, .unset, .unset, .unset] [(.long x0), (.int (0 : Int32)), (.ref a1)]) _
  refine ownGo.st (fun _ k => XS.l2i X333.here hx rfl (hb hby at_14) rfl k) ?_
  show ownGo p.tables e below T333 (mkF m 15 #[.val (.long x0), .second, .val (.long x1), .second, .val (.long x2), .second, .val (.long x3), .second, .val (.long x4), .second, .val (.long x5), .second, .val (.ref a1), .val (.ref a2), .unset, .unset, .unset, .unset, .unset, .unset, .unset, .unset] [(.int (x0.toInt32)), (.int (0 : Int32)), (.ref a1)]) _
  refine ownGo.st (fun _ k => XS.lloadN X333.here hx rfl (hb hby at_15) rfl k) ?_
  show ownGo p.tables e below T333 (mkF m 16 #[.val (.long x0), .second, .val (.long x1), .second, .val (.long x2), .second, .val (.long x3), .second, .val (.long x4), .second, .val (.long x5), .second, .val (.ref a1), .val (.ref a2), .unset, .unset, .unset, .unset, .unset, .unset, .unset, .unset] [(.long x0), (.int (x0.toInt32)), (.int (0 : Int32)), (.ref a1)]) _
  refine ownGo.st (fun _ k => XS.bipush X333.here hx rfl (hb hby at_16)  k) ?_
  show ownGo p.tables e below T333 (mkF m 18 #[.val (.long x0), .second, .val (.long x1), .second, .val (.long x2), .second, .val (.long x3), .second, .val (.long x4), .second, .val (.long x5), .second, .val (.ref a1), .val (.ref a2), .unset, .unset, .unset, .unset, .unset, .unset, .unset, .unset] [(.int (32 : Int32)), (.long x0), (.int (x0.toInt32)), (.int (0 : Int32)), (.ref a1)]) _
  refine ownGo.st (fun _ k => XS.lshr X333.here hx rfl (hb hby at_18) rfl k) ?_
  show ownGo p.tables e below T333 (mkF m 19 #[.val (.long x0), .second, .val (.long x1), .second, .val (.long x2), .second, .val (.long x3), .second, .val (.long x4), .second, .val (.long x5), .second, .val (.ref a1), .val (.ref a2), .unset, .unset, .unset, .unset, .unset, .unset, .unset, .unset] [(.long (own_lshr x0 (32 : Int32))), (.int (x0.toInt32)), (.int (0 : Int32)), (.ref a1)]) _
  refine ownGo.st (fun _ k => XS.l2i X333.here hx rfl (hb hby at_19) rfl k) ?_
  show ownGo p.tables e below T333 (mkF m 20 #[.val (.long x0), .second, .val (.long x1), .second, .val (.long x2), .second, .val (.long x3), .second, .val (.long x4), .second, .val (.long x5), .second, .val (.ref a1), .val (.ref a2), .unset, .unset, .unset, .unset, .unset, .unset, .unset, .unset] [(.int ((own_lshr x0 (32 : Int32)).toInt32)), (.int (x0.toInt32)), (.int (0 : Int32)), (.ref a1)]) _
  obtain ⟨_, T336, L336, X336, hQ336, st336⟩ := own_callS X333 hx hZ hown (own_at hw 1 rfl) (own_at hw 2 rfl) (own_at hw 3 rfl) (own_at hw 4 rfl) (by decide) (rm1 l Z a0 hw (x0.toInt32) ((own_lshr x0 (32 : Int32)).toInt32) h333 n0) 2 (by decide) (by decide) e333 (by decide) (by decide) (g := (mkF m 20 #[.val (.long x0), .second, .val (.long x1), .second, .val (.long x2), .second, .val (.long x3), .second, .val (.long x4), .second, .val (.long x5), .second, .val (.ref a1), .val (.ref a2), .unset, .unset, .unset, .unset, .unset, .unset, .unset, .unset] [(.int ((own_lshr x0 (32 : Int32)).toInt32)), (.int (x0.toInt32)), (.int (0 : Int32)), (.ref a1)])) rfl (by rw [hml]; rfl) (argsL := [(.int (x0.toInt32)), (.int ((own_lshr x0 (32 : Int32)).toInt32))]) (rest := [(.int (0 : Int32)), (.ref a1)]) (lenOf pd__II_I rfl) rfl (by show 2 * 0 + _ ≤ _; exact Nat.le_of_eq rfl) (hb hby at_20)
  obtain ⟨rfl, N336q, e336⟩ := hQ336
  have N336 := Fr.app N0 N336q
  refine ownGo.st st336 ?_
  show ownGo p.tables e below T336 (mkF m 23 #[.val (.long x0), .second, .val (.long x1), .second, .val (.long x2), .second, .val (.long x3), .second, .val (.long x4), .second, .val (.long x5), .second, .val (.ref a1), .val (.ref a2), .unset, .unset, .unset, .unset, .unset, .unset, .unset, .unset] [(.int (F1 (x0.toInt32) ((own_lshr x0 (32 : Int32)).toInt32))), (.int (0 : Int32)), (.ref a1)]) _
  rw [← el0]
  show ownGo p.tables e below T336 (mkF m 23 #[.val (.long x0), .second, .val (.long x1), .second, .val (.long x2), .second, .val (.long x3), .second, .val (.long x4), .second, .val (.long x5), .second, .val (.ref a1), .val (.ref a2), .unset, .unset, .unset, .unset, .unset, .unset, .unset, .unset] [(.int l0), (.int (0 : Int32)), (.ref a1)]) _
  obtain ⟨T337, h337, X337, e337, W337, V_a1_337, st337⟩ := own_iastore X336 hx hZ e336 V_a1_334 (i := 0) rfl (by decide) (g := (mkF m 23 #[.val (.long x0), .second, .val (.long x1), .second, .val (.long x2), .second, .val (.long x3), .second, .val (.long x4), .second, .val (.long x5), .second, .val (.ref a1), .val (.ref a2), .unset, .unset, .unset, .unset, .unset, .unset, .unset, .unset] [(.int l0), (.int (0 : Int32)), (.ref a1)])) rfl rfl (hb hby at_23)
  have Ex_a1_338 := Ex_a1_335.wr W337
  have V_a2_339 := V_a2.other W337 (Ne.symm ne_a1_a2)
  have Ex_a2_340 := Ex_a2.wr W337
  have N337 := Fr.snoc X337 N336 gz_a1
  have Z337 : n0 ≤ h337.size := Nat.le_trans Z333 (Nat.le_of_eq W337.size.symm)
  refine ownGo.st (st337) ?_
  show ownGo p.tables e below T337 (mkF m 24 #[.val (.long x0), .second, .val (.long x1), .second, .val (.long x2), .second, .val (.long x3), .second, .val (.long x4), .second, .val (.long x5), .second, .val (.ref a1), .val (.ref a2), .unset, .unset, .unset, .unset, .unset, .unset, .unset, .unset] []) _
  refine ownGo.st (fun _ k => XS.aload X337.here hx rfl (hb hby at_24) rfl rfl k) ?_
  show ownGo p.tables e below T337 (mkF m 26 #[.val (.long x0), .second, .val (.long x1), .second, .val (.long x2), .second, .val (.long x3), .second, .val (.long x4), .second, .val (.long x5), .second, .val (.ref a1), .val (.ref a2), .unset, .unset, .unset, .unset, .unset, .unset, .unset, .unset] [(.ref a2)]) _
  refine ownGo.st (fun _ k => XS.iconst X337.here hx rfl (hb hby at_26)  k) ?_
  show ownGo p.tables e below T337 (mkF m 27 #[.val (.long x0), .second, .val (.long x1), .second, .val (.long x2), .second, .val (.long x3), .second, .val (.long x4), .second, .val (.long x5), .second, .val (.ref a1), .val (.ref a2), .unset, .unset, .unset, .unset, .unset, .unset, .unset, .unset] [(.int (0 : Int32)), (.ref a2)]) _
  refine ownGo.st (fun _ k => XS.lloadN X337.here hx rfl (hb hby at_27) rfl k) ?_
  show ownGo p.tables e below T337 (mkF m 28 #[.val (.long x0), .second, .val (.long x1), .second, .val (.long x2), .second, .val (.long x3), .second, .val (.long x4), .second, .val (.long x5), .second, .val (.ref a1), .val (.ref a2), .unset, .unset, .unset, .unset, .unset, .unset, .unset, .unset] [(.long x0), (.int (0 : Int32)), (.ref a2)]) _
  refine ownGo.st (fun _ k => XS.l2i X337.here hx rfl (hb hby at_28) rfl k) ?_
  show ownGo p.tables e below T337 (mkF m 29 #[.val (.long x0), .second, .val (.long x1), .second, .val (.long x2), .second, .val (.long x3), .second, .val (.long x4), .second, .val (.long x5), .second, .val (.ref a1), .val (.ref a2), .unset, .unset, .unset, .unset, .unset, .unset, .unset, .unset] [(.int (x0.toInt32)), (.int (0 : Int32)), (.ref a2)]) _
  refine ownGo.st (fun _ k => XS.lloadN X337.here hx rfl (hb hby at_29) rfl k) ?_
  show ownGo p.tables e below T337 (mkF m 30 #[.val (.long x0), .second, .val (.long x1), .second, .val (.long x2), .second, .val (.long x3), .second, .val (.long x4), .second, .val (.long x5), .second, .val (.ref a1), .val (.ref a2), .unset, .unset, .unset, .unset, .unset, .unset, .unset, .unset] [(.long x0), (.int (x0.toInt32)), (.int (0 : Int32)), (.ref a2)]) _
  refine ownGo.st (fun _ k => XS.bipush X337.here hx rfl (hb hby at_30)  k) ?_
  show ownGo p.tables e below T337 (mkF m 32 #[.val (.long x0), .second, .val (.long x1), .second, .val (.long x2), .second, .val (.long x3), .second, .val (.long x4), .second, .val (.long x5), .second, .val (.ref a1), .val (.ref a2), .unset, .unset, .unset, .unset, .unset, .unset, .unset, .unset] [(.int (32 : Int32)), (.long x0), (.int (x0.toInt32)), (.int (0 : Int32)), (.ref a2)]) _
  refine ownGo.st (fun _ k => XS.lshr X337.here hx rfl (hb hby at_32) rfl k) ?_
  show ownGo p.tables e below T337 (mkF m 33 #[.val (.long x0), .second, .val (.long x1), .second, .val (.long x2), .second, .val (.long x3), .second, .val (.long x4), .second, .val (.long x5), .second, .val (.ref a1), .val (.ref a2), .unset, .unset, .unset, .unset, .unset, .unset, .unset, .unset] [(.long (own_lshr x0 (32 : Int32))), (.int (x0.toInt32)), (.int (0 : Int32)), (.ref a2)]) _
  refine ownGo.st (fun _ k => XS.l2i X337.here hx rfl (hb hby at_33) rfl k) ?_
  show ownGo p.tables e below T337 (mkF m 34 #[.val (.long x0), .second, .val (.long x1), .second, .val (.long x2), .second, .val (.long x3), .second, .val (.long x4), .second, .val (.long x5), .second, .val (.ref a1), .val (.ref a2), .unset, .unset, .unset, .unset, .unset, .unset, .unset, .unset] [(.int ((own_lshr x0 (32 : Int32)).toInt32)), (.int (x0.toInt32)), (.int (0 : Int32)), (.ref a2)]) _
  obtain ⟨_, T341, L341, X341, hQ341, st341⟩ := own_callS X337 hx hZ hown (own_at hw 5 rfl) (own_at hw 6 rfl) (own_at hw 3 rfl) (own_at hw 7 rfl) (by decide) (rm2 l Z a0 hw (x0.toInt32) ((own_lshr x0 (32 : Int32)).toInt32) h337 n0) 2 (by decide) (by decide) e337 (by decide) (by decide) (g := (mkF m 34 #[.val (.long x0), .second, .val (.long x1), .second, .val (.long x2), .second, .val (.long x3), .second, .val (.long x4), .second, .val (.long x5), .second, .val (.ref a1), .val (.ref a2), .unset, .unset, .unset, .unset, .unset, .unset, .unset, .unset] [(.int ((own_lshr x0 (32 : Int32)).toInt32)), (.int (x0.toInt32)), (.int (0 : Int32)), (.ref a2)])) rfl (by rw [hml]; rfl) (argsL := [(.int (x0.toInt32)), (.int ((own_lshr x0 (32 : Int32)).toInt32))]) (rest := [(.int (0 : Int32)), (.ref a2)]) (lenOf pd__II_I rfl) rfl (by show 2 * 0 + _ ≤ _; exact Nat.le_of_eq rfl) (hb hby at_34)
  obtain ⟨rfl, N341q, e341⟩ := hQ341
  have N341 := Fr.app N337 N341q
  refine ownGo.st st341 ?_
  show ownGo p.tables e below T341 (mkF m 37 #[.val (.long x0), .second, .val (.long x1), .second, .val (.long x2), .second, .val (.long x3), .second, .val (.long x4), .second, .val (.long x5), .second, .val (.ref a1), .val (.ref a2), .unset, .unset, .unset, .unset, .unset, .unset, .unset, .unset] [(.int (F2 (x0.toInt32) ((own_lshr x0 (32 : Int32)).toInt32))), (.int (0 : Int32)), (.ref a2)]) _
  rw [← eu0]
  show ownGo p.tables e below T341 (mkF m 37 #[.val (.long x0), .second, .val (.long x1), .second, .val (.long x2), .second, .val (.long x3), .second, .val (.long x4), .second, .val (.long x5), .second, .val (.ref a1), .val (.ref a2), .unset, .unset, .unset, .unset, .unset, .unset, .unset, .unset] [(.int u0), (.int (0 : Int32)), (.ref a2)]) _
  obtain ⟨T342, h342, X342, e342, W342, V_a2_342, st342⟩ := own_iastore X341 hx hZ e341 V_a2_339 (i := 0) rfl (by decide) (g := (mkF m 37 #[.val (.long x0), .second, .val (.long x1), .second, .val (.long x2), .second, .val (.long x3), .second, .val (.long x4), .second, .val (.long x5), .second, .val (.ref a1), .val (.ref a2), .unset, .unset, .unset, .unset, .unset, .unset, .unset, .unset] [(.int u0), (.int (0 : Int32)), (.ref a2)])) rfl rfl (hb hby at_37)
  have V_a1_343 := V_a1_337.other W342 ne_a1_a2
  have Ex_a1_344 := Ex_a1_338.wr W342
  have Ex_a2_345 := Ex_a2_340.wr W342
  have N342 := Fr.snoc X342 N341 gz_a2
  have Z342 : n0 ≤ h342.size := Nat.le_trans Z337 (Nat.le_of_eq W342.size.symm)
  refine ownGo.st (st342) ?_
  show ownGo p.tables e below T342 (mkF m 38 #[.val (.long x0), .second, .val (.long x1), .second, .val (.long x2), .second, .val (.long x3), .second, .val (.long x4), .second, .val (.long x5), .second, .val (.ref a1), .val (.ref a2), .unset, .unset, .unset, .unset, .unset, .unset, .unset, .unset] []) _
  have hle1 := own_mm (x1.toInt32) ((own_lshr x1 (32 : Int32)).toInt32)
  obtain ⟨l1, el1⟩ : ∃ z, z = F1 (x1.toInt32) ((own_lshr x1 (32 : Int32)).toInt32) := ⟨_, rfl⟩
  obtain ⟨u1, eu1⟩ : ∃ z, z = F2 (x1.toInt32) ((own_lshr x1 (32 : Int32)).toInt32) := ⟨_, rfl⟩
  rw [← el1, ← eu1] at hle1
  refine ownGo.st (fun _ k => XS.aload X342.here hx rfl (hb hby at_38) rfl rfl k) ?_
  show ownGo p.tables e below T342 (mkF m 40 #[.val (.long x0), .second, .val (.long x1), .second, .val (.long x2), .second, .val (.long x3), .second, .val (.long x4), .second, .val (.long x5), .second, .val (.ref a1), .val (.ref a2), .unset, .unset, .unset, .unset, .unset, .unset, .unset, .unset] [(.ref a1)]) _
  refine ownGo.st (fun _ k => XS.iconst X342.here hx rfl (hb hby at_40)  k) ?_
  show ownGo p.tables e below T342 (mkF m 41 #[.val (.long x0), .second, .val (.long x1), .second, .val (.long x2), .second, .val (.long x3), .second, .val (.long x4), .second, .val (.long x5), .second, .val (.ref a1), .val (.ref a2), .unset, .unset, .unset, .unset, .unset, .unset, .unset, .unset] [(.int (1 : Int32)), (.ref a1)]) _
  refine ownGo.st (fun _ k => XS.lloadN X342.here hx rfl (hb hby at_41) rfl k) ?_
  show ownGo p.tables e below T342 (mkF m 42 #[.val (.long x0), .second, .val (.long x1), .second, .val (.long x2), .second, .val (.long x3), .second, .val (.long x4), .second, .val (.long x5), .second, .val (.ref a1), .val (.ref a2), .unset, .unset, .unset, .unset, .unset, .unset, .unset, .unset] [(.long x1), (.int (1 : Int32)), (.ref a1)]) _
  refine ownGo.st (fun _ k => XS.l2i X342.here hx rfl (hb hby at_42) rfl k) ?_
  show ownGo p.tables e below T342 (mkF m 43 #[.val (.long x0), .second, .val (.long x1), .second, .val (.long x2), .second, .val (.long x3), .second, .val (.long x4), .second, .val (.long x5), .second, .val (.ref a1), .val (.ref a2), .unset, .unset, .unset, .unset, .unset, .unset, .unset, .unset] [(.int (x1.toInt32)), (.int (1 : Int32)), (.ref a1)]) _
  refine ownGo.st (fun _ k => XS.lloadN X342.here hx rfl (hb hby at_43) rfl k) ?_
  show ownGo p.tables e below T342 (mkF m 44 #[.val (.long x0), .second, .val (.long x1), .second, .val (.long x2), .second, .val (.long x3), .second, .val (.long x4), .second, .val (.long x5), .second, .val (.ref a1), .val (.ref a2), .unset, .unset, .unset, .unset, .unset, .unset, .unset, .unset] [(.long x1), (.int (x1.toInt32)), (.int (1 : Int32)), (.ref a1)]) _
  refine ownGo.st (fun _ k => XS.bipush X342.here hx rfl (hb hby at_44)  k) ?_
  show ownGo p.tables e below T342 (mkF m 46 #[.val (.long x0), .second, .val (.long x1), .second, .val (.long x2), .second, .val (.long x3), .second, .val (.long x4), .second, .val (.long x5), .second, .val (.ref a1), .val (.ref a2), .unset, .unset, .unset, .unset, .unset, .unset, .unset, .unset] [(.int (32 : Int32)), (.long x1), (.int (x1.toInt32)), (.int (1 : Int32)), (.ref a1)]) _
  refine ownGo.st (fun _ k => XS.lshr X342.here hx rfl (hb hby at_46) rfl k) ?_
  show ownGo p.tables e below T342 (mkF m 47 #[.val (.long x0), .second, .val (.long x1), .second, .val (.long x2), .second, .val (.long x3), .second, .val (.long x4), .second, .val (.long x5), .second, .val (.ref a1), .val (.ref a2), .unset, .unset, .unset, .unset, .unset, .unset, .unset, .unset] [(.long (own_lshr x1 (32 : Int32))), (.int (x1.toInt32)), (.int (1 : Int32)), (.ref a1)]) _
  refine ownGo.st (fun _ k => XS.l2i X342.here hx rfl (hb hby at_47) rfl k) ?_
  show ownGo p.tables e below T342 (mkF m 48 #[.val (.long x0), .second, .val (.long x1), .second, .val (.long x2), .second, .val (.long x3), .second, .val (.long x4), .second, .val (.long x5), .second, .val (.ref a1), .val (.ref a2), .unset, .unset, .unset, .unset, .unset, .unset, .unset, .unset] [(.int ((own_lshr x1 (32 : Int32)).toInt32)), (.int (x1.toInt32)), (.int (1 : Int32)), (.ref a1)]) _
  obtain ⟨_, T346, L346, X346, hQ346, st346⟩ := own_callS X342 hx hZ hown (own_at hw 1 rfl) (own_at hw 2 rfl) (own_at hw 3 rfl) (own_at hw 4 rfl) (by decide) (rm1 l Z a0 hw (x1.toInt32) ((own_lshr x1 (32 : Int32)).toInt32) h342 n0) 2 (by decide) (by decide) e342 (by decide) (by decide) (g := (mkF m 48 #[.val (.long x0), .second, .val (.long x1), .second, .val (.long x2), .second, .val (.long x3), .second, .val (.long x4), .second, .val (.long x5), .second, .val (.ref a1), .val (.ref a2), .unset, .unset, .unset, .unset, .unset, .unset, .unset, .unset] [(.int ((own_lshr x1 (32 : Int32)).toInt32)), (.int (x1.toInt32)), (.int (1 : Int32)), (.ref a1)])) rfl (by rw [hml]; rfl) (argsL := [(.int (x1.toInt32)), (.int ((own_lshr x1 (32 : Int32)).toInt32))]) (rest := [(.int (1 : Int32)), (.ref a1)]) (lenOf pd__II_I rfl) rfl (by show 2 * 0 + _ ≤ _; exact Nat.le_of_eq rfl) (hb hby at_48)
  obtain ⟨rfl, N346q, e346⟩ := hQ346
  have N346 := Fr.app N342 N346q
  refine ownGo.st st346 ?_
  show ownGo p.tables e below T346 (mkF m 51 #[.val (.long x0), .second, .val (.long x1), .second, .val (.long x2), .second, .val (.long x3), .second, .val (.long x4), .second, .val (.long x5), .second, .val (.ref a1), .val (.ref a2), .unset, .unset, .unset, .unset, .unset, .unset, .unset, .unset] [(.int (F1 (x1.toInt32) ((own_lshr x1 (32 : Int32)).toInt32))), (.int (1 : Int32)), (.ref a1)]) _
  rw [← el1]
  show ownGo p.tables e below T346 (mkF m 51 #[.val (.long x0), .second, .val (.long x1), .second, .val (.long x2), .second, .val (.long x3), .second, .val (.long x4), .second, .val (.long x5), .second, .val (.ref a1), .val (.ref a2), .unset, .unset, .unset, .unset, .unset, .unset, .unset, .unset] [(.int l1), (.int (1 : Int32)), (.ref a1)]) _
  obtain ⟨T347, h347, X347, e347, W347, V_a1_347, st347⟩ := own_iastore X346 hx hZ e346 V_a1_343 (i := 1) rfl (by decide) (g := (mkF m 51 #[.val (.long x0), .second, .val (.long x1), .second, .val (.long x2), .second, .val (.long x3), .second, .val (.long x4), .second, .val (.long x5), .second, .val (.ref a1), .val (.ref a2), .unset, .unset, .unset, .unset, .unset, .unset, .unset, .unset] [(.int l1), (.int (1 : Int32)), (.ref a1)])) rfl rfl (hb hby at_51)
  have Ex_a1_348 := Ex_a1_344.wr W347
  have V_a2_349 := V_a2_342.other W347 (Ne.symm ne_a1_a2)
  have Ex_a2_350 := Ex_a2_345.wr W347
  have N347 := Fr.snoc X347 N346 gz_a1
  have Z347 : n0 ≤ h347.size := Nat.le_trans Z342 (Nat.le_of_eq W347.size.symm)
  refine ownGo.st (st347) ?_
  show ownGo p.tables e below T347 (mkF m 52 #[.val (.long x0), .second, .val (.long x1), .second, .val (.long x2), .second, .val (.long x3), .second, .val (.long x4), .second, .val (.long x5), .second, .val (.ref a1), .val (.ref a2), .unset, .unset, .unset, .unset, .unset, .unset, .unset, .unset] []) _
  refine ownGo.st (fun _ k => XS.aload X347.here hx rfl (hb hby at_52) rfl rfl k) ?_
  show ownGo p.tables e below T347 (mkF m 54 #[.val (.long x0), .second, .val (.long x1), .second, .val (.long x2), .second, .val (.long x3), .second, .val (.long x4), .second, .val (.long x5), .second, .val (.ref a1), .val (.ref a2), .unset, .unset, .unset, .unset, .unset, .unset, .unset, .unset] [(.ref a2)]) _
  refine ownGo.st (fun _ k => XS.iconst X347.here hx rfl (hb hby at_54)  k) ?_
  show ownGo p.tables e below T347 (mkF m 55 #[.val (.long x0), .second, .val (.long x1), .second, .val (.long x2), .second, .val (.long x3), .second, .val (.long x4), .second, .val (.long x5), .second, .val (.ref a1), .val (.ref a2), .unset, .unset, .unset, .unset, .unset, .unset, .unset, .unset] [(.int (1 : Int32)), (.ref a2)]) _
  refine ownGo.st (fun _ k => XS.lloadN X347.here hx rfl (hb hby at_55) rfl k) ?_
  show ownGo p.tables e below T347 (mkF m 56 #[.val (.long x0), .second, .val (.long x1), .second, .val (.long x2), .second, .val (.long x3), .second, .val (.long x4), .second, .val (.long x5), .second, .val (.ref a1), .val (.ref a2), .unset, .unset, .unset, .unset, .unset, .unset, .unset, .unset] [(.long x1), (.int (1 : Int32)), (.ref a2)]) _
  refine ownGo.st (fun _ k => XS.l2i X347.here hx rfl (hb hby at_56) rfl k) ?_
  show ownGo p.tables e below T347 (mkF m 57 #[.val (.long x0), .second, .val (.long x1), .second, .val (.long x2), .second, .val (.long x3), .second, .val (.long x4), .second, .val (.long x5), .second, .val (.ref a1), .val (.ref a2), .unset, .unset, .unset, .unset, .unset, .unset, .unset, .unset] [(.int (x1.toInt32)), (.int (1 : Int32)), (.ref a2)]) _
  refine ownGo.st (fun _ k => XS.lloadN X347.here hx rfl (hb hby at_57) rfl k) ?_
  show ownGo p.tables e below T347 (mkF m 58 #[.val (.long x0), .second, .val (.long x1), .second, .val (.long x2), .second, .val (.long x3), .second, .val (.long x4), .second, .val (.long x5), .second, .val (.ref a1), .val (.ref a2), .unset, .unset, .unset, .unset, .unset, .unset, .unset, .unset] [(.long x1), (.int (x1.toInt32)), (.int (1 : Int32)), (.ref a2)]) _
  refine ownGo.st (fun _ k => XS.bipush X347.here hx rfl (hb hby at_58)  k) ?_
  show ownGo p.tables e below T347 (mkF m 60 #[.val (.long x0), .second, .val (.long x1), .second, .val (.long x2), .second, .val (.long x3), .second, .val (.long x4), .second, .val (.long x5), .second, .val (.ref a1), .val (.ref a2), .unset, .unset, .unset, .unset, .unset, .unset, .unset, .unset] [(.int (32 : Int32)), (.long x1), (.int (x1.toInt32)), (.int (1 : Int32)), (.ref a2)]) _
  refine ownGo.st (fun _ k => XS.lshr X347.here hx rfl (hb hby at_60) rfl k) ?_
  show ownGo p.tables e below T347 (mkF m 61 #[.val (.long x0), .second, .val (.long x1), .second, .val (.long x2), .second, .val (.long x3), .second, .val (.long x4), .second, .val (.long x5), .second, .val (.ref a1), .val (.ref a2), .unset, .unset, .unset, .unset, .unset, .unset, .unset, .unset] [(.long (own_lshr x1 (32 : Int32))), (.int (x1.toInt32)), (.int (1 : Int32)), (.ref a2)]) _
  refine ownGo.st (fun _ k => XS.l2i X347.here hx rfl (hb hby at_61) rfl k) ?_
  show ownGo p.tables e below T347 (mkF m 62 #[.val (.long x0), .second, .val (.long x1), .second, .val (.long x2), .second, .val (.long x3), .second, .val (.long x4), .second, .val (.long x5), .second, .val (.ref a1), .val (.ref a2), .unset, .unset, .unset, .unset, .unset, .unset, .unset, .unset] [(.int ((own_lshr x1 (32 : Int32)).toInt32)), (.int (x1.toInt32)), (.int (1 : Int32)), (.ref a2)]) _
  obtain ⟨_, T351, L351, X351, hQ351, st351⟩ := own_callS X347 hx hZ hown (own_at hw 5 rfl) (own_at hw 6 rfl) (own_at hw 3 rfl) (own_at hw 7 rfl) (by decide) (rm2 l Z a0 hw (x1.toInt32) ((own_lshr x1 (32 : Int32)).toInt32) h347 n0) 2 (by decide) (by decide) e347 (by decide) (by decide) (g := (mkF m 62 #[.val (.long x0), .second, .val (.long x1), .second, .val (.long x2), .second, .val (.long x3), .second, .val (.long x4), .second, .val (.long x5), .second, .val (.ref a1), .val (.ref a2), .unset, .unset, .unset, .unset, .unset, .unset, .unset, .unset] [(.int ((own_lshr x1 (32 : Int32)).toInt32)), (.int (x1.toInt32)), (.int (1 : Int32)), (.ref a2)])) rfl (by rw [hml]; rfl) (argsL := [(.int (x1.toInt32)), (.int ((own_lshr x1 (32 : Int32)).toInt32))]) (rest := [(.int (1 : Int32)), (.ref a2)]) (lenOf pd__II_I rfl) rfl (by show 2 * 0 + _ ≤ _; exact Nat.le_of_eq rfl) (hb hby at_62)
  obtain ⟨rfl, N351q, e351⟩ := hQ351
  have N351 := Fr.app N347 N351q
  refine ownGo.st st351 ?_
  show ownGo p.tables e below T351 (mkF m 65 #[.val (.long x0), .second, .val (.long x1), .second, .val (.long x2), .second, .val (.long x3), .second, .val (.long x4), .second, .val (.long x5), .second, .val (.ref a1), .val (.ref a2), .unset, .unset, .unset, .unset, .unset, .unset, .unset, .unset] [(.int (F2 (x1.toInt32) ((own_lshr x1 (32 : Int32)).toInt32))), (.int (1 : Int32)), (.ref a2)]) _
  rw [← eu1]
  show ownGo p.tables e below T351 (mkF m 65 #[.val (.long x0), .second, .val (.long x1), .second, .val (.long x2), .second, .val (.long x3), .second, .val (.long x4), .second, .val (.long x5), .second, .val (.ref a1), .val (.ref a2), .unset, .unset, .unset, .unset, .unset, .unset, .unset, .unset] [(.int u1), (.int (1 : Int32)), (.ref a2)]) _
  obtain ⟨T352, h352, X352, e352, W352, V_a2_352, st352⟩ := own_iastore X351 hx hZ e351 V_a2_349 (i := 1) rfl (by decide) (g := (mkF m 65 #[.val (.long x0), .second, .val (.long x1), .second, .val (.long x2), .second, .val (.long x3), .second, .val (.long x4), .second, .val (.long x5), .second, .val (.ref a1), .val (.ref a2), .unset, .unset, .unset, .unset, .unset, .unset, .unset, .unset] [(.int u1), (.int (1 : Int32)), (.ref a2)])) rfl rfl (hb hby at_65)
  have V_a1_353 := V_a1_347.other W352 ne_a1_a2
  have Ex_a1_354 := Ex_a1_348.wr W352
  have Ex_a2_355 := Ex_a2_350.wr W352
  have N352 := Fr.snoc X352 N351 gz_a2
  have Z352 : n0 ≤ h352.size := Nat.le_trans Z347 (Nat.le_of_eq W352.size.symm)
  refine ownGo.st (st352) ?_
  show ownGo p.tables e below T352 (mkF m 66 #[.val (.long x0), .second, .val (.long x1), .second, .val (.long x2), .second, .val (.long x3), .second, .val (.long x4), .second, .val (.long x5), .second, .val (.ref a1), .val (.ref a2), .unset, .unset, .unset, .unset, .unset, .unset, .unset, .unset] []) _
  have hle2 := own_mm (x2.toInt32) ((own_lshr x2 (32 : Int32)).toInt32)
  obtain ⟨l2, el2⟩ : ∃ z, z = F1 (x2.toInt32) ((own_lshr x2 (32 : Int32)).toInt32) := ⟨_, rfl⟩
  obtain ⟨u2, eu2⟩ : ∃ z, z = F2 (x2.toInt32) ((own_lshr x2 (32 : Int32)).toInt32) := ⟨_, rfl⟩
  rw [← el2, ← eu2] at hle2
  refine ownGo.st (fun _ k => XS.aload X352.here hx rfl (hb hby at_66) rfl rfl k) ?_
  show ownGo p.tables e below T352 (mkF m 68 #[.val (.long x0), .second, .val (.long x1), .second, .val (.long x2), .second, .val (.long x3), .second, .val (.long x4), .second, .val (.long x5), .second, .val (.ref a1), .val (.ref a2), .unset, .unset, .unset, .unset, .unset, .unset, .unset, .unset] [(.ref a1)]) _
  refine ownGo.st (fun _ k => XS.iconst X352.here hx rfl (hb hby at_68)  k) ?_
  show ownGo p.tables e below T352 (mkF m 69 #[.val (.long x0), .second, .val (.long x1), .second, .val (.long x2), .second, .val (.long x3), .second, .val (.long x4), .second, .val (.long x5), .second, .val (.ref a1), .val (.ref a2), .unset, .unset, .unset, .unset, .unset, .unset, .unset, .unset] [(.int (2 : Int32)), (.ref a1)]) _
  refine ownGo.st (fun _ k => XS.lload X352.here hx rfl (hb hby at_69) rfl k) ?_
  show ownGo p.tables e below T352 (mkF m 71 #[.val (.long x0), .second, .val (.long x1), .second, .val (.long x2), .second, .val (.long x3), .second, .val (.long x4), .second, .val (.long x5), .second, .val (.ref a1), .val (.ref a2), .unset, .unset, .unset, .unset, .unset, .unset, .unset, .unset] [(.long x2), (.int (2 : Int32)), (.ref a1)]) _
  refine ownGo.st (fun _ k => XS.l2i X352.here hx rfl (hb hby at_71) rfl k) ?_
  show ownGo p.tables e below T352 (mkF m 72 #[.val (.long x0), .second, .val (.long x1), .second, .val (.long x2), .second, .val (.long x3), .second, .val (.long x4), .second, .val (.long x5), .second, .val (.ref a1), .val (.ref a2), .unset, .unset, .unset, .unset, .unset, .unset, .unset, .unset] [(.int (x2.toInt32)), (.int (2 : Int32)), (.ref a1)]) _
  refine ownGo.st (fun _ k => XS.lload X352.here hx rfl (hb hby at_72) rfl k) ?_
  show ownGo p.tables e below T352 (mkF m 74 #[.val (.long x0), .second, .val (.long x1), .second, .val (.long x2), .second, .val (.long x3), .second, .val (.long x4), .second, .val (.long x5), .second, .val (.ref a1), .val (.ref a2), .unset, .unset, .unset, .unset, .unset, .unset, .unset, .unset] [(.long x2), (.int (x2.toInt32)), (.int (2 : Int32)), (.ref a1)]) _
  refine ownGo.st (fun _ k => XS.bipush X352.here hx rfl (hb hby at_74)  k) ?_
  show ownGo p.tables e below T352 (mkF m 76 #[.val (.long x0), .second, .val (.long x1), .second, .val (.long x2), .second, .val (.long x3), .second, .val (.long x4), .second, .val (.long x5), .second, .val (.ref a1), .val (.ref a2), .unset, .unset, .unset, .unset, .unset, .unset, .unset, .unset] [(.int (32 : Int32)), (.long x2), (.int (x2.toInt32)), (.int (2 : Int32)), (.ref a1)]) _
  refine ownGo.st (fun _ k => XS.lshr X352.here hx rfl (hb hby at_76) rfl k) ?_
  show ownGo p.tables e below T352 (mkF m 77 #[.val (.long x0), .second, .val (.long x1), .second, .val (.long x2), .second, .val (.long x3), .second, .val (.long x4), .second, .val (.long x5), .second, .val (.ref a1), .val (.ref a2), .unset, .unset, .unset, .unset, .unset, .unset, .unset, .unset] [(.long (own_lshr x2 (32 : Int32))), (.int (x2.toInt32)), (.int (2 : Int32)), (.ref a1)]) _
  refine ownGo.st (fun _ k => XS.l2i X352.here hx rfl (hb hby at_77) rfl k) ?_
  show ownGo p.tables e below T352 (mkF m 78 #[.val (.long x0), .second, .val (.long x1), .second, .val (.long x2), .second, .val (.long x3), .second, .val (.long x4), .second, .val (.long x5), .second, .val (.ref a1), .val (.ref a2), .unset, .unset, .unset, .unset, .unset, .unset, .unset, .unset] [(.int ((own_lshr x2 (32 : Int32)).toInt32)), (.int (x2.toInt32)), (.int (2 : Int32)), (.ref a1)]) _
  obtain ⟨_, T356, L356, X356, hQ356, st356⟩ := own_callS X352 hx hZ hown (own_at hw 1 rfl) (own_at hw 2 rfl) (own_at hw 3 rfl) (own_at hw 4 rfl) (by decide) (rm1 l Z a0 hw (x2.toInt32) ((own_lshr x2 (32 : Int32)).toInt32) h352 n0) 2 (by decide) (by decide) e352 (by decide) (by decide) (g := (mkF m 78 #[.val (.long x0), .second, .val (.long x1), .second, .val (.long x2), .second, .val (.long x3), .second, .val (.long x4), .second, .val (.long x5), .second, .val (.ref a1), .val (.ref a2), .unset, .unset, .unset, .unset, .unset, .unset, .unset, .unset] [(.int ((own_lshr x2 (32 : Int32)).toInt32)), (.int (x2.toInt32)), (.int (2 : Int32)), (.ref a1)])) rfl (by rw [hml]; rfl) (argsL := [(.int (x2.toInt32)), (.int ((own_lshr x2 (32 : Int32)).toInt32))]) (rest := [(.int (2 : Int32)), (.ref a1)]) (lenOf pd__II_I rfl) rfl (by show 2 * 0 + _ ≤ _; exact Nat.le_of_eq rfl) (hb hby at_78)
  obtain ⟨rfl, N356q, e356⟩ := hQ356
  have N356 := Fr.app N352 N356q
  refine ownGo.st st356 ?_
  show ownGo p.tables e below T356 (mkF m 81 #[.val (.long x0), .second, .val (.long x1), .second, .val (.long x2), .second, .val (.long x3), .second, .val (.long x4), .second, .val (.long x5), .second, .val (.ref a1), .val (.ref a2), .unset, .unset, .unset, .unset, .unset, .unset, .unset, .unset] [(.int (F1 (x2.toInt32) ((own_lshr x2 (32 : Int32)).toInt32))), (.int (2 : Int32)), (.ref a1)]) _
  rw [← el2]
  show ownGo p.tables e below T356 (mkF m 81 #[.val (.long x0), .second, .val (.long x1), .second, .val (.long x2), .second, .val (.long x3), .second, .val (.long x4), .second, .val (.long x5), .second, .val (.ref a1), .val (.ref a2), .unset, .unset, .unset, .unset, .unset, .unset, .unset, .unset] [(.int l2), (.int (2 : Int32)), (.ref a1)]) _
  obtain ⟨T357, h357, X357, e357, W357, V_a1_357, st357⟩ := own_iastore X356 hx hZ e356 V_a1_353 (i := 2) rfl (by decide) (g := (mkF m 81 #[.val (.long x0), .second, .val (.long x1), .second, .val (.long x2), .second, .val (.long x3), .second, .val (.long x4), .second, .val (.long x5), .second, .val (.ref a1), .val (.ref a2), .unset, .unset, .unset, .unset, .unset, .unset, .unset, .unset] [(.int l2), (.int (2 : Int32)), (.ref a1)])) rfl rfl (hb hby at_81)
  have Ex_a1_358 := Ex_a1_354.wr W357
  have V_a2_359 := V_a2_352.other W357 (Ne.symm ne_a1_a2)
  have Ex_a2_360 := Ex_a2_355.wr W357
  have N357 := Fr.snoc X357 N356 gz_a1
  have Z357 : n0 ≤ h357.size := Nat.le_trans Z352 (Nat.le_of_eq W357.size.symm)
  refine ownGo.st (st357) ?_
  show ownGo p.tables e below T357 (mkF m 82 #[.val (.long x0), .second, .val (.long x1), .second, .val (.long x2), .second, .val (.long x3), .second, .val (.long x4), .second, .val (.long x5), .second, .val (.ref a1), .val (.ref a2), .unset, .unset, .unset, .unset, .unset, .unset, .unset, .unset] []) _
  refine ownGo.st (fun _ k => XS.aload X357.here hx rfl (hb hby at_82) rfl rfl k) ?_
  show ownGo p.tables e below T357 (mkF m 84 #[.val (.long x0), .second, .val (.long x1), .second, .val (.long x2), .second, .val (.long x3), .second, .val (.long x4), .second, .val (.long x5), .second, .val (.ref a1), .val (.ref a2), .unset, .unset, .unset, .unset, .unset, .unset, .unset, .unset] [(.ref a2)]) _
  refine ownGo.st (fun _ k => XS.iconst X357.here hx rfl (hb hby at_84)  k) ?_
  show ownGo p.tables e below T357 (mkF m 85 #[.val (.long x0), .second, .val (.long x1), .second, .val (.long x2), .second, .val (.long x3), .second, .val (.long x4), .second, .val (.long x5), .second, .val (.ref a1), .val (.ref a2), .unset, .unset, .unset, .unset, .unset, .unset, .unset, .unset] [(.int (2 : Int32)), (.ref a2)]) _
  refine ownGo.st (fun _ k => XS.lload X357.here hx rfl (hb hby at_85) rfl k) ?_
  show ownGo p.tables e below T357 (mkF m 87 #[.val (.long x0), .second, .val (.long x1), .second, .val (.long x2), .second, .val (.long x3), .second, .val (.long x4), .second, .val (.long x5), .second, .val (.ref a1), .val (.ref a2), .unset, .unset, .unset, .unset, .unset, .unset, .unset, .unset] [(.long x2), (.int (2 : Int32)), (.ref a2)]) _
  refine ownGo.st (fun _ k => XS.l2i X357.here hx rfl (hb hby at_87) rfl k) ?_
  show ownGo p.tables e below T357 (mkF m 88 #[.val (.long x0), .second, .val (.long x1), .second, .val (.long x2), .second, .val (.long x3), .second, .val (.long x4), .second, .val (.long x5), .second, .val (.ref a1), .val (.ref a2), .unset, .unset, .unset, .unset, .unset, .unset, .unset, .unset] [(.int (x2.toInt32)), (.int (2 : Int32)), (.ref a2)]) _
  refine ownGo.st (fun _ k => XS.lload X357.here hx rfl (hb hby at_88) rfl k) ?_
  show ownGo p.tables e below T357 (mkF m 90 #[.val (.long x0), .second, .val (.long x1), .second, .val (.long x2), .second, .val (.long x3), .second, .val (.long x4), .second, .val (.long x5), .second, .val (.ref a1), .val (.ref a2), .unset, .unset, .unset, .unset, .unset, .unset, .unset, .unset] [(.long x2), (.int (x2.toInt32)), (.int (2 : Int32)), (.ref a2)]) _
  refine ownGo.st (fun _ k => XS.bipush X357.here hx rfl (hb hby at_90)  k) ?_
  show ownGo p.tables e below T357 (mkF m 92 #[.val (.long x0), .second, .val (.long x1), .second, .val (.long x2), .second, .val (.long x3), .second, .val (.long x4), .second, .val (.long x5), .second, .val (.ref a1), .val (.ref a2), .unset, .unset, .unset, .unset, .unset, .unset, .unset, .unset] [(.int (32 : Int32)), (.long x2), (.int (x2.toInt32)), (.int (2 : Int32)), (.ref a2)]) _
  refine ownGo.st (fun _ k => XS.lshr X357.here hx rfl (hb hby at_92) rfl k) ?_
  show ownGo p.tables e below T357 (mkF m 93 #[.val (.long x0), .second, .val (.long x1), .second, .val (.long x2), .second, .val (.long x3), .second, .val (.long x4), .second, .val (.long x5), .second, .val (.ref a1), .val (.ref a2), .unset, .unset, .unset, .unset, .unset, .unset, .unset, .unset] [(.long (own_lshr x2 (32 : Int32))), (.int (x2.toInt32)), (.int (2 : Int32)), (.ref a2)]) _
  refine ownGo.st (fun _ k => XS.l2i X357.here hx rfl (hb hby at_93) rfl k) ?_
  show ownGo p.tables e below T357 (mkF m 94 #[.val (.long x0), .second, .val (.long x1), .second, .val (.long x2), .second, .val (.long x3), .second, .val (.long x4), .second, .val (.long x5), .second, .val (.ref a1), .val (.ref a2), .unset, .unset, .unset, .unset, .unset, .unset, .unset, .unset] [(.int ((own_lshr x2 (32 : Int32)).toInt32)), (.int (x2.toInt32)), (.int (2 : Int32)), (.ref a2)]) _
  obtain ⟨_, T361, L361, X361, hQ361, st361⟩ := own_callS X357 hx hZ hown (own_at hw 5 rfl) (own_at hw 6 rfl) (own_at hw 3 rfl) (own_at hw 7 rfl) (by decide) (rm2 l Z a0 hw (x2.toInt32) ((own_lshr x2 (32 : Int32)).toInt32) h357 n0) 2 (by decide) (by decide) e357 (by decide) (by decide) (g := (mkF m 94 #[.val (.long x0), .second, .val (.long x1), .second, .val (.long x2), .second, .val (.long x3), .second, .val (.long x4), .second, .val (.long x5), .second, .val (.ref a1), .val (.ref a2), .unset, .unset, .unset, .unset, .unset, .unset, .unset, .unset] [(.int ((own_lshr x2 (32 : Int32)).toInt32)), (.int (x2.toInt32)), (.int (2 : Int32)), (.ref a2)])) rfl (by rw [hml]; rfl) (argsL := [(.int (x2.toInt32)), (.int ((own_lshr x2 (32 : Int32)).toInt32))]) (rest := [(.int (2 : Int32)), (.ref a2)]) (lenOf pd__II_I rfl) rfl (by show 2 * 0 + _ ≤ _; exact Nat.le_of_eq rfl) (hb hby at_94)
  obtain ⟨rfl, N361q, e361⟩ := hQ361
  have N361 := Fr.app N357 N361q
  refine ownGo.st st361 ?_
  show ownGo p.tables e below T361 (mkF m 97 #[.val (.long x0), .second, .val (.long x1), .second, .val (.long x2), .second, .val (.long x3), .second, .val (.long x4), .second, .val (.long x5), .second, .val (.ref a1), .val (.ref a2), .unset, .unset, .unset, .unset, .unset, .unset, .unset, .unset] [(.int (F2 (x2.toInt32) ((own_lshr x2 (32 : Int32)).toInt32))), (.int (2 : Int32)), (.ref a2)]) _
  rw [← eu2]
  show ownGo p.tables e below T361 (mkF m 97 #[.val (.long x0), .second, .val (.long x1), .second, .val (.long x2), .second, .val (.long x3), .second, .val (.long x4), .second, .val (.long x5), .second, .val (.ref a1), .val (.ref a2), .unset, .unset, .unset, .unset, .unset, .unset, .unset, .unset] [(.int u2), (.int (2 : Int32)), (.ref a2)]) _
  obtain ⟨T362, h362, X362, e362, W362, V_a2_362, st362⟩ := own_iastore X361 hx hZ e361 V_a2_359 (i := 2) rfl (by decide) (g := (mkF m 97 #[.val (.long x0), .second, .val (.long x1), .second, .val (.long x2), .second, .val (.long x3), .second, .val (.long x4), .second, .val (.long x5), .second, .val (.ref a1), .val (.ref a2), .unset, .unset, .unset, .unset, .unset, .unset, .unset, .unset] [(.int u2), (.int (2 : Int32)), (.ref a2)])) rfl rfl (hb hby at_97)
  have V_a1_363 := V_a1_357.other W362 ne_a1_a2
  have Ex_a1_364 := Ex_a1_358.wr W362
  have Ex_a2_365 := Ex_a2_360.wr W362
  have N362 := Fr.snoc X362 N361 gz_a2
  have Z362 : n0 ≤ h362.size := Nat.le_trans Z357 (Nat.le_of_eq W362.size.symm)
  refine ownGo.st (st362) ?_
  show ownGo p.tables e below T362 (mkF m 98 #[.val (.long x0), .second, .val (.long x1), .second, .val (.long x2), .second, .val (.long x3), .second, .val (.long x4), .second, .val (.long x5), .second, .val (.ref a1), .val (.ref a2), .unset, .unset, .unset, .unset, .unset, .unset, .unset, .unset] []) _
  have U_a1 : ownA Z h362 a1 .int 3 (fun i => .int ((own_three l0 l1 l2) i)) := V_a1_363.eq (own_case3 rfl rfl rfl)
  have U_a2 : ownA Z h362 a2 .int 3 (fun i => .int ((own_three u0 u1 u2) i)) := V_a2_362.eq (own_case3 rfl rfl rfl)
  obtain ⟨k0, hb0⟩ : ∃ k, ownBits (u0.toInt64 - l0.toInt64).toInt k := own_bits_ex _ (by rw [own_spn l0 u0 hle0]; omega) (by rw [own_spn l0 u0 hle0]; have := l0.le_toInt; have := u0.toInt_lt; omega)
  obtain ⟨k1, hb1⟩ : ∃ k, ownBits (u1.toInt64 - l1.toInt64).toInt k := own_bits_ex _ (by rw [own_spn l1 u1 hle1]; omega) (by rw [own_spn l1 u1 hle1]; have := l1.le_toInt; have := u1.toInt_lt; omega)
  obtain ⟨k2, hb2⟩ : ∃ k, ownBits (u2.toInt64 - l2.toInt64).toInt k := own_bits_ex _ (by rw [own_spn l2 u2 hle2]; omega) (by rw [own_spn l2 u2 hle2]; have := l2.le_toInt; have := u2.toInt_lt; omega)
  have hbb : ∀ i, i < 3 → ownBits (((own_three u0 u1 u2) i).toInt64 - ((own_three l0 l1 l2) i).toInt64).toInt ((own_threeN k0 k1 k2) i) := own_case3 hb0 hb1 hb2
  have hk32 : ∀ i, i < 3 → (own_threeN k0 k1 k2) i ≤ 32 := fun i hi => (hbb i hi).rng.2.2.1
  have hle : ∀ i, i < 3 → ((own_three l0 l1 l2) i).toInt ≤ ((own_three u0 u1 u2) i).toInt := own_case3 hle0 hle1 hle2
  obtain ⟨T366, h366, X366, e366, E366, Ex_o, D366, -, st366⟩ := newO X362 hx hZ hown (own_at hw 8 rfl) (own_at hw 9 rfl) (own_at hw 10 rfl) e362 (g := (mkF m 98 #[.val (.long x0), .second, .val (.long x1), .second, .val (.long x2), .second, .val (.long x3), .second, .val (.long x4), .second, .val (.long x5), .second, .val (.ref a1), .val (.ref a2), .unset, .unset, .unset, .unset, .unset, .unset, .unset, .unset] [])) rfl (hb hby at_98) (by decide) (by decide)
  obtain ⟨o, g_o⟩ : ∃ z, z = h362.size := ⟨_, rfl⟩
  rw [← g_o] at Ex_o D366 st366
  have gz_o : n0 ≤ o := Nat.le_trans Z362 (Nat.le_of_eq g_o.symm)
  have ne_a1_o : a1 ≠ o := Nat.ne_of_lt (Nat.lt_of_lt_of_le U_a1.lt (Nat.le_of_eq g_o.symm))
  have ne_a2_o : a2 ≠ o := Nat.ne_of_lt (Nat.lt_of_lt_of_le U_a2.lt (Nat.le_of_eq g_o.symm))
  have U_a1_367 := U_a1.ext E366
  have Ex_a1_368 := Ex_a1_364.ext E366
  have U_a2_369 := U_a2.ext E366
  have Ex_a2_370 := Ex_a2_365.ext E366
  have Z366 : n0 ≤ h366.size := Nat.le_trans Z362 E366.1
  have F_width_o : Fld Z h366 o "com/example/ningbo/ningbo/engine/StateLayout" "width" "I" (.int (0 : Int32)) := D366 (Or.inr (own_at hw 18 rfl)) (ty := .int) (by decide)
  have F_lowerBounds_o : Fld Z h366 o "com/example/ningbo/ningbo/engine/StateLayout" "lowerBounds" "[I" .null := D366 (Or.inr (own_at hw 29 rfl)) (ty := (.array .int)) (by decide)
  have F_wordOf_o : Fld Z h366 o "com/example/ningbo/ningbo/engine/StateLayout" "wordOf" "[I" .null := D366 (Or.inr (own_at hw 31 rfl)) (ty := (.array .int)) (by decide)
  have F_shiftOf_o : Fld Z h366 o "com/example/ningbo/ningbo/engine/StateLayout" "shiftOf" "[I" .null := D366 (Or.inr (own_at hw 33 rfl)) (ty := (.array .int)) (by decide)
  have F_maskOf_o : Fld Z h366 o "com/example/ningbo/ningbo/engine/StateLayout" "maskOf" "[J" .null := D366 (Or.inr (own_at hw 36 rfl)) (ty := (.array .long)) (by decide)
  have F_bits_o : Fld Z h366 o "com/example/ningbo/ningbo/engine/StateLayout" "bits" "I" (.int (0 : Int32)) := D366 (Or.inr (own_at hw 47 rfl)) (ty := .int) (by decide)
  have F_words_o : Fld Z h366 o "com/example/ningbo/ningbo/engine/StateLayout" "words" "I" (.int (0 : Int32)) := D366 (Or.inr (own_at hw 50 rfl)) (ty := .int) (by decide)
  refine ownGo.st (st366) ?_
  show ownGo p.tables e below T366 (mkF m 101 #[.val (.long x0), .second, .val (.long x1), .second, .val (.long x2), .second, .val (.long x3), .second, .val (.long x4), .second, .val (.long x5), .second, .val (.ref a1), .val (.ref a2), .unset, .unset, .unset, .unset, .unset, .unset, .unset, .unset] [(.ref o)]) _
  refine ownGo.st (fun _ k => XS.dup X366.here hx rfl (hb hby at_101) rfl rfl k) ?_
  show ownGo p.tables e below T366 (mkF m 102 #[.val (.long x0), .second, .val (.long x1), .second, .val (.long x2), .second, .val (.long x3), .second, .val (.long x4), .second, .val (.long x5), .second, .val (.ref a1), .val (.ref a2), .unset, .unset, .unset, .unset, .unset, .unset, .unset, .unset] [(.ref o), (.ref o)]) _
  refine ownGo.st (fun _ k => XS.aload X366.here hx rfl (hb hby at_102) rfl rfl k) ?_
  show ownGo p.tables e below T366 (mkF m 104 #[.val (.long x0), .second, .val (.long x1), .second, .val (.long x2), .second, .val (.long x3), .second, .val (.long x4), .second, .val (.long x5), .second, .val (.ref a1), .val (.ref a2), .unset, .unset, .unset, .unset, .unset, .unset, .unset, .unset] [(.ref a1), (.ref o), (.ref o)]) _
  refine ownGo.st (fun _ k => XS.aload X366.here hx rfl (hb hby at_104) rfl rfl k) ?_
  show ownGo p.tables e below T366 (mkF m 106 #[.val (.long x0), .second, .val (.long x1), .second, .val (.long x2), .second, .val (.long x3), .second, .val (.long x4), .second, .val (.long x5), .second, .val (.ref a1), .val (.ref a2), .unset, .unset, .unset, .unset, .unset, .unset, .unset, .unset] [(.ref a2), (.ref a1), (.ref o), (.ref o)]) _
  obtain ⟨_, T371, L371, X371, hQ371, st371⟩ := own_callC X366 hx hZ hown rfl (own_at hw 11 rfl) (own_at hw 12 rfl) (own_at hw 10 rfl) (own_at hw 13 rfl) (by decide) (rm3 l Z a0 hw o a1 a2 (own_three l0 l1 l2) (own_three u0 u1 u2) (own_threeN k0 k1 k2) h366 n0 Z366 gz_o (Ne.symm ne_a1_o) (Ne.symm ne_a2_o) Ex_o F_width_o F_lowerBounds_o F_wordOf_o F_shiftOf_o F_maskOf_o F_bits_o F_words_o Ex_a1_368 U_a1_367 U_a2_369 hbb) 1 (by decide) (by decide) e366 (by decide) (by decide) (g := (mkF m 106 #[.val (.long x0), .second, .val (.long x1), .second, .val (.long x2), .second, .val (.long x3), .second, .val (.long x4), .second, .val (.long x5), .second, .val (.ref a1), .val (.ref a2), .unset, .unset, .unset, .unset, .unset, .unset, .unset, .unset] [(.ref a2), (.ref a1), (.ref o), (.ref o)])) rfl (by rw [hml]; rfl) (argsL := [(.ref a1), (.ref a2)]) (rest := [(.ref o)]) (lenOf pd___I_I_V rfl) rfl (by show 2 * 0 + _ ≤ _; exact Nat.le_of_eq rfl) (hb hby at_106)
  obtain ⟨rfl, N371q, K371, Y0⟩ := hQ371
  have N371 := Fr.app N362 N371q
  obtain ⟨BB, eBB⟩ : ∃ z, z = T371.heap.size := ⟨_, rfl⟩
  rw [← eBB] at Y0
  have tB : BB ≤ T371.heap.size := Nat.le_of_eq eBB
  have U_a1_372 := U_a1_367.keep K371 (ninS ne_a1_o nin0)
  have U_a2_373 := U_a2_369.keep K371 (ninS ne_a2_o nin0)
  have Z371 : n0 ≤ T371.heap.size := Nat.le_trans Z366 K371.1
  refine ownGo.st st371 ?_
  show ownGo p.tables e below T371 (mkF m 109 #[.val (.long x0), .second, .val (.long x1), .second, .val (.long x2), .second, .val (.long x3), .second, .val (.long x4), .second, .val (.long x5), .second, .val (.ref a1), .val (.ref a2), .unset, .unset, .unset, .unset, .unset, .unset, .unset, .unset] [(.ref o)]) _
  refine ownGo.st (fun _ k => XS.astore X371.here hx rfl (hb hby at_109) rfl rfl (l' := #[.val (.long x0), .second, .val (.long x1), .second, .val (.long x2), .second, .val (.long x3), .second, .val (.long x4), .second, .val (.long x5), .second, .val (.ref a1), .val (.ref a2), .val (.ref o), .unset, .unset, .unset, .unset, .unset, .unset, .unset]) rfl k) ?_
  show ownGo p.tables e below T371 (mkF m 111 #[.val (.long x0), .second, .val (.long x1), .second, .val (.long x2), .second, .val (.long x3), .second, .val (.long x4), .second, .val (.long x5), .second, .val (.ref a1), .val (.ref a2), .val (.ref o), .unset, .unset, .unset, .unset, .unset, .unset, .unset] []) _
  refine ownGo.st (fun _ k => XS.iconst X371.here hx rfl (hb hby at_111)  k) ?_
  show ownGo p.tables e below T371 (mkF m 112 #[.val (.long x0), .second, .val (.long x1), .second, .val (.long x2), .second, .val (.long x3), .second, .val (.long x4), .second, .val (.long x5), .second, .val (.ref a1), .val (.ref a2), .val (.ref o), .unset, .unset, .unset, .unset, .unset, .unset, .unset] [(.int (3 : Int32))]) _
  obtain ⟨T374, h374, a3, X374, e374, E374, V_a3, Ex_a3, g_a3, st374⟩ := own_newarray (aty := .int) X371 hx hZ (own_at hw 0 rfl) rfl 3 3 (by decide) (by decide) (by decide) (by decide) (ad := "[I") (by rfl) rfl (z := (3 : Int32)) rfl (g := (mkF m 112 #[.val (.long x0), .second, .val (.long x1), .second, .val (.long x2), .second, .val (.long x3), .second, .val (.long x4), .second, .val (.long x5), .second, .val (.ref a1), .val (.ref a2), .val (.ref o), .unset, .unset, .unset, .unset, .unset, .unset, .unset] [(.int (3 : Int32))])) rfl (hb hby at_112) rfl
  have gz_a3 : n0 ≤ a3 := Nat.le_trans Z371 (Nat.le_of_eq g_a3.symm)
  have ne_a1_a3 : a1 ≠ a3 := Nat.ne_of_lt (Nat.lt_of_lt_of_le U_a1_372.lt (Nat.le_of_eq g_a3.symm))
  have ne_a2_a3 : a2 ≠ a3 := Nat.ne_of_lt (Nat.lt_of_lt_of_le U_a2_373.lt (Nat.le_of_eq g_a3.symm))
  have ne_o_a3 : o ≠ a3 := Nat.ne_of_lt (Nat.lt_of_lt_of_le Y0.lt (Nat.le_of_eq g_a3.symm))
  have far_BB_a3 : BB ≤ a3 := Nat.le_trans tB (Nat.le_of_eq g_a3.symm)
  have tr_BB_374 : BB ≤ h374.size := Nat.le_trans tB E374.1
  have U_a1_375 := U_a1_372.ext E374
  have U_a2_376 := U_a2_373.ext E374
  have Y0_377 := Y0.ext E374
  have Z374 : n0 ≤ h374.size := Nat.le_trans Z371 E374.1
  refine ownGo.st (st374) ?_
  show ownGo p.tables e below T374 (mkF m 114 #[.val (.long x0), .second, .val (.long x1), .second, .val (.long x2), .second, .val (.long x3), .second, .val (.long x4), .second, .val (.long x5), .second, .val (.ref a1), .val (.ref a2), .val (.ref o), .unset, .unset, .unset, .unset, .unset, .unset, .unset] [(.ref a3)]) _
  refine ownGo.st (fun _ k => XS.astore X374.here hx rfl (hb hby at_114) rfl rfl (l' := #[.val (.long x0), .second, .val (.long x1), .second, .val (.long x2), .second, .val (.long x3), .second, .val (.long x4), .second, .val (.long x5), .second, .val (.ref a1), .val (.ref a2), .val (.ref o), .val (.ref a3), .unset, .unset, .unset, .unset, .unset, .unset]) rfl k) ?_
  show ownGo p.tables e below T374 (mkF m 116 #[.val (.long x0), .second, .val (.long x1), .second, .val (.long x2), .second, .val (.long x3), .second, .val (.long x4), .second, .val (.long x5), .second, .val (.ref a1), .val (.ref a2), .val (.ref o), .val (.ref a3), .unset, .unset, .unset, .unset, .unset, .unset] []) _
  refine ownGo.st (fun _ k => XS.aload X374.here hx rfl (hb hby at_116) rfl rfl k) ?_
  show ownGo p.tables e below T374 (mkF m 118 #[.val (.long x0), .second, .val (.long x1), .second, .val (.long x2), .second, .val (.long x3), .second, .val (.long x4), .second, .val (.long x5), .second, .val (.ref a1), .val (.ref a2), .val (.ref o), .val (.ref a3), .unset, .unset, .unset, .unset, .unset, .unset] [(.ref a3)]) _
  refine ownGo.st (fun _ k => XS.iconst X374.here hx rfl (hb hby at_118)  k) ?_
  show ownGo p.tables e below T374 (mkF m 119 #[.val (.long x0), .second, .val (.long x1), .second, .val (.long x2), .second, .val (.long x3), .second, .val (.long x4), .second, .val (.long x5), .second, .val (.ref a1), .val (.ref a2), .val (.ref o), .val (.ref a3), .unset, .unset, .unset, .unset, .unset, .unset] [(.int (0 : Int32)), (.ref a3)]) _
  refine ownGo.st (fun _ k => XS.aload X374.here hx rfl (hb hby at_119) rfl rfl k) ?_
  show ownGo p.tables e below T374 (mkF m 121 #[.val (.long x0), .second, .val (.long x1), .second, .val (.long x2), .second, .val (.long x3), .second, .val (.long x4), .second, .val (.long x5), .second, .val (.ref a1), .val (.ref a2), .val (.ref o), .val (.ref a3), .unset, .unset, .unset, .unset, .unset, .unset] [(.ref a1), (.int (0 : Int32)), (.ref a3)]) _
  refine ownGo.st (fun _ k => XS.iconst X374.here hx rfl (hb hby at_121)  k) ?_
  show ownGo p.tables e below T374 (mkF m 122 #[.val (.long x0), .second, .val (.long x1), .second, .val (.long x2), .second, .val (.long x3), .second, .val (.long x4), .second, .val (.long x5), .second, .val (.ref a1), .val (.ref a2), .val (.ref o), .val (.ref a3), .unset, .unset, .unset, .unset, .unset, .unset] [(.int (0 : Int32)), (.ref a1), (.int (0 : Int32)), (.ref a3)]) _
  refine ownGo.st (own_iaload X374 hx hZ e374 U_a1_375 (i := 0) (v := l0) rfl (by decide) rfl (g := (mkF m 122 #[.val (.long x0), .second, .val (.long x1), .second, .val (.long x2), .second, .val (.long x3), .second, .val (.long x4), .second, .val (.long x5), .second, .val (.ref a1), .val (.ref a2), .val (.ref o), .val (.ref a3), .unset, .unset, .unset, .unset, .unset, .unset] [(.int (0 : Int32)), (.ref a1), (.int (0 : Int32)), (.ref a3)])) rfl rfl (hb hby at_122)) ?_
  show ownGo p.tables e below T374 (mkF m 123 #[.val (.long x0), .second, .val (.long x1), .second, .val (.long x2), .second, .val (.long x3), .second, .val (.long x4), .second, .val (.long x5), .second, .val (.ref a1), .val (.ref a2), .val (.ref o), .val (.ref a3), .unset, .unset, .unset, .unset, .unset, .unset] [(.int l0), (.int (0 : Int32)), (.ref a3)]) _
  refine ownGo.st (fun _ k => XS.aload X374.here hx rfl (hb hby at_123) rfl rfl k) ?_
  show ownGo p.tables e below T374 (mkF m 125 #[.val (.long x0), .second, .val (.long x1), .second, .val (.long x2), .second, .val (.long x3), .second, .val (.long x4), .second, .val (.long x5), .second, .val (.ref a1), .val (.ref a2), .val (.ref o), .val (.ref a3), .unset, .unset, .unset, .unset, .unset, .unset] [(.ref a2), (.int l0), (.int (0 : Int32)), (.ref a3)]) _
  refine ownGo.st (fun _ k => XS.iconst X374.here hx rfl (hb hby at_125)  k) ?_
  show ownGo p.tables e below T374 (mkF m 126 #[.val (.long x0), .second, .val (.long x1), .second, .val (.long x2), .second, .val (.long x3), .second, .val (.long x4), .second, .val (.long x5), .second, .val (.ref a1), .val (.ref a2), .val (.ref o), .val (.ref a3), .unset, .unset, .unset, .unset, .unset, .unset] [(.int (0 : Int32)), (.ref a2), (.int l0), (.int (0 : Int32)), (.ref a3)]) _
  refine ownGo.st (own_iaload X374 hx hZ e374 U_a2_376 (i := 0) (v := u0) rfl (by decide) rfl (g := (mkF m 126 #[.val (.long x0), .second, .val (.long x1), .second, .val (.long x2), .second, .val (.long x3), .second, .val (.long x4), .second, .val (.long x5), .second, .val (.ref a1), .val (.ref a2), .val (.ref o), .val (.ref a3), .unset, .unset, .unset, .unset, .unset, .unset] [(.int (0 : Int32)), (.ref a2), (.int l0), (.int (0 : Int32)), (.ref a3)])) rfl rfl (hb hby at_126)) ?_
  show ownGo p.tables e below T374 (mkF m 127 #[.val (.long x0), .second, .val (.long x1), .second, .val (.long x2), .second, .val (.long x3), .second, .val (.long x4), .second, .val (.long x5), .second, .val (.ref a1), .val (.ref a2), .val (.ref o), .val (.ref a3), .unset, .unset, .unset, .unset, .unset, .unset] [(.int u0), (.int l0), (.int (0 : Int32)), (.ref a3)]) _
  refine ownGo.st (fun _ k => XS.lload X374.here hx rfl (hb hby at_127) rfl k) ?_
  show ownGo p.tables e below T374 (mkF m 129 #[.val (.long x0), .second, .val (.long x1), .second, .val (.long x2), .second, .val (.long x3), .second, .val (.long x4), .second, .val (.long x5), .second, .val (.ref a1), .val (.ref a2), .val (.ref o), .val (.ref a3), .unset, .unset, .unset, .unset, .unset, .unset] [(.long x3), (.int u0), (.int l0), (.int (0 : Int32)), (.ref a3)]) _
  obtain ⟨_, T378, L378, X378, hQ378, st378⟩ := own_callS X374 hx hZ hown (own_at hw 51 rfl) (own_at hw 52 rfl) (own_at hw 53 rfl) (own_at hw 54 rfl) (by decide) (rm7 l Z a0 hw l0 u0 x3 h374 n0 (own_spnz _ _ hle0)) 2 (by decide) (by decide) e374 (by decide) (by decide) (g := (mkF m 129 #[.val (.long x0), .second, .val (.long x1), .second, .val (.long x2), .second, .val (.long x3), .second, .val (.long x4), .second, .val (.long x5), .second, .val (.ref a1), .val (.ref a2), .val (.ref o), .val (.ref a3), .unset, .unset, .unset, .unset, .unset, .unset] [(.long x3), (.int u0), (.int l0), (.int (0 : Int32)), (.ref a3)])) rfl (by rw [hml]; rfl) (argsL := [(.int l0), (.int u0), (.long x3)]) (rest := [(.int (0 : Int32)), (.ref a3)]) (lenOf pd__IIJ_I rfl) rfl (by show 2 * 0 + _ ≤ _; exact Nat.le_of_eq rfl) (hb hby at_129)
  obtain ⟨rfl, N378q, e378⟩ := hQ378
  have N378 := Fr.app N371 N378q
  refine ownGo.st st378 ?_
  show ownGo p.tables e below T378 (mkF m 132 #[.val (.long x0), .second, .val (.long x1), .second, .val (.long x2), .second, .val (.long x3), .second, .val (.long x4), .second, .val (.long x5), .second, .val (.ref a1), .val (.ref a2), .val (.ref o), .val (.ref a3), .unset, .unset, .unset, .unset, .unset, .unset] [(.int (own_pick l0 u0 x3)), (.int (0 : Int32)), (.ref a3)]) _
  have hs0 := own_pick_low l0 u0 x3 k0 hle0 hb0
  obtain ⟨s0, es0⟩ : ∃ z, z = own_pick l0 u0 x3 := ⟨_, rfl⟩
  rw [← es0] at hs0
  rw [← es0]
  show ownGo p.tables e below T378 (mkF m 132 #[.val (.long x0), .second, .val (.long x1), .second, .val (.long x2), .second, .val (.long x3), .second, .val (.long x4), .second, .val (.long x5), .second, .val (.ref a1), .val (.ref a2), .val (.ref o), .val (.ref a3), .unset, .unset, .unset, .unset, .unset, .unset] [(.int s0), (.int (0 : Int32)), (.ref a3)]) _
  obtain ⟨T379, h379, X379, e379, W379, V_a3_379, st379⟩ := own_iastore X378 hx hZ e378 V_a3 (i := 0) rfl (by decide) (g := (mkF m 132 #[.val (.long x0), .second, .val (.long x1), .second, .val (.long x2), .second, .val (.long x3), .second, .val (.long x4), .second, .val (.long x5), .second, .val (.ref a1), .val (.ref a2), .val (.ref o), .val (.ref a3), .unset, .unset, .unset, .unset, .unset, .unset] [(.int s0), (.int (0 : Int32)), (.ref a3)])) rfl rfl (hb hby at_132)
  have tr_BB_379 : BB ≤ h379.size := Nat.le_trans tr_BB_374 (Nat.le_of_eq W379.size.symm)
  have U_a1_380 := U_a1_375.other W379 ne_a1_a3
  have U_a2_381 := U_a2_376.other W379 ne_a2_a3
  have Y0_382 := Y0_377.wr W379 (Or.inr far_BB_a3)
  have N379 := Fr.snoc X379 N378 gz_a3
  have Z379 : n0 ≤ h379.size := Nat.le_trans Z374 (Nat.le_of_eq W379.size.symm)
  refine ownGo.st (st379) ?_
  show ownGo p.tables e below T379 (mkF m 133 #[.val (.long x0), .second, .val (.long x1), .second, .val (.long x2), .second, .val (.long x3), .second, .val (.long x4), .second, .val (.long x5), .second, .val (.ref a1), .val (.ref a2), .val (.ref o), .val (.ref a3), .unset, .unset, .unset, .unset, .unset, .unset] []) _
  refine ownGo.st (fun _ k => XS.aload X379.here hx rfl (hb hby at_133) rfl rfl k) ?_
  show ownGo p.tables e below T379 (mkF m 135 #[.val (.long x0), .second, .val (.long x1), .second, .val (.long x2), .second, .val (.long x3), .second, .val (.long x4), .second, .val (.long x5), .second, .val (.ref a1), .val (.ref a2), .val (.ref o), .val (.ref a3), .unset, .unset, .unset, .unset, .unset, .unset] [(.ref a3)]) _
  refine ownGo.st (fun _ k => XS.iconst X379.here hx rfl (hb hby at_135)  k) ?_
  show ownGo p.tables e below T379 (mkF m 136 #[.val (.long x0), .second, .val (.long x1), .second, .val (.long x2), .second, .val (.long x3), .second, .val (.long x4), .second, .val (.long x5), .second, .val (.ref a1), .val (.ref a2), .val (.ref o), .val (.ref a3), .unset, .unset, .unset, .unset, .unset, .unset] [(.int (1 : Int32)), (.ref a3)]) _
  refine ownGo.st (fun _ k => XS.aload X379.here hx rfl (hb hby at_136) rfl rfl k) ?_
  show ownGo p.tables e below T379 (mkF m 138 #[.val (.long x0), .second, .val (.long x1), .second, .val (.long x2), .second, .val (.long x3), .second, .val (.long x4), .second, .val (.long x5), .second, .val (.ref a1), .val (.ref a2), .val (.ref o), .val (.ref a3), .unset, .unset, .unset, .unset, .unset, .unset] [(.ref a1), (.int (1 : Int32)), (.ref a3)]) _
  refine ownGo.st (fun _ k => XS.iconst X379.here hx rfl (hb hby at_138)  k) ?_
  show ownGo p.tables e below T379 (mkF m 139 #[.val (.long x0), .second, .val (.long x1), .second, .val (.long x2), .second, .val (.long x3), .second, .val (.long x4), .second, .val (.long x5), .second, .val (.ref a1), .val (.ref a2), .val (.ref o), .val (.ref a3), .unset, .unset, .unset, .unset, .unset, .unset] [(.int (1 : Int32)), (.ref a1), (.int (1 : Int32)), (.ref a3)]) _
  refine ownGo.st (own_iaload X379 hx hZ e379 U_a1_380 (i := 1) (v := l1) rfl (by decide) rfl (g := (mkF m 139 #[.val (.long x0), .second, .val (.long x1), .second, .val (.long x2), .second, .val (.long x3), .second, .val (.long x4), .second, .val (.long x5), .second, .val (.ref a1), .val (.ref a2), .val (.ref o), .val (.ref a3), .unset, .unset, .unset, .unset, .unset, .unset] [(.int (1 : Int32)), (.ref a1), (.int (1 : Int32)), (.ref a3)])) rfl rfl (hb hby at_139)) ?_
  show ownGo p.tables e below T379 (mkF m 140 #[.val (.long x0), .second, .val (.long x1), .second, .val (.long x2), .second, .val (.long x3), .second, .val (.long x4), .second, .val (.long x5), .second, .val (.ref a1), .val (.ref a2), .val (.ref o), .val (.ref a3), .unset, .unset, .unset, .unset, .unset, .unset] [(.int l1), (.int (1 : Int32)), (.ref a3)]) _
  refine ownGo.st (fun _ k => XS.aload X379.here hx rfl (hb hby at_140) rfl rfl k) ?_
  show ownGo p.tables e below T379 (mkF m 142 #[.val (.long x0), .second, .val (.long x1), .second, .val (.long x2), .second, .val (.long x3), .second, .val (.long x4), .second, .val (.long x5), .second, .val (.ref a1), .val (.ref a2), .val (.ref o), .val (.ref a3), .unset, .unset, .unset, .unset, .unset, .unset] [(.ref a2), (.int l1), (.int (1 : Int32)), (.ref a3)]) _
  refine ownGo.st (fun _ k => XS.iconst X379.here hx rfl (hb hby at_142)  k) ?_
  show ownGo p.tables e below T379 (mkF m 143 #[.val (.long x0), .second, .val (.long x1), .second, .val (.long x2), .second, .val (.long x3), .second, .val (.long x4), .second, .val (.long x5), .second, .val (.ref a1), .val (.ref a2), .val (.ref o), .val (.ref a3), .unset, .unset, .unset, .unset, .unset, .unset] [(.int (1 : Int32)), (.ref a2), (.int l1), (.int (1 : Int32)), (.ref a3)]) _
  refine ownGo.st (own_iaload X379 hx hZ e379 U_a2_381 (i := 1) (v := u1) rfl (by decide) rfl (g := (mkF m 143 #[.val (.long x0), .second, .val (.long x1), .second, .val (.long x2), .second, .val (.long x3), .second, .val (.long x4), .second, .val (.long x5), .second, .val (.ref a1), .val (.ref a2), .val (.ref o), .val (.ref a3), .unset, .unset, .unset, .unset, .unset, .unset] [(.int (1 : Int32)), (.ref a2), (.int l1), (.int (1 : Int32)), (.ref a3)])) rfl rfl (hb hby at_143)) ?_
  show ownGo p.tables e below T379 (mkF m 144 #[.val (.long x0), .second, .val (.long x1), .second, .val (.long x2), .second, .val (.long x3), .second, .val (.long x4), .second, .val (.long x5), .second, .val (.ref a1), .val (.ref a2), .val (.ref o), .val (.ref a3), .unset, .unset, .unset, .unset, .unset, .unset] [(.int u1), (.int l1), (.int (1 : Int32)), (.ref a3)]) _
  refine ownGo.st (fun _ k => XS.lload X379.here hx rfl (hb hby at_144) rfl k) ?_
  show ownGo p.tables e below T379 (mkF m 146 #[.val (.long x0), .second, .val (.long x1), .second, .val (.long x2), .second, .val (.long x3), .second, .val (.long x4), .second, .val (.long x5), .second, .val (.ref a1), .val (.ref a2), .val (.ref o), .val (.ref a3), .unset, .unset, .unset, .unset, .unset, .unset] [(.long x3), (.int u1), (.int l1), (.int (1 : Int32)), (.ref a3)]) _
  refine ownGo.st (fun _ k => XS.bipush X379.here hx rfl (hb hby at_146)  k) ?_
  show ownGo p.tables e below T379 (mkF m 148 #[.val (.long x0), .second, .val (.long x1), .second, .val (.long x2), .second, .val (.long x3), .second, .val (.long x4), .second, .val (.long x5), .second, .val (.ref a1), .val (.ref a2), .val (.ref o), .val (.ref a3), .unset, .unset, .unset, .unset, .unset, .unset] [(.int (32 : Int32)), (.long x3), (.int u1), (.int l1), (.int (1 : Int32)), (.ref a3)]) _
  refine ownGo.st (fun _ k => XS.lushr X379.here hx rfl (hb hby at_148) rfl k) ?_
  show ownGo p.tables e below T379 (mkF m 149 #[.val (.long x0), .second, .val (.long x1), .second, .val (.long x2), .second, .val (.long x3), .second, .val (.long x4), .second, .val (.long x5), .second, .val (.ref a1), .val (.ref a2), .val (.ref o), .val (.ref a3), .unset, .unset, .unset, .unset, .unset, .unset] [(.long (own_lushr x3 (32 : Int32))), (.int u1), (.int l1), (.int (1 : Int32)), (.ref a3)]) _
  obtain ⟨_, T383, L383, X383, hQ383, st383⟩ := own_callS X379 hx hZ hown (own_at hw 51 rfl) (own_at hw 52 rfl) (own_at hw 53 rfl) (own_at hw 54 rfl) (by decide) (rm7 l Z a0 hw l1 u1 (own_lushr x3 (32 : Int32)) h379 n0 (own_spnz _ _ hle1)) 2 (by decide) (by decide) e379 (by decide) (by decide) (g := (mkF m 149 #[.val (.long x0), .second, .val (.long x1), .second, .val (.long x2), .second, .val (.long x3), .second, .val (.long x4), .second, .val (.long x5), .second, .val (.ref a1), .val (.ref a2), .val (.ref o), .val (.ref a3), .unset, .unset, .unset, .unset, .unset, .unset] [(.long (own_lushr x3 (32 : Int32))), (.int u1), (.int l1), (.int (1 : Int32)), (.ref a3)])) rfl (by rw [hml]; rfl) (argsL := [(.int l1), (.int u1), (.long (own_lushr x3 (32 : Int32)))]) (rest := [(.int (1 : Int32)), (.ref a3)]) (lenOf pd__IIJ_I rfl) rfl (by show 2 * 0 + _ ≤ _; exact Nat.le_of_eq rfl) (hb hby at_149)
  obtain ⟨rfl, N383q, e383⟩ := hQ383
  have N383 := Fr.app N379 N383q
  refine ownGo.st st383 ?_
  show ownGo p.tables e below T383 (mkF m 152 #[.val (.long x0), .second, .val (.long x1), .second, .val (.long x2), .second, .val (.long x3), .second, .val (.long x4), .second, .val (.long x5), .second, .val (.ref a1), .val (.ref a2), .val (.ref o), .val (.ref a3), .unset, .unset, .unset, .unset, .unset, .unset] [(.int (own_pick l1 u1 (own_lushr x3 (32 : Int32)))), (.int (1 : Int32)), (.ref a3)]) _
  have hs1 := own_pick_low l1 u1 (own_lushr x3 (32 : Int32)) k1 hle1 hb1
  obtain ⟨s1, es1⟩ : ∃ z, z = own_pick l1 u1 (own_lushr x3 (32 : Int32)) := ⟨_, rfl⟩
  rw [← es1] at hs1
  rw [← es1]
  show ownGo p.tables e below T383 (mkF m 152 #[.val (.long x0), .second, .val (.long x1), .second, .val (.long x2), .second, .val (.long x3), .second, .val (.long x4), .second, .val (.long x5), .second, .val (.ref a1), .val (.ref a2), .val (.ref o), .val (.ref a3), .unset, .unset, .unset, .unset, .unset, .unset] [(.int s1), (.int (1 : Int32)), (.ref a3)]) _
  obtain ⟨T384, h384, X384, e384, W384, V_a3_384, st384⟩ := own_iastore X383 hx hZ e383 V_a3_379 (i := 1) rfl (by decide) (g := (mkF m 152 #[.val (.long x0), .second, .val (.long x1), .second, .val (.long x2), .second, .val (.long x3), .second, .val (.long x4), .second, .val (.long x5), .second, .val (.ref a1), .val (.ref a2), .val (.ref o), .val (.ref a3), .unset, .unset, .unset, .unset, .unset, .unset] [(.int s1), (.int (1 : Int32)), (.ref a3)])) rfl rfl (hb hby at_152)
  have tr_BB_384 : BB ≤ h384.size := Nat.le_trans tr_BB_379 (Nat.le_of_eq W384.size.symm)
  have U_a1_385 := U_a1_380.other W384 ne_a1_a3
  have U_a2_386 := U_a2_381.other W384 ne_a2_a3
  have Y0_387 := Y0_382.wr W384 (Or.inr far_BB_a3)
  have N384 := Fr.snoc X384 N383 gz_a3
  have Z384 : n0 ≤ h384.size := Nat.le_trans Z379 (Nat.le_of_eq W384.size.symm)
  refine ownGo.st (st384) ?_
  show ownGo p.tables e below T384 (mkF m 153 #[.val (.long x0), .second, .val (.long x1), .second, .val (.long x2), .second, .val (.long x3), .second, .val (.long x4), .second, .val (.long x5), .second, .val (.ref a1), .val (.ref a2), .val (.ref o), .val (.ref a3), .unset, .unset, .unset, .unset, .unset, .unset] []) _
  refine ownGo.st (fun _ k => XS.aload X384.here hx rfl (hb hby at_153) rfl rfl k) ?_
  show ownGo p.tables e below T384 (mkF m 155 #[.val (.long x0), .second, .val (.long x1), .second, .val (.long x2), .second, .val (.long x3), .second, .val (.long x4), .second, .val (.long x5), .second, .val (.ref a1), .val (.ref a2), .val (.ref o), .val (.ref a3), .unset, .unset, .unset, .unset, .unset, .unset] [(.ref a3)]) _
  refine ownGo.st (fun _ k => XS.iconst X384.here hx rfl (hb hby at_155)  k) ?_
  show ownGo p.tables e below T384 (mkF m 156 #[.val (.long x0), .second, .val (.long x1), .second, .val (.long x2), .second, .val (.long x3), .second, .val (.long x4), .second, .val (.long x5), .second, .val (.ref a1), .val (.ref a2), .val (.ref o), .val (.ref a3), .unset, .unset, .unset, .unset, .unset, .unset] [(.int (2 : Int32)), (.ref a3)]) _
  refine ownGo.st (fun _ k => XS.aload X384.here hx rfl (hb hby at_156) rfl rfl k) ?_
  show ownGo p.tables e below T384 (mkF m 158 #[.val (.long x0), .second, .val (.long x1), .second, .val (.long x2), .second, .val (.long x3), .second, .val (.long x4), .second, .val (.long x5), .second, .val (.ref a1), .val (.ref a2), .val (.ref o), .val (.ref a3), .unset, .unset, .unset, .unset, .unset, .unset] [(.ref a1), (.int (2 : Int32)), (.ref a3)]) _
  refine ownGo.st (fun _ k => XS.iconst X384.here hx rfl (hb hby at_158)  k) ?_
  show ownGo p.tables e below T384 (mkF m 159 #[.val (.long x0), .second, .val (.long x1), .second, .val (.long x2), .second, .val (.long x3), .second, .val (.long x4), .second, .val (.long x5), .second, .val (.ref a1), .val (.ref a2), .val (.ref o), .val (.ref a3), .unset, .unset, .unset, .unset, .unset, .unset] [(.int (2 : Int32)), (.ref a1), (.int (2 : Int32)), (.ref a3)]) _
  refine ownGo.st (own_iaload X384 hx hZ e384 U_a1_385 (i := 2) (v := l2) rfl (by decide) rfl (g := (mkF m 159 #[.val (.long x0), .second, .val (.long x1), .second, .val (.long x2), .second, .val (.long x3), .second, .val (.long x4), .second, .val (.long x5), .second, .val (.ref a1), .val (.ref a2), .val (.ref o), .val (.ref a3), .unset, .unset, .unset, .unset, .unset, .unset] [(.int (2 : Int32)), (.ref a1), (.int (2 : Int32)), (.ref a3)])) rfl rfl (hb hby at_159)) ?_
  show ownGo p.tables e below T384 (mkF m 160 #[.val (.long x0), .second, .val (.long x1), .second, .val (.long x2), .second, .val (.long x3), .second, .val (.long x4), .second, .val (.long x5), .second, .val (.ref a1), .val (.ref a2), .val (.ref o), .val (.ref a3), .unset, .unset, .unset, .unset, .unset, .unset] [(.int l2), (.int (2 : Int32)), (.ref a3)]) _
  refine ownGo.st (fun _ k => XS.aload X384.here hx rfl (hb hby at_160) rfl rfl k) ?_
  show ownGo p.tables e below T384 (mkF m 162 #[.val (.long x0), .second, .val (.long x1), .second, .val (.long x2), .second, .val (.long x3), .second, .val (.long x4), .second, .val (.long x5), .second, .val (.ref a1), .val (.ref a2), .val (.ref o), .val (.ref a3), .unset, .unset, .unset, .unset, .unset, .unset] [(.ref a2), (.int l2), (.int (2 : Int32)), (.ref a3)]) _
  refine ownGo.st (fun _ k => XS.iconst X384.here hx rfl (hb hby at_162)  k) ?_
  show ownGo p.tables e below T384 (mkF m 163 #[.val (.long x0), .second, .val (.long x1), .second, .val (.long x2), .second, .val (.long x3), .second, .val (.long x4), .second, .val (.long x5), .second, .val (.ref a1), .val (.ref a2), .val (.ref o), .val (.ref a3), .unset, .unset, .unset, .unset, .unset, .unset] [(.int (2 : Int32)), (.ref a2), (.int l2), (.int (2 : Int32)), (.ref a3)]) _
  refine ownGo.st (own_iaload X384 hx hZ e384 U_a2_386 (i := 2) (v := u2) rfl (by decide) rfl (g := (mkF m 163 #[.val (.long x0), .second, .val (.long x1), .second, .val (.long x2), .second, .val (.long x3), .second, .val (.long x4), .second, .val (.long x5), .second, .val (.ref a1), .val (.ref a2), .val (.ref o), .val (.ref a3), .unset, .unset, .unset, .unset, .unset, .unset] [(.int (2 : Int32)), (.ref a2), (.int l2), (.int (2 : Int32)), (.ref a3)])) rfl rfl (hb hby at_163)) ?_
  show ownGo p.tables e below T384 (mkF m 164 #[.val (.long x0), .second, .val (.long x1), .second, .val (.long x2), .second, .val (.long x3), .second, .val (.long x4), .second, .val (.long x5), .second, .val (.ref a1), .val (.ref a2), .val (.ref o), .val (.ref a3), .unset, .unset, .unset, .unset, .unset, .unset] [(.int u2), (.int l2), (.int (2 : Int32)), (.ref a3)]) _
  refine ownGo.st (fun _ k => XS.lload X384.here hx rfl (hb hby at_164) rfl k) ?_
  show ownGo p.tables e below T384 (mkF m 166 #[.val (.long x0), .second, .val (.long x1), .second, .val (.long x2), .second, .val (.long x3), .second, .val (.long x4), .second, .val (.long x5), .second, .val (.ref a1), .val (.ref a2), .val (.ref o), .val (.ref a3), .unset, .unset, .unset, .unset, .unset, .unset] [(.long x4), (.int u2), (.int l2), (.int (2 : Int32)), (.ref a3)]) _
  obtain ⟨_, T388, L388, X388, hQ388, st388⟩ := own_callS X384 hx hZ hown (own_at hw 51 rfl) (own_at hw 52 rfl) (own_at hw 53 rfl) (own_at hw 54 rfl) (by decide) (rm7 l Z a0 hw l2 u2 x4 h384 n0 (own_spnz _ _ hle2)) 2 (by decide) (by decide) e384 (by decide) (by decide) (g := (mkF m 166 #[.val (.long x0), .second, .val (.long x1), .second, .val (.long x2), .second, .val (.long x3), .second, .val (.long x4), .second, .val (.long x5), .second, .val (.ref a1), .val (.ref a2), .val (.ref o), .val (.ref a3), .unset, .unset, .unset, .unset, .unset, .unset] [(.long x4), (.int u2), (.int l2), (.int (2 : Int32)), (.ref a3)])) rfl (by rw [hml]; rfl) (argsL := [(.int l2), (.int u2), (.long x4)]) (rest := [(.int (2 : Int32)), (.ref a3)]) (lenOf pd__IIJ_I rfl) rfl (by show 2 * 0 + _ ≤ _; exact Nat.le_of_eq rfl) (hb hby at_166)
  obtain ⟨rfl, N388q, e388⟩ := hQ388
  have N388 := Fr.app N384 N388q
  refine ownGo.st st388 ?_
  show ownGo p.tables e below T388 (mkF m 169 #[.val (.long x0), .second, .val (.long x1), .second, .val (.long x2), .second, .val (.long x3), .second, .val (.long x4), .second, .val (.long x5), .second, .val (.ref a1), .val (.ref a2), .val (.ref o), .val (.ref a3), .unset, .unset, .unset, .unset, .unset, .unset] [(.int (own_pick l2 u2 x4)), (.int (2 : Int32)), (.ref a3)]) _
  have hs2 := own_pick_low l2 u2 x4 k2 hle2 hb2
  obtain ⟨s2, es2⟩ : ∃ z, z = own_pick l2 u2 x4 := ⟨_, rfl⟩
  rw [← es2] at hs2
  rw [← es2]
  show ownGo p.tables e below T388 (mkF m 169 #[.val (.long x0), .second, .val (.long x1), .second, .val (.long x2), .second, .val (.long x3), .second, .val (.long x4), .second, .val (.long x5), .second, .val (.ref a1), .val (.ref a2), .val (.ref o), .val (.ref a3), .unset, .unset, .unset, .unset, .unset, .unset] [(.int s2), (.int (2 : Int32)), (.ref a3)]) _
  obtain ⟨T389, h389, X389, e389, W389, V_a3_389, st389⟩ := own_iastore X388 hx hZ e388 V_a3_384 (i := 2) rfl (by decide) (g := (mkF m 169 #[.val (.long x0), .second, .val (.long x1), .second, .val (.long x2), .second, .val (.long x3), .second, .val (.long x4), .second, .val (.long x5), .second, .val (.ref a1), .val (.ref a2), .val (.ref o), .val (.ref a3), .unset, .unset, .unset, .unset, .unset, .unset] [(.int s2), (.int (2 : Int32)), (.ref a3)])) rfl rfl (hb hby at_169)
  have tr_BB_389 : BB ≤ h389.size := Nat.le_trans tr_BB_384 (Nat.le_of_eq W389.size.symm)
  have U_a1_390 := U_a1_385.other W389 ne_a1_a3
  have U_a2_391 := U_a2_386.other W389 ne_a2_a3
  have Y0_392 := Y0_387.wr W389 (Or.inr far_BB_a3)
  have N389 := Fr.snoc X389 N388 gz_a3
  have Z389 : n0 ≤ h389.size := Nat.le_trans Z384 (Nat.le_of_eq W389.size.symm)
  refine ownGo.st (st389) ?_
  show ownGo p.tables e below T389 (mkF m 170 #[.val (.long x0), .second, .val (.long x1), .second, .val (.long x2), .second, .val (.long x3), .second, .val (.long x4), .second, .val (.long x5), .second, .val (.ref a1), .val (.ref a2), .val (.ref o), .val (.ref a3), .unset, .unset, .unset, .unset, .unset, .unset] []) _
  have U_a3 : ownA Z h389 a3 .int 3 (fun i => .int ((own_three s0 s1 s2) i)) := V_a3_389.eq (own_case3 rfl rfl rfl)
  have hlow : ∀ i, i < 3 → ownLow (((own_three s0 s1 s2) i).toInt64 - ((own_three l0 l1 l2) i).toInt64) ((own_threeN k0 k1 k2) i) := own_case3 hs0 hs1 hs2
  refine ownGo.st (fun _ k => XS.lload X389.here hx rfl (hb hby at_170) rfl k) ?_
  show ownGo p.tables e below T389 (mkF m 172 #[.val (.long x0), .second, .val (.long x1), .second, .val (.long x2), .second, .val (.long x3), .second, .val (.long x4), .second, .val (.long x5), .second, .val (.ref a1), .val (.ref a2), .val (.ref o), .val (.ref a3), .unset, .unset, .unset, .unset, .unset, .unset] [(.long x4)]) _
  refine ownGo.st (fun _ k => XS.bipush X389.here hx rfl (hb hby at_172)  k) ?_
  show ownGo p.tables e below T389 (mkF m 174 #[.val (.long x0), .second, .val (.long x1), .second, .val (.long x2), .second, .val (.long x3), .second, .val (.long x4), .second, .val (.long x5), .second, .val (.ref a1), .val (.ref a2), .val (.ref o), .val (.ref a3), .unset, .unset, .unset, .unset, .unset, .unset] [(.int (32 : Int32)), (.long x4)]) _
  refine ownGo.st (fun _ k => XS.lushr X389.here hx rfl (hb hby at_174) rfl k) ?_
  show ownGo p.tables e below T389 (mkF m 175 #[.val (.long x0), .second, .val (.long x1), .second, .val (.long x2), .second, .val (.long x3), .second, .val (.long x4), .second, .val (.long x5), .second, .val (.ref a1), .val (.ref a2), .val (.ref o), .val (.ref a3), .unset, .unset, .unset, .unset, .unset, .unset] [(.long (own_lushr x4 (32 : Int32)))]) _
  refine ownGo.st (X389.ldc2Long hx hown (mvT hZ (own_at hw 56 rfl)) (g := (mkF m 175 #[.val (.long x0), .second, .val (.long x1), .second, .val (.long x2), .second, .val (.long x3), .second, .val (.long x4), .second, .val (.long x5), .second, .val (.ref a1), .val (.ref a2), .val (.ref o), .val (.ref a3), .unset, .unset, .unset, .unset, .unset, .unset] [(.long (own_lushr x4 (32 : Int32)))])) rfl (hb hby at_175)) ?_
  show ownGo p.tables e below T389 (mkF m 178 #[.val (.long x0), .second, .val (.long x1), .second, .val (.long x2), .second, .val (.long x3), .second, .val (.long x4), .second, .val (.long x5), .second, .val (.ref a1), .val (.ref a2), .val (.ref o), .val (.ref a3), .unset, .unset, .unset, .unset, .unset, .unset] [(.long (2147483647 : Int64)), (.long (own_lushr x4 (32 : Int32)))]) _
  refine ownGo.st (fun _ k => XS.land X389.here hx rfl (hb hby at_178) rfl k) ?_
  show ownGo p.tables e below T389 (mkF m 179 #[.val (.long x0), .second, .val (.long x1), .second, .val (.long x2), .second, .val (.long x3), .second, .val (.long x4), .second, .val (.long x5), .second, .val (.ref a1), .val (.ref a2), .val (.ref o), .val (.ref a3), .unset, .unset, .unset, .unset, .unset, .unset] [(.long ((own_lushr x4 (32 : Int32)) &&& (2147483647 : Int64)))]) _
  refine ownGo.st (fun _ k => XS.l2i X389.here hx rfl (hb hby at_179) rfl k) ?_
  show ownGo p.tables e below T389 (mkF m 180 #[.val (.long x0), .second, .val (.long x1), .second, .val (.long x2), .second, .val (.long x3), .second, .val (.long x4), .second, .val (.long x5), .second, .val (.ref a1), .val (.ref a2), .val (.ref o), .val (.ref a3), .unset, .unset, .unset, .unset, .unset, .unset] [(.int (((own_lushr x4 (32 : Int32)) &&& (2147483647 : Int64)).toInt32))]) _
  refine ownGo.st (fun _ k => XS.iconst X389.here hx rfl (hb hby at_180)  k) ?_
  show ownGo p.tables e below T389 (mkF m 181 #[.val (.long x0), .second, .val (.long x1), .second, .val (.long x2), .second, .val (.long x3), .second, .val (.long x4), .second, .val (.long x5), .second, .val (.ref a1), .val (.ref a2), .val (.ref o), .val (.ref a3), .unset, .unset, .unset, .unset, .unset, .unset] [(.int (3 : Int32)), (.int (((own_lushr x4 (32 : Int32)) &&& (2147483647 : Int64)).toInt32))]) _
  refine ownGo.st (fun _ k => iremM X389 hx rfl (hb hby at_181) rfl (by decide) k) ?_
  show ownGo p.tables e below T389 (mkF m 182 #[.val (.long x0), .second, .val (.long x1), .second, .val (.long x2), .second, .val (.long x3), .second, .val (.long x4), .second, .val (.long x5), .second, .val (.ref a1), .val (.ref a2), .val (.ref o), .val (.ref a3), .unset, .unset, .unset, .unset, .unset, .unset] [(.int ((((own_lushr x4 (32 : Int32)) &&& (2147483647 : Int64)).toInt32) % (3 : Int32)))]) _
  obtain ⟨kx, hkx, ekx⟩ := own_k3 x4
  rw [ekx]
  show ownGo p.tables e below T389 (mkF m 182 #[.val (.long x0), .second, .val (.long x1), .second, .val (.long x2), .second, .val (.long x3), .second, .val (.long x4), .second, .val (.long x5), .second, .val (.ref a1), .val (.ref a2), .val (.ref o), .val (.ref a3), .unset, .unset, .unset, .unset, .unset, .unset] [(.int (Int32.ofNat kx))]) _
  refine ownGo.st (fun _ k => XS.istore X389.here hx rfl (hb hby at_182) rfl (l' := #[.val (.long x0), .second, .val (.long x1), .second, .val (.long x2), .second, .val (.long x3), .second, .val (.long x4), .second, .val (.long x5), .second, .val (.ref a1), .val (.ref a2), .val (.ref o), .val (.ref a3), .val (.int (Int32.ofNat kx)), .unset, .unset, .unset, .unset, .unset]) rfl k) ?_
  show ownGo p.tables e below T389 (mkF m 184 #[.val (.long x0), .second, .val (.long x1), .second, .val (.long x2), .second, .val (.long x3), .second, .val (.long x4), .second, .val (.long x5), .second, .val (.ref a1), .val (.ref a2), .val (.ref o), .val (.ref a3), .val (.int (Int32.ofNat kx)), .unset, .unset, .unset, .unset, .unset] []) _
  refine ownGo.st (fun _ k => XS.aload X389.here hx rfl (hb hby at_184) rfl rfl k) ?_
  show ownGo p.tables e below T389 (mkF m 186 #[.val (.long x0), .second, .val (.long x1), .second, .val (.long x2), .second, .val (.long x3), .second, .val (.long x4), .second, .val (.long x5), .second, .val (.ref a1), .val (.ref a2), .val (.ref o), .val (.ref a3), .val (.int (Int32.ofNat kx)), .unset, .unset, .unset, .unset, .unset] [(.ref a1)]) _
  refine ownGo.st (fun _ k => XS.iload X389.here hx rfl (hb hby at_186) rfl k) ?_
  show ownGo p.tables e below T389 (mkF m 188 #[.val (.long x0), .second, .val (.long x1), .second, .val (.long x2), .second, .val (.long x3), .second, .val (.long x4), .second, .val (.long x5), .second, .val (.ref a1), .val (.ref a2), .val (.ref o), .val (.ref a3), .val (.int (Int32.ofNat kx)), .unset, .unset, .unset, .unset, .unset] [(.int (Int32.ofNat kx)), (.ref a1)]) _
  refine ownGo.st (own_iaload X389 hx hZ e389 U_a1_390 (i := kx) (v := ((own_three l0 l1 l2) kx)) rfl hkx rfl (g := (mkF m 188 #[.val (.long x0), .second, .val (.long x1), .second, .val (.long x2), .second, .val (.long x3), .second, .val (.long x4), .second, .val (.long x5), .second, .val (.ref a1), .val (.ref a2), .val (.ref o), .val (.ref a3), .val (.int (Int32.ofNat kx)), .unset, .unset, .unset, .unset, .unset] [(.int (Int32.ofNat kx)), (.ref a1)])) rfl rfl (hb hby at_188)) ?_
  show ownGo p.tables e below T389 (mkF m 189 #[.val (.long x0), .second, .val (.long x1), .second, .val (.long x2), .second, .val (.long x3), .second, .val (.long x4), .second, .val (.long x5), .second, .val (.ref a1), .val (.ref a2), .val (.ref o), .val (.ref a3), .val (.int (Int32.ofNat kx)), .unset, .unset, .unset, .unset, .unset] [(.int ((own_three l0 l1 l2) kx))]) _
  refine ownGo.st (fun _ k => XS.aload X389.here hx rfl (hb hby at_189) rfl rfl k) ?_
  show ownGo p.tables e below T389 (mkF m 191 #[.val (.long x0), .second, .val (.long x1), .second, .val (.long x2), .second, .val (.long x3), .second, .val (.long x4), .second, .val (.long x5), .second, .val (.ref a1), .val (.ref a2), .val (.ref o), .val (.ref a3), .val (.int (Int32.ofNat kx)), .unset, .unset, .unset, .unset, .unset] [(.ref a2), (.int ((own_three l0 l1 l2) kx))]) _
  refine ownGo.st (fun _ k => XS.iload X389.here hx rfl (hb hby at_191) rfl k) ?_
  show ownGo p.tables e below T389 (mkF m 193 #[.val (.long x0), .second, .val (.long x1), .second, .val (.long x2), .second, .val (.long x3), .second, .val (.long x4), .second, .val (.long x5), .second, .val (.ref a1), .val (.ref a2), .val (.ref o), .val (.ref a3), .val (.int (Int32.ofNat kx)), .unset, .unset, .unset, .unset, .unset] [(.int (Int32.ofNat kx)), (.ref a2), (.int ((own_three l0 l1 l2) kx))]) _
  refine ownGo.st (own_iaload X389 hx hZ e389 U_a2_391 (i := kx) (v := ((own_three u0 u1 u2) kx)) rfl hkx rfl (g := (mkF m 193 #[.val (.long x0), .second, .val (.long x1), .second, .val (.long x2), .second, .val (.long x3), .second, .val (.long x4), .second, .val (.long x5), .second, .val (.ref a1), .val (.ref a2), .val (.ref o), .val (.ref a3), .val (.int (Int32.ofNat kx)), .unset, .unset, .unset, .unset, .unset] [(.int (Int32.ofNat kx)), (.ref a2), (.int ((own_three l0 l1 l2) kx))])) rfl rfl (hb hby at_193)) ?_
  show ownGo p.tables e below T389 (mkF m 194 #[.val (.long x0), .second, .val (.long x1), .second, .val (.long x2), .second, .val (.long x3), .second, .val (.long x4), .second, .val (.long x5), .second, .val (.ref a1), .val (.ref a2), .val (.ref o), .val (.ref a3), .val (.int (Int32.ofNat kx)), .unset, .unset, .unset, .unset, .unset] [(.int ((own_three u0 u1 u2) kx)), (.int ((own_three l0 l1 l2) kx))]) _
  refine ownGo.st (fun _ k => XS.lload X389.here hx rfl (hb hby at_194) rfl k) ?_
  show ownGo p.tables e below T389 (mkF m 196 #[.val (.long x0), .second, .val (.long x1), .second, .val (.long x2), .second, .val (.long x3), .second, .val (.long x4), .second, .val (.long x5), .second, .val (.ref a1), .val (.ref a2), .val (.ref o), .val (.ref a3), .val (.int (Int32.ofNat kx)), .unset, .unset, .unset, .unset, .unset] [(.long x5), (.int ((own_three u0 u1 u2) kx)), (.int ((own_three l0 l1 l2) kx))]) _
  obtain ⟨_, T393, L393, X393, hQ393, st393⟩ := own_callS X389 hx hZ hown (own_at hw 51 rfl) (own_at hw 52 rfl) (own_at hw 53 rfl) (own_at hw 54 rfl) (by decide) (rm7 l Z a0 hw ((own_three l0 l1 l2) kx) ((own_three u0 u1 u2) kx) x5 h389 n0 (own_spnz _ _ (hle kx hkx))) 0 (by decide) (by decide) e389 (by decide) (by decide) (g := (mkF m 196 #[.val (.long x0), .second, .val (.long x1), .second, .val (.long x2), .second, .val (.long x3), .second, .val (.long x4), .second, .val (.long x5), .second, .val (.ref a1), .val (.ref a2), .val (.ref o), .val (.ref a3), .val (.int (Int32.ofNat kx)), .unset, .unset, .unset, .unset, .unset] [(.long x5), (.int ((own_three u0 u1 u2) kx)), (.int ((own_three l0 l1 l2) kx))])) rfl (by rw [hml]; rfl) (argsL := [(.int ((own_three l0 l1 l2) kx)), (.int ((own_three u0 u1 u2) kx)), (.long x5)]) (rest := []) (lenOf pd__IIJ_I rfl) rfl (by show 2 * 0 + _ ≤ _; exact Nat.le_of_eq rfl) (hb hby at_196)
  obtain ⟨rfl, N393q, e393⟩ := hQ393
  have N393 := Fr.app N389 N393q
  refine ownGo.st st393 ?_
  show ownGo p.tables e below T393 (mkF m 199 #[.val (.long x0), .second, .val (.long x1), .second, .val (.long x2), .second, .val (.long x3), .second, .val (.long x4), .second, .val (.long x5), .second, .val (.ref a1), .val (.ref a2), .val (.ref o), .val (.ref a3), .val (.int (Int32.ofNat kx)), .unset, .unset, .unset, .unset, .unset] [(.int (own_pick ((own_three l0 l1 l2) kx) ((own_three u0 u1 u2) kx) x5))]) _
  have hv := own_pick_low ((own_three l0 l1 l2) kx) ((own_three u0 u1 u2) kx) x5 ((own_threeN k0 k1 k2) kx) (hle kx hkx) (hbb kx hkx)
  obtain ⟨vv, ev⟩ : ∃ z, z = own_pick ((own_three l0 l1 l2) kx) ((own_three u0 u1 u2) kx) x5 := ⟨_, rfl⟩
  rw [← ev] at hv
  rw [← ev]
  show ownGo p.tables e below T393 (mkF m 199 #[.val (.long x0), .second, .val (.long x1), .second, .val (.long x2), .second, .val (.long x3), .second, .val (.long x4), .second, .val (.long x5), .second, .val (.ref a1), .val (.ref a2), .val (.ref o), .val (.ref a3), .val (.int (Int32.ofNat kx)), .unset, .unset, .unset, .unset, .unset] [(.int vv)]) _
  refine ownGo.st (fun _ k => XS.istore X393.here hx rfl (hb hby at_199) rfl (l' := #[.val (.long x0), .second, .val (.long x1), .second, .val (.long x2), .second, .val (.long x3), .second, .val (.long x4), .second, .val (.long x5), .second, .val (.ref a1), .val (.ref a2), .val (.ref o), .val (.ref a3), .val (.int (Int32.ofNat kx)), .val (.int vv), .unset, .unset, .unset, .unset]) rfl k) ?_
  show ownGo p.tables e below T393 (mkF m 201 #[.val (.long x0), .second, .val (.long x1), .second, .val (.long x2), .second, .val (.long x3), .second, .val (.long x4), .second, .val (.long x5), .second, .val (.ref a1), .val (.ref a2), .val (.ref o), .val (.ref a3), .val (.int (Int32.ofNat kx)), .val (.int vv), .unset, .unset, .unset, .unset] []) _
  refine ownGo.st (fun _ k => XS.iconst X393.here hx rfl (hb hby at_201)  k) ?_
  show ownGo p.tables e below T393 (mkF m 202 #[.val (.long x0), .second, .val (.long x1), .second, .val (.long x2), .second, .val (.long x3), .second, .val (.long x4), .second, .val (.long x5), .second, .val (.ref a1), .val (.ref a2), .val (.ref o), .val (.ref a3), .val (.int (Int32.ofNat kx)), .val (.int vv), .unset, .unset, .unset, .unset] [(.int (3 : Int32))]) _
  obtain ⟨T394, h394, a4, X394, e394, E394, V_a4, Ex_a4, g_a4, st394⟩ := own_newarray (aty := .int) X393 hx hZ (own_at hw 0 rfl) e393 3 3 (by decide) (by decide) (by decide) (by decide) (ad := "[I") (by rfl) rfl (z := (3 : Int32)) rfl (g := (mkF m 202 #[.val (.long x0), .second, .val (.long x1), .second, .val (.long x2), .second, .val (.long x3), .second, .val (.long x4), .second, .val (.long x5), .second, .val (.ref a1), .val (.ref a2), .val (.ref o), .val (.ref a3), .val (.int (Int32.ofNat kx)), .val (.int vv), .unset, .unset, .unset, .unset] [(.int (3 : Int32))])) rfl (hb hby at_202) rfl
  have gz_a4 : n0 ≤ a4 := Nat.le_trans Z389 (Nat.le_of_eq g_a4.symm)
  have ne_a1_a4 : a1 ≠ a4 := Nat.ne_of_lt (Nat.lt_of_lt_of_le U_a1_390.lt (Nat.le_of_eq g_a4.symm))
  have ne_a2_a4 : a2 ≠ a4 := Nat.ne_of_lt (Nat.lt_of_lt_of_le U_a2_391.lt (Nat.le_of_eq g_a4.symm))
  have ne_a3_a4 : a3 ≠ a4 := Nat.ne_of_lt (Nat.lt_of_lt_of_le U_a3.lt (Nat.le_of_eq g_a4.symm))
  have ne_o_a4 : o ≠ a4 := Nat.ne_of_lt (Nat.lt_of_lt_of_le Y0_392.lt (Nat.le_of_eq g_a4.symm))
  have far_BB_a4 : BB ≤ a4 := Nat.le_trans tr_BB_389 (Nat.le_of_eq g_a4.symm)
  have tr_BB_394 : BB ≤ h394.size := Nat.le_trans tr_BB_389 E394.1
  have U_a1_395 := U_a1_390.ext E394
  have U_a2_396 := U_a2_391.ext E394
  have Y0_397 := Y0_392.ext E394
  have U_a3_398 := U_a3.ext E394
  have Z394 : n0 ≤ h394.size := Nat.le_trans Z389 E394.1
  refine ownGo.st (st394) ?_
  show ownGo p.tables e below T394 (mkF m 204 #[.val (.long x0), .second, .val (.long x1), .second, .val (.long x2), .second, .val (.long x3), .second, .val (.long x4), .second, .val (.long x5), .second, .val (.ref a1), .val (.ref a2), .val (.ref o), .val (.ref a3), .val (.int (Int32.ofNat kx)), .val (.int vv), .unset, .unset, .unset, .unset] [(.ref a4)]) _
  refine ownGo.st (fun _ k => XS.astore X394.here hx rfl (hb hby at_204) rfl rfl (l' := #[.val (.long x0), .second, .val (.long x1), .second, .val (.long x2), .second, .val (.long x3), .second, .val (.long x4), .second, .val (.long x5), .second, .val (.ref a1), .val (.ref a2), .val (.ref o), .val (.ref a3), .val (.int (Int32.ofNat kx)), .val (.int vv), .val (.ref a4), .unset, .unset, .unset]) rfl k) ?_
  show ownGo p.tables e below T394 (mkF m 206 #[.val (.long x0), .second, .val (.long x1), .second, .val (.long x2), .second, .val (.long x3), .second, .val (.long x4), .second, .val (.long x5), .second, .val (.ref a1), .val (.ref a2), .val (.ref o), .val (.ref a3), .val (.int (Int32.ofNat kx)), .val (.int vv), .val (.ref a4), .unset, .unset, .unset] []) _
  refine ownGo.st (fun _ k => XS.aload X394.here hx rfl (hb hby at_206) rfl rfl k) ?_
  show ownGo p.tables e below T394 (mkF m 208 #[.val (.long x0), .second, .val (.long x1), .second, .val (.long x2), .second, .val (.long x3), .second, .val (.long x4), .second, .val (.long x5), .second, .val (.ref a1), .val (.ref a2), .val (.ref o), .val (.ref a3), .val (.int (Int32.ofNat kx)), .val (.int vv), .val (.ref a4), .unset, .unset, .unset] [(.ref a4)]) _
  refine ownGo.st (fun _ k => XS.iconst X394.here hx rfl (hb hby at_208)  k) ?_
  show ownGo p.tables e below T394 (mkF m 209 #[.val (.long x0), .second, .val (.long x1), .second, .val (.long x2), .second, .val (.long x3), .second, .val (.long x4), .second, .val (.long x5), .second, .val (.ref a1), .val (.ref a2), .val (.ref o), .val (.ref a3), .val (.int (Int32.ofNat kx)), .val (.int vv), .val (.ref a4), .unset, .unset, .unset] [(.int (0 : Int32)), (.ref a4)]) _
  refine ownGo.st (fun _ k => XS.aload X394.here hx rfl (hb hby at_209) rfl rfl k) ?_
  show ownGo p.tables e below T394 (mkF m 211 #[.val (.long x0), .second, .val (.long x1), .second, .val (.long x2), .second, .val (.long x3), .second, .val (.long x4), .second, .val (.long x5), .second, .val (.ref a1), .val (.ref a2), .val (.ref o), .val (.ref a3), .val (.int (Int32.ofNat kx)), .val (.int vv), .val (.ref a4), .unset, .unset, .unset] [(.ref a3), (.int (0 : Int32)), (.ref a4)]) _
  refine ownGo.st (fun _ k => XS.iconst X394.here hx rfl (hb hby at_211)  k) ?_
  show ownGo p.tables e below T394 (mkF m 212 #[.val (.long x0), .second, .val (.long x1), .second, .val (.long x2), .second, .val (.long x3), .second, .val (.long x4), .second, .val (.long x5), .second, .val (.ref a1), .val (.ref a2), .val (.ref o), .val (.ref a3), .val (.int (Int32.ofNat kx)), .val (.int vv), .val (.ref a4), .unset, .unset, .unset] [(.int (0 : Int32)), (.ref a3), (.int (0 : Int32)), (.ref a4)]) _
  refine ownGo.st (own_iaload X394 hx hZ e394 U_a3_398 (i := 0) (v := s0) rfl (by decide) rfl (g := (mkF m 212 #[.val (.long x0), .second, .val (.long x1), .second, .val (.long x2), .second, .val (.long x3), .second, .val (.long x4), .second, .val (.long x5), .second, .val (.ref a1), .val (.ref a2), .val (.ref o), .val (.ref a3), .val (.int (Int32.ofNat kx)), .val (.int vv), .val (.ref a4), .unset, .unset, .unset] [(.int (0 : Int32)), (.ref a3), (.int (0 : Int32)), (.ref a4)])) rfl rfl (hb hby at_212)) ?_
  show ownGo p.tables e below T394 (mkF m 213 #[.val (.long x0), .second, .val (.long x1), .second, .val (.long x2), .second, .val (.long x3), .second, .val (.long x4), .second, .val (.long x5), .second, .val (.ref a1), .val (.ref a2), .val (.ref o), .val (.ref a3), .val (.int (Int32.ofNat kx)), .val (.int vv), .val (.ref a4), .unset, .unset, .unset] [(.int s0), (.int (0 : Int32)), (.ref a4)]) _
  obtain ⟨T399, h399, X399, e399, W399, V_a4_399, st399⟩ := own_iastore X394 hx hZ e394 V_a4 (i := 0) rfl (by decide) (g := (mkF m 213 #[.val (.long x0), .second, .val (.long x1), .second, .val (.long x2), .second, .val (.long x3), .second, .val (.long x4), .second, .val (.long x5), .second, .val (.ref a1), .val (.ref a2), .val (.ref o), .val (.ref a3), .val (.int (Int32.ofNat kx)), .val (.int vv), .val (.ref a4), .unset, .unset, .unset] [(.int s0), (.int (0 : Int32)), (.ref a4)])) rfl rfl (hb hby at_213)
  have tr_BB_399 : BB ≤ h399.size := Nat.le_trans tr_BB_394 (Nat.le_of_eq W399.size.symm)
  have U_a1_400 := U_a1_395.other W399 ne_a1_a4
  have U_a2_401 := U_a2_396.other W399 ne_a2_a4
  have Y0_402 := Y0_397.wr W399 (Or.inr far_BB_a4)
  have U_a3_403 := U_a3_398.other W399 ne_a3_a4
  have N399 := Fr.snoc X399 N393 gz_a4
  have Z399 : n0 ≤ h399.size := Nat.le_trans Z394 (Nat.le_of_eq W399.size.symm)
  refine ownGo.st (st399) ?_
  show ownGo p.tables e below T399 (mkF m 214 #[.val (.long x0), .second, .val (.long x1), .second, .val (.long x2), .second, .val (.long x3), .second, .val (.long x4), .second, .val (.long x5), .second, .val (.ref a1), .val (.ref a2), .val (.ref o), .val (.ref a3), .val (.int (Int32.ofNat kx)), .val (.int vv), .val (.ref a4), .unset, .unset, .unset] []) _
  refine ownGo.st (fun _ k => XS.aload X399.here hx rfl (hb hby at_214) rfl rfl k) ?_
  show ownGo p.tables e below T399 (mkF m 216 #[.val (.long x0), .second, .val (.long x1), .second, .val (.long x2), .second, .val (.long x3), .second, .val (.long x4), .second, .val (.long x5), .second, .val (.ref a1), .val (.ref a2), .val (.ref o), .val (.ref a3), .val (.int (Int32.ofNat kx)), .val (.int vv), .val (.ref a4), .unset, .unset, .unset] [(.ref a4)]) _
  refine ownGo.st (fun _ k => XS.iconst X399.here hx rfl (hb hby at_216)  k) ?_
  show ownGo p.tables e below T399 (mkF m 217 #[.val (.long x0), .second, .val (.long x1), .second, .val (.long x2), .second, .val (.long x3), .second, .val (.long x4), .second, .val (.long x5), .second, .val (.ref a1), .val (.ref a2), .val (.ref o), .val (.ref a3), .val (.int (Int32.ofNat kx)), .val (.int vv), .val (.ref a4), .unset, .unset, .unset] [(.int (1 : Int32)), (.ref a4)]) _
  refine ownGo.st (fun _ k => XS.aload X399.here hx rfl (hb hby at_217) rfl rfl k) ?_
  show ownGo p.tables e below T399 (mkF m 219 #[.val (.long x0), .second, .val (.long x1), .second, .val (.long x2), .second, .val (.long x3), .second, .val (.long x4), .second, .val (.long x5), .second, .val (.ref a1), .val (.ref a2), .val (.ref o), .val (.ref a3), .val (.int (Int32.ofNat kx)), .val (.int vv), .val (.ref a4), .unset, .unset, .unset] [(.ref a3), (.int (1 : Int32)), (.ref a4)]) _
  refine ownGo.st (fun _ k => XS.iconst X399.here hx rfl (hb hby at_219)  k) ?_
  show ownGo p.tables e below T399 (mkF m 220 #[.val (.long x0), .second, .val (.long x1), .second, .val (.long x2), .second, .val (.long x3), .second, .val (.long x4), .second, .val (.long x5), .second, .val (.ref a1), .val (.ref a2), .val (.ref o), .val (.ref a3), .val (.int (Int32.ofNat kx)), .val (.int vv), .val (.ref a4), .unset, .unset, .unset] [(.int (1 : Int32)), (.ref a3), (.int (1 : Int32)), (.ref a4)]) _
  refine ownGo.st (own_iaload X399 hx hZ e399 U_a3_403 (i := 1) (v := s1) rfl (by decide) rfl (g := (mkF m 220 #[.val (.long x0), .second, .val (.long x1), .second, .val (.long x2), .second, .val (.long x3), .second, .val (.long x4), .second, .val (.long x5), .second, .val (.ref a1), .val (.ref a2), .val (.ref o), .val (.ref a3), .val (.int (Int32.ofNat kx)), .val (.int vv), .val (.ref a4), .unset, .unset, .unset] [(.int (1 : Int32)), (.ref a3), (.int (1 : Int32)), (.ref a4)])) rfl rfl (hb hby at_220)) ?_
  show ownGo p.tables e below T399 (mkF m 221 #[.val (.long x0), .second, .val (.long x1), .second, .val (.long x2), .second, .val (.long x3), .second, .val (.long x4), .second, .val (.long x5), .second, .val (.ref a1), .val (.ref a2), .val (.ref o), .val (.ref a3), .val (.int (Int32.ofNat kx)), .val (.int vv), .val (.ref a4), .unset, .unset, .unset] [(.int s1), (.int (1 : Int32)), (.ref a4)]) _
  obtain ⟨T404, h404, X404, e404, W404, V_a4_404, st404⟩ := own_iastore X399 hx hZ e399 V_a4_399 (i := 1) rfl (by decide) (g := (mkF m 221 #[.val (.long x0), .second, .val (.long x1), .second, .val (.long x2), .second, .val (.long x3), .second, .val (.long x4), .second, .val (.long x5), .second, .val (.ref a1), .val (.ref a2), .val (.ref o), .val (.ref a3), .val (.int (Int32.ofNat kx)), .val (.int vv), .val (.ref a4), .unset, .unset, .unset] [(.int s1), (.int (1 : Int32)), (.ref a4)])) rfl rfl (hb hby at_221)
  have tr_BB_404 : BB ≤ h404.size := Nat.le_trans tr_BB_399 (Nat.le_of_eq W404.size.symm)
  have U_a1_405 := U_a1_400.other W404 ne_a1_a4
  have U_a2_406 := U_a2_401.other W404 ne_a2_a4
  have Y0_407 := Y0_402.wr W404 (Or.inr far_BB_a4)
  have U_a3_408 := U_a3_403.other W404 ne_a3_a4
  have N404 := Fr.snoc X404 N399 gz_a4
  have Z404 : n0 ≤ h404.size := Nat.le_trans Z399 (Nat.le_of_eq W404.size.symm)
  refine ownGo.st (st404) ?_
  show ownGo p.tables e below T404 (mkF m 222 #[.val (.long x0), .second, .val (.long x1), .second, .val (.long x2), .second, .val (.long x3), .second, .val (.long x4), .second, .val (.long x5), .second, .val (.ref a1), .val (.ref a2), .val (.ref o), .val (.ref a3), .val (.int (Int32.ofNat kx)), .val (.int vv), .val (.ref a4), .unset, .unset, .unset] []) _
  refine ownGo.st (fun _ k => XS.aload X404.here hx rfl (hb hby at_222) rfl rfl k) ?_
  show ownGo p.tables e below T404 (mkF m 224 #[.val (.long x0), .second, .val (.long x1), .second, .val (.long x2), .second, .val (.long x3), .second, .val (.long x4), .second, .val (.long x5), .second, .val (.ref a1), .val (.ref a2), .val (.ref o), .val (.ref a3), .val (.int (Int32.ofNat kx)), .val (.int vv), .val (.ref a4), .unset, .unset, .unset] [(.ref a4)]) _
  refine ownGo.st (fun _ k => XS.iconst X404.here hx rfl (hb hby at_224)  k) ?_
  show ownGo p.tables e below T404 (mkF m 225 #[.val (.long x0), .second, .val (.long x1), .second, .val (.long x2), .second, .val (.long x3), .second, .val (.long x4), .second, .val (.long x5), .second, .val (.ref a1), .val (.ref a2), .val (.ref o), .val (.ref a3), .val (.int (Int32.ofNat kx)), .val (.int vv), .val (.ref a4), .unset, .unset, .unset] [(.int (2 : Int32)), (.ref a4)]) _
  refine ownGo.st (fun _ k => XS.aload X404.here hx rfl (hb hby at_225) rfl rfl k) ?_
  show ownGo p.tables e below T404 (mkF m 227 #[.val (.long x0), .second, .val (.long x1), .second, .val (.long x2), .second, .val (.long x3), .second, .val (.long x4), .second, .val (.long x5), .second, .val (.ref a1), .val (.ref a2), .val (.ref o), .val (.ref a3), .val (.int (Int32.ofNat kx)), .val (.int vv), .val (.ref a4), .unset, .unset, .unset] [(.ref a3), (.int (2 : Int32)), (.ref a4)]) _
  refine ownGo.st (fun _ k => XS.iconst X404.here hx rfl (hb hby at_227)  k) ?_
  show ownGo p.tables e below T404 (mkF m 228 #[.val (.long x0), .second, .val (.long x1), .second, .val (.long x2), .second, .val (.long x3), .second, .val (.long x4), .second, .val (.long x5), .second, .val (.ref a1), .val (.ref a2), .val (.ref o), .val (.ref a3), .val (.int (Int32.ofNat kx)), .val (.int vv), .val (.ref a4), .unset, .unset, .unset] [(.int (2 : Int32)), (.ref a3), (.int (2 : Int32)), (.ref a4)]) _
  refine ownGo.st (own_iaload X404 hx hZ e404 U_a3_408 (i := 2) (v := s2) rfl (by decide) rfl (g := (mkF m 228 #[.val (.long x0), .second, .val (.long x1), .second, .val (.long x2), .second, .val (.long x3), .second, .val (.long x4), .second, .val (.long x5), .second, .val (.ref a1), .val (.ref a2), .val (.ref o), .val (.ref a3), .val (.int (Int32.ofNat kx)), .val (.int vv), .val (.ref a4), .unset, .unset, .unset] [(.int (2 : Int32)), (.ref a3), (.int (2 : Int32)), (.ref a4)])) rfl rfl (hb hby at_228)) ?_
  show ownGo p.tables e below T404 (mkF m 229 #[.val (.long x0), .second, .val (.long x1), .second, .val (.long x2), .second, .val (.long x3), .second, .val (.long x4), .second, .val (.long x5), .second, .val (.ref a1), .val (.ref a2), .val (.ref o), .val (.ref a3), .val (.int (Int32.ofNat kx)), .val (.int vv), .val (.ref a4), .unset, .unset, .unset] [(.int s2), (.int (2 : Int32)), (.ref a4)]) _
  obtain ⟨T409, h409, X409, e409, W409, V_a4_409, st409⟩ := own_iastore X404 hx hZ e404 V_a4_404 (i := 2) rfl (by decide) (g := (mkF m 229 #[.val (.long x0), .second, .val (.long x1), .second, .val (.long x2), .second, .val (.long x3), .second, .val (.long x4), .second, .val (.long x5), .second, .val (.ref a1), .val (.ref a2), .val (.ref o), .val (.ref a3), .val (.int (Int32.ofNat kx)), .val (.int vv), .val (.ref a4), .unset, .unset, .unset] [(.int s2), (.int (2 : Int32)), (.ref a4)])) rfl rfl (hb hby at_229)
  have tr_BB_409 : BB ≤ h409.size := Nat.le_trans tr_BB_404 (Nat.le_of_eq W409.size.symm)
  have U_a1_410 := U_a1_405.other W409 ne_a1_a4
  have U_a2_411 := U_a2_406.other W409 ne_a2_a4
  have Y0_412 := Y0_407.wr W409 (Or.inr far_BB_a4)
  have U_a3_413 := U_a3_408.other W409 ne_a3_a4
  have N409 := Fr.snoc X409 N404 gz_a4
  have Z409 : n0 ≤ h409.size := Nat.le_trans Z404 (Nat.le_of_eq W409.size.symm)
  refine ownGo.st (st409) ?_
  show ownGo p.tables e below T409 (mkF m 230 #[.val (.long x0), .second, .val (.long x1), .second, .val (.long x2), .second, .val (.long x3), .second, .val (.long x4), .second, .val (.long x5), .second, .val (.ref a1), .val (.ref a2), .val (.ref o), .val (.ref a3), .val (.int (Int32.ofNat kx)), .val (.int vv), .val (.ref a4), .unset, .unset, .unset] []) _
  refine ownGo.st (fun _ k => XS.aload X409.here hx rfl (hb hby at_230) rfl rfl k) ?_
  show ownGo p.tables e below T409 (mkF m 232 #[.val (.long x0), .second, .val (.long x1), .second, .val (.long x2), .second, .val (.long x3), .second, .val (.long x4), .second, .val (.long x5), .second, .val (.ref a1), .val (.ref a2), .val (.ref o), .val (.ref a3), .val (.int (Int32.ofNat kx)), .val (.int vv), .val (.ref a4), .unset, .unset, .unset] [(.ref a4)]) _
  refine ownGo.st (fun _ k => XS.iload X409.here hx rfl (hb hby at_232) rfl k) ?_
  show ownGo p.tables e below T409 (mkF m 234 #[.val (.long x0), .second, .val (.long x1), .second, .val (.long x2), .second, .val (.long x3), .second, .val (.long x4), .second, .val (.long x5), .second, .val (.ref a1), .val (.ref a2), .val (.ref o), .val (.ref a3), .val (.int (Int32.ofNat kx)), .val (.int vv), .val (.ref a4), .unset, .unset, .unset] [(.int (Int32.ofNat kx)), (.ref a4)]) _
  refine ownGo.st (fun _ k => XS.iload X409.here hx rfl (hb hby at_234) rfl k) ?_
  show ownGo p.tables e below T409 (mkF m 236 #[.val (.long x0), .second, .val (.long x1), .second, .val (.long x2), .second, .val (.long x3), .second, .val (.long x4), .second, .val (.long x5), .second, .val (.ref a1), .val (.ref a2), .val (.ref o), .val (.ref a3), .val (.int (Int32.ofNat kx)), .val (.int vv), .val (.ref a4), .unset, .unset, .unset] [(.int vv), (.int (Int32.ofNat kx)), (.ref a4)]) _
  obtain ⟨T414, h414, X414, e414, W414, V_a4_414, st414⟩ := own_iastore X409 hx hZ e409 V_a4_409 (i := kx) rfl hkx (g := (mkF m 236 #[.val (.long x0), .second, .val (.long x1), .second, .val (.long x2), .second, .val (.long x3), .second, .val (.long x4), .second, .val (.long x5), .second, .val (.ref a1), .val (.ref a2), .val (.ref o), .val (.ref a3), .val (.int (Int32.ofNat kx)), .val (.int vv), .val (.ref a4), .unset, .unset, .unset] [(.int vv), (.int (Int32.ofNat kx)), (.ref a4)])) rfl rfl (hb hby at_236)
  have tr_BB_414 : BB ≤ h414.size := Nat.le_trans tr_BB_409 (Nat.le_of_eq W414.size.symm)
  have U_a1_415 := U_a1_410.other W414 ne_a1_a4
  have U_a2_416 := U_a2_411.other W414 ne_a2_a4
  have Y0_417 := Y0_412.wr W414 (Or.inr far_BB_a4)
  have U_a3_418 := U_a3_413.other W414 ne_a3_a4
  have N414 := Fr.snoc X414 N409 gz_a4
  have Z414 : n0 ≤ h414.size := Nat.le_trans Z409 (Nat.le_of_eq W414.size.symm)
  refine ownGo.st (st414) ?_
  show ownGo p.tables e below T414 (mkF m 237 #[.val (.long x0), .second, .val (.long x1), .second, .val (.long x2), .second, .val (.long x3), .second, .val (.long x4), .second, .val (.long x5), .second, .val (.ref a1), .val (.ref a2), .val (.ref o), .val (.ref a3), .val (.int (Int32.ofNat kx)), .val (.int vv), .val (.ref a4), .unset, .unset, .unset] []) _
  have U_a4 : ownA Z h414 a4 .int 3 (fun i => .int ((own_upd (own_three s0 s1 s2) kx vv) i)) := V_a4_414.eq (fun i hi => by
    by_cases y : i = kx
    · subst y; exact own_up_hit.trans (congrArg Value.int (if_pos rfl : own_upd (own_three s0 s1 s2) i vv i = vv).symm)
    · refine (own_up_miss y).trans (Eq.trans ?_ (congrArg Value.int (if_neg y : own_upd (own_three s0 s1 s2) kx vv i = (own_three s0 s1 s2) i).symm))
      exact own_case3 (P := fun i => own_up (own_up (own_up _ 0 (.int s0)) 1 (.int s1)) 2 (.int s2) i = .int ((own_three s0 s1 s2) i)) rfl rfl rfl i hi)
  have hlow2 : ∀ i, i < 3 → ownLow (((own_upd (own_three s0 s1 s2) kx vv) i).toInt64 - ((own_three l0 l1 l2) i).toInt64) ((own_threeN k0 k1 k2) i) := fun i hi => by
    by_cases y : i = kx
    · subst y; rw [show own_upd (own_three s0 s1 s2) i vv i = vv from if_pos rfl]; exact hv
    · rw [show own_upd (own_three s0 s1 s2) kx vv i = (own_three s0 s1 s2) i from if_neg y]; exact hlow i hi
  refine ownGo.st (fun _ k => XS.iconst X414.here hx rfl (hb hby at_237)  k) ?_
  show ownGo p.tables e below T414 (mkF m 238 #[.val (.long x0), .second, .val (.long x1), .second, .val (.long x2), .second, .val (.long x3), .second, .val (.long x4), .second, .val (.long x5), .second, .val (.ref a1), .val (.ref a2), .val (.ref o), .val (.ref a3), .val (.int (Int32.ofNat kx)), .val (.int vv), .val (.ref a4), .unset, .unset, .unset] [(.int (2 : Int32))]) _
  obtain ⟨T419, h419, a5, X419, e419, E419, V_a5, Ex_a5, g_a5, st419⟩ := own_newarray (aty := .long) X414 hx hZ (own_at hw 34 rfl) e414 2 2 (by decide) (by decide) (by decide) (by decide) (ad := "[J") (by rfl) rfl (z := (2 : Int32)) rfl (g := (mkF m 238 #[.val (.long x0), .second, .val (.long x1), .second, .val (.long x2), .second, .val (.long x3), .second, .val (.long x4), .second, .val (.long x5), .second, .val (.ref a1), .val (.ref a2), .val (.ref o), .val (.ref a3), .val (.int (Int32.ofNat kx)), .val (.int vv), .val (.ref a4), .unset, .unset, .unset] [(.int (2 : Int32))])) rfl (hb hby at_238) rfl
  have gz_a5 : n0 ≤ a5 := Nat.le_trans Z414 (Nat.le_of_eq g_a5.symm)
  have ne_a1_a5 : a1 ≠ a5 := Nat.ne_of_lt (Nat.lt_of_lt_of_le U_a1_415.lt (Nat.le_of_eq g_a5.symm))
  have ne_a2_a5 : a2 ≠ a5 := Nat.ne_of_lt (Nat.lt_of_lt_of_le U_a2_416.lt (Nat.le_of_eq g_a5.symm))
  have ne_a3_a5 : a3 ≠ a5 := Nat.ne_of_lt (Nat.lt_of_lt_of_le U_a3_418.lt (Nat.le_of_eq g_a5.symm))
  have ne_a4_a5 : a4 ≠ a5 := Nat.ne_of_lt (Nat.lt_of_lt_of_le U_a4.lt (Nat.le_of_eq g_a5.symm))
  have ne_o_a5 : o ≠ a5 := Nat.ne_of_lt (Nat.lt_of_lt_of_le Y0_417.lt (Nat.le_of_eq g_a5.symm))
  have far_BB_a5 : BB ≤ a5 := Nat.le_trans tr_BB_414 (Nat.le_of_eq g_a5.symm)
  have tr_BB_419 : BB ≤ h419.size := Nat.le_trans tr_BB_414 E419.1
  have U_a1_420 := U_a1_415.ext E419
  have U_a2_421 := U_a2_416.ext E419
  have Y0_422 := Y0_417.ext E419
  have U_a3_423 := U_a3_418.ext E419
  have U_a4_424 := U_a4.ext E419
  have Z419 : n0 ≤ h419.size := Nat.le_trans Z414 E419.1
  refine ownGo.st (st419) ?_
  show ownGo p.tables e below T419 (mkF m 240 #[.val (.long x0), .second, .val (.long x1), .second, .val (.long x2), .second, .val (.long x3), .second, .val (.long x4), .second, .val (.long x5), .second, .val (.ref a1), .val (.ref a2), .val (.ref o), .val (.ref a3), .val (.int (Int32.ofNat kx)), .val (.int vv), .val (.ref a4), .unset, .unset, .unset] [(.ref a5)]) _
  refine ownGo.st (fun _ k => XS.astore X419.here hx rfl (hb hby at_240) rfl rfl (l' := #[.val (.long x0), .second, .val (.long x1), .second, .val (.long x2), .second, .val (.long x3), .second, .val (.long x4), .second, .val (.long x5), .second, .val (.ref a1), .val (.ref a2), .val (.ref o), .val (.ref a3), .val (.int (Int32.ofNat kx)), .val (.int vv), .val (.ref a4), .val (.ref a5), .unset, .unset]) rfl k) ?_
  show ownGo p.tables e below T419 (mkF m 242 #[.val (.long x0), .second, .val (.long x1), .second, .val (.long x2), .second, .val (.long x3), .second, .val (.long x4), .second, .val (.long x5), .second, .val (.ref a1), .val (.ref a2), .val (.ref o), .val (.ref a3), .val (.int (Int32.ofNat kx)), .val (.int vv), .val (.ref a4), .val (.ref a5), .unset, .unset] []) _
  refine ownGo.st (fun _ k => XS.iconst X419.here hx rfl (hb hby at_242)  k) ?_
  show ownGo p.tables e below T419 (mkF m 243 #[.val (.long x0), .second, .val (.long x1), .second, .val (.long x2), .second, .val (.long x3), .second, .val (.long x4), .second, .val (.long x5), .second, .val (.ref a1), .val (.ref a2), .val (.ref o), .val (.ref a3), .val (.int (Int32.ofNat kx)), .val (.int vv), .val (.ref a4), .val (.ref a5), .unset, .unset] [(.int (2 : Int32))]) _
  obtain ⟨T425, h425, a6, X425, e425, E425, V_a6, Ex_a6, g_a6, st425⟩ := own_newarray (aty := .long) X419 hx hZ (own_at hw 34 rfl) e419 2 2 (by decide) (by decide) (by decide) (by decide) (ad := "[J") (by rfl) rfl (z := (2 : Int32)) rfl (g := (mkF m 243 #[.val (.long x0), .second, .val (.long x1), .second, .val (.long x2), .second, .val (.long x3), .second, .val (.long x4), .second, .val (.long x5), .second, .val (.ref a1), .val (.ref a2), .val (.ref o), .val (.ref a3), .val (.int (Int32.ofNat kx)), .val (.int vv), .val (.ref a4), .val (.ref a5), .unset, .unset] [(.int (2 : Int32))])) rfl (hb hby at_243) rfl
  have gz_a6 : n0 ≤ a6 := Nat.le_trans Z419 (Nat.le_of_eq g_a6.symm)
  have ne_a1_a6 : a1 ≠ a6 := Nat.ne_of_lt (Nat.lt_of_lt_of_le U_a1_420.lt (Nat.le_of_eq g_a6.symm))
  have ne_a2_a6 : a2 ≠ a6 := Nat.ne_of_lt (Nat.lt_of_lt_of_le U_a2_421.lt (Nat.le_of_eq g_a6.symm))
  have ne_a3_a6 : a3 ≠ a6 := Nat.ne_of_lt (Nat.lt_of_lt_of_le U_a3_423.lt (Nat.le_of_eq g_a6.symm))
  have ne_a4_a6 : a4 ≠ a6 := Nat.ne_of_lt (Nat.lt_of_lt_of_le U_a4_424.lt (Nat.le_of_eq g_a6.symm))
  have ne_a5_a6 : a5 ≠ a6 := Nat.ne_of_lt (Nat.lt_of_lt_of_le V_a5.lt (Nat.le_of_eq g_a6.symm))
  have ne_o_a6 : o ≠ a6 := Nat.ne_of_lt (Nat.lt_of_lt_of_le Y0_422.lt (Nat.le_of_eq g_a6.symm))
  have far_BB_a6 : BB ≤ a6 := Nat.le_trans tr_BB_419 (Nat.le_of_eq g_a6.symm)
  have tr_BB_425 : BB ≤ h425.size := Nat.le_trans tr_BB_419 E425.1
  have U_a1_426 := U_a1_420.ext E425
  have U_a2_427 := U_a2_421.ext E425
  have Y0_428 := Y0_422.ext E425
  have U_a3_429 := U_a3_423.ext E425
  have U_a4_430 := U_a4_424.ext E425
  have V_a5_431 := V_a5.ext E425
  have Z425 : n0 ≤ h425.size := Nat.le_trans Z419 E425.1
  refine ownGo.st (st425) ?_
  show ownGo p.tables e below T425 (mkF m 245 #[.val (.long x0), .second, .val (.long x1), .second, .val (.long x2), .second, .val (.long x3), .second, .val (.long x4), .second, .val (.long x5), .second, .val (.ref a1), .val (.ref a2), .val (.ref o), .val (.ref a3), .val (.int (Int32.ofNat kx)), .val (.int vv), .val (.ref a4), .val (.ref a5), .unset, .unset] [(.ref a6)]) _
  refine ownGo.st (fun _ k => XS.astore X425.here hx rfl (hb hby at_245) rfl rfl (l' := #[.val (.long x0), .second, .val (.long x1), .second, .val (.long x2), .second, .val (.long x3), .second, .val (.long x4), .second, .val (.long x5), .second, .val (.ref a1), .val (.ref a2), .val (.ref o), .val (.ref a3), .val (.int (Int32.ofNat kx)), .val (.int vv), .val (.ref a4), .val (.ref a5), .val (.ref a6), .unset]) rfl k) ?_
  show ownGo p.tables e below T425 (mkF m 247 #[.val (.long x0), .second, .val (.long x1), .second, .val (.long x2), .second, .val (.long x3), .second, .val (.long x4), .second, .val (.long x5), .second, .val (.ref a1), .val (.ref a2), .val (.ref o), .val (.ref a3), .val (.int (Int32.ofNat kx)), .val (.int vv), .val (.ref a4), .val (.ref a5), .val (.ref a6), .unset] []) _
  refine ownGo.st (fun _ k => XS.iconst X425.here hx rfl (hb hby at_247)  k) ?_
  show ownGo p.tables e below T425 (mkF m 248 #[.val (.long x0), .second, .val (.long x1), .second, .val (.long x2), .second, .val (.long x3), .second, .val (.long x4), .second, .val (.long x5), .second, .val (.ref a1), .val (.ref a2), .val (.ref o), .val (.ref a3), .val (.int (Int32.ofNat kx)), .val (.int vv), .val (.ref a4), .val (.ref a5), .val (.ref a6), .unset] [(.int (3 : Int32))]) _
  obtain ⟨T432, h432, a7, X432, e432, E432, V_a7, Ex_a7, g_a7, st432⟩ := own_newarray (aty := .int) X425 hx hZ (own_at hw 0 rfl) e425 3 3 (by decide) (by decide) (by decide) (by decide) (ad := "[I") (by rfl) rfl (z := (3 : Int32)) rfl (g := (mkF m 248 #[.val (.long x0), .second, .val (.long x1), .second, .val (.long x2), .second, .val (.long x3), .second, .val (.long x4), .second, .val (.long x5), .second, .val (.ref a1), .val (.ref a2), .val (.ref o), .val (.ref a3), .val (.int (Int32.ofNat kx)), .val (.int vv), .val (.ref a4), .val (.ref a5), .val (.ref a6), .unset] [(.int (3 : Int32))])) rfl (hb hby at_248) rfl
  have gz_a7 : n0 ≤ a7 := Nat.le_trans Z425 (Nat.le_of_eq g_a7.symm)
  have ne_a1_a7 : a1 ≠ a7 := Nat.ne_of_lt (Nat.lt_of_lt_of_le U_a1_426.lt (Nat.le_of_eq g_a7.symm))
  have ne_a2_a7 : a2 ≠ a7 := Nat.ne_of_lt (Nat.lt_of_lt_of_le U_a2_427.lt (Nat.le_of_eq g_a7.symm))
  have ne_a3_a7 : a3 ≠ a7 := Nat.ne_of_lt (Nat.lt_of_lt_of_le U_a3_429.lt (Nat.le_of_eq g_a7.symm))
  have ne_a4_a7 : a4 ≠ a7 := Nat.ne_of_lt (Nat.lt_of_lt_of_le U_a4_430.lt (Nat.le_of_eq g_a7.symm))
  have ne_a5_a7 : a5 ≠ a7 := Nat.ne_of_lt (Nat.lt_of_lt_of_le V_a5_431.lt (Nat.le_of_eq g_a7.symm))
  have ne_a6_a7 : a6 ≠ a7 := Nat.ne_of_lt (Nat.lt_of_lt_of_le V_a6.lt (Nat.le_of_eq g_a7.symm))
  have ne_o_a7 : o ≠ a7 := Nat.ne_of_lt (Nat.lt_of_lt_of_le Y0_428.lt (Nat.le_of_eq g_a7.symm))
  have far_BB_a7 : BB ≤ a7 := Nat.le_trans tr_BB_425 (Nat.le_of_eq g_a7.symm)
  have tr_BB_432 : BB ≤ h432.size := Nat.le_trans tr_BB_425 E432.1
  have U_a1_433 := U_a1_426.ext E432
  have U_a2_434 := U_a2_427.ext E432
  have Y0_435 := Y0_428.ext E432
  have U_a3_436 := U_a3_429.ext E432
  have U_a4_437 := U_a4_430.ext E432
  have V_a5_438 := V_a5_431.ext E432
  have V_a6_439 := V_a6.ext E432
  have Z432 : n0 ≤ h432.size := Nat.le_trans Z425 E432.1
  refine ownGo.st (st432) ?_
  show ownGo p.tables e below T432 (mkF m 250 #[.val (.long x0), .second, .val (.long x1), .second, .val (.long x2), .second, .val (.long x3), .second, .val (.long x4), .second, .val (.long x5), .second, .val (.ref a1), .val (.ref a2), .val (.ref o), .val (.ref a3), .val (.int (Int32.ofNat kx)), .val (.int vv), .val (.ref a4), .val (.ref a5), .val (.ref a6), .unset] [(.ref a7)]) _
  have U_a5 : ownA Z h432 a5 .long 2 (fun j => .long (own_zero j)) := V_a5_438.eq (fun _ _ => rfl)
  have U_a6 : ownA Z h432 a6 .long 2 (fun j => .long (own_zero j)) := V_a6_439.eq (fun _ _ => rfl)
  refine ownGo.st (fun _ k => XS.astore X432.here hx rfl (hb hby at_250) rfl rfl (l' := #[.val (.long x0), .second, .val (.long x1), .second, .val (.long x2), .second, .val (.long x3), .second, .val (.long x4), .second, .val (.long x5), .second, .val (.ref a1), .val (.ref a2), .val (.ref o), .val (.ref a3), .val (.int (Int32.ofNat kx)), .val (.int vv), .val (.ref a4), .val (.ref a5), .val (.ref a6), .val (.ref a7)]) rfl k) ?_
  show ownGo p.tables e below T432 (mkF m 252 #[.val (.long x0), .second, .val (.long x1), .second, .val (.long x2), .second, .val (.long x3), .second, .val (.long x4), .second, .val (.long x5), .second, .val (.ref a1), .val (.ref a2), .val (.ref o), .val (.ref a3), .val (.int (Int32.ofNat kx)), .val (.int vv), .val (.ref a4), .val (.ref a5), .val (.ref a6), .val (.ref a7)] []) _
  refine ownGo.st (fun _ k => XS.aload X432.here hx rfl (hb hby at_252) rfl rfl k) ?_
  show ownGo p.tables e below T432 (mkF m 254 #[.val (.long x0), .second, .val (.long x1), .second, .val (.long x2), .second, .val (.long x3), .second, .val (.long x4), .second, .val (.long x5), .second, .val (.ref a1), .val (.ref a2), .val (.ref o), .val (.ref a3), .val (.int (Int32.ofNat kx)), .val (.int vv), .val (.ref a4), .val (.ref a5), .val (.ref a6), .val (.ref a7)] [(.ref o)]) _
  refine ownGo.st (fun _ k => XS.aload X432.here hx rfl (hb hby at_254) rfl rfl k) ?_
  show ownGo p.tables e below T432 (mkF m 256 #[.val (.long x0), .second, .val (.long x1), .second, .val (.long x2), .second, .val (.long x3), .second, .val (.long x4), .second, .val (.long x5), .second, .val (.ref a1), .val (.ref a2), .val (.ref o), .val (.ref a3), .val (.int (Int32.ofNat kx)), .val (.int vv), .val (.ref a4), .val (.ref a5), .val (.ref a6), .val (.ref a7)] [(.ref a3), (.ref o)]) _
  refine ownGo.st (fun _ k => XS.aload X432.here hx rfl (hb hby at_256) rfl rfl k) ?_
  show ownGo p.tables e below T432 (mkF m 258 #[.val (.long x0), .second, .val (.long x1), .second, .val (.long x2), .second, .val (.long x3), .second, .val (.long x4), .second, .val (.long x5), .second, .val (.ref a1), .val (.ref a2), .val (.ref o), .val (.ref a3), .val (.int (Int32.ofNat kx)), .val (.int vv), .val (.ref a4), .val (.ref a5), .val (.ref a6), .val (.ref a7)] [(.ref a5), (.ref a3), (.ref o)]) _
  obtain ⟨_, T440, L440, X440, hQ440, st440⟩ := own_callV X432 hx hZ hown (own_at hw 57 rfl) (own_at hw 58 rfl) (own_at hw 60 rfl) (own_at hw 59 rfl) (own_at hw 10 rfl) (own_at hw 61 rfl) (by decide) (rm8 l Z a0 hw o a3 a5 _ _ (own_three s0 s1 s2) (own_three l0 l1 l2) (own_threeN k0 k1 k2) own_zero h432 n0 Z432 gz_a5 ne_a3_a5 (Or.inr far_BB_a5) hk32 Y0_435 U_a3_436 U_a5) 0 (by decide) (by decide) e432 (by decide) (by decide) Y0_435.exa (g := (mkF m 258 #[.val (.long x0), .second, .val (.long x1), .second, .val (.long x2), .second, .val (.long x3), .second, .val (.long x4), .second, .val (.long x5), .second, .val (.ref a1), .val (.ref a2), .val (.ref o), .val (.ref a3), .val (.int (Int32.ofNat kx)), .val (.int vv), .val (.ref a4), .val (.ref a5), .val (.ref a6), .val (.ref a7)] [(.ref a5), (.ref a3), (.ref o)])) rfl (by rw [hml]; rfl) (argsL := [(.ref a3), (.ref a5)]) (rest := []) (lenOf pd___I_J_V rfl) rfl (by show 2 * 0 + _ ≤ _; exact Nat.le_of_eq rfl) (hb hby at_258)
  obtain ⟨rfl, N440q, K440, V_a5_440⟩ := hQ440
  have N440 := Fr.app N414 N440q
  have U_a1_441 := U_a1_433.keep K440 (ninS ne_a1_a5 nin0)
  have U_a2_442 := U_a2_434.keep K440 (ninS ne_a2_a5 nin0)
  have Y0_443 := Y0_435.keep K440 (fun x hx => by cases List.mem_singleton.mp hx; exact Or.inr far_BB_a5)
  have U_a3_444 := U_a3_436.keep K440 (ninS ne_a3_a5 nin0)
  have U_a4_445 := U_a4_437.keep K440 (ninS ne_a4_a5 nin0)
  have U_a6_446 := U_a6.keep K440 (ninS (Ne.symm ne_a5_a6) nin0)
  have V_a7_447 := V_a7.keep K440 (ninS (Ne.symm ne_a5_a7) nin0)
  have Z440 : n0 ≤ T440.heap.size := Nat.le_trans Z432 K440.1
  have tr_BB_440 : BB ≤ T440.heap.size := Nat.le_trans tr_BB_432 K440.1
  have U_a5_440 : ownA Z T440.heap a5 .long 2 (fun j => .long ((own_pk (own_x (own_three s0 s1 s2) (own_three l0 l1 l2) (own_threeN k0 k1 k2)) (own_threeN k0 k1 k2) 3) j)) := V_a5_440.eq (fun j hj => congrArg Value.long (own_packed_pk (own_three s0 s1 s2) (own_three l0 l1 l2) (own_threeN k0 k1 k2) hk32 hlow j hj))
  refine ownGo.st st440 ?_
  show ownGo p.tables e below T440 (mkF m 261 #[.val (.long x0), .second, .val (.long x1), .second, .val (.long x2), .second, .val (.long x3), .second, .val (.long x4), .second, .val (.long x5), .second, .val (.ref a1), .val (.ref a2), .val (.ref o), .val (.ref a3), .val (.int (Int32.ofNat kx)), .val (.int vv), .val (.ref a4), .val (.ref a5), .val (.ref a6), .val (.ref a7)] []) _
  refine ownGo.st (fun _ k => XS.aload X440.here hx rfl (hb hby at_261) rfl rfl k) ?_
  show ownGo p.tables e below T440 (mkF m 263 #[.val (.long x0), .second, .val (.long x1), .second, .val (.long x2), .second, .val (.long x3), .second, .val (.long x4), .second, .val (.long x5), .second, .val (.ref a1), .val (.ref a2), .val (.ref o), .val (.ref a3), .val (.int (Int32.ofNat kx)), .val (.int vv), .val (.ref a4), .val (.ref a5), .val (.ref a6), .val (.ref a7)] [(.ref o)]) _
  refine ownGo.st (fun _ k => XS.aload X440.here hx rfl (hb hby at_263) rfl rfl k) ?_
  show ownGo p.tables e below T440 (mkF m 265 #[.val (.long x0), .second, .val (.long x1), .second, .val (.long x2), .second, .val (.long x3), .second, .val (.long x4), .second, .val (.long x5), .second, .val (.ref a1), .val (.ref a2), .val (.ref o), .val (.ref a3), .val (.int (Int32.ofNat kx)), .val (.int vv), .val (.ref a4), .val (.ref a5), .val (.ref a6), .val (.ref a7)] [(.ref a5), (.ref o)]) _
  refine ownGo.st (fun _ k => XS.iload X440.here hx rfl (hb hby at_265) rfl k) ?_
  show ownGo p.tables e below T440 (mkF m 267 #[.val (.long x0), .second, .val (.long x1), .second, .val (.long x2), .second, .val (.long x3), .second, .val (.long x4), .second, .val (.long x5), .second, .val (.ref a1), .val (.ref a2), .val (.ref o), .val (.ref a3), .val (.int (Int32.ofNat kx)), .val (.int vv), .val (.ref a4), .val (.ref a5), .val (.ref a6), .val (.ref a7)] [(.int (Int32.ofNat kx)), (.ref a5), (.ref o)]) _
  refine ownGo.st (fun _ k => XS.iload X440.here hx rfl (hb hby at_267) rfl k) ?_
  show ownGo p.tables e below T440 (mkF m 269 #[.val (.long x0), .second, .val (.long x1), .second, .val (.long x2), .second, .val (.long x3), .second, .val (.long x4), .second, .val (.long x5), .second, .val (.ref a1), .val (.ref a2), .val (.ref o), .val (.ref a3), .val (.int (Int32.ofNat kx)), .val (.int vv), .val (.ref a4), .val (.ref a5), .val (.ref a6), .val (.ref a7)] [(.int vv), (.int (Int32.ofNat kx)), (.ref a5), (.ref o)]) _
  obtain ⟨_, T448, L448, X448, hQ448, st448⟩ := own_callV X440 hx hZ hown (own_at hw 62 rfl) (own_at hw 63 rfl) (own_at hw 65 rfl) (own_at hw 64 rfl) (own_at hw 10 rfl) (own_at hw 66 rfl) (by decide) (rm9 l Z a0 hw o a5 (Int32.ofNat kx) vv _ _ kx (own_three l0 l1 l2) (own_threeN k0 k1 k2) (own_pk (own_x (own_three s0 s1 s2) (own_three l0 l1 l2) (own_threeN k0 k1 k2)) (own_threeN k0 k1 k2) 3) T440.heap n0 Z440 gz_a5 (Or.inr far_BB_a5) rfl hkx hk32 Y0_443 U_a5_440) 0 (by decide) (by decide) rfl (by decide) (by decide) Y0_443.exa (g := (mkF m 269 #[.val (.long x0), .second, .val (.long x1), .second, .val (.long x2), .second, .val (.long x3), .second, .val (.long x4), .second, .val (.long x5), .second, .val (.ref a1), .val (.ref a2), .val (.ref o), .val (.ref a3), .val (.int (Int32.ofNat kx)), .val (.int vv), .val (.ref a4), .val (.ref a5), .val (.ref a6), .val (.ref a7)] [(.int vv), (.int (Int32.ofNat kx)), (.ref a5), (.ref o)])) rfl (by rw [hml]; rfl) (argsL := [(.ref a5), (.int (Int32.ofNat kx)), (.int vv)]) (rest := []) (lenOf pd___JII_V rfl) rfl (by show 2 * 0 + _ ≤ _; exact Nat.le_of_eq rfl) (hb hby at_269)
  obtain ⟨rfl, N448q, K448, V_a5_448⟩ := hQ448
  have N448 := Fr.app N440 N448q
  have U_a1_449 := U_a1_441.keep K448 (ninS ne_a1_a5 nin0)
  have U_a2_450 := U_a2_442.keep K448 (ninS ne_a2_a5 nin0)
  have Y0_451 := Y0_443.keep K448 (fun x hx => by cases List.mem_singleton.mp hx; exact Or.inr far_BB_a5)
  have U_a3_452 := U_a3_444.keep K448 (ninS ne_a3_a5 nin0)
  have U_a4_453 := U_a4_445.keep K448 (ninS ne_a4_a5 nin0)
  have U_a6_454 := U_a6_446.keep K448 (ninS (Ne.symm ne_a5_a6) nin0)
  have V_a7_455 := V_a7_447.keep K448 (ninS (Ne.symm ne_a5_a7) nin0)
  have Z448 : n0 ≤ T448.heap.size := Nat.le_trans Z440 K448.1
  have tr_BB_448 : BB ≤ T448.heap.size := Nat.le_trans tr_BB_440 K448.1
  have U_a5_448 : ownA Z T448.heap a5 .long 2 (fun j => .long ((own_pk (own_x (own_upd (own_three s0 s1 s2) kx vv) (own_three l0 l1 l2) (own_threeN k0 k1 k2)) (own_threeN k0 k1 k2) 3) j)) := V_a5_448.eq (fun j hj => congrArg Value.long (own_set_ok (own_three s0 s1 s2) (own_three l0 l1 l2) (own_threeN k0 k1 k2) hk32 hlow kx hkx vv j))
  refine ownGo.st st448 ?_
  show ownGo p.tables e below T448 (mkF m 272 #[.val (.long x0), .second, .val (.long x1), .second, .val (.long x2), .second, .val (.long x3), .second, .val (.long x4), .second, .val (.long x5), .second, .val (.ref a1), .val (.ref a2), .val (.ref o), .val (.ref a3), .val (.int (Int32.ofNat kx)), .val (.int vv), .val (.ref a4), .val (.ref a5), .val (.ref a6), .val (.ref a7)] []) _
  refine ownGo.st (fun _ k => XS.aload X448.here hx rfl (hb hby at_272) rfl rfl k) ?_
  show ownGo p.tables e below T448 (mkF m 274 #[.val (.long x0), .second, .val (.long x1), .second, .val (.long x2), .second, .val (.long x3), .second, .val (.long x4), .second, .val (.long x5), .second, .val (.ref a1), .val (.ref a2), .val (.ref o), .val (.ref a3), .val (.int (Int32.ofNat kx)), .val (.int vv), .val (.ref a4), .val (.ref a5), .val (.ref a6), .val (.ref a7)] [(.ref o)]) _
  refine ownGo.st (fun _ k => XS.aload X448.here hx rfl (hb hby at_274) rfl rfl k) ?_
  show ownGo p.tables e below T448 (mkF m 276 #[.val (.long x0), .second, .val (.long x1), .second, .val (.long x2), .second, .val (.long x3), .second, .val (.long x4), .second, .val (.long x5), .second, .val (.ref a1), .val (.ref a2), .val (.ref o), .val (.ref a3), .val (.int (Int32.ofNat kx)), .val (.int vv), .val (.ref a4), .val (.ref a5), .val (.ref a6), .val (.ref a7)] [(.ref a4), (.ref o)]) _
  refine ownGo.st (fun _ k => XS.aload X448.here hx rfl (hb hby at_276) rfl rfl k) ?_
  show ownGo p.tables e below T448 (mkF m 278 #[.val (.long x0), .second, .val (.long x1), .second, .val (.long x2), .second, .val (.long x3), .second, .val (.long x4), .second, .val (.long x5), .second, .val (.ref a1), .val (.ref a2), .val (.ref o), .val (.ref a3), .val (.int (Int32.ofNat kx)), .val (.int vv), .val (.ref a4), .val (.ref a5), .val (.ref a6), .val (.ref a7)] [(.ref a6), (.ref a4), (.ref o)]) _
  obtain ⟨_, T456, L456, X456, hQ456, st456⟩ := own_callV X448 hx hZ hown (own_at hw 57 rfl) (own_at hw 58 rfl) (own_at hw 60 rfl) (own_at hw 59 rfl) (own_at hw 10 rfl) (own_at hw 61 rfl) (by decide) (rm8 l Z a0 hw o a4 a6 _ _ (own_upd (own_three s0 s1 s2) kx vv) (own_three l0 l1 l2) (own_threeN k0 k1 k2) own_zero T448.heap n0 Z448 gz_a6 ne_a4_a6 (Or.inr far_BB_a6) hk32 Y0_451 U_a4_453 U_a6_454) 0 (by decide) (by decide) rfl (by decide) (by decide) Y0_451.exa (g := (mkF m 278 #[.val (.long x0), .second, .val (.long x1), .second, .val (.long x2), .second, .val (.long x3), .second, .val (.long x4), .second, .val (.long x5), .second, .val (.ref a1), .val (.ref a2), .val (.ref o), .val (.ref a3), .val (.int (Int32.ofNat kx)), .val (.int vv), .val (.ref a4), .val (.ref a5), .val (.ref a6), .val (.ref a7)] [(.ref a6), (.ref a4), (.ref o)])) rfl (by rw [hml]; rfl) (argsL := [(.ref a4), (.ref a6)]) (rest := []) (lenOf pd___I_J_V rfl) rfl (by show 2 * 0 + _ ≤ _; exact Nat.le_of_eq rfl) (hb hby at_278)
  obtain ⟨rfl, N456q, K456, V_a6_456⟩ := hQ456
  have N456 := Fr.app N448 N456q
  have U_a1_457 := U_a1_449.keep K456 (ninS ne_a1_a6 nin0)
  have U_a2_458 := U_a2_450.keep K456 (ninS ne_a2_a6 nin0)
  have Y0_459 := Y0_451.keep K456 (fun x hx => by cases List.mem_singleton.mp hx; exact Or.inr far_BB_a6)
  have U_a3_460 := U_a3_452.keep K456 (ninS ne_a3_a6 nin0)
  have U_a4_461 := U_a4_453.keep K456 (ninS ne_a4_a6 nin0)
  have V_a7_462 := V_a7_455.keep K456 (ninS (Ne.symm ne_a6_a7) nin0)
  have U_a5_463 := U_a5_448.keep K456 (ninS ne_a5_a6 nin0)
  have Z456 : n0 ≤ T456.heap.size := Nat.le_trans Z448 K456.1
  have tr_BB_456 : BB ≤ T456.heap.size := Nat.le_trans tr_BB_448 K456.1
  have U_a6_456 : ownA Z T456.heap a6 .long 2 (fun j => .long ((own_pk (own_x (own_upd (own_three s0 s1 s2) kx vv) (own_three l0 l1 l2) (own_threeN k0 k1 k2)) (own_threeN k0 k1 k2) 3) j)) := V_a6_456.eq (fun j hj => congrArg Value.long (own_packed_pk (own_upd (own_three s0 s1 s2) kx vv) (own_three l0 l1 l2) (own_threeN k0 k1 k2) hk32 hlow2 j hj))
  refine ownGo.st st456 ?_
  show ownGo p.tables e below T456 (mkF m 281 #[.val (.long x0), .second, .val (.long x1), .second, .val (.long x2), .second, .val (.long x3), .second, .val (.long x4), .second, .val (.long x5), .second, .val (.ref a1), .val (.ref a2), .val (.ref o), .val (.ref a3), .val (.int (Int32.ofNat kx)), .val (.int vv), .val (.ref a4), .val (.ref a5), .val (.ref a6), .val (.ref a7)] []) _
  refine ownGo.st (fun _ k => XS.aload X456.here hx rfl (hb hby at_281) rfl rfl k) ?_
  show ownGo p.tables e below T456 (mkF m 283 #[.val (.long x0), .second, .val (.long x1), .second, .val (.long x2), .second, .val (.long x3), .second, .val (.long x4), .second, .val (.long x5), .second, .val (.ref a1), .val (.ref a2), .val (.ref o), .val (.ref a3), .val (.int (Int32.ofNat kx)), .val (.int vv), .val (.ref a4), .val (.ref a5), .val (.ref a6), .val (.ref a7)] [(.ref o)]) _
  refine ownGo.st (fun _ k => XS.aload X456.here hx rfl (hb hby at_283) rfl rfl k) ?_
  show ownGo p.tables e below T456 (mkF m 285 #[.val (.long x0), .second, .val (.long x1), .second, .val (.long x2), .second, .val (.long x3), .second, .val (.long x4), .second, .val (.long x5), .second, .val (.ref a1), .val (.ref a2), .val (.ref o), .val (.ref a3), .val (.int (Int32.ofNat kx)), .val (.int vv), .val (.ref a4), .val (.ref a5), .val (.ref a6), .val (.ref a7)] [(.ref a5), (.ref o)]) _
  refine ownGo.st (fun _ k => XS.aload X456.here hx rfl (hb hby at_285) rfl rfl k) ?_
  show ownGo p.tables e below T456 (mkF m 287 #[.val (.long x0), .second, .val (.long x1), .second, .val (.long x2), .second, .val (.long x3), .second, .val (.long x4), .second, .val (.long x5), .second, .val (.ref a1), .val (.ref a2), .val (.ref o), .val (.ref a3), .val (.int (Int32.ofNat kx)), .val (.int vv), .val (.ref a4), .val (.ref a5), .val (.ref a6), .val (.ref a7)] [(.ref a7), (.ref a5), (.ref o)]) _
  obtain ⟨_, T464, L464, X464, hQ464, st464⟩ := own_callV X456 hx hZ hown (own_at hw 68 rfl) (own_at hw 69 rfl) (own_at hw 71 rfl) (own_at hw 70 rfl) (own_at hw 10 rfl) (own_at hw 72 rfl) (by decide) (rm10 l Z a0 hw o a5 a7 _ _ (own_three l0 l1 l2) (own_threeN k0 k1 k2) (own_pk (own_x (own_upd (own_three s0 s1 s2) kx vv) (own_three l0 l1 l2) (own_threeN k0 k1 k2)) (own_threeN k0 k1 k2) 3) _ T456.heap n0 Z456 gz_a7 ne_a5_a7 (Or.inr far_BB_a7) hk32 Y0_459 U_a5_463 V_a7_462) 0 (by decide) (by decide) rfl (by decide) (by decide) Y0_459.exa (g := (mkF m 287 #[.val (.long x0), .second, .val (.long x1), .second, .val (.long x2), .second, .val (.long x3), .second, .val (.long x4), .second, .val (.long x5), .second, .val (.ref a1), .val (.ref a2), .val (.ref o), .val (.ref a3), .val (.int (Int32.ofNat kx)), .val (.int vv), .val (.ref a4), .val (.ref a5), .val (.ref a6), .val (.ref a7)] [(.ref a7), (.ref a5), (.ref o)])) rfl (by rw [hml]; rfl) (argsL := [(.ref a5), (.ref a7)]) (rest := []) (lenOf pd___J_I_V rfl) rfl (by show 2 * 0 + _ ≤ _; exact Nat.le_of_eq rfl) (hb hby at_287)
  obtain ⟨rfl, N464q, K464, V_a7_464⟩ := hQ464
  have N464 := Fr.app N456 N464q
  have U_a1_465 := U_a1_457.keep K464 (ninS ne_a1_a7 nin0)
  have U_a2_466 := U_a2_458.keep K464 (ninS ne_a2_a7 nin0)
  have Y0_467 := Y0_459.keep K464 (fun x hx => by cases List.mem_singleton.mp hx; exact Or.inr far_BB_a7)
  have U_a3_468 := U_a3_460.keep K464 (ninS ne_a3_a7 nin0)
  have U_a4_469 := U_a4_461.keep K464 (ninS ne_a4_a7 nin0)
  have U_a5_470 := U_a5_463.keep K464 (ninS ne_a5_a7 nin0)
  have U_a6_471 := U_a6_456.keep K464 (ninS ne_a6_a7 nin0)
  have Z464 : n0 ≤ T464.heap.size := Nat.le_trans Z456 K464.1
  have tr_BB_464 : BB ≤ T464.heap.size := Nat.le_trans tr_BB_456 K464.1
  have U_a7_464 : ownA Z T464.heap a7 .int 3 (fun i => .int ((own_upd (own_three s0 s1 s2) kx vv) i)) := V_a7_464.eq (fun i hi => congrArg Value.int (own_un_ok (own_upd (own_three s0 s1 s2) kx vv) (own_three l0 l1 l2) (own_threeN k0 k1 k2) hk32 hlow2 i hi))
  refine ownGo.st st464 ?_
  show ownGo p.tables e below T464 (mkF m 290 #[.val (.long x0), .second, .val (.long x1), .second, .val (.long x2), .second, .val (.long x3), .second, .val (.long x4), .second, .val (.long x5), .second, .val (.ref a1), .val (.ref a2), .val (.ref o), .val (.ref a3), .val (.int (Int32.ofNat kx)), .val (.int vv), .val (.ref a4), .val (.ref a5), .val (.ref a6), .val (.ref a7)] []) _
  refine ownGo.st (fun _ k => XS.aload X464.here hx rfl (hb hby at_290) rfl rfl k) ?_
  show ownGo p.tables e below T464 (mkF m 292 #[.val (.long x0), .second, .val (.long x1), .second, .val (.long x2), .second, .val (.long x3), .second, .val (.long x4), .second, .val (.long x5), .second, .val (.ref a1), .val (.ref a2), .val (.ref o), .val (.ref a3), .val (.int (Int32.ofNat kx)), .val (.int vv), .val (.ref a4), .val (.ref a5), .val (.ref a6), .val (.ref a7)] [(.ref a7)]) _
  refine ownGo.st (fun _ k => XS.iconst X464.here hx rfl (hb hby at_292)  k) ?_
  show ownGo p.tables e below T464 (mkF m 293 #[.val (.long x0), .second, .val (.long x1), .second, .val (.long x2), .second, .val (.long x3), .second, .val (.long x4), .second, .val (.long x5), .second, .val (.ref a1), .val (.ref a2), .val (.ref o), .val (.ref a3), .val (.int (Int32.ofNat kx)), .val (.int vv), .val (.ref a4), .val (.ref a5), .val (.ref a6), .val (.ref a7)] [(.int (0 : Int32)), (.ref a7)]) _
  refine ownGo.st (own_iaload X464 hx hZ rfl U_a7_464 (i := 0) (v := ((own_upd (own_three s0 s1 s2) kx vv) 0)) rfl (by decide) rfl (g := (mkF m 293 #[.val (.long x0), .second, .val (.long x1), .second, .val (.long x2), .second, .val (.long x3), .second, .val (.long x4), .second, .val (.long x5), .second, .val (.ref a1), .val (.ref a2), .val (.ref o), .val (.ref a3), .val (.int (Int32.ofNat kx)), .val (.int vv), .val (.ref a4), .val (.ref a5), .val (.ref a6), .val (.ref a7)] [(.int (0 : Int32)), (.ref a7)])) rfl rfl (hb hby at_293)) ?_
  show ownGo p.tables e below T464 (mkF m 294 #[.val (.long x0), .second, .val (.long x1), .second, .val (.long x2), .second, .val (.long x3), .second, .val (.long x4), .second, .val (.long x5), .second, .val (.ref a1), .val (.ref a2), .val (.ref o), .val (.ref a3), .val (.int (Int32.ofNat kx)), .val (.int vv), .val (.ref a4), .val (.ref a5), .val (.ref a6), .val (.ref a7)] [(.int ((own_upd (own_three s0 s1 s2) kx vv) 0))]) _
  refine ownGo.st (fun _ k => XS.aload X464.here hx rfl (hb hby at_294) rfl rfl k) ?_
  show ownGo p.tables e below T464 (mkF m 296 #[.val (.long x0), .second, .val (.long x1), .second, .val (.long x2), .second, .val (.long x3), .second, .val (.long x4), .second, .val (.long x5), .second, .val (.ref a1), .val (.ref a2), .val (.ref o), .val (.ref a3), .val (.int (Int32.ofNat kx)), .val (.int vv), .val (.ref a4), .val (.ref a5), .val (.ref a6), .val (.ref a7)] [(.ref a4), (.int ((own_upd (own_three s0 s1 s2) kx vv) 0))]) _
  refine ownGo.st (fun _ k => XS.iconst X464.here hx rfl (hb hby at_296)  k) ?_
  show ownGo p.tables e below T464 (mkF m 297 #[.val (.long x0), .second, .val (.long x1), .second, .val (.long x2), .second, .val (.long x3), .second, .val (.long x4), .second, .val (.long x5), .second, .val (.ref a1), .val (.ref a2), .val (.ref o), .val (.ref a3), .val (.int (Int32.ofNat kx)), .val (.int vv), .val (.ref a4), .val (.ref a5), .val (.ref a6), .val (.ref a7)] [(.int (0 : Int32)), (.ref a4), (.int ((own_upd (own_three s0 s1 s2) kx vv) 0))]) _
  refine ownGo.st (own_iaload X464 hx hZ rfl U_a4_469 (i := 0) (v := ((own_upd (own_three s0 s1 s2) kx vv) 0)) rfl (by decide) rfl (g := (mkF m 297 #[.val (.long x0), .second, .val (.long x1), .second, .val (.long x2), .second, .val (.long x3), .second, .val (.long x4), .second, .val (.long x5), .second, .val (.ref a1), .val (.ref a2), .val (.ref o), .val (.ref a3), .val (.int (Int32.ofNat kx)), .val (.int vv), .val (.ref a4), .val (.ref a5), .val (.ref a6), .val (.ref a7)] [(.int (0 : Int32)), (.ref a4), (.int ((own_upd (own_three s0 s1 s2) kx vv) 0))])) rfl rfl (hb hby at_297)) ?_
  show ownGo p.tables e below T464 (mkF m 298 #[.val (.long x0), .second, .val (.long x1), .second, .val (.long x2), .second, .val (.long x3), .second, .val (.long x4), .second, .val (.long x5), .second, .val (.ref a1), .val (.ref a2), .val (.ref o), .val (.ref a3), .val (.int (Int32.ofNat kx)), .val (.int vv), .val (.ref a4), .val (.ref a5), .val (.ref a6), .val (.ref a7)] [(.int ((own_upd (own_three s0 s1 s2) kx vv) 0)), (.int ((own_upd (own_three s0 s1 s2) kx vv) 0))]) _
  have hc472 : ((own_upd (own_three s0 s1 s2) kx vv) 0) = ((own_upd (own_three s0 s1 s2) kx vv) 0) := rfl
  refine ownGo.st (fun _ k => XS.icmpNo X464.here hx rfl (hb hby at_298) rfl (teq hc472).2 k) ?_
  show ownGo p.tables e below T464 (mkF m 301 #[.val (.long x0), .second, .val (.long x1), .second, .val (.long x2), .second, .val (.long x3), .second, .val (.long x4), .second, .val (.long x5), .second, .val (.ref a1), .val (.ref a2), .val (.ref o), .val (.ref a3), .val (.int (Int32.ofNat kx)), .val (.int vv), .val (.ref a4), .val (.ref a5), .val (.ref a6), .val (.ref a7)] []) _
  refine ownGo.st (fun _ k => XS.aload X464.here hx rfl (hb hby at_301) rfl rfl k) ?_
  show ownGo p.tables e below T464 (mkF m 303 #[.val (.long x0), .second, .val (.long x1), .second, .val (.long x2), .second, .val (.long x3), .second, .val (.long x4), .second, .val (.long x5), .second, .val (.ref a1), .val (.ref a2), .val (.ref o), .val (.ref a3), .val (.int (Int32.ofNat kx)), .val (.int vv), .val (.ref a4), .val (.ref a5), .val (.ref a6), .val (.ref a7)] [(.ref a7)]) _
  refine ownGo.st (fun _ k => XS.iconst X464.here hx rfl (hb hby at_303)  k) ?_
  show ownGo p.tables e below T464 (mkF m 304 #[.val (.long x0), .second, .val (.long x1), .second, .val (.long x2), .second, .val (.long x3), .second, .val (.long x4), .second, .val (.long x5), .second, .val (.ref a1), .val (.ref a2), .val (.ref o), .val (.ref a3), .val (.int (Int32.ofNat kx)), .val (.int vv), .val (.ref a4), .val (.ref a5), .val (.ref a6), .val (.ref a7)] [(.int (1 : Int32)), (.ref a7)]) _
  refine ownGo.st (own_iaload X464 hx hZ rfl U_a7_464 (i := 1) (v := ((own_upd (own_three s0 s1 s2) kx vv) 1)) rfl (by decide) rfl (g := (mkF m 304 #[.val (.long x0), .second, .val (.long x1), .second, .val (.long x2), .second, .val (.long x3), .second, .val (.long x4), .second, .val (.long x5), .second, .val (.ref a1), .val (.ref a2), .val (.ref o), .val (.ref a3), .val (.int (Int32.ofNat kx)), .val (.int vv), .val (.ref a4), .val (.ref a5), .val (.ref a6), .val (.ref a7)] [(.int (1 : Int32)), (.ref a7)])) rfl rfl (hb hby at_304)) ?_
  show ownGo p.tables e below T464 (mkF m 305 #[.val (.long x0), .second, .val (.long x1), .second, .val (.long x2), .second, .val (.long x3), .second, .val (.long x4), .second, .val (.long x5), .second, .val (.ref a1), .val (.ref a2), .val (.ref o), .val (.ref a3), .val (.int (Int32.ofNat kx)), .val (.int vv), .val (.ref a4), .val (.ref a5), .val (.ref a6), .val (.ref a7)] [(.int ((own_upd (own_three s0 s1 s2) kx vv) 1))]) _
  refine ownGo.st (fun _ k => XS.aload X464.here hx rfl (hb hby at_305) rfl rfl k) ?_
  show ownGo p.tables e below T464 (mkF m 307 #[.val (.long x0), .second, .val (.long x1), .second, .val (.long x2), .second, .val (.long x3), .second, .val (.long x4), .second, .val (.long x5), .second, .val (.ref a1), .val (.ref a2), .val (.ref o), .val (.ref a3), .val (.int (Int32.ofNat kx)), .val (.int vv), .val (.ref a4), .val (.ref a5), .val (.ref a6), .val (.ref a7)] [(.ref a4), (.int ((own_upd (own_three s0 s1 s2) kx vv) 1))]) _
  refine ownGo.st (fun _ k => XS.iconst X464.here hx rfl (hb hby at_307)  k) ?_
  show ownGo p.tables e below T464 (mkF m 308 #[.val (.long x0), .second, .val (.long x1), .second, .val (.long x2), .second, .val (.long x3), .second, .val (.long x4), .second, .val (.long x5), .second, .val (.ref a1), .val (.ref a2), .val (.ref o), .val (.ref a3), .val (.int (Int32.ofNat kx)), .val (.int vv), .val (.ref a4), .val (.ref a5), .val (.ref a6), .val (.ref a7)] [(.int (1 : Int32)), (.ref a4), (.int ((own_upd (own_three s0 s1 s2) kx vv) 1))]) _
  refine ownGo.st (own_iaload X464 hx hZ rfl U_a4_469 (i := 1) (v := ((own_upd (own_three s0 s1 s2) kx vv) 1)) rfl (by decide) rfl (g := (mkF m 308 #[.val (.long x0), .second, .val (.long x1), .second, .val (.long x2), .second, .val (.long x3), .second, .val (.long x4), .second, .val (.long x5), .second, .val (.ref a1), .val (.ref a2), .val (.ref o), .val (.ref a3), .val (.int (Int32.ofNat kx)), .val (.int vv), .val (.ref a4), .val (.ref a5), .val (.ref a6), .val (.ref a7)] [(.int (1 : Int32)), (.ref a4), (.int ((own_upd (own_three s0 s1 s2) kx vv) 1))])) rfl rfl (hb hby at_308)) ?_
  show ownGo p.tables e below T464 (mkF m 309 #[.val (.long x0), .second, .val (.long x1), .second, .val (.long x2), .second, .val (.long x3), .second, .val (.long x4), .second, .val (.long x5), .second, .val (.ref a1), .val (.ref a2), .val (.ref o), .val (.ref a3), .val (.int (Int32.ofNat kx)), .val (.int vv), .val (.ref a4), .val (.ref a5), .val (.ref a6), .val (.ref a7)] [(.int ((own_upd (own_three s0 s1 s2) kx vv) 1)), (.int ((own_upd (own_three s0 s1 s2) kx vv) 1))]) _
  have hc473 : ((own_upd (own_three s0 s1 s2) kx vv) 1) = ((own_upd (own_three s0 s1 s2) kx vv) 1) := rfl
  refine ownGo.st (fun _ k => XS.icmpNo X464.here hx rfl (hb hby at_309) rfl (teq hc473).2 k) ?_
  show ownGo p.tables e below T464 (mkF m 312 #[.val (.long x0), .second, .val (.long x1), .second, .val (.long x2), .second, .val (.long x3), .second, .val (.long x4), .second, .val (.long x5), .second, .val (.ref a1), .val (.ref a2), .val (.ref o), .val (.ref a3), .val (.int (Int32.ofNat kx)), .val (.int vv), .val (.ref a4), .val (.ref a5), .val (.ref a6), .val (.ref a7)] []) _
  refine ownGo.st (fun _ k => XS.aload X464.here hx rfl (hb hby at_312) rfl rfl k) ?_
  show ownGo p.tables e below T464 (mkF m 314 #[.val (.long x0), .second, .val (.long x1), .second, .val (.long x2), .second, .val (.long x3), .second, .val (.long x4), .second, .val (.long x5), .second, .val (.ref a1), .val (.ref a2), .val (.ref o), .val (.ref a3), .val (.int (Int32.ofNat kx)), .val (.int vv), .val (.ref a4), .val (.ref a5), .val (.ref a6), .val (.ref a7)] [(.ref a7)]) _
  refine ownGo.st (fun _ k => XS.iconst X464.here hx rfl (hb hby at_314)  k) ?_
  show ownGo p.tables e below T464 (mkF m 315 #[.val (.long x0), .second, .val (.long x1), .second, .val (.long x2), .second, .val (.long x3), .second, .val (.long x4), .second, .val (.long x5), .second, .val (.ref a1), .val (.ref a2), .val (.ref o), .val (.ref a3), .val (.int (Int32.ofNat kx)), .val (.int vv), .val (.ref a4), .val (.ref a5), .val (.ref a6), .val (.ref a7)] [(.int (2 : Int32)), (.ref a7)]) _
  refine ownGo.st (own_iaload X464 hx hZ rfl U_a7_464 (i := 2) (v := ((own_upd (own_three s0 s1 s2) kx vv) 2)) rfl (by decide) rfl (g := (mkF m 315 #[.val (.long x0), .second, .val (.long x1), .second, .val (.long x2), .second, .val (.long x3), .second, .val (.long x4), .second, .val (.long x5), .second, .val (.ref a1), .val (.ref a2), .val (.ref o), .val (.ref a3), .val (.int (Int32.ofNat kx)), .val (.int vv), .val (.ref a4), .val (.ref a5), .val (.ref a6), .val (.ref a7)] [(.int (2 : Int32)), (.ref a7)])) rfl rfl (hb hby at_315)) ?_
  show ownGo p.tables e below T464 (mkF m 316 #[.val (.long x0), .second, .val (.long x1), .second, .val (.long x2), .second, .val (.long x3), .second, .val (.long x4), .second, .val (.long x5), .second, .val (.ref a1), .val (.ref a2), .val (.ref o), .val (.ref a3), .val (.int (Int32.ofNat kx)), .val (.int vv), .val (.ref a4), .val (.ref a5), .val (.ref a6), .val (.ref a7)] [(.int ((own_upd (own_three s0 s1 s2) kx vv) 2))]) _
  refine ownGo.st (fun _ k => XS.aload X464.here hx rfl (hb hby at_316) rfl rfl k) ?_
  show ownGo p.tables e below T464 (mkF m 318 #[.val (.long x0), .second, .val (.long x1), .second, .val (.long x2), .second, .val (.long x3), .second, .val (.long x4), .second, .val (.long x5), .second, .val (.ref a1), .val (.ref a2), .val (.ref o), .val (.ref a3), .val (.int (Int32.ofNat kx)), .val (.int vv), .val (.ref a4), .val (.ref a5), .val (.ref a6), .val (.ref a7)] [(.ref a4), (.int ((own_upd (own_three s0 s1 s2) kx vv) 2))]) _
  refine ownGo.st (fun _ k => XS.iconst X464.here hx rfl (hb hby at_318)  k) ?_
  show ownGo p.tables e below T464 (mkF m 319 #[.val (.long x0), .second, .val (.long x1), .second, .val (.long x2), .second, .val (.long x3), .second, .val (.long x4), .second, .val (.long x5), .second, .val (.ref a1), .val (.ref a2), .val (.ref o), .val (.ref a3), .val (.int (Int32.ofNat kx)), .val (.int vv), .val (.ref a4), .val (.ref a5), .val (.ref a6), .val (.ref a7)] [(.int (2 : Int32)), (.ref a4), (.int ((own_upd (own_three s0 s1 s2) kx vv) 2))]) _
  refine ownGo.st (own_iaload X464 hx hZ rfl U_a4_469 (i := 2) (v := ((own_upd (own_three s0 s1 s2) kx vv) 2)) rfl (by decide) rfl (g := (mkF m 319 #[.val (.long x0), .second, .val (.long x1), .second, .val (.long x2), .second, .val (.long x3), .second, .val (.long x4), .second, .val (.long x5), .second, .val (.ref a1), .val (.ref a2), .val (.ref o), .val (.ref a3), .val (.int (Int32.ofNat kx)), .val (.int vv), .val (.ref a4), .val (.ref a5), .val (.ref a6), .val (.ref a7)] [(.int (2 : Int32)), (.ref a4), (.int ((own_upd (own_three s0 s1 s2) kx vv) 2))])) rfl rfl (hb hby at_319)) ?_
  show ownGo p.tables e below T464 (mkF m 320 #[.val (.long x0), .second, .val (.long x1), .second, .val (.long x2), .second, .val (.long x3), .second, .val (.long x4), .second, .val (.long x5), .second, .val (.ref a1), .val (.ref a2), .val (.ref o), .val (.ref a3), .val (.int (Int32.ofNat kx)), .val (.int vv), .val (.ref a4), .val (.ref a5), .val (.ref a6), .val (.ref a7)] [(.int ((own_upd (own_three s0 s1 s2) kx vv) 2)), (.int ((own_upd (own_three s0 s1 s2) kx vv) 2))]) _
  have hc474 : ((own_upd (own_three s0 s1 s2) kx vv) 2) = ((own_upd (own_three s0 s1 s2) kx vv) 2) := rfl
  refine ownGo.st (fun _ k => XS.icmpNo X464.here hx rfl (hb hby at_320) rfl (teq hc474).2 k) ?_
  show ownGo p.tables e below T464 (mkF m 323 #[.val (.long x0), .second, .val (.long x1), .second, .val (.long x2), .second, .val (.long x3), .second, .val (.long x4), .second, .val (.long x5), .second, .val (.ref a1), .val (.ref a2), .val (.ref o), .val (.ref a3), .val (.int (Int32.ofNat kx)), .val (.int vv), .val (.ref a4), .val (.ref a5), .val (.ref a6), .val (.ref a7)] []) _
  refine ownGo.st (fun _ k => XS.aload X464.here hx rfl (hb hby at_323) rfl rfl k) ?_
  show ownGo p.tables e below T464 (mkF m 325 #[.val (.long x0), .second, .val (.long x1), .second, .val (.long x2), .second, .val (.long x3), .second, .val (.long x4), .second, .val (.long x5), .second, .val (.ref a1), .val (.ref a2), .val (.ref o), .val (.ref a3), .val (.int (Int32.ofNat kx)), .val (.int vv), .val (.ref a4), .val (.ref a5), .val (.ref a6), .val (.ref a7)] [(.ref a5)]) _
  refine ownGo.st (fun _ k => XS.iconst X464.here hx rfl (hb hby at_325)  k) ?_
  show ownGo p.tables e below T464 (mkF m 326 #[.val (.long x0), .second, .val (.long x1), .second, .val (.long x2), .second, .val (.long x3), .second, .val (.long x4), .second, .val (.long x5), .second, .val (.ref a1), .val (.ref a2), .val (.ref o), .val (.ref a3), .val (.int (Int32.ofNat kx)), .val (.int vv), .val (.ref a4), .val (.ref a5), .val (.ref a6), .val (.ref a7)] [(.int (0 : Int32)), (.ref a5)]) _
  refine ownGo.st (own_laload X464 hx hZ rfl U_a5_470 (i := 0) (v := ((own_pk (own_x (own_upd (own_three s0 s1 s2) kx vv) (own_three l0 l1 l2) (own_threeN k0 k1 k2)) (own_threeN k0 k1 k2) 3) 0)) rfl (by decide) rfl (g := (mkF m 326 #[.val (.long x0), .second, .val (.long x1), .second, .val (.long x2), .second, .val (.long x3), .second, .val (.long x4), .second, .val (.long x5), .second, .val (.ref a1), .val (.ref a2), .val (.ref o), .val (.ref a3), .val (.int (Int32.ofNat kx)), .val (.int vv), .val (.ref a4), .val (.ref a5), .val (.ref a6), .val (.ref a7)] [(.int (0 : Int32)), (.ref a5)])) rfl rfl (hb hby at_326)) ?_
  show ownGo p.tables e below T464 (mkF m 327 #[.val (.long x0), .second, .val (.long x1), .second, .val (.long x2), .second, .val (.long x3), .second, .val (.long x4), .second, .val (.long x5), .second, .val (.ref a1), .val (.ref a2), .val (.ref o), .val (.ref a3), .val (.int (Int32.ofNat kx)), .val (.int vv), .val (.ref a4), .val (.ref a5), .val (.ref a6), .val (.ref a7)] [(.long ((own_pk (own_x (own_upd (own_three s0 s1 s2) kx vv) (own_three l0 l1 l2) (own_threeN k0 k1 k2)) (own_threeN k0 k1 k2) 3) 0))]) _
  refine ownGo.st (fun _ k => XS.aload X464.here hx rfl (hb hby at_327) rfl rfl k) ?_
  show ownGo p.tables e below T464 (mkF m 329 #[.val (.long x0), .second, .val (.long x1), .second, .val (.long x2), .second, .val (.long x3), .second, .val (.long x4), .second, .val (.long x5), .second, .val (.ref a1), .val (.ref a2), .val (.ref o), .val (.ref a3), .val (.int (Int32.ofNat kx)), .val (.int vv), .val (.ref a4), .val (.ref a5), .val (.ref a6), .val (.ref a7)] [(.ref a6), (.long ((own_pk (own_x (own_upd (own_three s0 s1 s2) kx vv) (own_three l0 l1 l2) (own_threeN k0 k1 k2)) (own_threeN k0 k1 k2) 3) 0))]) _
  refine ownGo.st (fun _ k => XS.iconst X464.here hx rfl (hb hby at_329)  k) ?_
  show ownGo p.tables e below T464 (mkF m 330 #[.val (.long x0), .second, .val (.long x1), .second, .val (.long x2), .second, .val (.long x3), .second, .val (.long x4), .second, .val (.long x5), .second, .val (.ref a1), .val (.ref a2), .val (.ref o), .val (.ref a3), .val (.int (Int32.ofNat kx)), .val (.int vv), .val (.ref a4), .val (.ref a5), .val (.ref a6), .val (.ref a7)] [(.int (0 : Int32)), (.ref a6), (.long ((own_pk (own_x (own_upd (own_three s0 s1 s2) kx vv) (own_three l0 l1 l2) (own_threeN k0 k1 k2)) (own_threeN k0 k1 k2) 3) 0))]) _
  refine ownGo.st (own_laload X464 hx hZ rfl U_a6_471 (i := 0) (v := ((own_pk (own_x (own_upd (own_three s0 s1 s2) kx vv) (own_three l0 l1 l2) (own_threeN k0 k1 k2)) (own_threeN k0 k1 k2) 3) 0)) rfl (by decide) rfl (g := (mkF m 330 #[.val (.long x0), .second, .val (.long x1), .second, .val (.long x2), .second, .val (.long x3), .second, .val (.long x4), .second, .val (.long x5), .second, .val (.ref a1), .val (.ref a2), .val (.ref o), .val (.ref a3), .val (.int (Int32.ofNat kx)), .val (.int vv), .val (.ref a4), .val (.ref a5), .val (.ref a6), .val (.ref a7)] [(.int (0 : Int32)), (.ref a6), (.long ((own_pk (own_x (own_upd (own_three s0 s1 s2) kx vv) (own_three l0 l1 l2) (own_threeN k0 k1 k2)) (own_threeN k0 k1 k2) 3) 0))])) rfl rfl (hb hby at_330)) ?_
  show ownGo p.tables e below T464 (mkF m 331 #[.val (.long x0), .second, .val (.long x1), .second, .val (.long x2), .second, .val (.long x3), .second, .val (.long x4), .second, .val (.long x5), .second, .val (.ref a1), .val (.ref a2), .val (.ref o), .val (.ref a3), .val (.int (Int32.ofNat kx)), .val (.int vv), .val (.ref a4), .val (.ref a5), .val (.ref a6), .val (.ref a7)] [(.long ((own_pk (own_x (own_upd (own_three s0 s1 s2) kx vv) (own_three l0 l1 l2) (own_threeN k0 k1 k2)) (own_threeN k0 k1 k2) 3) 0)), (.long ((own_pk (own_x (own_upd (own_three s0 s1 s2) kx vv) (own_three l0 l1 l2) (own_threeN k0 k1 k2)) (own_threeN k0 k1 k2) 3) 0))]) _
  refine ownGo.st (fun _ k => XS.lcmp X464.here hx rfl (hb hby at_331) rfl k) ?_
  show ownGo p.tables e below T464 (mkF m 332 #[.val (.long x0), .second, .val (.long x1), .second, .val (.long x2), .second, .val (.long x3), .second, .val (.long x4), .second, .val (.long x5), .second, .val (.ref a1), .val (.ref a2), .val (.ref o), .val (.ref a3), .val (.int (Int32.ofNat kx)), .val (.int vv), .val (.ref a4), .val (.ref a5), .val (.ref a6), .val (.ref a7)] [(.int (lcmpW ((own_pk (own_x (own_upd (own_three s0 s1 s2) kx vv) (own_three l0 l1 l2) (own_threeN k0 k1 k2)) (own_threeN k0 k1 k2) 3) 0) ((own_pk (own_x (own_upd (own_three s0 s1 s2) kx vv) (own_three l0 l1 l2) (own_threeN k0 k1 k2)) (own_threeN k0 k1 k2) 3) 0)))]) _
  have hc475 : ((own_pk (own_x (own_upd (own_three s0 s1 s2) kx vv) (own_three l0 l1 l2) (own_threeN k0 k1 k2)) (own_threeN k0 k1 k2) 3) 0) = ((own_pk (own_x (own_upd (own_three s0 s1 s2) kx vv) (own_three l0 l1 l2) (own_threeN k0 k1 k2)) (own_threeN k0 k1 k2) 3) 0) := rfl
  refine ownGo.st (fun _ k => XS.ifNo X464.here hx rfl (hb hby at_332) rfl ((if0 _ _).trans (teq ((lw_eq _ _).mpr hc475)).2) k) ?_
  show ownGo p.tables e below T464 (mkF m 335 #[.val (.long x0), .second, .val (.long x1), .second, .val (.long x2), .second, .val (.long x3), .second, .val (.long x4), .second, .val (.long x5), .second, .val (.ref a1), .val (.ref a2), .val (.ref o), .val (.ref a3), .val (.int (Int32.ofNat kx)), .val (.int vv), .val (.ref a4), .val (.ref a5), .val (.ref a6), .val (.ref a7)] []) _
  refine ownGo.st (fun _ k => XS.aload X464.here hx rfl (hb hby at_335) rfl rfl k) ?_
  show ownGo p.tables e below T464 (mkF m 337 #[.val (.long x0), .second, .val (.long x1), .second, .val (.long x2), .second, .val (.long x3), .second, .val (.long x4), .second, .val (.long x5), .second, .val (.ref a1), .val (.ref a2), .val (.ref o), .val (.ref a3), .val (.int (Int32.ofNat kx)), .val (.int vv), .val (.ref a4), .val (.ref a5), .val (.ref a6), .val (.ref a7)] [(.ref a5)]) _
  refine ownGo.st (fun _ k => XS.iconst X464.here hx rfl (hb hby at_337)  k) ?_
  show ownGo p.tables e below T464 (mkF m 338 #[.val (.long x0), .second, .val (.long x1), .second, .val (.long x2), .second, .val (.long x3), .second, .val (.long x4), .second, .val (.long x5), .second, .val (.ref a1), .val (.ref a2), .val (.ref o), .val (.ref a3), .val (.int (Int32.ofNat kx)), .val (.int vv), .val (.ref a4), .val (.ref a5), .val (.ref a6), .val (.ref a7)] [(.int (1 : Int32)), (.ref a5)]) _
  refine ownGo.st (own_laload X464 hx hZ rfl U_a5_470 (i := 1) (v := ((own_pk (own_x (own_upd (own_three s0 s1 s2) kx vv) (own_three l0 l1 l2) (own_threeN k0 k1 k2)) (own_threeN k0 k1 k2) 3) 1)) rfl (by decide) rfl (g := (mkF m 338 #[.val (.long x0), .second, .val (.long x1), .second, .val (.long x2), .second, .val (.long x3), .second, .val (.long x4), .second, .val (.long x5), .second, .val (.ref a1), .val (.ref a2), .val (.ref o), .val (.ref a3), .val (.int (Int32.ofNat kx)), .val (.int vv), .val (.ref a4), .val (.ref a5), .val (.ref a6), .val (.ref a7)] [(.int (1 : Int32)), (.ref a5)])) rfl rfl (hb hby at_338)) ?_
  show ownGo p.tables e below T464 (mkF m 339 #[.val (.long x0), .second, .val (.long x1), .second, .val (.long x2), .second, .val (.long x3), .second, .val (.long x4), .second, .val (.long x5), .second, .val (.ref a1), .val (.ref a2), .val (.ref o), .val (.ref a3), .val (.int (Int32.ofNat kx)), .val (.int vv), .val (.ref a4), .val (.ref a5), .val (.ref a6), .val (.ref a7)] [(.long ((own_pk (own_x (own_upd (own_three s0 s1 s2) kx vv) (own_three l0 l1 l2) (own_threeN k0 k1 k2)) (own_threeN k0 k1 k2) 3) 1))]) _
  refine ownGo.st (fun _ k => XS.aload X464.here hx rfl (hb hby at_339) rfl rfl k) ?_
  show ownGo p.tables e below T464 (mkF m 341 #[.val (.long x0), .second, .val (.long x1), .second, .val (.long x2), .second, .val (.long x3), .second, .val (.long x4), .second, .val (.long x5), .second, .val (.ref a1), .val (.ref a2), .val (.ref o), .val (.ref a3), .val (.int (Int32.ofNat kx)), .val (.int vv), .val (.ref a4), .val (.ref a5), .val (.ref a6), .val (.ref a7)] [(.ref a6), (.long ((own_pk (own_x (own_upd (own_three s0 s1 s2) kx vv) (own_three l0 l1 l2) (own_threeN k0 k1 k2)) (own_threeN k0 k1 k2) 3) 1))]) _
  refine ownGo.st (fun _ k => XS.iconst X464.here hx rfl (hb hby at_341)  k) ?_
  show ownGo p.tables e below T464 (mkF m 342 #[.val (.long x0), .second, .val (.long x1), .second, .val (.long x2), .second, .val (.long x3), .second, .val (.long x4), .second, .val (.long x5), .second, .val (.ref a1), .val (.ref a2), .val (.ref o), .val (.ref a3), .val (.int (Int32.ofNat kx)), .val (.int vv), .val (.ref a4), .val (.ref a5), .val (.ref a6), .val (.ref a7)] [(.int (1 : Int32)), (.ref a6), (.long ((own_pk (own_x (own_upd (own_three s0 s1 s2) kx vv) (own_three l0 l1 l2) (own_threeN k0 k1 k2)) (own_threeN k0 k1 k2) 3) 1))]) _
  refine ownGo.st (own_laload X464 hx hZ rfl U_a6_471 (i := 1) (v := ((own_pk (own_x (own_upd (own_three s0 s1 s2) kx vv) (own_three l0 l1 l2) (own_threeN k0 k1 k2)) (own_threeN k0 k1 k2) 3) 1)) rfl (by decide) rfl (g := (mkF m 342 #[.val (.long x0), .second, .val (.long x1), .second, .val (.long x2), .second, .val (.long x3), .second, .val (.long x4), .second, .val (.long x5), .second, .val (.ref a1), .val (.ref a2), .val (.ref o), .val (.ref a3), .val (.int (Int32.ofNat kx)), .val (.int vv), .val (.ref a4), .val (.ref a5), .val (.ref a6), .val (.ref a7)] [(.int (1 : Int32)), (.ref a6), (.long ((own_pk (own_x (own_upd (own_three s0 s1 s2) kx vv) (own_three l0 l1 l2) (own_threeN k0 k1 k2)) (own_threeN k0 k1 k2) 3) 1))])) rfl rfl (hb hby at_342)) ?_
  show ownGo p.tables e below T464 (mkF m 343 #[.val (.long x0), .second, .val (.long x1), .second, .val (.long x2), .second, .val (.long x3), .second, .val (.long x4), .second, .val (.long x5), .second, .val (.ref a1), .val (.ref a2), .val (.ref o), .val (.ref a3), .val (.int (Int32.ofNat kx)), .val (.int vv), .val (.ref a4), .val (.ref a5), .val (.ref a6), .val (.ref a7)] [(.long ((own_pk (own_x (own_upd (own_three s0 s1 s2) kx vv) (own_three l0 l1 l2) (own_threeN k0 k1 k2)) (own_threeN k0 k1 k2) 3) 1)), (.long ((own_pk (own_x (own_upd (own_three s0 s1 s2) kx vv) (own_three l0 l1 l2) (own_threeN k0 k1 k2)) (own_threeN k0 k1 k2) 3) 1))]) _
  refine ownGo.st (fun _ k => XS.lcmp X464.here hx rfl (hb hby at_343) rfl k) ?_
  show ownGo p.tables e below T464 (mkF m 344 #[.val (.long x0), .second, .val (.long x1), .second, .val (.long x2), .second, .val (.long x3), .second, .val (.long x4), .second, .val (.long x5), .second, .val (.ref a1), .val (.ref a2), .val (.ref o), .val (.ref a3), .val (.int (Int32.ofNat kx)), .val (.int vv), .val (.ref a4), .val (.ref a5), .val (.ref a6), .val (.ref a7)] [(.int (lcmpW ((own_pk (own_x (own_upd (own_three s0 s1 s2) kx vv) (own_three l0 l1 l2) (own_threeN k0 k1 k2)) (own_threeN k0 k1 k2) 3) 1) ((own_pk (own_x (own_upd (own_three s0 s1 s2) kx vv) (own_three l0 l1 l2) (own_threeN k0 k1 k2)) (own_threeN k0 k1 k2) 3) 1)))]) _
  have hc476 : ((own_pk (own_x (own_upd (own_three s0 s1 s2) kx vv) (own_three l0 l1 l2) (own_threeN k0 k1 k2)) (own_threeN k0 k1 k2) 3) 1) = ((own_pk (own_x (own_upd (own_three s0 s1 s2) kx vv) (own_three l0 l1 l2) (own_threeN k0 k1 k2)) (own_threeN k0 k1 k2) 3) 1) := rfl
  refine ownGo.st (fun _ k => XS.ifNo X464.here hx rfl (hb hby at_344) rfl ((if0 _ _).trans (teq ((lw_eq _ _).mpr hc476)).2) k) ?_
  show ownGo p.tables e below T464 (mkF m 347 #[.val (.long x0), .second, .val (.long x1), .second, .val (.long x2), .second, .val (.long x3), .second, .val (.long x4), .second, .val (.long x5), .second, .val (.ref a1), .val (.ref a2), .val (.ref o), .val (.ref a3), .val (.int (Int32.ofNat kx)), .val (.int vv), .val (.ref a4), .val (.ref a5), .val (.ref a6), .val (.ref a7)] []) _
  refine ownGo.st (fun _ k => XS.iconst X464.here hx rfl (hb hby at_347)  k) ?_
  show ownGo p.tables e below T464 (mkF m 348 #[.val (.long x0), .second, .val (.long x1), .second, .val (.long x2), .second, .val (.long x3), .second, .val (.long x4), .second, .val (.long x5), .second, .val (.ref a1), .val (.ref a2), .val (.ref o), .val (.ref a3), .val (.int (Int32.ofNat kx)), .val (.int vv), .val (.ref a4), .val (.ref a5), .val (.ref a6), .val (.ref a7)] [(.int (1 : Int32))]) _
  refine ownGo.st (fun _ k => XS.goto X464.here hx rfl (pc0 := 348) (pc' := 352) rfl (hb hby at_348) (by decide) (by decide) k) ?_
  show ownGo p.tables e below T464 (mkF m 352 #[.val (.long x0), .second, .val (.long x1), .second, .val (.long x2), .second, .val (.long x3), .second, .val (.long x4), .second, .val (.long x5), .second, .val (.ref a1), .val (.ref a2), .val (.ref o), .val (.ref a3), .val (.int (Int32.ofNat kx)), .val (.int vv), .val (.ref a4), .val (.ref a5), .val (.ref a6), .val (.ref a7)] [(.int (1 : Int32))]) _
  exact own_retZ X464 hx hlk hret (hb hby at_352) (Or.inr rfl) ⟨rfl, N464⟩ (by decide) (by decide)
set_option maxRecDepth 65536 in
set_option maxHeartbeats 40000000 in
theorem comes_1 {Post : Tables → Env → Array Value → State → Outcome → State → Prop} (hpost : ∀ tb e args s v u, (limb_1_1.after args s (.returned v) u = true ∧ limb_1_2.after args s (.returned v) u = true ∧ True) → FrameEnd s (.returned v) u (Jvm.fieldLocs frame_1_writes args s ++ Jvm.arrayLocs frame_1_arrays args s ++ Jvm.staticLocs frame_1_statics s) 32 192 → Post tb e args s (.returned v) u) :
    ArmFor flags0 classFile x code maxLocals ret World_1 tables_1 room_1 Calls_1 rest_1 Pre_1 Post := by
  intro l hfl _ _ p e ha hc hk s m args below hf hA hF happ hP
  obtain ⟨hcalls, hrest, hpre⟩ := hP
  obtain ⟨-, -, -, hnamed, -, -, -, hat⟩ := (Spec.applies_iff hf).mp happ
  obtain ⟨hg, hn⟩ := and_e (Cond.before_iff.mp (show (Jvm.Cond.and given_1 narrow_1).before args s = true from hpre))
  obtain ⟨hcount, g1⟩ := and_e hg
  obtain ⟨hv0, g3⟩ := and_e g1
  obtain ⟨hv1, g5⟩ := and_e g3
  obtain ⟨hv2, g7⟩ := and_e g5
  obtain ⟨hv3, g9⟩ := and_e g7
  obtain ⟨hv4, hv5⟩ := and_e g9
  obtain ⟨w0, w1, w2, w3, w4, w5, rfl⟩ : ∃ w0 w1 w2 w3 w4 w5 : Value, args = #[w0, w1, w2, w3, w4, w5] := by
    have hs : args.size = 6 := by simpa [Cond.value, given_1] using hcount
    obtain ⟨L⟩ := args
    match L, hs with
    | [w0, w1, w2, w3, w4, w5], _ => exact ⟨w0, w1, w2, w3, w4, w5, rfl⟩
  have hw := fun d (hd : d ∈ tables_1) => atoms_spec (ws := Jvm.Cond.code x code maxLocals ret :: tables_1) hat d (List.mem_cons_of_mem _ hd)
  obtain ⟨i0, ei0⟩ := isL_v hv0
  obtain rfl : w0 = (.long i0) := Option.some.inj ei0
  obtain ⟨i1, ei1⟩ := isL_v hv1
  obtain rfl : w1 = (.long i1) := Option.some.inj ei1
  obtain ⟨i2, ei2⟩ := isL_v hv2
  obtain rfl : w2 = (.long i2) := Option.some.inj ei2
  obtain ⟨i3, ei3⟩ := isL_v hv3
  obtain rfl : w3 = (.long i3) := Option.some.inj ei3
  obtain ⟨i4, ei4⟩ := isL_v hv4
  obtain rfl : w4 = (.long i4) := Option.some.inj ei4
  obtain ⟨i5, ei5⟩ := isL_v hv5
  obtain rfl : w5 = (.long i5) := Option.some.inj ei5
  obtain ⟨n, o, h1, h2, h3, _, L, rfl, ⟨rfl, N⟩, hq⟩ := rm0 l s _ hw i0 i1 i2 i3 i4 i5 s.heap s.heap.size (Nat.le_refl _) p e ha hc hk s m _ below hf ((Spec.applies_iff_loose hf).mp happ).1 ⟨rfl, State.Warmed39.refl s, rfl⟩ trivial
  refine ⟨n, _, h1, h2, h3, hpost _ _ _ _ _ _ ⟨Cond.after_iff.mpr rfl, Cond.after_iff.mpr (eq_i res_at (Term.int_eval (1)) rfl), trivial⟩ ⟨hq.1, hq.2.1, (hq.2.2.sift fun y hy => Or.inr (N y hy)).mono (by decide) (by decide)⟩⟩
theorem main_1_1 : Claimed_1_1 := comes_1 fun _ _ _ _ _ _ h hF => ⟨h.1, hF⟩
theorem main_1_2 : Claimed_1_2 := comes_1 fun _ _ _ _ _ _ h hF => ⟨h.2.1, hF⟩
end Jvm.Pilot.@@N@@
namespace Jvm.Pilot.@@N@@
open Jvm Jvm.ClassFile Sem Op Lib Jvm.Free Jvm.Stand Jvm.Pilot.@@N@@.Jvm.D
/-! MADE BY PROGRAM (witnessworld.py) out of the Statement's table words and the real class files: 18 classes; the members and pool entries that the words name. The judged class is class 1, her method 1. -/
namespace start1
open Jvm.ClassFile
def u (s : String) : CpInfo := .utf8 (stringToUtf16 s)
/-- a pool by its gaps: so many unusable entries, then the entry; so many at the end -/
def gap : Nat → List CpInfo → List CpInfo
  | 0, r => r
  | n + 1, r => .unusable :: gap n r
def poolList (es : List (Nat × CpInfo)) (last : Nat) : List CpInfo := es.foldr (fun e r => gap e.1 (e.2 :: r)) (gap last [])
def pool (es : List (Nat × CpInfo)) (last : Nat) : Array CpInfo := ⟨poolList es last⟩
def fileOf (pool : Array CpInfo) (this : Nat) (attrs : Array Attribute := #[]) (ms : Array MethodInfo := #[]) (fl : Nat := 33) (sup : Nat := 0) (ifs : Array Nat := #[]) (fds : Array FieldInfo := #[]) : ClassFile where
  minorVersion := 0
  majorVersion := 65
  constantPool := pool
  accessFlags := fl
  thisClass := this
  superClass := sup
  interfaces := ifs
  fields := fds
  methods := ms
  attributes := attrs
def plain (name : String) (sup : Option ClassId) : Class where
  name := name
  kind := .ordinary
  loader := none
  accessFlags := 33
  super := sup
  interfaces := #[]
  cf := none
  fields := #[]
  methods := #[]
  instanceTypes := #[]
  staticTypes := #[]
  resolved := #[]
  callSites := []
  init := .initialized
  statics := none
  mirror := none

def pool0 : Array CpInfo := pool [(5, u "<init>"), (0, u "()V"), (1, .class_ 10), (1, u "java/lang/Object"), (85, u "clone"), (0, u "()Ljava/lang/Object;")] 26

def k0c0 : Code := { maxStack := 0, maxLocals := 1, code := object_method_1_code, exceptionTable := #[], attributes := #[] }
def k0m0 : Method := { name := "<init>", desc := "()V", sig := { parameters := [], returnType := none }, accessFlags := 1, code := some k0c0 }
def k0m1 : Method := { name := "clone", desc := "()Ljava/lang/Object;", sig := { parameters := [], returnType := some (.object "java/lang/Object") }, accessFlags := 260, code := none }
/-- java/lang/Object -/
def k0 : Class := { plain "java/lang/Object" none with
  accessFlags := 33
  interfaces := #[]
  cf := some (fileOf pool0 8 #[] #[{ accessFlags := 1, nameIndex := 5, descriptorIndex := 6, attributes := #[] }, { accessFlags := 260, nameIndex := 96, descriptorIndex := 97, attributes := #[] }] 33 0 #[] #[])
  fields := #[]
  methods := #[k0m0, k0m1]
  instanceTypes := #[]
  staticTypes := #[]
  resolved := Array.replicate 124 none
  statics := none }

def pool1 : Array CpInfo := pool [(2, .class_ 4), (1, u "java/lang/Object"), (0, u "<init>"), (0, u "()V"), (0, .methodref 8 9), (0, .class_ 10), (0, .nameAndType 11 12), (0, u "java/lang/Math"), (0, u "min"), (0, u "(II)I"), (0, .methodref 8 14), (0, .nameAndType 15 12), (0, u "max"), (0, .class_ 17), (0, u "com/example/ningbo/ningbo/engine/StateLayout"), (0, .methodref 16 19), (0, .nameAndType 5 20), (0, u "([I[I)V"), (0, .methodref 22 23), (0, .class_ 24), (0, .nameAndType 25 26), (0, u "com/example/ningbo/ningbo/engine/StateLayoutSetPinLaw"), (0, u "pick"), (0, u "(IIJ)I"), (0, .long 2147483647), (1, .methodref 16 30), (0, .nameAndType 31 32), (0, u "pack"), (0, u "([I[J)V"), (0, .methodref 16 34), (0, .nameAndType 35 36), (0, u "set"), (0, u "([JII)V"), (0, .methodref 16 38), (0, .nameAndType 39 40), (0, u "unpack"), (0, u "([J[I)V"), (0, .long 4294967295), (3, u "law"), (0, u "(JJJJJJ)Z")] 7

def k1m0 : Method := { name := "<init>", desc := "()V", sig := { parameters := [], returnType := none }, accessFlags := 1, code := none }
def k1c1 : Code := { maxStack := 7, maxLocals := 22, code := code, exceptionTable := #[], attributes := #[] }
def k1m1 : Method := { name := "law", desc := "(JJJJJJ)Z", sig := { parameters := [.long, .long, .long, .long, .long, .long], returnType := some .boolean }, accessFlags := 9, code := some k1c1 }
def k1c2 : Code := { maxStack := 8, maxLocals := 6, code := method_3_code, exceptionTable := #[], attributes := #[] }
def k1m2 : Method := { name := "pick", desc := "(IIJ)I", sig := { parameters := [.int, .int, .long], returnType := some .int }, accessFlags := 10, code := some k1c2 }
/-- com/example/ningbo/ningbo/engine/StateLayoutSetPinLaw -/
def k1 : Class := { plain "com/example/ningbo/ningbo/engine/StateLayoutSetPinLaw" (some 0) with
  accessFlags := 49
  interfaces := #[]
  cf := some (fileOf pool1 22 #[] #[{ accessFlags := 1, nameIndex := 5, descriptorIndex := 6, attributes := #[] }, { accessFlags := 9, nameIndex := 45, descriptorIndex := 46, attributes := #[] }, { accessFlags := 10, nameIndex := 25, descriptorIndex := 26, attributes := #[] }] 49 2 #[] #[])
  fields := #[]
  methods := #[k1m0, k1m1, k1m2]
  instanceTypes := #[]
  staticTypes := #[]
  resolved := Array.replicate 54 none
  statics := none }

def pool2 : Array CpInfo := pool [(1, .class_ 2), (0, u "java/lang/Math"), (1, .class_ 6), (1, u "java/lang/Object"), (0, u "<init>"), (0, u "()V"), (89, .class_ 100), (1, u "java/lang/Math$RandomNumberGeneratorHolder"), (71, u "negativeZeroFloatBits"), (0, u "J"), (2, u "negativeZeroDoubleBits"), (21, u "max"), (2, u "min"), (43, u "$assertionsDisabled"), (0, u "Z"), (88, u "(II)I"), (2, u "twoToTheDoubleScaleDown"), (0, u "D"), (4, u "twoToTheDoubleScaleUp"), (9, u "E"), (3, u "PI"), (2, u "TAU"), (2, u "DEGREES_TO_RADIANS"), (0, u "RADIANS_TO_DEGREES")] 94

def k2m0 : Method := { name := "<init>", desc := "()V", sig := { parameters := [], returnType := none }, accessFlags := 2, code := none }
def k2c1 : Code := { maxStack := 2, maxLocals := 2, code := jdk_29_method_65_code, exceptionTable := #[], attributes := #[] }
def k2m1 : Method := { name := "max", desc := "(II)I", sig := { parameters := [.int, .int], returnType := some .int }, accessFlags := 9, code := some k2c1 }
def k2c2 : Code := { maxStack := 2, maxLocals := 2, code := jdk_29_method_69_code, exceptionTable := #[], attributes := #[] }
def k2m2 : Method := { name := "min", desc := "(II)I", sig := { parameters := [.int, .int], returnType := some .int }, accessFlags := 9, code := some k2c2 }
/-- java/lang/Math -/
def k2 : Class := { plain "java/lang/Math" (some 0) with
  accessFlags := 49
  interfaces := #[]
  cf := some (fileOf pool2 1 #[.nestMembers #[98]] #[{ accessFlags := 2, nameIndex := 7, descriptorIndex := 8, attributes := #[] }, { accessFlags := 9, nameIndex := 198, descriptorIndex := 335, attributes := #[] }, { accessFlags := 9, nameIndex := 201, descriptorIndex := 335, attributes := #[] }] 49 4 #[] #[{ accessFlags := 25, nameIndex := 354, descriptorIndex := 339, attributes := #[] }, { accessFlags := 25, nameIndex := 358, descriptorIndex := 339, attributes := #[] }, { accessFlags := 25, nameIndex := 361, descriptorIndex := 339, attributes := #[] }, { accessFlags := 26, nameIndex := 364, descriptorIndex := 339, attributes := #[] }, { accessFlags := 26, nameIndex := 365, descriptorIndex := 339, attributes := #[] }, { accessFlags := 26, nameIndex := 172, descriptorIndex := 173, attributes := #[] }, { accessFlags := 26, nameIndex := 176, descriptorIndex := 173, attributes := #[] }, { accessFlags := 8, nameIndex := 344, descriptorIndex := 339, attributes := #[] }, { accessFlags := 8, nameIndex := 338, descriptorIndex := 339, attributes := #[] }, { accessFlags := 4120, nameIndex := 245, descriptorIndex := 246, attributes := #[] }])
  fields := #[{ name := "E", type := .double, accessFlags := 25, slot := 0, constantValue := 0 }, { name := "PI", type := .double, accessFlags := 25, slot := 1, constantValue := 0 }, { name := "TAU", type := .double, accessFlags := 25, slot := 2, constantValue := 0 }, { name := "DEGREES_TO_RADIANS", type := .double, accessFlags := 26, slot := 3, constantValue := 0 }, { name := "RADIANS_TO_DEGREES", type := .double, accessFlags := 26, slot := 4, constantValue := 0 }, { name := "negativeZeroFloatBits", type := .long, accessFlags := 26, slot := 5, constantValue := 0 }, { name := "negativeZeroDoubleBits", type := .long, accessFlags := 26, slot := 6, constantValue := 0 }, { name := "twoToTheDoubleScaleUp", type := .double, accessFlags := 8, slot := 7, constantValue := 0 }, { name := "twoToTheDoubleScaleDown", type := .double, accessFlags := 8, slot := 8, constantValue := 0 }, { name := "$assertionsDisabled", type := .boolean, accessFlags := 4120, slot := 9, constantValue := 0 }]
  methods := #[k2m0, k2m1, k2m2]
  instanceTypes := #[]
  staticTypes := #[.double, .double, .double, .double, .double, .long, .long, .double, .double, .boolean]
  resolved := Array.replicate 460 none
  statics := none }

def pool3 : Array CpInfo := pool [(1, .methodref 2 3), (0, .class_ 4), (0, .nameAndType 5 6), (0, u "java/lang/Object"), (0, u "<init>"), (0, u "()V"), (0, .fieldref 8 9), (0, .class_ 10), (0, .nameAndType 11 12), (0, u "com/example/ningbo/ningbo/engine/StateLayout"), (0, u "width"), (0, u "I"), (0, .methodref 14 15), (0, .class_ 16), (0, .nameAndType 17 18), (0, u "[I"), (0, u "clone"), (0, u "()Ljava/lang/Object;"), (0, .fieldref 8 20), (0, .nameAndType 21 16), (0, u "lowerBounds"), (0, .fieldref 8 23), (0, .nameAndType 24 16), (0, u "wordOf"), (0, .fieldref 8 26), (0, .nameAndType 27 16), (0, u "shiftOf"), (0, .fieldref 8 29), (0, .nameAndType 30 31), (0, u "maskOf"), (0, u "[J"), (0, .methodref 33 34), (0, .class_ 35), (0, .nameAndType 36 37), (0, u "java/lang/Long"), (0, u "numberOfLeadingZeros"), (0, u "(J)I"), (0, .long 18446744073709551615), (1, .fieldref 8 41), (0, .nameAndType 42 12), (0, u "bits"), (0, .methodref 44 45), (0, .class_ 46), (0, .nameAndType 47 48), (0, u "java/lang/Math"), (0, u "max"), (0, u "(II)I"), (0, .fieldref 8 50), (0, .nameAndType 51 12), (0, u "words"), (20, u "([I[I)V"), (10, u "pack"), (0, u "([I[J)V"), (0, u "set"), (0, u "([JII)V"), (0, u "unpack"), (0, u "([J[I)V")] 2

def k3c0 : Code := { maxStack := 6, maxLocals := 8, code := prog_49_method_1_code, exceptionTable := #[], attributes := #[] }
def k3m0 : Method := { name := "<init>", desc := "([I[I)V", sig := { parameters := [(.array .int), (.array .int)], returnType := none }, accessFlags := 0, code := some k3c0 }
def k3c1 : Code := { maxStack := 8, maxLocals := 6, code := prog_49_method_7_code, exceptionTable := #[], attributes := #[] }
def k3m1 : Method := { name := "pack", desc := "([I[J)V", sig := { parameters := [(.array .int), (.array .long)], returnType := none }, accessFlags := 0, code := some k3c1 }
def k3c2 : Code := { maxStack := 8, maxLocals := 8, code := prog_49_method_8_code, exceptionTable := #[], attributes := #[] }
def k3m2 : Method := { name := "set", desc := "([JII)V", sig := { parameters := [(.array .long), .int, .int], returnType := none }, accessFlags := 0, code := some k3c2 }
def k3c3 : Code := { maxStack := 6, maxLocals := 4, code := prog_49_method_9_code, exceptionTable := #[], attributes := #[] }
def k3m3 : Method := { name := "unpack", desc := "([J[I)V", sig := { parameters := [(.array .long), (.array .int)], returnType := none }, accessFlags := 0, code := some k3c3 }
/-- com/example/ningbo/ningbo/engine/StateLayout -/
def k3 : Class := { plain "com/example/ningbo/ningbo/engine/StateLayout" (some 0) with
  accessFlags := 32
  interfaces := #[]
  cf := some (fileOf pool3 8 #[] #[{ accessFlags := 0, nameIndex := 5, descriptorIndex := 72, attributes := #[] }, { accessFlags := 0, nameIndex := 83, descriptorIndex := 84, attributes := #[] }, { accessFlags := 0, nameIndex := 85, descriptorIndex := 86, attributes := #[] }, { accessFlags := 0, nameIndex := 87, descriptorIndex := 88, attributes := #[] }] 32 2 #[] #[{ accessFlags := 18, nameIndex := 11, descriptorIndex := 12, attributes := #[] }, { accessFlags := 18, nameIndex := 21, descriptorIndex := 16, attributes := #[] }, { accessFlags := 18, nameIndex := 24, descriptorIndex := 16, attributes := #[] }, { accessFlags := 18, nameIndex := 27, descriptorIndex := 16, attributes := #[] }, { accessFlags := 18, nameIndex := 30, descriptorIndex := 31, attributes := #[] }, { accessFlags := 18, nameIndex := 42, descriptorIndex := 12, attributes := #[] }, { accessFlags := 18, nameIndex := 51, descriptorIndex := 12, attributes := #[] }])
  fields := #[{ name := "width", type := .int, accessFlags := 18, slot := 0, constantValue := 0 }, { name := "lowerBounds", type := (.array .int), accessFlags := 18, slot := 1, constantValue := 0 }, { name := "wordOf", type := (.array .int), accessFlags := 18, slot := 2, constantValue := 0 }, { name := "shiftOf", type := (.array .int), accessFlags := 18, slot := 3, constantValue := 0 }, { name := "maskOf", type := (.array .long), accessFlags := 18, slot := 4, constantValue := 0 }, { name := "bits", type := .int, accessFlags := 18, slot := 5, constantValue := 0 }, { name := "words", type := .int, accessFlags := 18, slot := 6, constantValue := 0 }]
  methods := #[k3m0, k3m1, k3m2, k3m3]
  instanceTypes := #[.int, (.array .int), (.array .int), (.array .int), (.array .long), .int, .int]
  staticTypes := #[]
  resolved := Array.replicate 91 none
  statics := none }

def pool4 : Array CpInfo := pool [(1, .class_ 2), (0, u "java/lang/Cloneable"), (0, .class_ 4), (0, u "java/lang/Object")] 2

/-- java/lang/Cloneable -/
def k4 : Class := { plain "java/lang/Cloneable" (some 0) with
  accessFlags := 1537
  interfaces := #[]
  cf := some (fileOf pool4 1 #[] #[] 1537 3 #[] #[])
  fields := #[]
  methods := #[]
  instanceTypes := #[]
  staticTypes := #[]
  resolved := Array.replicate 7 none
  statics := none }

def pool5 : Array CpInfo := pool [(1, .class_ 2), (0, u "java/io/Serializable"), (0, .class_ 4), (0, u "java/lang/Object")] 2

/-- java/io/Serializable -/
def k5 : Class := { plain "java/io/Serializable" (some 0) with
  accessFlags := 1537
  interfaces := #[]
  cf := some (fileOf pool5 1 #[] #[] 1537 3 #[] #[])
  fields := #[]
  methods := #[]
  instanceTypes := #[]
  staticTypes := #[]
  resolved := Array.replicate 7 none
  statics := none }

def pool6 : Array CpInfo := pool [(2, .class_ 4), (1, u "java/lang/Object"), (0, u "<init>"), (0, u "()V"), (1, .class_ 10), (1, u "java/lang/Number"), (2, .class_ 14), (0, u "java/io/Serializable"), (0, u "serialVersionUID"), (0, u "J")] 20

def k6m0 : Method := { name := "<init>", desc := "()V", sig := { parameters := [], returnType := none }, accessFlags := 1, code := none }
/-- java/lang/Number -/
def k6 : Class := { plain "java/lang/Number" (some 0) with
  accessFlags := 1057
  interfaces := #[5]
  cf := some (fileOf pool6 8 #[] #[{ accessFlags := 1, nameIndex := 5, descriptorIndex := 6, attributes := #[] }] 1057 2 #[13] #[{ accessFlags := 26, nameIndex := 15, descriptorIndex := 16, attributes := #[] }])
  fields := #[{ name := "serialVersionUID", type := .long, accessFlags := 26, slot := 0, constantValue := 0 }]
  methods := #[k6m0]
  instanceTypes := #[]
  staticTypes := #[.long]
  resolved := Array.replicate 37 none
  statics := none }

def pool7 : Array CpInfo := pool [(1, .class_ 2), (0, u "java/lang/Comparable"), (0, .class_ 4), (0, u "java/lang/Object")] 7

/-- java/lang/Comparable -/
def k7 : Class := { plain "java/lang/Comparable" (some 0) with
  accessFlags := 1537
  interfaces := #[]
  cf := some (fileOf pool7 1 #[] #[] 1537 3 #[] #[])
  fields := #[]
  methods := #[]
  instanceTypes := #[]
  staticTypes := #[]
  resolved := Array.replicate 12 none
  statics := none }

def pool8 : Array CpInfo := pool [(1, .class_ 2), (0, u "java/lang/constant/Constable"), (0, .class_ 4), (0, u "java/lang/Object")] 6

/-- java/lang/constant/Constable -/
def k8 : Class := { plain "java/lang/constant/Constable" (some 0) with
  accessFlags := 1537
  interfaces := #[]
  cf := some (fileOf pool8 1 #[] #[] 1537 3 #[] #[])
  fields := #[]
  methods := #[]
  instanceTypes := #[]
  staticTypes := #[]
  resolved := Array.replicate 11 none
  statics := none }

def pool9 : Array CpInfo := pool [(1, .class_ 2), (0, u "java/lang/constant/ConstantDesc"), (0, .class_ 4), (0, u "java/lang/Object")] 32

/-- java/lang/constant/ConstantDesc -/
def k9 : Class := { plain "java/lang/constant/ConstantDesc" (some 0) with
  accessFlags := 1537
  interfaces := #[]
  cf := some (fileOf pool9 1 #[] #[] 1537 3 #[] #[])
  fields := #[]
  methods := #[]
  instanceTypes := #[]
  staticTypes := #[]
  resolved := Array.replicate 37 none
  statics := none }

def pool10 : Array CpInfo := pool [(1, .class_ 2), (0, u "java/lang/Long"), (15, .class_ 20), (1, u "java/lang/Integer"), (79, u "numberOfLeadingZeros"), (0, u "(J)I"), (133, .class_ 237), (1, u "java/lang/Long$LongCache"), (33, .class_ 272), (0, u "java/lang/Number"), (2, u "value"), (0, u "J"), (31, .methodref 18 309), (0, .nameAndType 100 310), (0, u "(I)I"), (50, u "TYPE"), (0, u "Ljava/lang/Class;"), (0, .class_ 364), (0, u "java/lang/Comparable"), (0, .class_ 366), (0, u "java/lang/constant/Constable"), (0, .class_ 368), (0, u "java/lang/constant/ConstantDesc"), (0, u "MIN_VALUE"), (1, u "MAX_VALUE"), (4, u "SIZE"), (0, u "I"), (1, u "BYTES"), (1, u "serialVersionUID")] 142

def k10c0 : Code := { maxStack := 3, maxLocals := 3, code := jdk_35_method_48_code, exceptionTable := #[], attributes := #[] }
def k10m0 : Method := { name := "numberOfLeadingZeros", desc := "(J)I", sig := { parameters := [.long], returnType := some .int }, accessFlags := 9, code := some k10c0 }
/-- java/lang/Long -/
def k10 : Class := { plain "java/lang/Long" (some 6) with
  accessFlags := 49
  interfaces := #[7, 8, 9]
  cf := some (fileOf pool10 1 #[.nestMembers #[235]] #[{ accessFlags := 9, nameIndex := 100, descriptorIndex := 101, attributes := #[] }] 49 271 #[363, 365, 367] #[{ accessFlags := 25, nameIndex := 369, descriptorIndex := 276, attributes := #[] }, { accessFlags := 25, nameIndex := 371, descriptorIndex := 276, attributes := #[] }, { accessFlags := 25, nameIndex := 361, descriptorIndex := 362, attributes := #[] }, { accessFlags := 18, nameIndex := 275, descriptorIndex := 276, attributes := #[] }, { accessFlags := 25, nameIndex := 376, descriptorIndex := 377, attributes := #[] }, { accessFlags := 25, nameIndex := 379, descriptorIndex := 377, attributes := #[] }, { accessFlags := 26, nameIndex := 381, descriptorIndex := 276, attributes := #[] }])
  fields := #[{ name := "MIN_VALUE", type := .long, accessFlags := 25, slot := 0, constantValue := 0 }, { name := "MAX_VALUE", type := .long, accessFlags := 25, slot := 1, constantValue := 0 }, { name := "TYPE", type := (.object "java/lang/Class"), accessFlags := 25, slot := 2, constantValue := 0 }, { name := "value", type := .long, accessFlags := 18, slot := 0, constantValue := 0 }, { name := "SIZE", type := .int, accessFlags := 25, slot := 3, constantValue := 0 }, { name := "BYTES", type := .int, accessFlags := 25, slot := 4, constantValue := 0 }, { name := "serialVersionUID", type := .long, accessFlags := 26, slot := 5, constantValue := 0 }]
  methods := #[k10m0]
  instanceTypes := #[.long]
  staticTypes := #[.long, .long, (.object "java/lang/Class"), .int, .int, .long]
  resolved := Array.replicate 524 none
  statics := none }

def pool11 : Array CpInfo := pool [(1, .class_ 2), (0, u "java/lang/Integer"), (16, u "digits"), (0, u "[C"), (32, u "numberOfLeadingZeros"), (0, u "(I)I"), (30, u "DigitOnes"), (0, u "[B"), (2, u "DigitTens"), (99, .class_ 190), (0, u "java/lang/Integer$IntegerCache"), (3, u "I"), (8, .class_ 204), (0, u "java/lang/Number"), (2, u "value"), (56, .integer 65536), (37, u "TYPE"), (0, u "Ljava/lang/Class;"), (0, .class_ 305), (0, u "java/lang/Comparable"), (0, .class_ 307), (0, u "java/lang/constant/Constable"), (0, .class_ 309), (0, u "java/lang/constant/ConstantDesc"), (0, u "MIN_VALUE"), (1, u "MAX_VALUE"), (3, u "SIZE"), (1, u "BYTES"), (1, u "serialVersionUID"), (0, u "J")] 131

def k11c0 : Code := { maxStack := 3, maxLocals := 2, code := jdk_33_method_47_code, exceptionTable := #[], attributes := #[] }
def k11m0 : Method := { name := "numberOfLeadingZeros", desc := "(I)I", sig := { parameters := [.int], returnType := some .int }, accessFlags := 9, code := some k11c0 }
/-- java/lang/Integer -/
def k11 : Class := { plain "java/lang/Integer" (some 6) with
  accessFlags := 49
  interfaces := #[7, 8, 9]
  cf := some (fileOf pool11 1 #[.nestMembers #[189]] #[{ accessFlags := 9, nameIndex := 53, descriptorIndex := 54, attributes := #[] }] 49 203 #[304, 306, 308] #[{ accessFlags := 25, nameIndex := 310, descriptorIndex := 194, attributes := #[] }, { accessFlags := 25, nameIndex := 312, descriptorIndex := 194, attributes := #[] }, { accessFlags := 25, nameIndex := 302, descriptorIndex := 303, attributes := #[] }, { accessFlags := 24, nameIndex := 19, descriptorIndex := 20, attributes := #[] }, { accessFlags := 24, nameIndex := 89, descriptorIndex := 86, attributes := #[] }, { accessFlags := 24, nameIndex := 85, descriptorIndex := 86, attributes := #[] }, { accessFlags := 18, nameIndex := 207, descriptorIndex := 194, attributes := #[] }, { accessFlags := 25, nameIndex := 316, descriptorIndex := 194, attributes := #[] }, { accessFlags := 25, nameIndex := 318, descriptorIndex := 194, attributes := #[] }, { accessFlags := 26, nameIndex := 320, descriptorIndex := 321, attributes := #[] }])
  fields := #[{ name := "MIN_VALUE", type := .int, accessFlags := 25, slot := 0, constantValue := 0 }, { name := "MAX_VALUE", type := .int, accessFlags := 25, slot := 1, constantValue := 0 }, { name := "TYPE", type := (.object "java/lang/Class"), accessFlags := 25, slot := 2, constantValue := 0 }, { name := "digits", type := (.array .char), accessFlags := 24, slot := 3, constantValue := 0 }, { name := "DigitTens", type := (.array .byte), accessFlags := 24, slot := 4, constantValue := 0 }, { name := "DigitOnes", type := (.array .byte), accessFlags := 24, slot := 5, constantValue := 0 }, { name := "value", type := .int, accessFlags := 18, slot := 0, constantValue := 0 }, { name := "SIZE", type := .int, accessFlags := 25, slot := 6, constantValue := 0 }, { name := "BYTES", type := .int, accessFlags := 25, slot := 7, constantValue := 0 }, { name := "serialVersionUID", type := .long, accessFlags := 26, slot := 8, constantValue := 0 }]
  methods := #[k11m0]
  instanceTypes := #[.int]
  staticTypes := #[.int, .int, (.object "java/lang/Class"), (.array .char), (.array .byte), (.array .byte), .int, .int, .long]
  resolved := Array.replicate 453 none
  statics := none }

/-- the primitive byte -/
def k12 : Class := { plain "byte" none with kind := .primitive 'B', accessFlags := 0x411 }
/-- [B -/
def k13 : Class := { plain "[B" (some 0) with kind := .array 12 .byte, interfaces := #[4, 5], accessFlags := 1041 }

/-- the primitive int -/
def k14 : Class := { plain "int" none with kind := .primitive 'I', accessFlags := 0x411 }
/-- [I -/
def k15 : Class := { plain "[I" (some 0) with kind := .array 14 .int, interfaces := #[4, 5], accessFlags := 1041 }

/-- the primitive long -/
def k16 : Class := { plain "long" none with kind := .primitive 'J', accessFlags := 0x411 }
/-- [J -/
def k17 : Class := { plain "[J" (some 0) with kind := .array 16 .long, interfaces := #[4, 5], accessFlags := 1041 }

def heap : Heap := #[]
def classes : Array Class := #[k0, k1, k2, k3, k4, k5, k6, k7, k8, k9, k10, k11, k12, k13, k14, k15, k16, k17]
def interned : List (Array UInt16 × Addr) := []
def slotsUsed : Nat := 0
def theMethod : MethodId := ⟨1, 1⟩
def args0 : Array Value := #[.long 3, .long 5, .long 7, .long 9, .long 11, .long 13]
def aboutOver (below : List Frame) : State where
  vm := { classes := classes, interned := interned.toArray }
  heap := heap
  slotsUsed := slotsUsed
  threads := #[{ frames := .invoking theMethod args0 :: below }]
def below0 : List Frame := [.native { method := ⟨0, 0⟩, args := #[] }]
def about1 : State := aboutOver below0
def p0 : Program := .bare "" "" ""
def e0 : Env := launch0.env 0 0 0
theorem w_frames : about1.frames = Frame.invoking theMethod args0 :: below0 := rfl
set_option maxRecDepth 65536 in
theorem w_args : argsFit about1.vm theMethod args0 = true := by decide +kernel
set_option maxRecDepth 65536 in
theorem w_heap : heapFits about1 = true := by decide +kernel
set_option maxRecDepth 65536 in
theorem w_runnable : about1.curStatus? = some .runnable := by decide +kernel
set_option maxRecDepth 65536 in
theorem w_alone : about1.alone = true := by decide +kernel
set_option maxRecDepth 65536 in
theorem w_named : about1.methodNamed? x = some theMethod := by decide +kernel
set_option maxRecDepth 65536 in
theorem w_hears : about1.hears theMethod below0 = true := by decide +kernel
set_option maxRecDepth 65536 in
theorem w_ripe : about1.ripe theMethod args0 below0 = true := by decide +kernel
theorem w_running : about1.status = .running := rfl
set_option maxRecDepth 65536 in
theorem w_room : about1.hasRoom e0.platform room_1 = true :=
  launch0.hasRoom_least _ room_1 (by decide +kernel) (by decide +kernel) (by decide +kernel) (by decide +kernel) (by decide +kernel) (by decide +kernel)
theorem allAtoms_all (ts : List Jvm.Cond) (a : Array Jvm.Value) (st : Jvm.State) : (allAtoms ts).before a st = ts.all (fun c => c.before a st) := by
  induction ts with
  | nil => rfl
  | cons c t ih =>
    show (Jvm.Cond.and c (allAtoms t)).before a st = _
    rw [Jvm.Cond.before_and, ih, List.all_cons]
def words1 : List Jvm.Cond := Jvm.Cond.code x code maxLocals ret :: tables_1
/-- a 'code' word, met by the world's own term for the bytes: nothing is compared byte by byte -/
theorem code_word {y : MethodName} {bytes : ByteArray} {mx : Nat} {rt : Option FieldType} {a : Array Value} {s : State} {m : MethodId} {meth : Method} {c : Code} (h1 : s.methodNamed? y = some m) (h2 : s.vm.method? m = some meth) (h3 : meth.code = some c) (h4 : c.code = bytes)
    (h5 : (c.maxLocals == mx && c.exceptionTable.isEmpty && decide (c.maxStack ≤ mostOperands) && decide (meth.sig.returnType = rt) && !meth.locks && decide (parseMethodDescriptor y.desc = some meth.sig)) = true) : (Jvm.Cond.code y bytes mx rt).before a s = true := by
  simp only [Bool.and_eq_true, beq_iff_eq, Bool.not_eq_true', decide_eq_true_eq] at h5
  obtain ⟨⟨⟨⟨⟨g1, g2⟩, g3⟩, g4⟩, g5⟩, g6⟩ := h5
  simp [Cond.before, Cond.holds, Cond.value, h1, h2, h3, h4, g1, g2, g3, g4, g5, g6]
def isCode : Jvm.Cond → Bool
  | .code _ _ _ _ => true
  | _ => false
theorem all_split {L : List Jvm.Cond} {P : Jvm.Cond → Bool} (h1 : L.all (fun c => isCode c || P c) = true) (h2 : ∀ c ∈ L.filter isCode, P c = true) : L.all P = true := by
  refine List.all_eq_true.mpr fun c hc => ?_
  have h := List.all_eq_true.mp h1 c hc
  rcases Bool.eq_false_or_eq_true (isCode c) with hi | hi
  · exact h2 c (List.mem_filter.mpr ⟨hc, hi⟩)
  · simpa [hi] using h
set_option maxRecDepth 65536 in
theorem w_c0 : (Jvm.Cond.code x code maxLocals ret).before args0 about1 = true := code_word (m := ⟨1, 1⟩) (meth := k1m1) (c := k1c1) (by decide +kernel) rfl rfl rfl (by decide +kernel)
set_option maxRecDepth 65536 in
theorem w_c1 : (Jvm.Cond.code ({ cls := "java/lang/Math", name := "min", desc := "(II)I" } : Jvm.MethodName) jdk_29_method_69_code (2 : Nat) (Option.some Jvm.ClassFile.FieldType.int)).before args0 about1 = true := code_word (m := ⟨2, 2⟩) (meth := k2m2) (c := k2c2) (by decide +kernel) rfl rfl rfl (by decide +kernel)
set_option maxRecDepth 65536 in
theorem w_c2 : (Jvm.Cond.code ({ cls := "java/lang/Math", name := "max", desc := "(II)I" } : Jvm.MethodName) jdk_29_method_65_code (2 : Nat) (Option.some Jvm.ClassFile.FieldType.int)).before args0 about1 = true := code_word (m := ⟨2, 1⟩) (meth := k2m1) (c := k2c1) (by decide +kernel) rfl rfl rfl (by decide +kernel)
set_option maxRecDepth 65536 in
theorem w_c3 : (Jvm.Cond.code ({ cls := "com/example/ningbo/ningbo/engine/StateLayout", name := "<init>", desc := "([I[I)V" } : Jvm.MethodName) prog_49_method_1_code (8 : Nat) (Option.none : Option Jvm.ClassFile.FieldType)).before args0 about1 = true := code_word (m := ⟨3, 0⟩) (meth := k3m0) (c := k3c0) (by decide +kernel) rfl rfl rfl (by decide +kernel)
set_option maxRecDepth 65536 in
theorem w_c4 : (Jvm.Cond.code ({ cls := "java/lang/Object", name := "<init>", desc := "()V" } : Jvm.MethodName) object_method_1_code (1 : Nat) (Option.none : Option Jvm.ClassFile.FieldType)).before args0 about1 = true := code_word (m := ⟨0, 0⟩) (meth := k0m0) (c := k0c0) (by decide +kernel) rfl rfl rfl (by decide +kernel)
set_option maxRecDepth 65536 in
theorem w_c5 : (Jvm.Cond.code ({ cls := "java/lang/Long", name := "numberOfLeadingZeros", desc := "(J)I" } : Jvm.MethodName) jdk_35_method_48_code (3 : Nat) (Option.some Jvm.ClassFile.FieldType.int)).before args0 about1 = true := code_word (m := ⟨10, 0⟩) (meth := k10m0) (c := k10c0) (by decide +kernel) rfl rfl rfl (by decide +kernel)
set_option maxRecDepth 65536 in
theorem w_c6 : (Jvm.Cond.code ({ cls := "java/lang/Integer", name := "numberOfLeadingZeros", desc := "(I)I" } : Jvm.MethodName) jdk_33_method_47_code (2 : Nat) (Option.some Jvm.ClassFile.FieldType.int)).before args0 about1 = true := code_word (m := ⟨11, 0⟩) (meth := k11m0) (c := k11c0) (by decide +kernel) rfl rfl rfl (by decide +kernel)
set_option maxRecDepth 65536 in
theorem w_c7 : (Jvm.Cond.code ({ cls := "com/example/ningbo/ningbo/engine/StateLayoutSetPinLaw", name := "pick", desc := "(IIJ)I" } : Jvm.MethodName) method_3_code (6 : Nat) (Option.some Jvm.ClassFile.FieldType.int)).before args0 about1 = true := code_word (m := ⟨1, 2⟩) (meth := k1m2) (c := k1c2) (by decide +kernel) rfl rfl rfl (by decide +kernel)
set_option maxRecDepth 65536 in
theorem w_c8 : (Jvm.Cond.code ({ cls := "com/example/ningbo/ningbo/engine/StateLayout", name := "pack", desc := "([I[J)V" } : Jvm.MethodName) prog_49_method_7_code (6 : Nat) (Option.none : Option Jvm.ClassFile.FieldType)).before args0 about1 = true := code_word (m := ⟨3, 1⟩) (meth := k3m1) (c := k3c1) (by decide +kernel) rfl rfl rfl (by decide +kernel)
set_option maxRecDepth 65536 in
theorem w_c9 : (Jvm.Cond.code ({ cls := "com/example/ningbo/ningbo/engine/StateLayout", name := "set", desc := "([JII)V" } : Jvm.MethodName) prog_49_method_8_code (8 : Nat) (Option.none : Option Jvm.ClassFile.FieldType)).before args0 about1 = true := code_word (m := ⟨3, 2⟩) (meth := k3m2) (c := k3c2) (by decide +kernel) rfl rfl rfl (by decide +kernel)
set_option maxRecDepth 65536 in
theorem w_c10 : (Jvm.Cond.code ({ cls := "com/example/ningbo/ningbo/engine/StateLayout", name := "unpack", desc := "([J[I)V" } : Jvm.MethodName) prog_49_method_9_code (4 : Nat) (Option.none : Option Jvm.ClassFile.FieldType)).before args0 about1 = true := code_word (m := ⟨3, 3⟩) (meth := k3m3) (c := k3c3) (by decide +kernel) rfl rfl rfl (by decide +kernel)
def codes1 : List Jvm.Cond := [Jvm.Cond.code x code maxLocals ret, Jvm.Cond.code ({ cls := "java/lang/Math", name := "min", desc := "(II)I" } : Jvm.MethodName) jdk_29_method_69_code (2 : Nat) (Option.some Jvm.ClassFile.FieldType.int), Jvm.Cond.code ({ cls := "java/lang/Math", name := "max", desc := "(II)I" } : Jvm.MethodName) jdk_29_method_65_code (2 : Nat) (Option.some Jvm.ClassFile.FieldType.int), Jvm.Cond.code ({ cls := "com/example/ningbo/ningbo/engine/StateLayout", name := "<init>", desc := "([I[I)V" } : Jvm.MethodName) prog_49_method_1_code (8 : Nat) (Option.none : Option Jvm.ClassFile.FieldType), Jvm.Cond.code ({ cls := "java/lang/Object", name := "<init>", desc := "()V" } : Jvm.MethodName) object_method_1_code (1 : Nat) (Option.none : Option Jvm.ClassFile.FieldType), Jvm.Cond.code ({ cls := "java/lang/Long", name := "numberOfLeadingZeros", desc := "(J)I" } : Jvm.MethodName) jdk_35_method_48_code (3 : Nat) (Option.some Jvm.ClassFile.FieldType.int), Jvm.Cond.code ({ cls := "java/lang/Integer", name := "numberOfLeadingZeros", desc := "(I)I" } : Jvm.MethodName) jdk_33_method_47_code (2 : Nat) (Option.some Jvm.ClassFile.FieldType.int), Jvm.Cond.code ({ cls := "com/example/ningbo/ningbo/engine/StateLayoutSetPinLaw", name := "pick", desc := "(IIJ)I" } : Jvm.MethodName) method_3_code (6 : Nat) (Option.some Jvm.ClassFile.FieldType.int), Jvm.Cond.code ({ cls := "com/example/ningbo/ningbo/engine/StateLayout", name := "pack", desc := "([I[J)V" } : Jvm.MethodName) prog_49_method_7_code (6 : Nat) (Option.none : Option Jvm.ClassFile.FieldType), Jvm.Cond.code ({ cls := "com/example/ningbo/ningbo/engine/StateLayout", name := "set", desc := "([JII)V" } : Jvm.MethodName) prog_49_method_8_code (8 : Nat) (Option.none : Option Jvm.ClassFile.FieldType), Jvm.Cond.code ({ cls := "com/example/ningbo/ningbo/engine/StateLayout", name := "unpack", desc := "([J[I)V" } : Jvm.MethodName) prog_49_method_9_code (4 : Nat) (Option.none : Option Jvm.ClassFile.FieldType)]
set_option maxRecDepth 65536 in
theorem codes_eq : words1.filter isCode = codes1 := rfl
theorem w_codes : ∀ c ∈ words1.filter isCode, c.before args0 about1 = true := by
  rw [codes_eq]
  intro c hc
  simp only [codes1, List.mem_cons, List.not_mem_nil, or_false] at hc
  rcases hc with rfl | rfl | rfl | rfl | rfl | rfl | rfl | rfl | rfl | rfl | rfl
  · exact w_c0
  · exact w_c1
  · exact w_c2
  · exact w_c3
  · exact w_c4
  · exact w_c5
  · exact w_c6
  · exact w_c7
  · exact w_c8
  · exact w_c9
  · exact w_c10
set_option maxRecDepth 65536 in
theorem w_t1 : (words1.take 24).all (fun c => isCode c || c.before args0 about1) = true := by decide +kernel
set_option maxRecDepth 65536 in
theorem w_t2 : ((words1.drop 24).take 24).all (fun c => isCode c || c.before args0 about1) = true := by decide +kernel
set_option maxRecDepth 65536 in
theorem w_t3 : (((words1.drop 24).drop 24).take 24).all (fun c => isCode c || c.before args0 about1) = true := by decide +kernel
set_option maxRecDepth 65536 in
theorem w_t4 : (((words1.drop 24).drop 24).drop 24).all (fun c => isCode c || c.before args0 about1) = true := by decide +kernel
theorem w_tables : (allAtoms (Jvm.Cond.code x code maxLocals ret :: tables_1)).before args0 about1 = true := by
  rw [allAtoms_all]
  show words1.all (fun c => c.before args0 about1) = true
  refine all_split ?_ w_codes
  rw [← List.take_append_drop 24 words1, List.all_append, w_t1, ← List.take_append_drop 24 (words1.drop 24), List.all_append, w_t2, ← List.take_append_drop 24 ((words1.drop 24).drop 24), List.all_append, w_t3, w_t4]
  rfl
set_option maxRecDepth 65536 in
theorem w_case : (Jvm.Cond.and given_1 narrow_1).before args0 about1 = true := by decide +kernel
theorem w_applies : (headSpec (Jvm.Cond.code x code maxLocals ret :: tables_1) room_1).applies x e0.platform about1 = true :=
  (Spec.applies_iff w_frames).mpr ⟨w_running, w_runnable, w_alone, w_named, w_hears, w_ripe, w_room, w_tables⟩
theorem atStart : AtStart classFile x code maxLocals ret World_1 tables_1 room_1 Calls_1 rest_1 Pre_1 launch0 p0 e0 about1 theMethod args0 below0 :=
  ⟨lists_1, trivial, launch0.admits_env _ _ _, launch0.least_env, fairChoices_fair.cas, fairChoices_fair.clock, w_frames, w_args, w_heap, w_applies, trivial, trivial, w_case⟩
end start1
theorem witness_1 : WitnessClaimed_1 := ⟨start1.p0, start1.e0, start1.about1, start1.theMethod, start1.args0, start1.below0, start1.atStart⟩
end Jvm.Pilot.@@N@@
