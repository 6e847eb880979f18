import JvmDerived
import JvmDerived.Pilot.@@N@@Statement
import JvmDerived.Pilot.@@N@@Code
set_option linter.unusedVariables false
set_option linter.unusedSimpArgs false
namespace Jvm.Pilot.@@N@@
open Jvm Jvm.ClassFile Sem Op Lib Jvm.Free Jvm.Stand Jvm.LawKit Jvm.RoadKit Bundle Jvm.Pilot.@@N@@.Jvm.D
abbrev own_iushr (x y : Int32) : Int32 := (x.toUInt32 >>> (y &&& 31).toUInt32).toInt32
abbrev own_lshl (x : Int64) (y : Int32) : Int64 := x <<< (y &&& 0x3f).toInt64
abbrev own_lshr (x : Int64) (y : Int32) : Int64 := x >>> (y &&& 0x3f).toInt64
abbrev own_lushr (x : Int64) (y : Int32) : Int64 := (x.toUInt64 >>> (y &&& 0x3f).toInt64.toUInt64).toInt64
section Core
variable {p : Program} {l : Launch} {e : Env} {R : Room} {s : State} {m : MethodId} {args : Array Value} {below : List Frame} {meth : Method} {c : Code} {T T' : State} {locs : List Loc} {cells slots : Nat} {Z : State} {a0 : Array Value} {h h0 h' : Heap} {n0 : Nat}
/-- the i-th word of the sheet -/
theorem own_at (hw : ∀ d ∈ tables_1, d.before a0 Z = true) {d : Jvm.Cond} (i : Nat) (q : tables_1[i]? = some d) : d.before a0 Z = true := hw _ (List.mem_of_getElem? q)
/-- from this frame the method comes to its end, and G says what the end is -/
def ownGo (tb : Tables) (e : Env) (below : List Frame) (T : State) (g : JFrame) (G : Outcome → State → Prop) : Prop :=
  ∃ s₂ o, Steps tb e below (T.setTop g) s₂ ∧ s₂.status = .running ∧ Ended s₂ below o ∧ G o s₂
def ownDone (s : State) (Q : Option Value → Heap → List Loc → Prop) (kc ks : Nat) (o : Outcome) (U : State) : Prop :=
  ∃ v L, o = .returned v ∧ Q v U.heap L ∧ FrameEnd s o U L kc ks
/-- what a method leaves that only reckons -/
def ownPure (r : Value) (h0 : Heap) (n0 : Nat) (v : Option Value) (h : Heap) (L : List Loc) : Prop := v = some r ∧ Fr n0 L ∧ h = h0
theorem ownGo.st {tb : Tables} {g g' : JFrame} {G : Outcome → State → Prop} (q : ∀ t, Steps tb e below (T'.setTop g') t → Steps tb e below (T.setTop g) t) (k : ownGo tb e below T' g' G) : ownGo tb e below T g G := by
  obtain ⟨s₂, o, h1, h2⟩ := k
  exact ⟨s₂, o, q _ h1, h2⟩
theorem ownGo.sq {tb : Tables} {g g' : JFrame} {G : Outcome → State → Prop} (q : Steps tb e below (T.setTop g) (T'.setTop g')) (k : ownGo tb e below T' g' G) : ownGo tb e below T g G := by
  obtain ⟨s₂, o, h1, h2⟩ := k
  exact ⟨s₂, o, q.trans h1, h2⟩
theorem own_ret {Q : Option Value → Heap → List Loc → Prop} {kc ks : Nat} {g : JFrame} {v : Option Value} (X : Stand p l e R s m args below meth c T locs cells slots) (hlk : meth.locks = false) (hv : meth.sig.returnType = none → v = none)
    (hst : ∀ fs, (∀ (f : JFrame) (acts : List Action), f.method = m → f.locked = none → f.entered = [] → (doReturn e (T.setTop f) acts v).1 = T.setFrames fs) → Steps p.tables e below (T.setTop g) (T.setFrames fs))
    (hq : Q v T.heap locs) (hc : cells ≤ kc) (hs : slots ≤ ks) : ownGo p.tables e below T g (ownDone s Q kc ks) := by
  obtain ⟨fs, hr, hrun, hended, hW, hsame⟩ := X.leave (v := v) hv hlk
  exact ⟨_, _, hst fs hr, hrun, hended, _, _, rfl, hq, ⟨_, rfl⟩, hW, hsame.mono hc hs⟩
theorem own_retI {Q : Option Value → Heap → List Loc → Prop} {kc ks : Nat} {pc : Nat} {Ls : Array Slot} {z : Int32} {rest : List Value} (X : Stand p l e R s m args below meth c T locs cells slots) (hx : p.tables.exec = Jvm.exec) (hlk : meth.locks = false) (hret : meth.sig.returnType = some .int)
    (hd : decode c.code pc = .ok (.ireturn, 1)) (hq : Q (some (.int z)) T.heap locs) (hc : cells ≤ kc) (hs : slots ≤ ks) : ownGo p.tables e below T (mkF m pc Ls (.int z :: rest)) (ownDone s Q kc ks) :=
  own_ret X hlk (fun q => by rw [hret] at q; cases q) (fun fs hr => retOut X hx hret rfl (Or.inl ⟨rfl, Or.inl rfl, z, rfl⟩) hd hr) hq hc hs
theorem own_retZ {Q : Option Value → Heap → List Loc → Prop} {kc ks : Nat} {pc : Nat} {Ls : Array Slot} {z : Int32} {rest : List Value} (X : Stand p l e R s m args below meth c T locs cells slots) (hx : p.tables.exec = Jvm.exec) (hlk : meth.locks = false) (hret : meth.sig.returnType = some .boolean)
    (hd : decode c.code pc = .ok (.ireturn, 1)) (hz : z = 0 ∨ z = 1) (hq : Q (some (.int z)) T.heap locs) (hc : cells ≤ kc) (hs : slots ≤ ks) : ownGo p.tables e below T (mkF m pc Ls (.int z :: rest)) (ownDone s Q kc ks) := by
  have e1 : nar .boolean z = z := by rcases hz with rfl | rfl <;> decide
  exact own_ret X hlk (fun q => by rw [hret] at q; cases q) (fun fs hr => retN X hx (t := .boolean) hret (by simp) hd (by rw [e1]; exact hr)) hq hc hs
theorem own_retJ {Q : Option Value → Heap → List Loc → Prop} {kc ks : Nat} {pc : Nat} {Ls : Array Slot} {z : Int64} {rest : List Value} (X : Stand p l e R s m args below meth c T locs cells slots) (hx : p.tables.exec = Jvm.exec) (hlk : meth.locks = false) (hret : meth.sig.returnType = some .long)
    (hd : decode c.code pc = .ok (.lreturn, 1)) (hq : Q (some (.long z)) T.heap locs) (hc : cells ≤ kc) (hs : slots ≤ ks) : ownGo p.tables e below T (mkF m pc Ls (.long z :: rest)) (ownDone s Q kc ks) :=
  own_ret X hlk (fun q => by rw [hret] at q; cases q) (fun fs hr => retOut X hx hret rfl (Or.inr (Or.inl ⟨rfl, rfl, z, rfl⟩)) hd hr) hq hc hs
theorem own_retA {Q : Option Value → Heap → List Loc → Prop} {kc ks : Nat} {pc : Nat} {Ls : Array Slot} {z : Addr} {t : FieldType} {rest : List Value} (X : Stand p l e R s m args below meth c T locs cells slots) (hx : p.tables.exec = Jvm.exec) (hlk : meth.locks = false) (hret : meth.sig.returnType = some (.array t))
    (hd : decode c.code pc = .ok (.areturn, 1)) (hq : Q (some (.ref z)) T.heap locs) (hc : cells ≤ kc) (hs : slots ≤ ks) : ownGo p.tables e below T (mkF m pc Ls (.ref z :: rest)) (ownDone s Q kc ks) :=
  own_ret X hlk (fun q => by rw [hret] at q; cases q) (fun fs hr => retOut X hx hret rfl (Or.inr (Or.inr (Or.inr (Or.inr ⟨rfl, rfl, rfl⟩)))) hd hr) hq hc hs
theorem own_retV {Q : Option Value → Heap → List Loc → Prop} {kc ks : Nat} {pc : Nat} {Ls : Array Slot} (X : Stand p l e R s m args below meth c T locs cells slots) (hx : p.tables.exec = Jvm.exec) (hlk : meth.locks = false) (hret : meth.sig.returnType = none)
    (hd : decode c.code pc = .ok (.return_, 1)) (hq : Q none T.heap locs) (hc : cells ≤ kc) (hs : slots ≤ ks) : ownGo p.tables e below T (mkF m pc Ls []) (ownDone s Q kc ks) :=
  own_ret X hlk (fun _ => rfl) (fun fs hr => X.returnOut hx hret hd hr) hq hc hs
/-- a static call by the callee's contract -/
theorem own_callS (X : Stand p l e R s m args below meth c T locs cells slots) (hx : p.tables.exec = Jvm.exec) (hZ : Z.Warmed39 s.vm) {own : String} {index : Nat} {y : MethodName} {bytes : ByteArray} {maxL : Nat} {ret : Option FieldType} (hown : s.vm.findClass own = some m.cls)
    (w1 : (Jvm.Cond.methodLink own index y).before a0 Z = true) (w2 : (Jvm.Cond.static y).before a0 Z = true) (w3 : (Jvm.Cond.initialized y.cls).before a0 Z = true) (w4 : (Jvm.Cond.code y bytes maxL ret).before a0 Z = true) (hy : y.cls ≠ "java/lang/invoke/MethodHandle" ∧ y.cls ≠ "java/lang/invoke/VarHandle")
    {rm : Room} {argsL rest : List Value} {Q : Option Value → Heap → List Loc → Prop}
    (K : MetFree l y (head1 [Jvm.Cond.code y bytes maxL ret] rm) (fun a U => a = argsL.toArray ∧ Z.Warmed39 U.vm ∧ U.heap = h0) (fun _ _ _ _ _ => True) (fun _ U o U' => ∃ v L, o = .returned v ∧ Q v U'.heap L ∧ FrameEnd U o U' L rm.cells rm.slots))
    (W : Nat) (hf : rm.frames + 1 ≤ R.frames) (hl : W + (maxL + 11) + rm.locals ≤ R.locals) (eT : T.heap = h0) (hcl : cells + rm.cells ≤ R.cells) (hsl : slots + rm.slots ≤ R.slots)
    {g : JFrame} (hg : g.method = m) (hsize : g.locals.size = c.maxLocals) (hlen : ∀ sig, parseMethodDescriptor y.desc = some sig → argsL.length = sig.parameters.length) (hstack : g.stack = argsL.reverse ++ rest) (hW : 2 * g.monitorRoom + (rest.map fun v => v.category).sum ≤ W) (hdg : decode c.code g.pc = .ok (.invokestatic index, 3)) :
    ∃ (v : Option Value) (T' : State) (L : List Loc), Stand p l e R s m args below meth c T' (locs ++ L) (cells + rm.cells) (slots + rm.slots) ∧ Q v T'.heap L ∧ ∀ t, Steps p.tables e below (T'.setTop { g with pc := g.pc + 3, stack := v.toList ++ rest }) t → Steps p.tables e below (T.setTop g) t := by
  obtain ⟨v, _, ⟨T1, L1, k1, n1⟩, -, X1, ⟨Lc, hQ, l1, y1, z1⟩, st⟩ := Jvm.LawKit.callS X hx (y := y) hown (mvT hZ w1) (mvT hZ w2) (mvT hZ w3) (mvT hZ w4) hy (backOf (W := W) K hZ w4 w3 hf hl) (g := g) hg hsize (argsL := argsL) (rest := rest) hlen hstack hW hdg (fun _ _ => ⟨rfl, eT, hcl, hsl⟩)
  dsimp only [Pt.U, Pt.locs, Pt.cells, Pt.slots] at X1 l1 y1 z1 st hQ
  subst l1 y1 z1
  exact ⟨v, T1, Lc, X1, hQ, st⟩
/-! arrays: n places, place i holds f i -/
def ownA (Z : State) (h : Heap) (a : Addr) (ty : FieldType) (n : Nat) (f : Nat → Value) : Prop :=
  ∃ c : Cell, Arr Z h a c ty ∧ c.slots.size = n ∧ n < 2147483648 ∧ ∀ i, i < n → c.slots[i]? = some (f i) ∧ fits ty (f i) = true
def own_up (f : Nat → Value) (j : Nat) (v : Value) (i : Nat) : Value := if i = j then v else f i
theorem own_up_hit {f : Nat → Value} {j : Nat} {v : Value} : own_up f j v j = v := if_pos rfl
theorem own_up_miss {f : Nat → Value} {i j : Nat} {v : Value} (q : i ≠ j) : own_up f j v i = f i := if_neg q
theorem ownA.ext {a : Addr} {ty : FieldType} {n : Nat} {f : Nat → Value} (V : ownA Z h a ty n f) (E : Ext h h') : ownA Z h' a ty n f := by obtain ⟨c, A, r⟩ := V; exact ⟨c, A.ext E, r⟩
theorem ownA.other {a b : Addr} {ty : FieldType} {n sl : Nat} {v : Value} {f : Nat → Value} (V : ownA Z h a ty n f) (W : Wr h h' b sl v) (q : a ≠ b) : ownA Z h' a ty n f := by obtain ⟨c, A, r⟩ := V; exact ⟨c, A.other W q, r⟩
theorem ownA.keep {a : Addr} {ty : FieldType} {n : Nat} {ws : List Addr} {f : Nat → Value} (V : ownA Z h a ty n f) (K : Keep h h' ws) (q : a ∉ ws) : ownA Z h' a ty n f := by obtain ⟨c, A, r⟩ := V; exact ⟨c, ⟨K.2.1 a c A.1 q, A.2⟩, r⟩
theorem ownA.lt {a : Addr} {ty : FieldType} {n : Nat} {f : Nat → Value} (V : ownA Z h a ty n f) : a < h.size := by obtain ⟨c, A, r⟩ := V; exact A.lt
theorem ownA.eq {a : Addr} {ty : FieldType} {n : Nat} {f f' : Nat → Value} (V : ownA Z h a ty n f) (q : ∀ i, i < n → f i = f' i) : ownA Z h a ty n f' := by
  obtain ⟨c, A, r1, r2, r3⟩ := V
  exact ⟨c, A, r1, r2, fun i hi => by rw [← q i hi]; exact r3 i hi⟩
theorem own_n32 {n : Nat} (q : n < 2147483648) : (Int32.ofNat n).toNatClampNeg = n := by rw [Int32.toNatClampNeg, Int32.toInt_ofNat_of_lt q]; rfl
theorem own_nn {n : Nat} (q : n < 2147483648) : ¬ Int32.ofNat n < 0 := by
  rw [Int32.lt_iff_toInt_lt, Int32.toInt_ofNat_of_lt q, show (0 : Int32).toInt = 0 from rfl]; omega
theorem ownA.new {a : Addr} {k : ClassId} {ty : FieldType} {n : Nat} (A : Arr Z h a (newA k ty (Int32.ofNat n)) ty) (q : n < 2147483648) (d : fits ty (defaultValue ty) = true) : ownA Z h a ty n (fun _ => defaultValue ty) := by
  refine ⟨_, A, by rw [sz_new, own_n32 q], q, fun i hi => ⟨?_, d⟩⟩
  simp [newA, own_n32 q, hi]
theorem own_in {cl : Cell} {n i : Nat} {j : Int32} (S : cl.slots.size = n) (q : n < 2147483648) (hj : j = Int32.ofNat i) (hi : i < n) : ¬ (j < 0 ∨ cl.slots.size ≤ j.toNatClampNeg) := by
  subst hj
  rw [S, own_n32 (by omega)]
  exact fun z => z.elim (own_nn (by omega)) (fun z => by omega)
theorem own_iaload {a : Addr} {n i : Nat} {f : Nat → Value} {j v : Int32} (X : Stand p l e R s m args below meth c T locs cells slots) (hx : p.tables.exec = Jvm.exec) (hZ : Z.Warmed39 s.vm) (eT : T.heap = h) (V : ownA Z h a .int n f) (hj : j = Int32.ofNat i) (hi : i < n) (hv : f i = .int v)
    {g : JFrame} (hg : g.method = m) {rest : List Value} (hs : g.stack = .int j :: .ref a :: rest) (hd : decode c.code g.pc = .ok (.iaload, 1)) :
    ∀ t, Steps p.tables e below (T.setTop { g with pc := g.pc + 1, stack := .int v :: rest }) t → Steps p.tables e below (T.setTop g) t := by
  obtain ⟨cl, A, S, q, H⟩ := V
  have hat : cl.slots[j.toNatClampNeg]? = some (.int v) := by rw [hj, own_n32 (by omega), ← hv]; exact (H i hi).1
  exact X.iaload hx (j := j) (by rw [eT]; exact A.1) (State.isArrayOf_alike hZ.alike A.2.1) A.2.2 (own_in S q hj hi) hat hg hs hd
theorem own_laload {a : Addr} {n i : Nat} {f : Nat → Value} {j : Int32} {v : Int64} (X : Stand p l e R s m args below meth c T locs cells slots) (hx : p.tables.exec = Jvm.exec) (hZ : Z.Warmed39 s.vm) (eT : T.heap = h) (V : ownA Z h a .long n f) (hj : j = Int32.ofNat i) (hi : i < n) (hv : f i = .long v)
    {g : JFrame} (hg : g.method = m) {rest : List Value} (hs : g.stack = .int j :: .ref a :: rest) (hd : decode c.code g.pc = .ok (.laload, 1)) :
    ∀ t, Steps p.tables e below (T.setTop { g with pc := g.pc + 1, stack := .long v :: rest }) t → Steps p.tables e below (T.setTop g) t := by
  obtain ⟨cl, A, S, q, H⟩ := V
  have hat : cl.slots[j.toNatClampNeg]? = some (.long v) := by rw [hj, own_n32 (by omega), ← hv]; exact (H i hi).1
  exact X.laload hx (j := j) (by rw [eT]; exact A.1) (State.isArrayOf_alike hZ.alike A.2.1) A.2.2 (own_in S q hj hi) hat hg hs hd
theorem own_baload {a : Addr} {n i : Nat} {f : Nat → Value} {j v : Int32} (X : Stand p l e R s m args below meth c T locs cells slots) (hx : p.tables.exec = Jvm.exec) (hZ : Z.Warmed39 s.vm) (eT : T.heap = h) (V : ownA Z h a .byte n f) (hj : j = Int32.ofNat i) (hi : i < n) (hv : f i = .int v)
    {g : JFrame} (hg : g.method = m) {rest : List Value} (hs : g.stack = .int j :: .ref a :: rest) (hd : decode c.code g.pc = .ok (.baload, 1)) :
    ∀ t, Steps p.tables e below (T.setTop { g with pc := g.pc + 1, stack := .int v :: rest }) t → Steps p.tables e below (T.setTop g) t := by
  obtain ⟨cl, A, S, q, H⟩ := V
  have hat : cl.slots[j.toNatClampNeg]? = some (.int v) := by rw [hj, own_n32 (by omega), ← hv]; exact (H i hi).1
  exact X.baloadBytes hx (j := j) (by rw [eT]; exact A.1) (State.isArrayOf_alike hZ.alike A.2.1) A.2.2 (own_in S q hj hi) hat hg hs hd
theorem own_alen {a : Addr} {ty : FieldType} {n : Nat} {f : Nat → Value} (X : Stand p l e R s m args below meth c T locs cells slots) (hx : p.tables.exec = Jvm.exec) (hZ : Z.Warmed39 s.vm) (eT : T.heap = h) (V : ownA Z h a ty n f)
    {g : JFrame} (hg : g.method = m) {rest : List Value} (hs : g.stack = .ref a :: rest) (hd : decode c.code g.pc = .ok (.arraylength, 1)) :
    ∀ t, Steps p.tables e below (T.setTop { g with pc := g.pc + 1, stack := .int (Int32.ofNat n) :: rest }) t → Steps p.tables e below (T.setTop g) t := by
  obtain ⟨cl, A, S, q, H⟩ := V
  intro t k
  refine X.arraylength hx (cell := cl) (by rw [eT]; exact A.1) (State.isArrayOf_alike hZ.alike A.2.1) hg hs hd t ?_
  rw [S]; exact k
theorem ownA.put {a : Addr} {ty : FieldType} {n i : Nat} {f : Nat → Value} {v : Value} (V : ownA Z h a ty n f) (W : Wr h h' a i v) (hv : fits ty v = true) : ownA Z h' a ty n (own_up f i v) := by
  obtain ⟨cl, A, S, q, H⟩ := V
  refine ⟨_, A.same W, by rw [sz_set]; exact S, q, fun k hk => ?_⟩
  by_cases z : k = i
  · subst z
    rw [own_up_hit]
    exact ⟨by simp [Cell.setSlot, S, hk], hv⟩
  · rw [own_up_miss z]
    refine ⟨?_, (H k hk).2⟩
    rw [← (H k hk).1]
    exact Array.getElem?_setIfInBounds_ne (Ne.symm z)
theorem own_iastore {a : Addr} {n i : Nat} {f : Nat → Value} {j x : Int32} (X : Stand p l e R s m args below meth c T locs cells slots) (hx : p.tables.exec = Jvm.exec) (hZ : Z.Warmed39 s.vm) (eT : T.heap = h) (V : ownA Z h a .int n f) (hj : j = Int32.ofNat i) (hi : i < n)
    {g : JFrame} (hg : g.method = m) {rest : List Value} (hs : g.stack = .int x :: .int j :: .ref a :: rest) (hd : decode c.code g.pc = .ok (.iastore, 1)) :
    ∃ T' h', Stand p l e R s m args below meth c T' (locs ++ [⟨a, i⟩]) cells slots ∧ T'.heap = h' ∧ Wr h h' a i (.int x) ∧ ownA Z h' a .int n (own_up f i (.int x)) ∧ ∀ t, Steps p.tables e below (T'.setTop { g with pc := g.pc + 1, stack := rest }) t → Steps p.tables e below (T.setTop g) t := by
  have V0 := V
  obtain ⟨cl, A, S, q, H⟩ := V
  obtain ⟨T', h', X', e', W', st⟩ := stI X hx hZ eT A (j := j) (own_in S q hj hi) hg hs hd
  have ej : j.toNatClampNeg = i := by rw [hj]; exact own_n32 (by omega)
  rw [ej] at X' W'
  exact ⟨T', h', X', e', W', V0.put W' rfl, st⟩
theorem own_lastore {a : Addr} {n i : Nat} {f : Nat → Value} {j : Int32} {x : Int64} (X : Stand p l e R s m args below meth c T locs cells slots) (hx : p.tables.exec = Jvm.exec) (hZ : Z.Warmed39 s.vm) (eT : T.heap = h) (V : ownA Z h a .long n f) (hj : j = Int32.ofNat i) (hi : i < n)
    {g : JFrame} (hg : g.method = m) {rest : List Value} (hs : g.stack = .long x :: .int j :: .ref a :: rest) (hd : decode c.code g.pc = .ok (.lastore, 1)) :
    ∃ T' h', Stand p l e R s m args below meth c T' (locs ++ [⟨a, i⟩]) cells slots ∧ T'.heap = h' ∧ Wr h h' a i (.long x) ∧ ownA Z h' a .long n (own_up f i (.long x)) ∧ ∀ t, Steps p.tables e below (T'.setTop { g with pc := g.pc + 1, stack := rest }) t → Steps p.tables e below (T.setTop g) t := by
  have V0 := V
  obtain ⟨cl, A, S, q, H⟩ := V
  obtain ⟨T', h', X', e', W', st⟩ := stJ X hx hZ eT A (j := j) (own_in S q hj hi) hg hs hd
  have ej : j.toNatClampNeg = i := by rw [hj]; exact own_n32 (by omega)
  rw [ej] at X' W'
  exact ⟨T', h', X', e', W', V0.put W' rfl, st⟩
theorem own_bastore {a : Addr} {n i : Nat} {f : Nat → Value} {j x : Int32} (X : Stand p l e R s m args below meth c T locs cells slots) (hx : p.tables.exec = Jvm.exec) (hZ : Z.Warmed39 s.vm) (eT : T.heap = h) (V : ownA Z h a .byte n f) (hj : j = Int32.ofNat i) (hi : i < n)
    {g : JFrame} (hg : g.method = m) {rest : List Value} (hs : g.stack = .int x :: .int j :: .ref a :: rest) (hd : decode c.code g.pc = .ok (.bastore, 1)) :
    ∃ T' h', Stand p l e R s m args below meth c T' (locs ++ [⟨a, i⟩]) cells slots ∧ T'.heap = h' ∧ Wr h h' a i (.int x.toInt8.toInt32) ∧ ownA Z h' a .byte n (own_up f i (.int x.toInt8.toInt32)) ∧ ∀ t, Steps p.tables e below (T'.setTop { g with pc := g.pc + 1, stack := rest }) t → Steps p.tables e below (T.setTop g) t := by
  have V0 := V
  obtain ⟨cl, A, S, q, H⟩ := V
  obtain ⟨T', h', X', e', W', st⟩ := stB X hx hZ eT A (j := j) (own_in S q hj hi) hg hs hd
  have ej : j.toNatClampNeg = i := by rw [hj]; exact own_n32 (by omega)
  rw [ej] at X' W'
  exact ⟨T', h', X', e', W', V0.put W' (fits_nar_byte _), st⟩
/-- newarray of n places, at most cap -/
theorem own_newarray {aty : ArrayType} (X : Stand p l e R s m args below meth c T locs cells slots) (hx : p.tables.exec = Jvm.exec) (hZ : Z.Warmed39 s.vm) (w : (Jvm.Cond.arrayClass (newarray.typeOf aty)).before a0 Z = true) (eT : T.heap = h) (n : Nat) (cap : Nat) (hn : n ≤ cap) (hb : cap * 8 ≤ 536870912) (hc : cells + 1 ≤ R.cells) (hl : slots + cap ≤ R.slots) {ad : String} (had : "[" ++ (newarray.typeOf aty).toString = ad) (d : fits (newarray.typeOf aty) (defaultValue (newarray.typeOf aty)) = true)
    {z : Int32} (hz : z = Int32.ofNat n) {g : JFrame} (hg : g.method = m) (hd : decode c.code g.pc = .ok (.newarray aty, 2)) {rest : List Value} (hs : g.stack = .int z :: rest) :
    ∃ T' h' b, Stand p l e R s m args below meth c T' locs (cells + 1) (slots + cap) ∧ T'.heap = h' ∧ Ext h h' ∧ ownA Z h' b (newarray.typeOf aty) n (fun _ => defaultValue (newarray.typeOf aty)) ∧ Exa Z h' b ad ∧ b = h.size ∧
      ∀ t, Steps p.tables e below (T'.setTop { g with pc := g.pc + 2, stack := .ref b :: rest }) t → Steps p.tables e below (T.setTop g) t := by
  have hn' : n < 2147483648 := by omega
  subst hz
  obtain ⟨T', h', k, X', e', E, A, Ex, st⟩ := newPE X hx hZ w eT hg hd hs (own_nn hn') (by rw [own_n32 hn']; exact hn) hb hc hl had
  exact ⟨T', h', _, X', e', E, ownA.new A hn' d, Ex, rfl, st⟩
end Core
theorem ownA.int {Z : State} {h : Heap} {a : Addr} {n i : Nat} {f : Nat → Value} (V : ownA Z h a .int n f) (hi : i < n) : ∃ v : Int32, f i = .int v := by
  obtain ⟨c, A, S, q, H⟩ := V
  have q := (H i hi).2
  generalize f i = w at q
  cases w <;> first | exact ⟨_, rfl⟩ | simp [fits] at q
section Core2
variable {p : Program} {l : Launch} {e : Env} {R : Room} {s : State} {m : MethodId} {args : Array Value} {below : List Frame} {meth : Method} {c : Code} {T T' : State} {locs : List Loc} {cells slots : Nat} {Z : State} {a0 : Array Value} {h h0 h' : Heap} {n0 : Nat}
/-- a constructor by its contract -/
theorem own_callC (X : Stand p l e R s m args below meth c T locs cells slots) (hx : p.tables.exec = Jvm.exec) (hZ : Z.Warmed39 s.vm) {own : String} {index : Nat} {y : MethodName} {bytes : ByteArray} {maxL : Nat} (hown : s.vm.findClass own = some m.cls) (hy1 : y.name = "<init>")
    (w1 : (Jvm.Cond.methodLink own index y).before a0 Z = true) (w2 : (Jvm.Cond.instanceMethod y).before a0 Z = true) (w3 : (Jvm.Cond.initialized y.cls).before a0 Z = true) (w4 : (Jvm.Cond.code y bytes maxL none).before a0 Z = true) (hy : y.cls ≠ "java/lang/invoke/MethodHandle" ∧ y.cls ≠ "java/lang/invoke/VarHandle")
    {rm : Room} {b : Addr} {argsL rest : List Value} {Q : Option Value → Heap → List Loc → Prop}
    (K : MetFree l y (head1 [Jvm.Cond.code y bytes maxL none] rm) (fun a U => a = (.ref b :: argsL).toArray ∧ Z.Warmed39 U.vm ∧ U.heap = h0) (fun _ _ _ _ _ => True) (fun _ U o U' => ∃ v L, o = .returned v ∧ Q v U'.heap L ∧ FrameEnd U o U' L rm.cells rm.slots))
    (W : Nat) (hf : rm.frames + 1 ≤ R.frames) (hl : W + (maxL + 11) + rm.locals ≤ R.locals) (eT : T.heap = h0) (hcl : cells + rm.cells ≤ R.cells) (hsl : slots + rm.slots ≤ R.slots)
    {g : JFrame} (hg : g.method = m) (hsize : g.locals.size = c.maxLocals) (hlen : ∀ sig, parseMethodDescriptor y.desc = some sig → argsL.length = sig.parameters.length) (hstack : g.stack = argsL.reverse ++ .ref b :: rest) (hW : 2 * g.monitorRoom + (rest.map fun v => v.category).sum ≤ W) (hdg : decode c.code g.pc = .ok (.invokespecial index, 3)) :
    ∃ (v : Option Value) (T' : State) (L : List Loc), Stand p l e R s m args below meth c T' (locs ++ L) (cells + rm.cells) (slots + rm.slots) ∧ Q v T'.heap L ∧ ∀ t, Steps p.tables e below (T'.setTop { g with pc := g.pc + 3, stack := v.toList ++ rest }) t → Steps p.tables e below (T.setTop g) t := by
  obtain ⟨v, _, ⟨T1, L1, k1, n1⟩, -, X1, ⟨Lc, hQ, l1, y1, z1⟩, st⟩ := X.specialBack hx (y := y) hy1 hown (mvT hZ w1) (mvT hZ w2) (mvT hZ w4) hy (backOf (W := W) K hZ w4 w3 hf hl) (g := g) hg hsize (Steps.refl _) (a := b) (argsL := argsL) (rest := rest) hlen hstack hW hdg (fun _ _ => ⟨rfl, eT, hcl, hsl⟩)
  dsimp only [Pt.U, Pt.locs, Pt.cells, Pt.slots] at X1 l1 y1 z1 st hQ
  subst l1 y1 z1
  exact ⟨v, T1, Lc, X1, hQ, fun t k => st.trans k⟩
/-- an instance method by its contract -/
theorem own_callV (X : Stand p l e R s m args below meth c T locs cells slots) (hx : p.tables.exec = Jvm.exec) (hZ : Z.Warmed39 s.vm) {own : String} {index : Nat} {y : MethodName} {bytes : ByteArray} {maxL : Nat} {ret : Option FieldType} (hown : s.vm.findClass own = some m.cls)
    (w1 : (Jvm.Cond.methodLink own index y).before a0 Z = true) (w2 : (Jvm.Cond.declares y).before a0 Z = true) (w5 : (Jvm.Cond.selects y.cls y y).before a0 Z = true) (w6 : (Jvm.Cond.instanceMethod y).before a0 Z = true) (w3 : (Jvm.Cond.initialized y.cls).before a0 Z = true) (w4 : (Jvm.Cond.code y bytes maxL ret).before a0 Z = true) (hy : y.cls ≠ "java/lang/invoke/MethodHandle" ∧ y.cls ≠ "java/lang/invoke/VarHandle")
    {rm : Room} {b : Addr} {argsL rest : List Value} {Q : Option Value → Heap → List Loc → Prop}
    (K : MetFree l y (head1 [Jvm.Cond.code y bytes maxL ret] rm) (fun a U => a = (.ref b :: argsL).toArray ∧ Z.Warmed39 U.vm ∧ U.heap = h0) (fun _ _ _ _ _ => True) (fun _ U o U' => ∃ v L, o = .returned v ∧ Q v U'.heap L ∧ FrameEnd U o U' L rm.cells rm.slots))
    (W : Nat) (hf : rm.frames + 1 ≤ R.frames) (hl : W + (maxL + 11) + rm.locals ≤ R.locals) (eT : T.heap = h0) (hcl : cells + rm.cells ≤ R.cells) (hsl : slots + rm.slots ≤ R.slots) (Ex : Exa Z h0 b y.cls)
    {g : JFrame} (hg : g.method = m) (hsize : g.locals.size = c.maxLocals) (hlen : ∀ sig, parseMethodDescriptor y.desc = some sig → argsL.length = sig.parameters.length) (hstack : g.stack = argsL.reverse ++ .ref b :: rest) (hW : 2 * g.monitorRoom + (rest.map fun v => v.category).sum ≤ W) (hdg : decode c.code g.pc = .ok (.invokevirtual index, 3)) :
    ∃ (v : Option Value) (T' : State) (L : List Loc), Stand p l e R s m args below meth c T' (locs ++ L) (cells + rm.cells) (slots + rm.slots) ∧ Q v T'.heap L ∧ ∀ t, Steps p.tables e below (T'.setTop { g with pc := g.pc + 3, stack := v.toList ++ rest }) t → Steps p.tables e below (T.setTop g) t := by
  obtain ⟨cq, kq, q1, q2, q3⟩ := isOf hZ eT Ex
  obtain ⟨v, _, ⟨T1, L1, k1, n1⟩, -, X1, ⟨Lc, hQ, l1, y1, z1⟩, st⟩ := X.virtualBack hx (y := y) (z := y) hown (mvT hZ w1) (mvT hZ w2) (notFace_of_selects (args := #[]) (mvT hZ w5)) (mvT hZ w5) (mvT hZ w6) hy (backOf (W := W) K hZ w4 w3 hf hl) q1 q3 (g := g) hg hsize (Steps.refl _) (argsL := argsL) (rest := rest) hlen hstack hW hdg (fun _ _ => ⟨rfl, eT, hcl, hsl⟩)
  dsimp only [Pt.U, Pt.locs, Pt.cells, Pt.slots] at X1 l1 y1 z1 st hQ
  subst l1 y1 z1
  exact ⟨v, T1, Lc, X1, hQ, fun t k => st.trans k⟩
/-- a private method, called by invokevirtual -/
theorem own_callPr (X : Stand p l e R s m args below meth c T locs cells slots) (hx : p.tables.exec = Jvm.exec) (hZ : Z.Warmed39 s.vm) {own : String} {index kk : Nat} {y : MethodName} {bytes : ByteArray} {maxL : Nat} {ret : Option FieldType} (hown : s.vm.findClass own = some m.cls)
    (w1 : (Jvm.Cond.methodLink own index y).before a0 Z = true) (w2 : (Jvm.Cond.privateMethod y).before a0 Z = true) (w5 : (Jvm.Cond.instantiable y.cls kk).before a0 Z = true) (w6 : (Jvm.Cond.instanceMethod y).before a0 Z = true) (w3 : (Jvm.Cond.initialized y.cls).before a0 Z = true) (w4 : (Jvm.Cond.code y bytes maxL ret).before a0 Z = true) (hy : y.cls ≠ "java/lang/invoke/MethodHandle" ∧ y.cls ≠ "java/lang/invoke/VarHandle")
    {rm : Room} {b : Addr} {argsL rest : List Value} {Q : Option Value → Heap → List Loc → Prop}
    (K : MetFree l y (head1 [Jvm.Cond.code y bytes maxL ret] rm) (fun a U => a = (.ref b :: argsL).toArray ∧ Z.Warmed39 U.vm ∧ U.heap = h0) (fun _ _ _ _ _ => True) (fun _ U o U' => ∃ v L, o = .returned v ∧ Q v U'.heap L ∧ FrameEnd U o U' L rm.cells rm.slots))
    (W : Nat) (hf : rm.frames + 1 ≤ R.frames) (hl : W + (maxL + 11) + rm.locals ≤ R.locals) (eT : T.heap = h0) (hcl : cells + rm.cells ≤ R.cells) (hsl : slots + rm.slots ≤ R.slots) (Ex : Exa Z h0 b y.cls)
    {g : JFrame} (hg : g.method = m) (hsize : g.locals.size = c.maxLocals) (hlen : ∀ sig, parseMethodDescriptor y.desc = some sig → argsL.length = sig.parameters.length) (hstack : g.stack = argsL.reverse ++ .ref b :: rest) (hW : 2 * g.monitorRoom + (rest.map fun v => v.category).sum ≤ W) (hdg : decode c.code g.pc = .ok (.invokevirtual index, 3)) :
    ∃ (v : Option Value) (T' : State) (L : List Loc), Stand p l e R s m args below meth c T' (locs ++ L) (cells + rm.cells) (slots + rm.slots) ∧ Q v T'.heap L ∧ ∀ t, Steps p.tables e below (T'.setTop { g with pc := g.pc + 3, stack := v.toList ++ rest }) t → Steps p.tables e below (T.setTop g) t := by
  obtain ⟨cq, q, q'⟩ := Ex.cell
  have w5' : (Jvm.Cond.instantiable y.cls kk).before args s = true := mvT hZ w5
  obtain ⟨ci, ki, i1, i2, -, i4, -⟩ := Cond.instantiable_spec w5'
  have ni : ki.isInterface = false := by
    cases hq : ki.isInterface with
    | false => rfl
    | true => rw [hq] at i4; exact absurd i4 (by simp)
  have hp : s.PrivateAt y := Cond.privateMethod_at (mvP hZ w2 (args := #[]))
  have hsel : (Jvm.Cond.selects y.cls y y).before args s = true := selects_self_of_private i1 i2 ni hp (mvT hZ w6) hy
  obtain ⟨v, _, ⟨T1, L1, k1, n1⟩, -, X1, ⟨Lc, hQ, l1, y1, z1⟩, st⟩ := X.privateBack hx (y := y) hown (mvT hZ w1) (mvT hZ w6) hsel hp (mvT hZ w4) hy (backOf (W := W) K hZ w4 w3 hf hl) (g := g) hg hsize (Steps.refl _) (a := b) (by rw [eT]; exact q) q' (argsL := argsL) (rest := rest) hlen hstack hW hdg (fun _ _ => ⟨rfl, eT, hcl, hsl⟩)
  dsimp only [Pt.U, Pt.locs, Pt.cells, Pt.slots] at X1 l1 y1 z1 st hQ
  subst l1 y1 z1
  exact ⟨v, T1, Lc, X1, hQ, fun t k => st.trans k⟩
theorem ownA.arv {a : Addr} {ty : FieldType} {n : Nat} {f : Nat → Value} (d : Value) (V : ownA Z h a ty n f) : ∃ k, Arv Z h a k ty (Int32.ofNat n) ((List.range n).map f) d := by
  obtain ⟨cl, A, S, q, H⟩ := V
  have g : ∀ i, i < n → ((List.range n).map f).getD i d = f i := fun i hi => by simp [List.getD_eq_getElem?_getD, hi]
  refine ⟨_, cl, A, rfl, by rw [S, own_n32 q], own_nn q, fun i hi => ?_, fun i hi => ?_⟩
  · rw [g i (by omega)]; exact (H i (by omega)).1
  · rw [g i (by omega)]; exact (H i (by omega)).2
theorem ownA.ofArv {a : Addr} {k : ClassId} {ty : FieldType} {n : Nat} {vs : List Value} {d : Value} (q : n < 2147483648) (V : Arv Z h a k ty (Int32.ofNat n) vs d) : ownA Z h a ty n (fun i => vs.getD i d) := by
  obtain ⟨cl, A, -, S, -, H, G⟩ := V
  rw [own_n32 q] at S
  exact ⟨cl, A, S, q, fun i hi => ⟨H i (by omega), G i (by omega)⟩⟩
end Core2
theorem own_idx (j : Int32) (n : Nat) (q0 : 0 ≤ j.toInt) (q1 : j.toInt < n) : ∃ i, i < n ∧ j = Int32.ofNat i := by
  have q2 := j.toInt_lt
  refine ⟨j.toInt.toNat, by omega, ?_⟩
  apply Int32.toInt_inj.mp
  rw [Int32.toInt_ofNat_of_lt (by omega)]
  omega
theorem own_ltn {i n : Nat} (q : i < n) (hn : n < 2147483648) : Int32.ofNat i < Int32.ofNat n := by
  rw [Int32.lt_iff_toInt_lt, Int32.toInt_ofNat_of_lt (by omega), Int32.toInt_ofNat_of_lt hn]
  omega
theorem own_lrem {p : Program} {l : Launch} {e : Env} {R : Room} {s : State} {m : MethodId} {args : Array Value} {below : List Frame} {meth : Method} {c : Code} {T : State} {locs : List Loc} {cells slots : Nat} {g : JFrame} {target : State} (X : Stand p l e R s m args below meth c T locs cells slots) (hx : p.tables.exec = Jvm.exec) (hg : g.method = m) {x y : Int64} {rest : List Value} (hd : decode c.code g.pc = .ok (.lrem, 1)) (hs : g.stack = .long y :: .long x :: rest) (hy : y ≠ 0)
    (hr : Steps p.tables e below (T.setTop { g with pc := g.pc + 1, stack := .long (x % y) :: rest }) target) : Steps p.tables e below (T.setTop g) target := by
  have q : x - (x / y) * y = x % y := lrem_mod x y
  exact XS.lrem X.here hx hg hd hs hy (by rw [q]; exact hr)
theorem d1_0 : decode jdk_29_method_69_code 0 = .ok (.iload_n 0, 1) := by decide +kernel
theorem d1_1 : decode jdk_29_method_69_code 1 = .ok (.iload_n 1, 1) := by decide +kernel
theorem d1_2 : decode jdk_29_method_69_code 2 = .ok (.if_icmp .gt 7, 3) := by decide +kernel
theorem d1_5 : decode jdk_29_method_69_code 5 = .ok (.iload_n 0, 1) := by decide +kernel
theorem d1_6 : decode jdk_29_method_69_code 6 = .ok (.goto 4, 3) := by decide +kernel
theorem d1_9 : decode jdk_29_method_69_code 9 = .ok (.iload_n 1, 1) := by decide +kernel
theorem d1_10 : decode jdk_29_method_69_code 10 = .ok (.ireturn, 1) := by decide +kernel
abbrev R1 : Room := { frames := 0, cells := 0, slots := 0, locals := 0 }
def f1_0 (x0 : Int32) (x1 : Int32) : Int32 := (if x1 < x0 then x1 else x0)
set_option maxRecDepth 65536 in
set_option maxHeartbeats 40000000 in
theorem b1_0 {p : Program} {l : Launch} {e : Env} {s : State} {m : MethodId} {args : Array Value} {below : List Frame} {meth : Method} {c : Code} {T0 : State} {locs : List Loc} {Z : State} {a0 : Array Value} {h0 : Heap} {n0 : Nat} (hx : p.tables.exec = Jvm.exec) (hZ : Z.Warmed39 s.vm) (hw : ∀ d ∈ tables_1, d.before a0 Z = true) (hby : c.code = jdk_29_method_69_code) (hml : c.maxLocals = 2) (hown : s.vm.findClass "java/lang/Math" = some m.cls) (hret : meth.sig.returnType = (some .int)) (hlk : meth.locks = false) (X0 : Stand p l e R1 s m args below meth c T0 locs 0 0) (e0 : T0.heap = h0) (N0 : Fr n0 locs) (x0 : Int32) (x1 : Int32) (r : Int32) (hr : r = f1_0 x0 x1) :
    ownGo p.tables e below T0 (mkF m 0 #[.val (.int x0), .val (.int x1)] []) (ownDone s (ownPure (.int r) h0 n0) 0 0) := by
  have hr0 : r = (if x1 < x0 then x1 else x0) := hr
  refine ownGo.st (fun _ k => XS.iloadN X0.here hx rfl (hb hby d1_0) rfl k) ?_
  show ownGo p.tables e below T0 (mkF m 1 #[.val (.int x0), .val (.int x1)] [(.int x0)]) _
  refine ownGo.st (fun _ k => XS.iloadN X0.here hx rfl (hb hby d1_1) rfl k) ?_
  show ownGo p.tables e below T0 (mkF m 2 #[.val (.int x0), .val (.int x1)] [(.int x1), (.int x0)]) _
  by_cases hc2 : x1 < x0
  · have hr1 := hr0.trans (if_pos hc2)
    refine ownGo.st (fun _ k => XS.icmpYes X0.here hx rfl (pc0 := 2) (pc' := 9) rfl (hb hby d1_2) rfl (tlt hc2).2.2.1 (by decide) (by decide) k) ?_
    show ownGo p.tables e below T0 (mkF m 9 #[.val (.int x0), .val (.int x1)] []) _
    refine ownGo.st (fun _ k => XS.iloadN X0.here hx rfl (hb hby d1_9) rfl k) ?_
    show ownGo p.tables e below T0 (mkF m 10 #[.val (.int x0), .val (.int x1)] [(.int x1)]) _
    exact own_retI X0 hx hlk hret (hb hby d1_10) ⟨congrArg (fun z => some (Value.int z)) hr1.symm, N0, e0⟩ (Nat.le_refl _) (Nat.le_refl _)
  · have hr1 := hr0.trans (if_neg hc2)
    refine ownGo.st (fun _ k => XS.icmpNo X0.here hx rfl (hb hby d1_2) rfl (flt hc2).2.2.1 k) ?_
    show ownGo p.tables e below T0 (mkF m 5 #[.val (.int x0), .val (.int x1)] []) _
    refine ownGo.st (fun _ k => XS.iloadN X0.here hx rfl (hb hby d1_5) rfl k) ?_
    show ownGo p.tables e below T0 (mkF m 6 #[.val (.int x0), .val (.int x1)] [(.int x0)]) _
    refine ownGo.st (fun _ k => XS.goto X0.here hx rfl (pc0 := 6) (pc' := 10) rfl (hb hby d1_6) (by decide) (by decide) k) ?_
    show ownGo p.tables e below T0 (mkF m 10 #[.val (.int x0), .val (.int x1)] [(.int x0)]) _
    exact own_retI X0 hx hlk hret (hb hby d1_10) ⟨congrArg (fun z => some (Value.int z)) hr1.symm, N0, e0⟩ (Nat.le_refl _) (Nat.le_refl _)
abbrev F1 (x0 : Int32) (x1 : Int32) : Int32 := f1_0 x0 x1
theorem ef_1 (m : MethodId) (x0 : Int32) (x1 : Int32) : entryFrame m #[(.int x0), (.int x1)] 2 = mkF m 0 #[.val (.int x0), .val (.int x1)] [] := by first | (simp [entryFrame, mkF, argsToLocals, Value.category]; done) | rfl
set_option maxRecDepth 65536 in
set_option maxHeartbeats 40000000 in
theorem rm1 (l : Launch) (Z : State) (a0 : Array Value) (hw : ∀ d ∈ tables_1, d.before a0 Z = true) (x0 : Int32) (x1 : Int32) (h0 : Heap) (n0 : Nat)  :
    MetFree l (⟨"java/lang/Math", "min", "(II)I"⟩ : MethodName) (head1 [Jvm.Cond.code (⟨"java/lang/Math", "min", "(II)I"⟩ : MethodName) jdk_29_method_69_code 2 (some .int)] R1) (fun a U => a = #[(.int x0), (.int x1)] ∧ Z.Warmed39 U.vm ∧ U.heap = h0) (fun _ _ _ _ _ => True) (fun _ U o U' => ∃ v L, o = .returned v ∧ ownPure (.int (F1 x0 x1)) h0 n0 v U'.heap L ∧ FrameEnd U o U' L R1.cells R1.slots) := by
  refine MetFree.of_bodySF (Jvm.Free.JP.mathPlain rfl (by decide +kernel)) hisR ?_
  intro p e s m args below meth c s₁ Bd hml0 hP hK
  obtain ⟨rfl, hZ, hh⟩ := hP
  have hx := Bd.exec
  have hby := Bd.bytes
  have hml : c.maxLocals = 2 := hml0
  have hown : s.vm.findClass "java/lang/Math" = some m.cls := findClass_of_methodNamed Bd.named
  have hnm := (name_of_methodNamed Bd.named Bd.method).1
  have hret := Bd.returns
  have hlk : meth.locks = false := BodyLoose.notSynchronized Bd
  have X0 : Stand p l e R1 s m #[(.int x0), (.int x1)] below meth c s₁ [] 0 0 := Stand.of_body Bd
  have e0 : s₁.heap = h0 := by rw [← hh, Bd.state]; rfl
  have N0 := Fr.nil n0
  show ownGo p.tables e below s₁ (entryFrame m #[(.int x0), (.int x1)] 2) (ownDone s (ownPure (.int (F1 x0 x1)) h0 n0) R1.cells R1.slots)
  rw [ef_1 m x0 x1]
  exact b1_0 hx hZ hw hby hml hown hret hlk X0 e0 N0 x0 x1 _ rfl
theorem d6_0 : decode jdk_33_method_47_code 0 = .ok (.iload_n 0, 1) := by decide +kernel
theorem d6_1 : decode jdk_33_method_47_code 1 = .ok (.ifCond .gt 14, 3) := by decide +kernel
theorem d6_4 : decode jdk_33_method_47_code 4 = .ok (.iload_n 0, 1) := by decide +kernel
theorem d6_5 : decode jdk_33_method_47_code 5 = .ok (.ifCond .ne 8, 3) := by decide +kernel
theorem d6_8 : decode jdk_33_method_47_code 8 = .ok (.bipush 32, 2) := by decide +kernel
theorem d6_10 : decode jdk_33_method_47_code 10 = .ok (.goto 4, 3) := by decide +kernel
theorem d6_13 : decode jdk_33_method_47_code 13 = .ok (.iconst 0, 1) := by decide +kernel
theorem d6_14 : decode jdk_33_method_47_code 14 = .ok (.ireturn, 1) := by decide +kernel
theorem d6_15 : decode jdk_33_method_47_code 15 = .ok (.bipush 31, 2) := by decide +kernel
theorem d6_17 : decode jdk_33_method_47_code 17 = .ok (.istore_n 1, 1) := by decide +kernel
theorem d6_18 : decode jdk_33_method_47_code 18 = .ok (.iload_n 0, 1) := by decide +kernel
theorem d6_19 : decode jdk_33_method_47_code 19 = .ok (.ldc_w 264, 3) := by decide +kernel
theorem d6_22 : decode jdk_33_method_47_code 22 = .ok (.if_icmp .lt 11, 3) := by decide +kernel
theorem d6_25 : decode jdk_33_method_47_code 25 = .ok (.iinc 1 (-16), 3) := by decide +kernel
theorem d6_28 : decode jdk_33_method_47_code 28 = .ok (.iload_n 0, 1) := by decide +kernel
theorem d6_29 : decode jdk_33_method_47_code 29 = .ok (.bipush 16, 2) := by decide +kernel
theorem d6_31 : decode jdk_33_method_47_code 31 = .ok (.iushr, 1) := by decide +kernel
theorem d6_32 : decode jdk_33_method_47_code 32 = .ok (.istore_n 0, 1) := by decide +kernel
theorem d6_33 : decode jdk_33_method_47_code 33 = .ok (.iload_n 0, 1) := by decide +kernel
theorem d6_34 : decode jdk_33_method_47_code 34 = .ok (.sipush 256, 3) := by decide +kernel
theorem d6_37 : decode jdk_33_method_47_code 37 = .ok (.if_icmp .lt 11, 3) := by decide +kernel
theorem d6_40 : decode jdk_33_method_47_code 40 = .ok (.iinc 1 (-8), 3) := by decide +kernel
theorem d6_43 : decode jdk_33_method_47_code 43 = .ok (.iload_n 0, 1) := by decide +kernel
theorem d6_44 : decode jdk_33_method_47_code 44 = .ok (.bipush 8, 2) := by decide +kernel
theorem d6_46 : decode jdk_33_method_47_code 46 = .ok (.iushr, 1) := by decide +kernel
theorem d6_47 : decode jdk_33_method_47_code 47 = .ok (.istore_n 0, 1) := by decide +kernel
theorem d6_48 : decode jdk_33_method_47_code 48 = .ok (.iload_n 0, 1) := by decide +kernel
theorem d6_49 : decode jdk_33_method_47_code 49 = .ok (.bipush 16, 2) := by decide +kernel
theorem d6_51 : decode jdk_33_method_47_code 51 = .ok (.if_icmp .lt 10, 3) := by decide +kernel
theorem d6_54 : decode jdk_33_method_47_code 54 = .ok (.iinc 1 (-4), 3) := by decide +kernel
theorem d6_57 : decode jdk_33_method_47_code 57 = .ok (.iload_n 0, 1) := by decide +kernel
theorem d6_58 : decode jdk_33_method_47_code 58 = .ok (.iconst 4, 1) := by decide +kernel
theorem d6_59 : decode jdk_33_method_47_code 59 = .ok (.iushr, 1) := by decide +kernel
theorem d6_60 : decode jdk_33_method_47_code 60 = .ok (.istore_n 0, 1) := by decide +kernel
theorem d6_61 : decode jdk_33_method_47_code 61 = .ok (.iload_n 0, 1) := by decide +kernel
theorem d6_62 : decode jdk_33_method_47_code 62 = .ok (.iconst 4, 1) := by decide +kernel
theorem d6_63 : decode jdk_33_method_47_code 63 = .ok (.if_icmp .lt 10, 3) := by decide +kernel
theorem d6_66 : decode jdk_33_method_47_code 66 = .ok (.iinc 1 (-2), 3) := by decide +kernel
theorem d6_69 : decode jdk_33_method_47_code 69 = .ok (.iload_n 0, 1) := by decide +kernel
theorem d6_70 : decode jdk_33_method_47_code 70 = .ok (.iconst 2, 1) := by decide +kernel
theorem d6_71 : decode jdk_33_method_47_code 71 = .ok (.iushr, 1) := by decide +kernel
theorem d6_72 : decode jdk_33_method_47_code 72 = .ok (.istore_n 0, 1) := by decide +kernel
theorem d6_73 : decode jdk_33_method_47_code 73 = .ok (.iload_n 1, 1) := by decide +kernel
theorem d6_74 : decode jdk_33_method_47_code 74 = .ok (.iload_n 0, 1) := by decide +kernel
theorem d6_75 : decode jdk_33_method_47_code 75 = .ok (.iconst 1, 1) := by decide +kernel
theorem d6_76 : decode jdk_33_method_47_code 76 = .ok (.iushr, 1) := by decide +kernel
theorem d6_77 : decode jdk_33_method_47_code 77 = .ok (.isub, 1) := by decide +kernel
theorem d6_78 : decode jdk_33_method_47_code 78 = .ok (.ireturn, 1) := by decide +kernel
abbrev R6 : Room := { frames := 0, cells := 0, slots := 0, locals := 0 }
def f6_73 (x0 : Int32) (x1 : Int32) : Int32 := (x1 - (own_iushr x0 (1 : Int32)))
set_option maxRecDepth 65536 in
set_option maxHeartbeats 40000000 in
theorem b6_73 {p : Program} {l : Launch} {e : Env} {s : State} {m : MethodId} {args : Array Value} {below : List Frame} {meth : Method} {c : Code} {T0 : State} {locs : List Loc} {Z : State} {a0 : Array Value} {h0 : Heap} {n0 : Nat} (hx : p.tables.exec = Jvm.exec) (hZ : Z.Warmed39 s.vm) (hw : ∀ d ∈ tables_1, d.before a0 Z = true) (hby : c.code = jdk_33_method_47_code) (hml : c.maxLocals = 2) (hown : s.vm.findClass "java/lang/Integer" = some m.cls) (hret : meth.sig.returnType = (some .int)) (hlk : meth.locks = false) (X0 : Stand p l e R6 s m args below meth c T0 locs 0 0) (e0 : T0.heap = h0) (N0 : Fr n0 locs) (x0 : Int32) (x1 : Int32) (r : Int32) (hr : r = f6_73 x0 x1) :
    ownGo p.tables e below T0 (mkF m 73 #[.val (.int x0), .val (.int x1)] []) (ownDone s (ownPure (.int r) h0 n0) 0 0) := by
  have hr0 : r = (x1 - (own_iushr x0 (1 : Int32))) := hr
  refine ownGo.st (fun _ k => XS.iloadN X0.here hx rfl (hb hby d6_73) rfl k) ?_
  show ownGo p.tables e below T0 (mkF m 74 #[.val (.int x0), .val (.int x1)] [(.int x1)]) _
  refine ownGo.st (fun _ k => XS.iloadN X0.here hx rfl (hb hby d6_74) rfl k) ?_
  show ownGo p.tables e below T0 (mkF m 75 #[.val (.int x0), .val (.int x1)] [(.int x0), (.int x1)]) _
  refine ownGo.st (fun _ k => XS.iconst X0.here hx rfl (hb hby d6_75)  k) ?_
  show ownGo p.tables e below T0 (mkF m 76 #[.val (.int x0), .val (.int x1)] [(.int (1 : Int32)), (.int x0), (.int x1)]) _
  refine ownGo.st (fun _ k => XS.iushr X0.here hx rfl (hb hby d6_76) rfl k) ?_
  show ownGo p.tables e below T0 (mkF m 77 #[.val (.int x0), .val (.int x1)] [(.int (own_iushr x0 (1 : Int32))), (.int x1)]) _
  refine ownGo.st (fun _ k => XS.isub X0.here hx rfl (hb hby d6_77) rfl k) ?_
  show ownGo p.tables e below T0 (mkF m 78 #[.val (.int x0), .val (.int x1)] [(.int (x1 - (own_iushr x0 (1 : Int32))))]) _
  exact own_retI X0 hx hlk hret (hb hby d6_78) ⟨congrArg (fun z => some (Value.int z)) hr0.symm, N0, e0⟩ (Nat.le_refl _) (Nat.le_refl _)
def f6_61 (x0 : Int32) (x1 : Int32) : Int32 := (if x0 < (4 : Int32) then (f6_73 x0 x1) else (f6_73 (own_iushr x0 (2 : Int32)) (x1 + (-2 : Int32))))
set_option maxRecDepth 65536 in
set_option maxHeartbeats 40000000 in
theorem b6_61 {p : Program} {l : Launch} {e : Env} {s : State} {m : MethodId} {args : Array Value} {below : List Frame} {meth : Method} {c : Code} {T0 : State} {locs : List Loc} {Z : State} {a0 : Array Value} {h0 : Heap} {n0 : Nat} (hx : p.tables.exec = Jvm.exec) (hZ : Z.Warmed39 s.vm) (hw : ∀ d ∈ tables_1, d.before a0 Z = true) (hby : c.code = jdk_33_method_47_code) (hml : c.maxLocals = 2) (hown : s.vm.findClass "java/lang/Integer" = some m.cls) (hret : meth.sig.returnType = (some .int)) (hlk : meth.locks = false) (X0 : Stand p l e R6 s m args below meth c T0 locs 0 0) (e0 : T0.heap = h0) (N0 : Fr n0 locs) (x0 : Int32) (x1 : Int32) (r : Int32) (hr : r = f6_61 x0 x1) :
    ownGo p.tables e below T0 (mkF m 61 #[.val (.int x0), .val (.int x1)] []) (ownDone s (ownPure (.int r) h0 n0) 0 0) := by
  have hr0 : r = (if x0 < (4 : Int32) then (f6_73 x0 x1) else (f6_73 (own_iushr x0 (2 : Int32)) (x1 + (-2 : Int32)))) := hr
  refine ownGo.st (fun _ k => XS.iloadN X0.here hx rfl (hb hby d6_61) rfl k) ?_
  show ownGo p.tables e below T0 (mkF m 62 #[.val (.int x0), .val (.int x1)] [(.int x0)]) _
  refine ownGo.st (fun _ k => XS.iconst X0.here hx rfl (hb hby d6_62)  k) ?_
  show ownGo p.tables e below T0 (mkF m 63 #[.val (.int x0), .val (.int x1)] [(.int (4 : Int32)), (.int x0)]) _
  by_cases hc63 : x0 < (4 : Int32)
  · have hr6 := hr0.trans (if_pos hc63)
    refine ownGo.st (fun _ k => XS.icmpYes X0.here hx rfl (pc0 := 63) (pc' := 73) rfl (hb hby d6_63) rfl (tlt hc63).1 (by decide) (by decide) k) ?_
    show ownGo p.tables e below T0 (mkF m 73 #[.val (.int x0), .val (.int x1)] []) _
    exact b6_73 hx hZ hw hby hml hown hret hlk X0 e0 N0 x0 x1 r hr6
  · have hr6 := hr0.trans (if_neg hc63)
    refine ownGo.st (fun _ k => XS.icmpNo X0.here hx rfl (hb hby d6_63) rfl (flt hc63).1 k) ?_
    show ownGo p.tables e below T0 (mkF m 66 #[.val (.int x0), .val (.int x1)] []) _
    refine ownGo.st (fun _ k => XS.iinc X0.here hx rfl (hb hby d6_66) rfl (l' := #[.val (.int x0), .val (.int (x1 + (-2 : Int32)))]) rfl k) ?_
    show ownGo p.tables e below T0 (mkF m 69 #[.val (.int x0), .val (.int (x1 + (-2 : Int32)))] []) _
    refine ownGo.st (fun _ k => XS.iloadN X0.here hx rfl (hb hby d6_69) rfl k) ?_
    show ownGo p.tables e below T0 (mkF m 70 #[.val (.int x0), .val (.int (x1 + (-2 : Int32)))] [(.int x0)]) _
    refine ownGo.st (fun _ k => XS.iconst X0.here hx rfl (hb hby d6_70)  k) ?_
    show ownGo p.tables e below T0 (mkF m 71 #[.val (.int x0), .val (.int (x1 + (-2 : Int32)))] [(.int (2 : Int32)), (.int x0)]) _
    refine ownGo.st (fun _ k => XS.iushr X0.here hx rfl (hb hby d6_71) rfl k) ?_
    show ownGo p.tables e below T0 (mkF m 72 #[.val (.int x0), .val (.int (x1 + (-2 : Int32)))] [(.int (own_iushr x0 (2 : Int32)))]) _
    refine ownGo.st (fun _ k => XS.istoreN X0.here hx rfl (hb hby d6_72) rfl (l' := #[.val (.int (own_iushr x0 (2 : Int32))), .val (.int (x1 + (-2 : Int32)))]) rfl k) ?_
    show ownGo p.tables e below T0 (mkF m 73 #[.val (.int (own_iushr x0 (2 : Int32))), .val (.int (x1 + (-2 : Int32)))] []) _
    exact b6_73 hx hZ hw hby hml hown hret hlk X0 e0 N0 (own_iushr x0 (2 : Int32)) (x1 + (-2 : Int32)) r hr6
def f6_48 (x0 : Int32) (x1 : Int32) : Int32 := (if x0 < (16 : Int32) then (f6_61 x0 x1) else (f6_61 (own_iushr x0 (4 : Int32)) (x1 + (-4 : Int32))))
set_option maxRecDepth 65536 in
set_option maxHeartbeats 40000000 in
theorem b6_48 {p : Program} {l : Launch} {e : Env} {s : State} {m : MethodId} {args : Array Value} {below : List Frame} {meth : Method} {c : Code} {T0 : State} {locs : List Loc} {Z : State} {a0 : Array Value} {h0 : Heap} {n0 : Nat} (hx : p.tables.exec = Jvm.exec) (hZ : Z.Warmed39 s.vm) (hw : ∀ d ∈ tables_1, d.before a0 Z = true) (hby : c.code = jdk_33_method_47_code) (hml : c.maxLocals = 2) (hown : s.vm.findClass "java/lang/Integer" = some m.cls) (hret : meth.sig.returnType = (some .int)) (hlk : meth.locks = false) (X0 : Stand p l e R6 s m args below meth c T0 locs 0 0) (e0 : T0.heap = h0) (N0 : Fr n0 locs) (x0 : Int32) (x1 : Int32) (r : Int32) (hr : r = f6_48 x0 x1) :
    ownGo p.tables e below T0 (mkF m 48 #[.val (.int x0), .val (.int x1)] []) (ownDone s (ownPure (.int r) h0 n0) 0 0) := by
  have hr0 : r = (if x0 < (16 : Int32) then (f6_61 x0 x1) else (f6_61 (own_iushr x0 (4 : Int32)) (x1 + (-4 : Int32)))) := hr
  refine ownGo.st (fun _ k => XS.iloadN X0.here hx rfl (hb hby d6_48) rfl k) ?_
  show ownGo p.tables e below T0 (mkF m 49 #[.val (.int x0), .val (.int x1)] [(.int x0)]) _
  refine ownGo.st (fun _ k => XS.bipush X0.here hx rfl (hb hby d6_49)  k) ?_
  show ownGo p.tables e below T0 (mkF m 51 #[.val (.int x0), .val (.int x1)] [(.int (16 : Int32)), (.int x0)]) _
  by_cases hc51 : x0 < (16 : Int32)
  · have hr5 := hr0.trans (if_pos hc51)
    refine ownGo.st (fun _ k => XS.icmpYes X0.here hx rfl (pc0 := 51) (pc' := 61) rfl (hb hby d6_51) rfl (tlt hc51).1 (by decide) (by decide) k) ?_
    show ownGo p.tables e below T0 (mkF m 61 #[.val (.int x0), .val (.int x1)] []) _
    exact b6_61 hx hZ hw hby hml hown hret hlk X0 e0 N0 x0 x1 r hr5
  · have hr5 := hr0.trans (if_neg hc51)
    refine ownGo.st (fun _ k => XS.icmpNo X0.here hx rfl (hb hby d6_51) rfl (flt hc51).1 k) ?_
    show ownGo p.tables e below T0 (mkF m 54 #[.val (.int x0), .val (.int x1)] []) _
    refine ownGo.st (fun _ k => XS.iinc X0.here hx rfl (hb hby d6_54) rfl (l' := #[.val (.int x0), .val (.int (x1 + (-4 : Int32)))]) rfl k) ?_
    show ownGo p.tables e below T0 (mkF m 57 #[.val (.int x0), .val (.int (x1 + (-4 : Int32)))] []) _
    refine ownGo.st (fun _ k => XS.iloadN X0.here hx rfl (hb hby d6_57) rfl k) ?_
    show ownGo p.tables e below T0 (mkF m 58 #[.val (.int x0), .val (.int (x1 + (-4 : Int32)))] [(.int x0)]) _
    refine ownGo.st (fun _ k => XS.iconst X0.here hx rfl (hb hby d6_58)  k) ?_
    show ownGo p.tables e below T0 (mkF m 59 #[.val (.int x0), .val (.int (x1 + (-4 : Int32)))] [(.int (4 : Int32)), (.int x0)]) _
    refine ownGo.st (fun _ k => XS.iushr X0.here hx rfl (hb hby d6_59) rfl k) ?_
    show ownGo p.tables e below T0 (mkF m 60 #[.val (.int x0), .val (.int (x1 + (-4 : Int32)))] [(.int (own_iushr x0 (4 : Int32)))]) _
    refine ownGo.st (fun _ k => XS.istoreN X0.here hx rfl (hb hby d6_60) rfl (l' := #[.val (.int (own_iushr x0 (4 : Int32))), .val (.int (x1 + (-4 : Int32)))]) rfl k) ?_
    show ownGo p.tables e below T0 (mkF m 61 #[.val (.int (own_iushr x0 (4 : Int32))), .val (.int (x1 + (-4 : Int32)))] []) _
    exact b6_61 hx hZ hw hby hml hown hret hlk X0 e0 N0 (own_iushr x0 (4 : Int32)) (x1 + (-4 : Int32)) r hr5
def f6_33 (x0 : Int32) (x1 : Int32) : Int32 := (if x0 < (256 : Int32) then (f6_48 x0 x1) else (f6_48 (own_iushr x0 (8 : Int32)) (x1 + (-8 : Int32))))
set_option maxRecDepth 65536 in
set_option maxHeartbeats 40000000 in
theorem b6_33 {p : Program} {l : Launch} {e : Env} {s : State} {m : MethodId} {args : Array Value} {below : List Frame} {meth : Method} {c : Code} {T0 : State} {locs : List Loc} {Z : State} {a0 : Array Value} {h0 : Heap} {n0 : Nat} (hx : p.tables.exec = Jvm.exec) (hZ : Z.Warmed39 s.vm) (hw : ∀ d ∈ tables_1, d.before a0 Z = true) (hby : c.code = jdk_33_method_47_code) (hml : c.maxLocals = 2) (hown : s.vm.findClass "java/lang/Integer" = some m.cls) (hret : meth.sig.returnType = (some .int)) (hlk : meth.locks = false) (X0 : Stand p l e R6 s m args below meth c T0 locs 0 0) (e0 : T0.heap = h0) (N0 : Fr n0 locs) (x0 : Int32) (x1 : Int32) (r : Int32) (hr : r = f6_33 x0 x1) :
    ownGo p.tables e below T0 (mkF m 33 #[.val (.int x0), .val (.int x1)] []) (ownDone s (ownPure (.int r) h0 n0) 0 0) := by
  have hr0 : r = (if x0 < (256 : Int32) then (f6_48 x0 x1) else (f6_48 (own_iushr x0 (8 : Int32)) (x1 + (-8 : Int32)))) := hr
  refine ownGo.st (fun _ k => XS.iloadN X0.here hx rfl (hb hby d6_33) rfl k) ?_
  show ownGo p.tables e below T0 (mkF m 34 #[.val (.int x0), .val (.int x1)] [(.int x0)]) _
  refine ownGo.st (fun _ k => XS.sipush X0.here hx rfl (hb hby d6_34)  k) ?_
  show ownGo p.tables e below T0 (mkF m 37 #[.val (.int x0), .val (.int x1)] [(.int (256 : Int32)), (.int x0)]) _
  by_cases hc37 : x0 < (256 : Int32)
  · have hr4 := hr0.trans (if_pos hc37)
    refine ownGo.st (fun _ k => XS.icmpYes X0.here hx rfl (pc0 := 37) (pc' := 48) rfl (hb hby d6_37) rfl (tlt hc37).1 (by decide) (by decide) k) ?_
    show ownGo p.tables e below T0 (mkF m 48 #[.val (.int x0), .val (.int x1)] []) _
    exact b6_48 hx hZ hw hby hml hown hret hlk X0 e0 N0 x0 x1 r hr4
  · have hr4 := hr0.trans (if_neg hc37)
    refine ownGo.st (fun _ k => XS.icmpNo X0.here hx rfl (hb hby d6_37) rfl (flt hc37).1 k) ?_
    show ownGo p.tables e below T0 (mkF m 40 #[.val (.int x0), .val (.int x1)] []) _
    refine ownGo.st (fun _ k => XS.iinc X0.here hx rfl (hb hby d6_40) rfl (l' := #[.val (.int x0), .val (.int (x1 + (-8 : Int32)))]) rfl k) ?_
    show ownGo p.tables e below T0 (mkF m 43 #[.val (.int x0), .val (.int (x1 + (-8 : Int32)))] []) _
    refine ownGo.st (fun _ k => XS.iloadN X0.here hx rfl (hb hby d6_43) rfl k) ?_
    show ownGo p.tables e below T0 (mkF m 44 #[.val (.int x0), .val (.int (x1 + (-8 : Int32)))] [(.int x0)]) _
    refine ownGo.st (fun _ k => XS.bipush X0.here hx rfl (hb hby d6_44)  k) ?_
    show ownGo p.tables e below T0 (mkF m 46 #[.val (.int x0), .val (.int (x1 + (-8 : Int32)))] [(.int (8 : Int32)), (.int x0)]) _
    refine ownGo.st (fun _ k => XS.iushr X0.here hx rfl (hb hby d6_46) rfl k) ?_
    show ownGo p.tables e below T0 (mkF m 47 #[.val (.int x0), .val (.int (x1 + (-8 : Int32)))] [(.int (own_iushr x0 (8 : Int32)))]) _
    refine ownGo.st (fun _ k => XS.istoreN X0.here hx rfl (hb hby d6_47) rfl (l' := #[.val (.int (own_iushr x0 (8 : Int32))), .val (.int (x1 + (-8 : Int32)))]) rfl k) ?_
    show ownGo p.tables e below T0 (mkF m 48 #[.val (.int (own_iushr x0 (8 : Int32))), .val (.int (x1 + (-8 : Int32)))] []) _
    exact b6_48 hx hZ hw hby hml hown hret hlk X0 e0 N0 (own_iushr x0 (8 : Int32)) (x1 + (-8 : Int32)) r hr4
def f6_0 (x0 : Int32) : Int32 := (if (0 : Int32) < x0 then (if x0 < (65536 : Int32) then (f6_33 x0 (31 : Int32)) else (f6_33 (own_iushr x0 (16 : Int32)) ((31 : Int32) + (-16 : Int32)))) else (if x0 = (0 : Int32) then (32 : Int32) else (0 : Int32)))
set_option maxRecDepth 65536 in
set_option maxHeartbeats 40000000 in
theorem b6_0 {p : Program} {l : Launch} {e : Env} {s : State} {m : MethodId} {args : Array Value} {below : List Frame} {meth : Method} {c : Code} {T0 : State} {locs : List Loc} {Z : State} {a0 : Array Value} {h0 : Heap} {n0 : Nat} (hx : p.tables.exec = Jvm.exec) (hZ : Z.Warmed39 s.vm) (hw : ∀ d ∈ tables_1, d.before a0 Z = true) (hby : c.code = jdk_33_method_47_code) (hml : c.maxLocals = 2) (hown : s.vm.findClass "java/lang/Integer" = some m.cls) (hret : meth.sig.returnType = (some .int)) (hlk : meth.locks = false) (X0 : Stand p l e R6 s m args below meth c T0 locs 0 0) (e0 : T0.heap = h0) (N0 : Fr n0 locs) (x0 : Int32) (r : Int32) (hr : r = f6_0 x0) :
    ownGo p.tables e below T0 (mkF m 0 #[.val (.int x0), .unset] []) (ownDone s (ownPure (.int r) h0 n0) 0 0) := by
  have hr0 : r = (if (0 : Int32) < x0 then (if x0 < (65536 : Int32) then (f6_33 x0 (31 : Int32)) else (f6_33 (own_iushr x0 (16 : Int32)) ((31 : Int32) + (-16 : Int32)))) else (if x0 = (0 : Int32) then (32 : Int32) else (0 : Int32))) := hr
  refine ownGo.st (fun _ k => XS.iloadN X0.here hx rfl (hb hby d6_0) rfl k) ?_
  show ownGo p.tables e below T0 (mkF m 1 #[.val (.int x0), .unset] [(.int x0)]) _
  by_cases hc1 : (0 : Int32) < x0
  · have hr2 := hr0.trans (if_pos hc1)
    refine ownGo.st (fun _ k => XS.ifYes X0.here hx rfl (pc0 := 1) (pc' := 15) rfl (hb hby d6_1) rfl ((if0 _ _).trans (tlt hc1).2.2.1) (by decide) (by decide) k) ?_
    show ownGo p.tables e below T0 (mkF m 15 #[.val (.int x0), .unset] []) _
    refine ownGo.st (fun _ k => XS.bipush X0.here hx rfl (hb hby d6_15)  k) ?_
    show ownGo p.tables e below T0 (mkF m 17 #[.val (.int x0), .unset] [(.int (31 : Int32))]) _
    refine ownGo.st (fun _ k => XS.istoreN X0.here hx rfl (hb hby d6_17) rfl (l' := #[.val (.int x0), .val (.int (31 : Int32))]) rfl k) ?_
    show ownGo p.tables e below T0 (mkF m 18 #[.val (.int x0), .val (.int (31 : Int32))] []) _
    refine ownGo.st (fun _ k => XS.iloadN X0.here hx rfl (hb hby d6_18) rfl k) ?_
    show ownGo p.tables e below T0 (mkF m 19 #[.val (.int x0), .val (.int (31 : Int32))] [(.int x0)]) _
    refine ownGo.st (X0.ldcwInt hx hown (mvT hZ (own_at hw 45 rfl)) (g := (mkF m 19 #[.val (.int x0), .val (.int (31 : Int32))] [(.int x0)])) rfl (hb hby d6_19)) ?_
    show ownGo p.tables e below T0 (mkF m 22 #[.val (.int x0), .val (.int (31 : Int32))] [(.int (65536 : Int32)), (.int x0)]) _
    by_cases hc22 : x0 < (65536 : Int32)
    · have hr3 := hr2.trans (if_pos hc22)
      refine ownGo.st (fun _ k => XS.icmpYes X0.here hx rfl (pc0 := 22) (pc' := 33) rfl (hb hby d6_22) rfl (tlt hc22).1 (by decide) (by decide) k) ?_
      show ownGo p.tables e below T0 (mkF m 33 #[.val (.int x0), .val (.int (31 : Int32))] []) _
      exact b6_33 hx hZ hw hby hml hown hret hlk X0 e0 N0 x0 (31 : Int32) r hr3
    · have hr3 := hr2.trans (if_neg hc22)
      refine ownGo.st (fun _ k => XS.icmpNo X0.here hx rfl (hb hby d6_22) rfl (flt hc22).1 k) ?_
      show ownGo p.tables e below T0 (mkF m 25 #[.val (.int x0), .val (.int (31 : Int32))] []) _
      refine ownGo.st (fun _ k => XS.iinc X0.here hx rfl (hb hby d6_25) rfl (l' := #[.val (.int x0), .val (.int ((31 : Int32) + (-16 : Int32)))]) rfl k) ?_
      show ownGo p.tables e below T0 (mkF m 28 #[.val (.int x0), .val (.int ((31 : Int32) + (-16 : Int32)))] []) _
      refine ownGo.st (fun _ k => XS.iloadN X0.here hx rfl (hb hby d6_28) rfl k) ?_
      show ownGo p.tables e below T0 (mkF m 29 #[.val (.int x0), .val (.int ((31 : Int32) + (-16 : Int32)))] [(.int x0)]) _
      refine ownGo.st (fun _ k => XS.bipush X0.here hx rfl (hb hby d6_29)  k) ?_
      show ownGo p.tables e below T0 (mkF m 31 #[.val (.int x0), .val (.int ((31 : Int32) + (-16 : Int32)))] [(.int (16 : Int32)), (.int x0)]) _
      refine ownGo.st (fun _ k => XS.iushr X0.here hx rfl (hb hby d6_31) rfl k) ?_
      show ownGo p.tables e below T0 (mkF m 32 #[.val (.int x0), .val (.int ((31 : Int32) + (-16 : Int32)))] [(.int (own_iushr x0 (16 : Int32)))]) _
      refine ownGo.st (fun _ k => XS.istoreN X0.here hx rfl (hb hby d6_32) rfl (l' := #[.val (.int (own_iushr x0 (16 : Int32))), .val (.int ((31 : Int32) + (-16 : Int32)))]) rfl k) ?_
      show ownGo p.tables e below T0 (mkF m 33 #[.val (.int (own_iushr x0 (16 : Int32))), .val (.int ((31 : Int32) + (-16 : Int32)))] []) _
      exact b6_33 hx hZ hw hby hml hown hret hlk X0 e0 N0 (own_iushr x0 (16 : Int32)) ((31 : Int32) + (-16 : Int32)) r hr3
  · have hr2 := hr0.trans (if_neg hc1)
    refine ownGo.st (fun _ k => XS.ifNo X0.here hx rfl (hb hby d6_1) rfl ((if0 _ _).trans (flt hc1).2.2.1) k) ?_
    show ownGo p.tables e below T0 (mkF m 4 #[.val (.int x0), .unset] []) _
    refine ownGo.st (fun _ k => XS.iloadN X0.here hx rfl (hb hby d6_4) rfl k) ?_
    show ownGo p.tables e below T0 (mkF m 5 #[.val (.int x0), .unset] [(.int x0)]) _
    by_cases hc5 : x0 = (0 : Int32)
    · have hr7 := hr2.trans (if_pos hc5)
      refine ownGo.st (fun _ k => XS.ifNo X0.here hx rfl (hb hby d6_5) rfl ((if0 _ _).trans (teq hc5).2) k) ?_
      show ownGo p.tables e below T0 (mkF m 8 #[.val (.int x0), .unset] []) _
      refine ownGo.st (fun _ k => XS.bipush X0.here hx rfl (hb hby d6_8)  k) ?_
      show ownGo p.tables e below T0 (mkF m 10 #[.val (.int x0), .unset] [(.int (32 : Int32))]) _
      refine ownGo.st (fun _ k => XS.goto X0.here hx rfl (pc0 := 10) (pc' := 14) rfl (hb hby d6_10) (by decide) (by decide) k) ?_
      show ownGo p.tables e below T0 (mkF m 14 #[.val (.int x0), .unset] [(.int (32 : Int32))]) _
      exact own_retI X0 hx hlk hret (hb hby d6_14) ⟨congrArg (fun z => some (Value.int z)) hr7.symm, N0, e0⟩ (Nat.le_refl _) (Nat.le_refl _)
    · have hr7 := hr2.trans (if_neg hc5)
      refine ownGo.st (fun _ k => XS.ifYes X0.here hx rfl (pc0 := 5) (pc' := 13) rfl (hb hby d6_5) rfl ((if0 _ _).trans (feq hc5).2) (by decide) (by decide) k) ?_
      show ownGo p.tables e below T0 (mkF m 13 #[.val (.int x0), .unset] []) _
      refine ownGo.st (fun _ k => XS.iconst X0.here hx rfl (hb hby d6_13)  k) ?_
      show ownGo p.tables e below T0 (mkF m 14 #[.val (.int x0), .unset] [(.int (0 : Int32))]) _
      exact own_retI X0 hx hlk hret (hb hby d6_14) ⟨congrArg (fun z => some (Value.int z)) hr7.symm, N0, e0⟩ (Nat.le_refl _) (Nat.le_refl _)
abbrev F6 (x0 : Int32) : Int32 := f6_0 x0
theorem pn_6 : plainName "java/lang/Integer" = true := by first | (simp [plainName, overriddenIn]; done) | decide +kernel
theorem ef_6 (m : MethodId) (x0 : Int32) : entryFrame m #[(.int x0)] 2 = mkF m 0 #[.val (.int x0), .unset] [] := by first | (simp [entryFrame, mkF, argsToLocals, Value.category]; done) | rfl
set_option maxRecDepth 65536 in
set_option maxHeartbeats 40000000 in
theorem rm6 (l : Launch) (Z : State) (a0 : Array Value) (hw : ∀ d ∈ tables_1, d.before a0 Z = true) (x0 : Int32) (h0 : Heap) (n0 : Nat)  :
    MetFree l (⟨"java/lang/Integer", "numberOfLeadingZeros", "(I)I"⟩ : MethodName) (head1 [Jvm.Cond.code (⟨"java/lang/Integer", "numberOfLeadingZeros", "(I)I"⟩ : MethodName) jdk_33_method_47_code 2 (some .int)] R6) (fun a U => a = #[(.int x0)] ∧ Z.Warmed39 U.vm ∧ U.heap = h0) (fun _ _ _ _ _ => True) (fun _ U o U' => ∃ v L, o = .returned v ∧ ownPure (.int (F6 x0)) h0 n0 v U'.heap L ∧ FrameEnd U o U' L R6.cells R6.slots) := by
  refine MetFree.of_bodySF (plainFor_of_name pn_6) hisR ?_
  intro p e s m args below meth c s₁ Bd hml0 hP hK
  obtain ⟨rfl, hZ, hh⟩ := hP
  have hx := Bd.exec
  have hby := Bd.bytes
  have hml : c.maxLocals = 2 := hml0
  have hown : s.vm.findClass "java/lang/Integer" = some m.cls := findClass_of_methodNamed Bd.named
  have hnm := (name_of_methodNamed Bd.named Bd.method).1
  have hret := Bd.returns
  have hlk : meth.locks = false := BodyLoose.notSynchronized Bd
  have X0 : Stand p l e R6 s m #[(.int x0)] below meth c s₁ [] 0 0 := Stand.of_body Bd
  have e0 : s₁.heap = h0 := by rw [← hh, Bd.state]; rfl
  have N0 := Fr.nil n0
  show ownGo p.tables e below s₁ (entryFrame m #[(.int x0)] 2) (ownDone s (ownPure (.int (F6 x0)) h0 n0) R6.cells R6.slots)
  rw [ef_6 m x0]
  exact b6_0 hx hZ hw hby hml hown hret hlk X0 e0 N0 x0 _ rfl
theorem d5_0 : decode jdk_35_method_48_code 0 = .ok (.lload_n 0, 1) := by decide +kernel
theorem d5_1 : decode jdk_35_method_48_code 1 = .ok (.bipush 32, 2) := by decide +kernel
theorem d5_3 : decode jdk_35_method_48_code 3 = .ok (.lushr, 1) := by decide +kernel
theorem d5_4 : decode jdk_35_method_48_code 4 = .ok (.l2i, 1) := by decide +kernel
theorem d5_5 : decode jdk_35_method_48_code 5 = .ok (.istore_n 2, 1) := by decide +kernel
theorem d5_6 : decode jdk_35_method_48_code 6 = .ok (.iload_n 2, 1) := by decide +kernel
theorem d5_7 : decode jdk_35_method_48_code 7 = .ok (.ifCond .ne 14, 3) := by decide +kernel
theorem d5_10 : decode jdk_35_method_48_code 10 = .ok (.bipush 32, 2) := by decide +kernel
theorem d5_12 : decode jdk_35_method_48_code 12 = .ok (.lload_n 0, 1) := by decide +kernel
theorem d5_13 : decode jdk_35_method_48_code 13 = .ok (.l2i, 1) := by decide +kernel
theorem d5_14 : decode jdk_35_method_48_code 14 = .ok (.invokestatic 308, 3) := by decide +kernel
theorem d5_17 : decode jdk_35_method_48_code 17 = .ok (.iadd, 1) := by decide +kernel
theorem d5_18 : decode jdk_35_method_48_code 18 = .ok (.goto 7, 3) := by decide +kernel
theorem d5_21 : decode jdk_35_method_48_code 21 = .ok (.iload_n 2, 1) := by decide +kernel
theorem d5_22 : decode jdk_35_method_48_code 22 = .ok (.invokestatic 308, 3) := by decide +kernel
theorem d5_25 : decode jdk_35_method_48_code 25 = .ok (.ireturn, 1) := by decide +kernel
theorem pd__I_I : parseMethodDescriptor "(I)I" = some ⟨[.int], some .int⟩ := by decide +kernel
abbrev R5 : Room := { frames := 1, cells := 0, slots := 0, locals := 14 }
def f5_0 (x0 : Int64) : Int32 := (if ((own_lushr x0 (32 : Int32)).toInt32) = (0 : Int32) then ((32 : Int32) + (F6 (x0.toInt32))) else (F6 ((own_lushr x0 (32 : Int32)).toInt32)))
set_option maxRecDepth 65536 in
set_option maxHeartbeats 40000000 in
theorem b5_0 {p : Program} {l : Launch} {e : Env} {s : State} {m : MethodId} {args : Array Value} {below : List Frame} {meth : Method} {c : Code} {T0 : State} {locs : List Loc} {Z : State} {a0 : Array Value} {h0 : Heap} {n0 : Nat} (hx : p.tables.exec = Jvm.exec) (hZ : Z.Warmed39 s.vm) (hw : ∀ d ∈ tables_1, d.before a0 Z = true) (hby : c.code = jdk_35_method_48_code) (hml : c.maxLocals = 3) (hown : s.vm.findClass "java/lang/Long" = some m.cls) (hret : meth.sig.returnType = (some .int)) (hlk : meth.locks = false) (X0 : Stand p l e R5 s m args below meth c T0 locs 0 0) (e0 : T0.heap = h0) (N0 : Fr n0 locs) (x0 : Int64) (r : Int32) (hr : r = f5_0 x0) :
    ownGo p.tables e below T0 (mkF m 0 #[.val (.long x0), .second, .unset] []) (ownDone s (ownPure (.int r) h0 n0) 0 0) := by
  have hr0 : r = (if ((own_lushr x0 (32 : Int32)).toInt32) = (0 : Int32) then ((32 : Int32) + (F6 (x0.toInt32))) else (F6 ((own_lushr x0 (32 : Int32)).toInt32))) := hr
  refine ownGo.st (fun _ k => XS.lloadN X0.here hx rfl (hb hby d5_0) rfl k) ?_
  show ownGo p.tables e below T0 (mkF m 1 #[.val (.long x0), .second, .unset] [(.long x0)]) _
  refine ownGo.st (fun _ k => XS.bipush X0.here hx rfl (hb hby d5_1)  k) ?_
  show ownGo p.tables e below T0 (mkF m 3 #[.val (.long x0), .second, .unset] [(.int (32 : Int32)), (.long x0)]) _
  refine ownGo.st (fun _ k => XS.lushr X0.here hx rfl (hb hby d5_3) rfl k) ?_
  show ownGo p.tables e below T0 (mkF m 4 #[.val (.long x0), .second, .unset] [(.long (own_lushr x0 (32 : Int32)))]) _
  refine ownGo.st (fun _ k => XS.l2i X0.here hx rfl (hb hby d5_4) rfl k) ?_
  show ownGo p.tables e below T0 (mkF m 5 #[.val (.long x0), .second, .unset] [(.int ((own_lushr x0 (32 : Int32)).toInt32))]) _
  refine ownGo.st (fun _ k => XS.istoreN X0.here hx rfl (hb hby d5_5) rfl (l' := #[.val (.long x0), .second, .val (.int ((own_lushr x0 (32 : Int32)).toInt32))]) rfl k) ?_
  show ownGo p.tables e below T0 (mkF m 6 #[.val (.long x0), .second, .val (.int ((own_lushr x0 (32 : Int32)).toInt32))] []) _
  refine ownGo.st (fun _ k => XS.iloadN X0.here hx rfl (hb hby d5_6) rfl k) ?_
  show ownGo p.tables e below T0 (mkF m 7 #[.val (.long x0), .second, .val (.int ((own_lushr x0 (32 : Int32)).toInt32))] [(.int ((own_lushr x0 (32 : Int32)).toInt32))]) _
  by_cases hc7 : ((own_lushr x0 (32 : Int32)).toInt32) = (0 : Int32)
  · have hr8 := hr0.trans (if_pos hc7)
    refine ownGo.st (fun _ k => XS.ifNo X0.here hx rfl (hb hby d5_7) rfl ((if0 _ _).trans (teq hc7).2) k) ?_
    show ownGo p.tables e below T0 (mkF m 10 #[.val (.long x0), .second, .val (.int ((own_lushr x0 (32 : Int32)).toInt32))] []) _
    refine ownGo.st (fun _ k => XS.bipush X0.here hx rfl (hb hby d5_10)  k) ?_
    show ownGo p.tables e below T0 (mkF m 12 #[.val (.long x0), .second, .val (.int ((own_lushr x0 (32 : Int32)).toInt32))] [(.int (32 : Int32))]) _
    refine ownGo.st (fun _ k => XS.lloadN X0.here hx rfl (hb hby d5_12) rfl k) ?_
    show ownGo p.tables e below T0 (mkF m 13 #[.val (.long x0), .second, .val (.int ((own_lushr x0 (32 : Int32)).toInt32))] [(.long x0), (.int (32 : Int32))]) _
    refine ownGo.st (fun _ k => XS.l2i X0.here hx rfl (hb hby d5_13) rfl k) ?_
    show ownGo p.tables e below T0 (mkF m 14 #[.val (.long x0), .second, .val (.int ((own_lushr x0 (32 : Int32)).toInt32))] [(.int (x0.toInt32)), (.int (32 : Int32))]) _
    obtain ⟨_, T9, L9, X9, hQ9, st9⟩ := own_callS X0 hx hZ hown (own_at hw 41 rfl) (own_at hw 42 rfl) (own_at hw 43 rfl) (own_at hw 44 rfl) (by decide) (rm6 l Z a0 hw (x0.toInt32) h0 n0) 1 (by decide) (by decide) e0 (by decide) (by decide) (g := (mkF m 14 #[.val (.long x0), .second, .val (.int ((own_lushr x0 (32 : Int32)).toInt32))] [(.int (x0.toInt32)), (.int (32 : Int32))])) rfl (by rw [hml]; rfl) (argsL := [(.int (x0.toInt32))]) (rest := [(.int (32 : Int32))]) (lenOf pd__I_I rfl) rfl (by show 2 * 0 + _ ≤ _; exact Nat.le_of_eq rfl) (hb hby d5_14)
    obtain ⟨rfl, N9q, e9⟩ := hQ9
    have N9 := Fr.app N0 N9q
    refine ownGo.st st9 ?_
    show ownGo p.tables e below T9 (mkF m 17 #[.val (.long x0), .second, .val (.int ((own_lushr x0 (32 : Int32)).toInt32))] [(.int (F6 (x0.toInt32))), (.int (32 : Int32))]) _
    refine ownGo.st (fun _ k => XS.iadd X9.here hx rfl (hb hby d5_17) rfl k) ?_
    show ownGo p.tables e below T9 (mkF m 18 #[.val (.long x0), .second, .val (.int ((own_lushr x0 (32 : Int32)).toInt32))] [(.int ((32 : Int32) + (F6 (x0.toInt32))))]) _
    refine ownGo.st (fun _ k => XS.goto X9.here hx rfl (pc0 := 18) (pc' := 25) rfl (hb hby d5_18) (by decide) (by decide) k) ?_
    show ownGo p.tables e below T9 (mkF m 25 #[.val (.long x0), .second, .val (.int ((own_lushr x0 (32 : Int32)).toInt32))] [(.int ((32 : Int32) + (F6 (x0.toInt32))))]) _
    exact own_retI X9 hx hlk hret (hb hby d5_25) ⟨congrArg (fun z => some (Value.int z)) hr8.symm, N9, e9⟩ (Nat.le_refl _) (Nat.le_refl _)
  · have hr8 := hr0.trans (if_neg hc7)
    refine ownGo.st (fun _ k => XS.ifYes X0.here hx rfl (pc0 := 7) (pc' := 21) rfl (hb hby d5_7) rfl ((if0 _ _).trans (feq hc7).2) (by decide) (by decide) k) ?_
    show ownGo p.tables e below T0 (mkF m 21 #[.val (.long x0), .second, .val (.int ((own_lushr x0 (32 : Int32)).toInt32))] []) _
    refine ownGo.st (fun _ k => XS.iloadN X0.here hx rfl (hb hby d5_21) rfl k) ?_
    show ownGo p.tables e below T0 (mkF m 22 #[.val (.long x0), .second, .val (.int ((own_lushr x0 (32 : Int32)).toInt32))] [(.int ((own_lushr x0 (32 : Int32)).toInt32))]) _
    obtain ⟨_, T10, L10, X10, hQ10, st10⟩ := own_callS X0 hx hZ hown (own_at hw 41 rfl) (own_at hw 42 rfl) (own_at hw 43 rfl) (own_at hw 44 rfl) (by decide) (rm6 l Z a0 hw ((own_lushr x0 (32 : Int32)).toInt32) h0 n0) 0 (by decide) (by decide) e0 (by decide) (by decide) (g := (mkF m 22 #[.val (.long x0), .second, .val (.int ((own_lushr x0 (32 : Int32)).toInt32))] [(.int ((own_lushr x0 (32 : Int32)).toInt32))])) rfl (by rw [hml]; rfl) (argsL := [(.int ((own_lushr x0 (32 : Int32)).toInt32))]) (rest := []) (lenOf pd__I_I rfl) rfl (by show 2 * 0 + _ ≤ _; exact Nat.le_of_eq rfl) (hb hby d5_22)
    obtain ⟨rfl, N10q, e10⟩ := hQ10
    have N10 := Fr.app N0 N10q
    refine ownGo.st st10 ?_
    show ownGo p.tables e below T10 (mkF m 25 #[.val (.long x0), .second, .val (.int ((own_lushr x0 (32 : Int32)).toInt32))] [(.int (F6 ((own_lushr x0 (32 : Int32)).toInt32)))]) _
    exact own_retI X10 hx hlk hret (hb hby d5_25) ⟨congrArg (fun z => some (Value.int z)) hr8.symm, N10, e10⟩ (Nat.le_refl _) (Nat.le_refl _)
abbrev F5 (x0 : Int64) : Int32 := f5_0 x0
theorem pn_5 : plainName "java/lang/Long" = true := by first | (simp [plainName, overriddenIn]; done) | decide +kernel
theorem ef_5 (m : MethodId) (x0 : Int64) : entryFrame m #[(.long x0)] 3 = mkF m 0 #[.val (.long x0), .second, .unset] [] := by first | (simp [entryFrame, mkF, argsToLocals, Value.category]; done) | rfl
set_option maxRecDepth 65536 in
set_option maxHeartbeats 40000000 in
theorem rm5 (l : Launch) (Z : State) (a0 : Array Value) (hw : ∀ d ∈ tables_1, d.before a0 Z = true) (x0 : Int64) (h0 : Heap) (n0 : Nat)  :
    MetFree l (⟨"java/lang/Long", "numberOfLeadingZeros", "(J)I"⟩ : MethodName) (head1 [Jvm.Cond.code (⟨"java/lang/Long", "numberOfLeadingZeros", "(J)I"⟩ : MethodName) jdk_35_method_48_code 3 (some .int)] R5) (fun a U => a = #[(.long x0)] ∧ Z.Warmed39 U.vm ∧ U.heap = h0) (fun _ _ _ _ _ => True) (fun _ U o U' => ∃ v L, o = .returned v ∧ ownPure (.int (F5 x0)) h0 n0 v U'.heap L ∧ FrameEnd U o U' L R5.cells R5.slots) := by
  refine MetFree.of_bodySF (plainFor_of_name pn_5) hisR ?_
  intro p e s m args below meth c s₁ Bd hml0 hP hK
  obtain ⟨rfl, hZ, hh⟩ := hP
  have hx := Bd.exec
  have hby := Bd.bytes
  have hml : c.maxLocals = 3 := hml0
  have hown : s.vm.findClass "java/lang/Long" = some m.cls := findClass_of_methodNamed Bd.named
  have hnm := (name_of_methodNamed Bd.named Bd.method).1
  have hret := Bd.returns
  have hlk : meth.locks = false := BodyLoose.notSynchronized Bd
  have X0 : Stand p l e R5 s m #[(.long x0)] below meth c s₁ [] 0 0 := Stand.of_body Bd
  have e0 : s₁.heap = h0 := by rw [← hh, Bd.state]; rfl
  have N0 := Fr.nil n0
  show ownGo p.tables e below s₁ (entryFrame m #[(.long x0)] 3) (ownDone s (ownPure (.int (F5 x0)) h0 n0) R5.cells R5.slots)
  rw [ef_5 m x0]
  exact b5_0 hx hZ hw hby hml hown hret hlk X0 e0 N0 x0 _ rfl
theorem d2_0 : decode jdk_29_method_65_code 0 = .ok (.iload_n 0, 1) := by decide +kernel
theorem d2_1 : decode jdk_29_method_65_code 1 = .ok (.iload_n 1, 1) := by decide +kernel
theorem d2_2 : decode jdk_29_method_65_code 2 = .ok (.if_icmp .lt 7, 3) := by decide +kernel
theorem d2_5 : decode jdk_29_method_65_code 5 = .ok (.iload_n 0, 1) := by decide +kernel
theorem d2_6 : decode jdk_29_method_65_code 6 = .ok (.goto 4, 3) := by decide +kernel
theorem d2_9 : decode jdk_29_method_65_code 9 = .ok (.iload_n 1, 1) := by decide +kernel
theorem d2_10 : decode jdk_29_method_65_code 10 = .ok (.ireturn, 1) := by decide +kernel
abbrev R2 : Room := { frames := 0, cells := 0, slots := 0, locals := 0 }
def f2_0 (x0 : Int32) (x1 : Int32) : Int32 := (if x0 < x1 then x1 else x0)
set_option maxRecDepth 65536 in
set_option maxHeartbeats 40000000 in
theorem b2_0 {p : Program} {l : Launch} {e : Env} {s : State} {m : MethodId} {args : Array Value} {below : List Frame} {meth : Method} {c : Code} {T0 : State} {locs : List Loc} {Z : State} {a0 : Array Value} {h0 : Heap} {n0 : Nat} (hx : p.tables.exec = Jvm.exec) (hZ : Z.Warmed39 s.vm) (hw : ∀ d ∈ tables_1, d.before a0 Z = true) (hby : c.code = jdk_29_method_65_code) (hml : c.maxLocals = 2) (hown : s.vm.findClass "java/lang/Math" = some m.cls) (hret : meth.sig.returnType = (some .int)) (hlk : meth.locks = false) (X0 : Stand p l e R2 s m args below meth c T0 locs 0 0) (e0 : T0.heap = h0) (N0 : Fr n0 locs) (x0 : Int32) (x1 : Int32) (r : Int32) (hr : r = f2_0 x0 x1) :
    ownGo p.tables e below T0 (mkF m 0 #[.val (.int x0), .val (.int x1)] []) (ownDone s (ownPure (.int r) h0 n0) 0 0) := by
  have hr0 : r = (if x0 < x1 then x1 else x0) := hr
  refine ownGo.st (fun _ k => XS.iloadN X0.here hx rfl (hb hby d2_0) rfl k) ?_
  show ownGo p.tables e below T0 (mkF m 1 #[.val (.int x0), .val (.int x1)] [(.int x0)]) _
  refine ownGo.st (fun _ k => XS.iloadN X0.here hx rfl (hb hby d2_1) rfl k) ?_
  show ownGo p.tables e below T0 (mkF m 2 #[.val (.int x0), .val (.int x1)] [(.int x1), (.int x0)]) _
  by_cases hc2 : x0 < x1
  · have hr11 := hr0.trans (if_pos hc2)
    refine ownGo.st (fun _ k => XS.icmpYes X0.here hx rfl (pc0 := 2) (pc' := 9) rfl (hb hby d2_2) rfl (tlt hc2).1 (by decide) (by decide) k) ?_
    show ownGo p.tables e below T0 (mkF m 9 #[.val (.int x0), .val (.int x1)] []) _
    refine ownGo.st (fun _ k => XS.iloadN X0.here hx rfl (hb hby d2_9) rfl k) ?_
    show ownGo p.tables e below T0 (mkF m 10 #[.val (.int x0), .val (.int x1)] [(.int x1)]) _
    exact own_retI X0 hx hlk hret (hb hby d2_10) ⟨congrArg (fun z => some (Value.int z)) hr11.symm, N0, e0⟩ (Nat.le_refl _) (Nat.le_refl _)
  · have hr11 := hr0.trans (if_neg hc2)
    refine ownGo.st (fun _ k => XS.icmpNo X0.here hx rfl (hb hby d2_2) rfl (flt hc2).1 k) ?_
    show ownGo p.tables e below T0 (mkF m 5 #[.val (.int x0), .val (.int x1)] []) _
    refine ownGo.st (fun _ k => XS.iloadN X0.here hx rfl (hb hby d2_5) rfl k) ?_
    show ownGo p.tables e below T0 (mkF m 6 #[.val (.int x0), .val (.int x1)] [(.int x0)]) _
    refine ownGo.st (fun _ k => XS.goto X0.here hx rfl (pc0 := 6) (pc' := 10) rfl (hb hby d2_6) (by decide) (by decide) k) ?_
    show ownGo p.tables e below T0 (mkF m 10 #[.val (.int x0), .val (.int x1)] [(.int x0)]) _
    exact own_retI X0 hx hlk hret (hb hby d2_10) ⟨congrArg (fun z => some (Value.int z)) hr11.symm, N0, e0⟩ (Nat.le_refl _) (Nat.le_refl _)
abbrev F2 (x0 : Int32) (x1 : Int32) : Int32 := f2_0 x0 x1
theorem ef_2 (m : MethodId) (x0 : Int32) (x1 : Int32) : entryFrame m #[(.int x0), (.int x1)] 2 = mkF m 0 #[.val (.int x0), .val (.int x1)] [] := by first | (simp [entryFrame, mkF, argsToLocals, Value.category]; done) | rfl
set_option maxRecDepth 65536 in
set_option maxHeartbeats 40000000 in
theorem rm2 (l : Launch) (Z : State) (a0 : Array Value) (hw : ∀ d ∈ tables_1, d.before a0 Z = true) (x0 : Int32) (x1 : Int32) (h0 : Heap) (n0 : Nat)  :
    MetFree l (⟨"java/lang/Math", "max", "(II)I"⟩ : MethodName) (head1 [Jvm.Cond.code (⟨"java/lang/Math", "max", "(II)I"⟩ : MethodName) jdk_29_method_65_code 2 (some .int)] R2) (fun a U => a = #[(.int x0), (.int x1)] ∧ Z.Warmed39 U.vm ∧ U.heap = h0) (fun _ _ _ _ _ => True) (fun _ U o U' => ∃ v L, o = .returned v ∧ ownPure (.int (F2 x0 x1)) h0 n0 v U'.heap L ∧ FrameEnd U o U' L R2.cells R2.slots) := by
  refine MetFree.of_bodySF (Jvm.Free.JP.mathPlain rfl (by decide +kernel)) hisR ?_
  intro p e s m args below meth c s₁ Bd hml0 hP hK
  obtain ⟨rfl, hZ, hh⟩ := hP
  have hx := Bd.exec
  have hby := Bd.bytes
  have hml : c.maxLocals = 2 := hml0
  have hown : s.vm.findClass "java/lang/Math" = some m.cls := findClass_of_methodNamed Bd.named
  have hnm := (name_of_methodNamed Bd.named Bd.method).1
  have hret := Bd.returns
  have hlk : meth.locks = false := BodyLoose.notSynchronized Bd
  have X0 : Stand p l e R2 s m #[(.int x0), (.int x1)] below meth c s₁ [] 0 0 := Stand.of_body Bd
  have e0 : s₁.heap = h0 := by rw [← hh, Bd.state]; rfl
  have N0 := Fr.nil n0
  show ownGo p.tables e below s₁ (entryFrame m #[(.int x0), (.int x1)] 2) (ownDone s (ownPure (.int (F2 x0 x1)) h0 n0) R2.cells R2.slots)
  rw [ef_2 m x0 x1]
  exact b2_0 hx hZ hw hby hml hown hret hlk X0 e0 N0 x0 x1 _ rfl
theorem own_ush (x : Int32) (q : Int32) (k : Nat) (hk : q.toBitVec.toNat % 32 = k) (h0 : 0 < k) (hx : 0 ≤ x.toInt) : (own_iushr x q).toInt = x.toInt / (2 ^ k : Nat) := by
  have e := c_iushr x q k hk h0
  have r := x.toInt_lt
  rw [e, Int.emod_eq_of_lt hx (by omega)]
theorem own_z73 (x n : Int32) (k : Nat) (hk : k < 2) (h1 : ((2 ^ k : Nat) : Int) ≤ x.toInt) (h2 : x.toInt < ((2 ^ (k + 1) : Nat) : Int)) : f6_73 x n = n - Int32.ofNat k := by
  have e := own_ush x 1 1 (by decide) (by decide) (by omega)
  have q : own_iushr x (1 : Int32) = Int32.ofNat k := by
    apply Int32.toInt_inj.mp
    rw [e, Int32.toInt_ofNat_of_lt (by omega)]
    have z : k = 0 ∨ k = 1 := by omega
    rcases z with rfl | rfl
    · simp at h1 h2; omega
    · simp at h1 h2; omega
  show n - own_iushr x (1 : Int32) = _
  rw [q]
theorem own_pow (k j : Nat) : (2 ^ (j + k) : Nat) = 2 ^ j * 2 ^ k := Nat.pow_add 2 j k
theorem own_lit {c : Int32} {z : Int} (h : c.toInt = z) (x : Int32) : x < c ↔ x.toInt < z := by rw [Int32.lt_iff_toInt_lt, h]
theorem own_subk (n : Int32) (k s : Nat) (c : Int32) (hc : c = -Int32.ofNat s) (h : s ≤ k) : (n + c) - Int32.ofNat (k - s) = n - Int32.ofNat k := by
  have e : Int32.ofNat k = Int32.ofNat (k - s) + Int32.ofNat s := by rw [← Int32.ofNat_add]; congr 1; omega
  rw [hc, e, ← Int32.sub_eq_add_neg]
  rw [Int32.sub_eq_add_neg, Int32.sub_eq_add_neg, Int32.sub_eq_add_neg, Int32.neg_add, Int32.add_assoc, Int32.add_comm (-Int32.ofNat s), Int32.sub_eq_add_neg]
theorem own_zs {f g : Int32 → Int32 → Int32} (s : Nat) (hs : 0 < s) (hs' : s ≤ 16) (B : Int32) (hB : B.toInt = ((2 ^ s : Nat) : Int)) (sh c : Int32) (hsh : sh.toBitVec.toNat % 32 = s) (hc : c = -Int32.ofNat s) (K : Nat) (hK : K ≤ s)
    (hg : ∀ (x n : Int32) (k : Nat), k < s → ((2 ^ k : Nat) : Int) ≤ x.toInt → x.toInt < ((2 ^ (k + 1) : Nat) : Int) → g x n = n - Int32.ofNat k) (hf : ∀ x n, f x n = if x < B then g x n else g (own_iushr x sh) (n + c))
    (x n : Int32) (k : Nat) (hk : k < s + K) (h1 : ((2 ^ k : Nat) : Int) ≤ x.toInt) (h2 : x.toInt < ((2 ^ (k + 1) : Nat) : Int)) : f x n = n - Int32.ofNat k := by
  have hp : (0 : Int) < ((2 ^ k : Nat) : Int) := by exact_mod_cast Nat.two_pow_pos k
  rw [hf]
  by_cases q : k < s
  · have : (2 ^ (k + 1) : Nat) ≤ 2 ^ s := Nat.pow_le_pow_right (by decide) (by omega)
    rw [if_pos ((own_lit hB x).mpr (by omega))]
    exact hg x n k q h1 h2
  · have : (2 ^ s : Nat) ≤ 2 ^ k := Nat.pow_le_pow_right (by decide) (by omega)
    rw [if_neg (fun z => by have := (own_lit hB x).mp z; omega)]
    have e := own_ush x sh s hsh hs (by omega)
    obtain ⟨j, rfl⟩ : ∃ j, k = j + s := ⟨k - s, by omega⟩
    have p1 := own_pow s j
    have p2 : (2 ^ (j + s + 1) : Nat) = 2 ^ (j + 1) * 2 ^ s := by rw [show j + s + 1 = (j + 1) + s by omega, own_pow]
    have ps : (0 : Int) < ((2 ^ s : Nat) : Int) := by exact_mod_cast Nat.two_pow_pos s
    rw [hg (own_iushr x sh) (n + c) j (by omega) ?_ ?_]
    · have := own_subk n (j + s) s c hc (by omega)
      rw [show j + s - s = j by omega] at this
      exact this
    · rw [e]
      apply Int.le_ediv_of_mul_le ps
      rw [p1] at h1
      exact_mod_cast h1
    · rw [e]
      apply Int.ediv_lt_of_lt_mul ps
      rw [p2] at h2
      exact_mod_cast h2
theorem own_z61 (x n : Int32) (k : Nat) (hk : k < 4) (h1 : ((2 ^ k : Nat) : Int) ≤ x.toInt) (h2 : x.toInt < ((2 ^ (k + 1) : Nat) : Int)) : f6_61 x n = n - Int32.ofNat k :=
  own_zs 2 (by decide) (by decide) 4 rfl 2 (-2) (by decide) (by decide) 2 (by decide) own_z73 (fun _ _ => rfl) x n k hk h1 h2
theorem own_z48 (x n : Int32) (k : Nat) (hk : k < 8) (h1 : ((2 ^ k : Nat) : Int) ≤ x.toInt) (h2 : x.toInt < ((2 ^ (k + 1) : Nat) : Int)) : f6_48 x n = n - Int32.ofNat k :=
  own_zs 4 (by decide) (by decide) 16 rfl 4 (-4) (by decide) (by decide) 4 (by decide) own_z61 (fun _ _ => rfl) x n k hk h1 h2
theorem own_z33 (x n : Int32) (k : Nat) (hk : k < 16) (h1 : ((2 ^ k : Nat) : Int) ≤ x.toInt) (h2 : x.toInt < ((2 ^ (k + 1) : Nat) : Int)) : f6_33 x n = n - Int32.ofNat k :=
  own_zs 8 (by decide) (by decide) 256 rfl 8 (-8) (by decide) (by decide) 8 (by decide) own_z48 (fun _ _ => rfl) x n k hk h1 h2
theorem own_z0 (x : Int32) (k : Nat) (hk : k < 31) (h1 : ((2 ^ k : Nat) : Int) ≤ x.toInt) (h2 : x.toInt < ((2 ^ (k + 1) : Nat) : Int)) : F6 x = (31 : Int32) - Int32.ofNat k := by
  have hp : (0 : Int) < ((2 ^ k : Nat) : Int) := by exact_mod_cast Nat.two_pow_pos k
  have q : F6 x = (if x < (65536 : Int32) then (f6_33 x (31 : Int32)) else (f6_33 (own_iushr x (16 : Int32)) ((31 : Int32) + (-16 : Int32)))) := if_pos (by rw [Int32.lt_iff_toInt_lt, show (0 : Int32).toInt = 0 from rfl]; omega)
  rw [q]
  exact own_zs (f := fun x n => if x < (65536 : Int32) then f6_33 x n else f6_33 (own_iushr x (16 : Int32)) (n + (-16 : Int32))) 16 (by decide) (by decide) 65536 rfl 16 (-16) (by decide) (by decide) 16 (by decide) own_z33 (fun _ _ => rfl) x 31 k (by omega) h1 h2
/-- kb is the number of bits of v, 0 to 32 -/
def ownBits (v : Int) (kb : Nat) : Prop := (v = 0 ∧ kb = 0) ∨ (1 ≤ kb ∧ kb ≤ 32 ∧ ((2 ^ (kb - 1) : Nat) : Int) ≤ v ∧ v < ((2 ^ kb : Nat) : Int))
theorem ownBits.rng {v : Int} {kb : Nat} (h : ownBits v kb) : 0 ≤ v ∧ v < 4294967296 ∧ kb ≤ 32 ∧ v < ((2 ^ kb : Nat) : Int) := by
  rcases h with ⟨rfl, rfl⟩ | ⟨h1, h2, h3, h4⟩
  · simp
  · have : (2 ^ kb : Nat) ≤ 2 ^ 32 := Nat.pow_le_pow_right (by decide) h2
    have h0 : (0 : Int) ≤ ((2 ^ (kb - 1) : Nat) : Int) := Int.natCast_nonneg _
    refine ⟨?_, ?_, h2, h4⟩ <;> omega
theorem own_hi0 (v : Int64) (h0 : 0 ≤ v.toInt) (h1 : v.toInt < 4294967296) : (own_lushr v (32 : Int32)).toInt32 = (0 : Int32) := by
  have e := c_lushr v 32 32 (by decide) (by decide)
  have q : own_lushr v (32 : Int32) = 0 := by
    apply Int64.toInt_inj.mp
    rw [e, Int.emod_eq_of_lt h0 (by omega), show (0 : Int64).toInt = 0 from rfl]
    exact Int.ediv_eq_zero_of_lt h0 (by rw [show ((2 ^ 32 : Nat) : Int) = 4294967296 from rfl]; exact h1)
  rw [q]; rfl
theorem own_nlz (v : Int64) (kb : Nat) (h : ownBits v.toInt kb) : (64 : Int32) - F5 v = Int32.ofNat kb := by
  have r := h.rng
  have q : F5 v = (32 : Int32) + F6 v.toInt32 := if_pos (own_hi0 v r.1 r.2.1)
  have ci := c_l2i v
  have r3 := v.toInt32.toInt_lt
  have r4 := v.toInt32.le_toInt
  rw [q]
  rcases h with ⟨h1, rfl⟩ | ⟨h1, h2, h3, h4⟩
  · have : v.toInt32 = 0 := by apply Int32.toInt_inj.mp; rw [show (0 : Int32).toInt = 0 from rfl]; omega
    rw [this]; rfl
  · by_cases z : kb = 32
    · subst z
      have e : F6 v.toInt32 = 0 := by
        have g1 : ¬ (0 : Int32) < v.toInt32 := by rw [Int32.lt_iff_toInt_lt, show (0 : Int32).toInt = 0 from rfl]; simp at h3 h4; omega
        have g2 : ¬ v.toInt32 = (0 : Int32) := fun z => by rw [z, show (0 : Int32).toInt = 0 from rfl] at ci; simp at h3 h4; omega
        exact (if_neg g1).trans (if_neg g2)
      rw [e]; rfl
    · have p : (2 ^ kb : Nat) ≤ 2 ^ 31 := Nat.pow_le_pow_right (by decide) (by omega)
      have hp : (0 : Int) < ((2 ^ (kb - 1) : Nat) : Int) := by exact_mod_cast Nat.two_pow_pos _
      have e : v.toInt32.toInt = v.toInt := by omega
      rw [own_z0 v.toInt32 (kb - 1) (by omega) (by rw [e]; exact h3) (by rw [e, show kb - 1 + 1 = kb by omega]; exact h4)]
      apply Int32.toInt_inj.mp
      have e1 := c_isub 31 (Int32.ofNat (kb - 1))
      have e2 := c_iadd 32 (31 - Int32.ofNat (kb - 1))
      have e3 := c_isub 64 (32 + (31 - Int32.ofNat (kb - 1)))
      have r5 := ((64 : Int32) - (32 + (31 - Int32.ofNat (kb - 1)))).toInt_lt
      have r6 := ((64 : Int32) - (32 + (31 - Int32.ofNat (kb - 1)))).le_toInt
      rw [Int32.toInt_ofNat_of_lt (by omega)] at *
      rw [show (31 : Int32).toInt = 31 from rfl] at e1
      rw [show (32 : Int32).toInt = 32 from rfl] at e2
      rw [show (64 : Int32).toInt = 64 from rfl] at e3
      omega
theorem own_bits_ex (v : Int) (h0 : 0 ≤ v) (h1 : v < 4294967296) : ∃ kb, ownBits v kb := by
  by_cases z : v = 0
  · exact ⟨0, Or.inl ⟨z, rfl⟩⟩
  · have e : ((v.toNat : Nat) : Int) = v := Int.toNat_of_nonneg h0
    have nz : v.toNat ≠ 0 := by omega
    have a1 := Nat.log2_self_le nz
    have a2 := Nat.lt_log2_self (n := v.toNat)
    have lt : v.toNat.log2 < 32 := (Nat.log2_lt nz).mpr (by omega)
    refine ⟨v.toNat.log2 + 1, Or.inr ⟨by omega, by omega, ?_, ?_⟩⟩
    · rw [Nat.add_sub_cancel, ← e]; exact_mod_cast a1
    · rw [← e]; exact_mod_cast a2
/-- the mask of k bits, as the layout reckons it -/
def own_mk (k : Nat) : Int64 := (own_lshl (1 : Int64) (Int32.ofNat k)) - (1 : Int64)
theorem own_k63 (k : Nat) (hk : k < 64) : ((Int32.ofNat k) &&& 0x3f).toInt64.toBitVec = BitVec.ofNat 64 k := by
  have h : ∀ k : Fin 64, ((Int32.ofNat k.1) &&& 0x3f).toInt64.toBitVec = BitVec.ofNat 64 k.1 := by decide +kernel
  exact h ⟨k, hk⟩
theorem own_smod (k : Nat) (hk : k < 64) : ((BitVec.ofNat 64 k).smod 64).toNat = k := by
  have h : ∀ k : Fin 64, ((BitVec.ofNat 64 k.1).smod 64).toNat = k.1 := by decide +kernel
  exact h ⟨k, hk⟩
theorem own_lshl_bv (x : Int64) (k : Nat) (hk : k < 64) : (own_lshl x (Int32.ofNat k)).toBitVec = x.toBitVec <<< k := by
  show (x <<< ((Int32.ofNat k) &&& 0x3f).toInt64).toBitVec = _
  rw [Int64.toBitVec_shiftLeft, own_k63 k hk, BitVec.shiftLeft_eq', own_smod k hk]
theorem own_lushr_bv' (x : Int64) (k : Nat) (hk : k < 64) : (own_lushr x (Int32.ofNat k)).toBitVec = x.toBitVec >>> k := by
  show (x.toUInt64 >>> ((Int32.ofNat k) &&& 0x3f).toInt64.toUInt64).toInt64.toBitVec = _
  have e : ((Int32.ofNat k) &&& 0x3f).toInt64.toUInt64.toBitVec = BitVec.ofNat 64 k := own_k63 k hk
  have e2 : (x.toUInt64 >>> ((Int32.ofNat k) &&& 0x3f).toInt64.toUInt64).toInt64.toBitVec = (x.toUInt64 >>> ((Int32.ofNat k) &&& 0x3f).toInt64.toUInt64).toBitVec := rfl
  rw [e2, UInt64.toBitVec_shiftRight, e]
  have e3 : (BitVec.ofNat 64 k % 64).toNat = k := by
    rw [BitVec.toNat_umod, BitVec.toNat_ofNat]; show k % 2 ^ 64 % 64 = k; omega
  rw [BitVec.ushiftRight_eq', e3]
  rfl
theorem own_mk_nat (k : Nat) (hk : k < 64) : (own_mk k).toBitVec.toNat = 2 ^ k - 1 := by
  have p1 : 0 < 2 ^ k := Nat.two_pow_pos k
  have p2 : 2 ^ k < 2 ^ 64 := Nat.pow_lt_pow_right (by decide) hk
  rw [own_mk, Int64.toBitVec_sub, own_lshl_bv 1 k hk]
  have e : ((1 : Int64).toBitVec <<< k).toNat = 2 ^ k := by
    rw [BitVec.toNat_shiftLeft, show (1 : Int64).toBitVec.toNat = 1 from rfl, Nat.shiftLeft_eq, Nat.one_mul, Nat.mod_eq_of_lt p2]
  rw [BitVec.toNat_sub, e, show (1 : Int64).toBitVec.toNat = 1 from rfl]
  omega
theorem own_mk_bit (k : Nat) (hk : k < 64) (j : Nat) : (own_mk k).toBitVec.getLsbD j = decide (j < k) := by
  rw [← BitVec.testBit_toNat, own_mk_nat k hk, Nat.testBit_two_pow_sub_one]
/-- v as a word of 64 bits, where v is not negative -/
theorem own_tonat (v : Int64) (h : 0 ≤ v.toInt) : ((v.toBitVec.toNat : Nat) : Int) = v.toInt := by
  have e : v.toInt = v.toBitVec.toInt := rfl
  have := v.toBitVec.isLt
  rw [e, BitVec.toInt_eq_toNat_cond] at h
  rw [e, BitVec.toInt_eq_toNat_cond]
  split at h <;> rename_i z
  · rw [if_pos z]
  · omega
def own_al (off kb : Nat) : Nat := if off % 64 + kb ≤ 64 then off else off + (64 - off % 64)
/-- how many bits the first i variables take, with what alignment leaves out -/
def own_off (kb : Nat → Nat) : Nat → Nat
  | 0 => 0
  | i + 1 => own_al (own_off kb i) (kb i) + kb i
def own_st (kb : Nat → Nat) (i : Nat) : Nat := own_al (own_off kb i) (kb i)
def own_wds (kb : Nat → Nat) (n : Nat) : Nat := if (own_off kb n + 63) / 64 ≤ 1 then 1 else (own_off kb n + 63) / 64
theorem own_al_le (off kb : Nat) : off ≤ own_al off kb ∧ own_al off kb ≤ off + 64 := by unfold own_al; split <;> omega
theorem own_off_le (kb : Nat → Nat) (n : Nat) (h : ∀ i, i < n → kb i ≤ 32) : ∀ i, i ≤ n → own_off kb i ≤ 96 * i
  | 0, _ => Nat.le_refl _
  | i + 1, hi => by
    have q := own_off_le kb n h i (by omega)
    have q2 := own_al_le (own_off kb i) (kb i)
    have q3 := h i (by omega)
    show own_al (own_off kb i) (kb i) + kb i ≤ _
    omega
theorem own_i32 {a : Nat} (h : a < 2147483648) : (Int32.ofNat a).toInt = a := Int32.toInt_ofNat_of_lt h
theorem own_rem64 {a : Nat} (h : a < 2147483648) : Int32.ofNat a % (64 : Int32) = Int32.ofNat (a % 64) := by
  apply Int32.toInt_inj.mp
  rw [(c_irem (Int32.ofNat a) 64 64 rfl).1 (by rw [own_i32 h]; omega), own_i32 h, own_i32 (by omega)]
  omega
theorem own_div64 {a : Nat} (h : a < 2147483648) : Int32.ofNat a / (64 : Int32) = Int32.ofNat (a / 64) := by
  apply Int32.toInt_inj.mp
  rw [(c_idiv (Int32.ofNat a) 64 64 rfl (by decide)).1 (by rw [own_i32 h]; omega), own_i32 h, own_i32 (by omega)]
  omega
theorem own_add {a b : Nat} : Int32.ofNat a + Int32.ofNat b = Int32.ofNat (a + b) := (Int32.ofNat_add a b).symm
theorem own_sub {a b : Nat} (q : b ≤ a) (hb : a < 2147483648) : Int32.ofNat a - Int32.ofNat b = Int32.ofNat (a - b) := by
  apply Int32.toInt_inj.mp
  have e := c_isub (Int32.ofNat a) (Int32.ofNat b)
  have r := (Int32.ofNat a - Int32.ofNat b).toInt_lt
  have r' := (Int32.ofNat a - Int32.ofNat b).le_toInt
  rw [own_i32 (by omega), own_i32 (by omega)] at e
  rw [own_i32 (by omega)]
  omega
theorem own_lt_iff {a b : Nat} (ha : a < 2147483648) (hb : b < 2147483648) : Int32.ofNat a < Int32.ofNat b ↔ a < b := by
  rw [Int32.lt_iff_toInt_lt, own_i32 ha, own_i32 hb]; omega
theorem own_eq_iff {a b : Nat} (ha : a < 2147483648) (hb : b < 2147483648) : Int32.ofNat a = Int32.ofNat b ↔ a = b := by
  rw [← Int32.toInt_inj, own_i32 ha, own_i32 hb]; omega
def ownTwo (s5 s6 : Slot) : Prop := (s5 = .unset ∧ s6 = .unset) ∨ ∃ z : Int64, s5 = .val (.long z) ∧ s6 = .second
theorem own_os5 {x0 x1 x2 : Addr} {o i : Int32} {v : Int64} {s5 s6 s7 : Slot} (q : ownTwo s5 s6) : storeLocals #[.val (.ref x0), .val (.ref x1), .val (.ref x2), .val (.int o), .val (.int i), s5, s6, s7] 5 (.long v) = some #[.val (.ref x0), .val (.ref x1), .val (.ref x2), .val (.int o), .val (.int i), .val (.long v), .second, s7] := by
  rcases q with ⟨rfl, rfl⟩ | ⟨z, rfl, rfl⟩ <;> rfl
theorem own_os7 {x0 x1 x2 : Addr} {o i v : Int32} {z : Int64} {s7 : Slot} (q : One s7) : storeLocals #[.val (.ref x0), .val (.ref x1), .val (.ref x2), .val (.int o), .val (.int i), .val (.long z), .second, s7] 7 (.int v) = some #[.val (.ref x0), .val (.ref x1), .val (.ref x2), .val (.int o), .val (.int i), .val (.long z), .second, .val (.int v)] := by
  rcases q with rfl | ⟨w, rfl, hw⟩
  · rfl
  · cases w <;> first | rfl | (simp [Value.category] at hw)
theorem own_upto {f : Nat → Value} {g : Nat → Value} {i : Nat} (h : ∀ j, j < i → f j = g j) : ∀ j, j < i + 1 → own_up f i (g i) j = g j := fun j hj => by
  by_cases q : j = i
  · subst q; exact own_up_hit
  · rw [own_up_miss q]; exact h j (by omega)
def ownLay (Z : State) (h : Heap) (A B o : Addr) (n : Nat) (lo : Nat → Int32) (kb : Nat → Nat) : Prop :=
  (A ≤ o ∧ o < B) ∧ Exa Z h o "com/example/ningbo/ningbo/engine/StateLayout" ∧ Fld Z h o "com/example/ningbo/ningbo/engine/StateLayout" "width" "I" (.int (Int32.ofNat n)) ∧ Fld Z h o "com/example/ningbo/ningbo/engine/StateLayout" "words" "I" (.int (Int32.ofNat (own_wds kb n))) ∧ ∃ lb w s k : Addr,
    (A ≤ lb ∧ lb < B) ∧ (A ≤ w ∧ w < B) ∧ (A ≤ s ∧ s < B) ∧ (A ≤ k ∧ k < B) ∧ Fld Z h o "com/example/ningbo/ningbo/engine/StateLayout" "lowerBounds" "[I" (.ref lb) ∧ Fld Z h o "com/example/ningbo/ningbo/engine/StateLayout" "wordOf" "[I" (.ref w) ∧ Fld Z h o "com/example/ningbo/ningbo/engine/StateLayout" "shiftOf" "[I" (.ref s) ∧ Fld Z h o "com/example/ningbo/ningbo/engine/StateLayout" "maskOf" "[J" (.ref k) ∧
    ownA Z h lb .int n (fun i => .int (lo i)) ∧ ownA Z h w .int n (fun i => .int (Int32.ofNat (own_st kb i / 64))) ∧ ownA Z h s .int n (fun i => .int (Int32.ofNat (own_st kb i % 64))) ∧ ownA Z h k .long n (fun i => .long (own_mk (kb i)))
theorem own_far {A B x t : Nat} (q : A ≤ x ∧ x < B) (r : t < A ∨ B ≤ t) : x ≠ t := by omega
theorem ownLay.keep {Z : State} {h h' : Heap} {A B o : Addr} {n : Nat} {lo : Nat → Int32} {kb : Nat → Nat} {ws : List Addr} (Y : ownLay Z h A B o n lo kb) (K : Keep h h' ws) (q : ∀ t ∈ ws, t < A ∨ B ≤ t) : ownLay Z h' A B o n lo kb := by
  obtain ⟨o1, E, F1, F2, lb, w, s, k, r1, r2, r3, r4, G1, G2, G3, G4, V1, V2, V3, V4⟩ := Y
  have ni : ∀ x, (A ≤ x ∧ x < B) → x ∉ ws := fun x hx hm => own_far hx (q x hm) rfl
  exact ⟨o1, E.keep K, F1.keep K (ni _ o1), F2.keep K (ni _ o1), lb, w, s, k, r1, r2, r3, r4, G1.keep K (ni _ o1), G2.keep K (ni _ o1), G3.keep K (ni _ o1), G4.keep K (ni _ o1), V1.keep K (ni _ r1), V2.keep K (ni _ r2), V3.keep K (ni _ r3), V4.keep K (ni _ r4)⟩
theorem ownLay.ext {Z : State} {h h' : Heap} {A B o : Addr} {n : Nat} {lo : Nat → Int32} {kb : Nat → Nat} (Y : ownLay Z h A B o n lo kb) (E : Ext h h') : ownLay Z h' A B o n lo kb :=
  Y.keep (ws := []) ((Keep.refl h []).ext E) (fun _ z => nomatch z)
theorem ownLay.wr {Z : State} {h h' : Heap} {A B o t : Addr} {n i : Nat} {v : Value} {lo : Nat → Int32} {kb : Nat → Nat} (Y : ownLay Z h A B o n lo kb) (W : Wr h h' t i v) (q : t < A ∨ B ≤ t) : ownLay Z h' A B o n lo kb :=
  Y.keep (Keep.of_wr W) (fun x hx => by cases List.mem_singleton.mp hx; exact q)
theorem ownLay.exa {Z : State} {h : Heap} {A B o : Addr} {n : Nat} {lo : Nat → Int32} {kb : Nat → Nat} (Y : ownLay Z h A B o n lo kb) : Exa Z h o "com/example/ningbo/ningbo/engine/StateLayout" := Y.2.1
theorem ownLay.lt {Z : State} {h : Heap} {A B o : Addr} {n : Nat} {lo : Nat → Int32} {kb : Nat → Nat} (Y : ownLay Z h A B o n lo kb) : o < h.size := Y.2.1.lt
theorem own_max1 (q : Nat) (h : q < 2147483648) : F2 (1 : Int32) (Int32.ofNat q) = Int32.ofNat (if q ≤ 1 then 1 else q) := by
  show (if Int32.ofNat 1 < Int32.ofNat q then Int32.ofNat q else (1 : Int32)) = _
  by_cases z : q ≤ 1
  · rw [if_neg (fun y => by have := (own_lt_iff (by decide) h).mp y; omega), if_pos z]; rfl
  · rw [if_pos ((own_lt_iff (by decide) h).mpr (by omega)), if_neg z]
def ownMade (Z : State) (x0 : Addr) (lo : Nat → Int32) (kb : Nat → Nat) (h0 : Heap) (n0 : Nat) (v : Option Value) (h : Heap) (L : List Loc) : Prop := v = none ∧ Fr n0 L ∧ Keep h0 h [x0] ∧ ownLay Z h x0 h.size x0 2 lo kb
theorem d3_0 : decode prog_49_method_1_code 0 = .ok (.aload_n 0, 1) := by decide +kernel
theorem d3_1 : decode prog_49_method_1_code 1 = .ok (.invokespecial 1, 3) := by decide +kernel
theorem d3_4 : decode prog_49_method_1_code 4 = .ok (.aload_n 0, 1) := by decide +kernel
theorem d3_5 : decode prog_49_method_1_code 5 = .ok (.aload_n 1, 1) := by decide +kernel
theorem d3_6 : decode prog_49_method_1_code 6 = .ok (.arraylength, 1) := by decide +kernel
theorem d3_7 : decode prog_49_method_1_code 7 = .ok (.putfield 7, 3) := by decide +kernel
theorem d3_10 : decode prog_49_method_1_code 10 = .ok (.aload_n 0, 1) := by decide +kernel
theorem d3_11 : decode prog_49_method_1_code 11 = .ok (.aload_n 1, 1) := by decide +kernel
theorem d3_12 : decode prog_49_method_1_code 12 = .ok (.invokevirtual 13, 3) := by decide +kernel
theorem d3_15 : decode prog_49_method_1_code 15 = .ok (.checkcast 14, 3) := by decide +kernel
theorem d3_18 : decode prog_49_method_1_code 18 = .ok (.putfield 19, 3) := by decide +kernel
theorem d3_21 : decode prog_49_method_1_code 21 = .ok (.aload_n 0, 1) := by decide +kernel
theorem d3_22 : decode prog_49_method_1_code 22 = .ok (.aload_n 0, 1) := by decide +kernel
theorem d3_23 : decode prog_49_method_1_code 23 = .ok (.getfield 7, 3) := by decide +kernel
theorem d3_26 : decode prog_49_method_1_code 26 = .ok (.newarray .int, 2) := by decide +kernel
theorem d3_28 : decode prog_49_method_1_code 28 = .ok (.putfield 22, 3) := by decide +kernel
theorem d3_31 : decode prog_49_method_1_code 31 = .ok (.aload_n 0, 1) := by decide +kernel
theorem d3_32 : decode prog_49_method_1_code 32 = .ok (.aload_n 0, 1) := by decide +kernel
theorem d3_33 : decode prog_49_method_1_code 33 = .ok (.getfield 7, 3) := by decide +kernel
theorem d3_36 : decode prog_49_method_1_code 36 = .ok (.newarray .int, 2) := by decide +kernel
theorem d3_38 : decode prog_49_method_1_code 38 = .ok (.putfield 25, 3) := by decide +kernel
theorem d3_41 : decode prog_49_method_1_code 41 = .ok (.aload_n 0, 1) := by decide +kernel
theorem d3_42 : decode prog_49_method_1_code 42 = .ok (.aload_n 0, 1) := by decide +kernel
theorem d3_43 : decode prog_49_method_1_code 43 = .ok (.getfield 7, 3) := by decide +kernel
theorem d3_46 : decode prog_49_method_1_code 46 = .ok (.newarray .long, 2) := by decide +kernel
theorem d3_48 : decode prog_49_method_1_code 48 = .ok (.putfield 28, 3) := by decide +kernel
theorem d3_51 : decode prog_49_method_1_code 51 = .ok (.iconst 0, 1) := by decide +kernel
theorem d3_52 : decode prog_49_method_1_code 52 = .ok (.istore_n 3, 1) := by decide +kernel
theorem d3_53 : decode prog_49_method_1_code 53 = .ok (.iconst 0, 1) := by decide +kernel
theorem d3_54 : decode prog_49_method_1_code 54 = .ok (.istore 4, 2) := by decide +kernel
theorem d3_56 : decode prog_49_method_1_code 56 = .ok (.iload 4, 2) := by decide +kernel
theorem d3_58 : decode prog_49_method_1_code 58 = .ok (.aload_n 0, 1) := by decide +kernel
theorem d3_59 : decode prog_49_method_1_code 59 = .ok (.getfield 7, 3) := by decide +kernel
theorem d3_62 : decode prog_49_method_1_code 62 = .ok (.if_icmp .ge 107, 3) := by decide +kernel
theorem d3_65 : decode prog_49_method_1_code 65 = .ok (.aload_n 2, 1) := by decide +kernel
theorem d3_66 : decode prog_49_method_1_code 66 = .ok (.iload 4, 2) := by decide +kernel
theorem d3_68 : decode prog_49_method_1_code 68 = .ok (.iaload, 1) := by decide +kernel
theorem d3_69 : decode prog_49_method_1_code 69 = .ok (.i2l, 1) := by decide +kernel
theorem d3_70 : decode prog_49_method_1_code 70 = .ok (.aload_n 1, 1) := by decide +kernel
theorem d3_71 : decode prog_49_method_1_code 71 = .ok (.iload 4, 2) := by decide +kernel
theorem d3_73 : decode prog_49_method_1_code 73 = .ok (.iaload, 1) := by decide +kernel
theorem d3_74 : decode prog_49_method_1_code 74 = .ok (.i2l, 1) := by decide +kernel
theorem d3_75 : decode prog_49_method_1_code 75 = .ok (.lsub, 1) := by decide +kernel
theorem d3_76 : decode prog_49_method_1_code 76 = .ok (.lstore 5, 2) := by decide +kernel
theorem d3_78 : decode prog_49_method_1_code 78 = .ok (.bipush 64, 2) := by decide +kernel
theorem d3_80 : decode prog_49_method_1_code 80 = .ok (.lload 5, 2) := by decide +kernel
theorem d3_82 : decode prog_49_method_1_code 82 = .ok (.invokestatic 32, 3) := by decide +kernel
theorem d3_85 : decode prog_49_method_1_code 85 = .ok (.isub, 1) := by decide +kernel
theorem d3_86 : decode prog_49_method_1_code 86 = .ok (.istore 7, 2) := by decide +kernel
theorem d3_88 : decode prog_49_method_1_code 88 = .ok (.iload_n 3, 1) := by decide +kernel
theorem d3_89 : decode prog_49_method_1_code 89 = .ok (.bipush 64, 2) := by decide +kernel
theorem d3_91 : decode prog_49_method_1_code 91 = .ok (.irem, 1) := by decide +kernel
theorem d3_92 : decode prog_49_method_1_code 92 = .ok (.iload 7, 2) := by decide +kernel
theorem d3_94 : decode prog_49_method_1_code 94 = .ok (.iadd, 1) := by decide +kernel
theorem d3_95 : decode prog_49_method_1_code 95 = .ok (.bipush 64, 2) := by decide +kernel
theorem d3_97 : decode prog_49_method_1_code 97 = .ok (.if_icmp .le 13, 3) := by decide +kernel
theorem d3_100 : decode prog_49_method_1_code 100 = .ok (.iload_n 3, 1) := by decide +kernel
theorem d3_101 : decode prog_49_method_1_code 101 = .ok (.bipush 64, 2) := by decide +kernel
theorem d3_103 : decode prog_49_method_1_code 103 = .ok (.iload_n 3, 1) := by decide +kernel
theorem d3_104 : decode prog_49_method_1_code 104 = .ok (.bipush 64, 2) := by decide +kernel
theorem d3_106 : decode prog_49_method_1_code 106 = .ok (.irem, 1) := by decide +kernel
theorem d3_107 : decode prog_49_method_1_code 107 = .ok (.isub, 1) := by decide +kernel
theorem d3_108 : decode prog_49_method_1_code 108 = .ok (.iadd, 1) := by decide +kernel
theorem d3_109 : decode prog_49_method_1_code 109 = .ok (.istore_n 3, 1) := by decide +kernel
theorem d3_110 : decode prog_49_method_1_code 110 = .ok (.aload_n 0, 1) := by decide +kernel
theorem d3_111 : decode prog_49_method_1_code 111 = .ok (.getfield 22, 3) := by decide +kernel
theorem d3_114 : decode prog_49_method_1_code 114 = .ok (.iload 4, 2) := by decide +kernel
theorem d3_116 : decode prog_49_method_1_code 116 = .ok (.iload_n 3, 1) := by decide +kernel
theorem d3_117 : decode prog_49_method_1_code 117 = .ok (.bipush 64, 2) := by decide +kernel
theorem d3_119 : decode prog_49_method_1_code 119 = .ok (.idiv, 1) := by decide +kernel
theorem d3_120 : decode prog_49_method_1_code 120 = .ok (.iastore, 1) := by decide +kernel
theorem d3_121 : decode prog_49_method_1_code 121 = .ok (.aload_n 0, 1) := by decide +kernel
theorem d3_122 : decode prog_49_method_1_code 122 = .ok (.getfield 25, 3) := by decide +kernel
theorem d3_125 : decode prog_49_method_1_code 125 = .ok (.iload 4, 2) := by decide +kernel
theorem d3_127 : decode prog_49_method_1_code 127 = .ok (.iload_n 3, 1) := by decide +kernel
theorem d3_128 : decode prog_49_method_1_code 128 = .ok (.bipush 64, 2) := by decide +kernel
theorem d3_130 : decode prog_49_method_1_code 130 = .ok (.irem, 1) := by decide +kernel
theorem d3_131 : decode prog_49_method_1_code 131 = .ok (.iastore, 1) := by decide +kernel
theorem d3_132 : decode prog_49_method_1_code 132 = .ok (.aload_n 0, 1) := by decide +kernel
theorem d3_133 : decode prog_49_method_1_code 133 = .ok (.getfield 28, 3) := by decide +kernel
theorem d3_136 : decode prog_49_method_1_code 136 = .ok (.iload 4, 2) := by decide +kernel
theorem d3_138 : decode prog_49_method_1_code 138 = .ok (.iload 7, 2) := by decide +kernel
theorem d3_140 : decode prog_49_method_1_code 140 = .ok (.bipush 64, 2) := by decide +kernel
theorem d3_142 : decode prog_49_method_1_code 142 = .ok (.if_icmp .ne 9, 3) := by decide +kernel
theorem d3_151 : decode prog_49_method_1_code 151 = .ok (.lconst 1, 1) := by decide +kernel
theorem d3_152 : decode prog_49_method_1_code 152 = .ok (.iload 7, 2) := by decide +kernel
theorem d3_154 : decode prog_49_method_1_code 154 = .ok (.lshl, 1) := by decide +kernel
theorem d3_155 : decode prog_49_method_1_code 155 = .ok (.lconst 1, 1) := by decide +kernel
theorem d3_156 : decode prog_49_method_1_code 156 = .ok (.lsub, 1) := by decide +kernel
theorem d3_157 : decode prog_49_method_1_code 157 = .ok (.lastore, 1) := by decide +kernel
theorem d3_158 : decode prog_49_method_1_code 158 = .ok (.iload_n 3, 1) := by decide +kernel
theorem d3_159 : decode prog_49_method_1_code 159 = .ok (.iload 7, 2) := by decide +kernel
theorem d3_161 : decode prog_49_method_1_code 161 = .ok (.iadd, 1) := by decide +kernel
theorem d3_162 : decode prog_49_method_1_code 162 = .ok (.istore_n 3, 1) := by decide +kernel
theorem d3_163 : decode prog_49_method_1_code 163 = .ok (.iinc 4 1, 3) := by decide +kernel
theorem d3_166 : decode prog_49_method_1_code 166 = .ok (.goto (-110), 3) := by decide +kernel
theorem d3_169 : decode prog_49_method_1_code 169 = .ok (.aload_n 0, 1) := by decide +kernel
theorem d3_170 : decode prog_49_method_1_code 170 = .ok (.iload_n 3, 1) := by decide +kernel
theorem d3_171 : decode prog_49_method_1_code 171 = .ok (.putfield 40, 3) := by decide +kernel
theorem d3_174 : decode prog_49_method_1_code 174 = .ok (.aload_n 0, 1) := by decide +kernel
theorem d3_175 : decode prog_49_method_1_code 175 = .ok (.iconst 1, 1) := by decide +kernel
theorem d3_176 : decode prog_49_method_1_code 176 = .ok (.iload_n 3, 1) := by decide +kernel
theorem d3_177 : decode prog_49_method_1_code 177 = .ok (.bipush 63, 2) := by decide +kernel
theorem d3_179 : decode prog_49_method_1_code 179 = .ok (.iadd, 1) := by decide +kernel
theorem d3_180 : decode prog_49_method_1_code 180 = .ok (.bipush 64, 2) := by decide +kernel
theorem d3_182 : decode prog_49_method_1_code 182 = .ok (.idiv, 1) := by decide +kernel
theorem d3_183 : decode prog_49_method_1_code 183 = .ok (.invokestatic 43, 3) := by decide +kernel
theorem d3_186 : decode prog_49_method_1_code 186 = .ok (.putfield 49, 3) := by decide +kernel
theorem d3_189 : decode prog_49_method_1_code 189 = .ok (.return_, 1) := by decide +kernel
theorem pd__II_I : parseMethodDescriptor "(II)I" = some ⟨[.int, .int], some .int⟩ := by decide +kernel
theorem pd__J_I : parseMethodDescriptor "(J)I" = some ⟨[.long], some .int⟩ := by decide +kernel
abbrev R3 : Room := { frames := 2, cells := 4, slots := 8, locals := 29 }
set_option maxRecDepth 65536 in
set_option maxHeartbeats 40000000 in
theorem own_loopC {p : Program} {l : Launch} {e : Env} {s : State} {m : MethodId} {args : Array Value} {below : List Frame} {meth : Method} {c : Code} {Z : State} {a0 : Array Value} {h0 : Heap} {n0 : Nat} (hx : p.tables.exec = Jvm.exec) (hZ : Z.Warmed39 s.vm) (hw : ∀ d ∈ tables_1, d.before a0 Z = true) (hby : c.code = prog_49_method_1_code) (hml : c.maxLocals = 8) (hown : s.vm.findClass "com/example/ningbo/ningbo/engine/StateLayout" = some m.cls) (hret : meth.sig.returnType = none) (hlk : meth.locks = false) (hnm : meth.name = "<init>") (x0 x1 x2 lb w sh k : Addr) (lo up : Nat → Int32) (kb : Nat → Nat) (hkb : ∀ i, i < 2 → ownBits ((up i).toInt64 - (lo i).toInt64).toInt (kb i)) (hk32 : ∀ i, i < 2 → kb i ≤ 32) (gz_x0 : n0 ≤ x0) (gx_lb : x0 ≤ lb) (gx_w : x0 ≤ w) (gx_sh : x0 ≤ sh) (gx_k : x0 ≤ k) (gz_w : n0 ≤ w) (gz_sh : n0 ≤ sh) (gz_k : n0 ≤ k) (sz_w : h0.size ≤ w) (sz_sh : h0.size ≤ sh) (sz_k : h0.size ≤ k) (ne_x0_x1 : x0 ≠ x1) (ne_x0_x2 : x0 ≠ x2) (ne_x0_lb : x0 ≠ lb) (ne_x0_w : x0 ≠ w) (ne_x0_sh : x0 ≠ sh) (ne_x0_k : x0 ≠ k) (ne_x1_lb : x1 ≠ lb) (ne_x1_w : x1 ≠ w) (ne_x1_sh : x1 ≠ sh) (ne_x1_k : x1 ≠ k) (ne_x2_lb : x2 ≠ lb) (ne_x2_w : x2 ≠ w) (ne_x2_sh : x2 ≠ sh) (ne_x2_k : x2 ≠ k) (ne_lb_w : lb ≠ w) (ne_lb_sh : lb ≠ sh) (ne_lb_k : lb ≠ k) (ne_w_sh : w ≠ sh) (ne_w_k : w ≠ k) (ne_sh_k : sh ≠ k) :
    ∀ (kk i : Nat), i + kk = 2 → ∀ (T0 : State) (h : Heap) (locs : List Loc) (fw fs fk : Nat → Value) (s5 s6 s7 : Slot), ownTwo s5 s6 → One s7 → Stand p l e R3 s m args below meth c T0 locs 4 8 → T0.heap = h → Fr n0 locs → n0 ≤ h.size → Keep h0 h [x0] → Exa Z h x0 "com/example/ningbo/ningbo/engine/StateLayout" → Fld Z h x0 "com/example/ningbo/ningbo/engine/StateLayout" "width" "I" (.int (2 : Int32)) → Fld Z h x0 "com/example/ningbo/ningbo/engine/StateLayout" "lowerBounds" "[I" (.ref lb) → Fld Z h x0 "com/example/ningbo/ningbo/engine/StateLayout" "wordOf" "[I" (.ref w) → Fld Z h x0 "com/example/ningbo/ningbo/engine/StateLayout" "shiftOf" "[I" (.ref sh) → Fld Z h x0 "com/example/ningbo/ningbo/engine/StateLayout" "maskOf" "[J" (.ref k) → Fld Z h x0 "com/example/ningbo/ningbo/engine/StateLayout" "bits" "I" (.int (0 : Int32)) → Fld Z h x0 "com/example/ningbo/ningbo/engine/StateLayout" "words" "I" (.int (0 : Int32)) → ownA Z h x1 .int 2 (fun i => .int (lo i)) → ownA Z h x2 .int 2 (fun i => .int (up i)) → ownA Z h lb .int 2 (fun i => .int (lo i)) →
      ownA Z h w .int 2 fw → (∀ j, j < i → fw j = .int (Int32.ofNat (own_st kb j / 64))) → ownA Z h sh .int 2 fs → (∀ j, j < i → fs j = .int (Int32.ofNat (own_st kb j % 64))) → ownA Z h k .long 2 fk → (∀ j, j < i → fk j = .long (own_mk (kb j))) →
      ownGo p.tables e below T0 (mkF m 56 #[.val (.ref x0), .val (.ref x1), .val (.ref x2), .val (.int (Int32.ofNat (own_off kb i))), .val (.int (Int32.ofNat i)), s5, s6, s7] []) (ownDone s (ownMade Z x0 lo kb h0 n0) R3.cells R3.slots) := by
  intro kk
  induction kk with
  | zero =>
    intro i hi T0 h locs fw fs fk s5 s6 s7 h56 h7 X0 e0 N0 Z1 K0 E0 F_width F_lowerBounds F_wordOf F_shiftOf F_maskOf F_bits F_words V1 V2 VL Vw hw_ Vs hs_ Vk hk_
    obtain rfl : i = 2 := by omega
    have ob := own_off_le kb 2 hk32 2 (Nat.le_refl _)
    refine ownGo.st (fun _ k => XS.iload X0.here hx rfl (hb hby d3_56) rfl k) ?_
    show ownGo p.tables e below T0 (mkF m 58 #[.val (.ref x0), .val (.ref x1), .val (.ref x2), .val (.int (Int32.ofNat (own_off kb 2))), .val (.int (Int32.ofNat 2)), s5, s6, s7] [(.int (Int32.ofNat 2))]) _
    refine ownGo.st (fun _ k => XS.aloadN X0.here hx rfl (hb hby d3_58) rfl rfl k) ?_
    show ownGo p.tables e below T0 (mkF m 59 #[.val (.ref x0), .val (.ref x1), .val (.ref x2), .val (.int (Int32.ofNat (own_off kb 2))), .val (.int (Int32.ofNat 2)), s5, s6, s7] [(.ref x0), (.int (Int32.ofNat 2))]) _
    obtain ⟨T12, X12, e12, st12⟩ := getF X0 hx hZ hown (host := "") (Or.inl (own_at hw 17 rfl)) Via.refl e0 F_width (g := (mkF m 59 #[.val (.ref x0), .val (.ref x1), .val (.ref x2), .val (.int (Int32.ofNat (own_off kb 2))), .val (.int (Int32.ofNat 2)), s5, s6, s7] [(.ref x0), (.int (Int32.ofNat 2))])) rfl rfl (hb hby d3_59)
    refine ownGo.st (st12) ?_
    show ownGo p.tables e below T12 (mkF m 62 #[.val (.ref x0), .val (.ref x1), .val (.ref x2), .val (.int (Int32.ofNat (own_off kb 2))), .val (.int (Int32.ofNat 2)), s5, s6, s7] [(.int (2 : Int32)), (.int (Int32.ofNat 2))]) _
    have hc13 : ¬ ((Int32.ofNat 2) < (2 : Int32)) := Int32.lt_irrefl
    refine ownGo.st (fun _ k => XS.icmpYes X12.here hx rfl (pc0 := 62) (pc' := 169) rfl (hb hby d3_62) rfl (flt hc13).2.1 (by decide) (by decide) k) ?_
    show ownGo p.tables e below T12 (mkF m 169 #[.val (.ref x0), .val (.ref x1), .val (.ref x2), .val (.int (Int32.ofNat (own_off kb 2))), .val (.int (Int32.ofNat 2)), s5, s6, s7] []) _
    refine ownGo.st (fun _ k => XS.aloadN X12.here hx rfl (hb hby d3_169) rfl rfl k) ?_
    show ownGo p.tables e below T12 (mkF m 170 #[.val (.ref x0), .val (.ref x1), .val (.ref x2), .val (.int (Int32.ofNat (own_off kb 2))), .val (.int (Int32.ofNat 2)), s5, s6, s7] [(.ref x0)]) _
    refine ownGo.st (fun _ k => XS.iloadN X12.here hx rfl (hb hby d3_170) rfl k) ?_
    show ownGo p.tables e below T12 (mkF m 171 #[.val (.ref x0), .val (.ref x1), .val (.ref x2), .val (.int (Int32.ofNat (own_off kb 2))), .val (.int (Int32.ofNat 2)), s5, s6, s7] [(.int (Int32.ofNat (own_off kb 2))), (.ref x0)]) _
    obtain ⟨T14, h14, X14, e14, W14, st14⟩ := putF X12 hx hZ hown (host := "") (Or.inl (own_at hw 46 rfl)) Via.refl e12 F_bits E0 (Or.inr ⟨(own_at hw 47 rfl), rfl, hnm⟩) (own_at hw 9 rfl) (ty := .int) (by decide) rfl rfl (g := (mkF m 171 #[.val (.ref x0), .val (.ref x1), .val (.ref x2), .val (.int (Int32.ofNat (own_off kb 2))), .val (.int (Int32.ofNat 2)), s5, s6, s7] [(.int (Int32.ofNat (own_off kb 2))), (.ref x0)])) rfl rfl (hb hby d3_171)
    have E0_15 := E0.wr W14
    have F_width_16 := F_width.other W14 (Or.inr (slot_ne (Or.inr (own_at hw 18 rfl)) (Or.inr (own_at hw 47 rfl)) (by decide) (t := .int) (t' := .int) (by decide) (by decide)))
    have F_lowerBounds_17 := F_lowerBounds.other W14 (Or.inr (slot_ne (Or.inr (own_at hw 29 rfl)) (Or.inr (own_at hw 47 rfl)) (by decide) (t := (.array .int)) (t' := .int) (by decide) (by decide)))
    have F_wordOf_18 := F_wordOf.other W14 (Or.inr (slot_ne (Or.inr (own_at hw 31 rfl)) (Or.inr (own_at hw 47 rfl)) (by decide) (t := (.array .int)) (t' := .int) (by decide) (by decide)))
    have F_shiftOf_19 := F_shiftOf.other W14 (Or.inr (slot_ne (Or.inr (own_at hw 33 rfl)) (Or.inr (own_at hw 47 rfl)) (by decide) (t := (.array .int)) (t' := .int) (by decide) (by decide)))
    have F_maskOf_20 := F_maskOf.other W14 (Or.inr (slot_ne (Or.inr (own_at hw 36 rfl)) (Or.inr (own_at hw 47 rfl)) (by decide) (t := (.array .long)) (t' := .int) (by decide) (by decide)))
    have F_bits_21 := F_bits.same W14
    have F_words_22 := F_words.other W14 (Or.inr (slot_ne (Or.inr (own_at hw 50 rfl)) (Or.inr (own_at hw 47 rfl)) (by decide) (t := .int) (t' := .int) (by decide) (by decide)))
    have V1_23 := V1.other W14 (Ne.symm ne_x0_x1)
    have V2_24 := V2.other W14 (Ne.symm ne_x0_x2)
    have VL_25 := VL.other W14 (Ne.symm ne_x0_lb)
    have Vw_26 := Vw.other W14 (Ne.symm ne_x0_w)
    have Vs_27 := Vs.other W14 (Ne.symm ne_x0_sh)
    have Vk_28 := Vk.other W14 (Ne.symm ne_x0_k)
    have N14 := Fr.snoc X14 N0 gz_x0
    have Z14 : n0 ≤ h14.size := Nat.le_trans Z1 (Nat.le_of_eq W14.size.symm)
    have K14 := K0.wr W14 (Or.inl (List.mem_singleton.mpr rfl))
    refine ownGo.st (st14) ?_
    show ownGo p.tables e below T14 (mkF m 174 #[.val (.ref x0), .val (.ref x1), .val (.ref x2), .val (.int (Int32.ofNat (own_off kb 2))), .val (.int (Int32.ofNat 2)), s5, s6, s7] []) _
    refine ownGo.st (fun _ k => XS.aloadN X14.here hx rfl (hb hby d3_174) rfl rfl k) ?_
    show ownGo p.tables e below T14 (mkF m 175 #[.val (.ref x0), .val (.ref x1), .val (.ref x2), .val (.int (Int32.ofNat (own_off kb 2))), .val (.int (Int32.ofNat 2)), s5, s6, s7] [(.ref x0)]) _
    refine ownGo.st (fun _ k => XS.iconst X14.here hx rfl (hb hby d3_175)  k) ?_
    show ownGo p.tables e below T14 (mkF m 176 #[.val (.ref x0), .val (.ref x1), .val (.ref x2), .val (.int (Int32.ofNat (own_off kb 2))), .val (.int (Int32.ofNat 2)), s5, s6, s7] [(.int (1 : Int32)), (.ref x0)]) _
    refine ownGo.st (fun _ k => XS.iloadN X14.here hx rfl (hb hby d3_176) rfl k) ?_
    show ownGo p.tables e below T14 (mkF m 177 #[.val (.ref x0), .val (.ref x1), .val (.ref x2), .val (.int (Int32.ofNat (own_off kb 2))), .val (.int (Int32.ofNat 2)), s5, s6, s7] [(.int (Int32.ofNat (own_off kb 2))), (.int (1 : Int32)), (.ref x0)]) _
    refine ownGo.st (fun _ k => XS.bipush X14.here hx rfl (hb hby d3_177)  k) ?_
    show ownGo p.tables e below T14 (mkF m 179 #[.val (.ref x0), .val (.ref x1), .val (.ref x2), .val (.int (Int32.ofNat (own_off kb 2))), .val (.int (Int32.ofNat 2)), s5, s6, s7] [(.int (63 : Int32)), (.int (Int32.ofNat (own_off kb 2))), (.int (1 : Int32)), (.ref x0)]) _
    refine ownGo.st (fun _ k => XS.iadd X14.here hx rfl (hb hby d3_179) rfl k) ?_
    show ownGo p.tables e below T14 (mkF m 180 #[.val (.ref x0), .val (.ref x1), .val (.ref x2), .val (.int (Int32.ofNat (own_off kb 2))), .val (.int (Int32.ofNat 2)), s5, s6, s7] [(.int ((Int32.ofNat (own_off kb 2)) + (63 : Int32))), (.int (1 : Int32)), (.ref x0)]) _
    rw [show Int32.ofNat (own_off kb 2) + (63 : Int32) = Int32.ofNat (own_off kb 2 + 63) from (Int32.ofNat_add _ 63).symm]
    show ownGo p.tables e below T14 (mkF m 180 #[.val (.ref x0), .val (.ref x1), .val (.ref x2), .val (.int (Int32.ofNat (own_off kb 2))), .val (.int (Int32.ofNat 2)), s5, s6, s7] [(.int (Int32.ofNat (own_off kb 2 + 63))), (.int (1 : Int32)), (.ref x0)]) _
    refine ownGo.st (fun _ k => XS.bipush X14.here hx rfl (hb hby d3_180)  k) ?_
    show ownGo p.tables e below T14 (mkF m 182 #[.val (.ref x0), .val (.ref x1), .val (.ref x2), .val (.int (Int32.ofNat (own_off kb 2))), .val (.int (Int32.ofNat 2)), s5, s6, s7] [(.int (64 : Int32)), (.int (Int32.ofNat (own_off kb 2 + 63))), (.int (1 : Int32)), (.ref x0)]) _
    refine ownGo.st (fun _ k => XS.idiv X14.here hx rfl (hb hby d3_182) rfl (by decide) k) ?_
    show ownGo p.tables e below T14 (mkF m 183 #[.val (.ref x0), .val (.ref x1), .val (.ref x2), .val (.int (Int32.ofNat (own_off kb 2))), .val (.int (Int32.ofNat 2)), s5, s6, s7] [(.int ((Int32.ofNat (own_off kb 2 + 63)) / (64 : Int32))), (.int (1 : Int32)), (.ref x0)]) _
    rw [own_div64 (by omega)]
    show ownGo p.tables e below T14 (mkF m 183 #[.val (.ref x0), .val (.ref x1), .val (.ref x2), .val (.int (Int32.ofNat (own_off kb 2))), .val (.int (Int32.ofNat 2)), s5, s6, s7] [(.int (Int32.ofNat ((own_off kb 2 + 63) / 64))), (.int (1 : Int32)), (.ref x0)]) _
    obtain ⟨_, T29, L29, X29, hQ29, st29⟩ := own_callS X14 hx hZ hown (own_at hw 48 rfl) (own_at hw 5 rfl) (own_at hw 2 rfl) (own_at hw 6 rfl) (by decide) (rm2 l Z a0 hw (1 : Int32) (Int32.ofNat ((own_off kb 2 + 63) / 64)) h14 n0) 1 (by decide) (by decide) e14 (by decide) (by decide) (g := (mkF m 183 #[.val (.ref x0), .val (.ref x1), .val (.ref x2), .val (.int (Int32.ofNat (own_off kb 2))), .val (.int (Int32.ofNat 2)), s5, s6, s7] [(.int (Int32.ofNat ((own_off kb 2 + 63) / 64))), (.int (1 : Int32)), (.ref x0)])) rfl (by rw [hml]; rfl) (argsL := [(.int (1 : Int32)), (.int (Int32.ofNat ((own_off kb 2 + 63) / 64)))]) (rest := [(.ref x0)]) (lenOf pd__II_I rfl) rfl (by show 2 * 0 + _ ≤ _; exact Nat.le_of_eq rfl) (hb hby d3_183)
    obtain ⟨rfl, N29q, e29⟩ := hQ29
    have N29 := Fr.app N14 N29q
    refine ownGo.st st29 ?_
    show ownGo p.tables e below T29 (mkF m 186 #[.val (.ref x0), .val (.ref x1), .val (.ref x2), .val (.int (Int32.ofNat (own_off kb 2))), .val (.int (Int32.ofNat 2)), s5, s6, s7] [(.int (F2 (1 : Int32) (Int32.ofNat ((own_off kb 2 + 63) / 64)))), (.ref x0)]) _
    rw [show F2 (1 : Int32) (Int32.ofNat ((own_off kb 2 + 63) / 64)) = Int32.ofNat (own_wds kb 2) from own_max1 _ (by omega)]
    show ownGo p.tables e below T29 (mkF m 186 #[.val (.ref x0), .val (.ref x1), .val (.ref x2), .val (.int (Int32.ofNat (own_off kb 2))), .val (.int (Int32.ofNat 2)), s5, s6, s7] [(.int (Int32.ofNat (own_wds kb 2))), (.ref x0)]) _
    obtain ⟨T30, h30, X30, e30, W30, st30⟩ := putF X29 hx hZ hown (host := "") (Or.inl (own_at hw 49 rfl)) Via.refl e29 F_words_22 E0_15 (Or.inr ⟨(own_at hw 50 rfl), rfl, hnm⟩) (own_at hw 9 rfl) (ty := .int) (by decide) rfl rfl (g := (mkF m 186 #[.val (.ref x0), .val (.ref x1), .val (.ref x2), .val (.int (Int32.ofNat (own_off kb 2))), .val (.int (Int32.ofNat 2)), s5, s6, s7] [(.int (Int32.ofNat (own_wds kb 2))), (.ref x0)])) rfl rfl (hb hby d3_186)
    have E0_31 := E0_15.wr W30
    have F_width_32 := F_width_16.other W30 (Or.inr (slot_ne (Or.inr (own_at hw 18 rfl)) (Or.inr (own_at hw 50 rfl)) (by decide) (t := .int) (t' := .int) (by decide) (by decide)))
    have F_lowerBounds_33 := F_lowerBounds_17.other W30 (Or.inr (slot_ne (Or.inr (own_at hw 29 rfl)) (Or.inr (own_at hw 50 rfl)) (by decide) (t := (.array .int)) (t' := .int) (by decide) (by decide)))
    have F_wordOf_34 := F_wordOf_18.other W30 (Or.inr (slot_ne (Or.inr (own_at hw 31 rfl)) (Or.inr (own_at hw 50 rfl)) (by decide) (t := (.array .int)) (t' := .int) (by decide) (by decide)))
    have F_shiftOf_35 := F_shiftOf_19.other W30 (Or.inr (slot_ne (Or.inr (own_at hw 33 rfl)) (Or.inr (own_at hw 50 rfl)) (by decide) (t := (.array .int)) (t' := .int) (by decide) (by decide)))
    have F_maskOf_36 := F_maskOf_20.other W30 (Or.inr (slot_ne (Or.inr (own_at hw 36 rfl)) (Or.inr (own_at hw 50 rfl)) (by decide) (t := (.array .long)) (t' := .int) (by decide) (by decide)))
    have F_bits_37 := F_bits_21.other W30 (Or.inr (slot_ne (Or.inr (own_at hw 47 rfl)) (Or.inr (own_at hw 50 rfl)) (by decide) (t := .int) (t' := .int) (by decide) (by decide)))
    have F_words_38 := F_words_22.same W30
    have V1_39 := V1_23.other W30 (Ne.symm ne_x0_x1)
    have V2_40 := V2_24.other W30 (Ne.symm ne_x0_x2)
    have VL_41 := VL_25.other W30 (Ne.symm ne_x0_lb)
    have Vw_42 := Vw_26.other W30 (Ne.symm ne_x0_w)
    have Vs_43 := Vs_27.other W30 (Ne.symm ne_x0_sh)
    have Vk_44 := Vk_28.other W30 (Ne.symm ne_x0_k)
    have N30 := Fr.snoc X30 N29 gz_x0
    have Z30 : n0 ≤ h30.size := Nat.le_trans Z14 (Nat.le_of_eq W30.size.symm)
    have K30 := K14.wr W30 (Or.inl (List.mem_singleton.mpr rfl))
    refine ownGo.st (st30) ?_
    show ownGo p.tables e below T30 (mkF m 189 #[.val (.ref x0), .val (.ref x1), .val (.ref x2), .val (.int (Int32.ofNat (own_off kb 2))), .val (.int (Int32.ofNat 2)), s5, s6, s7] []) _
    have Bq : ∀ y, y < h30.size → y < T30.heap.size := fun y hy => by rw [e30]; exact hy
    exact own_retV X30 hx hlk hret (hb hby d3_189) ⟨rfl, N30, by rw [e30]; exact K30, ⟨⟨Nat.le_refl _, Bq _ E0_31.lt⟩, (by rw [e30]; exact E0_31), (by rw [e30]; exact F_width_32), (by rw [e30]; exact F_words_38), lb, w, sh, k, ⟨gx_lb, Bq _ VL_41.lt⟩, ⟨gx_w, Bq _ Vw_42.lt⟩, ⟨gx_sh, Bq _ Vs_43.lt⟩, ⟨gx_k, Bq _ Vk_44.lt⟩, (by rw [e30]; exact F_lowerBounds_33), (by rw [e30]; exact F_wordOf_34), (by rw [e30]; exact F_shiftOf_35), (by rw [e30]; exact F_maskOf_36), (by rw [e30]; exact VL_41), ownA.eq (by rw [e30]; exact Vw_42) hw_, ownA.eq (by rw [e30]; exact Vs_43) hs_, ownA.eq (by rw [e30]; exact Vk_44) hk_⟩⟩ (by decide) (by decide)
  | succ kk ih =>
    intro i hi T0 h locs fw fs fk s5 s6 s7 h56 h7 X0 e0 N0 Z1 K0 E0 F_width F_lowerBounds F_wordOf F_shiftOf F_maskOf F_bits F_words V1 V2 VL Vw hw_ Vs hs_ Vk hk_
    have ob := own_off_le kb 2 hk32 i (by omega)
    have k32 := hk32 i (by omega)
    have al := own_al_le (own_off kb i) (kb i)
    refine ownGo.st (fun _ k => XS.iload X0.here hx rfl (hb hby d3_56) rfl k) ?_
    show ownGo p.tables e below T0 (mkF m 58 #[.val (.ref x0), .val (.ref x1), .val (.ref x2), .val (.int (Int32.ofNat (own_off kb i))), .val (.int (Int32.ofNat i)), s5, s6, s7] [(.int (Int32.ofNat i))]) _
    refine ownGo.st (fun _ k => XS.aloadN X0.here hx rfl (hb hby d3_58) rfl rfl k) ?_
    show ownGo p.tables e below T0 (mkF m 59 #[.val (.ref x0), .val (.ref x1), .val (.ref x2), .val (.int (Int32.ofNat (own_off kb i))), .val (.int (Int32.ofNat i)), s5, s6, s7] [(.ref x0), (.int (Int32.ofNat i))]) _
    obtain ⟨T45, X45, e45, st45⟩ := getF X0 hx hZ hown (host := "") (Or.inl (own_at hw 17 rfl)) Via.refl e0 F_width (g := (mkF m 59 #[.val (.ref x0), .val (.ref x1), .val (.ref x2), .val (.int (Int32.ofNat (own_off kb i))), .val (.int (Int32.ofNat i)), s5, s6, s7] [(.ref x0), (.int (Int32.ofNat i))])) rfl rfl (hb hby d3_59)
    refine ownGo.st (st45) ?_
    show ownGo p.tables e below T45 (mkF m 62 #[.val (.ref x0), .val (.ref x1), .val (.ref x2), .val (.int (Int32.ofNat (own_off kb i))), .val (.int (Int32.ofNat i)), s5, s6, s7] [(.int (2 : Int32)), (.int (Int32.ofNat i))]) _
    have hc46 : (Int32.ofNat i) < (2 : Int32) := own_ltn (n := 2) (by omega) (by decide)
    refine ownGo.st (fun _ k => XS.icmpNo X45.here hx rfl (hb hby d3_62) rfl (tlt hc46).2.1 k) ?_
    show ownGo p.tables e below T45 (mkF m 65 #[.val (.ref x0), .val (.ref x1), .val (.ref x2), .val (.int (Int32.ofNat (own_off kb i))), .val (.int (Int32.ofNat i)), s5, s6, s7] []) _
    refine ownGo.st (fun _ k => XS.aloadN X45.here hx rfl (hb hby d3_65) rfl rfl k) ?_
    show ownGo p.tables e below T45 (mkF m 66 #[.val (.ref x0), .val (.ref x1), .val (.ref x2), .val (.int (Int32.ofNat (own_off kb i))), .val (.int (Int32.ofNat i)), s5, s6, s7] [(.ref x2)]) _
    refine ownGo.st (fun _ k => XS.iload X45.here hx rfl (hb hby d3_66) rfl k) ?_
    show ownGo p.tables e below T45 (mkF m 68 #[.val (.ref x0), .val (.ref x1), .val (.ref x2), .val (.int (Int32.ofNat (own_off kb i))), .val (.int (Int32.ofNat i)), s5, s6, s7] [(.int (Int32.ofNat i)), (.ref x2)]) _
    refine ownGo.st (own_iaload X45 hx hZ e45 V2 (i := i) (v := (up i)) rfl (by omega) rfl (g := (mkF m 68 #[.val (.ref x0), .val (.ref x1), .val (.ref x2), .val (.int (Int32.ofNat (own_off kb i))), .val (.int (Int32.ofNat i)), s5, s6, s7] [(.int (Int32.ofNat i)), (.ref x2)])) rfl rfl (hb hby d3_68)) ?_
    show ownGo p.tables e below T45 (mkF m 69 #[.val (.ref x0), .val (.ref x1), .val (.ref x2), .val (.int (Int32.ofNat (own_off kb i))), .val (.int (Int32.ofNat i)), s5, s6, s7] [(.int (up i))]) _
    refine ownGo.st (fun _ k => XS.i2l X45.here hx rfl (hb hby d3_69) rfl k) ?_
    show ownGo p.tables e below T45 (mkF m 70 #[.val (.ref x0), .val (.ref x1), .val (.ref x2), .val (.int (Int32.ofNat (own_off kb i))), .val (.int (Int32.ofNat i)), s5, s6, s7] [(.long ((up i).toInt64))]) _
    refine ownGo.st (fun _ k => XS.aloadN X45.here hx rfl (hb hby d3_70) rfl rfl k) ?_
    show ownGo p.tables e below T45 (mkF m 71 #[.val (.ref x0), .val (.ref x1), .val (.ref x2), .val (.int (Int32.ofNat (own_off kb i))), .val (.int (Int32.ofNat i)), s5, s6, s7] [(.ref x1), (.long ((up i).toInt64))]) _
    refine ownGo.st (fun _ k => XS.iload X45.here hx rfl (hb hby d3_71) rfl k) ?_
    show ownGo p.tables e below T45 (mkF m 73 #[.val (.ref x0), .val (.ref x1), .val (.ref x2), .val (.int (Int32.ofNat (own_off kb i))), .val (.int (Int32.ofNat i)), s5, s6, s7] [(.int (Int32.ofNat i)), (.ref x1), (.long ((up i).toInt64))]) _
    refine ownGo.st (own_iaload X45 hx hZ e45 V1 (i := i) (v := (lo i)) rfl (by omega) rfl (g := (mkF m 73 #[.val (.ref x0), .val (.ref x1), .val (.ref x2), .val (.int (Int32.ofNat (own_off kb i))), .val (.int (Int32.ofNat i)), s5, s6, s7] [(.int (Int32.ofNat i)), (.ref x1), (.long ((up i).toInt64))])) rfl rfl (hb hby d3_73)) ?_
    show ownGo p.tables e below T45 (mkF m 74 #[.val (.ref x0), .val (.ref x1), .val (.ref x2), .val (.int (Int32.ofNat (own_off kb i))), .val (.int (Int32.ofNat i)), s5, s6, s7] [(.int (lo i)), (.long ((up i).toInt64))]) _
    refine ownGo.st (fun _ k => XS.i2l X45.here hx rfl (hb hby d3_74) rfl k) ?_
    show ownGo p.tables e below T45 (mkF m 75 #[.val (.ref x0), .val (.ref x1), .val (.ref x2), .val (.int (Int32.ofNat (own_off kb i))), .val (.int (Int32.ofNat i)), s5, s6, s7] [(.long ((lo i).toInt64)), (.long ((up i).toInt64))]) _
    refine ownGo.st (fun _ k => XS.lsub X45.here hx rfl (hb hby d3_75) rfl k) ?_
    show ownGo p.tables e below T45 (mkF m 76 #[.val (.ref x0), .val (.ref x1), .val (.ref x2), .val (.int (Int32.ofNat (own_off kb i))), .val (.int (Int32.ofNat i)), s5, s6, s7] [(.long (((up i).toInt64) - ((lo i).toInt64)))]) _
    refine ownGo.st (fun _ k => XS.lstore X45.here hx rfl (hb hby d3_76) rfl (l' := #[.val (.ref x0), .val (.ref x1), .val (.ref x2), .val (.int (Int32.ofNat (own_off kb i))), .val (.int (Int32.ofNat i)), .val (.long (((up i).toInt64) - ((lo i).toInt64))), .second, s7]) (own_os5 h56) k) ?_
    show ownGo p.tables e below T45 (mkF m 78 #[.val (.ref x0), .val (.ref x1), .val (.ref x2), .val (.int (Int32.ofNat (own_off kb i))), .val (.int (Int32.ofNat i)), .val (.long (((up i).toInt64) - ((lo i).toInt64))), .second, s7] []) _
    refine ownGo.st (fun _ k => XS.bipush X45.here hx rfl (hb hby d3_78)  k) ?_
    show ownGo p.tables e below T45 (mkF m 80 #[.val (.ref x0), .val (.ref x1), .val (.ref x2), .val (.int (Int32.ofNat (own_off kb i))), .val (.int (Int32.ofNat i)), .val (.long (((up i).toInt64) - ((lo i).toInt64))), .second, s7] [(.int (64 : Int32))]) _
    refine ownGo.st (fun _ k => XS.lload X45.here hx rfl (hb hby d3_80) rfl k) ?_
    show ownGo p.tables e below T45 (mkF m 82 #[.val (.ref x0), .val (.ref x1), .val (.ref x2), .val (.int (Int32.ofNat (own_off kb i))), .val (.int (Int32.ofNat i)), .val (.long (((up i).toInt64) - ((lo i).toInt64))), .second, s7] [(.long (((up i).toInt64) - ((lo i).toInt64))), (.int (64 : Int32))]) _
    obtain ⟨_, T47, L47, X47, hQ47, st47⟩ := own_callS X45 hx hZ hown (own_at hw 37 rfl) (own_at hw 38 rfl) (own_at hw 39 rfl) (own_at hw 40 rfl) (by decide) (rm5 l Z a0 hw (((up i).toInt64) - ((lo i).toInt64)) h n0) 1 (by decide) (by decide) e45 (by decide) (by decide) (g := (mkF m 82 #[.val (.ref x0), .val (.ref x1), .val (.ref x2), .val (.int (Int32.ofNat (own_off kb i))), .val (.int (Int32.ofNat i)), .val (.long (((up i).toInt64) - ((lo i).toInt64))), .second, s7] [(.long (((up i).toInt64) - ((lo i).toInt64))), (.int (64 : Int32))])) rfl (by rw [hml]; rfl) (argsL := [(.long (((up i).toInt64) - ((lo i).toInt64)))]) (rest := [(.int (64 : Int32))]) (lenOf pd__J_I rfl) rfl (by show 2 * 0 + _ ≤ _; exact Nat.le_of_eq rfl) (hb hby d3_82)
    obtain ⟨rfl, N47q, e47⟩ := hQ47
    have N47 := Fr.app N0 N47q
    refine ownGo.st st47 ?_
    show ownGo p.tables e below T47 (mkF m 85 #[.val (.ref x0), .val (.ref x1), .val (.ref x2), .val (.int (Int32.ofNat (own_off kb i))), .val (.int (Int32.ofNat i)), .val (.long (((up i).toInt64) - ((lo i).toInt64))), .second, s7] [(.int (F5 (((up i).toInt64) - ((lo i).toInt64)))), (.int (64 : Int32))]) _
    refine ownGo.st (fun _ k => XS.isub X47.here hx rfl (hb hby d3_85) rfl k) ?_
    show ownGo p.tables e below T47 (mkF m 86 #[.val (.ref x0), .val (.ref x1), .val (.ref x2), .val (.int (Int32.ofNat (own_off kb i))), .val (.int (Int32.ofNat i)), .val (.long (((up i).toInt64) - ((lo i).toInt64))), .second, s7] [(.int ((64 : Int32) - (F5 (((up i).toInt64) - ((lo i).toInt64)))))]) _
    rw [own_nlz _ (kb i) (hkb i (by omega))]
    show ownGo p.tables e below T47 (mkF m 86 #[.val (.ref x0), .val (.ref x1), .val (.ref x2), .val (.int (Int32.ofNat (own_off kb i))), .val (.int (Int32.ofNat i)), .val (.long (((up i).toInt64) - ((lo i).toInt64))), .second, s7] [(.int (Int32.ofNat (kb i)))]) _
    refine ownGo.st (fun _ k => XS.istore X47.here hx rfl (hb hby d3_86) rfl (l' := #[.val (.ref x0), .val (.ref x1), .val (.ref x2), .val (.int (Int32.ofNat (own_off kb i))), .val (.int (Int32.ofNat i)), .val (.long (((up i).toInt64) - ((lo i).toInt64))), .second, .val (.int (Int32.ofNat (kb i)))]) (own_os7 h7) k) ?_
    show ownGo p.tables e below T47 (mkF m 88 #[.val (.ref x0), .val (.ref x1), .val (.ref x2), .val (.int (Int32.ofNat (own_off kb i))), .val (.int (Int32.ofNat i)), .val (.long (((up i).toInt64) - ((lo i).toInt64))), .second, .val (.int (Int32.ofNat (kb i)))] []) _
    have J48 : ∀ G, ownGo p.tables e below T47 (mkF m 110 #[.val (.ref x0), .val (.ref x1), .val (.ref x2), .val (.int (Int32.ofNat (own_st kb i))), .val (.int (Int32.ofNat i)), .val (.long (((up i).toInt64) - ((lo i).toInt64))), .second, .val (.int (Int32.ofNat (kb i)))] []) G → ownGo p.tables e below T47 (mkF m 88 #[.val (.ref x0), .val (.ref x1), .val (.ref x2), .val (.int (Int32.ofNat (own_off kb i))), .val (.int (Int32.ofNat i)), .val (.long (((up i).toInt64) - ((lo i).toInt64))), .second, .val (.int (Int32.ofNat (kb i)))] []) G := by
      intro G kk
      refine ownGo.st (fun _ k => XS.iloadN X47.here hx rfl (hb hby d3_88) rfl k) ?_
      show ownGo p.tables e below T47 (mkF m 89 #[.val (.ref x0), .val (.ref x1), .val (.ref x2), .val (.int (Int32.ofNat (own_off kb i))), .val (.int (Int32.ofNat i)), .val (.long (((up i).toInt64) - ((lo i).toInt64))), .second, .val (.int (Int32.ofNat (kb i)))] [(.int (Int32.ofNat (own_off kb i)))]) _
      refine ownGo.st (fun _ k => XS.bipush X47.here hx rfl (hb hby d3_89)  k) ?_
      show ownGo p.tables e below T47 (mkF m 91 #[.val (.ref x0), .val (.ref x1), .val (.ref x2), .val (.int (Int32.ofNat (own_off kb i))), .val (.int (Int32.ofNat i)), .val (.long (((up i).toInt64) - ((lo i).toInt64))), .second, .val (.int (Int32.ofNat (kb i)))] [(.int (64 : Int32)), (.int (Int32.ofNat (own_off kb i)))]) _
      refine ownGo.st (fun _ k => iremM X47 hx rfl (hb hby d3_91) rfl (by decide) k) ?_
      show ownGo p.tables e below T47 (mkF m 92 #[.val (.ref x0), .val (.ref x1), .val (.ref x2), .val (.int (Int32.ofNat (own_off kb i))), .val (.int (Int32.ofNat i)), .val (.long (((up i).toInt64) - ((lo i).toInt64))), .second, .val (.int (Int32.ofNat (kb i)))] [(.int ((Int32.ofNat (own_off kb i)) % (64 : Int32)))]) _
      rw [own_rem64 (by omega)]
      show ownGo p.tables e below T47 (mkF m 92 #[.val (.ref x0), .val (.ref x1), .val (.ref x2), .val (.int (Int32.ofNat (own_off kb i))), .val (.int (Int32.ofNat i)), .val (.long (((up i).toInt64) - ((lo i).toInt64))), .second, .val (.int (Int32.ofNat (kb i)))] [(.int (Int32.ofNat (own_off kb i % 64)))]) _
      refine ownGo.st (fun _ k => XS.iload X47.here hx rfl (hb hby d3_92) rfl k) ?_
      show ownGo p.tables e below T47 (mkF m 94 #[.val (.ref x0), .val (.ref x1), .val (.ref x2), .val (.int (Int32.ofNat (own_off kb i))), .val (.int (Int32.ofNat i)), .val (.long (((up i).toInt64) - ((lo i).toInt64))), .second, .val (.int (Int32.ofNat (kb i)))] [(.int (Int32.ofNat (kb i))), (.int (Int32.ofNat (own_off kb i % 64)))]) _
      refine ownGo.st (fun _ k => XS.iadd X47.here hx rfl (hb hby d3_94) rfl k) ?_
      show ownGo p.tables e below T47 (mkF m 95 #[.val (.ref x0), .val (.ref x1), .val (.ref x2), .val (.int (Int32.ofNat (own_off kb i))), .val (.int (Int32.ofNat i)), .val (.long (((up i).toInt64) - ((lo i).toInt64))), .second, .val (.int (Int32.ofNat (kb i)))] [(.int ((Int32.ofNat (own_off kb i % 64)) + (Int32.ofNat (kb i))))]) _
      rw [← Int32.ofNat_add]
      show ownGo p.tables e below T47 (mkF m 95 #[.val (.ref x0), .val (.ref x1), .val (.ref x2), .val (.int (Int32.ofNat (own_off kb i))), .val (.int (Int32.ofNat i)), .val (.long (((up i).toInt64) - ((lo i).toInt64))), .second, .val (.int (Int32.ofNat (kb i)))] [(.int (Int32.ofNat (own_off kb i % 64 + kb i)))]) _
      refine ownGo.st (fun _ k => XS.bipush X47.here hx rfl (hb hby d3_95)  k) ?_
      show ownGo p.tables e below T47 (mkF m 97 #[.val (.ref x0), .val (.ref x1), .val (.ref x2), .val (.int (Int32.ofNat (own_off kb i))), .val (.int (Int32.ofNat i)), .val (.long (((up i).toInt64) - ((lo i).toInt64))), .second, .val (.int (Int32.ofNat (kb i)))] [(.int (64 : Int32)), (.int (Int32.ofNat (own_off kb i % 64 + kb i)))]) _
      by_cases ha : (64 : Int32) < (Int32.ofNat (own_off kb i % 64 + kb i))
      · refine ownGo.st (fun _ k => XS.icmpNo X47.here hx rfl (hb hby d3_97) rfl (tlt ha).2.2.2 k) ?_
        show ownGo p.tables e below T47 (mkF m 100 #[.val (.ref x0), .val (.ref x1), .val (.ref x2), .val (.int (Int32.ofNat (own_off kb i))), .val (.int (Int32.ofNat i)), .val (.long (((up i).toInt64) - ((lo i).toInt64))), .second, .val (.int (Int32.ofNat (kb i)))] []) _
        refine ownGo.st (fun _ k => XS.iloadN X47.here hx rfl (hb hby d3_100) rfl k) ?_
        show ownGo p.tables e below T47 (mkF m 101 #[.val (.ref x0), .val (.ref x1), .val (.ref x2), .val (.int (Int32.ofNat (own_off kb i))), .val (.int (Int32.ofNat i)), .val (.long (((up i).toInt64) - ((lo i).toInt64))), .second, .val (.int (Int32.ofNat (kb i)))] [(.int (Int32.ofNat (own_off kb i)))]) _
        refine ownGo.st (fun _ k => XS.bipush X47.here hx rfl (hb hby d3_101)  k) ?_
        show ownGo p.tables e below T47 (mkF m 103 #[.val (.ref x0), .val (.ref x1), .val (.ref x2), .val (.int (Int32.ofNat (own_off kb i))), .val (.int (Int32.ofNat i)), .val (.long (((up i).toInt64) - ((lo i).toInt64))), .second, .val (.int (Int32.ofNat (kb i)))] [(.int (64 : Int32)), (.int (Int32.ofNat (own_off kb i)))]) _
        refine ownGo.st (fun _ k => XS.iloadN X47.here hx rfl (hb hby d3_103) rfl k) ?_
        show ownGo p.tables e below T47 (mkF m 104 #[.val (.ref x0), .val (.ref x1), .val (.ref x2), .val (.int (Int32.ofNat (own_off kb i))), .val (.int (Int32.ofNat i)), .val (.long (((up i).toInt64) - ((lo i).toInt64))), .second, .val (.int (Int32.ofNat (kb i)))] [(.int (Int32.ofNat (own_off kb i))), (.int (64 : Int32)), (.int (Int32.ofNat (own_off kb i)))]) _
        refine ownGo.st (fun _ k => XS.bipush X47.here hx rfl (hb hby d3_104)  k) ?_
        show ownGo p.tables e below T47 (mkF m 106 #[.val (.ref x0), .val (.ref x1), .val (.ref x2), .val (.int (Int32.ofNat (own_off kb i))), .val (.int (Int32.ofNat i)), .val (.long (((up i).toInt64) - ((lo i).toInt64))), .second, .val (.int (Int32.ofNat (kb i)))] [(.int (64 : Int32)), (.int (Int32.ofNat (own_off kb i))), (.int (64 : Int32)), (.int (Int32.ofNat (own_off kb i)))]) _
        refine ownGo.st (fun _ k => iremM X47 hx rfl (hb hby d3_106) rfl (by decide) k) ?_
        show ownGo p.tables e below T47 (mkF m 107 #[.val (.ref x0), .val (.ref x1), .val (.ref x2), .val (.int (Int32.ofNat (own_off kb i))), .val (.int (Int32.ofNat i)), .val (.long (((up i).toInt64) - ((lo i).toInt64))), .second, .val (.int (Int32.ofNat (kb i)))] [(.int ((Int32.ofNat (own_off kb i)) % (64 : Int32))), (.int (64 : Int32)), (.int (Int32.ofNat (own_off kb i)))]) _
        rw [own_rem64 (by omega)]
        show ownGo p.tables e below T47 (mkF m 107 #[.val (.ref x0), .val (.ref x1), .val (.ref x2), .val (.int (Int32.ofNat (own_off kb i))), .val (.int (Int32.ofNat i)), .val (.long (((up i).toInt64) - ((lo i).toInt64))), .second, .val (.int (Int32.ofNat (kb i)))] [(.int (Int32.ofNat (own_off kb i % 64))), (.int (64 : Int32)), (.int (Int32.ofNat (own_off kb i)))]) _
        refine ownGo.st (fun _ k => XS.isub X47.here hx rfl (hb hby d3_107) rfl k) ?_
        show ownGo p.tables e below T47 (mkF m 108 #[.val (.ref x0), .val (.ref x1), .val (.ref x2), .val (.int (Int32.ofNat (own_off kb i))), .val (.int (Int32.ofNat i)), .val (.long (((up i).toInt64) - ((lo i).toInt64))), .second, .val (.int (Int32.ofNat (kb i)))] [(.int ((64 : Int32) - (Int32.ofNat (own_off kb i % 64)))), (.int (Int32.ofNat (own_off kb i)))]) _
        rw [show (64 : Int32) - Int32.ofNat (own_off kb i % 64) = Int32.ofNat (64 - own_off kb i % 64) from own_sub (a := 64) (by omega) (by decide)]
        show ownGo p.tables e below T47 (mkF m 108 #[.val (.ref x0), .val (.ref x1), .val (.ref x2), .val (.int (Int32.ofNat (own_off kb i))), .val (.int (Int32.ofNat i)), .val (.long (((up i).toInt64) - ((lo i).toInt64))), .second, .val (.int (Int32.ofNat (kb i)))] [(.int (Int32.ofNat (64 - own_off kb i % 64))), (.int (Int32.ofNat (own_off kb i)))]) _
        refine ownGo.st (fun _ k => XS.iadd X47.here hx rfl (hb hby d3_108) rfl k) ?_
        show ownGo p.tables e below T47 (mkF m 109 #[.val (.ref x0), .val (.ref x1), .val (.ref x2), .val (.int (Int32.ofNat (own_off kb i))), .val (.int (Int32.ofNat i)), .val (.long (((up i).toInt64) - ((lo i).toInt64))), .second, .val (.int (Int32.ofNat (kb i)))] [(.int ((Int32.ofNat (own_off kb i)) + (Int32.ofNat (64 - own_off kb i % 64))))]) _
        rw [← Int32.ofNat_add]
        show ownGo p.tables e below T47 (mkF m 109 #[.val (.ref x0), .val (.ref x1), .val (.ref x2), .val (.int (Int32.ofNat (own_off kb i))), .val (.int (Int32.ofNat i)), .val (.long (((up i).toInt64) - ((lo i).toInt64))), .second, .val (.int (Int32.ofNat (kb i)))] [(.int (Int32.ofNat (own_off kb i + (64 - own_off kb i % 64))))]) _
        refine ownGo.st (fun _ k => XS.istoreN X47.here hx rfl (hb hby d3_109) rfl (l' := #[.val (.ref x0), .val (.ref x1), .val (.ref x2), .val (.int (Int32.ofNat (own_off kb i + (64 - own_off kb i % 64)))), .val (.int (Int32.ofNat i)), .val (.long (((up i).toInt64) - ((lo i).toInt64))), .second, .val (.int (Int32.ofNat (kb i)))]) rfl k) ?_
        show ownGo p.tables e below T47 (mkF m 110 #[.val (.ref x0), .val (.ref x1), .val (.ref x2), .val (.int (Int32.ofNat (own_off kb i + (64 - own_off kb i % 64)))), .val (.int (Int32.ofNat i)), .val (.long (((up i).toInt64) - ((lo i).toInt64))), .second, .val (.int (Int32.ofNat (kb i)))] []) _
        have e : own_st kb i = own_off kb i + (64 - own_off kb i % 64) := if_neg (fun y => by have := (own_lt_iff (a := 64) (by decide) (by omega)).mp ha; omega)
        rw [e] at kk
        exact kk
      · refine ownGo.st (fun _ k => XS.icmpYes X47.here hx rfl (pc0 := 97) (pc' := 110) rfl (hb hby d3_97) rfl (flt ha).2.2.2 (by decide) (by decide) k) ?_
        show ownGo p.tables e below T47 (mkF m 110 #[.val (.ref x0), .val (.ref x1), .val (.ref x2), .val (.int (Int32.ofNat (own_off kb i))), .val (.int (Int32.ofNat i)), .val (.long (((up i).toInt64) - ((lo i).toInt64))), .second, .val (.int (Int32.ofNat (kb i)))] []) _
        have e : own_st kb i = own_off kb i := if_pos (Nat.le_of_not_lt fun y => ha ((own_lt_iff (a := 64) (by decide) (by omega)).mpr y))
        rw [e] at kk
        exact kk
    refine J48 _ ?_
    show ownGo p.tables e below T47 (mkF m 110 #[.val (.ref x0), .val (.ref x1), .val (.ref x2), .val (.int (Int32.ofNat (own_st kb i))), .val (.int (Int32.ofNat i)), .val (.long (((up i).toInt64) - ((lo i).toInt64))), .second, .val (.int (Int32.ofNat (kb i)))] []) _
    have al : own_off kb i ≤ own_st kb i ∧ own_st kb i ≤ own_off kb i + 64 := own_al_le _ _
    refine ownGo.st (fun _ k => XS.aloadN X47.here hx rfl (hb hby d3_110) rfl rfl k) ?_
    show ownGo p.tables e below T47 (mkF m 111 #[.val (.ref x0), .val (.ref x1), .val (.ref x2), .val (.int (Int32.ofNat (own_st kb i))), .val (.int (Int32.ofNat i)), .val (.long (((up i).toInt64) - ((lo i).toInt64))), .second, .val (.int (Int32.ofNat (kb i)))] [(.ref x0)]) _
    obtain ⟨T49, X49, e49, st49⟩ := getF X47 hx hZ hown (host := "") (Or.inl (own_at hw 30 rfl)) Via.refl e47 F_wordOf (g := (mkF m 111 #[.val (.ref x0), .val (.ref x1), .val (.ref x2), .val (.int (Int32.ofNat (own_st kb i))), .val (.int (Int32.ofNat i)), .val (.long (((up i).toInt64) - ((lo i).toInt64))), .second, .val (.int (Int32.ofNat (kb i)))] [(.ref x0)])) rfl rfl (hb hby d3_111)
    refine ownGo.st (st49) ?_
    show ownGo p.tables e below T49 (mkF m 114 #[.val (.ref x0), .val (.ref x1), .val (.ref x2), .val (.int (Int32.ofNat (own_st kb i))), .val (.int (Int32.ofNat i)), .val (.long (((up i).toInt64) - ((lo i).toInt64))), .second, .val (.int (Int32.ofNat (kb i)))] [(.ref w)]) _
    refine ownGo.st (fun _ k => XS.iload X49.here hx rfl (hb hby d3_114) rfl k) ?_
    show ownGo p.tables e below T49 (mkF m 116 #[.val (.ref x0), .val (.ref x1), .val (.ref x2), .val (.int (Int32.ofNat (own_st kb i))), .val (.int (Int32.ofNat i)), .val (.long (((up i).toInt64) - ((lo i).toInt64))), .second, .val (.int (Int32.ofNat (kb i)))] [(.int (Int32.ofNat i)), (.ref w)]) _
    refine ownGo.st (fun _ k => XS.iloadN X49.here hx rfl (hb hby d3_116) rfl k) ?_
    show ownGo p.tables e below T49 (mkF m 117 #[.val (.ref x0), .val (.ref x1), .val (.ref x2), .val (.int (Int32.ofNat (own_st kb i))), .val (.int (Int32.ofNat i)), .val (.long (((up i).toInt64) - ((lo i).toInt64))), .second, .val (.int (Int32.ofNat (kb i)))] [(.int (Int32.ofNat (own_st kb i))), (.int (Int32.ofNat i)), (.ref w)]) _
    refine ownGo.st (fun _ k => XS.bipush X49.here hx rfl (hb hby d3_117)  k) ?_
    show ownGo p.tables e below T49 (mkF m 119 #[.val (.ref x0), .val (.ref x1), .val (.ref x2), .val (.int (Int32.ofNat (own_st kb i))), .val (.int (Int32.ofNat i)), .val (.long (((up i).toInt64) - ((lo i).toInt64))), .second, .val (.int (Int32.ofNat (kb i)))] [(.int (64 : Int32)), (.int (Int32.ofNat (own_st kb i))), (.int (Int32.ofNat i)), (.ref w)]) _
    refine ownGo.st (fun _ k => XS.idiv X49.here hx rfl (hb hby d3_119) rfl (by decide) k) ?_
    show ownGo p.tables e below T49 (mkF m 120 #[.val (.ref x0), .val (.ref x1), .val (.ref x2), .val (.int (Int32.ofNat (own_st kb i))), .val (.int (Int32.ofNat i)), .val (.long (((up i).toInt64) - ((lo i).toInt64))), .second, .val (.int (Int32.ofNat (kb i)))] [(.int ((Int32.ofNat (own_st kb i)) / (64 : Int32))), (.int (Int32.ofNat i)), (.ref w)]) _
    rw [own_div64 (by omega)]
    show ownGo p.tables e below T49 (mkF m 120 #[.val (.ref x0), .val (.ref x1), .val (.ref x2), .val (.int (Int32.ofNat (own_st kb i))), .val (.int (Int32.ofNat i)), .val (.long (((up i).toInt64) - ((lo i).toInt64))), .second, .val (.int (Int32.ofNat (kb i)))] [(.int (Int32.ofNat (own_st kb i / 64))), (.int (Int32.ofNat i)), (.ref w)]) _
    obtain ⟨T50, h50, X50, e50, W50, V_w_50, st50⟩ := own_iastore X49 hx hZ e49 Vw (i := i) rfl (by omega) (g := (mkF m 120 #[.val (.ref x0), .val (.ref x1), .val (.ref x2), .val (.int (Int32.ofNat (own_st kb i))), .val (.int (Int32.ofNat i)), .val (.long (((up i).toInt64) - ((lo i).toInt64))), .second, .val (.int (Int32.ofNat (kb i)))] [(.int (Int32.ofNat (own_st kb i / 64))), (.int (Int32.ofNat i)), (.ref w)])) rfl rfl (hb hby d3_120)
    have E0_51 := E0.wr W50
    have F_width_52 := F_width.other W50 (Or.inl ne_x0_w)
    have F_lowerBounds_53 := F_lowerBounds.other W50 (Or.inl ne_x0_w)
    have F_wordOf_54 := F_wordOf.other W50 (Or.inl ne_x0_w)
    have F_shiftOf_55 := F_shiftOf.other W50 (Or.inl ne_x0_w)
    have F_maskOf_56 := F_maskOf.other W50 (Or.inl ne_x0_w)
    have F_bits_57 := F_bits.other W50 (Or.inl ne_x0_w)
    have F_words_58 := F_words.other W50 (Or.inl ne_x0_w)
    have V1_59 := V1.other W50 ne_x1_w
    have V2_60 := V2.other W50 ne_x2_w
    have VL_61 := VL.other W50 ne_lb_w
    have Vs_62 := Vs.other W50 (Ne.symm ne_w_sh)
    have Vk_63 := Vk.other W50 (Ne.symm ne_w_k)
    have N50 := Fr.snoc X50 N47 gz_w
    have Z50 : n0 ≤ h50.size := Nat.le_trans Z1 (Nat.le_of_eq W50.size.symm)
    have K50 := K0.wr W50 (Or.inr sz_w)
    refine ownGo.st (st50) ?_
    show ownGo p.tables e below T50 (mkF m 121 #[.val (.ref x0), .val (.ref x1), .val (.ref x2), .val (.int (Int32.ofNat (own_st kb i))), .val (.int (Int32.ofNat i)), .val (.long (((up i).toInt64) - ((lo i).toInt64))), .second, .val (.int (Int32.ofNat (kb i)))] []) _
    refine ownGo.st (fun _ k => XS.aloadN X50.here hx rfl (hb hby d3_121) rfl rfl k) ?_
    show ownGo p.tables e below T50 (mkF m 122 #[.val (.ref x0), .val (.ref x1), .val (.ref x2), .val (.int (Int32.ofNat (own_st kb i))), .val (.int (Int32.ofNat i)), .val (.long (((up i).toInt64) - ((lo i).toInt64))), .second, .val (.int (Int32.ofNat (kb i)))] [(.ref x0)]) _
    obtain ⟨T64, X64, e64, st64⟩ := getF X50 hx hZ hown (host := "") (Or.inl (own_at hw 32 rfl)) Via.refl e50 F_shiftOf_55 (g := (mkF m 122 #[.val (.ref x0), .val (.ref x1), .val (.ref x2), .val (.int (Int32.ofNat (own_st kb i))), .val (.int (Int32.ofNat i)), .val (.long (((up i).toInt64) - ((lo i).toInt64))), .second, .val (.int (Int32.ofNat (kb i)))] [(.ref x0)])) rfl rfl (hb hby d3_122)
    refine ownGo.st (st64) ?_
    show ownGo p.tables e below T64 (mkF m 125 #[.val (.ref x0), .val (.ref x1), .val (.ref x2), .val (.int (Int32.ofNat (own_st kb i))), .val (.int (Int32.ofNat i)), .val (.long (((up i).toInt64) - ((lo i).toInt64))), .second, .val (.int (Int32.ofNat (kb i)))] [(.ref sh)]) _
    refine ownGo.st (fun _ k => XS.iload X64.here hx rfl (hb hby d3_125) rfl k) ?_
    show ownGo p.tables e below T64 (mkF m 127 #[.val (.ref x0), .val (.ref x1), .val (.ref x2), .val (.int (Int32.ofNat (own_st kb i))), .val (.int (Int32.ofNat i)), .val (.long (((up i).toInt64) - ((lo i).toInt64))), .second, .val (.int (Int32.ofNat (kb i)))] [(.int (Int32.ofNat i)), (.ref sh)]) _
    refine ownGo.st (fun _ k => XS.iloadN X64.here hx rfl (hb hby d3_127) rfl k) ?_
    show ownGo p.tables e below T64 (mkF m 128 #[.val (.ref x0), .val (.ref x1), .val (.ref x2), .val (.int (Int32.ofNat (own_st kb i))), .val (.int (Int32.ofNat i)), .val (.long (((up i).toInt64) - ((lo i).toInt64))), .second, .val (.int (Int32.ofNat (kb i)))] [(.int (Int32.ofNat (own_st kb i))), (.int (Int32.ofNat i)), (.ref sh)]) _
    refine ownGo.st (fun _ k => XS.bipush X64.here hx rfl (hb hby d3_128)  k) ?_
    show ownGo p.tables e below T64 (mkF m 130 #[.val (.ref x0), .val (.ref x1), .val (.ref x2), .val (.int (Int32.ofNat (own_st kb i))), .val (.int (Int32.ofNat i)), .val (.long (((up i).toInt64) - ((lo i).toInt64))), .second, .val (.int (Int32.ofNat (kb i)))] [(.int (64 : Int32)), (.int (Int32.ofNat (own_st kb i))), (.int (Int32.ofNat i)), (.ref sh)]) _
    refine ownGo.st (fun _ k => iremM X64 hx rfl (hb hby d3_130) rfl (by decide) k) ?_
    show ownGo p.tables e below T64 (mkF m 131 #[.val (.ref x0), .val (.ref x1), .val (.ref x2), .val (.int (Int32.ofNat (own_st kb i))), .val (.int (Int32.ofNat i)), .val (.long (((up i).toInt64) - ((lo i).toInt64))), .second, .val (.int (Int32.ofNat (kb i)))] [(.int ((Int32.ofNat (own_st kb i)) % (64 : Int32))), (.int (Int32.ofNat i)), (.ref sh)]) _
    rw [own_rem64 (by omega)]
    show ownGo p.tables e below T64 (mkF m 131 #[.val (.ref x0), .val (.ref x1), .val (.ref x2), .val (.int (Int32.ofNat (own_st kb i))), .val (.int (Int32.ofNat i)), .val (.long (((up i).toInt64) - ((lo i).toInt64))), .second, .val (.int (Int32.ofNat (kb i)))] [(.int (Int32.ofNat (own_st kb i % 64))), (.int (Int32.ofNat i)), (.ref sh)]) _
    obtain ⟨T65, h65, X65, e65, W65, V_sh_65, st65⟩ := own_iastore X64 hx hZ e64 Vs_62 (i := i) rfl (by omega) (g := (mkF m 131 #[.val (.ref x0), .val (.ref x1), .val (.ref x2), .val (.int (Int32.ofNat (own_st kb i))), .val (.int (Int32.ofNat i)), .val (.long (((up i).toInt64) - ((lo i).toInt64))), .second, .val (.int (Int32.ofNat (kb i)))] [(.int (Int32.ofNat (own_st kb i % 64))), (.int (Int32.ofNat i)), (.ref sh)])) rfl rfl (hb hby d3_131)
    have E0_66 := E0_51.wr W65
    have F_width_67 := F_width_52.other W65 (Or.inl ne_x0_sh)
    have F_lowerBounds_68 := F_lowerBounds_53.other W65 (Or.inl ne_x0_sh)
    have F_wordOf_69 := F_wordOf_54.other W65 (Or.inl ne_x0_sh)
    have F_shiftOf_70 := F_shiftOf_55.other W65 (Or.inl ne_x0_sh)
    have F_maskOf_71 := F_maskOf_56.other W65 (Or.inl ne_x0_sh)
    have F_bits_72 := F_bits_57.other W65 (Or.inl ne_x0_sh)
    have F_words_73 := F_words_58.other W65 (Or.inl ne_x0_sh)
    have V1_74 := V1_59.other W65 ne_x1_sh
    have V2_75 := V2_60.other W65 ne_x2_sh
    have VL_76 := VL_61.other W65 ne_lb_sh
    have V_w_77 := V_w_50.other W65 ne_w_sh
    have Vk_78 := Vk_63.other W65 (Ne.symm ne_sh_k)
    have N65 := Fr.snoc X65 N50 gz_sh
    have Z65 : n0 ≤ h65.size := Nat.le_trans Z50 (Nat.le_of_eq W65.size.symm)
    have K65 := K50.wr W65 (Or.inr sz_sh)
    refine ownGo.st (st65) ?_
    show ownGo p.tables e below T65 (mkF m 132 #[.val (.ref x0), .val (.ref x1), .val (.ref x2), .val (.int (Int32.ofNat (own_st kb i))), .val (.int (Int32.ofNat i)), .val (.long (((up i).toInt64) - ((lo i).toInt64))), .second, .val (.int (Int32.ofNat (kb i)))] []) _
    refine ownGo.st (fun _ k => XS.aloadN X65.here hx rfl (hb hby d3_132) rfl rfl k) ?_
    show ownGo p.tables e below T65 (mkF m 133 #[.val (.ref x0), .val (.ref x1), .val (.ref x2), .val (.int (Int32.ofNat (own_st kb i))), .val (.int (Int32.ofNat i)), .val (.long (((up i).toInt64) - ((lo i).toInt64))), .second, .val (.int (Int32.ofNat (kb i)))] [(.ref x0)]) _
    obtain ⟨T79, X79, e79, st79⟩ := getF X65 hx hZ hown (host := "") (Or.inl (own_at hw 35 rfl)) Via.refl e65 F_maskOf_71 (g := (mkF m 133 #[.val (.ref x0), .val (.ref x1), .val (.ref x2), .val (.int (Int32.ofNat (own_st kb i))), .val (.int (Int32.ofNat i)), .val (.long (((up i).toInt64) - ((lo i).toInt64))), .second, .val (.int (Int32.ofNat (kb i)))] [(.ref x0)])) rfl rfl (hb hby d3_133)
    refine ownGo.st (st79) ?_
    show ownGo p.tables e below T79 (mkF m 136 #[.val (.ref x0), .val (.ref x1), .val (.ref x2), .val (.int (Int32.ofNat (own_st kb i))), .val (.int (Int32.ofNat i)), .val (.long (((up i).toInt64) - ((lo i).toInt64))), .second, .val (.int (Int32.ofNat (kb i)))] [(.ref k)]) _
    refine ownGo.st (fun _ k => XS.iload X79.here hx rfl (hb hby d3_136) rfl k) ?_
    show ownGo p.tables e below T79 (mkF m 138 #[.val (.ref x0), .val (.ref x1), .val (.ref x2), .val (.int (Int32.ofNat (own_st kb i))), .val (.int (Int32.ofNat i)), .val (.long (((up i).toInt64) - ((lo i).toInt64))), .second, .val (.int (Int32.ofNat (kb i)))] [(.int (Int32.ofNat i)), (.ref k)]) _
    refine ownGo.st (fun _ k => XS.iload X79.here hx rfl (hb hby d3_138) rfl k) ?_
    show ownGo p.tables e below T79 (mkF m 140 #[.val (.ref x0), .val (.ref x1), .val (.ref x2), .val (.int (Int32.ofNat (own_st kb i))), .val (.int (Int32.ofNat i)), .val (.long (((up i).toInt64) - ((lo i).toInt64))), .second, .val (.int (Int32.ofNat (kb i)))] [(.int (Int32.ofNat (kb i))), (.int (Int32.ofNat i)), (.ref k)]) _
    refine ownGo.st (fun _ k => XS.bipush X79.here hx rfl (hb hby d3_140)  k) ?_
    show ownGo p.tables e below T79 (mkF m 142 #[.val (.ref x0), .val (.ref x1), .val (.ref x2), .val (.int (Int32.ofNat (own_st kb i))), .val (.int (Int32.ofNat i)), .val (.long (((up i).toInt64) - ((lo i).toInt64))), .second, .val (.int (Int32.ofNat (kb i)))] [(.int (64 : Int32)), (.int (Int32.ofNat (kb i))), (.int (Int32.ofNat i)), (.ref k)]) _
    have hc80 : ¬ ((Int32.ofNat (kb i)) = (64 : Int32)) := fun y => by have := (own_eq_iff (b := 64) (by omega) (by decide)).mp y; omega
    refine ownGo.st (fun _ k => XS.icmpYes X79.here hx rfl (pc0 := 142) (pc' := 151) rfl (hb hby d3_142) rfl (feq hc80).2 (by decide) (by decide) k) ?_
    show ownGo p.tables e below T79 (mkF m 151 #[.val (.ref x0), .val (.ref x1), .val (.ref x2), .val (.int (Int32.ofNat (own_st kb i))), .val (.int (Int32.ofNat i)), .val (.long (((up i).toInt64) - ((lo i).toInt64))), .second, .val (.int (Int32.ofNat (kb i)))] [(.int (Int32.ofNat i)), (.ref k)]) _
    refine ownGo.st (fun _ k => XS.lconst X79.here hx rfl (hb hby d3_151)  k) ?_
    show ownGo p.tables e below T79 (mkF m 152 #[.val (.ref x0), .val (.ref x1), .val (.ref x2), .val (.int (Int32.ofNat (own_st kb i))), .val (.int (Int32.ofNat i)), .val (.long (((up i).toInt64) - ((lo i).toInt64))), .second, .val (.int (Int32.ofNat (kb i)))] [(.long (1 : Int64)), (.int (Int32.ofNat i)), (.ref k)]) _
    refine ownGo.st (fun _ k => XS.iload X79.here hx rfl (hb hby d3_152) rfl k) ?_
    show ownGo p.tables e below T79 (mkF m 154 #[.val (.ref x0), .val (.ref x1), .val (.ref x2), .val (.int (Int32.ofNat (own_st kb i))), .val (.int (Int32.ofNat i)), .val (.long (((up i).toInt64) - ((lo i).toInt64))), .second, .val (.int (Int32.ofNat (kb i)))] [(.int (Int32.ofNat (kb i))), (.long (1 : Int64)), (.int (Int32.ofNat i)), (.ref k)]) _
    refine ownGo.st (fun _ k => XS.lshl X79.here hx rfl (hb hby d3_154) rfl k) ?_
    show ownGo p.tables e below T79 (mkF m 155 #[.val (.ref x0), .val (.ref x1), .val (.ref x2), .val (.int (Int32.ofNat (own_st kb i))), .val (.int (Int32.ofNat i)), .val (.long (((up i).toInt64) - ((lo i).toInt64))), .second, .val (.int (Int32.ofNat (kb i)))] [(.long (own_lshl (1 : Int64) (Int32.ofNat (kb i)))), (.int (Int32.ofNat i)), (.ref k)]) _
    refine ownGo.st (fun _ k => XS.lconst X79.here hx rfl (hb hby d3_155)  k) ?_
    show ownGo p.tables e below T79 (mkF m 156 #[.val (.ref x0), .val (.ref x1), .val (.ref x2), .val (.int (Int32.ofNat (own_st kb i))), .val (.int (Int32.ofNat i)), .val (.long (((up i).toInt64) - ((lo i).toInt64))), .second, .val (.int (Int32.ofNat (kb i)))] [(.long (1 : Int64)), (.long (own_lshl (1 : Int64) (Int32.ofNat (kb i)))), (.int (Int32.ofNat i)), (.ref k)]) _
    refine ownGo.st (fun _ k => XS.lsub X79.here hx rfl (hb hby d3_156) rfl k) ?_
    show ownGo p.tables e below T79 (mkF m 157 #[.val (.ref x0), .val (.ref x1), .val (.ref x2), .val (.int (Int32.ofNat (own_st kb i))), .val (.int (Int32.ofNat i)), .val (.long (((up i).toInt64) - ((lo i).toInt64))), .second, .val (.int (Int32.ofNat (kb i)))] [(.long ((own_lshl (1 : Int64) (Int32.ofNat (kb i))) - (1 : Int64))), (.int (Int32.ofNat i)), (.ref k)]) _
    obtain ⟨T81, h81, X81, e81, W81, V_k_81, st81⟩ := own_lastore X79 hx hZ e79 Vk_78 (i := i) rfl (by omega) (g := (mkF m 157 #[.val (.ref x0), .val (.ref x1), .val (.ref x2), .val (.int (Int32.ofNat (own_st kb i))), .val (.int (Int32.ofNat i)), .val (.long (((up i).toInt64) - ((lo i).toInt64))), .second, .val (.int (Int32.ofNat (kb i)))] [(.long ((own_lshl (1 : Int64) (Int32.ofNat (kb i))) - (1 : Int64))), (.int (Int32.ofNat i)), (.ref k)])) rfl rfl (hb hby d3_157)
    have E0_82 := E0_66.wr W81
    have F_width_83 := F_width_67.other W81 (Or.inl ne_x0_k)
    have F_lowerBounds_84 := F_lowerBounds_68.other W81 (Or.inl ne_x0_k)
    have F_wordOf_85 := F_wordOf_69.other W81 (Or.inl ne_x0_k)
    have F_shiftOf_86 := F_shiftOf_70.other W81 (Or.inl ne_x0_k)
    have F_maskOf_87 := F_maskOf_71.other W81 (Or.inl ne_x0_k)
    have F_bits_88 := F_bits_72.other W81 (Or.inl ne_x0_k)
    have F_words_89 := F_words_73.other W81 (Or.inl ne_x0_k)
    have V1_90 := V1_74.other W81 ne_x1_k
    have V2_91 := V2_75.other W81 ne_x2_k
    have VL_92 := VL_76.other W81 ne_lb_k
    have V_w_93 := V_w_77.other W81 ne_w_k
    have V_sh_94 := V_sh_65.other W81 ne_sh_k
    have N81 := Fr.snoc X81 N65 gz_k
    have Z81 : n0 ≤ h81.size := Nat.le_trans Z65 (Nat.le_of_eq W81.size.symm)
    have K81 := K65.wr W81 (Or.inr sz_k)
    refine ownGo.st (st81) ?_
    show ownGo p.tables e below T81 (mkF m 158 #[.val (.ref x0), .val (.ref x1), .val (.ref x2), .val (.int (Int32.ofNat (own_st kb i))), .val (.int (Int32.ofNat i)), .val (.long (((up i).toInt64) - ((lo i).toInt64))), .second, .val (.int (Int32.ofNat (kb i)))] []) _
    refine ownGo.st (fun _ k => XS.iloadN X81.here hx rfl (hb hby d3_158) rfl k) ?_
    show ownGo p.tables e below T81 (mkF m 159 #[.val (.ref x0), .val (.ref x1), .val (.ref x2), .val (.int (Int32.ofNat (own_st kb i))), .val (.int (Int32.ofNat i)), .val (.long (((up i).toInt64) - ((lo i).toInt64))), .second, .val (.int (Int32.ofNat (kb i)))] [(.int (Int32.ofNat (own_st kb i)))]) _
    refine ownGo.st (fun _ k => XS.iload X81.here hx rfl (hb hby d3_159) rfl k) ?_
    show ownGo p.tables e below T81 (mkF m 161 #[.val (.ref x0), .val (.ref x1), .val (.ref x2), .val (.int (Int32.ofNat (own_st kb i))), .val (.int (Int32.ofNat i)), .val (.long (((up i).toInt64) - ((lo i).toInt64))), .second, .val (.int (Int32.ofNat (kb i)))] [(.int (Int32.ofNat (kb i))), (.int (Int32.ofNat (own_st kb i)))]) _
    refine ownGo.st (fun _ k => XS.iadd X81.here hx rfl (hb hby d3_161) rfl k) ?_
    show ownGo p.tables e below T81 (mkF m 162 #[.val (.ref x0), .val (.ref x1), .val (.ref x2), .val (.int (Int32.ofNat (own_st kb i))), .val (.int (Int32.ofNat i)), .val (.long (((up i).toInt64) - ((lo i).toInt64))), .second, .val (.int (Int32.ofNat (kb i)))] [(.int ((Int32.ofNat (own_st kb i)) + (Int32.ofNat (kb i))))]) _
    rw [show Int32.ofNat (own_st kb i) + Int32.ofNat (kb i) = Int32.ofNat (own_off kb (i + 1)) from (Int32.ofNat_add _ _).symm]
    show ownGo p.tables e below T81 (mkF m 162 #[.val (.ref x0), .val (.ref x1), .val (.ref x2), .val (.int (Int32.ofNat (own_st kb i))), .val (.int (Int32.ofNat i)), .val (.long (((up i).toInt64) - ((lo i).toInt64))), .second, .val (.int (Int32.ofNat (kb i)))] [(.int (Int32.ofNat (own_off kb (i + 1))))]) _
    refine ownGo.st (fun _ k => XS.istoreN X81.here hx rfl (hb hby d3_162) rfl (l' := #[.val (.ref x0), .val (.ref x1), .val (.ref x2), .val (.int (Int32.ofNat (own_off kb (i + 1)))), .val (.int (Int32.ofNat i)), .val (.long (((up i).toInt64) - ((lo i).toInt64))), .second, .val (.int (Int32.ofNat (kb i)))]) rfl k) ?_
    show ownGo p.tables e below T81 (mkF m 163 #[.val (.ref x0), .val (.ref x1), .val (.ref x2), .val (.int (Int32.ofNat (own_off kb (i + 1)))), .val (.int (Int32.ofNat i)), .val (.long (((up i).toInt64) - ((lo i).toInt64))), .second, .val (.int (Int32.ofNat (kb i)))] []) _
    refine ownGo.st (fun _ k => XS.iinc X81.here hx rfl (hb hby d3_163) rfl (l' := #[.val (.ref x0), .val (.ref x1), .val (.ref x2), .val (.int (Int32.ofNat (own_off kb (i + 1)))), .val (.int ((Int32.ofNat i) + (1 : Int32))), .val (.long (((up i).toInt64) - ((lo i).toInt64))), .second, .val (.int (Int32.ofNat (kb i)))]) rfl k) ?_
    show ownGo p.tables e below T81 (mkF m 166 #[.val (.ref x0), .val (.ref x1), .val (.ref x2), .val (.int (Int32.ofNat (own_off kb (i + 1)))), .val (.int ((Int32.ofNat i) + (1 : Int32))), .val (.long (((up i).toInt64) - ((lo i).toInt64))), .second, .val (.int (Int32.ofNat (kb i)))] []) _
    refine ownGo.st (fun _ k => XS.goto X81.here hx rfl (pc0 := 166) (pc' := 56) rfl (hb hby d3_166) (by decide) (by decide) k) ?_
    show ownGo p.tables e below T81 (mkF m 56 #[.val (.ref x0), .val (.ref x1), .val (.ref x2), .val (.int (Int32.ofNat (own_off kb (i + 1)))), .val (.int ((Int32.ofNat i) + (1 : Int32))), .val (.long (((up i).toInt64) - ((lo i).toInt64))), .second, .val (.int (Int32.ofNat (kb i)))] []) _
    rw [show Int32.ofNat i + (1 : Int32) = Int32.ofNat (i + 1) from (Int32.ofNat_add i 1).symm]
    exact ih (i + 1) (by omega) T81 h81 _ _ _ _ _ _ _ (Or.inr ⟨_, rfl, rfl⟩) (One.val rfl) X81 e81 N81 Z81 K81 E0_82 F_width_83 F_lowerBounds_84 F_wordOf_85 F_shiftOf_86 F_maskOf_87 F_bits_88 F_words_89 V1_90 V2_91 VL_92 V_w_93 (own_upto hw_) V_sh_94 (own_upto hs_) V_k_81 (own_upto hk_)
theorem pn_3 : plainName "com/example/ningbo/ningbo/engine/StateLayout" = true := by first | (simp [plainName, overriddenIn]; done) | decide +kernel
theorem ef_3 (m : MethodId) (x0 : Addr) (x1 : Addr) (x2 : Addr) : entryFrame m #[(.ref x0), (.ref x1), (.ref x2)] 8 = mkF m 0 #[.val (.ref x0), .val (.ref x1), .val (.ref x2), .unset, .unset, .unset, .unset, .unset] [] := by first | (simp [entryFrame, mkF, argsToLocals, Value.category]; done) | rfl
set_option maxRecDepth 65536 in
set_option maxHeartbeats 40000000 in
theorem rm3 (l : Launch) (Z : State) (a0 : Array Value) (hw : ∀ d ∈ tables_1, d.before a0 Z = true) (x0 x1 x2 : Addr) (lo up : Nat → Int32) (kb : Nat → Nat) (h0 : Heap) (n0 : Nat) (Z0 : n0 ≤ h0.size) (gz_x0 : n0 ≤ x0) (hne1 : x0 ≠ x1) (hne2 : x0 ≠ x2) (E0 : Exa Z h0 x0 "com/example/ningbo/ningbo/engine/StateLayout") (F_width : Fld Z h0 x0 "com/example/ningbo/ningbo/engine/StateLayout" "width" "I" (.int (0 : Int32))) (F_lowerBounds : Fld Z h0 x0 "com/example/ningbo/ningbo/engine/StateLayout" "lowerBounds" "[I" .null) (F_wordOf : Fld Z h0 x0 "com/example/ningbo/ningbo/engine/StateLayout" "wordOf" "[I" .null) (F_shiftOf : Fld Z h0 x0 "com/example/ningbo/ningbo/engine/StateLayout" "shiftOf" "[I" .null) (F_maskOf : Fld Z h0 x0 "com/example/ningbo/ningbo/engine/StateLayout" "maskOf" "[J" .null) (F_bits : Fld Z h0 x0 "com/example/ningbo/ningbo/engine/StateLayout" "bits" "I" (.int (0 : Int32))) (F_words : Fld Z h0 x0 "com/example/ningbo/ningbo/engine/StateLayout" "words" "I" (.int (0 : Int32))) (Ex1 : Exa Z h0 x1 "[I") (V1 : ownA Z h0 x1 .int 2 (fun i => .int (lo i))) (V2 : ownA Z h0 x2 .int 2 (fun i => .int (up i))) (hkb : ∀ i, i < 2 → ownBits ((up i).toInt64 - (lo i).toInt64).toInt (kb i)) :
    MetFree l (⟨"com/example/ningbo/ningbo/engine/StateLayout", "<init>", "([I[I)V"⟩ : MethodName) (head1 [Jvm.Cond.code (⟨"com/example/ningbo/ningbo/engine/StateLayout", "<init>", "([I[I)V"⟩ : MethodName) prog_49_method_1_code 8 none] R3) (fun a U => a = #[(.ref x0), (.ref x1), (.ref x2)] ∧ Z.Warmed39 U.vm ∧ U.heap = h0) (fun _ _ _ _ _ => True) (fun _ U o U' => ∃ v L, o = .returned v ∧ ownMade Z x0 lo kb h0 n0 v U'.heap L ∧ FrameEnd U o U' L R3.cells R3.slots) := by
  refine MetFree.of_bodySF (plainFor_of_name pn_3) hisR ?_
  intro p e s m args below meth c s₁ Bd hml0 hP hK
  obtain ⟨rfl, hZ, hh⟩ := hP
  have hx := Bd.exec
  have hby := Bd.bytes
  have hml : c.maxLocals = 8 := hml0
  have hown : s.vm.findClass "com/example/ningbo/ningbo/engine/StateLayout" = some m.cls := findClass_of_methodNamed Bd.named
  have hnm := (name_of_methodNamed Bd.named Bd.method).1
  have hret := Bd.returns
  have hlk : meth.locks = false := BodyLoose.notSynchronized Bd
  have X0 : Stand p l e R3 s m #[(.ref x0), (.ref x1), (.ref x2)] below meth c s₁ [] 0 0 := Stand.of_body Bd
  have e0 : s₁.heap = h0 := by rw [← hh, Bd.state]; rfl
  have N0 := Fr.nil n0
  show ownGo p.tables e below s₁ (entryFrame m #[(.ref x0), (.ref x1), (.ref x2)] 8) (ownDone s (ownMade Z x0 lo kb h0 n0) R3.cells R3.slots)
  rw [ef_3 m x0 x1 x2]
  have K0 : Keep h0 h0 [x0] := Keep.refl _ _
  have sx0 : x0 ≤ h0.size := Nat.le_of_lt E0.lt
  show ownGo p.tables e below s₁ (mkF m 0 #[.val (.ref x0), .val (.ref x1), .val (.ref x2), .unset, .unset, .unset, .unset, .unset] []) _
  refine ownGo.st (fun _ k => XS.aloadN X0.here hx rfl (hb hby d3_0) rfl rfl k) ?_
  show ownGo p.tables e below s₁ (mkF m 1 #[.val (.ref x0), .val (.ref x1), .val (.ref x2), .unset, .unset, .unset, .unset, .unset] [(.ref x0)]) _
  obtain ⟨T95, X95, e95, st95⟩ := initO X0 hx hZ hown (own_at hw 14 rfl) (own_at hw 15 rfl) (own_at hw 16 rfl) e0 (g := (mkF m 1 #[.val (.ref x0), .val (.ref x1), .val (.ref x2), .unset, .unset, .unset, .unset, .unset] [(.ref x0)])) rfl (by rw [hml]; rfl) rfl (hb hby d3_1) (by decide) (W := 0) (by show 2 * 0 + _ ≤ _; exact Nat.le_of_eq rfl) (by decide)
  refine ownGo.st (st95) ?_
  show ownGo p.tables e below T95 (mkF m 4 #[.val (.ref x0), .val (.ref x1), .val (.ref x2), .unset, .unset, .unset, .unset, .unset] []) _
  refine ownGo.st (fun _ k => XS.aloadN X95.here hx rfl (hb hby d3_4) rfl rfl k) ?_
  show ownGo p.tables e below T95 (mkF m 5 #[.val (.ref x0), .val (.ref x1), .val (.ref x2), .unset, .unset, .unset, .unset, .unset] [(.ref x0)]) _
  refine ownGo.st (fun _ k => XS.aloadN X95.here hx rfl (hb hby d3_5) rfl rfl k) ?_
  show ownGo p.tables e below T95 (mkF m 6 #[.val (.ref x0), .val (.ref x1), .val (.ref x2), .unset, .unset, .unset, .unset, .unset] [(.ref x1), (.ref x0)]) _
  refine ownGo.st (own_alen X95 hx hZ e95 V1 (g := (mkF m 6 #[.val (.ref x0), .val (.ref x1), .val (.ref x2), .unset, .unset, .unset, .unset, .unset] [(.ref x1), (.ref x0)])) rfl rfl (hb hby d3_6)) ?_
  show ownGo p.tables e below T95 (mkF m 7 #[.val (.ref x0), .val (.ref x1), .val (.ref x2), .unset, .unset, .unset, .unset, .unset] [(.int (2 : Int32)), (.ref x0)]) _
  obtain ⟨T96, h96, X96, e96, W96, st96⟩ := putF X95 hx hZ hown (host := "") (Or.inl (own_at hw 17 rfl)) Via.refl e95 F_width E0 (Or.inr ⟨(own_at hw 18 rfl), rfl, hnm⟩) (own_at hw 9 rfl) (ty := .int) (by decide) rfl rfl (g := (mkF m 7 #[.val (.ref x0), .val (.ref x1), .val (.ref x2), .unset, .unset, .unset, .unset, .unset] [(.int (2 : Int32)), (.ref x0)])) rfl rfl (hb hby d3_7)
  have E0_97 := E0.wr W96
  have Ex1_98 := Ex1.wr W96
  have V1_99 := V1.other W96 (Ne.symm hne1)
  have V2_100 := V2.other W96 (Ne.symm hne2)
  have F_width_101 := F_width.same W96
  have F_lowerBounds_102 := F_lowerBounds.other W96 (Or.inr (slot_ne (Or.inr (own_at hw 29 rfl)) (Or.inr (own_at hw 18 rfl)) (by decide) (t := (.array .int)) (t' := .int) (by decide) (by decide)))
  have F_wordOf_103 := F_wordOf.other W96 (Or.inr (slot_ne (Or.inr (own_at hw 31 rfl)) (Or.inr (own_at hw 18 rfl)) (by decide) (t := (.array .int)) (t' := .int) (by decide) (by decide)))
  have F_shiftOf_104 := F_shiftOf.other W96 (Or.inr (slot_ne (Or.inr (own_at hw 33 rfl)) (Or.inr (own_at hw 18 rfl)) (by decide) (t := (.array .int)) (t' := .int) (by decide) (by decide)))
  have F_maskOf_105 := F_maskOf.other W96 (Or.inr (slot_ne (Or.inr (own_at hw 36 rfl)) (Or.inr (own_at hw 18 rfl)) (by decide) (t := (.array .long)) (t' := .int) (by decide) (by decide)))
  have F_bits_106 := F_bits.other W96 (Or.inr (slot_ne (Or.inr (own_at hw 47 rfl)) (Or.inr (own_at hw 18 rfl)) (by decide) (t := .int) (t' := .int) (by decide) (by decide)))
  have F_words_107 := F_words.other W96 (Or.inr (slot_ne (Or.inr (own_at hw 50 rfl)) (Or.inr (own_at hw 18 rfl)) (by decide) (t := .int) (t' := .int) (by decide) (by decide)))
  have N96 := Fr.snoc X96 N0 gz_x0
  have Z96 : n0 ≤ h96.size := Nat.le_trans Z0 (Nat.le_of_eq W96.size.symm)
  have K96 := K0.wr W96 (Or.inl (List.mem_singleton.mpr rfl))
  refine ownGo.st (st96) ?_
  show ownGo p.tables e below T96 (mkF m 10 #[.val (.ref x0), .val (.ref x1), .val (.ref x2), .unset, .unset, .unset, .unset, .unset] []) _
  refine ownGo.st (fun _ k => XS.aloadN X96.here hx rfl (hb hby d3_10) rfl rfl k) ?_
  show ownGo p.tables e below T96 (mkF m 11 #[.val (.ref x0), .val (.ref x1), .val (.ref x2), .unset, .unset, .unset, .unset, .unset] [(.ref x0)]) _
  refine ownGo.st (fun _ k => XS.aloadN X96.here hx rfl (hb hby d3_11) rfl rfl k) ?_
  show ownGo p.tables e below T96 (mkF m 12 #[.val (.ref x0), .val (.ref x1), .val (.ref x2), .unset, .unset, .unset, .unset, .unset] [(.ref x1), (.ref x0)]) _
  obtain ⟨kc108, Vc108⟩ := V1_99.arv (.int 0)
  obtain ⟨T108, h108, X108, e108, E108, V_lb, Ex_lb, st108⟩ := cloneH X96 hx hZ hown (own_at hw 19 rfl) (own_at hw 20 rfl) (own_at hw 24 rfl) (own_at hw 22 rfl) (own_at hw 23 rfl) (own_at hw 25 rfl) e96 Vc108.arh Ex1_98 (g := (mkF m 12 #[.val (.ref x0), .val (.ref x1), .val (.ref x2), .unset, .unset, .unset, .unset, .unset] [(.ref x1), (.ref x0)])) rfl (by rw [hml]; rfl) rfl (hb hby d3_12) (by decide) (W := 1) (cap := 2) (by show 2 * 0 + _ ≤ _; exact Nat.le_of_eq rfl) (by decide) (by decide) (by decide) (by decide)
  obtain ⟨lb, g_lb⟩ : ∃ z, z = h96.size := ⟨_, rfl⟩
  rw [← g_lb] at V_lb Ex_lb st108
  have gz_lb : n0 ≤ lb := Nat.le_trans Z96 (Nat.le_of_eq g_lb.symm)
  have ne_x0_lb : x0 ≠ lb := Nat.ne_of_lt (Nat.lt_of_lt_of_le E0_97.lt (Nat.le_of_eq g_lb.symm))
  have ne_x1_lb : x1 ≠ lb := Nat.ne_of_lt (Nat.lt_of_lt_of_le Ex1_98.lt (Nat.le_of_eq g_lb.symm))
  have ne_x2_lb : x2 ≠ lb := Nat.ne_of_lt (Nat.lt_of_lt_of_le V2_100.lt (Nat.le_of_eq g_lb.symm))
  have E0_109 := E0_97.ext E108
  have Ex1_110 := Ex1_98.ext E108
  have V1_111 := V1_99.ext E108
  have V2_112 := V2_100.ext E108
  have F_width_113 := F_width_101.ext E108
  have F_lowerBounds_114 := F_lowerBounds_102.ext E108
  have F_wordOf_115 := F_wordOf_103.ext E108
  have F_shiftOf_116 := F_shiftOf_104.ext E108
  have F_maskOf_117 := F_maskOf_105.ext E108
  have F_bits_118 := F_bits_106.ext E108
  have F_words_119 := F_words_107.ext E108
  have Z108 : n0 ≤ h108.size := Nat.le_trans Z96 E108.1
  have K108 := K96.ext E108
  have sz_lb : h0.size ≤ lb := Nat.le_trans K96.1 (Nat.le_of_eq g_lb.symm)
  have Va_lb : ownA Z h108 lb .int 2 (fun i => .int (lo i)) := (ownA.ofArv (by decide) V_lb).eq (fun i hi => by simp [List.getD_eq_getElem?_getD, hi])
  refine ownGo.st (st108) ?_
  show ownGo p.tables e below T108 (mkF m 15 #[.val (.ref x0), .val (.ref x1), .val (.ref x2), .unset, .unset, .unset, .unset, .unset] [(.ref lb), (.ref x0)]) _
  obtain ⟨T120, X120, e120, st120⟩ := castY X108 hx hZ hown (own_at hw 26 rfl) e108 (Ins.self Ex_lb) (g := (mkF m 15 #[.val (.ref x0), .val (.ref x1), .val (.ref x2), .unset, .unset, .unset, .unset, .unset] [(.ref lb), (.ref x0)])) rfl rfl (hb hby d3_15)
  refine ownGo.st (st120) ?_
  show ownGo p.tables e below T120 (mkF m 18 #[.val (.ref x0), .val (.ref x1), .val (.ref x2), .unset, .unset, .unset, .unset, .unset] [(.ref lb), (.ref x0)]) _
  obtain ⟨T121, h121, X121, e121, W121, st121⟩ := putF X120 hx hZ hown (host := "") (Or.inl (own_at hw 28 rfl)) Via.refl e120 F_lowerBounds_114 E0_109 (Or.inr ⟨(own_at hw 29 rfl), rfl, hnm⟩) (own_at hw 9 rfl) (ty := (.array .int)) (by decide) rfl rfl (g := (mkF m 18 #[.val (.ref x0), .val (.ref x1), .val (.ref x2), .unset, .unset, .unset, .unset, .unset] [(.ref lb), (.ref x0)])) rfl rfl (hb hby d3_18)
  have E0_122 := E0_109.wr W121
  have V1_123 := V1_111.other W121 (Ne.symm hne1)
  have V2_124 := V2_112.other W121 (Ne.symm hne2)
  have F_width_125 := F_width_113.other W121 (Or.inr (slot_ne (Or.inr (own_at hw 18 rfl)) (Or.inr (own_at hw 29 rfl)) (by decide) (t := .int) (t' := (.array .int)) (by decide) (by decide)))
  have F_lowerBounds_126 := F_lowerBounds_114.same W121
  have F_wordOf_127 := F_wordOf_115.other W121 (Or.inr (slot_ne (Or.inr (own_at hw 31 rfl)) (Or.inr (own_at hw 29 rfl)) (by decide) (t := (.array .int)) (t' := (.array .int)) (by decide) (by decide)))
  have F_shiftOf_128 := F_shiftOf_116.other W121 (Or.inr (slot_ne (Or.inr (own_at hw 33 rfl)) (Or.inr (own_at hw 29 rfl)) (by decide) (t := (.array .int)) (t' := (.array .int)) (by decide) (by decide)))
  have F_maskOf_129 := F_maskOf_117.other W121 (Or.inr (slot_ne (Or.inr (own_at hw 36 rfl)) (Or.inr (own_at hw 29 rfl)) (by decide) (t := (.array .long)) (t' := (.array .int)) (by decide) (by decide)))
  have F_bits_130 := F_bits_118.other W121 (Or.inr (slot_ne (Or.inr (own_at hw 47 rfl)) (Or.inr (own_at hw 29 rfl)) (by decide) (t := .int) (t' := (.array .int)) (by decide) (by decide)))
  have F_words_131 := F_words_119.other W121 (Or.inr (slot_ne (Or.inr (own_at hw 50 rfl)) (Or.inr (own_at hw 29 rfl)) (by decide) (t := .int) (t' := (.array .int)) (by decide) (by decide)))
  have Va_lb_132 := Va_lb.other W121 (Ne.symm ne_x0_lb)
  have N121 := Fr.snoc X121 N96 gz_x0
  have Z121 : n0 ≤ h121.size := Nat.le_trans Z108 (Nat.le_of_eq W121.size.symm)
  have K121 := K108.wr W121 (Or.inl (List.mem_singleton.mpr rfl))
  refine ownGo.st (st121) ?_
  show ownGo p.tables e below T121 (mkF m 21 #[.val (.ref x0), .val (.ref x1), .val (.ref x2), .unset, .unset, .unset, .unset, .unset] []) _
  refine ownGo.st (fun _ k => XS.aloadN X121.here hx rfl (hb hby d3_21) rfl rfl k) ?_
  show ownGo p.tables e below T121 (mkF m 22 #[.val (.ref x0), .val (.ref x1), .val (.ref x2), .unset, .unset, .unset, .unset, .unset] [(.ref x0)]) _
  refine ownGo.st (fun _ k => XS.aloadN X121.here hx rfl (hb hby d3_22) rfl rfl k) ?_
  show ownGo p.tables e below T121 (mkF m 23 #[.val (.ref x0), .val (.ref x1), .val (.ref x2), .unset, .unset, .unset, .unset, .unset] [(.ref x0), (.ref x0)]) _
  obtain ⟨T133, X133, e133, st133⟩ := getF X121 hx hZ hown (host := "") (Or.inl (own_at hw 17 rfl)) Via.refl e121 F_width_125 (g := (mkF m 23 #[.val (.ref x0), .val (.ref x1), .val (.ref x2), .unset, .unset, .unset, .unset, .unset] [(.ref x0), (.ref x0)])) rfl rfl (hb hby d3_23)
  refine ownGo.st (st133) ?_
  show ownGo p.tables e below T133 (mkF m 26 #[.val (.ref x0), .val (.ref x1), .val (.ref x2), .unset, .unset, .unset, .unset, .unset] [(.int (2 : Int32)), (.ref x0)]) _
  obtain ⟨T134, h134, w, X134, e134, E134, V_w, Ex_w, g_w, st134⟩ := own_newarray (aty := .int) X133 hx hZ (own_at hw 7 rfl) e133 2 2 (by decide) (by decide) (by decide) (by decide) (ad := "[I") (by rfl) rfl (z := (2 : Int32)) rfl (g := (mkF m 26 #[.val (.ref x0), .val (.ref x1), .val (.ref x2), .unset, .unset, .unset, .unset, .unset] [(.int (2 : Int32)), (.ref x0)])) rfl (hb hby d3_26) rfl
  have gz_w : n0 ≤ w := Nat.le_trans Z121 (Nat.le_of_eq g_w.symm)
  have ne_lb_w : lb ≠ w := Nat.ne_of_lt (Nat.lt_of_lt_of_le Va_lb_132.lt (Nat.le_of_eq g_w.symm))
  have ne_x0_w : x0 ≠ w := Nat.ne_of_lt (Nat.lt_of_lt_of_le E0_122.lt (Nat.le_of_eq g_w.symm))
  have ne_x1_w : x1 ≠ w := Nat.ne_of_lt (Nat.lt_of_lt_of_le V1_123.lt (Nat.le_of_eq g_w.symm))
  have ne_x2_w : x2 ≠ w := Nat.ne_of_lt (Nat.lt_of_lt_of_le V2_124.lt (Nat.le_of_eq g_w.symm))
  have E0_135 := E0_122.ext E134
  have V1_136 := V1_123.ext E134
  have V2_137 := V2_124.ext E134
  have F_width_138 := F_width_125.ext E134
  have F_lowerBounds_139 := F_lowerBounds_126.ext E134
  have F_wordOf_140 := F_wordOf_127.ext E134
  have F_shiftOf_141 := F_shiftOf_128.ext E134
  have F_maskOf_142 := F_maskOf_129.ext E134
  have F_bits_143 := F_bits_130.ext E134
  have F_words_144 := F_words_131.ext E134
  have Va_lb_145 := Va_lb_132.ext E134
  have Z134 : n0 ≤ h134.size := Nat.le_trans Z121 E134.1
  have K134 := K121.ext E134
  have sz_w : h0.size ≤ w := Nat.le_trans K121.1 (Nat.le_of_eq g_w.symm)
  refine ownGo.st (st134) ?_
  show ownGo p.tables e below T134 (mkF m 28 #[.val (.ref x0), .val (.ref x1), .val (.ref x2), .unset, .unset, .unset, .unset, .unset] [(.ref w), (.ref x0)]) _
  obtain ⟨T146, h146, X146, e146, W146, st146⟩ := putF X134 hx hZ hown (host := "") (Or.inl (own_at hw 30 rfl)) Via.refl e134 F_wordOf_140 E0_135 (Or.inr ⟨(own_at hw 31 rfl), rfl, hnm⟩) (own_at hw 9 rfl) (ty := (.array .int)) (by decide) rfl rfl (g := (mkF m 28 #[.val (.ref x0), .val (.ref x1), .val (.ref x2), .unset, .unset, .unset, .unset, .unset] [(.ref w), (.ref x0)])) rfl rfl (hb hby d3_28)
  have E0_147 := E0_135.wr W146
  have V1_148 := V1_136.other W146 (Ne.symm hne1)
  have V2_149 := V2_137.other W146 (Ne.symm hne2)
  have F_width_150 := F_width_138.other W146 (Or.inr (slot_ne (Or.inr (own_at hw 18 rfl)) (Or.inr (own_at hw 31 rfl)) (by decide) (t := .int) (t' := (.array .int)) (by decide) (by decide)))
  have F_lowerBounds_151 := F_lowerBounds_139.other W146 (Or.inr (slot_ne (Or.inr (own_at hw 29 rfl)) (Or.inr (own_at hw 31 rfl)) (by decide) (t := (.array .int)) (t' := (.array .int)) (by decide) (by decide)))
  have F_wordOf_152 := F_wordOf_140.same W146
  have F_shiftOf_153 := F_shiftOf_141.other W146 (Or.inr (slot_ne (Or.inr (own_at hw 33 rfl)) (Or.inr (own_at hw 31 rfl)) (by decide) (t := (.array .int)) (t' := (.array .int)) (by decide) (by decide)))
  have F_maskOf_154 := F_maskOf_142.other W146 (Or.inr (slot_ne (Or.inr (own_at hw 36 rfl)) (Or.inr (own_at hw 31 rfl)) (by decide) (t := (.array .long)) (t' := (.array .int)) (by decide) (by decide)))
  have F_bits_155 := F_bits_143.other W146 (Or.inr (slot_ne (Or.inr (own_at hw 47 rfl)) (Or.inr (own_at hw 31 rfl)) (by decide) (t := .int) (t' := (.array .int)) (by decide) (by decide)))
  have F_words_156 := F_words_144.other W146 (Or.inr (slot_ne (Or.inr (own_at hw 50 rfl)) (Or.inr (own_at hw 31 rfl)) (by decide) (t := .int) (t' := (.array .int)) (by decide) (by decide)))
  have Va_lb_157 := Va_lb_145.other W146 (Ne.symm ne_x0_lb)
  have V_w_158 := V_w.other W146 (Ne.symm ne_x0_w)
  have Ex_w_159 := Ex_w.wr W146
  have N146 := Fr.snoc X146 N121 gz_x0
  have Z146 : n0 ≤ h146.size := Nat.le_trans Z134 (Nat.le_of_eq W146.size.symm)
  have K146 := K134.wr W146 (Or.inl (List.mem_singleton.mpr rfl))
  refine ownGo.st (st146) ?_
  show ownGo p.tables e below T146 (mkF m 31 #[.val (.ref x0), .val (.ref x1), .val (.ref x2), .unset, .unset, .unset, .unset, .unset] []) _
  refine ownGo.st (fun _ k => XS.aloadN X146.here hx rfl (hb hby d3_31) rfl rfl k) ?_
  show ownGo p.tables e below T146 (mkF m 32 #[.val (.ref x0), .val (.ref x1), .val (.ref x2), .unset, .unset, .unset, .unset, .unset] [(.ref x0)]) _
  refine ownGo.st (fun _ k => XS.aloadN X146.here hx rfl (hb hby d3_32) rfl rfl k) ?_
  show ownGo p.tables e below T146 (mkF m 33 #[.val (.ref x0), .val (.ref x1), .val (.ref x2), .unset, .unset, .unset, .unset, .unset] [(.ref x0), (.ref x0)]) _
  obtain ⟨T160, X160, e160, st160⟩ := getF X146 hx hZ hown (host := "") (Or.inl (own_at hw 17 rfl)) Via.refl e146 F_width_150 (g := (mkF m 33 #[.val (.ref x0), .val (.ref x1), .val (.ref x2), .unset, .unset, .unset, .unset, .unset] [(.ref x0), (.ref x0)])) rfl rfl (hb hby d3_33)
  refine ownGo.st (st160) ?_
  show ownGo p.tables e below T160 (mkF m 36 #[.val (.ref x0), .val (.ref x1), .val (.ref x2), .unset, .unset, .unset, .unset, .unset] [(.int (2 : Int32)), (.ref x0)]) _
  obtain ⟨T161, h161, sh, X161, e161, E161, V_sh, Ex_sh, g_sh, st161⟩ := own_newarray (aty := .int) X160 hx hZ (own_at hw 7 rfl) e160 2 2 (by decide) (by decide) (by decide) (by decide) (ad := "[I") (by rfl) rfl (z := (2 : Int32)) rfl (g := (mkF m 36 #[.val (.ref x0), .val (.ref x1), .val (.ref x2), .unset, .unset, .unset, .unset, .unset] [(.int (2 : Int32)), (.ref x0)])) rfl (hb hby d3_36) rfl
  have gz_sh : n0 ≤ sh := Nat.le_trans Z146 (Nat.le_of_eq g_sh.symm)
  have ne_lb_sh : lb ≠ sh := Nat.ne_of_lt (Nat.lt_of_lt_of_le Va_lb_157.lt (Nat.le_of_eq g_sh.symm))
  have ne_w_sh : w ≠ sh := Nat.ne_of_lt (Nat.lt_of_lt_of_le V_w_158.lt (Nat.le_of_eq g_sh.symm))
  have ne_x0_sh : x0 ≠ sh := Nat.ne_of_lt (Nat.lt_of_lt_of_le E0_147.lt (Nat.le_of_eq g_sh.symm))
  have ne_x1_sh : x1 ≠ sh := Nat.ne_of_lt (Nat.lt_of_lt_of_le V1_148.lt (Nat.le_of_eq g_sh.symm))
  have ne_x2_sh : x2 ≠ sh := Nat.ne_of_lt (Nat.lt_of_lt_of_le V2_149.lt (Nat.le_of_eq g_sh.symm))
  have E0_162 := E0_147.ext E161
  have V1_163 := V1_148.ext E161
  have V2_164 := V2_149.ext E161
  have F_width_165 := F_width_150.ext E161
  have F_lowerBounds_166 := F_lowerBounds_151.ext E161
  have F_wordOf_167 := F_wordOf_152.ext E161
  have F_shiftOf_168 := F_shiftOf_153.ext E161
  have F_maskOf_169 := F_maskOf_154.ext E161
  have F_bits_170 := F_bits_155.ext E161
  have F_words_171 := F_words_156.ext E161
  have Va_lb_172 := Va_lb_157.ext E161
  have V_w_173 := V_w_158.ext E161
  have Ex_w_174 := Ex_w_159.ext E161
  have Z161 : n0 ≤ h161.size := Nat.le_trans Z146 E161.1
  have K161 := K146.ext E161
  have sz_sh : h0.size ≤ sh := Nat.le_trans K146.1 (Nat.le_of_eq g_sh.symm)
  refine ownGo.st (st161) ?_
  show ownGo p.tables e below T161 (mkF m 38 #[.val (.ref x0), .val (.ref x1), .val (.ref x2), .unset, .unset, .unset, .unset, .unset] [(.ref sh), (.ref x0)]) _
  obtain ⟨T175, h175, X175, e175, W175, st175⟩ := putF X161 hx hZ hown (host := "") (Or.inl (own_at hw 32 rfl)) Via.refl e161 F_shiftOf_168 E0_162 (Or.inr ⟨(own_at hw 33 rfl), rfl, hnm⟩) (own_at hw 9 rfl) (ty := (.array .int)) (by decide) rfl rfl (g := (mkF m 38 #[.val (.ref x0), .val (.ref x1), .val (.ref x2), .unset, .unset, .unset, .unset, .unset] [(.ref sh), (.ref x0)])) rfl rfl (hb hby d3_38)
  have E0_176 := E0_162.wr W175
  have V1_177 := V1_163.other W175 (Ne.symm hne1)
  have V2_178 := V2_164.other W175 (Ne.symm hne2)
  have F_width_179 := F_width_165.other W175 (Or.inr (slot_ne (Or.inr (own_at hw 18 rfl)) (Or.inr (own_at hw 33 rfl)) (by decide) (t := .int) (t' := (.array .int)) (by decide) (by decide)))
  have F_lowerBounds_180 := F_lowerBounds_166.other W175 (Or.inr (slot_ne (Or.inr (own_at hw 29 rfl)) (Or.inr (own_at hw 33 rfl)) (by decide) (t := (.array .int)) (t' := (.array .int)) (by decide) (by decide)))
  have F_wordOf_181 := F_wordOf_167.other W175 (Or.inr (slot_ne (Or.inr (own_at hw 31 rfl)) (Or.inr (own_at hw 33 rfl)) (by decide) (t := (.array .int)) (t' := (.array .int)) (by decide) (by decide)))
  have F_shiftOf_182 := F_shiftOf_168.same W175
  have F_maskOf_183 := F_maskOf_169.other W175 (Or.inr (slot_ne (Or.inr (own_at hw 36 rfl)) (Or.inr (own_at hw 33 rfl)) (by decide) (t := (.array .long)) (t' := (.array .int)) (by decide) (by decide)))
  have F_bits_184 := F_bits_170.other W175 (Or.inr (slot_ne (Or.inr (own_at hw 47 rfl)) (Or.inr (own_at hw 33 rfl)) (by decide) (t := .int) (t' := (.array .int)) (by decide) (by decide)))
  have F_words_185 := F_words_171.other W175 (Or.inr (slot_ne (Or.inr (own_at hw 50 rfl)) (Or.inr (own_at hw 33 rfl)) (by decide) (t := .int) (t' := (.array .int)) (by decide) (by decide)))
  have Va_lb_186 := Va_lb_172.other W175 (Ne.symm ne_x0_lb)
  have V_w_187 := V_w_173.other W175 (Ne.symm ne_x0_w)
  have Ex_w_188 := Ex_w_174.wr W175
  have V_sh_189 := V_sh.other W175 (Ne.symm ne_x0_sh)
  have Ex_sh_190 := Ex_sh.wr W175
  have N175 := Fr.snoc X175 N146 gz_x0
  have Z175 : n0 ≤ h175.size := Nat.le_trans Z161 (Nat.le_of_eq W175.size.symm)
  have K175 := K161.wr W175 (Or.inl (List.mem_singleton.mpr rfl))
  refine ownGo.st (st175) ?_
  show ownGo p.tables e below T175 (mkF m 41 #[.val (.ref x0), .val (.ref x1), .val (.ref x2), .unset, .unset, .unset, .unset, .unset] []) _
  refine ownGo.st (fun _ k => XS.aloadN X175.here hx rfl (hb hby d3_41) rfl rfl k) ?_
  show ownGo p.tables e below T175 (mkF m 42 #[.val (.ref x0), .val (.ref x1), .val (.ref x2), .unset, .unset, .unset, .unset, .unset] [(.ref x0)]) _
  refine ownGo.st (fun _ k => XS.aloadN X175.here hx rfl (hb hby d3_42) rfl rfl k) ?_
  show ownGo p.tables e below T175 (mkF m 43 #[.val (.ref x0), .val (.ref x1), .val (.ref x2), .unset, .unset, .unset, .unset, .unset] [(.ref x0), (.ref x0)]) _
  obtain ⟨T191, X191, e191, st191⟩ := getF X175 hx hZ hown (host := "") (Or.inl (own_at hw 17 rfl)) Via.refl e175 F_width_179 (g := (mkF m 43 #[.val (.ref x0), .val (.ref x1), .val (.ref x2), .unset, .unset, .unset, .unset, .unset] [(.ref x0), (.ref x0)])) rfl rfl (hb hby d3_43)
  refine ownGo.st (st191) ?_
  show ownGo p.tables e below T191 (mkF m 46 #[.val (.ref x0), .val (.ref x1), .val (.ref x2), .unset, .unset, .unset, .unset, .unset] [(.int (2 : Int32)), (.ref x0)]) _
  obtain ⟨T192, h192, k, X192, e192, E192, V_k, Ex_k, g_k, st192⟩ := own_newarray (aty := .long) X191 hx hZ (own_at hw 34 rfl) e191 2 2 (by decide) (by decide) (by decide) (by decide) (ad := "[J") (by rfl) rfl (z := (2 : Int32)) rfl (g := (mkF m 46 #[.val (.ref x0), .val (.ref x1), .val (.ref x2), .unset, .unset, .unset, .unset, .unset] [(.int (2 : Int32)), (.ref x0)])) rfl (hb hby d3_46) rfl
  have gz_k : n0 ≤ k := Nat.le_trans Z175 (Nat.le_of_eq g_k.symm)
  have ne_lb_k : lb ≠ k := Nat.ne_of_lt (Nat.lt_of_lt_of_le Va_lb_186.lt (Nat.le_of_eq g_k.symm))
  have ne_sh_k : sh ≠ k := Nat.ne_of_lt (Nat.lt_of_lt_of_le V_sh_189.lt (Nat.le_of_eq g_k.symm))
  have ne_w_k : w ≠ k := Nat.ne_of_lt (Nat.lt_of_lt_of_le V_w_187.lt (Nat.le_of_eq g_k.symm))
  have ne_x0_k : x0 ≠ k := Nat.ne_of_lt (Nat.lt_of_lt_of_le E0_176.lt (Nat.le_of_eq g_k.symm))
  have ne_x1_k : x1 ≠ k := Nat.ne_of_lt (Nat.lt_of_lt_of_le V1_177.lt (Nat.le_of_eq g_k.symm))
  have ne_x2_k : x2 ≠ k := Nat.ne_of_lt (Nat.lt_of_lt_of_le V2_178.lt (Nat.le_of_eq g_k.symm))
  have E0_193 := E0_176.ext E192
  have V1_194 := V1_177.ext E192
  have V2_195 := V2_178.ext E192
  have F_width_196 := F_width_179.ext E192
  have F_lowerBounds_197 := F_lowerBounds_180.ext E192
  have F_wordOf_198 := F_wordOf_181.ext E192
  have F_shiftOf_199 := F_shiftOf_182.ext E192
  have F_maskOf_200 := F_maskOf_183.ext E192
  have F_bits_201 := F_bits_184.ext E192
  have F_words_202 := F_words_185.ext E192
  have Va_lb_203 := Va_lb_186.ext E192
  have V_w_204 := V_w_187.ext E192
  have Ex_w_205 := Ex_w_188.ext E192
  have V_sh_206 := V_sh_189.ext E192
  have Ex_sh_207 := Ex_sh_190.ext E192
  have Z192 : n0 ≤ h192.size := Nat.le_trans Z175 E192.1
  have K192 := K175.ext E192
  have sz_k : h0.size ≤ k := Nat.le_trans K175.1 (Nat.le_of_eq g_k.symm)
  refine ownGo.st (st192) ?_
  show ownGo p.tables e below T192 (mkF m 48 #[.val (.ref x0), .val (.ref x1), .val (.ref x2), .unset, .unset, .unset, .unset, .unset] [(.ref k), (.ref x0)]) _
  obtain ⟨T208, h208, X208, e208, W208, st208⟩ := putF X192 hx hZ hown (host := "") (Or.inl (own_at hw 35 rfl)) Via.refl e192 F_maskOf_200 E0_193 (Or.inr ⟨(own_at hw 36 rfl), rfl, hnm⟩) (own_at hw 9 rfl) (ty := (.array .long)) (by decide) rfl rfl (g := (mkF m 48 #[.val (.ref x0), .val (.ref x1), .val (.ref x2), .unset, .unset, .unset, .unset, .unset] [(.ref k), (.ref x0)])) rfl rfl (hb hby d3_48)
  have E0_209 := E0_193.wr W208
  have V1_210 := V1_194.other W208 (Ne.symm hne1)
  have V2_211 := V2_195.other W208 (Ne.symm hne2)
  have F_width_212 := F_width_196.other W208 (Or.inr (slot_ne (Or.inr (own_at hw 18 rfl)) (Or.inr (own_at hw 36 rfl)) (by decide) (t := .int) (t' := (.array .long)) (by decide) (by decide)))
  have F_lowerBounds_213 := F_lowerBounds_197.other W208 (Or.inr (slot_ne (Or.inr (own_at hw 29 rfl)) (Or.inr (own_at hw 36 rfl)) (by decide) (t := (.array .int)) (t' := (.array .long)) (by decide) (by decide)))
  have F_wordOf_214 := F_wordOf_198.other W208 (Or.inr (slot_ne (Or.inr (own_at hw 31 rfl)) (Or.inr (own_at hw 36 rfl)) (by decide) (t := (.array .int)) (t' := (.array .long)) (by decide) (by decide)))
  have F_shiftOf_215 := F_shiftOf_199.other W208 (Or.inr (slot_ne (Or.inr (own_at hw 33 rfl)) (Or.inr (own_at hw 36 rfl)) (by decide) (t := (.array .int)) (t' := (.array .long)) (by decide) (by decide)))
  have F_maskOf_216 := F_maskOf_200.same W208
  have F_bits_217 := F_bits_201.other W208 (Or.inr (slot_ne (Or.inr (own_at hw 47 rfl)) (Or.inr (own_at hw 36 rfl)) (by decide) (t := .int) (t' := (.array .long)) (by decide) (by decide)))
  have F_words_218 := F_words_202.other W208 (Or.inr (slot_ne (Or.inr (own_at hw 50 rfl)) (Or.inr (own_at hw 36 rfl)) (by decide) (t := .int) (t' := (.array .long)) (by decide) (by decide)))
  have Va_lb_219 := Va_lb_203.other W208 (Ne.symm ne_x0_lb)
  have V_w_220 := V_w_204.other W208 (Ne.symm ne_x0_w)
  have Ex_w_221 := Ex_w_205.wr W208
  have V_sh_222 := V_sh_206.other W208 (Ne.symm ne_x0_sh)
  have Ex_sh_223 := Ex_sh_207.wr W208
  have V_k_224 := V_k.other W208 (Ne.symm ne_x0_k)
  have Ex_k_225 := Ex_k.wr W208
  have N208 := Fr.snoc X208 N175 gz_x0
  have Z208 : n0 ≤ h208.size := Nat.le_trans Z192 (Nat.le_of_eq W208.size.symm)
  have K208 := K192.wr W208 (Or.inl (List.mem_singleton.mpr rfl))
  refine ownGo.st (st208) ?_
  show ownGo p.tables e below T208 (mkF m 51 #[.val (.ref x0), .val (.ref x1), .val (.ref x2), .unset, .unset, .unset, .unset, .unset] []) _
  refine ownGo.st (fun _ k => XS.iconst X208.here hx rfl (hb hby d3_51)  k) ?_
  show ownGo p.tables e below T208 (mkF m 52 #[.val (.ref x0), .val (.ref x1), .val (.ref x2), .unset, .unset, .unset, .unset, .unset] [(.int (0 : Int32))]) _
  refine ownGo.st (fun _ k => XS.istoreN X208.here hx rfl (hb hby d3_52) rfl (l' := #[.val (.ref x0), .val (.ref x1), .val (.ref x2), .val (.int (0 : Int32)), .unset, .unset, .unset, .unset]) rfl k) ?_
  show ownGo p.tables e below T208 (mkF m 53 #[.val (.ref x0), .val (.ref x1), .val (.ref x2), .val (.int (0 : Int32)), .unset, .unset, .unset, .unset] []) _
  refine ownGo.st (fun _ k => XS.iconst X208.here hx rfl (hb hby d3_53)  k) ?_
  show ownGo p.tables e below T208 (mkF m 54 #[.val (.ref x0), .val (.ref x1), .val (.ref x2), .val (.int (0 : Int32)), .unset, .unset, .unset, .unset] [(.int (0 : Int32))]) _
  refine ownGo.st (fun _ k => XS.istore X208.here hx rfl (hb hby d3_54) rfl (l' := #[.val (.ref x0), .val (.ref x1), .val (.ref x2), .val (.int (0 : Int32)), .val (.int (0 : Int32)), .unset, .unset, .unset]) rfl k) ?_
  show ownGo p.tables e below T208 (mkF m 56 #[.val (.ref x0), .val (.ref x1), .val (.ref x2), .val (.int (0 : Int32)), .val (.int (0 : Int32)), .unset, .unset, .unset] []) _
  exact own_loopC hx hZ hw hby hml hown hret hlk hnm x0 x1 x2 lb w sh k lo up kb hkb (fun i hi => (hkb i hi).rng.2.2.1) gz_x0 (Nat.le_trans sx0 sz_lb) (Nat.le_trans sx0 sz_w) (Nat.le_trans sx0 sz_sh) (Nat.le_trans sx0 sz_k) gz_w gz_sh gz_k sz_w sz_sh sz_k hne1 hne2 ne_x0_lb ne_x0_w ne_x0_sh ne_x0_k ne_x1_lb ne_x1_w ne_x1_sh ne_x1_k ne_x2_lb ne_x2_w ne_x2_sh ne_x2_k ne_lb_w ne_lb_sh ne_lb_k ne_w_sh ne_w_k ne_sh_k 2 0 rfl T208 h208 _ _ _ _ _ _ _ (Or.inl ⟨rfl, rfl⟩) One.u X208 e208 N208 Z208 K208 E0_209 F_width_212 F_lowerBounds_213 F_wordOf_214 F_shiftOf_215 F_maskOf_216 F_bits_217 F_words_218 V1_210 V2_211 Va_lb_219 V_w_220 (fun j hj => absurd hj (Nat.not_lt_zero j)) V_sh_222 (fun j hj => absurd hj (Nat.not_lt_zero j)) V_k_224 (fun j hj => absurd hj (Nat.not_lt_zero j))
theorem d8_0 : decode method_2_code 0 = .ok (.lload_n 0, 1) := by decide +kernel
theorem d8_1 : decode method_2_code 1 = .ok (.lstore_n 2, 1) := by decide +kernel
theorem d8_2 : decode method_2_code 2 = .ok (.lload_n 2, 1) := by decide +kernel
theorem d8_3 : decode method_2_code 3 = .ok (.lload_n 2, 1) := by decide +kernel
theorem d8_4 : decode method_2_code 4 = .ok (.iconst 1, 1) := by decide +kernel
theorem d8_5 : decode method_2_code 5 = .ok (.lushr, 1) := by decide +kernel
theorem d8_6 : decode method_2_code 6 = .ok (.lor, 1) := by decide +kernel
theorem d8_7 : decode method_2_code 7 = .ok (.lstore_n 2, 1) := by decide +kernel
theorem d8_8 : decode method_2_code 8 = .ok (.lload_n 2, 1) := by decide +kernel
theorem d8_9 : decode method_2_code 9 = .ok (.lload_n 2, 1) := by decide +kernel
theorem d8_10 : decode method_2_code 10 = .ok (.iconst 2, 1) := by decide +kernel
theorem d8_11 : decode method_2_code 11 = .ok (.lushr, 1) := by decide +kernel
theorem d8_12 : decode method_2_code 12 = .ok (.lor, 1) := by decide +kernel
theorem d8_13 : decode method_2_code 13 = .ok (.lstore_n 2, 1) := by decide +kernel
theorem d8_14 : decode method_2_code 14 = .ok (.lload_n 2, 1) := by decide +kernel
theorem d8_15 : decode method_2_code 15 = .ok (.lload_n 2, 1) := by decide +kernel
theorem d8_16 : decode method_2_code 16 = .ok (.iconst 4, 1) := by decide +kernel
theorem d8_17 : decode method_2_code 17 = .ok (.lushr, 1) := by decide +kernel
theorem d8_18 : decode method_2_code 18 = .ok (.lor, 1) := by decide +kernel
theorem d8_19 : decode method_2_code 19 = .ok (.lstore_n 2, 1) := by decide +kernel
theorem d8_20 : decode method_2_code 20 = .ok (.lload_n 2, 1) := by decide +kernel
theorem d8_21 : decode method_2_code 21 = .ok (.lload_n 2, 1) := by decide +kernel
theorem d8_22 : decode method_2_code 22 = .ok (.bipush 8, 2) := by decide +kernel
theorem d8_24 : decode method_2_code 24 = .ok (.lushr, 1) := by decide +kernel
theorem d8_25 : decode method_2_code 25 = .ok (.lor, 1) := by decide +kernel
theorem d8_26 : decode method_2_code 26 = .ok (.lstore_n 2, 1) := by decide +kernel
theorem d8_27 : decode method_2_code 27 = .ok (.lload_n 2, 1) := by decide +kernel
theorem d8_28 : decode method_2_code 28 = .ok (.lload_n 2, 1) := by decide +kernel
theorem d8_29 : decode method_2_code 29 = .ok (.bipush 16, 2) := by decide +kernel
theorem d8_31 : decode method_2_code 31 = .ok (.lushr, 1) := by decide +kernel
theorem d8_32 : decode method_2_code 32 = .ok (.lor, 1) := by decide +kernel
theorem d8_33 : decode method_2_code 33 = .ok (.lstore_n 2, 1) := by decide +kernel
theorem d8_34 : decode method_2_code 34 = .ok (.lload_n 2, 1) := by decide +kernel
theorem d8_35 : decode method_2_code 35 = .ok (.lload_n 2, 1) := by decide +kernel
theorem d8_36 : decode method_2_code 36 = .ok (.bipush 32, 2) := by decide +kernel
theorem d8_38 : decode method_2_code 38 = .ok (.lushr, 1) := by decide +kernel
theorem d8_39 : decode method_2_code 39 = .ok (.lor, 1) := by decide +kernel
theorem d8_40 : decode method_2_code 40 = .ok (.lstore_n 2, 1) := by decide +kernel
theorem d8_41 : decode method_2_code 41 = .ok (.lload_n 2, 1) := by decide +kernel
theorem d8_42 : decode method_2_code 42 = .ok (.lreturn, 1) := by decide +kernel
abbrev R8 : Room := { frames := 0, cells := 0, slots := 0, locals := 0 }
def v8_13 (x0 : Int64) : Int64 := ((x0 ||| (own_lushr x0 (1 : Int32))) ||| (own_lushr (x0 ||| (own_lushr x0 (1 : Int32))) (2 : Int32)))
def v8_19 (x0 : Int64) : Int64 := ((v8_13 x0) ||| (own_lushr (v8_13 x0) (4 : Int32)))
def v8_26 (x0 : Int64) : Int64 := ((v8_19 x0) ||| (own_lushr (v8_19 x0) (8 : Int32)))
def v8_33 (x0 : Int64) : Int64 := ((v8_26 x0) ||| (own_lushr (v8_26 x0) (16 : Int32)))
def v8_40 (x0 : Int64) : Int64 := ((v8_33 x0) ||| (own_lushr (v8_33 x0) (32 : Int32)))
def f8_0 (x0 : Int64) : Int64 := (v8_40 x0)
set_option maxRecDepth 65536 in
set_option maxHeartbeats 40000000 in
theorem b8_0 {p : Program} {l : Launch} {e : Env} {s : State} {m : MethodId} {args : Array Value} {below : List Frame} {meth : Method} {c : Code} {T0 : State} {locs : List Loc} {Z : State} {a0 : Array Value} {h0 : Heap} {n0 : Nat} (hx : p.tables.exec = Jvm.exec) (hZ : Z.Warmed39 s.vm) (hw : ∀ d ∈ tables_1, d.before a0 Z = true) (hby : c.code = method_2_code) (hml : c.maxLocals = 4) (hown : s.vm.findClass "com/example/ningbo/ningbo/engine/StateLayoutFitsPinLaw" = some m.cls) (hret : meth.sig.returnType = (some .long)) (hlk : meth.locks = false) (X0 : Stand p l e R8 s m args below meth c T0 locs 0 0) (e0 : T0.heap = h0) (N0 : Fr n0 locs) (x0 : Int64) (r : Int64) (hr : r = f8_0 x0) :
    ownGo p.tables e below T0 (mkF m 0 #[.val (.long x0), .second, .unset, .unset] []) (ownDone s (ownPure (.long r) h0 n0) 0 0) := by
  have hr0 : r = (v8_40 x0) := hr
  refine ownGo.st (fun _ k => XS.lloadN X0.here hx rfl (hb hby d8_0) rfl k) ?_
  show ownGo p.tables e below T0 (mkF m 1 #[.val (.long x0), .second, .unset, .unset] [(.long x0)]) _
  refine ownGo.st (fun _ k => XS.lstoreN X0.here hx rfl (hb hby d8_1) rfl (l' := #[.val (.long x0), .second, .val (.long x0), .second]) rfl k) ?_
  show ownGo p.tables e below T0 (mkF m 2 #[.val (.long x0), .second, .val (.long x0), .second] []) _
  refine ownGo.st (fun _ k => XS.lloadN X0.here hx rfl (hb hby d8_2) rfl k) ?_
  show ownGo p.tables e below T0 (mkF m 3 #[.val (.long x0), .second, .val (.long x0), .second] [(.long x0)]) _
  refine ownGo.st (fun _ k => XS.lloadN X0.here hx rfl (hb hby d8_3) rfl k) ?_
  show ownGo p.tables e below T0 (mkF m 4 #[.val (.long x0), .second, .val (.long x0), .second] [(.long x0), (.long x0)]) _
  refine ownGo.st (fun _ k => XS.iconst X0.here hx rfl (hb hby d8_4)  k) ?_
  show ownGo p.tables e below T0 (mkF m 5 #[.val (.long x0), .second, .val (.long x0), .second] [(.int (1 : Int32)), (.long x0), (.long x0)]) _
  refine ownGo.st (fun _ k => XS.lushr X0.here hx rfl (hb hby d8_5) rfl k) ?_
  show ownGo p.tables e below T0 (mkF m 6 #[.val (.long x0), .second, .val (.long x0), .second] [(.long (own_lushr x0 (1 : Int32))), (.long x0)]) _
  refine ownGo.st (fun _ k => XS.lor X0.here hx rfl (hb hby d8_6) rfl k) ?_
  show ownGo p.tables e below T0 (mkF m 7 #[.val (.long x0), .second, .val (.long x0), .second] [(.long (x0 ||| (own_lushr x0 (1 : Int32))))]) _
  refine ownGo.st (fun _ k => XS.lstoreN X0.here hx rfl (hb hby d8_7) rfl (l' := #[.val (.long x0), .second, .val (.long (x0 ||| (own_lushr x0 (1 : Int32)))), .second]) rfl k) ?_
  show ownGo p.tables e below T0 (mkF m 8 #[.val (.long x0), .second, .val (.long (x0 ||| (own_lushr x0 (1 : Int32)))), .second] []) _
  refine ownGo.st (fun _ k => XS.lloadN X0.here hx rfl (hb hby d8_8) rfl k) ?_
  show ownGo p.tables e below T0 (mkF m 9 #[.val (.long x0), .second, .val (.long (x0 ||| (own_lushr x0 (1 : Int32)))), .second] [(.long (x0 ||| (own_lushr x0 (1 : Int32))))]) _
  refine ownGo.st (fun _ k => XS.lloadN X0.here hx rfl (hb hby d8_9) rfl k) ?_
  show ownGo p.tables e below T0 (mkF m 10 #[.val (.long x0), .second, .val (.long (x0 ||| (own_lushr x0 (1 : Int32)))), .second] [(.long (x0 ||| (own_lushr x0 (1 : Int32)))), (.long (x0 ||| (own_lushr x0 (1 : Int32))))]) _
  refine ownGo.st (fun _ k => XS.iconst X0.here hx rfl (hb hby d8_10)  k) ?_
  show ownGo p.tables e below T0 (mkF m 11 #[.val (.long x0), .second, .val (.long (x0 ||| (own_lushr x0 (1 : Int32)))), .second] [(.int (2 : Int32)), (.long (x0 ||| (own_lushr x0 (1 : Int32)))), (.long (x0 ||| (own_lushr x0 (1 : Int32))))]) _
  refine ownGo.st (fun _ k => XS.lushr X0.here hx rfl (hb hby d8_11) rfl k) ?_
  show ownGo p.tables e below T0 (mkF m 12 #[.val (.long x0), .second, .val (.long (x0 ||| (own_lushr x0 (1 : Int32)))), .second] [(.long (own_lushr (x0 ||| (own_lushr x0 (1 : Int32))) (2 : Int32))), (.long (x0 ||| (own_lushr x0 (1 : Int32))))]) _
  refine ownGo.st (fun _ k => XS.lor X0.here hx rfl (hb hby d8_12) rfl k) ?_
  show ownGo p.tables e below T0 (mkF m 13 #[.val (.long x0), .second, .val (.long (x0 ||| (own_lushr x0 (1 : Int32)))), .second] [(.long ((x0 ||| (own_lushr x0 (1 : Int32))) ||| (own_lushr (x0 ||| (own_lushr x0 (1 : Int32))) (2 : Int32))))]) _
  show ownGo p.tables e below T0 (mkF m 13 #[.val (.long x0), .second, .val (.long (x0 ||| (own_lushr x0 (1 : Int32)))), .second] [(.long (v8_13 x0))]) _
  refine ownGo.st (fun _ k => XS.lstoreN X0.here hx rfl (hb hby d8_13) rfl (l' := #[.val (.long x0), .second, .val (.long (v8_13 x0)), .second]) rfl k) ?_
  show ownGo p.tables e below T0 (mkF m 14 #[.val (.long x0), .second, .val (.long (v8_13 x0)), .second] []) _
  refine ownGo.st (fun _ k => XS.lloadN X0.here hx rfl (hb hby d8_14) rfl k) ?_
  show ownGo p.tables e below T0 (mkF m 15 #[.val (.long x0), .second, .val (.long (v8_13 x0)), .second] [(.long (v8_13 x0))]) _
  refine ownGo.st (fun _ k => XS.lloadN X0.here hx rfl (hb hby d8_15) rfl k) ?_
  show ownGo p.tables e below T0 (mkF m 16 #[.val (.long x0), .second, .val (.long (v8_13 x0)), .second] [(.long (v8_13 x0)), (.long (v8_13 x0))]) _
  refine ownGo.st (fun _ k => XS.iconst X0.here hx rfl (hb hby d8_16)  k) ?_
  show ownGo p.tables e below T0 (mkF m 17 #[.val (.long x0), .second, .val (.long (v8_13 x0)), .second] [(.int (4 : Int32)), (.long (v8_13 x0)), (.long (v8_13 x0))]) _
  refine ownGo.st (fun _ k => XS.lushr X0.here hx rfl (hb hby d8_17) rfl k) ?_
  show ownGo p.tables e below T0 (mkF m 18 #[.val (.long x0), .second, .val (.long (v8_13 x0)), .second] [(.long (own_lushr (v8_13 x0) (4 : Int32))), (.long (v8_13 x0))]) _
  refine ownGo.st (fun _ k => XS.lor X0.here hx rfl (hb hby d8_18) rfl k) ?_
  show ownGo p.tables e below T0 (mkF m 19 #[.val (.long x0), .second, .val (.long (v8_13 x0)), .second] [(.long ((v8_13 x0) ||| (own_lushr (v8_13 x0) (4 : Int32))))]) _
  show ownGo p.tables e below T0 (mkF m 19 #[.val (.long x0), .second, .val (.long (v8_13 x0)), .second] [(.long (v8_19 x0))]) _
  refine ownGo.st (fun _ k => XS.lstoreN X0.here hx rfl (hb hby d8_19) rfl (l' := #[.val (.long x0), .second, .val (.long (v8_19 x0)), .second]) rfl k) ?_
  show ownGo p.tables e below T0 (mkF m 20 #[.val (.long x0), .second, .val (.long (v8_19 x0)), .second] []) _
  refine ownGo.st (fun _ k => XS.lloadN X0.here hx rfl (hb hby d8_20) rfl k) ?_
  show ownGo p.tables e below T0 (mkF m 21 #[.val (.long x0), .second, .val (.long (v8_19 x0)), .second] [(.long (v8_19 x0))]) _
  refine ownGo.st (fun _ k => XS.lloadN X0.here hx rfl (hb hby d8_21) rfl k) ?_
  show ownGo p.tables e below T0 (mkF m 22 #[.val (.long x0), .second, .val (.long (v8_19 x0)), .second] [(.long (v8_19 x0)), (.long (v8_19 x0))]) _
  refine ownGo.st (fun _ k => XS.bipush X0.here hx rfl (hb hby d8_22)  k) ?_
  show ownGo p.tables e below T0 (mkF m 24 #[.val (.long x0), .second, .val (.long (v8_19 x0)), .second] [(.int (8 : Int32)), (.long (v8_19 x0)), (.long (v8_19 x0))]) _
  refine ownGo.st (fun _ k => XS.lushr X0.here hx rfl (hb hby d8_24) rfl k) ?_
  show ownGo p.tables e below T0 (mkF m 25 #[.val (.long x0), .second, .val (.long (v8_19 x0)), .second] [(.long (own_lushr (v8_19 x0) (8 : Int32))), (.long (v8_19 x0))]) _
  refine ownGo.st (fun _ k => XS.lor X0.here hx rfl (hb hby d8_25) rfl k) ?_
  show ownGo p.tables e below T0 (mkF m 26 #[.val (.long x0), .second, .val (.long (v8_19 x0)), .second] [(.long ((v8_19 x0) ||| (own_lushr (v8_19 x0) (8 : Int32))))]) _
  show ownGo p.tables e below T0 (mkF m 26 #[.val (.long x0), .second, .val (.long (v8_19 x0)), .second] [(.long (v8_26 x0))]) _
  refine ownGo.st (fun _ k => XS.lstoreN X0.here hx rfl (hb hby d8_26) rfl (l' := #[.val (.long x0), .second, .val (.long (v8_26 x0)), .second]) rfl k) ?_
  show ownGo p.tables e below T0 (mkF m 27 #[.val (.long x0), .second, .val (.long (v8_26 x0)), .second] []) _
  refine ownGo.st (fun _ k => XS.lloadN X0.here hx rfl (hb hby d8_27) rfl k) ?_
  show ownGo p.tables e below T0 (mkF m 28 #[.val (.long x0), .second, .val (.long (v8_26 x0)), .second] [(.long (v8_26 x0))]) _
  refine ownGo.st (fun _ k => XS.lloadN X0.here hx rfl (hb hby d8_28) rfl k) ?_
  show ownGo p.tables e below T0 (mkF m 29 #[.val (.long x0), .second, .val (.long (v8_26 x0)), .second] [(.long (v8_26 x0)), (.long (v8_26 x0))]) _
  refine ownGo.st (fun _ k => XS.bipush X0.here hx rfl (hb hby d8_29)  k) ?_
  show ownGo p.tables e below T0 (mkF m 31 #[.val (.long x0), .second, .val (.long (v8_26 x0)), .second] [(.int (16 : Int32)), (.long (v8_26 x0)), (.long (v8_26 x0))]) _
  refine ownGo.st (fun _ k => XS.lushr X0.here hx rfl (hb hby d8_31) rfl k) ?_
  show ownGo p.tables e below T0 (mkF m 32 #[.val (.long x0), .second, .val (.long (v8_26 x0)), .second] [(.long (own_lushr (v8_26 x0) (16 : Int32))), (.long (v8_26 x0))]) _
  refine ownGo.st (fun _ k => XS.lor X0.here hx rfl (hb hby d8_32) rfl k) ?_
  show ownGo p.tables e below T0 (mkF m 33 #[.val (.long x0), .second, .val (.long (v8_26 x0)), .second] [(.long ((v8_26 x0) ||| (own_lushr (v8_26 x0) (16 : Int32))))]) _
  show ownGo p.tables e below T0 (mkF m 33 #[.val (.long x0), .second, .val (.long (v8_26 x0)), .second] [(.long (v8_33 x0))]) _
  refine ownGo.st (fun _ k => XS.lstoreN X0.here hx rfl (hb hby d8_33) rfl (l' := #[.val (.long x0), .second, .val (.long (v8_33 x0)), .second]) rfl k) ?_
  show ownGo p.tables e below T0 (mkF m 34 #[.val (.long x0), .second, .val (.long (v8_33 x0)), .second] []) _
  refine ownGo.st (fun _ k => XS.lloadN X0.here hx rfl (hb hby d8_34) rfl k) ?_
  show ownGo p.tables e below T0 (mkF m 35 #[.val (.long x0), .second, .val (.long (v8_33 x0)), .second] [(.long (v8_33 x0))]) _
  refine ownGo.st (fun _ k => XS.lloadN X0.here hx rfl (hb hby d8_35) rfl k) ?_
  show ownGo p.tables e below T0 (mkF m 36 #[.val (.long x0), .second, .val (.long (v8_33 x0)), .second] [(.long (v8_33 x0)), (.long (v8_33 x0))]) _
  refine ownGo.st (fun _ k => XS.bipush X0.here hx rfl (hb hby d8_36)  k) ?_
  show ownGo p.tables e below T0 (mkF m 38 #[.val (.long x0), .second, .val (.long (v8_33 x0)), .second] [(.int (32 : Int32)), (.long (v8_33 x0)), (.long (v8_33 x0))]) _
  refine ownGo.st (fun _ k => XS.lushr X0.here hx rfl (hb hby d8_38) rfl k) ?_
  show ownGo p.tables e below T0 (mkF m 39 #[.val (.long x0), .second, .val (.long (v8_33 x0)), .second] [(.long (own_lushr (v8_33 x0) (32 : Int32))), (.long (v8_33 x0))]) _
  refine ownGo.st (fun _ k => XS.lor X0.here hx rfl (hb hby d8_39) rfl k) ?_
  show ownGo p.tables e below T0 (mkF m 40 #[.val (.long x0), .second, .val (.long (v8_33 x0)), .second] [(.long ((v8_33 x0) ||| (own_lushr (v8_33 x0) (32 : Int32))))]) _
  show ownGo p.tables e below T0 (mkF m 40 #[.val (.long x0), .second, .val (.long (v8_33 x0)), .second] [(.long (v8_40 x0))]) _
  refine ownGo.st (fun _ k => XS.lstoreN X0.here hx rfl (hb hby d8_40) rfl (l' := #[.val (.long x0), .second, .val (.long (v8_40 x0)), .second]) rfl k) ?_
  show ownGo p.tables e below T0 (mkF m 41 #[.val (.long x0), .second, .val (.long (v8_40 x0)), .second] []) _
  refine ownGo.st (fun _ k => XS.lloadN X0.here hx rfl (hb hby d8_41) rfl k) ?_
  show ownGo p.tables e below T0 (mkF m 42 #[.val (.long x0), .second, .val (.long (v8_40 x0)), .second] [(.long (v8_40 x0))]) _
  exact own_retJ X0 hx hlk hret (hb hby d8_42) ⟨congrArg (fun z => some (Value.long z)) hr0.symm, N0, e0⟩ (Nat.le_refl _) (Nat.le_refl _)
abbrev F8 (x0 : Int64) : Int64 := f8_0 x0
theorem pn_8 : plainName "com/example/ningbo/ningbo/engine/StateLayoutFitsPinLaw" = true := by first | (simp [plainName, overriddenIn]; done) | decide +kernel
theorem ef_8 (m : MethodId) (x0 : Int64) : entryFrame m #[(.long x0)] 4 = mkF m 0 #[.val (.long x0), .second, .unset, .unset] [] := by first | (simp [entryFrame, mkF, argsToLocals, Value.category]; done) | rfl
set_option maxRecDepth 65536 in
set_option maxHeartbeats 40000000 in
theorem rm8 (l : Launch) (Z : State) (a0 : Array Value) (hw : ∀ d ∈ tables_1, d.before a0 Z = true) (x0 : Int64) (h0 : Heap) (n0 : Nat)  :
    MetFree l (⟨"com/example/ningbo/ningbo/engine/StateLayoutFitsPinLaw", "smear", "(J)J"⟩ : MethodName) (head1 [Jvm.Cond.code (⟨"com/example/ningbo/ningbo/engine/StateLayoutFitsPinLaw", "smear", "(J)J"⟩ : MethodName) method_2_code 4 (some .long)] R8) (fun a U => a = #[(.long x0)] ∧ Z.Warmed39 U.vm ∧ U.heap = h0) (fun _ _ _ _ _ => True) (fun _ U o U' => ∃ v L, o = .returned v ∧ ownPure (.long (F8 x0)) h0 n0 v U'.heap L ∧ FrameEnd U o U' L R8.cells R8.slots) := by
  refine MetFree.of_bodySF (plainFor_of_name pn_8) hisR ?_
  intro p e s m args below meth c s₁ Bd hml0 hP hK
  obtain ⟨rfl, hZ, hh⟩ := hP
  have hx := Bd.exec
  have hby := Bd.bytes
  have hml : c.maxLocals = 4 := hml0
  have hown : s.vm.findClass "com/example/ningbo/ningbo/engine/StateLayoutFitsPinLaw" = some m.cls := findClass_of_methodNamed Bd.named
  have hnm := (name_of_methodNamed Bd.named Bd.method).1
  have hret := Bd.returns
  have hlk : meth.locks = false := BodyLoose.notSynchronized Bd
  have X0 : Stand p l e R8 s m #[(.long x0)] below meth c s₁ [] 0 0 := Stand.of_body Bd
  have e0 : s₁.heap = h0 := by rw [← hh, Bd.state]; rfl
  have N0 := Fr.nil n0
  show ownGo p.tables e below s₁ (entryFrame m #[(.long x0)] 4) (ownDone s (ownPure (.long (F8 x0)) h0 n0) R8.cells R8.slots)
  rw [ef_8 m x0]
  exact b8_0 hx hZ hw hby hml hown hret hlk X0 e0 N0 x0 _ rfl
theorem d7_0 : decode method_3_code 0 = .ok (.iload_n 1, 1) := by decide +kernel
theorem d7_1 : decode method_3_code 1 = .ok (.i2l, 1) := by decide +kernel
theorem d7_2 : decode method_3_code 2 = .ok (.iload_n 0, 1) := by decide +kernel
theorem d7_3 : decode method_3_code 3 = .ok (.i2l, 1) := by decide +kernel
theorem d7_4 : decode method_3_code 4 = .ok (.lsub, 1) := by decide +kernel
theorem d7_5 : decode method_3_code 5 = .ok (.lstore_n 3, 1) := by decide +kernel
theorem d7_6 : decode method_3_code 6 = .ok (.iload_n 2, 1) := by decide +kernel
theorem d7_7 : decode method_3_code 7 = .ok (.i2l, 1) := by decide +kernel
theorem d7_8 : decode method_3_code 8 = .ok (.iload_n 0, 1) := by decide +kernel
theorem d7_9 : decode method_3_code 9 = .ok (.i2l, 1) := by decide +kernel
theorem d7_10 : decode method_3_code 10 = .ok (.lsub, 1) := by decide +kernel
theorem d7_11 : decode method_3_code 11 = .ok (.lstore 5, 2) := by decide +kernel
theorem d7_13 : decode method_3_code 13 = .ok (.lload 5, 2) := by decide +kernel
theorem d7_15 : decode method_3_code 15 = .ok (.lconst 0, 1) := by decide +kernel
theorem d7_16 : decode method_3_code 16 = .ok (.lcmp, 1) := by decide +kernel
theorem d7_17 : decode method_3_code 17 = .ok (.ifCond .lt 17, 3) := by decide +kernel
theorem d7_20 : decode method_3_code 20 = .ok (.lload 5, 2) := by decide +kernel
theorem d7_22 : decode method_3_code 22 = .ok (.lload_n 3, 1) := by decide +kernel
theorem d7_23 : decode method_3_code 23 = .ok (.invokestatic 7, 3) := by decide +kernel
theorem d7_26 : decode method_3_code 26 = .ok (.lcmp, 1) := by decide +kernel
theorem d7_27 : decode method_3_code 27 = .ok (.ifCond .gt 7, 3) := by decide +kernel
theorem d7_30 : decode method_3_code 30 = .ok (.iconst 1, 1) := by decide +kernel
theorem d7_31 : decode method_3_code 31 = .ok (.goto 4, 3) := by decide +kernel
theorem d7_34 : decode method_3_code 34 = .ok (.iconst 0, 1) := by decide +kernel
theorem d7_35 : decode method_3_code 35 = .ok (.ireturn, 1) := by decide +kernel
theorem pd__J_J : parseMethodDescriptor "(J)J" = some ⟨[.long], some .long⟩ := by decide +kernel
abbrev R7 : Room := { frames := 1, cells := 0, slots := 0, locals := 17 }
def f7_34 (x0 : Int32) (x1 : Int32) (x2 : Int32) (x3 : Int64) (x4 : Int64) : Int32 := (0 : Int32)
set_option maxRecDepth 65536 in
set_option maxHeartbeats 40000000 in
theorem b7_34 {p : Program} {l : Launch} {e : Env} {s : State} {m : MethodId} {args : Array Value} {below : List Frame} {meth : Method} {c : Code} {T0 : State} {locs : List Loc} {Z : State} {a0 : Array Value} {h0 : Heap} {n0 : Nat} (hx : p.tables.exec = Jvm.exec) (hZ : Z.Warmed39 s.vm) (hw : ∀ d ∈ tables_1, d.before a0 Z = true) (hby : c.code = method_3_code) (hml : c.maxLocals = 7) (hown : s.vm.findClass "com/example/ningbo/ningbo/engine/StateLayoutFitsPinLaw" = some m.cls) (hret : meth.sig.returnType = (some .boolean)) (hlk : meth.locks = false) (X0 : Stand p l e R7 s m args below meth c T0 locs 0 0) (e0 : T0.heap = h0) (N0 : Fr n0 locs) (x0 : Int32) (x1 : Int32) (x2 : Int32) (x3 : Int64) (x4 : Int64) (r : Int32) (hr : r = f7_34 x0 x1 x2 x3 x4) :
    ownGo p.tables e below T0 (mkF m 34 #[.val (.int x0), .val (.int x1), .val (.int x2), .val (.long x3), .second, .val (.long x4), .second] []) (ownDone s (ownPure (.int r) h0 n0) 0 0) := by
  have hr0 : r = (0 : Int32) := hr
  refine ownGo.st (fun _ k => XS.iconst X0.here hx rfl (hb hby d7_34)  k) ?_
  show ownGo p.tables e below T0 (mkF m 35 #[.val (.int x0), .val (.int x1), .val (.int x2), .val (.long x3), .second, .val (.long x4), .second] [(.int (0 : Int32))]) _
  exact own_retZ X0 hx hlk hret (hb hby d7_35) (by first | exact Or.inl rfl | exact Or.inr rfl) ⟨congrArg (fun z => some (Value.int z)) hr0.symm, N0, e0⟩ (Nat.le_refl _) (Nat.le_refl _)
def f7_0 (x0 : Int32) (x1 : Int32) (x2 : Int32) : Int32 := (if ((x2.toInt64) - (x0.toInt64)) < (0 : Int64) then (f7_34 x0 x1 x2 ((x1.toInt64) - (x0.toInt64)) ((x2.toInt64) - (x0.toInt64))) else (if (F8 ((x1.toInt64) - (x0.toInt64))) < ((x2.toInt64) - (x0.toInt64)) then (f7_34 x0 x1 x2 ((x1.toInt64) - (x0.toInt64)) ((x2.toInt64) - (x0.toInt64))) else (1 : Int32)))
set_option maxRecDepth 65536 in
set_option maxHeartbeats 40000000 in
theorem b7_0 {p : Program} {l : Launch} {e : Env} {s : State} {m : MethodId} {args : Array Value} {below : List Frame} {meth : Method} {c : Code} {T0 : State} {locs : List Loc} {Z : State} {a0 : Array Value} {h0 : Heap} {n0 : Nat} (hx : p.tables.exec = Jvm.exec) (hZ : Z.Warmed39 s.vm) (hw : ∀ d ∈ tables_1, d.before a0 Z = true) (hby : c.code = method_3_code) (hml : c.maxLocals = 7) (hown : s.vm.findClass "com/example/ningbo/ningbo/engine/StateLayoutFitsPinLaw" = some m.cls) (hret : meth.sig.returnType = (some .boolean)) (hlk : meth.locks = false) (X0 : Stand p l e R7 s m args below meth c T0 locs 0 0) (e0 : T0.heap = h0) (N0 : Fr n0 locs) (x0 : Int32) (x1 : Int32) (x2 : Int32) (r : Int32) (hr : r = f7_0 x0 x1 x2) :
    ownGo p.tables e below T0 (mkF m 0 #[.val (.int x0), .val (.int x1), .val (.int x2), .unset, .unset, .unset, .unset] []) (ownDone s (ownPure (.int r) h0 n0) 0 0) := by
  have hr0 : r = (if ((x2.toInt64) - (x0.toInt64)) < (0 : Int64) then (f7_34 x0 x1 x2 ((x1.toInt64) - (x0.toInt64)) ((x2.toInt64) - (x0.toInt64))) else (if (F8 ((x1.toInt64) - (x0.toInt64))) < ((x2.toInt64) - (x0.toInt64)) then (f7_34 x0 x1 x2 ((x1.toInt64) - (x0.toInt64)) ((x2.toInt64) - (x0.toInt64))) else (1 : Int32))) := hr
  refine ownGo.st (fun _ k => XS.iloadN X0.here hx rfl (hb hby d7_0) rfl k) ?_
  show ownGo p.tables e below T0 (mkF m 1 #[.val (.int x0), .val (.int x1), .val (.int x2), .unset, .unset, .unset, .unset] [(.int x1)]) _
  refine ownGo.st (fun _ k => XS.i2l X0.here hx rfl (hb hby d7_1) rfl k) ?_
  show ownGo p.tables e below T0 (mkF m 2 #[.val (.int x0), .val (.int x1), .val (.int x2), .unset, .unset, .unset, .unset] [(.long (x1.toInt64))]) _
  refine ownGo.st (fun _ k => XS.iloadN X0.here hx rfl (hb hby d7_2) rfl k) ?_
  show ownGo p.tables e below T0 (mkF m 3 #[.val (.int x0), .val (.int x1), .val (.int x2), .unset, .unset, .unset, .unset] [(.int x0), (.long (x1.toInt64))]) _
  refine ownGo.st (fun _ k => XS.i2l X0.here hx rfl (hb hby d7_3) rfl k) ?_
  show ownGo p.tables e below T0 (mkF m 4 #[.val (.int x0), .val (.int x1), .val (.int x2), .unset, .unset, .unset, .unset] [(.long (x0.toInt64)), (.long (x1.toInt64))]) _
  refine ownGo.st (fun _ k => XS.lsub X0.here hx rfl (hb hby d7_4) rfl k) ?_
  show ownGo p.tables e below T0 (mkF m 5 #[.val (.int x0), .val (.int x1), .val (.int x2), .unset, .unset, .unset, .unset] [(.long ((x1.toInt64) - (x0.toInt64)))]) _
  refine ownGo.st (fun _ k => XS.lstoreN X0.here hx rfl (hb hby d7_5) rfl (l' := #[.val (.int x0), .val (.int x1), .val (.int x2), .val (.long ((x1.toInt64) - (x0.toInt64))), .second, .unset, .unset]) rfl k) ?_
  show ownGo p.tables e below T0 (mkF m 6 #[.val (.int x0), .val (.int x1), .val (.int x2), .val (.long ((x1.toInt64) - (x0.toInt64))), .second, .unset, .unset] []) _
  refine ownGo.st (fun _ k => XS.iloadN X0.here hx rfl (hb hby d7_6) rfl k) ?_
  show ownGo p.tables e below T0 (mkF m 7 #[.val (.int x0), .val (.int x1), .val (.int x2), .val (.long ((x1.toInt64) - (x0.toInt64))), .second, .unset, .unset] [(.int x2)]) _
  refine ownGo.st (fun _ k => XS.i2l X0.here hx rfl (hb hby d7_7) rfl k) ?_
  show ownGo p.tables e below T0 (mkF m 8 #[.val (.int x0), .val (.int x1), .val (.int x2), .val (.long ((x1.toInt64) - (x0.toInt64))), .second, .unset, .unset] [(.long (x2.toInt64))]) _
  refine ownGo.st (fun _ k => XS.iloadN X0.here hx rfl (hb hby d7_8) rfl k) ?_
  show ownGo p.tables e below T0 (mkF m 9 #[.val (.int x0), .val (.int x1), .val (.int x2), .val (.long ((x1.toInt64) - (x0.toInt64))), .second, .unset, .unset] [(.int x0), (.long (x2.toInt64))]) _
  refine ownGo.st (fun _ k => XS.i2l X0.here hx rfl (hb hby d7_9) rfl k) ?_
  show ownGo p.tables e below T0 (mkF m 10 #[.val (.int x0), .val (.int x1), .val (.int x2), .val (.long ((x1.toInt64) - (x0.toInt64))), .second, .unset, .unset] [(.long (x0.toInt64)), (.long (x2.toInt64))]) _
  refine ownGo.st (fun _ k => XS.lsub X0.here hx rfl (hb hby d7_10) rfl k) ?_
  show ownGo p.tables e below T0 (mkF m 11 #[.val (.int x0), .val (.int x1), .val (.int x2), .val (.long ((x1.toInt64) - (x0.toInt64))), .second, .unset, .unset] [(.long ((x2.toInt64) - (x0.toInt64)))]) _
  refine ownGo.st (fun _ k => XS.lstore X0.here hx rfl (hb hby d7_11) rfl (l' := #[.val (.int x0), .val (.int x1), .val (.int x2), .val (.long ((x1.toInt64) - (x0.toInt64))), .second, .val (.long ((x2.toInt64) - (x0.toInt64))), .second]) rfl k) ?_
  show ownGo p.tables e below T0 (mkF m 13 #[.val (.int x0), .val (.int x1), .val (.int x2), .val (.long ((x1.toInt64) - (x0.toInt64))), .second, .val (.long ((x2.toInt64) - (x0.toInt64))), .second] []) _
  refine ownGo.st (fun _ k => XS.lload X0.here hx rfl (hb hby d7_13) rfl k) ?_
  show ownGo p.tables e below T0 (mkF m 15 #[.val (.int x0), .val (.int x1), .val (.int x2), .val (.long ((x1.toInt64) - (x0.toInt64))), .second, .val (.long ((x2.toInt64) - (x0.toInt64))), .second] [(.long ((x2.toInt64) - (x0.toInt64)))]) _
  refine ownGo.st (fun _ k => XS.lconst X0.here hx rfl (hb hby d7_15)  k) ?_
  show ownGo p.tables e below T0 (mkF m 16 #[.val (.int x0), .val (.int x1), .val (.int x2), .val (.long ((x1.toInt64) - (x0.toInt64))), .second, .val (.long ((x2.toInt64) - (x0.toInt64))), .second] [(.long (0 : Int64)), (.long ((x2.toInt64) - (x0.toInt64)))]) _
  refine ownGo.st (fun _ k => XS.lcmp X0.here hx rfl (hb hby d7_16) rfl k) ?_
  show ownGo p.tables e below T0 (mkF m 17 #[.val (.int x0), .val (.int x1), .val (.int x2), .val (.long ((x1.toInt64) - (x0.toInt64))), .second, .val (.long ((x2.toInt64) - (x0.toInt64))), .second] [(.int (lcmpW ((x2.toInt64) - (x0.toInt64)) (0 : Int64)))]) _
  by_cases hc17 : ((x2.toInt64) - (x0.toInt64)) < (0 : Int64)
  · have hr226 := hr0.trans (if_pos hc17)
    refine ownGo.st (fun _ k => XS.ifYes X0.here hx rfl (pc0 := 17) (pc' := 34) rfl (hb hby d7_17) rfl ((if0 _ _).trans (tlt ((lw_lt _ _).mpr hc17)).1) (by decide) (by decide) k) ?_
    show ownGo p.tables e below T0 (mkF m 34 #[.val (.int x0), .val (.int x1), .val (.int x2), .val (.long ((x1.toInt64) - (x0.toInt64))), .second, .val (.long ((x2.toInt64) - (x0.toInt64))), .second] []) _
    exact b7_34 hx hZ hw hby hml hown hret hlk X0 e0 N0 x0 x1 x2 ((x1.toInt64) - (x0.toInt64)) ((x2.toInt64) - (x0.toInt64)) r hr226
  · have hr226 := hr0.trans (if_neg hc17)
    refine ownGo.st (fun _ k => XS.ifNo X0.here hx rfl (hb hby d7_17) rfl ((if0 _ _).trans (flt (fun q => hc17 ((lw_lt _ _).mp q))).1) k) ?_
    show ownGo p.tables e below T0 (mkF m 20 #[.val (.int x0), .val (.int x1), .val (.int x2), .val (.long ((x1.toInt64) - (x0.toInt64))), .second, .val (.long ((x2.toInt64) - (x0.toInt64))), .second] []) _
    refine ownGo.st (fun _ k => XS.lload X0.here hx rfl (hb hby d7_20) rfl k) ?_
    show ownGo p.tables e below T0 (mkF m 22 #[.val (.int x0), .val (.int x1), .val (.int x2), .val (.long ((x1.toInt64) - (x0.toInt64))), .second, .val (.long ((x2.toInt64) - (x0.toInt64))), .second] [(.long ((x2.toInt64) - (x0.toInt64)))]) _
    refine ownGo.st (fun _ k => XS.lloadN X0.here hx rfl (hb hby d7_22) rfl k) ?_
    show ownGo p.tables e below T0 (mkF m 23 #[.val (.int x0), .val (.int x1), .val (.int x2), .val (.long ((x1.toInt64) - (x0.toInt64))), .second, .val (.long ((x2.toInt64) - (x0.toInt64))), .second] [(.long ((x1.toInt64) - (x0.toInt64))), (.long ((x2.toInt64) - (x0.toInt64)))]) _
    obtain ⟨_, T227, L227, X227, hQ227, st227⟩ := own_callS X0 hx hZ hown (own_at hw 55 rfl) (own_at hw 56 rfl) (own_at hw 53 rfl) (own_at hw 57 rfl) (by decide) (rm8 l Z a0 hw ((x1.toInt64) - (x0.toInt64)) h0 n0) 2 (by decide) (by decide) e0 (by decide) (by decide) (g := (mkF m 23 #[.val (.int x0), .val (.int x1), .val (.int x2), .val (.long ((x1.toInt64) - (x0.toInt64))), .second, .val (.long ((x2.toInt64) - (x0.toInt64))), .second] [(.long ((x1.toInt64) - (x0.toInt64))), (.long ((x2.toInt64) - (x0.toInt64)))])) rfl (by rw [hml]; rfl) (argsL := [(.long ((x1.toInt64) - (x0.toInt64)))]) (rest := [(.long ((x2.toInt64) - (x0.toInt64)))]) (lenOf pd__J_J rfl) rfl (by show 2 * 0 + _ ≤ _; exact Nat.le_of_eq rfl) (hb hby d7_23)
    obtain ⟨rfl, N227q, e227⟩ := hQ227
    have N227 := Fr.app N0 N227q
    refine ownGo.st st227 ?_
    show ownGo p.tables e below T227 (mkF m 26 #[.val (.int x0), .val (.int x1), .val (.int x2), .val (.long ((x1.toInt64) - (x0.toInt64))), .second, .val (.long ((x2.toInt64) - (x0.toInt64))), .second] [(.long (F8 ((x1.toInt64) - (x0.toInt64)))), (.long ((x2.toInt64) - (x0.toInt64)))]) _
    refine ownGo.st (fun _ k => XS.lcmp X227.here hx rfl (hb hby d7_26) rfl k) ?_
    show ownGo p.tables e below T227 (mkF m 27 #[.val (.int x0), .val (.int x1), .val (.int x2), .val (.long ((x1.toInt64) - (x0.toInt64))), .second, .val (.long ((x2.toInt64) - (x0.toInt64))), .second] [(.int (lcmpW ((x2.toInt64) - (x0.toInt64)) (F8 ((x1.toInt64) - (x0.toInt64)))))]) _
    by_cases hc27 : (F8 ((x1.toInt64) - (x0.toInt64))) < ((x2.toInt64) - (x0.toInt64))
    · have hr228 := hr226.trans (if_pos hc27)
      refine ownGo.st (fun _ k => XS.ifYes X227.here hx rfl (pc0 := 27) (pc' := 34) rfl (hb hby d7_27) rfl ((if0 _ _).trans (tlt ((lw_gt _ _).mpr hc27)).2.2.1) (by decide) (by decide) k) ?_
      show ownGo p.tables e below T227 (mkF m 34 #[.val (.int x0), .val (.int x1), .val (.int x2), .val (.long ((x1.toInt64) - (x0.toInt64))), .second, .val (.long ((x2.toInt64) - (x0.toInt64))), .second] []) _
      exact b7_34 hx hZ hw hby hml hown hret hlk X227 e227 N227 x0 x1 x2 ((x1.toInt64) - (x0.toInt64)) ((x2.toInt64) - (x0.toInt64)) r hr228
    · have hr228 := hr226.trans (if_neg hc27)
      refine ownGo.st (fun _ k => XS.ifNo X227.here hx rfl (hb hby d7_27) rfl ((if0 _ _).trans (flt (fun q => hc27 ((lw_gt _ _).mp q))).2.2.1) k) ?_
      show ownGo p.tables e below T227 (mkF m 30 #[.val (.int x0), .val (.int x1), .val (.int x2), .val (.long ((x1.toInt64) - (x0.toInt64))), .second, .val (.long ((x2.toInt64) - (x0.toInt64))), .second] []) _
      refine ownGo.st (fun _ k => XS.iconst X227.here hx rfl (hb hby d7_30)  k) ?_
      show ownGo p.tables e below T227 (mkF m 31 #[.val (.int x0), .val (.int x1), .val (.int x2), .val (.long ((x1.toInt64) - (x0.toInt64))), .second, .val (.long ((x2.toInt64) - (x0.toInt64))), .second] [(.int (1 : Int32))]) _
      refine ownGo.st (fun _ k => XS.goto X227.here hx rfl (pc0 := 31) (pc' := 35) rfl (hb hby d7_31) (by decide) (by decide) k) ?_
      show ownGo p.tables e below T227 (mkF m 35 #[.val (.int x0), .val (.int x1), .val (.int x2), .val (.long ((x1.toInt64) - (x0.toInt64))), .second, .val (.long ((x2.toInt64) - (x0.toInt64))), .second] [(.int (1 : Int32))]) _
      exact own_retZ X227 hx hlk hret (hb hby d7_35) (by first | exact Or.inl rfl | exact Or.inr rfl) ⟨congrArg (fun z => some (Value.int z)) hr228.symm, N227, e227⟩ (Nat.le_refl _) (Nat.le_refl _)
abbrev F7 (x0 : Int32) (x1 : Int32) (x2 : Int32) : Int32 := f7_0 x0 x1 x2
theorem pn_7 : plainName "com/example/ningbo/ningbo/engine/StateLayoutFitsPinLaw" = true := by first | (simp [plainName, overriddenIn]; done) | decide +kernel
theorem ef_7 (m : MethodId) (x0 : Int32) (x1 : Int32) (x2 : Int32) : entryFrame m #[(.int x0), (.int x1), (.int x2)] 7 = mkF m 0 #[.val (.int x0), .val (.int x1), .val (.int x2), .unset, .unset, .unset, .unset] [] := by first | (simp [entryFrame, mkF, argsToLocals, Value.category]; done) | rfl
set_option maxRecDepth 65536 in
set_option maxHeartbeats 40000000 in
theorem rm7 (l : Launch) (Z : State) (a0 : Array Value) (hw : ∀ d ∈ tables_1, d.before a0 Z = true) (x0 : Int32) (x1 : Int32) (x2 : Int32) (h0 : Heap) (n0 : Nat)  :
    MetFree l (⟨"com/example/ningbo/ningbo/engine/StateLayoutFitsPinLaw", "holds", "(III)Z"⟩ : MethodName) (head1 [Jvm.Cond.code (⟨"com/example/ningbo/ningbo/engine/StateLayoutFitsPinLaw", "holds", "(III)Z"⟩ : MethodName) method_3_code 7 (some .boolean)] R7) (fun a U => a = #[(.int x0), (.int x1), (.int x2)] ∧ Z.Warmed39 U.vm ∧ U.heap = h0) (fun _ _ _ _ _ => True) (fun _ U o U' => ∃ v L, o = .returned v ∧ ownPure (.int (F7 x0 x1 x2)) h0 n0 v U'.heap L ∧ FrameEnd U o U' L R7.cells R7.slots) := by
  refine MetFree.of_bodySF (plainFor_of_name pn_7) hisR ?_
  intro p e s m args below meth c s₁ Bd hml0 hP hK
  obtain ⟨rfl, hZ, hh⟩ := hP
  have hx := Bd.exec
  have hby := Bd.bytes
  have hml : c.maxLocals = 7 := hml0
  have hown : s.vm.findClass "com/example/ningbo/ningbo/engine/StateLayoutFitsPinLaw" = some m.cls := findClass_of_methodNamed Bd.named
  have hnm := (name_of_methodNamed Bd.named Bd.method).1
  have hret := Bd.returns
  have hlk : meth.locks = false := BodyLoose.notSynchronized Bd
  have X0 : Stand p l e R7 s m #[(.int x0), (.int x1), (.int x2)] below meth c s₁ [] 0 0 := Stand.of_body Bd
  have e0 : s₁.heap = h0 := by rw [← hh, Bd.state]; rfl
  have N0 := Fr.nil n0
  show ownGo p.tables e below s₁ (entryFrame m #[(.int x0), (.int x1), (.int x2)] 7) (ownDone s (ownPure (.int (F7 x0 x1 x2)) h0 n0) R7.cells R7.slots)
  rw [ef_7 m x0 x1 x2]
  exact b7_0 hx hZ hw hby hml hown hret hlk X0 e0 N0 x0 x1 x2 _ rfl
def ownSm (v w : BitVec 64) (s : Nat) : Prop := ∀ j, w.getLsbD j = true ↔ ∃ t, t < s ∧ v.getLsbD (j + t) = true
theorem ownSm.step {v w w' : BitVec 64} {s : Nat} (h : ownSm v w s) (hw : w' = w ||| (w >>> s)) : ownSm v w' (s + s) := by
  intro j
  subst hw
  rw [BitVec.getLsbD_or, BitVec.getLsbD_ushiftRight, Bool.or_eq_true, h j, h (s + j)]
  constructor
  · rintro (⟨t, h1, h2⟩ | ⟨t, h1, h2⟩)
    · exact ⟨t, by omega, h2⟩
    · exact ⟨s + t, by omega, by rw [show j + (s + t) = s + j + t by omega]; exact h2⟩
  · rintro ⟨t, h1, h2⟩
    by_cases q : t < s
    · exact Or.inl ⟨t, q, h2⟩
    · exact Or.inr ⟨t - s, by omega, by rw [show s + j + (t - s) = j + t by omega]; exact h2⟩
theorem own_or_shr (x y : Int64) (k : Nat) (hk : k < 64) (h : y = x ||| (own_lushr x (Int32.ofNat k))) : y.toBitVec = x.toBitVec ||| (x.toBitVec >>> k) := by
  rw [h, Int64.toBitVec_or, own_lushr_bv' x k hk]
theorem own_smear (v : Int64) (kb : Nat) (h : ownBits v.toInt kb) : F8 v = own_mk kb := by
  have r := h.rng
  have s0 : ownSm v.toBitVec v.toBitVec 1 := fun j => ⟨fun q => ⟨0, by omega, q⟩, fun ⟨t, h1, h2⟩ => by
    have q : t = 0 := (by omega)
    subst q
    exact h2⟩
  have s1 := s0.step (own_or_shr v _ 1 (by decide) rfl)
  have s2 := s1.step (own_or_shr _ (v8_13 v) 2 (by decide) rfl)
  have s3 := s2.step (own_or_shr _ (v8_19 v) 4 (by decide) rfl)
  have s4 := s3.step (own_or_shr _ (v8_26 v) 8 (by decide) rfl)
  have s5 := s4.step (own_or_shr _ (v8_33 v) 16 (by decide) rfl)
  have s6 := s5.step (own_or_shr _ (v8_40 v) 32 (by decide) rfl)
  have e : F8 v = v8_40 v := rfl
  rw [e]
  apply Int64.toBitVec_inj.mp
  apply BitVec.eq_of_getLsbD_eq
  intro j hj
  rw [own_mk_bit kb (by omega), Bool.eq_iff_iff, s6 j, decide_eq_true_iff]
  have tn := own_tonat v r.1
  have lt : v.toBitVec.toNat < 2 ^ kb := by
    have := r.2.2.2
    rw [← tn] at this
    exact_mod_cast this
  constructor
  · rintro ⟨t, h1, h2⟩
    apply Nat.lt_of_not_le
    intro z
    rw [← BitVec.testBit_toNat, Nat.testBit_lt_two_pow (Nat.lt_of_lt_of_le lt (Nat.pow_le_pow_right (by decide) (show kb ≤ j + t by omega)))] at h2
    cases h2
  · intro z
    rcases h with ⟨h1, h2⟩ | ⟨h1, h2, h3, h4⟩
    · omega
    · refine ⟨kb - 1 - j, by omega, ?_⟩
      rw [show j + (kb - 1 - j) = kb - 1 by omega, ← BitVec.testBit_toNat]
      have g : 2 ^ (kb - 1) ≤ v.toBitVec.toNat := by rw [← tn] at h3; exact_mod_cast h3
      have g2 : v.toBitVec.toNat < 2 ^ (kb - 1 + 1) := by rw [show kb - 1 + 1 = kb by omega]; exact lt
      rw [Nat.testBit_eq_decide_div_mod_eq]
      have q : v.toBitVec.toNat / 2 ^ (kb - 1) = 1 := by
        apply Nat.div_eq_of_lt_le
        · omega
        · rw [Nat.pow_succ] at g2; omega
      rw [q]; rfl
def own_fit (sv lo : Nat → Int32) (kb : Nat → Nat) : Nat → Nat → Int32
  | 0, _ => 1
  | k + 1, i => if sv i < lo i then 0 else if own_mk (kb i) < (sv i).toInt64 - (lo i).toInt64 then 0 else own_fit sv lo kb k (i + 1)
theorem d9_0 : decode prog_49_method_6_code 0 = .ok (.iconst 0, 1) := by decide +kernel
theorem d9_1 : decode prog_49_method_6_code 1 = .ok (.istore_n 2, 1) := by decide +kernel
theorem d9_2 : decode prog_49_method_6_code 2 = .ok (.iload_n 2, 1) := by decide +kernel
theorem d9_3 : decode prog_49_method_6_code 3 = .ok (.aload_n 0, 1) := by decide +kernel
theorem d9_4 : decode prog_49_method_6_code 4 = .ok (.getfield 7, 3) := by decide +kernel
theorem d9_7 : decode prog_49_method_6_code 7 = .ok (.if_icmp .ge 45, 3) := by decide +kernel
theorem d9_10 : decode prog_49_method_6_code 10 = .ok (.aload_n 1, 1) := by decide +kernel
theorem d9_11 : decode prog_49_method_6_code 11 = .ok (.iload_n 2, 1) := by decide +kernel
theorem d9_12 : decode prog_49_method_6_code 12 = .ok (.iaload, 1) := by decide +kernel
theorem d9_13 : decode prog_49_method_6_code 13 = .ok (.aload_n 0, 1) := by decide +kernel
theorem d9_14 : decode prog_49_method_6_code 14 = .ok (.getfield 19, 3) := by decide +kernel
theorem d9_17 : decode prog_49_method_6_code 17 = .ok (.iload_n 2, 1) := by decide +kernel
theorem d9_18 : decode prog_49_method_6_code 18 = .ok (.iaload, 1) := by decide +kernel
theorem d9_19 : decode prog_49_method_6_code 19 = .ok (.if_icmp .lt 25, 3) := by decide +kernel
theorem d9_22 : decode prog_49_method_6_code 22 = .ok (.aload_n 1, 1) := by decide +kernel
theorem d9_23 : decode prog_49_method_6_code 23 = .ok (.iload_n 2, 1) := by decide +kernel
theorem d9_24 : decode prog_49_method_6_code 24 = .ok (.iaload, 1) := by decide +kernel
theorem d9_25 : decode prog_49_method_6_code 25 = .ok (.i2l, 1) := by decide +kernel
theorem d9_26 : decode prog_49_method_6_code 26 = .ok (.aload_n 0, 1) := by decide +kernel
theorem d9_27 : decode prog_49_method_6_code 27 = .ok (.getfield 19, 3) := by decide +kernel
theorem d9_30 : decode prog_49_method_6_code 30 = .ok (.iload_n 2, 1) := by decide +kernel
theorem d9_31 : decode prog_49_method_6_code 31 = .ok (.iaload, 1) := by decide +kernel
theorem d9_32 : decode prog_49_method_6_code 32 = .ok (.i2l, 1) := by decide +kernel
theorem d9_33 : decode prog_49_method_6_code 33 = .ok (.lsub, 1) := by decide +kernel
theorem d9_34 : decode prog_49_method_6_code 34 = .ok (.aload_n 0, 1) := by decide +kernel
theorem d9_35 : decode prog_49_method_6_code 35 = .ok (.getfield 28, 3) := by decide +kernel
theorem d9_38 : decode prog_49_method_6_code 38 = .ok (.iload_n 2, 1) := by decide +kernel
theorem d9_39 : decode prog_49_method_6_code 39 = .ok (.laload, 1) := by decide +kernel
theorem d9_40 : decode prog_49_method_6_code 40 = .ok (.lcmp, 1) := by decide +kernel
theorem d9_41 : decode prog_49_method_6_code 41 = .ok (.ifCond .le 5, 3) := by decide +kernel
theorem d9_44 : decode prog_49_method_6_code 44 = .ok (.iconst 0, 1) := by decide +kernel
theorem d9_45 : decode prog_49_method_6_code 45 = .ok (.ireturn, 1) := by decide +kernel
theorem d9_46 : decode prog_49_method_6_code 46 = .ok (.iinc 2 1, 3) := by decide +kernel
theorem d9_49 : decode prog_49_method_6_code 49 = .ok (.goto (-47), 3) := by decide +kernel
theorem d9_52 : decode prog_49_method_6_code 52 = .ok (.iconst 1, 1) := by decide +kernel
theorem d9_53 : decode prog_49_method_6_code 53 = .ok (.ireturn, 1) := by decide +kernel
abbrev R9 : Room := { frames := 0, cells := 0, slots := 0, locals := 0 }
set_option maxRecDepth 65536 in
set_option maxHeartbeats 40000000 in
theorem own_loopF {p : Program} {l : Launch} {e : Env} {s : State} {m : MethodId} {args : Array Value} {below : List Frame} {meth : Method} {c : Code} {locs : List Loc} {Z : State} {a0 : Array Value} {h0 : Heap} {n0 : Nat} (hx : p.tables.exec = Jvm.exec) (hZ : Z.Warmed39 s.vm) (hw : ∀ d ∈ tables_1, d.before a0 Z = true) (hby : c.code = prog_49_method_6_code) (hml : c.maxLocals = 3) (hown : s.vm.findClass "com/example/ningbo/ningbo/engine/StateLayout" = some m.cls) (hret : meth.sig.returnType = (some .boolean)) (hlk : meth.locks = false) (N0 : Fr n0 locs) (x0 x1 lb k : Addr) (sv lo : Nat → Int32) (kb : Nat → Nat) (r : Int32) (F1 : Fld Z h0 x0 "com/example/ningbo/ningbo/engine/StateLayout" "width" "I" (.int (2 : Int32))) (G1 : Fld Z h0 x0 "com/example/ningbo/ningbo/engine/StateLayout" "lowerBounds" "[I" (.ref lb)) (G4 : Fld Z h0 x0 "com/example/ningbo/ningbo/engine/StateLayout" "maskOf" "[J" (.ref k)) (V1 : ownA Z h0 x1 .int 2 (fun i => .int (sv i))) (VL : ownA Z h0 lb .int 2 (fun i => .int (lo i))) (Vk : ownA Z h0 k .long 2 (fun i => .long (own_mk (kb i)))) :
    ∀ (kk i : Nat), i + kk = 2 → ∀ (T0 : State), Stand p l e R9 s m args below meth c T0 locs 0 0 → T0.heap = h0 → r = own_fit sv lo kb kk i → ownGo p.tables e below T0 (mkF m 2 #[.val (.ref x0), .val (.ref x1), .val (.int (Int32.ofNat i))] []) (ownDone s (ownPure (.int r) h0 n0) 0 0) := by
  intro kk
  induction kk with
  | zero =>
    intro i hi T0 X0 e0 hr
    obtain rfl : i = 2 := by omega
    have hr : r = 1 := hr
    refine ownGo.st (fun _ k => XS.iloadN X0.here hx rfl (hb hby d9_2) rfl k) ?_
    show ownGo p.tables e below T0 (mkF m 3 #[.val (.ref x0), .val (.ref x1), .val (.int (Int32.ofNat 2))] [(.int (Int32.ofNat 2))]) _
    refine ownGo.st (fun _ k => XS.aloadN X0.here hx rfl (hb hby d9_3) rfl rfl k) ?_
    show ownGo p.tables e below T0 (mkF m 4 #[.val (.ref x0), .val (.ref x1), .val (.int (Int32.ofNat 2))] [(.ref x0), (.int (Int32.ofNat 2))]) _
    obtain ⟨T229, X229, e229, st229⟩ := getF X0 hx hZ hown (host := "") (Or.inl (own_at hw 17 rfl)) Via.refl e0 F1 (g := (mkF m 4 #[.val (.ref x0), .val (.ref x1), .val (.int (Int32.ofNat 2))] [(.ref x0), (.int (Int32.ofNat 2))])) rfl rfl (hb hby d9_4)
    refine ownGo.st (st229) ?_
    show ownGo p.tables e below T229 (mkF m 7 #[.val (.ref x0), .val (.ref x1), .val (.int (Int32.ofNat 2))] [(.int (2 : Int32)), (.int (Int32.ofNat 2))]) _
    have hc230 : ¬ ((Int32.ofNat 2) < (2 : Int32)) := Int32.lt_irrefl
    refine ownGo.st (fun _ k => XS.icmpYes X229.here hx rfl (pc0 := 7) (pc' := 52) rfl (hb hby d9_7) rfl (flt hc230).2.1 (by decide) (by decide) k) ?_
    show ownGo p.tables e below T229 (mkF m 52 #[.val (.ref x0), .val (.ref x1), .val (.int (Int32.ofNat 2))] []) _
    refine ownGo.st (fun _ k => XS.iconst X229.here hx rfl (hb hby d9_52)  k) ?_
    show ownGo p.tables e below T229 (mkF m 53 #[.val (.ref x0), .val (.ref x1), .val (.int (Int32.ofNat 2))] [(.int (1 : Int32))]) _
    exact own_retZ X229 hx hlk hret (hb hby d9_53) (by first | exact Or.inl rfl | exact Or.inr rfl) ⟨congrArg (fun z => some (Value.int z)) hr.symm, N0, e229⟩ (Nat.le_refl _) (Nat.le_refl _)
  | succ kk ih =>
    intro i hi T0 X0 e0 hr
    refine ownGo.st (fun _ k => XS.iloadN X0.here hx rfl (hb hby d9_2) rfl k) ?_
    show ownGo p.tables e below T0 (mkF m 3 #[.val (.ref x0), .val (.ref x1), .val (.int (Int32.ofNat i))] [(.int (Int32.ofNat i))]) _
    refine ownGo.st (fun _ k => XS.aloadN X0.here hx rfl (hb hby d9_3) rfl rfl k) ?_
    show ownGo p.tables e below T0 (mkF m 4 #[.val (.ref x0), .val (.ref x1), .val (.int (Int32.ofNat i))] [(.ref x0), (.int (Int32.ofNat i))]) _
    obtain ⟨T231, X231, e231, st231⟩ := getF X0 hx hZ hown (host := "") (Or.inl (own_at hw 17 rfl)) Via.refl e0 F1 (g := (mkF m 4 #[.val (.ref x0), .val (.ref x1), .val (.int (Int32.ofNat i))] [(.ref x0), (.int (Int32.ofNat i))])) rfl rfl (hb hby d9_4)
    refine ownGo.st (st231) ?_
    show ownGo p.tables e below T231 (mkF m 7 #[.val (.ref x0), .val (.ref x1), .val (.int (Int32.ofNat i))] [(.int (2 : Int32)), (.int (Int32.ofNat i))]) _
    have hc232 : (Int32.ofNat i) < (2 : Int32) := own_ltn (n := 2) (by omega) (by decide)
    refine ownGo.st (fun _ k => XS.icmpNo X231.here hx rfl (hb hby d9_7) rfl (tlt hc232).2.1 k) ?_
    show ownGo p.tables e below T231 (mkF m 10 #[.val (.ref x0), .val (.ref x1), .val (.int (Int32.ofNat i))] []) _
    refine ownGo.st (fun _ k => XS.aloadN X231.here hx rfl (hb hby d9_10) rfl rfl k) ?_
    show ownGo p.tables e below T231 (mkF m 11 #[.val (.ref x0), .val (.ref x1), .val (.int (Int32.ofNat i))] [(.ref x1)]) _
    refine ownGo.st (fun _ k => XS.iloadN X231.here hx rfl (hb hby d9_11) rfl k) ?_
    show ownGo p.tables e below T231 (mkF m 12 #[.val (.ref x0), .val (.ref x1), .val (.int (Int32.ofNat i))] [(.int (Int32.ofNat i)), (.ref x1)]) _
    refine ownGo.st (own_iaload X231 hx hZ e231 V1 (i := i) (v := (sv i)) rfl (by omega) rfl (g := (mkF m 12 #[.val (.ref x0), .val (.ref x1), .val (.int (Int32.ofNat i))] [(.int (Int32.ofNat i)), (.ref x1)])) rfl rfl (hb hby d9_12)) ?_
    show ownGo p.tables e below T231 (mkF m 13 #[.val (.ref x0), .val (.ref x1), .val (.int (Int32.ofNat i))] [(.int (sv i))]) _
    refine ownGo.st (fun _ k => XS.aloadN X231.here hx rfl (hb hby d9_13) rfl rfl k) ?_
    show ownGo p.tables e below T231 (mkF m 14 #[.val (.ref x0), .val (.ref x1), .val (.int (Int32.ofNat i))] [(.ref x0), (.int (sv i))]) _
    obtain ⟨T233, X233, e233, st233⟩ := getF X231 hx hZ hown (host := "") (Or.inl (own_at hw 28 rfl)) Via.refl e231 G1 (g := (mkF m 14 #[.val (.ref x0), .val (.ref x1), .val (.int (Int32.ofNat i))] [(.ref x0), (.int (sv i))])) rfl rfl (hb hby d9_14)
    refine ownGo.st (st233) ?_
    show ownGo p.tables e below T233 (mkF m 17 #[.val (.ref x0), .val (.ref x1), .val (.int (Int32.ofNat i))] [(.ref lb), (.int (sv i))]) _
    refine ownGo.st (fun _ k => XS.iloadN X233.here hx rfl (hb hby d9_17) rfl k) ?_
    show ownGo p.tables e below T233 (mkF m 18 #[.val (.ref x0), .val (.ref x1), .val (.int (Int32.ofNat i))] [(.int (Int32.ofNat i)), (.ref lb), (.int (sv i))]) _
    refine ownGo.st (own_iaload X233 hx hZ e233 VL (i := i) (v := (lo i)) rfl (by omega) rfl (g := (mkF m 18 #[.val (.ref x0), .val (.ref x1), .val (.int (Int32.ofNat i))] [(.int (Int32.ofNat i)), (.ref lb), (.int (sv i))])) rfl rfl (hb hby d9_18)) ?_
    show ownGo p.tables e below T233 (mkF m 19 #[.val (.ref x0), .val (.ref x1), .val (.int (Int32.ofNat i))] [(.int (lo i)), (.int (sv i))]) _
    by_cases hc1 : (sv i) < (lo i)
    · have hr : r = 0 := hr.trans (if_pos hc1)
      refine ownGo.st (fun _ k => XS.icmpYes X233.here hx rfl (pc0 := 19) (pc' := 44) rfl (hb hby d9_19) rfl (tlt hc1).1 (by decide) (by decide) k) ?_
      show ownGo p.tables e below T233 (mkF m 44 #[.val (.ref x0), .val (.ref x1), .val (.int (Int32.ofNat i))] []) _
      refine ownGo.st (fun _ k => XS.iconst X233.here hx rfl (hb hby d9_44)  k) ?_
      show ownGo p.tables e below T233 (mkF m 45 #[.val (.ref x0), .val (.ref x1), .val (.int (Int32.ofNat i))] [(.int (0 : Int32))]) _
      exact own_retZ X233 hx hlk hret (hb hby d9_45) (by first | exact Or.inl rfl | exact Or.inr rfl) ⟨congrArg (fun z => some (Value.int z)) hr.symm, N0, e233⟩ (Nat.le_refl _) (Nat.le_refl _)
    · have hr := hr.trans (if_neg hc1)
      refine ownGo.st (fun _ k => XS.icmpNo X233.here hx rfl (hb hby d9_19) rfl (flt hc1).1 k) ?_
      show ownGo p.tables e below T233 (mkF m 22 #[.val (.ref x0), .val (.ref x1), .val (.int (Int32.ofNat i))] []) _
      refine ownGo.st (fun _ k => XS.aloadN X233.here hx rfl (hb hby d9_22) rfl rfl k) ?_
      show ownGo p.tables e below T233 (mkF m 23 #[.val (.ref x0), .val (.ref x1), .val (.int (Int32.ofNat i))] [(.ref x1)]) _
      refine ownGo.st (fun _ k => XS.iloadN X233.here hx rfl (hb hby d9_23) rfl k) ?_
      show ownGo p.tables e below T233 (mkF m 24 #[.val (.ref x0), .val (.ref x1), .val (.int (Int32.ofNat i))] [(.int (Int32.ofNat i)), (.ref x1)]) _
      refine ownGo.st (own_iaload X233 hx hZ e233 V1 (i := i) (v := (sv i)) rfl (by omega) rfl (g := (mkF m 24 #[.val (.ref x0), .val (.ref x1), .val (.int (Int32.ofNat i))] [(.int (Int32.ofNat i)), (.ref x1)])) rfl rfl (hb hby d9_24)) ?_
      show ownGo p.tables e below T233 (mkF m 25 #[.val (.ref x0), .val (.ref x1), .val (.int (Int32.ofNat i))] [(.int (sv i))]) _
      refine ownGo.st (fun _ k => XS.i2l X233.here hx rfl (hb hby d9_25) rfl k) ?_
      show ownGo p.tables e below T233 (mkF m 26 #[.val (.ref x0), .val (.ref x1), .val (.int (Int32.ofNat i))] [(.long ((sv i).toInt64))]) _
      refine ownGo.st (fun _ k => XS.aloadN X233.here hx rfl (hb hby d9_26) rfl rfl k) ?_
      show ownGo p.tables e below T233 (mkF m 27 #[.val (.ref x0), .val (.ref x1), .val (.int (Int32.ofNat i))] [(.ref x0), (.long ((sv i).toInt64))]) _
      obtain ⟨T234, X234, e234, st234⟩ := getF X233 hx hZ hown (host := "") (Or.inl (own_at hw 28 rfl)) Via.refl e233 G1 (g := (mkF m 27 #[.val (.ref x0), .val (.ref x1), .val (.int (Int32.ofNat i))] [(.ref x0), (.long ((sv i).toInt64))])) rfl rfl (hb hby d9_27)
      refine ownGo.st (st234) ?_
      show ownGo p.tables e below T234 (mkF m 30 #[.val (.ref x0), .val (.ref x1), .val (.int (Int32.ofNat i))] [(.ref lb), (.long ((sv i).toInt64))]) _
      refine ownGo.st (fun _ k => XS.iloadN X234.here hx rfl (hb hby d9_30) rfl k) ?_
      show ownGo p.tables e below T234 (mkF m 31 #[.val (.ref x0), .val (.ref x1), .val (.int (Int32.ofNat i))] [(.int (Int32.ofNat i)), (.ref lb), (.long ((sv i).toInt64))]) _
      refine ownGo.st (own_iaload X234 hx hZ e234 VL (i := i) (v := (lo i)) rfl (by omega) rfl (g := (mkF m 31 #[.val (.ref x0), .val (.ref x1), .val (.int (Int32.ofNat i))] [(.int (Int32.ofNat i)), (.ref lb), (.long ((sv i).toInt64))])) rfl rfl (hb hby d9_31)) ?_
      show ownGo p.tables e below T234 (mkF m 32 #[.val (.ref x0), .val (.ref x1), .val (.int (Int32.ofNat i))] [(.int (lo i)), (.long ((sv i).toInt64))]) _
      refine ownGo.st (fun _ k => XS.i2l X234.here hx rfl (hb hby d9_32) rfl k) ?_
      show ownGo p.tables e below T234 (mkF m 33 #[.val (.ref x0), .val (.ref x1), .val (.int (Int32.ofNat i))] [(.long ((lo i).toInt64)), (.long ((sv i).toInt64))]) _
      refine ownGo.st (fun _ k => XS.lsub X234.here hx rfl (hb hby d9_33) rfl k) ?_
      show ownGo p.tables e below T234 (mkF m 34 #[.val (.ref x0), .val (.ref x1), .val (.int (Int32.ofNat i))] [(.long (((sv i).toInt64) - ((lo i).toInt64)))]) _
      refine ownGo.st (fun _ k => XS.aloadN X234.here hx rfl (hb hby d9_34) rfl rfl k) ?_
      show ownGo p.tables e below T234 (mkF m 35 #[.val (.ref x0), .val (.ref x1), .val (.int (Int32.ofNat i))] [(.ref x0), (.long (((sv i).toInt64) - ((lo i).toInt64)))]) _
      obtain ⟨T235, X235, e235, st235⟩ := getF X234 hx hZ hown (host := "") (Or.inl (own_at hw 35 rfl)) Via.refl e234 G4 (g := (mkF m 35 #[.val (.ref x0), .val (.ref x1), .val (.int (Int32.ofNat i))] [(.ref x0), (.long (((sv i).toInt64) - ((lo i).toInt64)))])) rfl rfl (hb hby d9_35)
      refine ownGo.st (st235) ?_
      show ownGo p.tables e below T235 (mkF m 38 #[.val (.ref x0), .val (.ref x1), .val (.int (Int32.ofNat i))] [(.ref k), (.long (((sv i).toInt64) - ((lo i).toInt64)))]) _
      refine ownGo.st (fun _ k => XS.iloadN X235.here hx rfl (hb hby d9_38) rfl k) ?_
      show ownGo p.tables e below T235 (mkF m 39 #[.val (.ref x0), .val (.ref x1), .val (.int (Int32.ofNat i))] [(.int (Int32.ofNat i)), (.ref k), (.long (((sv i).toInt64) - ((lo i).toInt64)))]) _
      refine ownGo.st (own_laload X235 hx hZ e235 Vk (i := i) (v := (own_mk (kb i))) rfl (by omega) rfl (g := (mkF m 39 #[.val (.ref x0), .val (.ref x1), .val (.int (Int32.ofNat i))] [(.int (Int32.ofNat i)), (.ref k), (.long (((sv i).toInt64) - ((lo i).toInt64)))])) rfl rfl (hb hby d9_39)) ?_
      show ownGo p.tables e below T235 (mkF m 40 #[.val (.ref x0), .val (.ref x1), .val (.int (Int32.ofNat i))] [(.long (own_mk (kb i))), (.long (((sv i).toInt64) - ((lo i).toInt64)))]) _
      refine ownGo.st (fun _ k => XS.lcmp X235.here hx rfl (hb hby d9_40) rfl k) ?_
      show ownGo p.tables e below T235 (mkF m 41 #[.val (.ref x0), .val (.ref x1), .val (.int (Int32.ofNat i))] [(.int (lcmpW (((sv i).toInt64) - ((lo i).toInt64)) (own_mk (kb i))))]) _
      by_cases hc2 : (own_mk (kb i)) < (((sv i).toInt64) - ((lo i).toInt64))
      · have hr : r = 0 := hr.trans (if_pos hc2)
        refine ownGo.st (fun _ k => XS.ifNo X235.here hx rfl (hb hby d9_41) rfl ((if0 _ _).trans (tlt ((lw_gt _ _).mpr hc2)).2.2.2) k) ?_
        show ownGo p.tables e below T235 (mkF m 44 #[.val (.ref x0), .val (.ref x1), .val (.int (Int32.ofNat i))] []) _
        refine ownGo.st (fun _ k => XS.iconst X235.here hx rfl (hb hby d9_44)  k) ?_
        show ownGo p.tables e below T235 (mkF m 45 #[.val (.ref x0), .val (.ref x1), .val (.int (Int32.ofNat i))] [(.int (0 : Int32))]) _
        exact own_retZ X235 hx hlk hret (hb hby d9_45) (by first | exact Or.inl rfl | exact Or.inr rfl) ⟨congrArg (fun z => some (Value.int z)) hr.symm, N0, e235⟩ (Nat.le_refl _) (Nat.le_refl _)
      · have hr := hr.trans (if_neg hc2)
        refine ownGo.st (fun _ k => XS.ifYes X235.here hx rfl (pc0 := 41) (pc' := 46) rfl (hb hby d9_41) rfl ((if0 _ _).trans (flt (fun q => hc2 ((lw_gt _ _).mp q))).2.2.2) (by decide) (by decide) k) ?_
        show ownGo p.tables e below T235 (mkF m 46 #[.val (.ref x0), .val (.ref x1), .val (.int (Int32.ofNat i))] []) _
        refine ownGo.st (fun _ k => XS.iinc X235.here hx rfl (hb hby d9_46) rfl (l' := #[.val (.ref x0), .val (.ref x1), .val (.int ((Int32.ofNat i) + (1 : Int32)))]) rfl k) ?_
        show ownGo p.tables e below T235 (mkF m 49 #[.val (.ref x0), .val (.ref x1), .val (.int ((Int32.ofNat i) + (1 : Int32)))] []) _
        refine ownGo.st (fun _ k => XS.goto X235.here hx rfl (pc0 := 49) (pc' := 2) rfl (hb hby d9_49) (by decide) (by decide) k) ?_
        show ownGo p.tables e below T235 (mkF m 2 #[.val (.ref x0), .val (.ref x1), .val (.int ((Int32.ofNat i) + (1 : Int32)))] []) _
        rw [show Int32.ofNat i + (1 : Int32) = Int32.ofNat (i + 1) from (Int32.ofNat_add i 1).symm]
        exact ih (i + 1) (by omega) T235 X235 e235 hr
theorem pn_9 : plainName "com/example/ningbo/ningbo/engine/StateLayout" = true := by first | (simp [plainName, overriddenIn]; done) | decide +kernel
theorem ef_9 (m : MethodId) (x0 : Addr) (x1 : Addr) : entryFrame m #[(.ref x0), (.ref x1)] 3 = mkF m 0 #[.val (.ref x0), .val (.ref x1), .unset] [] := by first | (simp [entryFrame, mkF, argsToLocals, Value.category]; done) | rfl
set_option maxRecDepth 65536 in
set_option maxHeartbeats 40000000 in
theorem rm9 (l : Launch) (Z : State) (a0 : Array Value) (hw : ∀ d ∈ tables_1, d.before a0 Z = true) (x0 x1 A B : Addr) (sv lo : Nat → Int32) (kb : Nat → Nat) (h0 : Heap) (n0 : Nat) (Y : ownLay Z h0 A B x0 2 lo kb) (V1 : ownA Z h0 x1 .int 2 (fun i => .int (sv i))) :
    MetFree l (⟨"com/example/ningbo/ningbo/engine/StateLayout", "fits", "([I)Z"⟩ : MethodName) (head1 [Jvm.Cond.code (⟨"com/example/ningbo/ningbo/engine/StateLayout", "fits", "([I)Z"⟩ : MethodName) prog_49_method_6_code 3 (some .boolean)] R9) (fun a U => a = #[(.ref x0), (.ref x1)] ∧ Z.Warmed39 U.vm ∧ U.heap = h0) (fun _ _ _ _ _ => True) (fun _ U o U' => ∃ v L, o = .returned v ∧ ownPure (.int (own_fit sv lo kb 2 0)) h0 n0 v U'.heap L ∧ FrameEnd U o U' L R9.cells R9.slots) := by
  refine MetFree.of_bodySF (plainFor_of_name pn_9) hisR ?_
  intro p e s m args below meth c s₁ Bd hml0 hP hK
  obtain ⟨rfl, hZ, hh⟩ := hP
  have hx := Bd.exec
  have hby := Bd.bytes
  have hml : c.maxLocals = 3 := hml0
  have hown : s.vm.findClass "com/example/ningbo/ningbo/engine/StateLayout" = some m.cls := findClass_of_methodNamed Bd.named
  have hnm := (name_of_methodNamed Bd.named Bd.method).1
  have hret := Bd.returns
  have hlk : meth.locks = false := BodyLoose.notSynchronized Bd
  have X0 : Stand p l e R9 s m #[(.ref x0), (.ref x1)] below meth c s₁ [] 0 0 := Stand.of_body Bd
  have e0 : s₁.heap = h0 := by rw [← hh, Bd.state]; rfl
  have N0 := Fr.nil n0
  show ownGo p.tables e below s₁ (entryFrame m #[(.ref x0), (.ref x1)] 3) (ownDone s (ownPure (.int (own_fit sv lo kb 2 0)) h0 n0) R9.cells R9.slots)
  rw [ef_9 m x0 x1]
  obtain ⟨o1, Ex, F1, F2, lb, w, sh, k, r1, r2, r3, r4, G1, G2, G3, G4, VL, Vw, Vs, Vk⟩ := Y
  show ownGo p.tables e below s₁ (mkF m 0 #[.val (.ref x0), .val (.ref x1), .unset] []) _
  refine ownGo.st (fun _ k => XS.iconst X0.here hx rfl (hb hby d9_0)  k) ?_
  show ownGo p.tables e below s₁ (mkF m 1 #[.val (.ref x0), .val (.ref x1), .unset] [(.int (0 : Int32))]) _
  refine ownGo.st (fun _ k => XS.istoreN X0.here hx rfl (hb hby d9_1) rfl (l' := #[.val (.ref x0), .val (.ref x1), .val (.int (0 : Int32))]) rfl k) ?_
  show ownGo p.tables e below s₁ (mkF m 2 #[.val (.ref x0), .val (.ref x1), .val (.int (0 : Int32))] []) _
  exact own_loopF hx hZ hw hby hml hown hret hlk N0 x0 x1 lb k sv lo kb _ F1 G1 G4 V1 VL Vk 2 0 rfl s₁ X0 e0 rfl
def own_two (a b : Int32) : Nat → Int32
  | 0 => a
  | _ => b
def own_twoN (a b : Nat) : Nat → Nat
  | 0 => a
  | _ => b
theorem own_span (a b : Int32) : 0 ≤ ((F2 a b).toInt64 - (F1 a b).toInt64).toInt ∧ ((F2 a b).toInt64 - (F1 a b).toInt64).toInt < 4294967296 := by
  have q : (F1 a b).toInt ≤ (F2 a b).toInt := by
    have e1 : F1 a b = if b < a then b else a := rfl
    have e2 : F2 a b = if a < b then b else a := rfl
    rw [e1, e2]
    simp only [Int32.lt_iff_toInt_lt]
    split <;> split <;> omega
  have e := c_lsub (F2 a b).toInt64 (F1 a b).toInt64
  rw [c_i2l, c_i2l] at e
  have r1 := ((F2 a b).toInt64 - (F1 a b).toInt64).toInt_lt
  have r2 := ((F2 a b).toInt64 - (F1 a b).toInt64).le_toInt
  have r3 := (F2 a b).toInt_lt
  have r4 := (F1 a b).le_toInt
  omega
theorem own_hold (l u v : Int32) (kb : Nat) (h : ownBits (u.toInt64 - l.toInt64).toInt kb) : F7 l u v = if v < l then 0 else if own_mk kb < v.toInt64 - l.toInt64 then 0 else 1 := by
  have e : F7 l u v = if v.toInt64 - l.toInt64 < (0 : Int64) then 0 else if F8 (u.toInt64 - l.toInt64) < v.toInt64 - l.toInt64 then 0 else 1 := rfl
  rw [e, own_smear _ kb h]
  have q : v.toInt64 - l.toInt64 < (0 : Int64) ↔ v < l := by
    rw [Int64.lt_iff_toInt_lt, Int32.lt_iff_toInt_lt, show (0 : Int64).toInt = 0 from rfl]
    have e := c_lsub v.toInt64 l.toInt64
    rw [c_i2l, c_i2l] at e
    have r1 := (v.toInt64 - l.toInt64).toInt_lt
    have r2 := (v.toInt64 - l.toInt64).le_toInt
    have r3 := v.toInt_lt
    have r4 := v.le_toInt
    have r5 := l.toInt_lt
    have r6 := l.le_toInt
    omega
  by_cases z : v < l
  · rw [if_pos (q.mpr z), if_pos z]
  · rw [if_neg (fun y => z (q.mp y)), if_neg z]
theorem own_fit2 (l0 l1 u0 u1 s0 s1 : Int32) (k0 k1 : Nat) (h0 : ownBits (u0.toInt64 - l0.toInt64).toInt k0) (h1 : ownBits (u1.toInt64 - l1.toInt64).toInt k1) :
    own_fit (own_two s0 s1) (own_two l0 l1) (own_twoN k0 k1) 2 0 = if F7 l0 u0 s0 = 0 then 0 else F7 l1 u1 s1 := by
  have e : own_fit (own_two s0 s1) (own_two l0 l1) (own_twoN k0 k1) 2 0 = if s0 < l0 then 0 else if own_mk k0 < s0.toInt64 - l0.toInt64 then 0 else if s1 < l1 then 0 else if own_mk k1 < s1.toInt64 - l1.toInt64 then 0 else 1 := rfl
  rw [e, own_hold l0 u0 s0 k0 h0, own_hold l1 u1 s1 k1 h1]
  by_cases a1 : s0 < l0
  · rw [if_pos a1, if_pos a1, if_pos rfl]
  · rw [if_neg a1, if_neg a1]
    by_cases a2 : own_mk k0 < s0.toInt64 - l0.toInt64
    · rw [if_pos a2, if_pos a2, if_pos rfl]
    · rw [if_neg a2, if_neg a2, if_neg (show ¬ (1 : Int32) = 0 by decide)]
theorem own_hold01 (l u v : Int32) : F7 l u v = 0 ∨ F7 l u v = 1 := by
  have e : F7 l u v = if v.toInt64 - l.toInt64 < (0 : Int64) then 0 else if F8 (u.toInt64 - l.toInt64) < v.toInt64 - l.toInt64 then 0 else 1 := rfl
  rw [e]
  split
  · exact Or.inl rfl
  · split
    · exact Or.inl rfl
    · exact Or.inr rfl
def Q0 (n0 : Nat) (v : Option Value) (h : Heap) (L : List Loc) : Prop := v = some (.int 1) ∧ Fr n0 L
theorem pd___I_Z : parseMethodDescriptor "([I)Z" = some ⟨[(.array .int)], some .boolean⟩ := by decide +kernel
theorem pd___I_I_V : parseMethodDescriptor "([I[I)V" = some ⟨[(.array .int), (.array .int)], none⟩ := by decide +kernel
theorem pd__III_Z : parseMethodDescriptor "(III)Z" = some ⟨[.int, .int, .int], some .boolean⟩ := by decide +kernel
set_option maxRecDepth 65536 in
set_option maxHeartbeats 40000000 in
theorem t0_136 {p : Program} {l : Launch} {e : Env} {s : State} {m : MethodId} {args : Array Value} {below : List Frame} {meth : Method} {c : Code} {T0 : State} {locs : List Loc} {Z : State} {a0 : Array Value} {n0 : Nat} (hx : p.tables.exec = Jvm.exec) (hZ : Z.Warmed39 s.vm) (hw : ∀ d ∈ tables_1, d.before a0 Z = true) (hby : c.code = code) (hml : c.maxLocals = 17) (hown : s.vm.findClass "com/example/ningbo/ningbo/engine/StateLayoutFitsPinLaw" = some m.cls) (hret : meth.sig.returnType = (some .boolean)) (hlk : meth.locks = false) {h : Heap} {cells slots : Nat} (hcl : cells ≤ room_1.cells) (hsl : slots ≤ room_1.slots) (X0 : Stand p l e room_1 s m args below meth c T0 locs cells slots) (e0 : T0.heap = h) (N0 : Fr n0 locs) (a3 o A B : Addr) (s0 s1 s2 s3 s4 s5 s6 s7 s8 s9 s10 s11 s12 s13 : Slot) (z : Int32) (sv lo : Nat → Int32) (kb : Nat → Nat) (Y : ownLay Z h A B o 2 lo kb) (V3 : ownA Z h a3 .int 2 (fun i => .int (sv i))) (hz : own_fit sv lo kb 2 0 = z) :
    ownGo p.tables e below T0 (mkF m 136 #[s0, s1, s2, s3, s4, s5, s6, s7, s8, s9, s10, s11, s12, s13, .val (.ref a3), .val (.ref o), .unset] [(.int z)]) (ownDone s (Q0 n0) room_1.cells room_1.slots) := by
  refine ownGo.st (fun _ k => XS.istore X0.here hx rfl (hb hby at_136) rfl (l' := #[s0, s1, s2, s3, s4, s5, s6, s7, s8, s9, s10, s11, s12, s13, .val (.ref a3), .val (.ref o), .val (.int z)]) rfl k) ?_
  show ownGo p.tables e below T0 (mkF m 138 #[s0, s1, s2, s3, s4, s5, s6, s7, s8, s9, s10, s11, s12, s13, .val (.ref a3), .val (.ref o), .val (.int z)] []) _
  refine ownGo.st (fun _ k => XS.aload X0.here hx rfl (hb hby at_138) rfl rfl k) ?_
  show ownGo p.tables e below T0 (mkF m 140 #[s0, s1, s2, s3, s4, s5, s6, s7, s8, s9, s10, s11, s12, s13, .val (.ref a3), .val (.ref o), .val (.int z)] [(.ref o)]) _
  refine ownGo.st (fun _ k => XS.aload X0.here hx rfl (hb hby at_140) rfl rfl k) ?_
  show ownGo p.tables e below T0 (mkF m 142 #[s0, s1, s2, s3, s4, s5, s6, s7, s8, s9, s10, s11, s12, s13, .val (.ref a3), .val (.ref o), .val (.int z)] [(.ref a3), (.ref o)]) _
  obtain ⟨_, T236, L236, X236, hQ236, st236⟩ := own_callV X0 hx hZ hown (own_at hw 58 rfl) (own_at hw 59 rfl) (own_at hw 61 rfl) (own_at hw 60 rfl) (own_at hw 10 rfl) (own_at hw 62 rfl) (by decide) (rm9 l Z a0 hw o a3 A B sv lo kb h n0 Y V3) 0 (by decide) (by decide) e0 hcl hsl Y.exa (g := (mkF m 142 #[s0, s1, s2, s3, s4, s5, s6, s7, s8, s9, s10, s11, s12, s13, .val (.ref a3), .val (.ref o), .val (.int z)] [(.ref a3), (.ref o)])) rfl (by rw [hml]; rfl) (argsL := [(.ref a3)]) (rest := []) (lenOf pd___I_Z rfl) rfl (by show 2 * 0 + _ ≤ _; exact Nat.le_of_eq rfl) (hb hby at_142)
  obtain ⟨rfl, N236q, e236⟩ := hQ236
  have N236 := Fr.app N0 N236q
  refine ownGo.st st236 ?_
  show ownGo p.tables e below T236 (mkF m 145 #[s0, s1, s2, s3, s4, s5, s6, s7, s8, s9, s10, s11, s12, s13, .val (.ref a3), .val (.ref o), .val (.int z)] [(.int (own_fit sv lo kb 2 0))]) _
  refine ownGo.st (fun _ k => XS.iload X236.here hx rfl (hb hby at_145) rfl k) ?_
  show ownGo p.tables e below T236 (mkF m 147 #[s0, s1, s2, s3, s4, s5, s6, s7, s8, s9, s10, s11, s12, s13, .val (.ref a3), .val (.ref o), .val (.int z)] [(.int z), (.int (own_fit sv lo kb 2 0))]) _
  have hc237 : (own_fit sv lo kb 2 0) = z := hz
  refine ownGo.st (fun _ k => XS.icmpNo X236.here hx rfl (hb hby at_147) rfl (teq hc237).2 k) ?_
  show ownGo p.tables e below T236 (mkF m 150 #[s0, s1, s2, s3, s4, s5, s6, s7, s8, s9, s10, s11, s12, s13, .val (.ref a3), .val (.ref o), .val (.int z)] []) _
  refine ownGo.st (fun _ k => XS.iconst X236.here hx rfl (hb hby at_150)  k) ?_
  show ownGo p.tables e below T236 (mkF m 151 #[s0, s1, s2, s3, s4, s5, s6, s7, s8, s9, s10, s11, s12, s13, .val (.ref a3), .val (.ref o), .val (.int z)] [(.int (1 : Int32))]) _
  refine ownGo.st (fun _ k => XS.goto X236.here hx rfl (pc0 := 151) (pc' := 155) rfl (hb hby at_151) (by decide) (by decide) k) ?_
  show ownGo p.tables e below T236 (mkF m 155 #[s0, s1, s2, s3, s4, s5, s6, s7, s8, s9, s10, s11, s12, s13, .val (.ref a3), .val (.ref o), .val (.int z)] [(.int (1 : Int32))]) _
  exact own_retZ X236 hx hlk hret (hb hby at_155) (Or.inr rfl) ⟨rfl, N236⟩ hcl hsl
theorem pn_0 : plainName "com/example/ningbo/ningbo/engine/StateLayoutFitsPinLaw" = true := by first | (simp [plainName, overriddenIn]; done) | decide +kernel
theorem ef_0 (m : MethodId) (x0 : Int32) (x1 : Int32) (x2 : Int32) (x3 : Int32) (x4 : Int32) (x5 : Int32) : entryFrame m #[(.int x0), (.int x1), (.int x2), (.int x3), (.int x4), (.int x5)] maxLocals = mkF m 0 #[.val (.int x0), .val (.int x1), .val (.int x2), .val (.int x3), .val (.int x4), .val (.int x5), .unset, .unset, .unset, .unset, .unset, .unset, .unset, .unset, .unset, .unset, .unset] [] := by first | (simp [entryFrame, mkF, argsToLocals, Value.category, maxLocals]; done) | rfl
set_option maxRecDepth 65536 in
set_option maxHeartbeats 40000000 in
theorem rm0 (l : Launch) (Z : State) (a0 : Array Value) (hw : ∀ d ∈ tables_1, d.before a0 Z = true) (x0 : Int32) (x1 : Int32) (x2 : Int32) (x3 : Int32) (x4 : Int32) (x5 : Int32) (h0 : Heap) (n0 : Nat) (Z0 : n0 ≤ h0.size) :
    MetFree l x (head1 (Jvm.Cond.code x code maxLocals ret :: tables_1) room_1) (fun a U => a = #[(.int x0), (.int x1), (.int x2), (.int x3), (.int x4), (.int x5)] ∧ Z.Warmed39 U.vm ∧ U.heap = h0) (fun _ _ _ _ _ => True) (fun _ U o U' => ∃ v L, o = .returned v ∧ Q0 n0 v U'.heap L ∧ FrameEnd U o U' L room_1.cells room_1.slots) := by
  refine MetFree.of_bodySF (plainFor_of_name pn_0) hisR ?_
  intro p e s m args below meth c s₁ Bd hml0 hP hK
  obtain ⟨rfl, hZ, hh⟩ := hP
  have hx := Bd.exec
  have hby := Bd.bytes
  have hml : c.maxLocals = 17 := hml0
  have hown : s.vm.findClass "com/example/ningbo/ningbo/engine/StateLayoutFitsPinLaw" = some m.cls := findClass_of_methodNamed Bd.named
  have hnm := (name_of_methodNamed Bd.named Bd.method).1
  have hret := Bd.returns
  have hlk : meth.locks = false := BodyLoose.notSynchronized Bd
  have X0 : Stand p l e room_1 s m #[(.int x0), (.int x1), (.int x2), (.int x3), (.int x4), (.int x5)] below meth c s₁ [] 0 0 := Stand.of_body Bd
  have e0 : s₁.heap = h0 := by rw [← hh, Bd.state]; rfl
  have N0 := Fr.nil n0
  show ownGo p.tables e below s₁ (entryFrame m #[(.int x0), (.int x1), (.int x2), (.int x3), (.int x4), (.int x5)] maxLocals) (ownDone s (Q0 n0) room_1.cells room_1.slots)
  rw [ef_0 m x0 x1 x2 x3 x4 x5]
  show ownGo p.tables e below s₁ (mkF m 0 #[.val (.int x0), .val (.int x1), .val (.int x2), .val (.int x3), .val (.int x4), .val (.int x5), .unset, .unset, .unset, .unset, .unset, .unset, .unset, .unset, .unset, .unset, .unset] []) _
  refine ownGo.st (fun _ k => XS.iloadN X0.here hx rfl (hb hby at_0) rfl k) ?_
  show ownGo p.tables e below s₁ (mkF m 1 #[.val (.int x0), .val (.int x1), .val (.int x2), .val (.int x3), .val (.int x4), .val (.int x5), .unset, .unset, .unset, .unset, .unset, .unset, .unset, .unset, .unset, .unset, .unset] [(.int x0)]) _
  refine ownGo.st (fun _ k => XS.iloadN X0.here hx rfl (hb hby at_1) rfl k) ?_
  show ownGo p.tables e below s₁ (mkF m 2 #[.val (.int x0), .val (.int x1), .val (.int x2), .val (.int x3), .val (.int x4), .val (.int x5), .unset, .unset, .unset, .unset, .unset, .unset, .unset, .unset, .unset, .unset, .unset] [(.int x1), (.int x0)]) _
  obtain ⟨_, T238, L238, X238, hQ238, st238⟩ := own_callS X0 hx hZ hown (own_at hw 0 rfl) (own_at hw 1 rfl) (own_at hw 2 rfl) (own_at hw 3 rfl) (by decide) (rm1 l Z a0 hw x0 x1 h0 n0) 0 (by decide) (by decide) e0 (by decide) (by decide) (g := (mkF m 2 #[.val (.int x0), .val (.int x1), .val (.int x2), .val (.int x3), .val (.int x4), .val (.int x5), .unset, .unset, .unset, .unset, .unset, .unset, .unset, .unset, .unset, .unset, .unset] [(.int x1), (.int x0)])) rfl (by rw [hml]; rfl) (argsL := [(.int x0), (.int x1)]) (rest := []) (lenOf pd__II_I rfl) rfl (by show 2 * 0 + _ ≤ _; exact Nat.le_of_eq rfl) (hb hby at_2)
  obtain ⟨rfl, N238q, e238⟩ := hQ238
  have N238 := Fr.app N0 N238q
  refine ownGo.st st238 ?_
  show ownGo p.tables e below T238 (mkF m 5 #[.val (.int x0), .val (.int x1), .val (.int x2), .val (.int x3), .val (.int x4), .val (.int x5), .unset, .unset, .unset, .unset, .unset, .unset, .unset, .unset, .unset, .unset, .unset] [(.int (F1 x0 x1))]) _
  refine ownGo.st (fun _ k => XS.istore X238.here hx rfl (hb hby at_5) rfl (l' := #[.val (.int x0), .val (.int x1), .val (.int x2), .val (.int x3), .val (.int x4), .val (.int x5), .val (.int (F1 x0 x1)), .unset, .unset, .unset, .unset, .unset, .unset, .unset, .unset, .unset, .unset]) rfl k) ?_
  show ownGo p.tables e below T238 (mkF m 7 #[.val (.int x0), .val (.int x1), .val (.int x2), .val (.int x3), .val (.int x4), .val (.int x5), .val (.int (F1 x0 x1)), .unset, .unset, .unset, .unset, .unset, .unset, .unset, .unset, .unset, .unset] []) _
  refine ownGo.st (fun _ k => XS.iloadN X238.here hx rfl (hb hby at_7) rfl k) ?_
  show ownGo p.tables e below T238 (mkF m 8 #[.val (.int x0), .val (.int x1), .val (.int x2), .val (.int x3), .val (.int x4), .val (.int x5), .val (.int (F1 x0 x1)), .unset, .unset, .unset, .unset, .unset, .unset, .unset, .unset, .unset, .unset] [(.int x0)]) _
  refine ownGo.st (fun _ k => XS.iloadN X238.here hx rfl (hb hby at_8) rfl k) ?_
  show ownGo p.tables e below T238 (mkF m 9 #[.val (.int x0), .val (.int x1), .val (.int x2), .val (.int x3), .val (.int x4), .val (.int x5), .val (.int (F1 x0 x1)), .unset, .unset, .unset, .unset, .unset, .unset, .unset, .unset, .unset, .unset] [(.int x1), (.int x0)]) _
  obtain ⟨_, T239, L239, X239, hQ239, st239⟩ := own_callS X238 hx hZ hown (own_at hw 4 rfl) (own_at hw 5 rfl) (own_at hw 2 rfl) (own_at hw 6 rfl) (by decide) (rm2 l Z a0 hw x0 x1 h0 n0) 0 (by decide) (by decide) e238 (by decide) (by decide) (g := (mkF m 9 #[.val (.int x0), .val (.int x1), .val (.int x2), .val (.int x3), .val (.int x4), .val (.int x5), .val (.int (F1 x0 x1)), .unset, .unset, .unset, .unset, .unset, .unset, .unset, .unset, .unset, .unset] [(.int x1), (.int x0)])) rfl (by rw [hml]; rfl) (argsL := [(.int x0), (.int x1)]) (rest := []) (lenOf pd__II_I rfl) rfl (by show 2 * 0 + _ ≤ _; exact Nat.le_of_eq rfl) (hb hby at_9)
  obtain ⟨rfl, N239q, e239⟩ := hQ239
  have N239 := Fr.app N238 N239q
  refine ownGo.st st239 ?_
  show ownGo p.tables e below T239 (mkF m 12 #[.val (.int x0), .val (.int x1), .val (.int x2), .val (.int x3), .val (.int x4), .val (.int x5), .val (.int (F1 x0 x1)), .unset, .unset, .unset, .unset, .unset, .unset, .unset, .unset, .unset, .unset] [(.int (F2 x0 x1))]) _
  refine ownGo.st (fun _ k => XS.istore X239.here hx rfl (hb hby at_12) rfl (l' := #[.val (.int x0), .val (.int x1), .val (.int x2), .val (.int x3), .val (.int x4), .val (.int x5), .val (.int (F1 x0 x1)), .val (.int (F2 x0 x1)), .unset, .unset, .unset, .unset, .unset, .unset, .unset, .unset, .unset]) rfl k) ?_
  show ownGo p.tables e below T239 (mkF m 14 #[.val (.int x0), .val (.int x1), .val (.int x2), .val (.int x3), .val (.int x4), .val (.int x5), .val (.int (F1 x0 x1)), .val (.int (F2 x0 x1)), .unset, .unset, .unset, .unset, .unset, .unset, .unset, .unset, .unset] []) _
  refine ownGo.st (fun _ k => XS.iloadN X239.here hx rfl (hb hby at_14) rfl k) ?_
  show ownGo p.tables e below T239 (mkF m 15 #[.val (.int x0), .val (.int x1), .val (.int x2), .val (.int x3), .val (.int x4), .val (.int x5), .val (.int (F1 x0 x1)), .val (.int (F2 x0 x1)), .unset, .unset, .unset, .unset, .unset, .unset, .unset, .unset, .unset] [(.int x3)]) _
  refine ownGo.st (fun _ k => XS.iload X239.here hx rfl (hb hby at_15) rfl k) ?_
  show ownGo p.tables e below T239 (mkF m 17 #[.val (.int x0), .val (.int x1), .val (.int x2), .val (.int x3), .val (.int x4), .val (.int x5), .val (.int (F1 x0 x1)), .val (.int (F2 x0 x1)), .unset, .unset, .unset, .unset, .unset, .unset, .unset, .unset, .unset] [(.int x4), (.int x3)]) _
  obtain ⟨_, T240, L240, X240, hQ240, st240⟩ := own_callS X239 hx hZ hown (own_at hw 0 rfl) (own_at hw 1 rfl) (own_at hw 2 rfl) (own_at hw 3 rfl) (by decide) (rm1 l Z a0 hw x3 x4 h0 n0) 0 (by decide) (by decide) e239 (by decide) (by decide) (g := (mkF m 17 #[.val (.int x0), .val (.int x1), .val (.int x2), .val (.int x3), .val (.int x4), .val (.int x5), .val (.int (F1 x0 x1)), .val (.int (F2 x0 x1)), .unset, .unset, .unset, .unset, .unset, .unset, .unset, .unset, .unset] [(.int x4), (.int x3)])) rfl (by rw [hml]; rfl) (argsL := [(.int x3), (.int x4)]) (rest := []) (lenOf pd__II_I rfl) rfl (by show 2 * 0 + _ ≤ _; exact Nat.le_of_eq rfl) (hb hby at_17)
  obtain ⟨rfl, N240q, e240⟩ := hQ240
  have N240 := Fr.app N239 N240q
  refine ownGo.st st240 ?_
  show ownGo p.tables e below T240 (mkF m 20 #[.val (.int x0), .val (.int x1), .val (.int x2), .val (.int x3), .val (.int x4), .val (.int x5), .val (.int (F1 x0 x1)), .val (.int (F2 x0 x1)), .unset, .unset, .unset, .unset, .unset, .unset, .unset, .unset, .unset] [(.int (F1 x3 x4))]) _
  refine ownGo.st (fun _ k => XS.istore X240.here hx rfl (hb hby at_20) rfl (l' := #[.val (.int x0), .val (.int x1), .val (.int x2), .val (.int x3), .val (.int x4), .val (.int x5), .val (.int (F1 x0 x1)), .val (.int (F2 x0 x1)), .val (.int (F1 x3 x4)), .unset, .unset, .unset, .unset, .unset, .unset, .unset, .unset]) rfl k) ?_
  show ownGo p.tables e below T240 (mkF m 22 #[.val (.int x0), .val (.int x1), .val (.int x2), .val (.int x3), .val (.int x4), .val (.int x5), .val (.int (F1 x0 x1)), .val (.int (F2 x0 x1)), .val (.int (F1 x3 x4)), .unset, .unset, .unset, .unset, .unset, .unset, .unset, .unset] []) _
  refine ownGo.st (fun _ k => XS.iloadN X240.here hx rfl (hb hby at_22) rfl k) ?_
  show ownGo p.tables e below T240 (mkF m 23 #[.val (.int x0), .val (.int x1), .val (.int x2), .val (.int x3), .val (.int x4), .val (.int x5), .val (.int (F1 x0 x1)), .val (.int (F2 x0 x1)), .val (.int (F1 x3 x4)), .unset, .unset, .unset, .unset, .unset, .unset, .unset, .unset] [(.int x3)]) _
  refine ownGo.st (fun _ k => XS.iload X240.here hx rfl (hb hby at_23) rfl k) ?_
  show ownGo p.tables e below T240 (mkF m 25 #[.val (.int x0), .val (.int x1), .val (.int x2), .val (.int x3), .val (.int x4), .val (.int x5), .val (.int (F1 x0 x1)), .val (.int (F2 x0 x1)), .val (.int (F1 x3 x4)), .unset, .unset, .unset, .unset, .unset, .unset, .unset, .unset] [(.int x4), (.int x3)]) _
  obtain ⟨_, T241, L241, X241, hQ241, st241⟩ := own_callS X240 hx hZ hown (own_at hw 4 rfl) (own_at hw 5 rfl) (own_at hw 2 rfl) (own_at hw 6 rfl) (by decide) (rm2 l Z a0 hw x3 x4 h0 n0) 0 (by decide) (by decide) e240 (by decide) (by decide) (g := (mkF m 25 #[.val (.int x0), .val (.int x1), .val (.int x2), .val (.int x3), .val (.int x4), .val (.int x5), .val (.int (F1 x0 x1)), .val (.int (F2 x0 x1)), .val (.int (F1 x3 x4)), .unset, .unset, .unset, .unset, .unset, .unset, .unset, .unset] [(.int x4), (.int x3)])) rfl (by rw [hml]; rfl) (argsL := [(.int x3), (.int x4)]) (rest := []) (lenOf pd__II_I rfl) rfl (by show 2 * 0 + _ ≤ _; exact Nat.le_of_eq rfl) (hb hby at_25)
  obtain ⟨rfl, N241q, e241⟩ := hQ241
  have N241 := Fr.app N240 N241q
  refine ownGo.st st241 ?_
  show ownGo p.tables e below T241 (mkF m 28 #[.val (.int x0), .val (.int x1), .val (.int x2), .val (.int x3), .val (.int x4), .val (.int x5), .val (.int (F1 x0 x1)), .val (.int (F2 x0 x1)), .val (.int (F1 x3 x4)), .unset, .unset, .unset, .unset, .unset, .unset, .unset, .unset] [(.int (F2 x3 x4))]) _
  refine ownGo.st (fun _ k => XS.istore X241.here hx rfl (hb hby at_28) rfl (l' := #[.val (.int x0), .val (.int x1), .val (.int x2), .val (.int x3), .val (.int x4), .val (.int x5), .val (.int (F1 x0 x1)), .val (.int (F2 x0 x1)), .val (.int (F1 x3 x4)), .val (.int (F2 x3 x4)), .unset, .unset, .unset, .unset, .unset, .unset, .unset]) rfl k) ?_
  show ownGo p.tables e below T241 (mkF m 30 #[.val (.int x0), .val (.int x1), .val (.int x2), .val (.int x3), .val (.int x4), .val (.int x5), .val (.int (F1 x0 x1)), .val (.int (F2 x0 x1)), .val (.int (F1 x3 x4)), .val (.int (F2 x3 x4)), .unset, .unset, .unset, .unset, .unset, .unset, .unset] []) _
  refine ownGo.st (fun _ k => XS.iload X241.here hx rfl (hb hby at_30) rfl k) ?_
  show ownGo p.tables e below T241 (mkF m 32 #[.val (.int x0), .val (.int x1), .val (.int x2), .val (.int x3), .val (.int x4), .val (.int x5), .val (.int (F1 x0 x1)), .val (.int (F2 x0 x1)), .val (.int (F1 x3 x4)), .val (.int (F2 x3 x4)), .unset, .unset, .unset, .unset, .unset, .unset, .unset] [(.int (F1 x0 x1))]) _
  refine ownGo.st (fun _ k => XS.iloadN X241.here hx rfl (hb hby at_32) rfl k) ?_
  show ownGo p.tables e below T241 (mkF m 33 #[.val (.int x0), .val (.int x1), .val (.int x2), .val (.int x3), .val (.int x4), .val (.int x5), .val (.int (F1 x0 x1)), .val (.int (F2 x0 x1)), .val (.int (F1 x3 x4)), .val (.int (F2 x3 x4)), .unset, .unset, .unset, .unset, .unset, .unset, .unset] [(.int x2), (.int (F1 x0 x1))]) _
  refine ownGo.st (fun _ k => XS.iadd X241.here hx rfl (hb hby at_33) rfl k) ?_
  show ownGo p.tables e below T241 (mkF m 34 #[.val (.int x0), .val (.int x1), .val (.int x2), .val (.int x3), .val (.int x4), .val (.int x5), .val (.int (F1 x0 x1)), .val (.int (F2 x0 x1)), .val (.int (F1 x3 x4)), .val (.int (F2 x3 x4)), .unset, .unset, .unset, .unset, .unset, .unset, .unset] [(.int ((F1 x0 x1) + x2))]) _
  refine ownGo.st (fun _ k => XS.istore X241.here hx rfl (hb hby at_34) rfl (l' := #[.val (.int x0), .val (.int x1), .val (.int x2), .val (.int x3), .val (.int x4), .val (.int x5), .val (.int (F1 x0 x1)), .val (.int (F2 x0 x1)), .val (.int (F1 x3 x4)), .val (.int (F2 x3 x4)), .val (.int ((F1 x0 x1) + x2)), .unset, .unset, .unset, .unset, .unset, .unset]) rfl k) ?_
  show ownGo p.tables e below T241 (mkF m 36 #[.val (.int x0), .val (.int x1), .val (.int x2), .val (.int x3), .val (.int x4), .val (.int x5), .val (.int (F1 x0 x1)), .val (.int (F2 x0 x1)), .val (.int (F1 x3 x4)), .val (.int (F2 x3 x4)), .val (.int ((F1 x0 x1) + x2)), .unset, .unset, .unset, .unset, .unset, .unset] []) _
  refine ownGo.st (fun _ k => XS.iload X241.here hx rfl (hb hby at_36) rfl k) ?_
  show ownGo p.tables e below T241 (mkF m 38 #[.val (.int x0), .val (.int x1), .val (.int x2), .val (.int x3), .val (.int x4), .val (.int x5), .val (.int (F1 x0 x1)), .val (.int (F2 x0 x1)), .val (.int (F1 x3 x4)), .val (.int (F2 x3 x4)), .val (.int ((F1 x0 x1) + x2)), .unset, .unset, .unset, .unset, .unset, .unset] [(.int (F1 x3 x4))]) _
  refine ownGo.st (fun _ k => XS.iload X241.here hx rfl (hb hby at_38) rfl k) ?_
  show ownGo p.tables e below T241 (mkF m 40 #[.val (.int x0), .val (.int x1), .val (.int x2), .val (.int x3), .val (.int x4), .val (.int x5), .val (.int (F1 x0 x1)), .val (.int (F2 x0 x1)), .val (.int (F1 x3 x4)), .val (.int (F2 x3 x4)), .val (.int ((F1 x0 x1) + x2)), .unset, .unset, .unset, .unset, .unset, .unset] [(.int x5), (.int (F1 x3 x4))]) _
  refine ownGo.st (fun _ k => XS.iadd X241.here hx rfl (hb hby at_40) rfl k) ?_
  show ownGo p.tables e below T241 (mkF m 41 #[.val (.int x0), .val (.int x1), .val (.int x2), .val (.int x3), .val (.int x4), .val (.int x5), .val (.int (F1 x0 x1)), .val (.int (F2 x0 x1)), .val (.int (F1 x3 x4)), .val (.int (F2 x3 x4)), .val (.int ((F1 x0 x1) + x2)), .unset, .unset, .unset, .unset, .unset, .unset] [(.int ((F1 x3 x4) + x5))]) _
  refine ownGo.st (fun _ k => XS.istore X241.here hx rfl (hb hby at_41) rfl (l' := #[.val (.int x0), .val (.int x1), .val (.int x2), .val (.int x3), .val (.int x4), .val (.int x5), .val (.int (F1 x0 x1)), .val (.int (F2 x0 x1)), .val (.int (F1 x3 x4)), .val (.int (F2 x3 x4)), .val (.int ((F1 x0 x1) + x2)), .val (.int ((F1 x3 x4) + x5)), .unset, .unset, .unset, .unset, .unset]) rfl k) ?_
  show ownGo p.tables e below T241 (mkF m 43 #[.val (.int x0), .val (.int x1), .val (.int x2), .val (.int x3), .val (.int x4), .val (.int x5), .val (.int (F1 x0 x1)), .val (.int (F2 x0 x1)), .val (.int (F1 x3 x4)), .val (.int (F2 x3 x4)), .val (.int ((F1 x0 x1) + x2)), .val (.int ((F1 x3 x4) + x5)), .unset, .unset, .unset, .unset, .unset] []) _
  refine ownGo.st (fun _ k => XS.iconst X241.here hx rfl (hb hby at_43)  k) ?_
  show ownGo p.tables e below T241 (mkF m 44 #[.val (.int x0), .val (.int x1), .val (.int x2), .val (.int x3), .val (.int x4), .val (.int x5), .val (.int (F1 x0 x1)), .val (.int (F2 x0 x1)), .val (.int (F1 x3 x4)), .val (.int (F2 x3 x4)), .val (.int ((F1 x0 x1) + x2)), .val (.int ((F1 x3 x4) + x5)), .unset, .unset, .unset, .unset, .unset] [(.int (2 : Int32))]) _
  obtain ⟨T242, h242, a1, X242, e242, E242, V_a1, Ex_a1, g_a1, st242⟩ := own_newarray (aty := .int) X241 hx hZ (own_at hw 7 rfl) e241 2 2 (by decide) (by decide) (by decide) (by decide) (ad := "[I") (by rfl) rfl (z := (2 : Int32)) rfl (g := (mkF m 44 #[.val (.int x0), .val (.int x1), .val (.int x2), .val (.int x3), .val (.int x4), .val (.int x5), .val (.int (F1 x0 x1)), .val (.int (F2 x0 x1)), .val (.int (F1 x3 x4)), .val (.int (F2 x3 x4)), .val (.int ((F1 x0 x1) + x2)), .val (.int ((F1 x3 x4) + x5)), .unset, .unset, .unset, .unset, .unset] [(.int (2 : Int32))])) rfl (hb hby at_44) rfl
  have gz_a1 : n0 ≤ a1 := Nat.le_trans Z0 (Nat.le_of_eq g_a1.symm)
  have Z242 : n0 ≤ h242.size := Nat.le_trans Z0 E242.1
  refine ownGo.st (st242) ?_
  show ownGo p.tables e below T242 (mkF m 46 #[.val (.int x0), .val (.int x1), .val (.int x2), .val (.int x3), .val (.int x4), .val (.int x5), .val (.int (F1 x0 x1)), .val (.int (F2 x0 x1)), .val (.int (F1 x3 x4)), .val (.int (F2 x3 x4)), .val (.int ((F1 x0 x1) + x2)), .val (.int ((F1 x3 x4) + x5)), .unset, .unset, .unset, .unset, .unset] [(.ref a1)]) _
  refine ownGo.st (fun _ k => XS.astore X242.here hx rfl (hb hby at_46) rfl rfl (l' := #[.val (.int x0), .val (.int x1), .val (.int x2), .val (.int x3), .val (.int x4), .val (.int x5), .val (.int (F1 x0 x1)), .val (.int (F2 x0 x1)), .val (.int (F1 x3 x4)), .val (.int (F2 x3 x4)), .val (.int ((F1 x0 x1) + x2)), .val (.int ((F1 x3 x4) + x5)), .val (.ref a1), .unset, .unset, .unset, .unset]) rfl k) ?_
  show ownGo p.tables e below T242 (mkF m 48 #[.val (.int x0), .val (.int x1), .val (.int x2), .val (.int x3), .val (.int x4), .val (.int x5), .val (.int (F1 x0 x1)), .val (.int (F2 x0 x1)), .val (.int (F1 x3 x4)), .val (.int (F2 x3 x4)), .val (.int ((F1 x0 x1) + x2)), .val (.int ((F1 x3 x4) + x5)), .val (.ref a1), .unset, .unset, .unset, .unset] []) _
  refine ownGo.st (fun _ k => XS.iconst X242.here hx rfl (hb hby at_48)  k) ?_
  show ownGo p.tables e below T242 (mkF m 49 #[.val (.int x0), .val (.int x1), .val (.int x2), .val (.int x3), .val (.int x4), .val (.int x5), .val (.int (F1 x0 x1)), .val (.int (F2 x0 x1)), .val (.int (F1 x3 x4)), .val (.int (F2 x3 x4)), .val (.int ((F1 x0 x1) + x2)), .val (.int ((F1 x3 x4) + x5)), .val (.ref a1), .unset, .unset, .unset, .unset] [(.int (2 : Int32))]) _
  obtain ⟨T243, h243, a2, X243, e243, E243, V_a2, Ex_a2, g_a2, st243⟩ := own_newarray (aty := .int) X242 hx hZ (own_at hw 7 rfl) e242 2 2 (by decide) (by decide) (by decide) (by decide) (ad := "[I") (by rfl) rfl (z := (2 : Int32)) rfl (g := (mkF m 49 #[.val (.int x0), .val (.int x1), .val (.int x2), .val (.int x3), .val (.int x4), .val (.int x5), .val (.int (F1 x0 x1)), .val (.int (F2 x0 x1)), .val (.int (F1 x3 x4)), .val (.int (F2 x3 x4)), .val (.int ((F1 x0 x1) + x2)), .val (.int ((F1 x3 x4) + x5)), .val (.ref a1), .unset, .unset, .unset, .unset] [(.int (2 : Int32))])) rfl (hb hby at_49) rfl
  have gz_a2 : n0 ≤ a2 := Nat.le_trans Z242 (Nat.le_of_eq g_a2.symm)
  have ne_a1_a2 : a1 ≠ a2 := Nat.ne_of_lt (Nat.lt_of_lt_of_le V_a1.lt (Nat.le_of_eq g_a2.symm))
  have V_a1_244 := V_a1.ext E243
  have Ex_a1_245 := Ex_a1.ext E243
  have Z243 : n0 ≤ h243.size := Nat.le_trans Z242 E243.1
  refine ownGo.st (st243) ?_
  show ownGo p.tables e below T243 (mkF m 51 #[.val (.int x0), .val (.int x1), .val (.int x2), .val (.int x3), .val (.int x4), .val (.int x5), .val (.int (F1 x0 x1)), .val (.int (F2 x0 x1)), .val (.int (F1 x3 x4)), .val (.int (F2 x3 x4)), .val (.int ((F1 x0 x1) + x2)), .val (.int ((F1 x3 x4) + x5)), .val (.ref a1), .unset, .unset, .unset, .unset] [(.ref a2)]) _
  refine ownGo.st (fun _ k => XS.astore X243.here hx rfl (hb hby at_51) rfl rfl (l' := #[.val (.int x0), .val (.int x1), .val (.int x2), .val (.int x3), .val (.int x4), .val (.int x5), .val (.int (F1 x0 x1)), .val (.int (F2 x0 x1)), .val (.int (F1 x3 x4)), .val (.int (F2 x3 x4)), .val (.int ((F1 x0 x1) + x2)), .val (.int ((F1 x3 x4) + x5)), .val (.ref a1), .val (.ref a2), .unset, .unset, .unset]) rfl k) ?_
  show ownGo p.tables e below T243 (mkF m 53 #[.val (.int x0), .val (.int x1), .val (.int x2), .val (.int x3), .val (.int x4), .val (.int x5), .val (.int (F1 x0 x1)), .val (.int (F2 x0 x1)), .val (.int (F1 x3 x4)), .val (.int (F2 x3 x4)), .val (.int ((F1 x0 x1) + x2)), .val (.int ((F1 x3 x4) + x5)), .val (.ref a1), .val (.ref a2), .unset, .unset, .unset] []) _
  refine ownGo.st (fun _ k => XS.iconst X243.here hx rfl (hb hby at_53)  k) ?_
  show ownGo p.tables e below T243 (mkF m 54 #[.val (.int x0), .val (.int x1), .val (.int x2), .val (.int x3), .val (.int x4), .val (.int x5), .val (.int (F1 x0 x1)), .val (.int (F2 x0 x1)), .val (.int (F1 x3 x4)), .val (.int (F2 x3 x4)), .val (.int ((F1 x0 x1) + x2)), .val (.int ((F1 x3 x4) + x5)), .val (.ref a1), .val (.ref a2), .unset, .unset, .unset] [(.int (2 : Int32))]) _
  obtain ⟨T246, h246, a3, X246, e246, E246, V_a3, Ex_a3, g_a3, st246⟩ := own_newarray (aty := .int) X243 hx hZ (own_at hw 7 rfl) e243 2 2 (by decide) (by decide) (by decide) (by decide) (ad := "[I") (by rfl) rfl (z := (2 : Int32)) rfl (g := (mkF m 54 #[.val (.int x0), .val (.int x1), .val (.int x2), .val (.int x3), .val (.int x4), .val (.int x5), .val (.int (F1 x0 x1)), .val (.int (F2 x0 x1)), .val (.int (F1 x3 x4)), .val (.int (F2 x3 x4)), .val (.int ((F1 x0 x1) + x2)), .val (.int ((F1 x3 x4) + x5)), .val (.ref a1), .val (.ref a2), .unset, .unset, .unset] [(.int (2 : Int32))])) rfl (hb hby at_54) rfl
  have gz_a3 : n0 ≤ a3 := Nat.le_trans Z243 (Nat.le_of_eq g_a3.symm)
  have ne_a1_a3 : a1 ≠ a3 := Nat.ne_of_lt (Nat.lt_of_lt_of_le V_a1_244.lt (Nat.le_of_eq g_a3.symm))
  have ne_a2_a3 : a2 ≠ a3 := Nat.ne_of_lt (Nat.lt_of_lt_of_le V_a2.lt (Nat.le_of_eq g_a3.symm))
  have V_a1_247 := V_a1_244.ext E246
  have Ex_a1_248 := Ex_a1_245.ext E246
  have V_a2_249 := V_a2.ext E246
  have Ex_a2_250 := Ex_a2.ext E246
  have Z246 : n0 ≤ h246.size := Nat.le_trans Z243 E246.1
  refine ownGo.st (st246) ?_
  show ownGo p.tables e below T246 (mkF m 56 #[.val (.int x0), .val (.int x1), .val (.int x2), .val (.int x3), .val (.int x4), .val (.int x5), .val (.int (F1 x0 x1)), .val (.int (F2 x0 x1)), .val (.int (F1 x3 x4)), .val (.int (F2 x3 x4)), .val (.int ((F1 x0 x1) + x2)), .val (.int ((F1 x3 x4) + x5)), .val (.ref a1), .val (.ref a2), .unset, .unset, .unset] [(.ref a3)]) _
  refine ownGo.st (fun _ k => XS.astore X246.here hx rfl (hb hby at_56) rfl rfl (l' := #[.val (.int x0), .val (.int x1), .val (.int x2), .val (.int x3), .val (.int x4), .val (.int x5), .val (.int (F1 x0 x1)), .val (.int (F2 x0 x1)), .val (.int (F1 x3 x4)), .val (.int (F2 x3 x4)), .val (.int ((F1 x0 x1) + x2)), .val (.int ((F1 x3 x4) + x5)), .val (.ref a1), .val (.ref a2), .val (.ref a3), .unset, .unset]) rfl k) ?_
  show ownGo p.tables e below T246 (mkF m 58 #[.val (.int x0), .val (.int x1), .val (.int x2), .val (.int x3), .val (.int x4), .val (.int x5), .val (.int (F1 x0 x1)), .val (.int (F2 x0 x1)), .val (.int (F1 x3 x4)), .val (.int (F2 x3 x4)), .val (.int ((F1 x0 x1) + x2)), .val (.int ((F1 x3 x4) + x5)), .val (.ref a1), .val (.ref a2), .val (.ref a3), .unset, .unset] []) _
  refine ownGo.st (fun _ k => XS.aload X246.here hx rfl (hb hby at_58) rfl rfl k) ?_
  show ownGo p.tables e below T246 (mkF m 60 #[.val (.int x0), .val (.int x1), .val (.int x2), .val (.int x3), .val (.int x4), .val (.int x5), .val (.int (F1 x0 x1)), .val (.int (F2 x0 x1)), .val (.int (F1 x3 x4)), .val (.int (F2 x3 x4)), .val (.int ((F1 x0 x1) + x2)), .val (.int ((F1 x3 x4) + x5)), .val (.ref a1), .val (.ref a2), .val (.ref a3), .unset, .unset] [(.ref a1)]) _
  refine ownGo.st (fun _ k => XS.iconst X246.here hx rfl (hb hby at_60)  k) ?_
  show ownGo p.tables e below T246 (mkF m 61 #[.val (.int x0), .val (.int x1), .val (.int x2), .val (.int x3), .val (.int x4), .val (.int x5), .val (.int (F1 x0 x1)), .val (.int (F2 x0 x1)), .val (.int (F1 x3 x4)), .val (.int (F2 x3 x4)), .val (.int ((F1 x0 x1) + x2)), .val (.int ((F1 x3 x4) + x5)), .val (.ref a1), .val (.ref a2), .val (.ref a3), .unset, .unset] [(.int (0 : Int32)), (.ref a1)]) _
  refine ownGo.st (fun _ k => XS.iload X246.here hx rfl (hb hby at_61) rfl k) ?_
  show ownGo p.tables e below T246 (mkF m 63 #[.val (.int x0), .val (.int x1), .val (.int x2), .val (.int x3), .val (.int x4), .val (.int x5), .val (.int (F1 x0 x1)), .val (.int (F2 x0 x1)), .val (.int (F1 x3 x4)), .val (.int (F2 x3 x4)), .val (.int ((F1 x0 x1) + x2)), .val (.int ((F1 x3 x4) + x5)), .val (.ref a1), .val (.ref a2), .val (.ref a3), .unset, .unset] [(.int (F1 x0 x1)), (.int (0 : Int32)), (.ref a1)]) _
  obtain ⟨T251, h251, X251, e251, W251, V_a1_251, st251⟩ := own_iastore X246 hx hZ e246 V_a1_247 (i := 0) rfl (by decide) (g := (mkF m 63 #[.val (.int x0), .val (.int x1), .val (.int x2), .val (.int x3), .val (.int x4), .val (.int x5), .val (.int (F1 x0 x1)), .val (.int (F2 x0 x1)), .val (.int (F1 x3 x4)), .val (.int (F2 x3 x4)), .val (.int ((F1 x0 x1) + x2)), .val (.int ((F1 x3 x4) + x5)), .val (.ref a1), .val (.ref a2), .val (.ref a3), .unset, .unset] [(.int (F1 x0 x1)), (.int (0 : Int32)), (.ref a1)])) rfl rfl (hb hby at_63)
  have Ex_a1_252 := Ex_a1_248.wr W251
  have V_a2_253 := V_a2_249.other W251 (Ne.symm ne_a1_a2)
  have Ex_a2_254 := Ex_a2_250.wr W251
  have V_a3_255 := V_a3.other W251 (Ne.symm ne_a1_a3)
  have Ex_a3_256 := Ex_a3.wr W251
  have N251 := Fr.snoc X251 N241 gz_a1
  have Z251 : n0 ≤ h251.size := Nat.le_trans Z246 (Nat.le_of_eq W251.size.symm)
  refine ownGo.st (st251) ?_
  show ownGo p.tables e below T251 (mkF m 64 #[.val (.int x0), .val (.int x1), .val (.int x2), .val (.int x3), .val (.int x4), .val (.int x5), .val (.int (F1 x0 x1)), .val (.int (F2 x0 x1)), .val (.int (F1 x3 x4)), .val (.int (F2 x3 x4)), .val (.int ((F1 x0 x1) + x2)), .val (.int ((F1 x3 x4) + x5)), .val (.ref a1), .val (.ref a2), .val (.ref a3), .unset, .unset] []) _
  refine ownGo.st (fun _ k => XS.aload X251.here hx rfl (hb hby at_64) rfl rfl k) ?_
  show ownGo p.tables e below T251 (mkF m 66 #[.val (.int x0), .val (.int x1), .val (.int x2), .val (.int x3), .val (.int x4), .val (.int x5), .val (.int (F1 x0 x1)), .val (.int (F2 x0 x1)), .val (.int (F1 x3 x4)), .val (.int (F2 x3 x4)), .val (.int ((F1 x0 x1) + x2)), .val (.int ((F1 x3 x4) + x5)), .val (.ref a1), .val (.ref a2), .val (.ref a3), .unset, .unset] [(.ref a1)]) _
  refine ownGo.st (fun _ k => XS.iconst X251.here hx rfl (hb hby at_66)  k) ?_
  show ownGo p.tables e below T251 (mkF m 67 #[.val (.int x0), .val (.int x1), .val (.int x2), .val (.int x3), .val (.int x4), .val (.int x5), .val (.int (F1 x0 x1)), .val (.int (F2 x0 x1)), .val (.int (F1 x3 x4)), .val (.int (F2 x3 x4)), .val (.int ((F1 x0 x1) + x2)), .val (.int ((F1 x3 x4) + x5)), .val (.ref a1), .val (.ref a2), .val (.ref a3), .unset, .unset] [(.int (1 : Int32)), (.ref a1)]) _
  refine ownGo.st (fun _ k => XS.iload X251.here hx rfl (hb hby at_67) rfl k) ?_
  show ownGo p.tables e below T251 (mkF m 69 #[.val (.int x0), .val (.int x1), .val (.int x2), .val (.int x3), .val (.int x4), .val (.int x5), .val (.int (F1 x0 x1)), .val (.int (F2 x0 x1)), .val (.int (F1 x3 x4)), .val (.int (F2 x3 x4)), .val (.int ((F1 x0 x1) + x2)), .val (.int ((F1 x3 x4) + x5)), .val (.ref a1), .val (.ref a2), .val (.ref a3), .unset, .unset] [(.int (F1 x3 x4)), (.int (1 : Int32)), (.ref a1)]) _
  obtain ⟨T257, h257, X257, e257, W257, V_a1_257, st257⟩ := own_iastore X251 hx hZ e251 V_a1_251 (i := 1) rfl (by decide) (g := (mkF m 69 #[.val (.int x0), .val (.int x1), .val (.int x2), .val (.int x3), .val (.int x4), .val (.int x5), .val (.int (F1 x0 x1)), .val (.int (F2 x0 x1)), .val (.int (F1 x3 x4)), .val (.int (F2 x3 x4)), .val (.int ((F1 x0 x1) + x2)), .val (.int ((F1 x3 x4) + x5)), .val (.ref a1), .val (.ref a2), .val (.ref a3), .unset, .unset] [(.int (F1 x3 x4)), (.int (1 : Int32)), (.ref a1)])) rfl rfl (hb hby at_69)
  have Ex_a1_258 := Ex_a1_252.wr W257
  have V_a2_259 := V_a2_253.other W257 (Ne.symm ne_a1_a2)
  have Ex_a2_260 := Ex_a2_254.wr W257
  have V_a3_261 := V_a3_255.other W257 (Ne.symm ne_a1_a3)
  have Ex_a3_262 := Ex_a3_256.wr W257
  have N257 := Fr.snoc X257 N251 gz_a1
  have Z257 : n0 ≤ h257.size := Nat.le_trans Z251 (Nat.le_of_eq W257.size.symm)
  refine ownGo.st (st257) ?_
  show ownGo p.tables e below T257 (mkF m 70 #[.val (.int x0), .val (.int x1), .val (.int x2), .val (.int x3), .val (.int x4), .val (.int x5), .val (.int (F1 x0 x1)), .val (.int (F2 x0 x1)), .val (.int (F1 x3 x4)), .val (.int (F2 x3 x4)), .val (.int ((F1 x0 x1) + x2)), .val (.int ((F1 x3 x4) + x5)), .val (.ref a1), .val (.ref a2), .val (.ref a3), .unset, .unset] []) _
  refine ownGo.st (fun _ k => XS.aload X257.here hx rfl (hb hby at_70) rfl rfl k) ?_
  show ownGo p.tables e below T257 (mkF m 72 #[.val (.int x0), .val (.int x1), .val (.int x2), .val (.int x3), .val (.int x4), .val (.int x5), .val (.int (F1 x0 x1)), .val (.int (F2 x0 x1)), .val (.int (F1 x3 x4)), .val (.int (F2 x3 x4)), .val (.int ((F1 x0 x1) + x2)), .val (.int ((F1 x3 x4) + x5)), .val (.ref a1), .val (.ref a2), .val (.ref a3), .unset, .unset] [(.ref a2)]) _
  refine ownGo.st (fun _ k => XS.iconst X257.here hx rfl (hb hby at_72)  k) ?_
  show ownGo p.tables e below T257 (mkF m 73 #[.val (.int x0), .val (.int x1), .val (.int x2), .val (.int x3), .val (.int x4), .val (.int x5), .val (.int (F1 x0 x1)), .val (.int (F2 x0 x1)), .val (.int (F1 x3 x4)), .val (.int (F2 x3 x4)), .val (.int ((F1 x0 x1) + x2)), .val (.int ((F1 x3 x4) + x5)), .val (.ref a1), .val (.ref a2), .val (.ref a3), .unset, .unset] [(.int (0 : Int32)), (.ref a2)]) _
  refine ownGo.st (fun _ k => XS.iload X257.here hx rfl (hb hby at_73) rfl k) ?_
  show ownGo p.tables e below T257 (mkF m 75 #[.val (.int x0), .val (.int x1), .val (.int x2), .val (.int x3), .val (.int x4), .val (.int x5), .val (.int (F1 x0 x1)), .val (.int (F2 x0 x1)), .val (.int (F1 x3 x4)), .val (.int (F2 x3 x4)), .val (.int ((F1 x0 x1) + x2)), .val (.int ((F1 x3 x4) + x5)), .val (.ref a1), .val (.ref a2), .val (.ref a3), .unset, .unset] [(.int (F2 x0 x1)), (.int (0 : Int32)), (.ref a2)]) _
  obtain ⟨T263, h263, X263, e263, W263, V_a2_263, st263⟩ := own_iastore X257 hx hZ e257 V_a2_259 (i := 0) rfl (by decide) (g := (mkF m 75 #[.val (.int x0), .val (.int x1), .val (.int x2), .val (.int x3), .val (.int x4), .val (.int x5), .val (.int (F1 x0 x1)), .val (.int (F2 x0 x1)), .val (.int (F1 x3 x4)), .val (.int (F2 x3 x4)), .val (.int ((F1 x0 x1) + x2)), .val (.int ((F1 x3 x4) + x5)), .val (.ref a1), .val (.ref a2), .val (.ref a3), .unset, .unset] [(.int (F2 x0 x1)), (.int (0 : Int32)), (.ref a2)])) rfl rfl (hb hby at_75)
  have V_a1_264 := V_a1_257.other W263 ne_a1_a2
  have Ex_a1_265 := Ex_a1_258.wr W263
  have Ex_a2_266 := Ex_a2_260.wr W263
  have V_a3_267 := V_a3_261.other W263 (Ne.symm ne_a2_a3)
  have Ex_a3_268 := Ex_a3_262.wr W263
  have N263 := Fr.snoc X263 N257 gz_a2
  have Z263 : n0 ≤ h263.size := Nat.le_trans Z257 (Nat.le_of_eq W263.size.symm)
  refine ownGo.st (st263) ?_
  show ownGo p.tables e below T263 (mkF m 76 #[.val (.int x0), .val (.int x1), .val (.int x2), .val (.int x3), .val (.int x4), .val (.int x5), .val (.int (F1 x0 x1)), .val (.int (F2 x0 x1)), .val (.int (F1 x3 x4)), .val (.int (F2 x3 x4)), .val (.int ((F1 x0 x1) + x2)), .val (.int ((F1 x3 x4) + x5)), .val (.ref a1), .val (.ref a2), .val (.ref a3), .unset, .unset] []) _
  refine ownGo.st (fun _ k => XS.aload X263.here hx rfl (hb hby at_76) rfl rfl k) ?_
  show ownGo p.tables e below T263 (mkF m 78 #[.val (.int x0), .val (.int x1), .val (.int x2), .val (.int x3), .val (.int x4), .val (.int x5), .val (.int (F1 x0 x1)), .val (.int (F2 x0 x1)), .val (.int (F1 x3 x4)), .val (.int (F2 x3 x4)), .val (.int ((F1 x0 x1) + x2)), .val (.int ((F1 x3 x4) + x5)), .val (.ref a1), .val (.ref a2), .val (.ref a3), .unset, .unset] [(.ref a2)]) _
  refine ownGo.st (fun _ k => XS.iconst X263.here hx rfl (hb hby at_78)  k) ?_
  show ownGo p.tables e below T263 (mkF m 79 #[.val (.int x0), .val (.int x1), .val (.int x2), .val (.int x3), .val (.int x4), .val (.int x5), .val (.int (F1 x0 x1)), .val (.int (F2 x0 x1)), .val (.int (F1 x3 x4)), .val (.int (F2 x3 x4)), .val (.int ((F1 x0 x1) + x2)), .val (.int ((F1 x3 x4) + x5)), .val (.ref a1), .val (.ref a2), .val (.ref a3), .unset, .unset] [(.int (1 : Int32)), (.ref a2)]) _
  refine ownGo.st (fun _ k => XS.iload X263.here hx rfl (hb hby at_79) rfl k) ?_
  show ownGo p.tables e below T263 (mkF m 81 #[.val (.int x0), .val (.int x1), .val (.int x2), .val (.int x3), .val (.int x4), .val (.int x5), .val (.int (F1 x0 x1)), .val (.int (F2 x0 x1)), .val (.int (F1 x3 x4)), .val (.int (F2 x3 x4)), .val (.int ((F1 x0 x1) + x2)), .val (.int ((F1 x3 x4) + x5)), .val (.ref a1), .val (.ref a2), .val (.ref a3), .unset, .unset] [(.int (F2 x3 x4)), (.int (1 : Int32)), (.ref a2)]) _
  obtain ⟨T269, h269, X269, e269, W269, V_a2_269, st269⟩ := own_iastore X263 hx hZ e263 V_a2_263 (i := 1) rfl (by decide) (g := (mkF m 81 #[.val (.int x0), .val (.int x1), .val (.int x2), .val (.int x3), .val (.int x4), .val (.int x5), .val (.int (F1 x0 x1)), .val (.int (F2 x0 x1)), .val (.int (F1 x3 x4)), .val (.int (F2 x3 x4)), .val (.int ((F1 x0 x1) + x2)), .val (.int ((F1 x3 x4) + x5)), .val (.ref a1), .val (.ref a2), .val (.ref a3), .unset, .unset] [(.int (F2 x3 x4)), (.int (1 : Int32)), (.ref a2)])) rfl rfl (hb hby at_81)
  have V_a1_270 := V_a1_264.other W269 ne_a1_a2
  have Ex_a1_271 := Ex_a1_265.wr W269
  have Ex_a2_272 := Ex_a2_266.wr W269
  have V_a3_273 := V_a3_267.other W269 (Ne.symm ne_a2_a3)
  have Ex_a3_274 := Ex_a3_268.wr W269
  have N269 := Fr.snoc X269 N263 gz_a2
  have Z269 : n0 ≤ h269.size := Nat.le_trans Z263 (Nat.le_of_eq W269.size.symm)
  refine ownGo.st (st269) ?_
  show ownGo p.tables e below T269 (mkF m 82 #[.val (.int x0), .val (.int x1), .val (.int x2), .val (.int x3), .val (.int x4), .val (.int x5), .val (.int (F1 x0 x1)), .val (.int (F2 x0 x1)), .val (.int (F1 x3 x4)), .val (.int (F2 x3 x4)), .val (.int ((F1 x0 x1) + x2)), .val (.int ((F1 x3 x4) + x5)), .val (.ref a1), .val (.ref a2), .val (.ref a3), .unset, .unset] []) _
  refine ownGo.st (fun _ k => XS.aload X269.here hx rfl (hb hby at_82) rfl rfl k) ?_
  show ownGo p.tables e below T269 (mkF m 84 #[.val (.int x0), .val (.int x1), .val (.int x2), .val (.int x3), .val (.int x4), .val (.int x5), .val (.int (F1 x0 x1)), .val (.int (F2 x0 x1)), .val (.int (F1 x3 x4)), .val (.int (F2 x3 x4)), .val (.int ((F1 x0 x1) + x2)), .val (.int ((F1 x3 x4) + x5)), .val (.ref a1), .val (.ref a2), .val (.ref a3), .unset, .unset] [(.ref a3)]) _
  refine ownGo.st (fun _ k => XS.iconst X269.here hx rfl (hb hby at_84)  k) ?_
  show ownGo p.tables e below T269 (mkF m 85 #[.val (.int x0), .val (.int x1), .val (.int x2), .val (.int x3), .val (.int x4), .val (.int x5), .val (.int (F1 x0 x1)), .val (.int (F2 x0 x1)), .val (.int (F1 x3 x4)), .val (.int (F2 x3 x4)), .val (.int ((F1 x0 x1) + x2)), .val (.int ((F1 x3 x4) + x5)), .val (.ref a1), .val (.ref a2), .val (.ref a3), .unset, .unset] [(.int (0 : Int32)), (.ref a3)]) _
  refine ownGo.st (fun _ k => XS.iload X269.here hx rfl (hb hby at_85) rfl k) ?_
  show ownGo p.tables e below T269 (mkF m 87 #[.val (.int x0), .val (.int x1), .val (.int x2), .val (.int x3), .val (.int x4), .val (.int x5), .val (.int (F1 x0 x1)), .val (.int (F2 x0 x1)), .val (.int (F1 x3 x4)), .val (.int (F2 x3 x4)), .val (.int ((F1 x0 x1) + x2)), .val (.int ((F1 x3 x4) + x5)), .val (.ref a1), .val (.ref a2), .val (.ref a3), .unset, .unset] [(.int ((F1 x0 x1) + x2)), (.int (0 : Int32)), (.ref a3)]) _
  obtain ⟨T275, h275, X275, e275, W275, V_a3_275, st275⟩ := own_iastore X269 hx hZ e269 V_a3_273 (i := 0) rfl (by decide) (g := (mkF m 87 #[.val (.int x0), .val (.int x1), .val (.int x2), .val (.int x3), .val (.int x4), .val (.int x5), .val (.int (F1 x0 x1)), .val (.int (F2 x0 x1)), .val (.int (F1 x3 x4)), .val (.int (F2 x3 x4)), .val (.int ((F1 x0 x1) + x2)), .val (.int ((F1 x3 x4) + x5)), .val (.ref a1), .val (.ref a2), .val (.ref a3), .unset, .unset] [(.int ((F1 x0 x1) + x2)), (.int (0 : Int32)), (.ref a3)])) rfl rfl (hb hby at_87)
  have V_a1_276 := V_a1_270.other W275 ne_a1_a3
  have Ex_a1_277 := Ex_a1_271.wr W275
  have V_a2_278 := V_a2_269.other W275 ne_a2_a3
  have Ex_a2_279 := Ex_a2_272.wr W275
  have Ex_a3_280 := Ex_a3_274.wr W275
  have N275 := Fr.snoc X275 N269 gz_a3
  have Z275 : n0 ≤ h275.size := Nat.le_trans Z269 (Nat.le_of_eq W275.size.symm)
  refine ownGo.st (st275) ?_
  show ownGo p.tables e below T275 (mkF m 88 #[.val (.int x0), .val (.int x1), .val (.int x2), .val (.int x3), .val (.int x4), .val (.int x5), .val (.int (F1 x0 x1)), .val (.int (F2 x0 x1)), .val (.int (F1 x3 x4)), .val (.int (F2 x3 x4)), .val (.int ((F1 x0 x1) + x2)), .val (.int ((F1 x3 x4) + x5)), .val (.ref a1), .val (.ref a2), .val (.ref a3), .unset, .unset] []) _
  refine ownGo.st (fun _ k => XS.aload X275.here hx rfl (hb hby at_88) rfl rfl k) ?_
  show ownGo p.tables e below T275 (mkF m 90 #[.val (.int x0), .val (.int x1), .val (.int x2), .val (.int x3), .val (.int x4), .val (.int x5), .val (.int (F1 x0 x1)), .val (.int (F2 x0 x1)), .val (.int (F1 x3 x4)), .val (.int (F2 x3 x4)), .val (.int ((F1 x0 x1) + x2)), .val (.int ((F1 x3 x4) + x5)), .val (.ref a1), .val (.ref a2), .val (.ref a3), .unset, .unset] [(.ref a3)]) _
  refine ownGo.st (fun _ k => XS.iconst X275.here hx rfl (hb hby at_90)  k) ?_
  show ownGo p.tables e below T275 (mkF m 91 #[.val (.int x0), .val (.int x1), .val (.int x2), .val (.int x3), .val (.int x4), .val (.int x5), .val (.int (F1 x0 x1)), .val (.int (F2 x0 x1)), .val (.int (F1 x3 x4)), .val (.int (F2 x3 x4)), .val (.int ((F1 x0 x1) + x2)), .val (.int ((F1 x3 x4) + x5)), .val (.ref a1), .val (.ref a2), .val (.ref a3), .unset, .unset] [(.int (1 : Int32)), (.ref a3)]) _
  refine ownGo.st (fun _ k => XS.iload X275.here hx rfl (hb hby at_91) rfl k) ?_
  show ownGo p.tables e below T275 (mkF m 93 #[.val (.int x0), .val (.int x1), .val (.int x2), .val (.int x3), .val (.int x4), .val (.int x5), .val (.int (F1 x0 x1)), .val (.int (F2 x0 x1)), .val (.int (F1 x3 x4)), .val (.int (F2 x3 x4)), .val (.int ((F1 x0 x1) + x2)), .val (.int ((F1 x3 x4) + x5)), .val (.ref a1), .val (.ref a2), .val (.ref a3), .unset, .unset] [(.int ((F1 x3 x4) + x5)), (.int (1 : Int32)), (.ref a3)]) _
  obtain ⟨T281, h281, X281, e281, W281, V_a3_281, st281⟩ := own_iastore X275 hx hZ e275 V_a3_275 (i := 1) rfl (by decide) (g := (mkF m 93 #[.val (.int x0), .val (.int x1), .val (.int x2), .val (.int x3), .val (.int x4), .val (.int x5), .val (.int (F1 x0 x1)), .val (.int (F2 x0 x1)), .val (.int (F1 x3 x4)), .val (.int (F2 x3 x4)), .val (.int ((F1 x0 x1) + x2)), .val (.int ((F1 x3 x4) + x5)), .val (.ref a1), .val (.ref a2), .val (.ref a3), .unset, .unset] [(.int ((F1 x3 x4) + x5)), (.int (1 : Int32)), (.ref a3)])) rfl rfl (hb hby at_93)
  have V_a1_282 := V_a1_276.other W281 ne_a1_a3
  have Ex_a1_283 := Ex_a1_277.wr W281
  have V_a2_284 := V_a2_278.other W281 ne_a2_a3
  have Ex_a2_285 := Ex_a2_279.wr W281
  have Ex_a3_286 := Ex_a3_280.wr W281
  have N281 := Fr.snoc X281 N275 gz_a3
  have Z281 : n0 ≤ h281.size := Nat.le_trans Z275 (Nat.le_of_eq W281.size.symm)
  refine ownGo.st (st281) ?_
  show ownGo p.tables e below T281 (mkF m 94 #[.val (.int x0), .val (.int x1), .val (.int x2), .val (.int x3), .val (.int x4), .val (.int x5), .val (.int (F1 x0 x1)), .val (.int (F2 x0 x1)), .val (.int (F1 x3 x4)), .val (.int (F2 x3 x4)), .val (.int ((F1 x0 x1) + x2)), .val (.int ((F1 x3 x4) + x5)), .val (.ref a1), .val (.ref a2), .val (.ref a3), .unset, .unset] []) _
  have U_a1 : ownA Z h281 a1 .int 2 (fun i => .int ((own_two (F1 x0 x1) (F1 x3 x4)) i)) := V_a1_282.eq (fun i hi => by
    have q : i = 0 ∨ i = 1 := by omega
    rcases q with rfl | rfl <;> rfl)
  have U_a2 : ownA Z h281 a2 .int 2 (fun i => .int ((own_two (F2 x0 x1) (F2 x3 x4)) i)) := V_a2_284.eq (fun i hi => by
    have q : i = 0 ∨ i = 1 := by omega
    rcases q with rfl | rfl <;> rfl)
  have U_a3 : ownA Z h281 a3 .int 2 (fun i => .int ((own_two ((F1 x0 x1) + x2) ((F1 x3 x4) + x5)) i)) := V_a3_281.eq (fun i hi => by
    have q : i = 0 ∨ i = 1 := by omega
    rcases q with rfl | rfl <;> rfl)
  obtain ⟨k0, hk0⟩ := own_bits_ex _ (own_span x0 x1).1 (own_span x0 x1).2
  obtain ⟨k1, hk1⟩ := own_bits_ex _ (own_span x3 x4).1 (own_span x3 x4).2
  obtain ⟨T287, h287, X287, e287, E287, Ex_o, D287, -, st287⟩ := newO X281 hx hZ hown (own_at hw 8 rfl) (own_at hw 9 rfl) (own_at hw 10 rfl) e281 (g := (mkF m 94 #[.val (.int x0), .val (.int x1), .val (.int x2), .val (.int x3), .val (.int x4), .val (.int x5), .val (.int (F1 x0 x1)), .val (.int (F2 x0 x1)), .val (.int (F1 x3 x4)), .val (.int (F2 x3 x4)), .val (.int ((F1 x0 x1) + x2)), .val (.int ((F1 x3 x4) + x5)), .val (.ref a1), .val (.ref a2), .val (.ref a3), .unset, .unset] [])) rfl (hb hby at_94) (by decide) (by decide)
  obtain ⟨o, g_o⟩ : ∃ z, z = h281.size := ⟨_, rfl⟩
  rw [← g_o] at Ex_o D287 st287
  have gz_o : n0 ≤ o := Nat.le_trans Z281 (Nat.le_of_eq g_o.symm)
  have ne_a1_o : a1 ≠ o := Nat.ne_of_lt (Nat.lt_of_lt_of_le U_a1.lt (Nat.le_of_eq g_o.symm))
  have ne_a2_o : a2 ≠ o := Nat.ne_of_lt (Nat.lt_of_lt_of_le U_a2.lt (Nat.le_of_eq g_o.symm))
  have ne_a3_o : a3 ≠ o := Nat.ne_of_lt (Nat.lt_of_lt_of_le U_a3.lt (Nat.le_of_eq g_o.symm))
  have U_a1_288 := U_a1.ext E287
  have Ex_a1_289 := Ex_a1_283.ext E287
  have U_a2_290 := U_a2.ext E287
  have Ex_a2_291 := Ex_a2_285.ext E287
  have U_a3_292 := U_a3.ext E287
  have Ex_a3_293 := Ex_a3_286.ext E287
  have Z287 : n0 ≤ h287.size := Nat.le_trans Z281 E287.1
  have F_width_o : Fld Z h287 o "com/example/ningbo/ningbo/engine/StateLayout" "width" "I" (.int (0 : Int32)) := D287 (Or.inr (own_at hw 18 rfl)) (ty := .int) (by decide)
  have F_lowerBounds_o : Fld Z h287 o "com/example/ningbo/ningbo/engine/StateLayout" "lowerBounds" "[I" .null := D287 (Or.inr (own_at hw 29 rfl)) (ty := (.array .int)) (by decide)
  have F_wordOf_o : Fld Z h287 o "com/example/ningbo/ningbo/engine/StateLayout" "wordOf" "[I" .null := D287 (Or.inr (own_at hw 31 rfl)) (ty := (.array .int)) (by decide)
  have F_shiftOf_o : Fld Z h287 o "com/example/ningbo/ningbo/engine/StateLayout" "shiftOf" "[I" .null := D287 (Or.inr (own_at hw 33 rfl)) (ty := (.array .int)) (by decide)
  have F_maskOf_o : Fld Z h287 o "com/example/ningbo/ningbo/engine/StateLayout" "maskOf" "[J" .null := D287 (Or.inr (own_at hw 36 rfl)) (ty := (.array .long)) (by decide)
  have F_bits_o : Fld Z h287 o "com/example/ningbo/ningbo/engine/StateLayout" "bits" "I" (.int (0 : Int32)) := D287 (Or.inr (own_at hw 47 rfl)) (ty := .int) (by decide)
  have F_words_o : Fld Z h287 o "com/example/ningbo/ningbo/engine/StateLayout" "words" "I" (.int (0 : Int32)) := D287 (Or.inr (own_at hw 50 rfl)) (ty := .int) (by decide)
  refine ownGo.st (st287) ?_
  show ownGo p.tables e below T287 (mkF m 97 #[.val (.int x0), .val (.int x1), .val (.int x2), .val (.int x3), .val (.int x4), .val (.int x5), .val (.int (F1 x0 x1)), .val (.int (F2 x0 x1)), .val (.int (F1 x3 x4)), .val (.int (F2 x3 x4)), .val (.int ((F1 x0 x1) + x2)), .val (.int ((F1 x3 x4) + x5)), .val (.ref a1), .val (.ref a2), .val (.ref a3), .unset, .unset] [(.ref o)]) _
  refine ownGo.st (fun _ k => XS.dup X287.here hx rfl (hb hby at_97) rfl rfl k) ?_
  show ownGo p.tables e below T287 (mkF m 98 #[.val (.int x0), .val (.int x1), .val (.int x2), .val (.int x3), .val (.int x4), .val (.int x5), .val (.int (F1 x0 x1)), .val (.int (F2 x0 x1)), .val (.int (F1 x3 x4)), .val (.int (F2 x3 x4)), .val (.int ((F1 x0 x1) + x2)), .val (.int ((F1 x3 x4) + x5)), .val (.ref a1), .val (.ref a2), .val (.ref a3), .unset, .unset] [(.ref o), (.ref o)]) _
  refine ownGo.st (fun _ k => XS.aload X287.here hx rfl (hb hby at_98) rfl rfl k) ?_
  show ownGo p.tables e below T287 (mkF m 100 #[.val (.int x0), .val (.int x1), .val (.int x2), .val (.int x3), .val (.int x4), .val (.int x5), .val (.int (F1 x0 x1)), .val (.int (F2 x0 x1)), .val (.int (F1 x3 x4)), .val (.int (F2 x3 x4)), .val (.int ((F1 x0 x1) + x2)), .val (.int ((F1 x3 x4) + x5)), .val (.ref a1), .val (.ref a2), .val (.ref a3), .unset, .unset] [(.ref a1), (.ref o), (.ref o)]) _
  refine ownGo.st (fun _ k => XS.aload X287.here hx rfl (hb hby at_100) rfl rfl k) ?_
  show ownGo p.tables e below T287 (mkF m 102 #[.val (.int x0), .val (.int x1), .val (.int x2), .val (.int x3), .val (.int x4), .val (.int x5), .val (.int (F1 x0 x1)), .val (.int (F2 x0 x1)), .val (.int (F1 x3 x4)), .val (.int (F2 x3 x4)), .val (.int ((F1 x0 x1) + x2)), .val (.int ((F1 x3 x4) + x5)), .val (.ref a1), .val (.ref a2), .val (.ref a3), .unset, .unset] [(.ref a2), (.ref a1), (.ref o), (.ref o)]) _
  obtain ⟨_, T294, L294, X294, hQ294, st294⟩ := own_callC X287 hx hZ hown rfl (own_at hw 11 rfl) (own_at hw 12 rfl) (own_at hw 10 rfl) (own_at hw 13 rfl) (by decide) (rm3 l Z a0 hw o a1 a2 (own_two (F1 x0 x1) (F1 x3 x4)) (own_two (F2 x0 x1) (F2 x3 x4)) (own_twoN k0 k1) h287 n0 Z287 gz_o (Ne.symm ne_a1_o) (Ne.symm ne_a2_o) Ex_o F_width_o F_lowerBounds_o F_wordOf_o F_shiftOf_o F_maskOf_o F_bits_o F_words_o Ex_a1_289 U_a1_288 U_a2_290 (fun i hi => by
    have q : i = 0 ∨ i = 1 := by omega
    rcases q with rfl | rfl
    · exact hk0
    · exact hk1)) 1 (by decide) (by decide) e287 (by decide) (by decide) (g := (mkF m 102 #[.val (.int x0), .val (.int x1), .val (.int x2), .val (.int x3), .val (.int x4), .val (.int x5), .val (.int (F1 x0 x1)), .val (.int (F2 x0 x1)), .val (.int (F1 x3 x4)), .val (.int (F2 x3 x4)), .val (.int ((F1 x0 x1) + x2)), .val (.int ((F1 x3 x4) + x5)), .val (.ref a1), .val (.ref a2), .val (.ref a3), .unset, .unset] [(.ref a2), (.ref a1), (.ref o), (.ref o)])) rfl (by rw [hml]; rfl) (argsL := [(.ref a1), (.ref a2)]) (rest := [(.ref o)]) (lenOf pd___I_I_V rfl) rfl (by show 2 * 0 + _ ≤ _; exact Nat.le_of_eq rfl) (hb hby at_102)
  obtain ⟨rfl, N294q, K294, Y294⟩ := hQ294
  have N294 := Fr.app N281 N294q
  have V3_294 := U_a3_292.keep K294 (ninS ne_a3_o nin0)
  refine ownGo.st st294 ?_
  show ownGo p.tables e below T294 (mkF m 105 #[.val (.int x0), .val (.int x1), .val (.int x2), .val (.int x3), .val (.int x4), .val (.int x5), .val (.int (F1 x0 x1)), .val (.int (F2 x0 x1)), .val (.int (F1 x3 x4)), .val (.int (F2 x3 x4)), .val (.int ((F1 x0 x1) + x2)), .val (.int ((F1 x3 x4) + x5)), .val (.ref a1), .val (.ref a2), .val (.ref a3), .unset, .unset] [(.ref o)]) _
  have hfit := own_fit2 (F1 x0 x1) (F1 x3 x4) (F2 x0 x1) (F2 x3 x4) ((F1 x0 x1) + x2) ((F1 x3 x4) + x5) k0 k1 hk0 hk1
  refine ownGo.st (fun _ k => XS.astore X294.here hx rfl (hb hby at_105) rfl rfl (l' := #[.val (.int x0), .val (.int x1), .val (.int x2), .val (.int x3), .val (.int x4), .val (.int x5), .val (.int (F1 x0 x1)), .val (.int (F2 x0 x1)), .val (.int (F1 x3 x4)), .val (.int (F2 x3 x4)), .val (.int ((F1 x0 x1) + x2)), .val (.int ((F1 x3 x4) + x5)), .val (.ref a1), .val (.ref a2), .val (.ref a3), .val (.ref o), .unset]) rfl k) ?_
  show ownGo p.tables e below T294 (mkF m 107 #[.val (.int x0), .val (.int x1), .val (.int x2), .val (.int x3), .val (.int x4), .val (.int x5), .val (.int (F1 x0 x1)), .val (.int (F2 x0 x1)), .val (.int (F1 x3 x4)), .val (.int (F2 x3 x4)), .val (.int ((F1 x0 x1) + x2)), .val (.int ((F1 x3 x4) + x5)), .val (.ref a1), .val (.ref a2), .val (.ref a3), .val (.ref o), .unset] []) _
  refine ownGo.st (fun _ k => XS.iload X294.here hx rfl (hb hby at_107) rfl k) ?_
  show ownGo p.tables e below T294 (mkF m 109 #[.val (.int x0), .val (.int x1), .val (.int x2), .val (.int x3), .val (.int x4), .val (.int x5), .val (.int (F1 x0 x1)), .val (.int (F2 x0 x1)), .val (.int (F1 x3 x4)), .val (.int (F2 x3 x4)), .val (.int ((F1 x0 x1) + x2)), .val (.int ((F1 x3 x4) + x5)), .val (.ref a1), .val (.ref a2), .val (.ref a3), .val (.ref o), .unset] [(.int (F1 x0 x1))]) _
  refine ownGo.st (fun _ k => XS.iload X294.here hx rfl (hb hby at_109) rfl k) ?_
  show ownGo p.tables e below T294 (mkF m 111 #[.val (.int x0), .val (.int x1), .val (.int x2), .val (.int x3), .val (.int x4), .val (.int x5), .val (.int (F1 x0 x1)), .val (.int (F2 x0 x1)), .val (.int (F1 x3 x4)), .val (.int (F2 x3 x4)), .val (.int ((F1 x0 x1) + x2)), .val (.int ((F1 x3 x4) + x5)), .val (.ref a1), .val (.ref a2), .val (.ref a3), .val (.ref o), .unset] [(.int (F2 x0 x1)), (.int (F1 x0 x1))]) _
  refine ownGo.st (fun _ k => XS.iload X294.here hx rfl (hb hby at_111) rfl k) ?_
  show ownGo p.tables e below T294 (mkF m 113 #[.val (.int x0), .val (.int x1), .val (.int x2), .val (.int x3), .val (.int x4), .val (.int x5), .val (.int (F1 x0 x1)), .val (.int (F2 x0 x1)), .val (.int (F1 x3 x4)), .val (.int (F2 x3 x4)), .val (.int ((F1 x0 x1) + x2)), .val (.int ((F1 x3 x4) + x5)), .val (.ref a1), .val (.ref a2), .val (.ref a3), .val (.ref o), .unset] [(.int ((F1 x0 x1) + x2)), (.int (F2 x0 x1)), (.int (F1 x0 x1))]) _
  obtain ⟨_, T295, L295, X295, hQ295, st295⟩ := own_callS X294 hx hZ hown (own_at hw 51 rfl) (own_at hw 52 rfl) (own_at hw 53 rfl) (own_at hw 54 rfl) (by decide) (rm7 l Z a0 hw (F1 x0 x1) (F2 x0 x1) ((F1 x0 x1) + x2) T294.heap n0) 0 (by decide) (by decide) rfl (by decide) (by decide) (g := (mkF m 113 #[.val (.int x0), .val (.int x1), .val (.int x2), .val (.int x3), .val (.int x4), .val (.int x5), .val (.int (F1 x0 x1)), .val (.int (F2 x0 x1)), .val (.int (F1 x3 x4)), .val (.int (F2 x3 x4)), .val (.int ((F1 x0 x1) + x2)), .val (.int ((F1 x3 x4) + x5)), .val (.ref a1), .val (.ref a2), .val (.ref a3), .val (.ref o), .unset] [(.int ((F1 x0 x1) + x2)), (.int (F2 x0 x1)), (.int (F1 x0 x1))])) rfl (by rw [hml]; rfl) (argsL := [(.int (F1 x0 x1)), (.int (F2 x0 x1)), (.int ((F1 x0 x1) + x2))]) (rest := []) (lenOf pd__III_Z rfl) rfl (by show 2 * 0 + _ ≤ _; exact Nat.le_of_eq rfl) (hb hby at_113)
  obtain ⟨rfl, N295q, e295⟩ := hQ295
  have N295 := Fr.app N294 N295q
  refine ownGo.st st295 ?_
  show ownGo p.tables e below T295 (mkF m 116 #[.val (.int x0), .val (.int x1), .val (.int x2), .val (.int x3), .val (.int x4), .val (.int x5), .val (.int (F1 x0 x1)), .val (.int (F2 x0 x1)), .val (.int (F1 x3 x4)), .val (.int (F2 x3 x4)), .val (.int ((F1 x0 x1) + x2)), .val (.int ((F1 x3 x4) + x5)), .val (.ref a1), .val (.ref a2), .val (.ref a3), .val (.ref o), .unset] [(.int (F7 (F1 x0 x1) (F2 x0 x1) ((F1 x0 x1) + x2)))]) _
  by_cases hh0 : (F7 (F1 x0 x1) (F2 x0 x1) ((F1 x0 x1) + x2)) = (0 : Int32)
  · refine ownGo.st (fun _ k => XS.ifYes X295.here hx rfl (pc0 := 116) (pc' := 135) rfl (hb hby at_116) rfl ((if0 _ _).trans (teq hh0).1) (by decide) (by decide) k) ?_
    show ownGo p.tables e below T295 (mkF m 135 #[.val (.int x0), .val (.int x1), .val (.int x2), .val (.int x3), .val (.int x4), .val (.int x5), .val (.int (F1 x0 x1)), .val (.int (F2 x0 x1)), .val (.int (F1 x3 x4)), .val (.int (F2 x3 x4)), .val (.int ((F1 x0 x1) + x2)), .val (.int ((F1 x3 x4) + x5)), .val (.ref a1), .val (.ref a2), .val (.ref a3), .val (.ref o), .unset] []) _
    refine ownGo.st (fun _ k => XS.iconst X295.here hx rfl (hb hby at_135)  k) ?_
    show ownGo p.tables e below T295 (mkF m 136 #[.val (.int x0), .val (.int x1), .val (.int x2), .val (.int x3), .val (.int x4), .val (.int x5), .val (.int (F1 x0 x1)), .val (.int (F2 x0 x1)), .val (.int (F1 x3 x4)), .val (.int (F2 x3 x4)), .val (.int ((F1 x0 x1) + x2)), .val (.int ((F1 x3 x4) + x5)), .val (.ref a1), .val (.ref a2), .val (.ref a3), .val (.ref o), .unset] [(.int (0 : Int32))]) _
    exact t0_136 hx hZ hw hby hml hown hret hlk (by decide) (by decide) X295 e295 N295 a3 o _ _ _ _ _ _ _ _ _ _ _ _ _ _ _ _ (0 : Int32) (own_two ((F1 x0 x1) + x2) ((F1 x3 x4) + x5)) (own_two (F1 x0 x1) (F1 x3 x4)) (own_twoN k0 k1) Y294 V3_294 (hfit.trans (if_pos hh0))
  · refine ownGo.st (fun _ k => XS.ifNo X295.here hx rfl (hb hby at_116) rfl ((if0 _ _).trans (feq hh0).1) k) ?_
    show ownGo p.tables e below T295 (mkF m 119 #[.val (.int x0), .val (.int x1), .val (.int x2), .val (.int x3), .val (.int x4), .val (.int x5), .val (.int (F1 x0 x1)), .val (.int (F2 x0 x1)), .val (.int (F1 x3 x4)), .val (.int (F2 x3 x4)), .val (.int ((F1 x0 x1) + x2)), .val (.int ((F1 x3 x4) + x5)), .val (.ref a1), .val (.ref a2), .val (.ref a3), .val (.ref o), .unset] []) _
    refine ownGo.st (fun _ k => XS.iload X295.here hx rfl (hb hby at_119) rfl k) ?_
    show ownGo p.tables e below T295 (mkF m 121 #[.val (.int x0), .val (.int x1), .val (.int x2), .val (.int x3), .val (.int x4), .val (.int x5), .val (.int (F1 x0 x1)), .val (.int (F2 x0 x1)), .val (.int (F1 x3 x4)), .val (.int (F2 x3 x4)), .val (.int ((F1 x0 x1) + x2)), .val (.int ((F1 x3 x4) + x5)), .val (.ref a1), .val (.ref a2), .val (.ref a3), .val (.ref o), .unset] [(.int (F1 x3 x4))]) _
    refine ownGo.st (fun _ k => XS.iload X295.here hx rfl (hb hby at_121) rfl k) ?_
    show ownGo p.tables e below T295 (mkF m 123 #[.val (.int x0), .val (.int x1), .val (.int x2), .val (.int x3), .val (.int x4), .val (.int x5), .val (.int (F1 x0 x1)), .val (.int (F2 x0 x1)), .val (.int (F1 x3 x4)), .val (.int (F2 x3 x4)), .val (.int ((F1 x0 x1) + x2)), .val (.int ((F1 x3 x4) + x5)), .val (.ref a1), .val (.ref a2), .val (.ref a3), .val (.ref o), .unset] [(.int (F2 x3 x4)), (.int (F1 x3 x4))]) _
    refine ownGo.st (fun _ k => XS.iload X295.here hx rfl (hb hby at_123) rfl k) ?_
    show ownGo p.tables e below T295 (mkF m 125 #[.val (.int x0), .val (.int x1), .val (.int x2), .val (.int x3), .val (.int x4), .val (.int x5), .val (.int (F1 x0 x1)), .val (.int (F2 x0 x1)), .val (.int (F1 x3 x4)), .val (.int (F2 x3 x4)), .val (.int ((F1 x0 x1) + x2)), .val (.int ((F1 x3 x4) + x5)), .val (.ref a1), .val (.ref a2), .val (.ref a3), .val (.ref o), .unset] [(.int ((F1 x3 x4) + x5)), (.int (F2 x3 x4)), (.int (F1 x3 x4))]) _
    obtain ⟨_, T296, L296, X296, hQ296, st296⟩ := own_callS X295 hx hZ hown (own_at hw 51 rfl) (own_at hw 52 rfl) (own_at hw 53 rfl) (own_at hw 54 rfl) (by decide) (rm7 l Z a0 hw (F1 x3 x4) (F2 x3 x4) ((F1 x3 x4) + x5) T294.heap n0) 0 (by decide) (by decide) e295 (by decide) (by decide) (g := (mkF m 125 #[.val (.int x0), .val (.int x1), .val (.int x2), .val (.int x3), .val (.int x4), .val (.int x5), .val (.int (F1 x0 x1)), .val (.int (F2 x0 x1)), .val (.int (F1 x3 x4)), .val (.int (F2 x3 x4)), .val (.int ((F1 x0 x1) + x2)), .val (.int ((F1 x3 x4) + x5)), .val (.ref a1), .val (.ref a2), .val (.ref a3), .val (.ref o), .unset] [(.int ((F1 x3 x4) + x5)), (.int (F2 x3 x4)), (.int (F1 x3 x4))])) rfl (by rw [hml]; rfl) (argsL := [(.int (F1 x3 x4)), (.int (F2 x3 x4)), (.int ((F1 x3 x4) + x5))]) (rest := []) (lenOf pd__III_Z rfl) rfl (by show 2 * 0 + _ ≤ _; exact Nat.le_of_eq rfl) (hb hby at_125)
    obtain ⟨rfl, N296q, e296⟩ := hQ296
    have N296 := Fr.app N295 N296q
    refine ownGo.st st296 ?_
    show ownGo p.tables e below T296 (mkF m 128 #[.val (.int x0), .val (.int x1), .val (.int x2), .val (.int x3), .val (.int x4), .val (.int x5), .val (.int (F1 x0 x1)), .val (.int (F2 x0 x1)), .val (.int (F1 x3 x4)), .val (.int (F2 x3 x4)), .val (.int ((F1 x0 x1) + x2)), .val (.int ((F1 x3 x4) + x5)), .val (.ref a1), .val (.ref a2), .val (.ref a3), .val (.ref o), .unset] [(.int (F7 (F1 x3 x4) (F2 x3 x4) ((F1 x3 x4) + x5)))]) _
    by_cases hh1 : (F7 (F1 x3 x4) (F2 x3 x4) ((F1 x3 x4) + x5)) = (0 : Int32)
    · refine ownGo.st (fun _ k => XS.ifYes X296.here hx rfl (pc0 := 128) (pc' := 135) rfl (hb hby at_128) rfl ((if0 _ _).trans (teq hh1).1) (by decide) (by decide) k) ?_
      show ownGo p.tables e below T296 (mkF m 135 #[.val (.int x0), .val (.int x1), .val (.int x2), .val (.int x3), .val (.int x4), .val (.int x5), .val (.int (F1 x0 x1)), .val (.int (F2 x0 x1)), .val (.int (F1 x3 x4)), .val (.int (F2 x3 x4)), .val (.int ((F1 x0 x1) + x2)), .val (.int ((F1 x3 x4) + x5)), .val (.ref a1), .val (.ref a2), .val (.ref a3), .val (.ref o), .unset] []) _
      refine ownGo.st (fun _ k => XS.iconst X296.here hx rfl (hb hby at_135)  k) ?_
      show ownGo p.tables e below T296 (mkF m 136 #[.val (.int x0), .val (.int x1), .val (.int x2), .val (.int x3), .val (.int x4), .val (.int x5), .val (.int (F1 x0 x1)), .val (.int (F2 x0 x1)), .val (.int (F1 x3 x4)), .val (.int (F2 x3 x4)), .val (.int ((F1 x0 x1) + x2)), .val (.int ((F1 x3 x4) + x5)), .val (.ref a1), .val (.ref a2), .val (.ref a3), .val (.ref o), .unset] [(.int (0 : Int32))]) _
      exact t0_136 hx hZ hw hby hml hown hret hlk (by decide) (by decide) X296 e296 N296 a3 o _ _ _ _ _ _ _ _ _ _ _ _ _ _ _ _ (0 : Int32) (own_two ((F1 x0 x1) + x2) ((F1 x3 x4) + x5)) (own_two (F1 x0 x1) (F1 x3 x4)) (own_twoN k0 k1) Y294 V3_294 ((hfit.trans (if_neg hh0)).trans hh1)
    · refine ownGo.st (fun _ k => XS.ifNo X296.here hx rfl (hb hby at_128) rfl ((if0 _ _).trans (feq hh1).1) k) ?_
      show ownGo p.tables e below T296 (mkF m 131 #[.val (.int x0), .val (.int x1), .val (.int x2), .val (.int x3), .val (.int x4), .val (.int x5), .val (.int (F1 x0 x1)), .val (.int (F2 x0 x1)), .val (.int (F1 x3 x4)), .val (.int (F2 x3 x4)), .val (.int ((F1 x0 x1) + x2)), .val (.int ((F1 x3 x4) + x5)), .val (.ref a1), .val (.ref a2), .val (.ref a3), .val (.ref o), .unset] []) _
      refine ownGo.st (fun _ k => XS.iconst X296.here hx rfl (hb hby at_131)  k) ?_
      show ownGo p.tables e below T296 (mkF m 132 #[.val (.int x0), .val (.int x1), .val (.int x2), .val (.int x3), .val (.int x4), .val (.int x5), .val (.int (F1 x0 x1)), .val (.int (F2 x0 x1)), .val (.int (F1 x3 x4)), .val (.int (F2 x3 x4)), .val (.int ((F1 x0 x1) + x2)), .val (.int ((F1 x3 x4) + x5)), .val (.ref a1), .val (.ref a2), .val (.ref a3), .val (.ref o), .unset] [(.int (1 : Int32))]) _
      refine ownGo.st (fun _ k => XS.goto X296.here hx rfl (pc0 := 132) (pc' := 136) rfl (hb hby at_132) (by decide) (by decide) k) ?_
      show ownGo p.tables e below T296 (mkF m 136 #[.val (.int x0), .val (.int x1), .val (.int x2), .val (.int x3), .val (.int x4), .val (.int x5), .val (.int (F1 x0 x1)), .val (.int (F2 x0 x1)), .val (.int (F1 x3 x4)), .val (.int (F2 x3 x4)), .val (.int ((F1 x0 x1) + x2)), .val (.int ((F1 x3 x4) + x5)), .val (.ref a1), .val (.ref a2), .val (.ref a3), .val (.ref o), .unset] [(.int (1 : Int32))]) _
      exact t0_136 hx hZ hw hby hml hown hret hlk (by decide) (by decide) X296 e296 N296 a3 o _ _ _ _ _ _ _ _ _ _ _ _ _ _ _ _ (1 : Int32) (own_two ((F1 x0 x1) + x2) ((F1 x3 x4) + x5)) (own_two (F1 x0 x1) (F1 x3 x4)) (own_twoN k0 k1) Y294 V3_294 ((hfit.trans (if_neg hh0)).trans ((own_hold01 _ _ _).resolve_left hh1))
set_option maxRecDepth 65536 in
set_option maxHeartbeats 40000000 in
theorem comes_1 {Post : Tables → Env → Array Value → State → Outcome → State → Prop} (hpost : ∀ tb e args s v u, (limb_1_1.after args s (.returned v) u = true ∧ limb_1_2.after args s (.returned v) u = true ∧ True) → FrameEnd s (.returned v) u (Jvm.fieldLocs frame_1_writes args s ++ Jvm.arrayLocs frame_1_arrays args s ++ Jvm.staticLocs frame_1_statics s) 24 128 → Post tb e args s (.returned v) u) :
    ArmFor flags0 classFile x code maxLocals ret World_1 tables_1 room_1 Calls_1 rest_1 Pre_1 Post := by
  intro l hfl _ _ p e ha hc hk s m args below hf hA hF happ hP
  obtain ⟨hcalls, hrest, hpre⟩ := hP
  obtain ⟨-, -, -, hnamed, -, -, -, hat⟩ := (Spec.applies_iff hf).mp happ
  obtain ⟨hg, hn⟩ := and_e (Cond.before_iff.mp (show (Jvm.Cond.and given_1 narrow_1).before args s = true from hpre))
  obtain ⟨hcount, g1⟩ := and_e hg
  obtain ⟨hv0, g3⟩ := and_e g1
  obtain ⟨hv1, g5⟩ := and_e g3
  obtain ⟨hv2, g7⟩ := and_e g5
  obtain ⟨hv3, g9⟩ := and_e g7
  obtain ⟨hv4, hv5⟩ := and_e g9
  obtain ⟨w0, w1, w2, w3, w4, w5, rfl⟩ : ∃ w0 w1 w2 w3 w4 w5 : Value, args = #[w0, w1, w2, w3, w4, w5] := by
    have hs : args.size = 6 := by simpa [Cond.value, given_1] using hcount
    obtain ⟨L⟩ := args
    match L, hs with
    | [w0, w1, w2, w3, w4, w5], _ => exact ⟨w0, w1, w2, w3, w4, w5, rfl⟩
  have hw := fun d (hd : d ∈ tables_1) => atoms_spec (ws := Jvm.Cond.code x code maxLocals ret :: tables_1) hat d (List.mem_cons_of_mem _ hd)
  obtain ⟨i0, ei0⟩ := is_v hv0
  obtain rfl : w0 = (.int i0) := Option.some.inj ei0
  obtain ⟨i1, ei1⟩ := is_v hv1
  obtain rfl : w1 = (.int i1) := Option.some.inj ei1
  obtain ⟨i2, ei2⟩ := is_v hv2
  obtain rfl : w2 = (.int i2) := Option.some.inj ei2
  obtain ⟨i3, ei3⟩ := is_v hv3
  obtain rfl : w3 = (.int i3) := Option.some.inj ei3
  obtain ⟨i4, ei4⟩ := is_v hv4
  obtain rfl : w4 = (.int i4) := Option.some.inj ei4
  obtain ⟨i5, ei5⟩ := is_v hv5
  obtain rfl : w5 = (.int i5) := Option.some.inj ei5
  obtain ⟨n, o, h1, h2, h3, _, L, rfl, ⟨rfl, N⟩, hq⟩ := rm0 l s _ hw i0 i1 i2 i3 i4 i5 s.heap s.heap.size (Nat.le_refl _) p e ha hc hk s m _ below hf ((Spec.applies_iff_loose hf).mp happ).1 ⟨rfl, State.Warmed39.refl s, rfl⟩ trivial
  refine ⟨n, _, h1, h2, h3, hpost _ _ _ _ _ _ ⟨Cond.after_iff.mpr rfl, Cond.after_iff.mpr (eq_i res_at (Term.int_eval (1)) rfl), trivial⟩ ⟨hq.1, hq.2.1, (hq.2.2.sift fun y hy => Or.inr (N y hy)).mono (by decide) (by decide)⟩⟩
theorem main_1_1 : Claimed_1_1 := comes_1 fun _ _ _ _ _ _ h hF => ⟨h.1, hF⟩
theorem main_1_2 : Claimed_1_2 := comes_1 fun _ _ _ _ _ _ h hF => ⟨h.2.1, hF⟩
end Jvm.Pilot.@@N@@
namespace Jvm.Pilot.@@N@@
open Jvm Jvm.ClassFile Sem Op Lib Jvm.Free Jvm.Stand Jvm.Pilot.@@N@@.Jvm.D
/-! MADE BY PROGRAM (witnessworld.py) out of the Statement's table words and the real class files: 18 classes; the members and pool entries that the words name. The judged class is class 1, her method 3. -/
namespace start1
open Jvm.ClassFile
def u (s : String) : CpInfo := .utf8 (stringToUtf16 s)
/-- a pool by its gaps: so many unusable entries, then the entry; so many at the end -/
def gap : Nat → List CpInfo → List CpInfo
  | 0, r => r
  | n + 1, r => .unusable :: gap n r
def poolList (es : List (Nat × CpInfo)) (last : Nat) : List CpInfo := es.foldr (fun e r => gap e.1 (e.2 :: r)) (gap last [])
def pool (es : List (Nat × CpInfo)) (last : Nat) : Array CpInfo := ⟨poolList es last⟩
def fileOf (pool : Array CpInfo) (this : Nat) (attrs : Array Attribute := #[]) (ms : Array MethodInfo := #[]) (fl : Nat := 33) (sup : Nat := 0) (ifs : Array Nat := #[]) (fds : Array FieldInfo := #[]) : ClassFile where
  minorVersion := 0
  majorVersion := 65
  constantPool := pool
  accessFlags := fl
  thisClass := this
  superClass := sup
  interfaces := ifs
  fields := fds
  methods := ms
  attributes := attrs
def plain (name : String) (sup : Option ClassId) : Class where
  name := name
  kind := .ordinary
  loader := none
  accessFlags := 33
  super := sup
  interfaces := #[]
  cf := none
  fields := #[]
  methods := #[]
  instanceTypes := #[]
  staticTypes := #[]
  resolved := #[]
  callSites := []
  init := .initialized
  statics := none
  mirror := none

def pool0 : Array CpInfo := pool [(5, u "<init>"), (0, u "()V"), (1, .class_ 10), (1, u "java/lang/Object"), (85, u "clone"), (0, u "()Ljava/lang/Object;")] 26

def k0c0 : Code := { maxStack := 0, maxLocals := 1, code := object_method_1_code, exceptionTable := #[], attributes := #[] }
def k0m0 : Method := { name := "<init>", desc := "()V", sig := { parameters := [], returnType := none }, accessFlags := 1, code := some k0c0 }
def k0m1 : Method := { name := "clone", desc := "()Ljava/lang/Object;", sig := { parameters := [], returnType := some (.object "java/lang/Object") }, accessFlags := 260, code := none }
/-- java/lang/Object -/
def k0 : Class := { plain "java/lang/Object" none with
  accessFlags := 33
  interfaces := #[]
  cf := some (fileOf pool0 8 #[] #[{ accessFlags := 1, nameIndex := 5, descriptorIndex := 6, attributes := #[] }, { accessFlags := 260, nameIndex := 96, descriptorIndex := 97, attributes := #[] }] 33 0 #[] #[])
  fields := #[]
  methods := #[k0m0, k0m1]
  instanceTypes := #[]
  staticTypes := #[]
  resolved := Array.replicate 124 none
  statics := none }

def pool1 : Array CpInfo := pool [(2, .class_ 4), (1, u "java/lang/Object"), (0, u "<init>"), (0, u "()V"), (0, .methodref 8 9), (0, .class_ 10), (0, .nameAndType 11 12), (0, u "com/example/ningbo/ningbo/engine/StateLayoutFitsPinLaw"), (0, u "smear"), (0, u "(J)J"), (0, .methodref 14 15), (0, .class_ 16), (0, .nameAndType 17 18), (0, u "java/lang/Math"), (0, u "min"), (0, u "(II)I"), (0, .methodref 14 20), (0, .nameAndType 21 18), (0, u "max"), (0, .class_ 23), (0, u "com/example/ningbo/ningbo/engine/StateLayout"), (0, .methodref 22 25), (0, .nameAndType 5 26), (0, u "([I[I)V"), (0, .methodref 8 28), (0, .nameAndType 29 30), (0, u "holds"), (0, u "(III)Z"), (0, .methodref 22 32), (0, .nameAndType 33 34), (0, u "fits"), (0, u "([I)Z"), (3, u "law"), (0, u "(IIIIII)Z")] 4

def k1m0 : Method := { name := "<init>", desc := "()V", sig := { parameters := [], returnType := none }, accessFlags := 2, code := none }
def k1c1 : Code := { maxStack := 5, maxLocals := 4, code := method_2_code, exceptionTable := #[], attributes := #[] }
def k1m1 : Method := { name := "smear", desc := "(J)J", sig := { parameters := [.long], returnType := some .long }, accessFlags := 10, code := some k1c1 }
def k1c2 : Code := { maxStack := 4, maxLocals := 7, code := method_3_code, exceptionTable := #[], attributes := #[] }
def k1m2 : Method := { name := "holds", desc := "(III)Z", sig := { parameters := [.int, .int, .int], returnType := some .boolean }, accessFlags := 10, code := some k1c2 }
def k1c3 : Code := { maxStack := 4, maxLocals := 17, code := code, exceptionTable := #[], attributes := #[] }
def k1m3 : Method := { name := "law", desc := "(IIIIII)Z", sig := { parameters := [.int, .int, .int, .int, .int, .int], returnType := some .boolean }, accessFlags := 9, code := some k1c3 }
/-- com/example/ningbo/ningbo/engine/StateLayoutFitsPinLaw -/
def k1 : Class := { plain "com/example/ningbo/ningbo/engine/StateLayoutFitsPinLaw" (some 0) with
  accessFlags := 49
  interfaces := #[]
  cf := some (fileOf pool1 8 #[] #[{ accessFlags := 2, nameIndex := 5, descriptorIndex := 6, attributes := #[] }, { accessFlags := 10, nameIndex := 11, descriptorIndex := 12, attributes := #[] }, { accessFlags := 10, nameIndex := 29, descriptorIndex := 30, attributes := #[] }, { accessFlags := 9, nameIndex := 38, descriptorIndex := 39, attributes := #[] }] 49 2 #[] #[])
  fields := #[]
  methods := #[k1m0, k1m1, k1m2, k1m3]
  instanceTypes := #[]
  staticTypes := #[]
  resolved := Array.replicate 44 none
  statics := none }

def pool2 : Array CpInfo := pool [(1, .class_ 2), (0, u "java/lang/Math"), (1, .class_ 6), (1, u "java/lang/Object"), (0, u "<init>"), (0, u "()V"), (89, .class_ 100), (1, u "java/lang/Math$RandomNumberGeneratorHolder"), (71, u "negativeZeroFloatBits"), (0, u "J"), (2, u "negativeZeroDoubleBits"), (21, u "max"), (2, u "min"), (43, u "$assertionsDisabled"), (0, u "Z"), (88, u "(II)I"), (2, u "twoToTheDoubleScaleDown"), (0, u "D"), (4, u "twoToTheDoubleScaleUp"), (9, u "E"), (3, u "PI"), (2, u "TAU"), (2, u "DEGREES_TO_RADIANS"), (0, u "RADIANS_TO_DEGREES")] 94

def k2m0 : Method := { name := "<init>", desc := "()V", sig := { parameters := [], returnType := none }, accessFlags := 2, code := none }
def k2c1 : Code := { maxStack := 2, maxLocals := 2, code := jdk_29_method_65_code, exceptionTable := #[], attributes := #[] }
def k2m1 : Method := { name := "max", desc := "(II)I", sig := { parameters := [.int, .int], returnType := some .int }, accessFlags := 9, code := some k2c1 }
def k2c2 : Code := { maxStack := 2, maxLocals := 2, code := jdk_29_method_69_code, exceptionTable := #[], attributes := #[] }
def k2m2 : Method := { name := "min", desc := "(II)I", sig := { parameters := [.int, .int], returnType := some .int }, accessFlags := 9, code := some k2c2 }
/-- java/lang/Math -/
def k2 : Class := { plain "java/lang/Math" (some 0) with
  accessFlags := 49
  interfaces := #[]
  cf := some (fileOf pool2 1 #[.nestMembers #[98]] #[{ accessFlags := 2, nameIndex := 7, descriptorIndex := 8, attributes := #[] }, { accessFlags := 9, nameIndex := 198, descriptorIndex := 335, attributes := #[] }, { accessFlags := 9, nameIndex := 201, descriptorIndex := 335, attributes := #[] }] 49 4 #[] #[{ accessFlags := 25, nameIndex := 354, descriptorIndex := 339, attributes := #[] }, { accessFlags := 25, nameIndex := 358, descriptorIndex := 339, attributes := #[] }, { accessFlags := 25, nameIndex := 361, descriptorIndex := 339, attributes := #[] }, { accessFlags := 26, nameIndex := 364, descriptorIndex := 339, attributes := #[] }, { accessFlags := 26, nameIndex := 365, descriptorIndex := 339, attributes := #[] }, { accessFlags := 26, nameIndex := 172, descriptorIndex := 173, attributes := #[] }, { accessFlags := 26, nameIndex := 176, descriptorIndex := 173, attributes := #[] }, { accessFlags := 8, nameIndex := 344, descriptorIndex := 339, attributes := #[] }, { accessFlags := 8, nameIndex := 338, descriptorIndex := 339, attributes := #[] }, { accessFlags := 4120, nameIndex := 245, descriptorIndex := 246, attributes := #[] }])
  fields := #[{ name := "E", type := .double, accessFlags := 25, slot := 0, constantValue := 0 }, { name := "PI", type := .double, accessFlags := 25, slot := 1, constantValue := 0 }, { name := "TAU", type := .double, accessFlags := 25, slot := 2, constantValue := 0 }, { name := "DEGREES_TO_RADIANS", type := .double, accessFlags := 26, slot := 3, constantValue := 0 }, { name := "RADIANS_TO_DEGREES", type := .double, accessFlags := 26, slot := 4, constantValue := 0 }, { name := "negativeZeroFloatBits", type := .long, accessFlags := 26, slot := 5, constantValue := 0 }, { name := "negativeZeroDoubleBits", type := .long, accessFlags := 26, slot := 6, constantValue := 0 }, { name := "twoToTheDoubleScaleUp", type := .double, accessFlags := 8, slot := 7, constantValue := 0 }, { name := "twoToTheDoubleScaleDown", type := .double, accessFlags := 8, slot := 8, constantValue := 0 }, { name := "$assertionsDisabled", type := .boolean, accessFlags := 4120, slot := 9, constantValue := 0 }]
  methods := #[k2m0, k2m1, k2m2]
  instanceTypes := #[]
  staticTypes := #[.double, .double, .double, .double, .double, .long, .long, .double, .double, .boolean]
  resolved := Array.replicate 460 none
  statics := none }

def pool3 : Array CpInfo := pool [(1, .methodref 2 3), (0, .class_ 4), (0, .nameAndType 5 6), (0, u "java/lang/Object"), (0, u "<init>"), (0, u "()V"), (0, .fieldref 8 9), (0, .class_ 10), (0, .nameAndType 11 12), (0, u "com/example/ningbo/ningbo/engine/StateLayout"), (0, u "width"), (0, u "I"), (0, .methodref 14 15), (0, .class_ 16), (0, .nameAndType 17 18), (0, u "[I"), (0, u "clone"), (0, u "()Ljava/lang/Object;"), (0, .fieldref 8 20), (0, .nameAndType 21 16), (0, u "lowerBounds"), (0, .fieldref 8 23), (0, .nameAndType 24 16), (0, u "wordOf"), (0, .fieldref 8 26), (0, .nameAndType 27 16), (0, u "shiftOf"), (0, .fieldref 8 29), (0, .nameAndType 30 31), (0, u "maskOf"), (0, u "[J"), (0, .methodref 33 34), (0, .class_ 35), (0, .nameAndType 36 37), (0, u "java/lang/Long"), (0, u "numberOfLeadingZeros"), (0, u "(J)I"), (0, .long 18446744073709551615), (1, .fieldref 8 41), (0, .nameAndType 42 12), (0, u "bits"), (0, .methodref 44 45), (0, .class_ 46), (0, .nameAndType 47 48), (0, u "java/lang/Math"), (0, u "max"), (0, u "(II)I"), (0, .fieldref 8 50), (0, .nameAndType 51 12), (0, u "words"), (20, u "([I[I)V"), (8, u "fits"), (0, u "([I)Z")] 8

def k3c0 : Code := { maxStack := 6, maxLocals := 8, code := prog_49_method_1_code, exceptionTable := #[], attributes := #[] }
def k3m0 : Method := { name := "<init>", desc := "([I[I)V", sig := { parameters := [(.array .int), (.array .int)], returnType := none }, accessFlags := 0, code := some k3c0 }
def k3c1 : Code := { maxStack := 4, maxLocals := 3, code := prog_49_method_6_code, exceptionTable := #[], attributes := #[] }
def k3m1 : Method := { name := "fits", desc := "([I)Z", sig := { parameters := [(.array .int)], returnType := some .boolean }, accessFlags := 0, code := some k3c1 }
/-- com/example/ningbo/ningbo/engine/StateLayout -/
def k3 : Class := { plain "com/example/ningbo/ningbo/engine/StateLayout" (some 0) with
  accessFlags := 32
  interfaces := #[]
  cf := some (fileOf pool3 8 #[] #[{ accessFlags := 0, nameIndex := 5, descriptorIndex := 72, attributes := #[] }, { accessFlags := 0, nameIndex := 81, descriptorIndex := 82, attributes := #[] }] 32 2 #[] #[{ accessFlags := 18, nameIndex := 11, descriptorIndex := 12, attributes := #[] }, { accessFlags := 18, nameIndex := 21, descriptorIndex := 16, attributes := #[] }, { accessFlags := 18, nameIndex := 24, descriptorIndex := 16, attributes := #[] }, { accessFlags := 18, nameIndex := 27, descriptorIndex := 16, attributes := #[] }, { accessFlags := 18, nameIndex := 30, descriptorIndex := 31, attributes := #[] }, { accessFlags := 18, nameIndex := 42, descriptorIndex := 12, attributes := #[] }, { accessFlags := 18, nameIndex := 51, descriptorIndex := 12, attributes := #[] }])
  fields := #[{ name := "width", type := .int, accessFlags := 18, slot := 0, constantValue := 0 }, { name := "lowerBounds", type := (.array .int), accessFlags := 18, slot := 1, constantValue := 0 }, { name := "wordOf", type := (.array .int), accessFlags := 18, slot := 2, constantValue := 0 }, { name := "shiftOf", type := (.array .int), accessFlags := 18, slot := 3, constantValue := 0 }, { name := "maskOf", type := (.array .long), accessFlags := 18, slot := 4, constantValue := 0 }, { name := "bits", type := .int, accessFlags := 18, slot := 5, constantValue := 0 }, { name := "words", type := .int, accessFlags := 18, slot := 6, constantValue := 0 }]
  methods := #[k3m0, k3m1]
  instanceTypes := #[.int, (.array .int), (.array .int), (.array .int), (.array .long), .int, .int]
  staticTypes := #[]
  resolved := Array.replicate 91 none
  statics := none }

def pool4 : Array CpInfo := pool [(1, .class_ 2), (0, u "java/lang/Cloneable"), (0, .class_ 4), (0, u "java/lang/Object")] 2

/-- java/lang/Cloneable -/
def k4 : Class := { plain "java/lang/Cloneable" (some 0) with
  accessFlags := 1537
  interfaces := #[]
  cf := some (fileOf pool4 1 #[] #[] 1537 3 #[] #[])
  fields := #[]
  methods := #[]
  instanceTypes := #[]
  staticTypes := #[]
  resolved := Array.replicate 7 none
  statics := none }

def pool5 : Array CpInfo := pool [(1, .class_ 2), (0, u "java/io/Serializable"), (0, .class_ 4), (0, u "java/lang/Object")] 2

/-- java/io/Serializable -/
def k5 : Class := { plain "java/io/Serializable" (some 0) with
  accessFlags := 1537
  interfaces := #[]
  cf := some (fileOf pool5 1 #[] #[] 1537 3 #[] #[])
  fields := #[]
  methods := #[]
  instanceTypes := #[]
  staticTypes := #[]
  resolved := Array.replicate 7 none
  statics := none }

def pool6 : Array CpInfo := pool [(2, .class_ 4), (1, u "java/lang/Object"), (0, u "<init>"), (0, u "()V"), (1, .class_ 10), (1, u "java/lang/Number"), (2, .class_ 14), (0, u "java/io/Serializable"), (0, u "serialVersionUID"), (0, u "J")] 20

def k6m0 : Method := { name := "<init>", desc := "()V", sig := { parameters := [], returnType := none }, accessFlags := 1, code := none }
/-- java/lang/Number -/
def k6 : Class := { plain "java/lang/Number" (some 0) with
  accessFlags := 1057
  interfaces := #[5]
  cf := some (fileOf pool6 8 #[] #[{ accessFlags := 1, nameIndex := 5, descriptorIndex := 6, attributes := #[] }] 1057 2 #[13] #[{ accessFlags := 26, nameIndex := 15, descriptorIndex := 16, attributes := #[] }])
  fields := #[{ name := "serialVersionUID", type := .long, accessFlags := 26, slot := 0, constantValue := 0 }]
  methods := #[k6m0]
  instanceTypes := #[]
  staticTypes := #[.long]
  resolved := Array.replicate 37 none
  statics := none }

def pool7 : Array CpInfo := pool [(1, .class_ 2), (0, u "java/lang/Comparable"), (0, .class_ 4), (0, u "java/lang/Object")] 7

/-- java/lang/Comparable -/
def k7 : Class := { plain "java/lang/Comparable" (some 0) with
  accessFlags := 1537
  interfaces := #[]
  cf := some (fileOf pool7 1 #[] #[] 1537 3 #[] #[])
  fields := #[]
  methods := #[]
  instanceTypes := #[]
  staticTypes := #[]
  resolved := Array.replicate 12 none
  statics := none }

def pool8 : Array CpInfo := pool [(1, .class_ 2), (0, u "java/lang/constant/Constable"), (0, .class_ 4), (0, u "java/lang/Object")] 6

/-- java/lang/constant/Constable -/
def k8 : Class := { plain "java/lang/constant/Constable" (some 0) with
  accessFlags := 1537
  interfaces := #[]
  cf := some (fileOf pool8 1 #[] #[] 1537 3 #[] #[])
  fields := #[]
  methods := #[]
  instanceTypes := #[]
  staticTypes := #[]
  resolved := Array.replicate 11 none
  statics := none }

def pool9 : Array CpInfo := pool [(1, .class_ 2), (0, u "java/lang/constant/ConstantDesc"), (0, .class_ 4), (0, u "java/lang/Object")] 32

/-- java/lang/constant/ConstantDesc -/
def k9 : Class := { plain "java/lang/constant/ConstantDesc" (some 0) with
  accessFlags := 1537
  interfaces := #[]
  cf := some (fileOf pool9 1 #[] #[] 1537 3 #[] #[])
  fields := #[]
  methods := #[]
  instanceTypes := #[]
  staticTypes := #[]
  resolved := Array.replicate 37 none
  statics := none }

def pool10 : Array CpInfo := pool [(1, .class_ 2), (0, u "java/lang/Long"), (15, .class_ 20), (1, u "java/lang/Integer"), (79, u "numberOfLeadingZeros"), (0, u "(J)I"), (133, .class_ 237), (1, u "java/lang/Long$LongCache"), (33, .class_ 272), (0, u "java/lang/Number"), (2, u "value"), (0, u "J"), (31, .methodref 18 309), (0, .nameAndType 100 310), (0, u "(I)I"), (50, u "TYPE"), (0, u "Ljava/lang/Class;"), (0, .class_ 364), (0, u "java/lang/Comparable"), (0, .class_ 366), (0, u "java/lang/constant/Constable"), (0, .class_ 368), (0, u "java/lang/constant/ConstantDesc"), (0, u "MIN_VALUE"), (1, u "MAX_VALUE"), (4, u "SIZE"), (0, u "I"), (1, u "BYTES"), (1, u "serialVersionUID")] 142

def k10c0 : Code := { maxStack := 3, maxLocals := 3, code := jdk_35_method_48_code, exceptionTable := #[], attributes := #[] }
def k10m0 : Method := { name := "numberOfLeadingZeros", desc := "(J)I", sig := { parameters := [.long], returnType := some .int }, accessFlags := 9, code := some k10c0 }
/-- java/lang/Long -/
def k10 : Class := { plain "java/lang/Long" (some 6) with
  accessFlags := 49
  interfaces := #[7, 8, 9]
  cf := some (fileOf pool10 1 #[.nestMembers #[235]] #[{ accessFlags := 9, nameIndex := 100, descriptorIndex := 101, attributes := #[] }] 49 271 #[363, 365, 367] #[{ accessFlags := 25, nameIndex := 369, descriptorIndex := 276, attributes := #[] }, { accessFlags := 25, nameIndex := 371, descriptorIndex := 276, attributes := #[] }, { accessFlags := 25, nameIndex := 361, descriptorIndex := 362, attributes := #[] }, { accessFlags := 18, nameIndex := 275, descriptorIndex := 276, attributes := #[] }, { accessFlags := 25, nameIndex := 376, descriptorIndex := 377, attributes := #[] }, { accessFlags := 25, nameIndex := 379, descriptorIndex := 377, attributes := #[] }, { accessFlags := 26, nameIndex := 381, descriptorIndex := 276, attributes := #[] }])
  fields := #[{ name := "MIN_VALUE", type := .long, accessFlags := 25, slot := 0, constantValue := 0 }, { name := "MAX_VALUE", type := .long, accessFlags := 25, slot := 1, constantValue := 0 }, { name := "TYPE", type := (.object "java/lang/Class"), accessFlags := 25, slot := 2, constantValue := 0 }, { name := "value", type := .long, accessFlags := 18, slot := 0, constantValue := 0 }, { name := "SIZE", type := .int, accessFlags := 25, slot := 3, constantValue := 0 }, { name := "BYTES", type := .int, accessFlags := 25, slot := 4, constantValue := 0 }, { name := "serialVersionUID", type := .long, accessFlags := 26, slot := 5, constantValue := 0 }]
  methods := #[k10m0]
  instanceTypes := #[.long]
  staticTypes := #[.long, .long, (.object "java/lang/Class"), .int, .int, .long]
  resolved := Array.replicate 524 none
  statics := none }

def pool11 : Array CpInfo := pool [(1, .class_ 2), (0, u "java/lang/Integer"), (16, u "digits"), (0, u "[C"), (32, u "numberOfLeadingZeros"), (0, u "(I)I"), (30, u "DigitOnes"), (0, u "[B"), (2, u "DigitTens"), (99, .class_ 190), (0, u "java/lang/Integer$IntegerCache"), (3, u "I"), (8, .class_ 204), (0, u "java/lang/Number"), (2, u "value"), (56, .integer 65536), (37, u "TYPE"), (0, u "Ljava/lang/Class;"), (0, .class_ 305), (0, u "java/lang/Comparable"), (0, .class_ 307), (0, u "java/lang/constant/Constable"), (0, .class_ 309), (0, u "java/lang/constant/ConstantDesc"), (0, u "MIN_VALUE"), (1, u "MAX_VALUE"), (3, u "SIZE"), (1, u "BYTES"), (1, u "serialVersionUID"), (0, u "J")] 131

def k11c0 : Code := { maxStack := 3, maxLocals := 2, code := jdk_33_method_47_code, exceptionTable := #[], attributes := #[] }
def k11m0 : Method := { name := "numberOfLeadingZeros", desc := "(I)I", sig := { parameters := [.int], returnType := some .int }, accessFlags := 9, code := some k11c0 }
/-- java/lang/Integer -/
def k11 : Class := { plain "java/lang/Integer" (some 6) with
  accessFlags := 49
  interfaces := #[7, 8, 9]
  cf := some (fileOf pool11 1 #[.nestMembers #[189]] #[{ accessFlags := 9, nameIndex := 53, descriptorIndex := 54, attributes := #[] }] 49 203 #[304, 306, 308] #[{ accessFlags := 25, nameIndex := 310, descriptorIndex := 194, attributes := #[] }, { accessFlags := 25, nameIndex := 312, descriptorIndex := 194, attributes := #[] }, { accessFlags := 25, nameIndex := 302, descriptorIndex := 303, attributes := #[] }, { accessFlags := 24, nameIndex := 19, descriptorIndex := 20, attributes := #[] }, { accessFlags := 24, nameIndex := 89, descriptorIndex := 86, attributes := #[] }, { accessFlags := 24, nameIndex := 85, descriptorIndex := 86, attributes := #[] }, { accessFlags := 18, nameIndex := 207, descriptorIndex := 194, attributes := #[] }, { accessFlags := 25, nameIndex := 316, descriptorIndex := 194, attributes := #[] }, { accessFlags := 25, nameIndex := 318, descriptorIndex := 194, attributes := #[] }, { accessFlags := 26, nameIndex := 320, descriptorIndex := 321, attributes := #[] }])
  fields := #[{ name := "MIN_VALUE", type := .int, accessFlags := 25, slot := 0, constantValue := 0 }, { name := "MAX_VALUE", type := .int, accessFlags := 25, slot := 1, constantValue := 0 }, { name := "TYPE", type := (.object "java/lang/Class"), accessFlags := 25, slot := 2, constantValue := 0 }, { name := "digits", type := (.array .char), accessFlags := 24, slot := 3, constantValue := 0 }, { name := "DigitTens", type := (.array .byte), accessFlags := 24, slot := 4, constantValue := 0 }, { name := "DigitOnes", type := (.array .byte), accessFlags := 24, slot := 5, constantValue := 0 }, { name := "value", type := .int, accessFlags := 18, slot := 0, constantValue := 0 }, { name := "SIZE", type := .int, accessFlags := 25, slot := 6, constantValue := 0 }, { name := "BYTES", type := .int, accessFlags := 25, slot := 7, constantValue := 0 }, { name := "serialVersionUID", type := .long, accessFlags := 26, slot := 8, constantValue := 0 }]
  methods := #[k11m0]
  instanceTypes := #[.int]
  staticTypes := #[.int, .int, (.object "java/lang/Class"), (.array .char), (.array .byte), (.array .byte), .int, .int, .long]
  resolved := Array.replicate 453 none
  statics := none }

/-- the primitive byte -/
def k12 : Class := { plain "byte" none with kind := .primitive 'B', accessFlags := 0x411 }
/-- [B -/
def k13 : Class := { plain "[B" (some 0) with kind := .array 12 .byte, interfaces := #[4, 5], accessFlags := 1041 }

/-- the primitive int -/
def k14 : Class := { plain "int" none with kind := .primitive 'I', accessFlags := 0x411 }
/-- [I -/
def k15 : Class := { plain "[I" (some 0) with kind := .array 14 .int, interfaces := #[4, 5], accessFlags := 1041 }

/-- the primitive long -/
def k16 : Class := { plain "long" none with kind := .primitive 'J', accessFlags := 0x411 }
/-- [J -/
def k17 : Class := { plain "[J" (some 0) with kind := .array 16 .long, interfaces := #[4, 5], accessFlags := 1041 }

def heap : Heap := #[]
def classes : Array Class := #[k0, k1, k2, k3, k4, k5, k6, k7, k8, k9, k10, k11, k12, k13, k14, k15, k16, k17]
def interned : List (Array UInt16 × Addr) := []
def slotsUsed : Nat := 0
def theMethod : MethodId := ⟨1, 3⟩
def args0 : Array Value := #[.int 3, .int 5, .int 7, .int 9, .int 11, .int 13]
def aboutOver (below : List Frame) : State where
  vm := { classes := classes, interned := interned.toArray }
  heap := heap
  slotsUsed := slotsUsed
  threads := #[{ frames := .invoking theMethod args0 :: below }]
def below0 : List Frame := [.native { method := ⟨0, 0⟩, args := #[] }]
def about1 : State := aboutOver below0
def p0 : Program := .bare "" "" ""
def e0 : Env := launch0.env 0 0 0
theorem w_frames : about1.frames = Frame.invoking theMethod args0 :: below0 := rfl
set_option maxRecDepth 65536 in
theorem w_args : argsFit about1.vm theMethod args0 = true := by decide +kernel
set_option maxRecDepth 65536 in
theorem w_heap : heapFits about1 = true := by decide +kernel
set_option maxRecDepth 65536 in
theorem w_runnable : about1.curStatus? = some .runnable := by decide +kernel
set_option maxRecDepth 65536 in
theorem w_alone : about1.alone = true := by decide +kernel
set_option maxRecDepth 65536 in
theorem w_named : about1.methodNamed? x = some theMethod := by decide +kernel
set_option maxRecDepth 65536 in
theorem w_hears : about1.hears theMethod below0 = true := by decide +kernel
set_option maxRecDepth 65536 in
theorem w_ripe : about1.ripe theMethod args0 below0 = true := by decide +kernel
theorem w_running : about1.status = .running := rfl
set_option maxRecDepth 65536 in
theorem w_room : about1.hasRoom e0.platform room_1 = true :=
  launch0.hasRoom_least _ room_1 (by decide +kernel) (by decide +kernel) (by decide +kernel) (by decide +kernel) (by decide +kernel) (by decide +kernel)
theorem allAtoms_all (ts : List Jvm.Cond) (a : Array Jvm.Value) (st : Jvm.State) : (allAtoms ts).before a st = ts.all (fun c => c.before a st) := by
  induction ts with
  | nil => rfl
  | cons c t ih =>
    show (Jvm.Cond.and c (allAtoms t)).before a st = _
    rw [Jvm.Cond.before_and, ih, List.all_cons]
def words1 : List Jvm.Cond := Jvm.Cond.code x code maxLocals ret :: tables_1
/-- a 'code' word, met by the world's own term for the bytes: nothing is compared byte by byte -/
theorem code_word {y : MethodName} {bytes : ByteArray} {mx : Nat} {rt : Option FieldType} {a : Array Value} {s : State} {m : MethodId} {meth : Method} {c : Code} (h1 : s.methodNamed? y = some m) (h2 : s.vm.method? m = some meth) (h3 : meth.code = some c) (h4 : c.code = bytes)
    (h5 : (c.maxLocals == mx && c.exceptionTable.isEmpty && decide (c.maxStack ≤ mostOperands) && decide (meth.sig.returnType = rt) && !meth.locks && decide (parseMethodDescriptor y.desc = some meth.sig)) = true) : (Jvm.Cond.code y bytes mx rt).before a s = true := by
  simp only [Bool.and_eq_true, beq_iff_eq, Bool.not_eq_true', decide_eq_true_eq] at h5
  obtain ⟨⟨⟨⟨⟨g1, g2⟩, g3⟩, g4⟩, g5⟩, g6⟩ := h5
  simp [Cond.before, Cond.holds, Cond.value, h1, h2, h3, h4, g1, g2, g3, g4, g5, g6]
def isCode : Jvm.Cond → Bool
  | .code _ _ _ _ => true
  | _ => false
theorem all_split {L : List Jvm.Cond} {P : Jvm.Cond → Bool} (h1 : L.all (fun c => isCode c || P c) = true) (h2 : ∀ c ∈ L.filter isCode, P c = true) : L.all P = true := by
  refine List.all_eq_true.mpr fun c hc => ?_
  have h := List.all_eq_true.mp h1 c hc
  rcases Bool.eq_false_or_eq_true (isCode c) with hi | hi
  · exact h2 c (List.mem_filter.mpr ⟨hc, hi⟩)
  · simpa [hi] using h
set_option maxRecDepth 65536 in
theorem w_c0 : (Jvm.Cond.code x code maxLocals ret).before args0 about1 = true := code_word (m := ⟨1, 3⟩) (meth := k1m3) (c := k1c3) (by decide +kernel) rfl rfl rfl (by decide +kernel)
set_option maxRecDepth 65536 in
theorem w_c1 : (Jvm.Cond.code ({ cls := "java/lang/Math", name := "min", desc := "(II)I" } : Jvm.MethodName) jdk_29_method_69_code (2 : Nat) (Option.some Jvm.ClassFile.FieldType.int)).before args0 about1 = true := code_word (m := ⟨2, 2⟩) (meth := k2m2) (c := k2c2) (by decide +kernel) rfl rfl rfl (by decide +kernel)
set_option maxRecDepth 65536 in
theorem w_c2 : (Jvm.Cond.code ({ cls := "java/lang/Math", name := "max", desc := "(II)I" } : Jvm.MethodName) jdk_29_method_65_code (2 : Nat) (Option.some Jvm.ClassFile.FieldType.int)).before args0 about1 = true := code_word (m := ⟨2, 1⟩) (meth := k2m1) (c := k2c1) (by decide +kernel) rfl rfl rfl (by decide +kernel)
set_option maxRecDepth 65536 in
theorem w_c3 : (Jvm.Cond.code ({ cls := "com/example/ningbo/ningbo/engine/StateLayout", name := "<init>", desc := "([I[I)V" } : Jvm.MethodName) prog_49_method_1_code (8 : Nat) (Option.none : Option Jvm.ClassFile.FieldType)).before args0 about1 = true := code_word (m := ⟨3, 0⟩) (meth := k3m0) (c := k3c0) (by decide +kernel) rfl rfl rfl (by decide +kernel)
set_option maxRecDepth 65536 in
theorem w_c4 : (Jvm.Cond.code ({ cls := "java/lang/Object", name := "<init>", desc := "()V" } : Jvm.MethodName) object_method_1_code (1 : Nat) (Option.none : Option Jvm.ClassFile.FieldType)).before args0 about1 = true := code_word (m := ⟨0, 0⟩) (meth := k0m0) (c := k0c0) (by decide +kernel) rfl rfl rfl (by decide +kernel)
set_option maxRecDepth 65536 in
theorem w_c5 : (Jvm.Cond.code ({ cls := "java/lang/Long", name := "numberOfLeadingZeros", desc := "(J)I" } : Jvm.MethodName) jdk_35_method_48_code (3 : Nat) (Option.some Jvm.ClassFile.FieldType.int)).before args0 about1 = true := code_word (m := ⟨10, 0⟩) (meth := k10m0) (c := k10c0) (by decide +kernel) rfl rfl rfl (by decide +kernel)
set_option maxRecDepth 65536 in
theorem w_c6 : (Jvm.Cond.code ({ cls := "java/lang/Integer", name := "numberOfLeadingZeros", desc := "(I)I" } : Jvm.MethodName) jdk_33_method_47_code (2 : Nat) (Option.some Jvm.ClassFile.FieldType.int)).before args0 about1 = true := code_word (m := ⟨11, 0⟩) (meth := k11m0) (c := k11c0) (by decide +kernel) rfl rfl rfl (by decide +kernel)
set_option maxRecDepth 65536 in
theorem w_c7 : (Jvm.Cond.code ({ cls := "com/example/ningbo/ningbo/engine/StateLayoutFitsPinLaw", name := "holds", desc := "(III)Z" } : Jvm.MethodName) method_3_code (7 : Nat) (Option.some Jvm.ClassFile.FieldType.boolean)).before args0 about1 = true := code_word (m := ⟨1, 2⟩) (meth := k1m2) (c := k1c2) (by decide +kernel) rfl rfl rfl (by decide +kernel)
set_option maxRecDepth 65536 in
theorem w_c8 : (Jvm.Cond.code ({ cls := "com/example/ningbo/ningbo/engine/StateLayoutFitsPinLaw", name := "smear", desc := "(J)J" } : Jvm.MethodName) method_2_code (4 : Nat) (Option.some Jvm.ClassFile.FieldType.long)).before args0 about1 = true := code_word (m := ⟨1, 1⟩) (meth := k1m1) (c := k1c1) (by decide +kernel) rfl rfl rfl (by decide +kernel)
set_option maxRecDepth 65536 in
theorem w_c9 : (Jvm.Cond.code ({ cls := "com/example/ningbo/ningbo/engine/StateLayout", name := "fits", desc := "([I)Z" } : Jvm.MethodName) prog_49_method_6_code (3 : Nat) (Option.some Jvm.ClassFile.FieldType.boolean)).before args0 about1 = true := code_word (m := ⟨3, 1⟩) (meth := k3m1) (c := k3c1) (by decide +kernel) rfl rfl rfl (by decide +kernel)
def codes1 : List Jvm.Cond := [Jvm.Cond.code x code maxLocals ret, Jvm.Cond.code ({ cls := "java/lang/Math", name := "min", desc := "(II)I" } : Jvm.MethodName) jdk_29_method_69_code (2 : Nat) (Option.some Jvm.ClassFile.FieldType.int), Jvm.Cond.code ({ cls := "java/lang/Math", name := "max", desc := "(II)I" } : Jvm.MethodName) jdk_29_method_65_code (2 : Nat) (Option.some Jvm.ClassFile.FieldType.int), Jvm.Cond.code ({ cls := "com/example/ningbo/ningbo/engine/StateLayout", name := "<init>", desc := "([I[I)V" } : Jvm.MethodName) prog_49_method_1_code (8 : Nat) (Option.none : Option Jvm.ClassFile.FieldType), Jvm.Cond.code ({ cls := "java/lang/Object", name := "<init>", desc := "()V" } : Jvm.MethodName) object_method_1_code (1 : Nat) (Option.none : Option Jvm.ClassFile.FieldType), Jvm.Cond.code ({ cls := "java/lang/Long", name := "numberOfLeadingZeros", desc := "(J)I" } : Jvm.MethodName) jdk_35_method_48_code (3 : Nat) (Option.some Jvm.ClassFile.FieldType.int), Jvm.Cond.code ({ cls := "java/lang/Integer", name := "numberOfLeadingZeros", desc := "(I)I" } : Jvm.MethodName) jdk_33_method_47_code (2 : Nat) (Option.some Jvm.ClassFile.FieldType.int), Jvm.Cond.code ({ cls := "com/example/ningbo/ningbo/engine/StateLayoutFitsPinLaw", name := "holds", desc := "(III)Z" } : Jvm.MethodName) method_3_code (7 : Nat) (Option.some Jvm.ClassFile.FieldType.boolean), Jvm.Cond.code ({ cls := "com/example/ningbo/ningbo/engine/StateLayoutFitsPinLaw", name := "smear", desc := "(J)J" } : Jvm.MethodName) method_2_code (4 : Nat) (Option.some Jvm.ClassFile.FieldType.long), Jvm.Cond.code ({ cls := "com/example/ningbo/ningbo/engine/StateLayout", name := "fits", desc := "([I)Z" } : Jvm.MethodName) prog_49_method_6_code (3 : Nat) (Option.some Jvm.ClassFile.FieldType.boolean)]
set_option maxRecDepth 65536 in
theorem codes_eq : words1.filter isCode = codes1 := rfl
theorem w_codes : ∀ c ∈ words1.filter isCode, c.before args0 about1 = true := by
  rw [codes_eq]
  intro c hc
  simp only [codes1, List.mem_cons, List.not_mem_nil, or_false] at hc
  rcases hc with rfl | rfl | rfl | rfl | rfl | rfl | rfl | rfl | rfl | rfl
  · exact w_c0
  · exact w_c1
  · exact w_c2
  · exact w_c3
  · exact w_c4
  · exact w_c5
  · exact w_c6
  · exact w_c7
  · exact w_c8
  · exact w_c9
set_option maxRecDepth 65536 in
theorem w_t1 : (words1.take 24).all (fun c => isCode c || c.before args0 about1) = true := by decide +kernel
set_option maxRecDepth 65536 in
theorem w_t2 : ((words1.drop 24).take 24).all (fun c => isCode c || c.before args0 about1) = true := by decide +kernel
set_option maxRecDepth 65536 in
theorem w_t3 : ((words1.drop 24).drop 24).all (fun c => isCode c || c.before args0 about1) = true := by decide +kernel
theorem w_tables : (allAtoms (Jvm.Cond.code x code maxLocals ret :: tables_1)).before args0 about1 = true := by
  rw [allAtoms_all]
  show words1.all (fun c => c.before args0 about1) = true
  refine all_split ?_ w_codes
  rw [← List.take_append_drop 24 words1, List.all_append, w_t1, ← List.take_append_drop 24 (words1.drop 24), List.all_append, w_t2, w_t3]
  rfl
set_option maxRecDepth 65536 in
theorem w_case : (Jvm.Cond.and given_1 narrow_1).before args0 about1 = true := by decide +kernel
theorem w_applies : (headSpec (Jvm.Cond.code x code maxLocals ret :: tables_1) room_1).applies x e0.platform about1 = true :=
  (Spec.applies_iff w_frames).mpr ⟨w_running, w_runnable, w_alone, w_named, w_hears, w_ripe, w_room, w_tables⟩
theorem atStart : AtStart classFile x code maxLocals ret World_1 tables_1 room_1 Calls_1 rest_1 Pre_1 launch0 p0 e0 about1 theMethod args0 below0 :=
  ⟨lists_1, trivial, launch0.admits_env _ _ _, launch0.least_env, fairChoices_fair.cas, fairChoices_fair.clock, w_frames, w_args, w_heap, w_applies, trivial, trivial, w_case⟩
end start1
theorem witness_1 : WitnessClaimed_1 := ⟨start1.p0, start1.e0, start1.about1, start1.theMethod, start1.args0, start1.below0, start1.atStart⟩
end Jvm.Pilot.@@N@@
