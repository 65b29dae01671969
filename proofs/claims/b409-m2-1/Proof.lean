import JvmDerived
import JvmDerived.Pilot.@@N@@Statement
import JvmDerived.Pilot.@@N@@Code
set_option linter.unusedVariables false
set_option linter.unusedSimpArgs false
set_option maxHeartbeats 4000000
namespace Jvm.Pilot.@@N@@
open Jvm Jvm.ClassFile Sem Op Lib Jvm.Free Jvm.Stand Jvm.LawKit Jvm.RoadKit Bundle Jvm.Pilot.@@N@@.Jvm.D
/-! own kit: a walk read backwards: G T g says that from the state T with g on top the body comes to a good end -/
section OwnKit
variable {p : Program} {l : Launch} {e : Env} {R : Room} {s : State} {m : MethodId} {args : Array Value} {below : List Frame} {meth : Method} {c : Code} {T : State} {cells slots : Nat} {Z : State} {a0 : Array Value} {h : Heap} {n0 : Nat} {G : State → JFrame → Prop} {Q : Option Value → Heap → Prop}
def Clo (p : Program) (e : Env) (below : List Frame) (G : State → JFrame → Prop) : Prop := ∀ (T T' : State) (g g' : JFrame), (∀ t, Steps p.tables e below (T'.setTop g') t → Steps p.tables e below (T.setTop g) t) → G T' g' → G T g
theorem Clo.go (hs : Clo p e below G) {T T' : State} {g g' : JFrame} (st : ∀ t, Steps p.tables e below (T'.setTop g') t → Steps p.tables e below (T.setTop g) t) (k : G T' g') : G T g := hs T T' g g' st k
def Sd (p : Program) (l : Launch) (e : Env) (R : Room) (s : State) (m : MethodId) (args : Array Value) (below : List Frame) (meth : Method) (c : Code) (n0 : Nat) (T : State) (h : Heap) (cells slots : Nat) : Prop := ∃ locs, Stand p l e R s m args below meth c T locs cells slots ∧ Fr n0 locs ∧ T.heap = h
theorem Sd.here (X : Sd p l e R s m args below meth c n0 T h cells slots) : At T m c below := by obtain ⟨_, X, _⟩ := X; exact X.here
theorem Sd.more (X : Sd p l e R s m args below meth c n0 T h cells slots) {k n : Nat} (hk : cells ≤ k) (hn : slots ≤ n) : Sd p l e R s m args below meth c n0 T h k n := by obtain ⟨L, X, N⟩ := X; exact ⟨L, X.more hk hn, N⟩
/-- how a body ends -/
def Fnl (p : Program) (l : Launch) (e : Env) (R : Room) (s : State) (m : MethodId) (args : Array Value) (below : List Frame) (meth : Method) (c : Code) (n0 : Nat) (Q : Option Value → Heap → Prop) (G : State → JFrame → Prop) : Prop :=
  ∀ (T : State) (h : Heap) (k n : Nat) (g : JFrame) (v : Option Value), Sd p l e R s m args below meth c n0 T h k n → k ≤ R.cells → n ≤ R.slots → (meth.sig.returnType = none → v = none) →
    (∀ fs, (∀ (f : JFrame) (acts : List Action), f.method = m → f.locked = none → f.entered = [] → (doReturn e (T.setTop f) acts v).1 = T.setFrames fs) → Steps p.tables e below (T.setTop g) (T.setFrames fs)) → Q v h → G T g
/-- a body's contract -/
def Con (l : Launch) (Z : State) (y : MethodName) (bytes : ByteArray) (maxL : Nat) (ret : Option FieldType) (ws : List Jvm.Cond) (rm : Room) (as' : Array Value) (h : Heap) (n0 : Nat) (Q : Option Value → Heap → Prop) : Prop :=
  MetFree l y (head1 (Jvm.Cond.code y bytes maxL ret :: ws) rm) (fun a U => a = as' ∧ Z.Warmed39 U.vm ∧ U.heap = h) (fun _ _ _ _ _ => True)
    (fun _ U o U' => ∃ v L, o = .returned v ∧ (Q v U'.heap ∧ Fr n0 L) ∧ FrameEnd U o U' L rm.cells rm.slots)
theorem Con.of {y : MethodName} {bytes : ByteArray} {maxL : Nat} {ret : Option FieldType} {ws : List Jvm.Cond} {rm : Room} {as' : Array Value} (hp : plainFor y = true)
    (body : ∀ (G : State → JFrame → Prop) (p : Program) (e : Env) (s : State) (m : MethodId) (below : List Frame) (meth : Method) (c : Code) (s₁ : State),
      Clo p e below G → p.tables.exec = Jvm.exec → c.code = bytes → c.maxLocals = maxL → s.vm.findClass y.cls = some m.cls → meth.name = y.name → meth.sig.returnType = ret → Z.Warmed39 s.vm →
      Sd p l e rm s m as' below meth c n0 s₁ h 0 0 → Fnl p l e rm s m as' below meth c n0 Q G → G s₁ (entryFrame m as' maxL)) : Con l Z y bytes maxL ret ws rm as' h n0 Q := by
  refine MetFree.of_bodySF hp hisR ?_
  intro p e s m args below meth c s₁ Bd hml hP hK
  obtain ⟨ha, hZ, hh⟩ := hP
  subst ha
  refine body (fun T g => ∃ s₂ o, Steps p.tables e below (T.setTop g) s₂ ∧ s₂.status = .running ∧ Ended s₂ below o ∧ ∃ v L, o = .returned v ∧ (Q v s₂.heap ∧ Fr n0 L) ∧ FrameEnd s o s₂ L rm.cells rm.slots) p e s m below meth c s₁ ?_ Bd.exec Bd.bytes hml (findClass_of_methodNamed Bd.named) (name_of_methodNamed Bd.named Bd.method).1 Bd.returns hZ ⟨[], Stand.of_body Bd, Fr.nil n0, by rw [← hh, Bd.state]; rfl⟩ ?_
  · intro T T' g g' st ⟨s₂, o, h1, r⟩
    exact ⟨s₂, o, st _ h1, r⟩
  · intro T h k n g v ⟨locs, X, N, eh⟩ hk hn hv st q
    obtain ⟨fs, hr, hrun, hended, hW, hsame⟩ := X.leave (v := v) hv Bd.notSynchronized
    exact ⟨_, _, st fs hr, hrun, hended, v, locs, rfl, ⟨by show Q v T.heap; rw [eh]; exact q, N⟩, ⟨_, rfl⟩, hW, hsame.mono hk hn⟩
theorem rRetI (fin : Fnl p l e R s m args below meth c n0 Q G) (X : Sd p l e R s m args below meth c n0 T h cells slots) (hx : p.tables.exec = Jvm.exec) (hk : cells ≤ R.cells) (hn : slots ≤ R.slots) (hret : meth.sig.returnType = some .int) {pc : Nat} {Ls : Array Slot} {z : Int32} {rest : List Value} (hd : decode c.code pc = .ok (.ireturn, 1)) (q : Q (some (.int z)) h) : G T (mkF m pc Ls (.int z :: rest)) :=
  fin T h cells slots _ (some (.int z)) X hk hn (fun h => by rw [hret] at h; cases h) (fun fs hr => by obtain ⟨_, X, _⟩ := X; exact retOut X hx hret rfl (Or.inl ⟨rfl, Or.inl rfl, _, rfl⟩) hd hr) q
theorem rRetN (fin : Fnl p l e R s m args below meth c n0 Q G) (X : Sd p l e R s m args below meth c n0 T h cells slots) (hx : p.tables.exec = Jvm.exec) (hk : cells ≤ R.cells) (hn : slots ≤ R.slots) {t : FieldType} (hret : meth.sig.returnType = some t) (ht : t = .boolean ∨ t = .byte ∨ t = .char ∨ t = .short) {pc : Nat} {Ls : Array Slot} {z z' : Int32} {rest : List Value} (hd : decode c.code pc = .ok (.ireturn, 1)) (hz : nar t z = z') (q : Q (some (.int z')) h) : G T (mkF m pc Ls (.int z :: rest)) :=
  fin T h cells slots _ (some (.int (nar t z))) X hk hn (fun h => by rw [hret] at h; cases h) (fun fs hr => by obtain ⟨_, X, _⟩ := X; exact retN X hx hret ht hd hr) (hz ▸ q)
theorem rRetL (fin : Fnl p l e R s m args below meth c n0 Q G) (X : Sd p l e R s m args below meth c n0 T h cells slots) (hx : p.tables.exec = Jvm.exec) (hk : cells ≤ R.cells) (hn : slots ≤ R.slots) (hret : meth.sig.returnType = some .long) {pc : Nat} {Ls : Array Slot} {z : Int64} {rest : List Value} (hd : decode c.code pc = .ok (.lreturn, 1)) (q : Q (some (.long z)) h) : G T (mkF m pc Ls (.long z :: rest)) :=
  fin T h cells slots _ (some (.long z)) X hk hn (fun h => by rw [hret] at h; cases h) (fun fs hr => by obtain ⟨_, X, _⟩ := X; exact retOut X hx hret rfl (Or.inr (Or.inl ⟨rfl, rfl, _, rfl⟩)) hd hr) q
theorem rRetA (fin : Fnl p l e R s m args below meth c n0 Q G) (X : Sd p l e R s m args below meth c n0 T h cells slots) (hx : p.tables.exec = Jvm.exec) (hk : cells ≤ R.cells) (hn : slots ≤ R.slots) {t : FieldType} (hret : meth.sig.returnType = some t) (ht : t.isReference = true) {pc : Nat} {Ls : Array Slot} {z : Value} (hz : z.isRef = true) (hw : narrow t z = z) {rest : List Value} (hd : decode c.code pc = .ok (.areturn, 1)) (q : Q (some z) h) : G T (mkF m pc Ls (z :: rest)) :=
  fin T h cells slots _ (some z) X hk hn (fun h => by rw [hret] at h; cases h) (fun fs hr => by obtain ⟨_, X, _⟩ := X; exact retOut X hx hret hw (Or.inr (Or.inr (Or.inr (Or.inr ⟨rfl, ht, hz⟩)))) hd hr) q
theorem rRetD (fin : Fnl p l e R s m args below meth c n0 Q G) (X : Sd p l e R s m args below meth c n0 T h cells slots) (hx : p.tables.exec = Jvm.exec) (hk : cells ≤ R.cells) (hn : slots ≤ R.slots) (hret : meth.sig.returnType = some .double) {pc : Nat} {Ls : Array Slot} {z : UInt64} {rest : List Value} (hd : decode c.code pc = .ok (.dreturn, 1)) (q : Q (some (.double z)) h) : G T (mkF m pc Ls (.double z :: rest)) :=
  fin T h cells slots _ (some (.double z)) X hk hn (fun h => by rw [hret] at h; cases h) (fun fs hr => by obtain ⟨_, X, _⟩ := X; exact retOut X hx hret rfl (Or.inr (Or.inr (Or.inl ⟨rfl, rfl, _, rfl⟩))) hd hr) q
theorem rRetV (fin : Fnl p l e R s m args below meth c n0 Q G) (X : Sd p l e R s m args below meth c n0 T h cells slots) (hx : p.tables.exec = Jvm.exec) (hk : cells ≤ R.cells) (hn : slots ≤ R.slots) (hret : meth.sig.returnType = none) {pc : Nat} {Ls : Array Slot} (hd : decode c.code pc = .ok (.return_, 1)) (q : Q none h) : G T (mkF m pc Ls []) :=
  fin T h cells slots _ none X hk hn (fun _ => rfl) (fun fs hr => by obtain ⟨_, X, _⟩ := X; exact X.returnOut hx hret hd hr) q
theorem rLdcI (hs : Clo p e below G) (X : Sd p l e R s m args below meth c n0 T h cells slots) (hx : p.tables.exec = Jvm.exec) (hZ : Z.Warmed39 s.vm) {own : String} {index : Nat} {v : Int32} (hown : s.vm.findClass own = some m.cls) (w : (Jvm.Cond.constant own index v).before a0 Z = true) {g : JFrame} (hg : g.method = m) (hd : decode c.code g.pc = .ok (.ldc index, 2)) (k : G T { g with pc := g.pc + 2, stack := .int v :: g.stack }) : G T g := by
  obtain ⟨_, X, _⟩ := X
  exact hs.go (X.ldcInt hx hown (mvT hZ w) hg hd) k
theorem rLdcL (hs : Clo p e below G) (X : Sd p l e R s m args below meth c n0 T h cells slots) (hx : p.tables.exec = Jvm.exec) (hZ : Z.Warmed39 s.vm) {own : String} {index : Nat} {v : Int64} (hown : s.vm.findClass own = some m.cls) (w : (Jvm.Cond.constantLong own index v).before a0 Z = true) {g : JFrame} (hg : g.method = m) (hd : decode c.code g.pc = .ok (.ldc2_w index, 3)) (k : G T { g with pc := g.pc + 3, stack := .long v :: g.stack }) : G T g := by
  obtain ⟨_, X, _⟩ := X
  exact hs.go (X.ldc2Long hx hown (mvT hZ w) hg hd) k
theorem rLdcD (hs : Clo p e below G) (X : Sd p l e R s m args below meth c n0 T h cells slots) (hx : p.tables.exec = Jvm.exec) (hZ : Z.Warmed39 s.vm) {own : String} {index : Nat} {v : UInt64} (hown : s.vm.findClass own = some m.cls) (w : (Jvm.Cond.constantDouble own index v).before a0 Z = true) {g : JFrame} (hg : g.method = m) (hd : decode c.code g.pc = .ok (.ldc2_w index, 3)) (k : G T { g with pc := g.pc + 3, stack := .double v :: g.stack }) : G T g := by
  obtain ⟨_, X, _⟩ := X
  exact hs.go (X.ldc2DoubleC hx hown (mvT hZ w) hg hd) k
theorem rIrem (hs : Clo p e below G) (X : Sd p l e R s m args below meth c n0 T h cells slots) (hx : p.tables.exec = Jvm.exec) {g : JFrame} (hg : g.method = m) {x y : Int32} {rest : List Value} (hd : decode c.code g.pc = .ok (.irem, 1)) (hst : g.stack = .int y :: .int x :: rest) (hy : y ≠ 0) (k : G T { g with pc := g.pc + 1, stack := .int (x % y) :: rest }) : G T g := by
  obtain ⟨_, X, _⟩ := X
  exact hs.go (fun _ q => iremM X hx hg hd hst hy q) k
theorem rLrem (hs : Clo p e below G) (X : Sd p l e R s m args below meth c n0 T h cells slots) (hx : p.tables.exec = Jvm.exec) {g : JFrame} (hg : g.method = m) {x y : Int64} {rest : List Value} (hd : decode c.code g.pc = .ok (.lrem, 1)) (hst : g.stack = .long y :: .long x :: rest) (hy : y ≠ 0) (k : G T { g with pc := g.pc + 1, stack := .long (x % y) :: rest }) : G T g :=
  hs.go (fun _ q => XS.lrem X.here hx hg hd hst hy q) (by rw [lrem_mod]; exact k)
/-! arrays -/
theorem rNewP (hs : Clo p e below G) (X : Sd p l e R s m args below meth c n0 T h cells slots) (hx : p.tables.exec = Jvm.exec) (hZ : Z.Warmed39 s.vm) {aty : ArrayType} (w : (Jvm.Cond.arrayClass (newarray.typeOf aty)).before a0 Z = true) {g : JFrame} (hg : g.method = m) (hd : decode c.code g.pc = .ok (.newarray aty, 2)) {n : Int32} {rest : List Value} (hst : g.stack = .int n :: rest)
    (hn : ¬ n < 0) (cap len : Nat) (hcap : n.toNatClampNeg ≤ cap) (hb : cap * 8 ≤ 536870912) (hc : cells + 1 ≤ R.cells) (hl : slots + cap ≤ R.slots)
    (k : ∀ (T' : State) (h' : Heap) (cA : ClassId) (b : Addr), b = h.size → Sd p l e R s m args below meth c n0 T' h' (cells + 1) (slots + cap) → Ext h h' → Arv Z h' b cA (newarray.typeOf aty) n (List.replicate len (defaultValue (newarray.typeOf aty))) (defaultValue (newarray.typeOf aty)) → G T' { g with pc := g.pc + 2, stack := .ref b :: rest }) : G T g := by
  obtain ⟨L, X, N, eh⟩ := X
  obtain ⟨T', h', cA, X', e', E, A, st⟩ := newP X hx hZ w eh hg hd hst hn hcap hb hc hl
  exact hs.go st (k T' h' cA h.size rfl ⟨L, X', N, e'⟩ E ((Arv.new A hn).pad (pad_rep [] _ len)))
theorem rStI (hs : Clo p e below G) (X : Sd p l e R s m args below meth c n0 T h cells slots) (hx : p.tables.exec = Jvm.exec) (hZ : Z.Warmed39 s.vm) {a : Addr} {kc : ClassId} {z : Int32} {vs : List Value} {dv : Value} (V : Arv Z h a kc .int z vs dv) (ga : n0 ≤ a) {j x : Int32} (hj : ¬ j < 0 ∧ j < z) (i : Nat) (hi : j.toNatClampNeg = i) (hl : i < vs.length)
    {g : JFrame} (hg : g.method = m) {rest : List Value} (hst : g.stack = .int x :: .int j :: .ref a :: rest) (hd : decode c.code g.pc = .ok (.iastore, 1))
    (k : ∀ (T' : State) (h' : Heap), Sd p l e R s m args below meth c n0 T' h' cells slots → Wr h h' a i (.int x) → Arv Z h' a kc .int z (vs.set i (.int x)) dv → G T' { g with pc := g.pc + 1, stack := rest }) : G T g := by
  obtain ⟨L, X, N, eh⟩ := X
  obtain ⟨cl, A, q1, S, q3, H, F⟩ := V
  obtain ⟨T', h', X', e', W, st⟩ := stI X hx hZ eh A (j := j) (inb_of S hj) hg hst hd
  exact hs.go st (k T' h' ⟨_, X', Fr.snoc X' N ga, e'⟩ (hi ▸ W) (Arv.set A q1 S q3 H F rfl W i hi hl))
theorem rStB (hs : Clo p e below G) (X : Sd p l e R s m args below meth c n0 T h cells slots) (hx : p.tables.exec = Jvm.exec) (hZ : Z.Warmed39 s.vm) {a : Addr} {kc : ClassId} {z : Int32} {vs : List Value} {dv : Value} (V : Arv Z h a kc .byte z vs dv) (ga : n0 ≤ a) {j x x' : Int32} (hj : ¬ j < 0 ∧ j < z) (i : Nat) (hi : j.toNatClampNeg = i) (hl : i < vs.length) (hnx : x.toInt8.toInt32 = x')
    {g : JFrame} (hg : g.method = m) {rest : List Value} (hst : g.stack = .int x :: .int j :: .ref a :: rest) (hd : decode c.code g.pc = .ok (.bastore, 1))
    (k : ∀ (T' : State) (h' : Heap), Sd p l e R s m args below meth c n0 T' h' cells slots → Wr h h' a i (.int x') → Arv Z h' a kc .byte z (vs.set i (.int x')) dv → G T' { g with pc := g.pc + 1, stack := rest }) : G T g := by
  obtain ⟨L, X, N, eh⟩ := X
  obtain ⟨cl, A, q1, S, q3, H, F⟩ := V
  obtain ⟨T', h', X', e', W, st⟩ := stB X hx hZ eh A (j := j) (inb_of S hj) hg hst hd
  subst hnx
  exact hs.go st (k T' h' ⟨_, X', Fr.snoc X' N ga, e'⟩ (hi ▸ W) (Arv.set A q1 S q3 H F (fits_nar_byte _) W i hi hl))
theorem rStC (hs : Clo p e below G) (X : Sd p l e R s m args below meth c n0 T h cells slots) (hx : p.tables.exec = Jvm.exec) (hZ : Z.Warmed39 s.vm) {a : Addr} {kc : ClassId} {z : Int32} {vs : List Value} {dv : Value} (V : Arv Z h a kc .char z vs dv) (ga : n0 ≤ a) {j x x' : Int32} (hj : ¬ j < 0 ∧ j < z) (i : Nat) (hi : j.toNatClampNeg = i) (hl : i < vs.length) (hnx : nar .char x = x')
    {g : JFrame} (hg : g.method = m) {rest : List Value} (hst : g.stack = .int x :: .int j :: .ref a :: rest) (hd : decode c.code g.pc = .ok (.castore, 1))
    (k : ∀ (T' : State) (h' : Heap), Sd p l e R s m args below meth c n0 T' h' cells slots → Wr h h' a i (.int x') → Arv Z h' a kc .char z (vs.set i (.int x')) dv → G T' { g with pc := g.pc + 1, stack := rest }) : G T g := by
  obtain ⟨L, X, N, eh⟩ := X
  obtain ⟨cl, A, q1, S, q3, H, F⟩ := V
  obtain ⟨T', h', X', e', W, st⟩ := stC X hx hZ eh A (j := j) (inb_of S hj) hg hst hd
  subst hnx
  exact hs.go st (k T' h' ⟨_, X', Fr.snoc X' N ga, e'⟩ (hi ▸ W) (Arv.set A q1 S q3 H F (fits_nar_char _) W i hi hl))
theorem rLdI (hs : Clo p e below G) (X : Sd p l e R s m args below meth c n0 T h cells slots) (hx : p.tables.exec = Jvm.exec) (hZ : Z.Warmed39 s.vm) {a : Addr} {kc : ClassId} {z : Int32} {vs : List Value} {dv : Value} (V : Arv Z h a kc .int z vs dv) {j : Int32} (hj : ¬ j < 0 ∧ j < z) {v : Value} (hv : vs.getD j.toNatClampNeg dv = v)
    {g : JFrame} (hg : g.method = m) {rest : List Value} (hst : g.stack = .int j :: .ref a :: rest) (hd : decode c.code g.pc = .ok (.iaload, 1)) (k : G T { g with pc := g.pc + 1, stack := v :: rest }) : G T g := by
  obtain ⟨L, X, N, eh⟩ := X
  obtain ⟨cl, A, q1, S, q3, H, F⟩ := V
  exact hs.go (X.iaload hx (j := j) (v := v) (by rw [eh]; exact A.1) (State.isArrayOf_alike hZ.alike A.2.1) A.2.2 (inb_of S hj) (H.at (inb_of S hj) hv) hg hst hd) k
theorem rLdB (hs : Clo p e below G) (X : Sd p l e R s m args below meth c n0 T h cells slots) (hx : p.tables.exec = Jvm.exec) (hZ : Z.Warmed39 s.vm) {a : Addr} {kc : ClassId} {z : Int32} {vs : List Value} {dv : Value} (V : Arv Z h a kc .byte z vs dv) {j : Int32} (hj : ¬ j < 0 ∧ j < z) {v : Value} (hv : vs.getD j.toNatClampNeg dv = v)
    {g : JFrame} (hg : g.method = m) {rest : List Value} (hst : g.stack = .int j :: .ref a :: rest) (hd : decode c.code g.pc = .ok (.baload, 1)) (k : G T { g with pc := g.pc + 1, stack := v :: rest }) : G T g := by
  obtain ⟨L, X, N, eh⟩ := X
  obtain ⟨cl, A, q1, S, q3, H, F⟩ := V
  exact hs.go (X.baloadBytes hx (j := j) (v := v) (by rw [eh]; exact A.1) (State.isArrayOf_alike hZ.alike A.2.1) A.2.2 (inb_of S hj) (H.at (inb_of S hj) hv) hg hst hd) k
theorem rLdC (hs : Clo p e below G) (X : Sd p l e R s m args below meth c n0 T h cells slots) (hx : p.tables.exec = Jvm.exec) (hZ : Z.Warmed39 s.vm) {a : Addr} {kc : ClassId} {z : Int32} {vs : List Value} {dv : Value} (V : Arv Z h a kc .char z vs dv) {j : Int32} (hj : ¬ j < 0 ∧ j < z) {v : Value} (hv : vs.getD j.toNatClampNeg dv = v)
    {g : JFrame} (hg : g.method = m) {rest : List Value} (hst : g.stack = .int j :: .ref a :: rest) (hd : decode c.code g.pc = .ok (.caload, 1)) (k : G T { g with pc := g.pc + 1, stack := v :: rest }) : G T g := by
  obtain ⟨L, X, N, eh⟩ := X
  obtain ⟨cl, A, q1, S, q3, H, F⟩ := V
  exact hs.go (X.caload hx (j := j) (v := v) (by rw [eh]; exact A.1) (State.isArrayOf_alike hZ.alike A.2.1) A.2.2 (inb_of S hj) (H.at (inb_of S hj) hv) hg hst hd) k
theorem rLdR (hs : Clo p e below G) (X : Sd p l e R s m args below meth c n0 T h cells slots) (hx : p.tables.exec = Jvm.exec) (hZ : Z.Warmed39 s.vm) {a : Addr} {kc : ClassId} {ty : FieldType} {z : Int32} {vs : List Value} {dv : Value} (V : Arv Z h a kc ty z vs dv) (hty : ty.isReference = true) {j : Int32} (hj : ¬ j < 0 ∧ j < z) {v : Value} (hv : vs.getD j.toNatClampNeg dv = v)
    {g : JFrame} (hg : g.method = m) {rest : List Value} (hst : g.stack = .int j :: .ref a :: rest) (hd : decode c.code g.pc = .ok (.aaload, 1)) (k : G T { g with pc := g.pc + 1, stack := v :: rest }) : G T g := by
  obtain ⟨L, X, N, eh⟩ := X
  obtain ⟨cl, A, q1, S, q3, H, F⟩ := V
  exact hs.go (X.aaload hx (j := j) (v := v) (by rw [eh]; exact A.1) (State.isArrayOf_alike hZ.alike A.2.1) hty A.2.2 (inb_of S hj) (H.at (inb_of S hj) hv) hg hst hd) k
theorem rLen (hs : Clo p e below G) (X : Sd p l e R s m args below meth c n0 T h cells slots) (hx : p.tables.exec = Jvm.exec) (hZ : Z.Warmed39 s.vm) {a : Addr} {kc : ClassId} {ty : FieldType} {z : Int32} {vs : List Value} {dv : Value} (V : Arv Z h a kc ty z vs dv)
    {g : JFrame} (hg : g.method = m) {rest : List Value} (hst : g.stack = .ref a :: rest) (hd : decode c.code g.pc = .ok (.arraylength, 1)) (k : G T { g with pc := g.pc + 1, stack := .int z :: rest }) : G T g := by
  obtain ⟨L, X, N, eh⟩ := X
  obtain ⟨cl, A, q1, S, q3, H, F⟩ := V
  exact hs.go (X.arraylength hx (by rw [eh]; exact A.1) (State.isArrayOf_alike hZ.alike A.2.1) hg hst hd) (by rw [len_of S q3]; exact k)
theorem rNewR (hs : Clo p e below G) (X : Sd p l e R s m args below meth c n0 T h cells slots) (hx : p.tables.exec = Jvm.exec) (hZ : Z.Warmed39 s.vm) {own C : String} {index : Nat} (hown : s.vm.findClass own = some m.cls) (w1 : (Jvm.Cond.classLink own index C).before a0 Z = true) (w2 : (Jvm.Cond.arrayOver (.object C)).before a0 Z = true) {g : JFrame} (hg : g.method = m) (hd : decode c.code g.pc = .ok (.anewarray index, 3)) {n : Int32} {rest : List Value} (hst : g.stack = .int n :: rest)
    (hn : ¬ n < 0) (cap len : Nat) (hcap : n.toNatClampNeg ≤ cap) (hb : cap * 8 ≤ 536870912) (hc : cells + 1 ≤ R.cells) (hl : slots + cap ≤ R.slots)
    (k : ∀ (T' : State) (h' : Heap) (cA : ClassId) (b : Addr), b = h.size → Sd p l e R s m args below meth c n0 T' h' (cells + 1) (slots + cap) → Ext h h' → Arv Z h' b cA (.object C) n (List.replicate len .null) .null → Ovr Z cA C → G T' { g with pc := g.pc + 3, stack := .ref b :: rest }) : G T g := by
  obtain ⟨L, X, N, eh⟩ := X
  obtain ⟨T', h', cA, X', e', E, A, O, st⟩ := newR X hx hZ hown w1 w2 eh hg hd hst hn hcap hb hc hl
  exact hs.go st (k T' h' cA h.size rfl ⟨L, X', N, e'⟩ E ((Arv.new A hn).pad (pad_rep [] _ len)) O)
theorem rStR (hs : Clo p e below G) (X : Sd p l e R s m args below meth c n0 T h cells slots) (hx : p.tables.exec = Jvm.exec) (hZ : Z.Warmed39 s.vm) {a : Addr} {kc : ClassId} {C : String} {z : Int32} {vs : List Value} {dv : Value} (V : Arv Z h a kc (.object C) z vs dv) (O : Ovr Z kc C) (ga : n0 ≤ a) {j : Int32} {y : Addr} (I : Ins Z h y C true) (hj : ¬ j < 0 ∧ j < z) (i : Nat) (hi : j.toNatClampNeg = i) (hl : i < vs.length)
    {g : JFrame} (hg : g.method = m) {rest : List Value} (hst : g.stack = .ref y :: .int j :: .ref a :: rest) (hd : decode c.code g.pc = .ok (.aastore, 1))
    (k : ∀ (T' : State) (h' : Heap), Sd p l e R s m args below meth c n0 T' h' cells slots → Wr h h' a i (.ref y) → Arv Z h' a kc (.object C) z (vs.set i (.ref y)) dv → G T' { g with pc := g.pc + 1, stack := rest }) : G T g := by
  obtain ⟨L, X, N, eh⟩ := X
  obtain ⟨cl, A, q1, S, q3, H, F⟩ := V
  obtain ⟨T', h', X', e', W, st⟩ := stR X hx hZ eh A (j := j) (v := .ref y) (inb_of S hj) rfl (Sto.ofV A q1 O I) hg hst hd
  exact hs.go st (k T' h' ⟨_, X', Fr.snoc X' N ga, e'⟩ (hi ▸ W) (Arv.set A q1 S q3 H F rfl W i hi hl))
/-! objects -/
theorem rNewO (hs : Clo p e below G) (X : Sd p l e R s m args below meth c n0 T h cells slots) (hx : p.tables.exec = Jvm.exec) (hZ : Z.Warmed39 s.vm) {own C : String} {index n : Nat} (hown : s.vm.findClass own = some m.cls) (w : (Jvm.Cond.classLink own index C).before a0 Z = true) (wi : (Jvm.Cond.instantiable C n).before a0 Z = true) (wz : (Jvm.Cond.initialized C).before a0 Z = true)
    {g : JFrame} (hg : g.method = m) (hd : decode c.code g.pc = .ok (.new index, 3)) (hc : cells + 1 ≤ R.cells) (hl : slots + n ≤ R.slots)
    (k : ∀ (T' : State) (h' : Heap) (b : Addr), b = h.size → Sd p l e R s m args below meth c n0 T' h' (cells + 1) (slots + n) → Ext h h' → Exa Z h' b C → (∀ {O nm d : String} {ty : FieldType}, Laid Z a0 C O nm d → parseFieldDescriptor d = some ty → Fld Z h' b O nm d (defaultValue ty)) → G T' { g with pc := g.pc + 3, stack := .ref b :: g.stack }) : G T g := by
  obtain ⟨L, X, N, eh⟩ := X
  obtain ⟨T', h', X', e', E, A, D, -, st⟩ := newO X hx hZ hown w wi wz eh hg hd hc hl
  exact hs.go st (k T' h' h.size rfl ⟨L, X', N, e'⟩ E A D)
theorem rInitO (hs : Clo p e below G) (X : Sd p l e R s m args below meth c n0 T h cells slots) (hx : p.tables.exec = Jvm.exec) (hZ : Z.Warmed39 s.vm) {own : String} {idx : Nat} (hown : s.vm.findClass own = some m.cls) (w1 : (Jvm.Cond.methodLink own idx Lib.objectInit).before a0 Z = true) (w2 : (Jvm.Cond.instanceMethod Lib.objectInit).before a0 Z = true)
    (w3 : (Jvm.Cond.code Lib.objectInit ⟨#[0xb1]⟩ 1 none).before a0 Z = true) {g : JFrame} (hg : g.method = m) (hsize : g.locals.size = c.maxLocals) {a : Addr} {rest : List Value} (hst : g.stack = .ref a :: rest) (hd : decode c.code g.pc = .ok (.invokespecial idx, 3))
    (hf : 1 ≤ R.frames) {W : Nat} (hW : 2 * g.monitorRoom + (rest.map fun v => v.category).sum ≤ W) (hl : W + 12 ≤ R.locals)
    (k : ∀ T' : State, Sd p l e R s m args below meth c n0 T' h cells slots → G T' { g with pc := g.pc + 3, stack := rest }) : G T g := by
  obtain ⟨L, X, N, eh⟩ := X
  obtain ⟨T', X', e', st⟩ := initO X hx hZ hown w1 w2 w3 eh hg hsize hst hd hf hW hl
  exact hs.go st (k T' ⟨L, X', N, e'⟩)
theorem rGetF (hs : Clo p e below G) (X : Sd p l e R s m args below meth c n0 T h cells slots) (hx : p.tables.exec = Jvm.exec) (hZ : Z.Warmed39 s.vm) {own R0 O n d host : String} {index : Nat} (hown : s.vm.findClass own = some m.cls) (w : (Jvm.Cond.fieldLink own index R0 n d).before a0 Z = true ∨ (Jvm.Cond.fieldLinkNest own index R0 n d host).before a0 Z = true) (via : Via Z R0 O n d)
    {a : Addr} {v : Value} (F : Fld Z h a O n d v) {g : JFrame} (hg : g.method = m) {rest : List Value} (hst : g.stack = .ref a :: rest) (hd : decode c.code g.pc = .ok (.getfield index, 3))
    (k : ∀ T' : State, Sd p l e R s m args below meth c n0 T' h cells slots → G T' { g with pc := g.pc + 3, stack := v :: rest }) : G T g := by
  obtain ⟨L, X, N, eh⟩ := X
  obtain ⟨T', X', e', st⟩ := getF X hx hZ hown w via eh F hg hst hd
  exact hs.go st (k T' ⟨L, X', N, e'⟩)
theorem rGetS (hs : Clo p e below G) (X : Sd p l e R s m args below meth c n0 T h cells slots) (hx : p.tables.exec = Jvm.exec) (hZ : Z.Warmed39 s.vm) {own R0 O n d host : String} {index : Nat} (hown : s.vm.findClass own = some m.cls) (w : (Jvm.Cond.fieldLink own index R0 n d).before a0 Z = true ∨ (Jvm.Cond.fieldLinkNest own index R0 n d host).before a0 Z = true) (via : Via Z R0 O n d)
    {v : Value} (F : Sta Z h O n d v) {g : JFrame} (hg : g.method = m) (hd : decode c.code g.pc = .ok (.getstatic index, 3))
    (k : ∀ T' : State, Sd p l e R s m args below meth c n0 T' h cells slots → G T' { g with pc := g.pc + 3, stack := v :: g.stack }) : G T g := by
  obtain ⟨L, X, N, eh⟩ := X
  obtain ⟨T', X', e', st⟩ := getS2 X hx hZ hown w via eh F hg hd
  exact hs.go st (k T' ⟨L, X', N, e'⟩)
theorem rPutF (hs : Clo p e below G) (X : Sd p l e R s m args below meth c n0 T h cells slots) (hx : p.tables.exec = Jvm.exec) (hZ : Z.Warmed39 s.vm) {own R0 O n d host C : String} {index kk : Nat} (ty : FieldType) (hown : s.vm.findClass own = some m.cls) (w : (Jvm.Cond.fieldLink own index R0 n d).before a0 Z = true ∨ (Jvm.Cond.fieldLinkNest own index R0 n d host).before a0 Z = true) (via : Via Z R0 O n d)
    {a : Addr} {v old : Value} (F : Fld Z h a O n d old) (E : Exa Z h a C) (ga : n0 ≤ a) (L : (Jvm.Cond.lays C O n d).before a0 Z = true ∨ ((Jvm.Cond.laysFinal C O n d).before a0 Z = true ∧ own = O ∧ meth.name = "<init>")) (wi : (Jvm.Cond.instantiable C kk).before a0 Z = true)
    (hty : parseFieldDescriptor d = some ty) (hn : narrow ty v = v) (hf : fits ty v = true) {g : JFrame} (hg : g.method = m) {rest : List Value} (hst : g.stack = v :: .ref a :: rest) (hd : decode c.code g.pc = .ok (.putfield index, 3))
    (k : ∀ (T' : State) (h' : Heap), Sd p l e R s m args below meth c n0 T' h' cells slots → Wr h h' a (Jvm.RoadKit.slotOf Z O n d) v → Fld Z h' a O n d v → G T' { g with pc := g.pc + 3, stack := rest }) : G T g := by
  obtain ⟨L0, X, N, eh⟩ := X
  obtain ⟨T', h', X', e', W, st⟩ := putF X hx hZ hown w via eh F E L wi hty hn hf hg hst hd
  exact hs.go st (k T' h' ⟨_, X', Fr.snoc X' N ga, e'⟩ W (F.same W))
/-! calls -/
theorem rCallS (hs : Clo p e below G) (X : Sd p l e R s m args below meth c n0 T h cells slots) (hx : p.tables.exec = Jvm.exec) (hZ : Z.Warmed39 s.vm) {own : String} {index : Nat} {y : MethodName} {bytes : ByteArray} {maxL : Nat} {ret : Option FieldType} {rm : Room} {as' : List Value} {Q' : Option Value → Heap → Prop}
    (hM : Con l Z y bytes maxL ret [] rm as'.toArray h n0 Q') (hown : s.vm.findClass own = some m.cls) (w1 : (Jvm.Cond.methodLink own index y).before a0 Z = true) (w2 : (Jvm.Cond.static y).before a0 Z = true) (w3 : (Jvm.Cond.initialized y.cls).before a0 Z = true) (w4 : (Jvm.Cond.code y bytes maxL ret).before a0 Z = true)
    (hy : y.cls ≠ "java/lang/invoke/MethodHandle" ∧ y.cls ≠ "java/lang/invoke/VarHandle") {g : JFrame} (hg : g.method = m) (hsize : g.locals.size = c.maxLocals) (rest : List Value) (hlen : ∀ sig, parseMethodDescriptor y.desc = some sig → as'.length = sig.parameters.length)
    (hst : g.stack = as'.reverse ++ rest) (W : Nat) (hW : 2 * g.monitorRoom + (rest.map fun v => v.category).sum ≤ W) (hd : decode c.code g.pc = .ok (.invokestatic index, 3))
    (hf : rm.frames + 1 ≤ R.frames) (hl : W + (maxL + 11) + rm.locals ≤ R.locals) (hc : cells + rm.cells ≤ R.cells) (hsl : slots + rm.slots ≤ R.slots)
    (k : ∀ (v : Option Value) (T' : State) (h' : Heap), Sd p l e R s m args below meth c n0 T' h' (cells + rm.cells) (slots + rm.slots) → Q' v h' → G T' { g with pc := g.pc + 3, stack := v.toList ++ rest }) : G T g := by
  obtain ⟨L, X, N, eh⟩ := X
  obtain ⟨v, vm₁, ⟨T', L', k', n'⟩, -, X', ⟨Lc, ⟨hQ, hN⟩, l', y', z'⟩, st⟩ := Jvm.LawKit.callS X hx (y := y) hown (mvT hZ w1) (mvT hZ w2) (mvT hZ w3) (mvT hZ w4) hy (backOf (Q := fun v h L => Q' v h ∧ Fr n0 L) (W := W) hM hZ w4 w3 hf hl) hg hsize (argsL := as') (rest := rest) hlen hst hW hd (fun _ _ => ⟨rfl, eh, hc, hsl⟩)
  dsimp only [Pt.U, Pt.locs, Pt.cells, Pt.slots] at X' l' y' z' st hQ
  subst l' y' z'
  exact hs.go st (k v T' T'.heap ⟨_, X', Fr.app N hN, rfl⟩ hQ)
theorem rCallI (hs : Clo p e below G) (X : Sd p l e R s m args below meth c n0 T h cells slots) (hx : p.tables.exec = Jvm.exec) (hZ : Z.Warmed39 s.vm) {own : String} {index : Nat} {y : MethodName} {bytes : ByteArray} {maxL : Nat} {rm : Room} {a : Addr} {as' : List Value} {Q' : Option Value → Heap → Prop}
    (hM : Con l Z y bytes maxL none [] rm (Value.ref a :: as').toArray h n0 Q') (hyn : y.name = "<init>") (hown : s.vm.findClass own = some m.cls) (w1 : (Jvm.Cond.methodLink own index y).before a0 Z = true) (w2 : (Jvm.Cond.instanceMethod y).before a0 Z = true) (w3 : (Jvm.Cond.initialized y.cls).before a0 Z = true) (w4 : (Jvm.Cond.code y bytes maxL none).before a0 Z = true)
    (hy : y.cls ≠ "java/lang/invoke/MethodHandle" ∧ y.cls ≠ "java/lang/invoke/VarHandle") {g : JFrame} (hg : g.method = m) (hsize : g.locals.size = c.maxLocals) (rest : List Value) (hlen : ∀ sig, parseMethodDescriptor y.desc = some sig → as'.length = sig.parameters.length)
    (hst : g.stack = as'.reverse ++ .ref a :: rest) (W : Nat) (hW : 2 * g.monitorRoom + (rest.map fun v => v.category).sum ≤ W) (hd : decode c.code g.pc = .ok (.invokespecial index, 3))
    (hf : rm.frames + 1 ≤ R.frames) (hl : W + (maxL + 11) + rm.locals ≤ R.locals) (hc : cells + rm.cells ≤ R.cells) (hsl : slots + rm.slots ≤ R.slots)
    (k : ∀ (v : Option Value) (T' : State) (h' : Heap), Sd p l e R s m args below meth c n0 T' h' (cells + rm.cells) (slots + rm.slots) → Q' v h' → G T' { g with pc := g.pc + 3, stack := v.toList ++ rest }) : G T g := by
  obtain ⟨L, X, N, eh⟩ := X
  obtain ⟨v, vm₁, ⟨T', L', k', n'⟩, -, X', ⟨Lc, ⟨hQ, hN⟩, l', y', z'⟩, st⟩ := X.specialBack hx (y := y) hyn hown (mvT hZ w1) (mvT hZ w2) (mvT hZ w4) hy (backOf (Q := fun v h L => Q' v h ∧ Fr n0 L) (W := W) hM hZ w4 w3 hf hl) hg hsize (Steps.refl _) (a := a) (argsL := as') (rest := rest) hlen hst hW hd (fun _ _ => ⟨rfl, eh, hc, hsl⟩)
  dsimp only [Pt.U, Pt.locs, Pt.cells, Pt.slots] at X' l' y' z' st hQ
  subst l' y' z'
  exact hs.go (fun _ q => st.trans q) (k v T' T'.heap ⟨_, X', Fr.app N hN, rfl⟩ hQ)
theorem rCallV (hs : Clo p e below G) (X : Sd p l e R s m args below meth c n0 T h cells slots) (hx : p.tables.exec = Jvm.exec) (hZ : Z.Warmed39 s.vm) {own C : String} {index : Nat} {y : MethodName} {bytes : ByteArray} {maxL : Nat} {ret : Option FieldType} {rm : Room} {a : Addr} {as' : List Value} {Q' : Option Value → Heap → Prop}
    (hM : Con l Z y bytes maxL ret [] rm (Value.ref a :: as').toArray h n0 Q') (E : Exa Z h a C) (hown : s.vm.findClass own = some m.cls) (w1 : (Jvm.Cond.methodLink own index y).before a0 Z = true) (w5 : (Jvm.Cond.declares y).before a0 Z = true) (w6 : (Jvm.Cond.selects C y y).before a0 Z = true) (w2 : (Jvm.Cond.instanceMethod y).before a0 Z = true) (w3 : (Jvm.Cond.initialized y.cls).before a0 Z = true) (w4 : (Jvm.Cond.code y bytes maxL ret).before a0 Z = true)
    (hy : y.cls ≠ "java/lang/invoke/MethodHandle" ∧ y.cls ≠ "java/lang/invoke/VarHandle") {g : JFrame} (hg : g.method = m) (hsize : g.locals.size = c.maxLocals) (rest : List Value) (hlen : ∀ sig, parseMethodDescriptor y.desc = some sig → as'.length = sig.parameters.length)
    (hst : g.stack = as'.reverse ++ .ref a :: rest) (W : Nat) (hW : 2 * g.monitorRoom + (rest.map fun v => v.category).sum ≤ W) (hd : decode c.code g.pc = .ok (.invokevirtual index, 3))
    (hf : rm.frames + 1 ≤ R.frames) (hl : W + (maxL + 11) + rm.locals ≤ R.locals) (hc : cells + rm.cells ≤ R.cells) (hsl : slots + rm.slots ≤ R.slots)
    (k : ∀ (v : Option Value) (T' : State) (h' : Heap), Sd p l e R s m args below meth c n0 T' h' (cells + rm.cells) (slots + rm.slots) → Q' v h' → G T' { g with pc := g.pc + 3, stack := v.toList ++ rest }) : G T g := by
  obtain ⟨L, X, N, eh⟩ := X
  obtain ⟨cB, kB, qa, qb, qc⟩ := isOf (T := T) hZ eh E
  obtain ⟨v, vm₁, ⟨T', L', k', n'⟩, -, X', ⟨Lc, ⟨hQ, hN⟩, l', y', z'⟩, st⟩ := X.virtualBack hx (y := y) (z := y) hown (mvT hZ w1) (mvT hZ w5) (notFace_of_selects (args := #[]) (mvT hZ w6)) (mvT hZ w6) (mvT hZ w2) hy (backOf (Q := fun v h L => Q' v h ∧ Fr n0 L) (W := W) hM hZ w4 w3 hf hl) qa qc hg hsize (Steps.refl _) (argsL := as') (rest := rest) hlen hst hW hd (fun _ _ => ⟨rfl, eh, hc, hsl⟩)
  dsimp only [Pt.U, Pt.locs, Pt.cells, Pt.slots] at X' l' y' z' st hQ
  subst l' y' z'
  exact hs.go (fun _ q => st.trans q) (k v T' T'.heap ⟨_, X', Fr.app N hN, rfl⟩ hQ)
/-! branches -/
theorem ltL {x y : Int64} (h : x < y) : if_icmp.holds .lt (lcmpW x y) 0 = true ∧ if_icmp.holds .ge (lcmpW x y) 0 = false := have q := tlt ((lw_lt x y).mpr h); ⟨q.1, q.2.1⟩
theorem nltL {x y : Int64} (h : ¬ x < y) : if_icmp.holds .lt (lcmpW x y) 0 = false ∧ if_icmp.holds .ge (lcmpW x y) 0 = true := have q := flt (fun z => h ((lw_lt x y).mp z)); ⟨q.1, q.2.1⟩
theorem gtL {x y : Int64} (h : y < x) : if_icmp.holds .gt (lcmpW x y) 0 = true ∧ if_icmp.holds .le (lcmpW x y) 0 = false := have q := tlt ((lw_gt x y).mpr h); ⟨q.2.2.1, q.2.2.2⟩
theorem ngtL {x y : Int64} (h : ¬ y < x) : if_icmp.holds .gt (lcmpW x y) 0 = false ∧ if_icmp.holds .le (lcmpW x y) 0 = true := have q := flt (fun z => h ((lw_gt x y).mp z)); ⟨q.2.2.1, q.2.2.2⟩
theorem eqL {x y : Int64} (h : x = y) : if_icmp.holds .eq (lcmpW x y) 0 = true ∧ if_icmp.holds .ne (lcmpW x y) 0 = false := teq ((lw_eq x y).mpr h)
theorem neqL {x y : Int64} (h : ¬ x = y) : if_icmp.holds .eq (lcmpW x y) 0 = false ∧ if_icmp.holds .ne (lcmpW x y) 0 = true := feq (fun z => h ((lw_eq x y).mp z))
theorem nameIt {α : Type} {P : α → Prop} (x : α) (k : ∀ z, z = x → P z) : P x := k x rfl
theorem eq64 {x y : Int64} (h : x.toInt = y.toInt) : x = y := Int64.toInt_inj.mp h
theorem eq32 {x y : Int32} (h : x.toInt = y.toInt) : x = y := Int32.toInt_inj.mp h
theorem lt64 {x y : Int64} : x < y ↔ x.toInt < y.toInt := Int64.lt_iff_toInt_lt
theorem lt32 {x y : Int32} : x < y ↔ x.toInt < y.toInt := Int32.lt_iff_toInt_lt
theorem e64 {x y : Int64} : x = y ↔ x.toInt = y.toInt := Int64.toInt_inj.symm
theorem e32 {x y : Int32} : x = y ↔ x.toInt = y.toInt := Int32.toInt_inj.symm
theorem c_lremM (x y : Int64) (d : Int) (hy : y.toInt = d) : (0 ≤ x.toInt → (x % y).toInt = x.toInt % d) ∧ (x.toInt < 0 → (x % y).toInt = -((-x.toInt) % d)) := by rw [Int64.toInt_mod, hy]; exact tr _ _
theorem nar_byte (x : Int32) : x.toInt8.toInt32.toInt8.toInt32 = x.toInt8.toInt32 := by simp
end OwnKit

def f1 (a : Int32) : Int32 := (if (a &&& (256 : Int32)) = (0 : Int32) then (a.toInt8.toInt32) else (0 : Int32))
theorem d1_0 : decode method_2_code 0 = .ok (.iload_n 0, 1) := by decide +kernel
theorem d1_1 : decode method_2_code 1 = .ok (.sipush 256, 3) := by decide +kernel
theorem d1_4 : decode method_2_code 4 = .ok (.iand, 1) := by decide +kernel
theorem d1_5 : decode method_2_code 5 = .ok (.ifCond .eq 5, 3) := by decide +kernel
theorem d1_8 : decode method_2_code 8 = .ok (.iconst 0, 1) := by decide +kernel
theorem d1_9 : decode method_2_code 9 = .ok (.ireturn, 1) := by decide +kernel
theorem d1_10 : decode method_2_code 10 = .ok (.iload_n 0, 1) := by decide +kernel
theorem d1_11 : decode method_2_code 11 = .ok (.i2b, 1) := by decide +kernel
theorem d1_12 : decode method_2_code 12 = .ok (.ireturn, 1) := by decide +kernel
theorem pn_1 : plainFor (⟨"com/example/redoubt/redoubt/storage/ZeroBytesAllPinLaw", "draw", "(I)B"⟩ : MethodName) = true := plainFor_of_name (by first | (simp [plainName, overriddenIn]; done) | decide +kernel)
theorem ef_1 (m : MethodId) (x0 : Int32) : entryFrame m #[(.int x0)] 1 = mkF m 0 #[.val (.int x0)] [] := by first | (simp [entryFrame, mkF, argsToLocals, Value.category]; done) | rfl
theorem hy_1 : ((⟨"com/example/redoubt/redoubt/storage/ZeroBytesAllPinLaw", "draw", "(I)B"⟩ : MethodName)).cls ≠ "java/lang/invoke/MethodHandle" ∧ ((⟨"com/example/redoubt/redoubt/storage/ZeroBytesAllPinLaw", "draw", "(I)B"⟩ : MethodName)).cls ≠ "java/lang/invoke/VarHandle" := by decide
set_option maxRecDepth 65536 in
set_option maxHeartbeats 40000000 in
theorem rm1 (l : Launch) (Z : State) (a0 : Array Value) (hw : ∀ d ∈ tables_1, d.before a0 Z = true) (ws : List Jvm.Cond) (a : Int32) (h0 : Heap) (n0 : Nat) (Z0 : n0 ≤ h0.size)  :
    Con l Z (⟨"com/example/redoubt/redoubt/storage/ZeroBytesAllPinLaw", "draw", "(I)B"⟩ : MethodName) method_2_code 1 (some .byte) ws ({ frames := 0, cells := 0, slots := 0, locals := 0 } : Room) #[(.int a)] h0 n0 (fun v h => v = some (.int (f1 a)) ∧ h = h0) := by
  refine Con.of pn_1 ?_
  intro G p e s m below meth c s₁ hs hx hby hml hown hnm hret hZ X0 fin
  have hml : c.maxLocals = 1 := hml
  have hown : s.vm.findClass "com/example/redoubt/redoubt/storage/ZeroBytesAllPinLaw" = some m.cls := hown
  rw [ef_1]
  show G s₁ (mkF m 0 #[.val (.int a)] [])
  refine hs.go (fun _ kk_ => XS.iloadN X0.here hx rfl (hb hby d1_0) rfl  kk_) ?_
  show G s₁ (mkF m 1 #[.val (.int a)] [(.int a)])
  refine hs.go (fun _ kk_ => XS.sipush X0.here hx rfl (hb hby d1_1) kk_) ?_
  show G s₁ (mkF m 4 #[.val (.int a)] [(.int (256 : Int32)), (.int a)])
  refine hs.go (fun _ kk_ => XS.iand X0.here hx rfl (hb hby d1_4) rfl kk_) ?_
  show G s₁ (mkF m 5 #[.val (.int a)] [(.int (a &&& (256 : Int32)))])
  by_cases c5 : (a &&& (256 : Int32)) = (0 : Int32)
  · refine hs.go (fun _ kk_ => XS.ifYes X0.here hx rfl (pc0 := 5) (pc' := 10) rfl (hb hby d1_5) rfl ((if0 _ _).trans (teq c5).1) (by decide) (by decide) kk_) ?_
    show G s₁ (mkF m 10 #[.val (.int a)] [])
    refine hs.go (fun _ kk_ => XS.iloadN X0.here hx rfl (hb hby d1_10) rfl  kk_) ?_
    show G s₁ (mkF m 11 #[.val (.int a)] [(.int a)])
    refine hs.go (fun _ kk_ => XS.i2b X0.here hx rfl (hb hby d1_11) rfl kk_) ?_
    show G s₁ (mkF m 12 #[.val (.int a)] [(.int (a.toInt8.toInt32))])
    exact rRetN fin X0 hx (by decide) (by decide) hret (by simp) (hb hby d1_12) (z' := _) (nar_byte _) ⟨by rw [f1, if_pos c5], rfl⟩
  · refine hs.go (fun _ kk_ => XS.ifNo X0.here hx rfl (hb hby d1_5) rfl ((if0 _ _).trans (feq c5).1) kk_) ?_
    show G s₁ (mkF m 8 #[.val (.int a)] [])
    refine hs.go (fun _ kk_ => XS.iconst X0.here hx rfl (hb hby d1_8) kk_) ?_
    show G s₁ (mkF m 9 #[.val (.int a)] [(.int (0 : Int32))])
    exact rRetN fin X0 hx (by decide) (by decide) hret (by simp) (hb hby d1_9) (z' := (0 : Int32)) (by decide) ⟨by rw [f1, if_neg c5], rfl⟩
def f2 (a : Int32) (b : Int32) : Int32 := (if b < a then b else a)
theorem d2_0 : decode jdk_29_method_69_code 0 = .ok (.iload_n 0, 1) := by decide +kernel
theorem d2_1 : decode jdk_29_method_69_code 1 = .ok (.iload_n 1, 1) := by decide +kernel
theorem d2_2 : decode jdk_29_method_69_code 2 = .ok (.if_icmp .gt 7, 3) := by decide +kernel
theorem d2_5 : decode jdk_29_method_69_code 5 = .ok (.iload_n 0, 1) := by decide +kernel
theorem d2_6 : decode jdk_29_method_69_code 6 = .ok (.goto 4, 3) := by decide +kernel
theorem d2_9 : decode jdk_29_method_69_code 9 = .ok (.iload_n 1, 1) := by decide +kernel
theorem d2_10 : decode jdk_29_method_69_code 10 = .ok (.ireturn, 1) := by decide +kernel
theorem pn_2 : plainFor (⟨"java/lang/Math", "min", "(II)I"⟩ : MethodName) = true := Jvm.Free.JP.mathPlain rfl (by decide +kernel)
theorem ef_2 (m : MethodId) (x0 : Int32) (x1 : Int32) : entryFrame m #[(.int x0), (.int x1)] 2 = mkF m 0 #[.val (.int x0), .val (.int x1)] [] := by first | (simp [entryFrame, mkF, argsToLocals, Value.category]; done) | rfl
theorem hy_2 : ((⟨"java/lang/Math", "min", "(II)I"⟩ : MethodName)).cls ≠ "java/lang/invoke/MethodHandle" ∧ ((⟨"java/lang/Math", "min", "(II)I"⟩ : MethodName)).cls ≠ "java/lang/invoke/VarHandle" := by decide
set_option maxRecDepth 65536 in
set_option maxHeartbeats 40000000 in
theorem rm2 (l : Launch) (Z : State) (a0 : Array Value) (hw : ∀ d ∈ tables_1, d.before a0 Z = true) (ws : List Jvm.Cond) (a : Int32) (b : Int32) (h0 : Heap) (n0 : Nat) (Z0 : n0 ≤ h0.size)  :
    Con l Z (⟨"java/lang/Math", "min", "(II)I"⟩ : MethodName) jdk_29_method_69_code 2 (some .int) ws ({ frames := 0, cells := 0, slots := 0, locals := 0 } : Room) #[(.int a), (.int b)] h0 n0 (fun v h => v = some (.int (f2 a b)) ∧ h = h0) := by
  refine Con.of pn_2 ?_
  intro G p e s m below meth c s₁ hs hx hby hml hown hnm hret hZ X0 fin
  have hml : c.maxLocals = 2 := hml
  have hown : s.vm.findClass "java/lang/Math" = some m.cls := hown
  rw [ef_2]
  show G s₁ (mkF m 0 #[.val (.int a), .val (.int b)] [])
  refine hs.go (fun _ kk_ => XS.iloadN X0.here hx rfl (hb hby d2_0) rfl  kk_) ?_
  show G s₁ (mkF m 1 #[.val (.int a), .val (.int b)] [(.int a)])
  refine hs.go (fun _ kk_ => XS.iloadN X0.here hx rfl (hb hby d2_1) rfl  kk_) ?_
  show G s₁ (mkF m 2 #[.val (.int a), .val (.int b)] [(.int b), (.int a)])
  by_cases c2 : b < a
  · refine hs.go (fun _ kk_ => XS.icmpYes X0.here hx rfl (pc0 := 2) (pc' := 9) rfl (hb hby d2_2) rfl (tlt c2).2.2.1 (by decide) (by decide) kk_) ?_
    show G s₁ (mkF m 9 #[.val (.int a), .val (.int b)] [])
    refine hs.go (fun _ kk_ => XS.iloadN X0.here hx rfl (hb hby d2_9) rfl  kk_) ?_
    show G s₁ (mkF m 10 #[.val (.int a), .val (.int b)] [(.int b)])
    exact rRetI fin X0 hx (by decide) (by decide) hret (hb hby d2_10) ⟨by rw [f2, if_pos c2], rfl⟩
  · refine hs.go (fun _ kk_ => XS.icmpNo X0.here hx rfl (hb hby d2_2) rfl (flt c2).2.2.1 kk_) ?_
    show G s₁ (mkF m 5 #[.val (.int a), .val (.int b)] [])
    refine hs.go (fun _ kk_ => XS.iloadN X0.here hx rfl (hb hby d2_5) rfl  kk_) ?_
    show G s₁ (mkF m 6 #[.val (.int a), .val (.int b)] [(.int a)])
    refine hs.go (fun _ kk_ => XS.goto X0.here hx rfl (pc0 := 6) (pc' := 10) rfl (hb hby d2_6) (by decide) (by decide) kk_) ?_
    show G s₁ (mkF m 10 #[.val (.int a), .val (.int b)] [(.int a)])
    exact rRetI fin X0 hx (by decide) (by decide) hret (hb hby d2_10) ⟨by rw [f2, if_neg c2], rfl⟩
def f3 (a : Int32) (b : Int32) : Int32 := (if a < b then b else a)
theorem d3_0 : decode jdk_29_method_65_code 0 = .ok (.iload_n 0, 1) := by decide +kernel
theorem d3_1 : decode jdk_29_method_65_code 1 = .ok (.iload_n 1, 1) := by decide +kernel
theorem d3_2 : decode jdk_29_method_65_code 2 = .ok (.if_icmp .lt 7, 3) := by decide +kernel
theorem d3_5 : decode jdk_29_method_65_code 5 = .ok (.iload_n 0, 1) := by decide +kernel
theorem d3_6 : decode jdk_29_method_65_code 6 = .ok (.goto 4, 3) := by decide +kernel
theorem d3_9 : decode jdk_29_method_65_code 9 = .ok (.iload_n 1, 1) := by decide +kernel
theorem d3_10 : decode jdk_29_method_65_code 10 = .ok (.ireturn, 1) := by decide +kernel
theorem pn_3 : plainFor (⟨"java/lang/Math", "max", "(II)I"⟩ : MethodName) = true := Jvm.Free.JP.mathPlain rfl (by decide +kernel)
theorem ef_3 (m : MethodId) (x0 : Int32) (x1 : Int32) : entryFrame m #[(.int x0), (.int x1)] 2 = mkF m 0 #[.val (.int x0), .val (.int x1)] [] := by first | (simp [entryFrame, mkF, argsToLocals, Value.category]; done) | rfl
theorem hy_3 : ((⟨"java/lang/Math", "max", "(II)I"⟩ : MethodName)).cls ≠ "java/lang/invoke/MethodHandle" ∧ ((⟨"java/lang/Math", "max", "(II)I"⟩ : MethodName)).cls ≠ "java/lang/invoke/VarHandle" := by decide
set_option maxRecDepth 65536 in
set_option maxHeartbeats 40000000 in
theorem rm3 (l : Launch) (Z : State) (a0 : Array Value) (hw : ∀ d ∈ tables_1, d.before a0 Z = true) (ws : List Jvm.Cond) (a : Int32) (b : Int32) (h0 : Heap) (n0 : Nat) (Z0 : n0 ≤ h0.size)  :
    Con l Z (⟨"java/lang/Math", "max", "(II)I"⟩ : MethodName) jdk_29_method_65_code 2 (some .int) ws ({ frames := 0, cells := 0, slots := 0, locals := 0 } : Room) #[(.int a), (.int b)] h0 n0 (fun v h => v = some (.int (f3 a b)) ∧ h = h0) := by
  refine Con.of pn_3 ?_
  intro G p e s m below meth c s₁ hs hx hby hml hown hnm hret hZ X0 fin
  have hml : c.maxLocals = 2 := hml
  have hown : s.vm.findClass "java/lang/Math" = some m.cls := hown
  rw [ef_3]
  show G s₁ (mkF m 0 #[.val (.int a), .val (.int b)] [])
  refine hs.go (fun _ kk_ => XS.iloadN X0.here hx rfl (hb hby d3_0) rfl  kk_) ?_
  show G s₁ (mkF m 1 #[.val (.int a), .val (.int b)] [(.int a)])
  refine hs.go (fun _ kk_ => XS.iloadN X0.here hx rfl (hb hby d3_1) rfl  kk_) ?_
  show G s₁ (mkF m 2 #[.val (.int a), .val (.int b)] [(.int b), (.int a)])
  by_cases c2 : a < b
  · refine hs.go (fun _ kk_ => XS.icmpYes X0.here hx rfl (pc0 := 2) (pc' := 9) rfl (hb hby d3_2) rfl (tlt c2).1 (by decide) (by decide) kk_) ?_
    show G s₁ (mkF m 9 #[.val (.int a), .val (.int b)] [])
    refine hs.go (fun _ kk_ => XS.iloadN X0.here hx rfl (hb hby d3_9) rfl  kk_) ?_
    show G s₁ (mkF m 10 #[.val (.int a), .val (.int b)] [(.int b)])
    exact rRetI fin X0 hx (by decide) (by decide) hret (hb hby d3_10) ⟨by rw [f3, if_pos c2], rfl⟩
  · refine hs.go (fun _ kk_ => XS.icmpNo X0.here hx rfl (hb hby d3_2) rfl (flt c2).1 kk_) ?_
    show G s₁ (mkF m 5 #[.val (.int a), .val (.int b)] [])
    refine hs.go (fun _ kk_ => XS.iloadN X0.here hx rfl (hb hby d3_5) rfl  kk_) ?_
    show G s₁ (mkF m 6 #[.val (.int a), .val (.int b)] [(.int a)])
    refine hs.go (fun _ kk_ => XS.goto X0.here hx rfl (pc0 := 6) (pc' := 10) rfl (hb hby d3_6) (by decide) (by decide) kk_) ?_
    show G s₁ (mkF m 10 #[.val (.int a), .val (.int b)] [(.int a)])
    exact rRetI fin X0 hx (by decide) (by decide) hret (hb hby d3_10) ⟨by rw [f3, if_neg c2], rfl⟩
def f4 (i : Int32) (b : Int32) (lo : Int32) (hi : Int32) : Int32 := (if i < lo then (1 : Int32) else (if i < hi then (if b = (0 : Int32) then (1 : Int32) else (0 : Int32)) else (1 : Int32)))
theorem d4_0 : decode method_3_code 0 = .ok (.iload_n 2, 1) := by decide +kernel
theorem d4_1 : decode method_3_code 1 = .ok (.iload_n 0, 1) := by decide +kernel
theorem d4_2 : decode method_3_code 2 = .ok (.if_icmp .gt 12, 3) := by decide +kernel
theorem d4_5 : decode method_3_code 5 = .ok (.iload_n 0, 1) := by decide +kernel
theorem d4_6 : decode method_3_code 6 = .ok (.iload_n 3, 1) := by decide +kernel
theorem d4_7 : decode method_3_code 7 = .ok (.if_icmp .ge 7, 3) := by decide +kernel
theorem d4_10 : decode method_3_code 10 = .ok (.iconst 1, 1) := by decide +kernel
theorem d4_11 : decode method_3_code 11 = .ok (.goto 4, 3) := by decide +kernel
theorem d4_14 : decode method_3_code 14 = .ok (.iconst 0, 1) := by decide +kernel
theorem d4_15 : decode method_3_code 15 = .ok (.istore 4, 2) := by decide +kernel
theorem d4_17 : decode method_3_code 17 = .ok (.iload 4, 2) := by decide +kernel
theorem d4_19 : decode method_3_code 19 = .ok (.ifCond .eq 7, 3) := by decide +kernel
theorem d4_22 : decode method_3_code 22 = .ok (.iload_n 1, 1) := by decide +kernel
theorem d4_23 : decode method_3_code 23 = .ok (.ifCond .ne 7, 3) := by decide +kernel
theorem d4_26 : decode method_3_code 26 = .ok (.iconst 1, 1) := by decide +kernel
theorem d4_27 : decode method_3_code 27 = .ok (.goto 4, 3) := by decide +kernel
theorem d4_30 : decode method_3_code 30 = .ok (.iconst 0, 1) := by decide +kernel
theorem d4_31 : decode method_3_code 31 = .ok (.ireturn, 1) := by decide +kernel
theorem pn_4 : plainFor (⟨"com/example/redoubt/redoubt/storage/ZeroBytesAllPinLaw", "okAt", "(IBII)Z"⟩ : MethodName) = true := plainFor_of_name (by first | (simp [plainName, overriddenIn]; done) | decide +kernel)
theorem ef_4 (m : MethodId) (x0 : Int32) (x1 : Int32) (x2 : Int32) (x3 : Int32) : entryFrame m #[(.int x0), (.int x1), (.int x2), (.int x3)] 5 = mkF m 0 #[.val (.int x0), .val (.int x1), .val (.int x2), .val (.int x3), .unset] [] := by first | (simp [entryFrame, mkF, argsToLocals, Value.category]; done) | rfl
theorem hy_4 : ((⟨"com/example/redoubt/redoubt/storage/ZeroBytesAllPinLaw", "okAt", "(IBII)Z"⟩ : MethodName)).cls ≠ "java/lang/invoke/MethodHandle" ∧ ((⟨"com/example/redoubt/redoubt/storage/ZeroBytesAllPinLaw", "okAt", "(IBII)Z"⟩ : MethodName)).cls ≠ "java/lang/invoke/VarHandle" := by decide
set_option maxRecDepth 65536 in
set_option maxHeartbeats 40000000 in
theorem rm4 (l : Launch) (Z : State) (a0 : Array Value) (hw : ∀ d ∈ tables_1, d.before a0 Z = true) (ws : List Jvm.Cond) (i : Int32) (b : Int32) (lo : Int32) (hi : Int32) (h0 : Heap) (n0 : Nat) (Z0 : n0 ≤ h0.size)  :
    Con l Z (⟨"com/example/redoubt/redoubt/storage/ZeroBytesAllPinLaw", "okAt", "(IBII)Z"⟩ : MethodName) method_3_code 5 (some .boolean) ws ({ frames := 0, cells := 0, slots := 0, locals := 0 } : Room) #[(.int i), (.int b), (.int lo), (.int hi)] h0 n0 (fun v h => v = some (.int (f4 i b lo hi)) ∧ h = h0) := by
  refine Con.of pn_4 ?_
  intro G p e s m below meth c s₁ hs hx hby hml hown hnm hret hZ X0 fin
  have hml : c.maxLocals = 5 := hml
  have hown : s.vm.findClass "com/example/redoubt/redoubt/storage/ZeroBytesAllPinLaw" = some m.cls := hown
  rw [ef_4]
  show G s₁ (mkF m 0 #[.val (.int i), .val (.int b), .val (.int lo), .val (.int hi), .unset] [])
  refine hs.go (fun _ kk_ => XS.iloadN X0.here hx rfl (hb hby d4_0) rfl  kk_) ?_
  show G s₁ (mkF m 1 #[.val (.int i), .val (.int b), .val (.int lo), .val (.int hi), .unset] [(.int lo)])
  refine hs.go (fun _ kk_ => XS.iloadN X0.here hx rfl (hb hby d4_1) rfl  kk_) ?_
  show G s₁ (mkF m 2 #[.val (.int i), .val (.int b), .val (.int lo), .val (.int hi), .unset] [(.int i), (.int lo)])
  by_cases c2 : i < lo
  · refine hs.go (fun _ kk_ => XS.icmpYes X0.here hx rfl (pc0 := 2) (pc' := 14) rfl (hb hby d4_2) rfl (tlt c2).2.2.1 (by decide) (by decide) kk_) ?_
    show G s₁ (mkF m 14 #[.val (.int i), .val (.int b), .val (.int lo), .val (.int hi), .unset] [])
    refine hs.go (fun _ kk_ => XS.iconst X0.here hx rfl (hb hby d4_14) kk_) ?_
    show G s₁ (mkF m 15 #[.val (.int i), .val (.int b), .val (.int lo), .val (.int hi), .unset] [(.int (0 : Int32))])
    refine hs.go (fun _ kk_ => XS.istore X0.here hx rfl (hb hby d4_15) rfl (l' := #[.val (.int i), .val (.int b), .val (.int lo), .val (.int hi), .val (.int (0 : Int32))]) rfl kk_) ?_
    show G s₁ (mkF m 17 #[.val (.int i), .val (.int b), .val (.int lo), .val (.int hi), .val (.int (0 : Int32))] [])
    refine hs.go (fun _ kk_ => XS.iload X0.here hx rfl (hb hby d4_17) rfl  kk_) ?_
    show G s₁ (mkF m 19 #[.val (.int i), .val (.int b), .val (.int lo), .val (.int hi), .val (.int (0 : Int32))] [(.int (0 : Int32))])
    refine hs.go (fun _ kk_ => XS.ifYes X0.here hx rfl (pc0 := 19) (pc' := 26) rfl (hb hby d4_19) rfl ((if0 _ _).trans (teq (rfl : (0 : Int32) = (0 : Int32))).1) (by decide) (by decide) kk_) ?_
    show G s₁ (mkF m 26 #[.val (.int i), .val (.int b), .val (.int lo), .val (.int hi), .val (.int (0 : Int32))] [])
    refine hs.go (fun _ kk_ => XS.iconst X0.here hx rfl (hb hby d4_26) kk_) ?_
    show G s₁ (mkF m 27 #[.val (.int i), .val (.int b), .val (.int lo), .val (.int hi), .val (.int (0 : Int32))] [(.int (1 : Int32))])
    refine hs.go (fun _ kk_ => XS.goto X0.here hx rfl (pc0 := 27) (pc' := 31) rfl (hb hby d4_27) (by decide) (by decide) kk_) ?_
    show G s₁ (mkF m 31 #[.val (.int i), .val (.int b), .val (.int lo), .val (.int hi), .val (.int (0 : Int32))] [(.int (1 : Int32))])
    exact rRetN fin X0 hx (by decide) (by decide) hret (by simp) (hb hby d4_31) (z' := (1 : Int32)) (by decide) ⟨by rw [f4, if_pos c2], rfl⟩
  · refine hs.go (fun _ kk_ => XS.icmpNo X0.here hx rfl (hb hby d4_2) rfl (flt c2).2.2.1 kk_) ?_
    show G s₁ (mkF m 5 #[.val (.int i), .val (.int b), .val (.int lo), .val (.int hi), .unset] [])
    refine hs.go (fun _ kk_ => XS.iloadN X0.here hx rfl (hb hby d4_5) rfl  kk_) ?_
    show G s₁ (mkF m 6 #[.val (.int i), .val (.int b), .val (.int lo), .val (.int hi), .unset] [(.int i)])
    refine hs.go (fun _ kk_ => XS.iloadN X0.here hx rfl (hb hby d4_6) rfl  kk_) ?_
    show G s₁ (mkF m 7 #[.val (.int i), .val (.int b), .val (.int lo), .val (.int hi), .unset] [(.int hi), (.int i)])
    by_cases c7 : i < hi
    · refine hs.go (fun _ kk_ => XS.icmpNo X0.here hx rfl (hb hby d4_7) rfl (tlt c7).2.1 kk_) ?_
      show G s₁ (mkF m 10 #[.val (.int i), .val (.int b), .val (.int lo), .val (.int hi), .unset] [])
      refine hs.go (fun _ kk_ => XS.iconst X0.here hx rfl (hb hby d4_10) kk_) ?_
      show G s₁ (mkF m 11 #[.val (.int i), .val (.int b), .val (.int lo), .val (.int hi), .unset] [(.int (1 : Int32))])
      refine hs.go (fun _ kk_ => XS.goto X0.here hx rfl (pc0 := 11) (pc' := 15) rfl (hb hby d4_11) (by decide) (by decide) kk_) ?_
      show G s₁ (mkF m 15 #[.val (.int i), .val (.int b), .val (.int lo), .val (.int hi), .unset] [(.int (1 : Int32))])
      refine hs.go (fun _ kk_ => XS.istore X0.here hx rfl (hb hby d4_15) rfl (l' := #[.val (.int i), .val (.int b), .val (.int lo), .val (.int hi), .val (.int (1 : Int32))]) rfl kk_) ?_
      show G s₁ (mkF m 17 #[.val (.int i), .val (.int b), .val (.int lo), .val (.int hi), .val (.int (1 : Int32))] [])
      refine hs.go (fun _ kk_ => XS.iload X0.here hx rfl (hb hby d4_17) rfl  kk_) ?_
      show G s₁ (mkF m 19 #[.val (.int i), .val (.int b), .val (.int lo), .val (.int hi), .val (.int (1 : Int32))] [(.int (1 : Int32))])
      refine hs.go (fun _ kk_ => XS.ifNo X0.here hx rfl (hb hby d4_19) rfl ((if0 _ _).trans (feq ((by decide) : ¬ ((1 : Int32) = (0 : Int32)))).1) kk_) ?_
      show G s₁ (mkF m 22 #[.val (.int i), .val (.int b), .val (.int lo), .val (.int hi), .val (.int (1 : Int32))] [])
      refine hs.go (fun _ kk_ => XS.iloadN X0.here hx rfl (hb hby d4_22) rfl  kk_) ?_
      show G s₁ (mkF m 23 #[.val (.int i), .val (.int b), .val (.int lo), .val (.int hi), .val (.int (1 : Int32))] [(.int b)])
      by_cases c23 : b = (0 : Int32)
      · refine hs.go (fun _ kk_ => XS.ifNo X0.here hx rfl (hb hby d4_23) rfl ((if0 _ _).trans (teq c23).2) kk_) ?_
        show G s₁ (mkF m 26 #[.val (.int i), .val (.int b), .val (.int lo), .val (.int hi), .val (.int (1 : Int32))] [])
        refine hs.go (fun _ kk_ => XS.iconst X0.here hx rfl (hb hby d4_26) kk_) ?_
        show G s₁ (mkF m 27 #[.val (.int i), .val (.int b), .val (.int lo), .val (.int hi), .val (.int (1 : Int32))] [(.int (1 : Int32))])
        refine hs.go (fun _ kk_ => XS.goto X0.here hx rfl (pc0 := 27) (pc' := 31) rfl (hb hby d4_27) (by decide) (by decide) kk_) ?_
        show G s₁ (mkF m 31 #[.val (.int i), .val (.int b), .val (.int lo), .val (.int hi), .val (.int (1 : Int32))] [(.int (1 : Int32))])
        exact rRetN fin X0 hx (by decide) (by decide) hret (by simp) (hb hby d4_31) (z' := (1 : Int32)) (by decide) ⟨by rw [f4, if_neg c2, if_pos c7, if_pos c23], rfl⟩
      · refine hs.go (fun _ kk_ => XS.ifYes X0.here hx rfl (pc0 := 23) (pc' := 30) rfl (hb hby d4_23) rfl ((if0 _ _).trans (feq c23).2) (by decide) (by decide) kk_) ?_
        show G s₁ (mkF m 30 #[.val (.int i), .val (.int b), .val (.int lo), .val (.int hi), .val (.int (1 : Int32))] [])
        refine hs.go (fun _ kk_ => XS.iconst X0.here hx rfl (hb hby d4_30) kk_) ?_
        show G s₁ (mkF m 31 #[.val (.int i), .val (.int b), .val (.int lo), .val (.int hi), .val (.int (1 : Int32))] [(.int (0 : Int32))])
        exact rRetN fin X0 hx (by decide) (by decide) hret (by simp) (hb hby d4_31) (z' := (0 : Int32)) (by decide) ⟨by rw [f4, if_neg c2, if_pos c7, if_neg c23], rfl⟩
    · refine hs.go (fun _ kk_ => XS.icmpYes X0.here hx rfl (pc0 := 7) (pc' := 14) rfl (hb hby d4_7) rfl (flt c7).2.1 (by decide) (by decide) kk_) ?_
      show G s₁ (mkF m 14 #[.val (.int i), .val (.int b), .val (.int lo), .val (.int hi), .unset] [])
      refine hs.go (fun _ kk_ => XS.iconst X0.here hx rfl (hb hby d4_14) kk_) ?_
      show G s₁ (mkF m 15 #[.val (.int i), .val (.int b), .val (.int lo), .val (.int hi), .unset] [(.int (0 : Int32))])
      refine hs.go (fun _ kk_ => XS.istore X0.here hx rfl (hb hby d4_15) rfl (l' := #[.val (.int i), .val (.int b), .val (.int lo), .val (.int hi), .val (.int (0 : Int32))]) rfl kk_) ?_
      show G s₁ (mkF m 17 #[.val (.int i), .val (.int b), .val (.int lo), .val (.int hi), .val (.int (0 : Int32))] [])
      refine hs.go (fun _ kk_ => XS.iload X0.here hx rfl (hb hby d4_17) rfl  kk_) ?_
      show G s₁ (mkF m 19 #[.val (.int i), .val (.int b), .val (.int lo), .val (.int hi), .val (.int (0 : Int32))] [(.int (0 : Int32))])
      refine hs.go (fun _ kk_ => XS.ifYes X0.here hx rfl (pc0 := 19) (pc' := 26) rfl (hb hby d4_19) rfl ((if0 _ _).trans (teq (rfl : (0 : Int32) = (0 : Int32))).1) (by decide) (by decide) kk_) ?_
      show G s₁ (mkF m 26 #[.val (.int i), .val (.int b), .val (.int lo), .val (.int hi), .val (.int (0 : Int32))] [])
      refine hs.go (fun _ kk_ => XS.iconst X0.here hx rfl (hb hby d4_26) kk_) ?_
      show G s₁ (mkF m 27 #[.val (.int i), .val (.int b), .val (.int lo), .val (.int hi), .val (.int (0 : Int32))] [(.int (1 : Int32))])
      refine hs.go (fun _ kk_ => XS.goto X0.here hx rfl (pc0 := 27) (pc' := 31) rfl (hb hby d4_27) (by decide) (by decide) kk_) ?_
      show G s₁ (mkF m 31 #[.val (.int i), .val (.int b), .val (.int lo), .val (.int hi), .val (.int (0 : Int32))] [(.int (1 : Int32))])
      exact rRetN fin X0 hx (by decide) (by decide) hret (by simp) (hb hby d4_31) (z' := (1 : Int32)) (by decide) ⟨by rw [f4, if_neg c2, if_neg c7], rfl⟩

def zall (bs : List Int32) (n : Nat) : Nat → Int32
  | 0 => 1
  | k + 1 => if bs.getD n 0 = 0 then zall bs (n + 1) k else 0
theorem own_zall (bs : List Int32) : ∀ (k n : Nat), (zall bs n k = 1 ∧ ∀ i, n ≤ i → i < n + k → bs.getD i 0 = 0) ∨ (zall bs n k = 0 ∧ ∃ i, n ≤ i ∧ i < n + k ∧ ¬ bs.getD i 0 = 0) := by
  intro k
  induction k with
  | zero => intro n; exact Or.inl ⟨rfl, fun i h1 h2 => by omega⟩
  | succ k ih =>
    intro n
    by_cases c : bs.getD n 0 = 0
    · have e : zall bs n (k + 1) = zall bs (n + 1) k := by rw [zall, if_pos c]
      rw [e]
      rcases ih (n + 1) with ⟨h1, h2⟩ | ⟨h1, i, h2, h3, h4⟩
      · refine Or.inl ⟨h1, fun i h3 h4 => ?_⟩
        rcases Nat.lt_or_ge n i with h5 | h5
        · exact h2 i h5 (by omega)
        · have : i = n := by omega
          rw [this]; exact c
      · exact Or.inr ⟨h1, i, by omega, by omega, h4⟩
    · have e : zall bs n (k + 1) = 0 := by rw [zall, if_neg c]
      exact Or.inr ⟨e, n, by omega, by omega, c⟩
theorem own_at (b0 b1 b2 b3 i : Int32) (n : Nat) (h : i.toInt = n) (h4 : n < 4) : List.getD [Value.int b0, .int b1, .int b2, .int b3] i.toNatClampNeg (.int (0 : Int32)) = .int (List.getD [b0, b1, b2, b3] n 0) := by
  have e : i.toNatClampNeg = n := by simp only [Int32.toNatClampNeg, h]; rfl
  rw [e]
  rcases n with _ | _ | _ | _ | n
  · rfl
  · rfl
  · rfl
  · rfl
  · omega

theorem d5_0 : decode prog_134_method_3_code 0 = .ok (.iload_n 1, 1) := by decide +kernel
theorem d5_1 : decode prog_134_method_3_code 1 = .ok (.istore_n 3, 1) := by decide +kernel
theorem d5_2 : decode prog_134_method_3_code 2 = .ok (.iload_n 3, 1) := by decide +kernel
theorem d5_3 : decode prog_134_method_3_code 3 = .ok (.iload_n 2, 1) := by decide +kernel
theorem d5_4 : decode prog_134_method_3_code 4 = .ok (.if_icmp .ge 17, 3) := by decide +kernel
theorem d5_7 : decode prog_134_method_3_code 7 = .ok (.aload_n 0, 1) := by decide +kernel
theorem d5_8 : decode prog_134_method_3_code 8 = .ok (.iload_n 3, 1) := by decide +kernel
theorem d5_9 : decode prog_134_method_3_code 9 = .ok (.baload, 1) := by decide +kernel
theorem d5_10 : decode prog_134_method_3_code 10 = .ok (.ifCond .eq 5, 3) := by decide +kernel
theorem d5_13 : decode prog_134_method_3_code 13 = .ok (.iconst 0, 1) := by decide +kernel
theorem d5_14 : decode prog_134_method_3_code 14 = .ok (.ireturn, 1) := by decide +kernel
theorem d5_15 : decode prog_134_method_3_code 15 = .ok (.iinc 3 1, 3) := by decide +kernel
theorem d5_18 : decode prog_134_method_3_code 18 = .ok (.goto (-16), 3) := by decide +kernel
theorem d5_21 : decode prog_134_method_3_code 21 = .ok (.iconst 1, 1) := by decide +kernel
theorem d5_22 : decode prog_134_method_3_code 22 = .ok (.ireturn, 1) := by decide +kernel
theorem pn_5 : plainFor (⟨"com/example/redoubt/redoubt/storage/ZeroBytes", "all", "([BII)Z"⟩ : MethodName) = true := plainFor_of_name (by first | (simp [plainName, overriddenIn]; done) | decide +kernel)
theorem ef_5 (m : MethodId) (x0 : Addr) (x1 : Int32) (x2 : Int32) : entryFrame m #[(.ref x0), (.int x1), (.int x2)] 4 = mkF m 0 #[.val (.ref x0), .val (.int x1), .val (.int x2), .unset] [] := by first | (simp [entryFrame, mkF, argsToLocals, Value.category]; done) | rfl
theorem hy_5 : ((⟨"com/example/redoubt/redoubt/storage/ZeroBytes", "all", "([BII)Z"⟩ : MethodName)).cls ≠ "java/lang/invoke/MethodHandle" ∧ ((⟨"com/example/redoubt/redoubt/storage/ZeroBytes", "all", "([BII)Z"⟩ : MethodName)).cls ≠ "java/lang/invoke/VarHandle" := by decide
set_option maxRecDepth 65536 in
set_option maxHeartbeats 40000000 in
theorem rm5 (l : Launch) (Z : State) (a0 : Array Value) (hw : ∀ d ∈ tables_1, d.before a0 Z = true) (ws : List Jvm.Cond) (a : Addr) (p1 p2 b0 b1 b2 b3 : Int32) (kc : ClassId) (n1 k1 : Nat) (h0 : Heap) (n0 : Nat) (Z0 : n0 ≤ h0.size) (V_a : Arv Z h0 a kc .byte (4 : Int32) [.int b0, .int b1, .int b2, .int b3] (.int (0 : Int32))) (hn1 : p1.toInt = n1) (hk1 : p2.toInt = (n1 + k1 : Nat)) (h14 : n1 + k1 ≤ 4) :
    Con l Z (⟨"com/example/redoubt/redoubt/storage/ZeroBytes", "all", "([BII)Z"⟩ : MethodName) prog_134_method_3_code 4 (some .boolean) ws ({ frames := 0, cells := 0, slots := 0, locals := 0 } : Room) #[(.ref a), (.int p1), (.int p2)] h0 n0 (fun v h => v = some (.int (zall [b0, b1, b2, b3] n1 k1)) ∧ h = h0) := by
  refine Con.of pn_5 ?_
  intro G p e s m below meth c s₁ hs hx hby hml hown hnm hret hZ X0 fin
  have hml : c.maxLocals = 4 := hml
  have hown : s.vm.findClass "com/example/redoubt/redoubt/storage/ZeroBytes" = some m.cls := hown
  rw [ef_5]
  show G s₁ (mkF m 0 #[.val (.ref a), .val (.int p1), .val (.int p2), .unset] [])
  refine hs.go (fun _ kk_ => XS.iloadN X0.here hx rfl (hb hby d5_0) rfl  kk_) ?_
  show G s₁ (mkF m 1 #[.val (.ref a), .val (.int p1), .val (.int p2), .unset] [(.int p1)])
  refine hs.go (fun _ kk_ => XS.istoreN X0.here hx rfl (hb hby d5_1) rfl (l' := #[.val (.ref a), .val (.int p1), .val (.int p2), .val (.int p1)]) rfl kk_) ?_
  show G s₁ (mkF m 2 #[.val (.ref a), .val (.int p1), .val (.int p2), .val (.int p1)] [])
  have loop : ∀ (k : Nat) (i : Int32) (n : Nat), i.toInt = n → p2.toInt = (n + k : Nat) → n + k ≤ 4 → zall [b0, b1, b2, b3] n k = zall [b0, b1, b2, b3] n1 k1 → G s₁ (mkF m 2 #[.val (.ref a), .val (.int p1), .val (.int p2), .val (.int i)] []) := by
    intro k
    induction k with
    | zero =>
      intro i n hi hp h4 hr
      show G s₁ (mkF m 2 #[.val (.ref a), .val (.int p1), .val (.int p2), .val (.int i)] [])
      refine hs.go (fun _ kk_ => XS.iloadN X0.here hx rfl (hb hby d5_2) rfl  kk_) ?_
      show G s₁ (mkF m 3 #[.val (.ref a), .val (.int p1), .val (.int p2), .val (.int i)] [(.int i)])
      refine hs.go (fun _ kk_ => XS.iloadN X0.here hx rfl (hb hby d5_3) rfl  kk_) ?_
      show G s₁ (mkF m 4 #[.val (.ref a), .val (.int p1), .val (.int p2), .val (.int i)] [(.int p2), (.int i)])
      refine hs.go (fun _ kk_ => XS.icmpYes X0.here hx rfl (pc0 := 4) (pc' := 21) rfl (hb hby d5_4) rfl (flt ((by rw [lt32]; omega) : ¬ (i < p2))).2.1 (by decide) (by decide) kk_) ?_
      show G s₁ (mkF m 21 #[.val (.ref a), .val (.int p1), .val (.int p2), .val (.int i)] [])
      refine hs.go (fun _ kk_ => XS.iconst X0.here hx rfl (hb hby d5_21) kk_) ?_
      show G s₁ (mkF m 22 #[.val (.ref a), .val (.int p1), .val (.int p2), .val (.int i)] [(.int (1 : Int32))])
      exact rRetN fin X0 hx (by decide) (by decide) hret (by simp) (hb hby d5_22) (z' := (1 : Int32)) (by decide) ⟨by rw [← hr]; rfl, rfl⟩
    | succ k ih =>
      intro i n hi hp h4 hr
      show G s₁ (mkF m 2 #[.val (.ref a), .val (.int p1), .val (.int p2), .val (.int i)] [])
      refine hs.go (fun _ kk_ => XS.iloadN X0.here hx rfl (hb hby d5_2) rfl  kk_) ?_
      show G s₁ (mkF m 3 #[.val (.ref a), .val (.int p1), .val (.int p2), .val (.int i)] [(.int i)])
      refine hs.go (fun _ kk_ => XS.iloadN X0.here hx rfl (hb hby d5_3) rfl  kk_) ?_
      show G s₁ (mkF m 4 #[.val (.ref a), .val (.int p1), .val (.int p2), .val (.int i)] [(.int p2), (.int i)])
      refine hs.go (fun _ kk_ => XS.icmpNo X0.here hx rfl (hb hby d5_4) rfl (tlt ((by rw [lt32]; omega) : i < p2)).2.1 kk_) ?_
      show G s₁ (mkF m 7 #[.val (.ref a), .val (.int p1), .val (.int p2), .val (.int i)] [])
      refine hs.go (fun _ kk_ => XS.aloadN X0.here hx rfl (hb hby d5_7) rfl rfl kk_) ?_
      show G s₁ (mkF m 8 #[.val (.ref a), .val (.int p1), .val (.int p2), .val (.int i)] [(.ref a)])
      refine hs.go (fun _ kk_ => XS.iloadN X0.here hx rfl (hb hby d5_8) rfl  kk_) ?_
      show G s₁ (mkF m 9 #[.val (.ref a), .val (.int p1), .val (.int p2), .val (.int i)] [(.int i), (.ref a)])
      refine rLdB hs X0 hx hZ V_a ⟨by rw [lt32]; have k0 : (0 : Int32).toInt = 0 := rfl; omega, by rw [lt32]; have k4 : (4 : Int32).toInt = 4 := rfl; omega⟩ (v := (.int (List.getD [b0, b1, b2, b3] n 0))) (own_at b0 b1 b2 b3 i n hi (by omega)) rfl rfl (hb hby d5_9) ?_
      show G s₁ (mkF m 10 #[.val (.ref a), .val (.int p1), .val (.int p2), .val (.int i)] [(.int (List.getD [b0, b1, b2, b3] n 0))])
      by_cases c10 : (List.getD [b0, b1, b2, b3] n 0) = (0 : Int32)
      · refine hs.go (fun _ kk_ => XS.ifYes X0.here hx rfl (pc0 := 10) (pc' := 15) rfl (hb hby d5_10) rfl ((if0 _ _).trans (teq c10).1) (by decide) (by decide) kk_) ?_
        show G s₁ (mkF m 15 #[.val (.ref a), .val (.int p1), .val (.int p2), .val (.int i)] [])
        refine hs.go (fun _ kk_ => XS.iinc X0.here hx rfl (hb hby d5_15) rfl (l' := #[.val (.ref a), .val (.int p1), .val (.int p2), .val (.int (i + (1 : Int32)))]) rfl kk_) ?_
        show G s₁ (mkF m 18 #[.val (.ref a), .val (.int p1), .val (.int p2), .val (.int (i + (1 : Int32)))] [])
        refine hs.go (fun _ kk_ => XS.goto X0.here hx rfl (pc0 := 18) (pc' := 2) rfl (hb hby d5_18) (by decide) (by decide) kk_) ?_
        show G s₁ (mkF m 2 #[.val (.ref a), .val (.int p1), .val (.int p2), .val (.int (i + (1 : Int32)))] [])
        exact ih _ (n + 1) (by have q := c_iadd i 1; have r := rng32 (i + 1); have k1 : (1 : Int32).toInt = 1 := rfl; omega) (by omega) (by omega) (by rw [← hr, zall, if_pos c10])
      · refine hs.go (fun _ kk_ => XS.ifNo X0.here hx rfl (hb hby d5_10) rfl ((if0 _ _).trans (feq c10).1) kk_) ?_
        show G s₁ (mkF m 13 #[.val (.ref a), .val (.int p1), .val (.int p2), .val (.int i)] [])
        refine hs.go (fun _ kk_ => XS.iconst X0.here hx rfl (hb hby d5_13) kk_) ?_
        show G s₁ (mkF m 14 #[.val (.ref a), .val (.int p1), .val (.int p2), .val (.int i)] [(.int (0 : Int32))])
        exact rRetN fin X0 hx (by decide) (by decide) hret (by simp) (hb hby d5_14) (z' := (0 : Int32)) (by decide) ⟨by rw [← hr, zall, if_neg c10], rfl⟩
  exact loop k1 p1 n1 hn1 hk1 h14 rfl

theorem own_ft {x f : Int32} (h : f = ((x &&& (2147483647 : Int32)) % (5 : Int32))) : 0 ≤ f.toInt ∧ f.toInt ≤ 4 := by
  have a := (c_and x 2147483647 (by decide)).1
  have b := (c_irem (x &&& (2147483647 : Int32)) 5 5 rfl).1 a
  rw [h]; omega
theorem own_lohi {f t lo hi : Int32} (hf : 0 ≤ f.toInt ∧ f.toInt ≤ 4) (ht : 0 ≤ t.toInt ∧ t.toInt ≤ 4) (hlo : lo = f2 f t) (hhi : hi = f3 f t) : 0 ≤ lo.toInt ∧ lo.toInt ≤ hi.toInt ∧ hi.toInt ≤ 4 := by
  rw [hlo, hhi, f2, f3]
  simp only [lt32]
  repeat' split
  all_goals omega
theorem own_f4 (i b lo hi : Int32) : (f4 i b lo hi = 0 ∧ lo.toInt ≤ i.toInt ∧ i.toInt < hi.toInt ∧ ¬ b.toInt = 0) ∨ (¬ (f4 i b lo hi = 0) ∧ ¬ (lo.toInt ≤ i.toInt ∧ i.toInt < hi.toInt ∧ ¬ b.toInt = 0)) := by
  have k0 : (0 : Int32).toInt = 0 := rfl
  have k1 : ¬ ((1 : Int32) = (0 : Int32)) := by decide
  unfold f4
  simp only [lt32, e32 (x := b), k0]
  repeat' split
  all_goals first
    | exact Or.inl ⟨rfl, by omega, by omega, by omega⟩
    | exact Or.inr ⟨k1, by omega⟩
theorem own_law (b0 b1 b2 b3 lo hi z : Int32) (n k : Nat) (H : 0 ≤ lo.toInt ∧ lo.toInt ≤ hi.toInt ∧ hi.toInt ≤ 4) (hn : lo.toInt = n) (hk : hi.toInt = (n + k : Nat))
    (K : (f4 (0 : Int32) b0 lo hi = (0 : Int32) ∧ z = (0 : Int32)) ∨ (¬ (f4 (0 : Int32) b0 lo hi = (0 : Int32)) ∧ f4 (1 : Int32) b1 lo hi = (0 : Int32) ∧ z = (0 : Int32)) ∨ (¬ (f4 (0 : Int32) b0 lo hi = (0 : Int32)) ∧ ¬ (f4 (1 : Int32) b1 lo hi = (0 : Int32)) ∧ f4 (2 : Int32) b2 lo hi = (0 : Int32) ∧ z = (0 : Int32)) ∨ (¬ (f4 (0 : Int32) b0 lo hi = (0 : Int32)) ∧ ¬ (f4 (1 : Int32) b1 lo hi = (0 : Int32)) ∧ ¬ (f4 (2 : Int32) b2 lo hi = (0 : Int32)) ∧ f4 (3 : Int32) b3 lo hi = (0 : Int32) ∧ z = (0 : Int32)) ∨ (¬ (f4 (0 : Int32) b0 lo hi = (0 : Int32)) ∧ ¬ (f4 (1 : Int32) b1 lo hi = (0 : Int32)) ∧ ¬ (f4 (2 : Int32) b2 lo hi = (0 : Int32)) ∧ ¬ (f4 (3 : Int32) b3 lo hi = (0 : Int32)) ∧ z = (1 : Int32))) :
    zall [b0, b1, b2, b3] n k = z := by
  have q0 := own_f4 0 b0 lo hi
  have q1 := own_f4 1 b1 lo hi
  have q2 := own_f4 2 b2 lo hi
  have q3 := own_f4 3 b3 lo hi
  have k0 : (0 : Int32).toInt = 0 := rfl
  have k1 : (1 : Int32).toInt = 1 := rfl
  have k2 : (2 : Int32).toInt = 2 := rfl
  have k3 : (3 : Int32).toInt = 3 := rfl
  rw [k0] at q0; rw [k1] at q1; rw [k2] at q2; rw [k3] at q3
  generalize f4 0 b0 lo hi = g0 at *
  generalize f4 1 b1 lo hi = g1 at *
  generalize f4 2 b2 lo hi = g2 at *
  generalize f4 3 b3 lo hi = g3 at *
  simp only [e32, k0, k1] at K q0 q1 q2 q3
  have r0 : g0.toInt = 0 → (lo.toInt ≤ 0 ∧ 0 < hi.toInt ∧ ¬ b0.toInt = 0) := by
    rcases q0 with ⟨-, u⟩ | ⟨u, -⟩
    · exact fun _ => u
    · exact fun v => absurd v u
  have s0 : ¬ g0.toInt = 0 → ¬ (lo.toInt ≤ 0 ∧ 0 < hi.toInt ∧ ¬ b0.toInt = 0) := by
    rcases q0 with ⟨u, -⟩ | ⟨-, u⟩
    · exact fun v => absurd u v
    · exact fun _ => u
  have r1 : g1.toInt = 0 → (lo.toInt ≤ 1 ∧ 1 < hi.toInt ∧ ¬ b1.toInt = 0) := by
    rcases q1 with ⟨-, u⟩ | ⟨u, -⟩
    · exact fun _ => u
    · exact fun v => absurd v u
  have s1 : ¬ g1.toInt = 0 → ¬ (lo.toInt ≤ 1 ∧ 1 < hi.toInt ∧ ¬ b1.toInt = 0) := by
    rcases q1 with ⟨u, -⟩ | ⟨-, u⟩
    · exact fun v => absurd u v
    · exact fun _ => u
  have r2 : g2.toInt = 0 → (lo.toInt ≤ 2 ∧ 2 < hi.toInt ∧ ¬ b2.toInt = 0) := by
    rcases q2 with ⟨-, u⟩ | ⟨u, -⟩
    · exact fun _ => u
    · exact fun v => absurd v u
  have s2 : ¬ g2.toInt = 0 → ¬ (lo.toInt ≤ 2 ∧ 2 < hi.toInt ∧ ¬ b2.toInt = 0) := by
    rcases q2 with ⟨u, -⟩ | ⟨-, u⟩
    · exact fun v => absurd u v
    · exact fun _ => u
  have r3 : g3.toInt = 0 → (lo.toInt ≤ 3 ∧ 3 < hi.toInt ∧ ¬ b3.toInt = 0) := by
    rcases q3 with ⟨-, u⟩ | ⟨u, -⟩
    · exact fun _ => u
    · exact fun v => absurd v u
  have s3 : ¬ g3.toInt = 0 → ¬ (lo.toInt ≤ 3 ∧ 3 < hi.toInt ∧ ¬ b3.toInt = 0) := by
    rcases q3 with ⟨u, -⟩ | ⟨-, u⟩
    · exact fun v => absurd u v
    · exact fun _ => u
  clear q0 q1 q2 q3
  apply eq32
  rcases own_zall [b0, b1, b2, b3] k n with ⟨e, h⟩ | ⟨e, i, h1, h2, h3⟩
  · rw [e, k1]
    rcases K with ⟨y, -⟩ | ⟨-, y, -⟩ | ⟨-, -, y, -⟩ | ⟨-, -, -, y, -⟩ | ⟨-, -, -, -, y⟩
    · exfalso; obtain ⟨u, v, w⟩ := r0 y; have o1 : n ≤ 0 := by omega
      have o2 : 0 < n + k := by omega
      exact w (by have w' : b0 = 0 := h 0 o1 o2; rw [w']; rfl)
    · exfalso; obtain ⟨u, v, w⟩ := r1 y; have o1 : n ≤ 1 := by omega
      have o2 : 1 < n + k := by omega
      exact w (by have w' : b1 = 0 := h 1 o1 o2; rw [w']; rfl)
    · exfalso; obtain ⟨u, v, w⟩ := r2 y; have o1 : n ≤ 2 := by omega
      have o2 : 2 < n + k := by omega
      exact w (by have w' : b2 = 0 := h 2 o1 o2; rw [w']; rfl)
    · exfalso; obtain ⟨u, v, w⟩ := r3 y; have o1 : n ≤ 3 := by omega
      have o2 : 3 < n + k := by omega
      exact w (by have w' : b3 = 0 := h 3 o1 o2; rw [w']; rfl)
    · exact y.symm
  · rw [e, k0]
    rcases K with ⟨-, y⟩ | ⟨-, -, y⟩ | ⟨-, -, -, y⟩ | ⟨-, -, -, -, y⟩ | ⟨y0, y1, y2, y3, -⟩
    · exact y.symm
    · exact y.symm
    · exact y.symm
    · exact y.symm
    · exfalso
      rcases i with _ | _ | _ | _ | i
      · have o1 : lo.toInt ≤ 0 := by omega
        have o2 : 0 < hi.toInt := by omega
        exact s0 y0 ⟨o1, o2, fun u => h3 (eq32 u)⟩
      · have o1 : lo.toInt ≤ 1 := by omega
        have o2 : 1 < hi.toInt := by omega
        exact s1 y1 ⟨o1, o2, fun u => h3 (eq32 u)⟩
      · have o1 : lo.toInt ≤ 2 := by omega
        have o2 : 2 < hi.toInt := by omega
        exact s2 y2 ⟨o1, o2, fun u => h3 (eq32 u)⟩
      · have o1 : lo.toInt ≤ 3 := by omega
        have o2 : 3 < hi.toInt := by omega
        exact s3 y3 ⟨o1, o2, fun u => h3 (eq32 u)⟩
      · omega
theorem own_byte (a : Int32) : (f1 a).toInt8.toInt32 = f1 a := by
  unfold f1
  split
  · exact nar_byte a
  · decide

theorem pd_0 : parseMethodDescriptor "(I)B" = some ⟨[.int], some .byte⟩ := by decide +kernel
theorem pd_1 : parseMethodDescriptor "(II)I" = some ⟨[.int, .int], some .int⟩ := by decide +kernel
theorem pd_2 : parseMethodDescriptor "(IBII)Z" = some ⟨[.int, .byte, .int, .int], some .boolean⟩ := by decide +kernel
theorem pd_3 : parseMethodDescriptor "([BII)Z" = some ⟨[(.array .byte), .int, .int], some .boolean⟩ := by decide +kernel
theorem pn_0 : plainFor x = true := plainFor_of_name (show plainName "com/example/redoubt/redoubt/storage/ZeroBytesAllPinLaw" = true by first | (simp [plainName, overriddenIn]; done) | decide +kernel)
theorem ef_0 (m : MethodId) (x0 : Int32) (x1 : Int32) (x2 : Int32) (x3 : Int32) (x4 : Int32) (x5 : Int32) : entryFrame m #[(.int x0), (.int x1), (.int x2), (.int x3), (.int x4), (.int x5)] maxLocals = mkF m 0 #[.val (.int x0), .val (.int x1), .val (.int x2), .val (.int x3), .val (.int x4), .val (.int x5), .unset, .unset, .unset, .unset, .unset, .unset, .unset, .unset, .unset, .unset, .unset] [] := by first | (simp [entryFrame, mkF, argsToLocals, Value.category, maxLocals]; done) | rfl
set_option maxRecDepth 65536 in
set_option maxHeartbeats 40000000 in
theorem rm0 (l : Launch) (Z : State) (a0 : Array Value) (hw : ∀ d ∈ tables_1, d.before a0 Z = true) (ws : List Jvm.Cond) (p0 p1 p2 p3 p4 p5 : Int32) (h0 : Heap) (n0 : Nat) (Z0 : n0 ≤ h0.size)  :
    Con l Z x code maxLocals ret ws room_1 #[(.int p0), (.int p1), (.int p2), (.int p3), (.int p4), (.int p5)] h0 n0 (fun v h => v = some (.int 1)) := by
  refine Con.of pn_0 ?_
  intro G p e s m below meth c s₁ hs hx hby hml hown hnm hret hZ X0 fin
  have hml : c.maxLocals = 17 := hml
  have hown : s.vm.findClass "com/example/redoubt/redoubt/storage/ZeroBytesAllPinLaw" = some m.cls := hown
  rw [ef_0]
  show G s₁ (mkF m 0 #[.val (.int p0), .val (.int p1), .val (.int p2), .val (.int p3), .val (.int p4), .val (.int p5), .unset, .unset, .unset, .unset, .unset, .unset, .unset, .unset, .unset, .unset, .unset] [])
  refine hs.go (fun _ kk_ => XS.iloadN X0.here hx rfl (hb hby at_0) rfl  kk_) ?_
  show G s₁ (mkF m 1 #[.val (.int p0), .val (.int p1), .val (.int p2), .val (.int p3), .val (.int p4), .val (.int p5), .unset, .unset, .unset, .unset, .unset, .unset, .unset, .unset, .unset, .unset, .unset] [(.int p0)])
  refine rCallS hs X0 hx hZ (as' := [(.int p0)]) (rm1 l Z a0 hw [] p0 h0 n0 Z0) hown (hw _ (List.mem_of_getElem? (i := 0) rfl)) (hw _ (List.mem_of_getElem? (i := 1) rfl)) (hw _ (List.mem_of_getElem? (i := 2) rfl)) (hw _ (List.mem_of_getElem? (i := 3) rfl)) hy_1 rfl (by rw [hml]; rfl) [] (lenOf pd_0 rfl) rfl 0 (by show 2 * 0 + _ ≤ _; exact Nat.le_of_eq rfl) (hb hby at_1) (by decide) (by decide) (by decide) (by decide) (fun r1 T1 h1 X1 q1 => ?_)
  obtain ⟨rfl, qh1⟩ := q1
  rw [qh1] at X1
  show G T1 (mkF m 4 #[.val (.int p0), .val (.int p1), .val (.int p2), .val (.int p3), .val (.int p4), .val (.int p5), .unset, .unset, .unset, .unset, .unset, .unset, .unset, .unset, .unset, .unset, .unset] [(.int (f1 p0))])
  refine nameIt (P := fun zz_ : Int32 => G T1 (mkF m 4 #[.val (.int p0), .val (.int p1), .val (.int p2), .val (.int p3), .val (.int p4), .val (.int p5), .unset, .unset, .unset, .unset, .unset, .unset, .unset, .unset, .unset, .unset, .unset] [(.int zz_)])) (f1 p0) (fun b0 hb0 => ?_)
  show G T1 (mkF m 4 #[.val (.int p0), .val (.int p1), .val (.int p2), .val (.int p3), .val (.int p4), .val (.int p5), .unset, .unset, .unset, .unset, .unset, .unset, .unset, .unset, .unset, .unset, .unset] [(.int b0)])
  refine hs.go (fun _ kk_ => XS.istore X1.here hx rfl (hb hby at_4) rfl (l' := #[.val (.int p0), .val (.int p1), .val (.int p2), .val (.int p3), .val (.int p4), .val (.int p5), .val (.int b0), .unset, .unset, .unset, .unset, .unset, .unset, .unset, .unset, .unset, .unset]) rfl kk_) ?_
  show G T1 (mkF m 6 #[.val (.int p0), .val (.int p1), .val (.int p2), .val (.int p3), .val (.int p4), .val (.int p5), .val (.int b0), .unset, .unset, .unset, .unset, .unset, .unset, .unset, .unset, .unset, .unset] [])
  refine hs.go (fun _ kk_ => XS.iloadN X1.here hx rfl (hb hby at_6) rfl  kk_) ?_
  show G T1 (mkF m 7 #[.val (.int p0), .val (.int p1), .val (.int p2), .val (.int p3), .val (.int p4), .val (.int p5), .val (.int b0), .unset, .unset, .unset, .unset, .unset, .unset, .unset, .unset, .unset, .unset] [(.int p1)])
  refine rCallS hs X1 hx hZ (as' := [(.int p1)]) (rm1 l Z a0 hw [] p1 h0 n0 Z0) hown (hw _ (List.mem_of_getElem? (i := 0) rfl)) (hw _ (List.mem_of_getElem? (i := 1) rfl)) (hw _ (List.mem_of_getElem? (i := 2) rfl)) (hw _ (List.mem_of_getElem? (i := 3) rfl)) hy_1 rfl (by rw [hml]; rfl) [] (lenOf pd_0 rfl) rfl 0 (by show 2 * 0 + _ ≤ _; exact Nat.le_of_eq rfl) (hb hby at_7) (by decide) (by decide) (by decide) (by decide) (fun r2 T2 h2 X2 q2 => ?_)
  obtain ⟨rfl, qh2⟩ := q2
  rw [qh2] at X2
  show G T2 (mkF m 10 #[.val (.int p0), .val (.int p1), .val (.int p2), .val (.int p3), .val (.int p4), .val (.int p5), .val (.int b0), .unset, .unset, .unset, .unset, .unset, .unset, .unset, .unset, .unset, .unset] [(.int (f1 p1))])
  refine nameIt (P := fun zz_ : Int32 => G T2 (mkF m 10 #[.val (.int p0), .val (.int p1), .val (.int p2), .val (.int p3), .val (.int p4), .val (.int p5), .val (.int b0), .unset, .unset, .unset, .unset, .unset, .unset, .unset, .unset, .unset, .unset] [(.int zz_)])) (f1 p1) (fun b1 hb1 => ?_)
  show G T2 (mkF m 10 #[.val (.int p0), .val (.int p1), .val (.int p2), .val (.int p3), .val (.int p4), .val (.int p5), .val (.int b0), .unset, .unset, .unset, .unset, .unset, .unset, .unset, .unset, .unset, .unset] [(.int b1)])
  refine hs.go (fun _ kk_ => XS.istore X2.here hx rfl (hb hby at_10) rfl (l' := #[.val (.int p0), .val (.int p1), .val (.int p2), .val (.int p3), .val (.int p4), .val (.int p5), .val (.int b0), .val (.int b1), .unset, .unset, .unset, .unset, .unset, .unset, .unset, .unset, .unset]) rfl kk_) ?_
  show G T2 (mkF m 12 #[.val (.int p0), .val (.int p1), .val (.int p2), .val (.int p3), .val (.int p4), .val (.int p5), .val (.int b0), .val (.int b1), .unset, .unset, .unset, .unset, .unset, .unset, .unset, .unset, .unset] [])
  refine hs.go (fun _ kk_ => XS.iloadN X2.here hx rfl (hb hby at_12) rfl  kk_) ?_
  show G T2 (mkF m 13 #[.val (.int p0), .val (.int p1), .val (.int p2), .val (.int p3), .val (.int p4), .val (.int p5), .val (.int b0), .val (.int b1), .unset, .unset, .unset, .unset, .unset, .unset, .unset, .unset, .unset] [(.int p2)])
  refine rCallS hs X2 hx hZ (as' := [(.int p2)]) (rm1 l Z a0 hw [] p2 h0 n0 Z0) hown (hw _ (List.mem_of_getElem? (i := 0) rfl)) (hw _ (List.mem_of_getElem? (i := 1) rfl)) (hw _ (List.mem_of_getElem? (i := 2) rfl)) (hw _ (List.mem_of_getElem? (i := 3) rfl)) hy_1 rfl (by rw [hml]; rfl) [] (lenOf pd_0 rfl) rfl 0 (by show 2 * 0 + _ ≤ _; exact Nat.le_of_eq rfl) (hb hby at_13) (by decide) (by decide) (by decide) (by decide) (fun r3 T3 h3 X3 q3 => ?_)
  obtain ⟨rfl, qh3⟩ := q3
  rw [qh3] at X3
  show G T3 (mkF m 16 #[.val (.int p0), .val (.int p1), .val (.int p2), .val (.int p3), .val (.int p4), .val (.int p5), .val (.int b0), .val (.int b1), .unset, .unset, .unset, .unset, .unset, .unset, .unset, .unset, .unset] [(.int (f1 p2))])
  refine nameIt (P := fun zz_ : Int32 => G T3 (mkF m 16 #[.val (.int p0), .val (.int p1), .val (.int p2), .val (.int p3), .val (.int p4), .val (.int p5), .val (.int b0), .val (.int b1), .unset, .unset, .unset, .unset, .unset, .unset, .unset, .unset, .unset] [(.int zz_)])) (f1 p2) (fun b2 hb2 => ?_)
  show G T3 (mkF m 16 #[.val (.int p0), .val (.int p1), .val (.int p2), .val (.int p3), .val (.int p4), .val (.int p5), .val (.int b0), .val (.int b1), .unset, .unset, .unset, .unset, .unset, .unset, .unset, .unset, .unset] [(.int b2)])
  refine hs.go (fun _ kk_ => XS.istore X3.here hx rfl (hb hby at_16) rfl (l' := #[.val (.int p0), .val (.int p1), .val (.int p2), .val (.int p3), .val (.int p4), .val (.int p5), .val (.int b0), .val (.int b1), .val (.int b2), .unset, .unset, .unset, .unset, .unset, .unset, .unset, .unset]) rfl kk_) ?_
  show G T3 (mkF m 18 #[.val (.int p0), .val (.int p1), .val (.int p2), .val (.int p3), .val (.int p4), .val (.int p5), .val (.int b0), .val (.int b1), .val (.int b2), .unset, .unset, .unset, .unset, .unset, .unset, .unset, .unset] [])
  refine hs.go (fun _ kk_ => XS.iloadN X3.here hx rfl (hb hby at_18) rfl  kk_) ?_
  show G T3 (mkF m 19 #[.val (.int p0), .val (.int p1), .val (.int p2), .val (.int p3), .val (.int p4), .val (.int p5), .val (.int b0), .val (.int b1), .val (.int b2), .unset, .unset, .unset, .unset, .unset, .unset, .unset, .unset] [(.int p3)])
  refine rCallS hs X3 hx hZ (as' := [(.int p3)]) (rm1 l Z a0 hw [] p3 h0 n0 Z0) hown (hw _ (List.mem_of_getElem? (i := 0) rfl)) (hw _ (List.mem_of_getElem? (i := 1) rfl)) (hw _ (List.mem_of_getElem? (i := 2) rfl)) (hw _ (List.mem_of_getElem? (i := 3) rfl)) hy_1 rfl (by rw [hml]; rfl) [] (lenOf pd_0 rfl) rfl 0 (by show 2 * 0 + _ ≤ _; exact Nat.le_of_eq rfl) (hb hby at_19) (by decide) (by decide) (by decide) (by decide) (fun r4 T4 h4 X4 q4 => ?_)
  obtain ⟨rfl, qh4⟩ := q4
  rw [qh4] at X4
  show G T4 (mkF m 22 #[.val (.int p0), .val (.int p1), .val (.int p2), .val (.int p3), .val (.int p4), .val (.int p5), .val (.int b0), .val (.int b1), .val (.int b2), .unset, .unset, .unset, .unset, .unset, .unset, .unset, .unset] [(.int (f1 p3))])
  refine nameIt (P := fun zz_ : Int32 => G T4 (mkF m 22 #[.val (.int p0), .val (.int p1), .val (.int p2), .val (.int p3), .val (.int p4), .val (.int p5), .val (.int b0), .val (.int b1), .val (.int b2), .unset, .unset, .unset, .unset, .unset, .unset, .unset, .unset] [(.int zz_)])) (f1 p3) (fun b3 hb3 => ?_)
  show G T4 (mkF m 22 #[.val (.int p0), .val (.int p1), .val (.int p2), .val (.int p3), .val (.int p4), .val (.int p5), .val (.int b0), .val (.int b1), .val (.int b2), .unset, .unset, .unset, .unset, .unset, .unset, .unset, .unset] [(.int b3)])
  refine hs.go (fun _ kk_ => XS.istore X4.here hx rfl (hb hby at_22) rfl (l' := #[.val (.int p0), .val (.int p1), .val (.int p2), .val (.int p3), .val (.int p4), .val (.int p5), .val (.int b0), .val (.int b1), .val (.int b2), .val (.int b3), .unset, .unset, .unset, .unset, .unset, .unset, .unset]) rfl kk_) ?_
  show G T4 (mkF m 24 #[.val (.int p0), .val (.int p1), .val (.int p2), .val (.int p3), .val (.int p4), .val (.int p5), .val (.int b0), .val (.int b1), .val (.int b2), .val (.int b3), .unset, .unset, .unset, .unset, .unset, .unset, .unset] [])
  refine hs.go (fun _ kk_ => XS.iconst X4.here hx rfl (hb hby at_24) kk_) ?_
  show G T4 (mkF m 25 #[.val (.int p0), .val (.int p1), .val (.int p2), .val (.int p3), .val (.int p4), .val (.int p5), .val (.int b0), .val (.int b1), .val (.int b2), .val (.int b3), .unset, .unset, .unset, .unset, .unset, .unset, .unset] [(.int (4 : Int32))])
  refine rNewP hs X4 hx hZ (hw _ (List.mem_of_getElem? (i := 4) rfl)) rfl (hb hby at_25) rfl (by decide) 4 4 (by decide) (by decide) (by decide) (by decide) (fun T5 h5 k5 b g5 X5 E5 V_b => ?_)
  have V_b : Arv Z h5 b k5 .byte (4 : Int32) [(.int (0 : Int32)), (.int (0 : Int32)), (.int (0 : Int32)), (.int (0 : Int32))] (.int (0 : Int32)) := V_b
  have g_b : n0 ≤ b := by rw [g5]; exact Z0
  have Z0 := Nat.le_trans Z0 E5.1
  show G T5 (mkF m 27 #[.val (.int p0), .val (.int p1), .val (.int p2), .val (.int p3), .val (.int p4), .val (.int p5), .val (.int b0), .val (.int b1), .val (.int b2), .val (.int b3), .unset, .unset, .unset, .unset, .unset, .unset, .unset] [(.ref b)])
  refine hs.go (fun _ kk_ => XS.astore X5.here hx rfl (hb hby at_27) rfl rfl (l' := #[.val (.int p0), .val (.int p1), .val (.int p2), .val (.int p3), .val (.int p4), .val (.int p5), .val (.int b0), .val (.int b1), .val (.int b2), .val (.int b3), .val (.ref b), .unset, .unset, .unset, .unset, .unset, .unset]) rfl kk_) ?_
  show G T5 (mkF m 29 #[.val (.int p0), .val (.int p1), .val (.int p2), .val (.int p3), .val (.int p4), .val (.int p5), .val (.int b0), .val (.int b1), .val (.int b2), .val (.int b3), .val (.ref b), .unset, .unset, .unset, .unset, .unset, .unset] [])
  refine hs.go (fun _ kk_ => XS.aload X5.here hx rfl (hb hby at_29) rfl rfl kk_) ?_
  show G T5 (mkF m 31 #[.val (.int p0), .val (.int p1), .val (.int p2), .val (.int p3), .val (.int p4), .val (.int p5), .val (.int b0), .val (.int b1), .val (.int b2), .val (.int b3), .val (.ref b), .unset, .unset, .unset, .unset, .unset, .unset] [(.ref b)])
  refine hs.go (fun _ kk_ => XS.iconst X5.here hx rfl (hb hby at_31) kk_) ?_
  show G T5 (mkF m 32 #[.val (.int p0), .val (.int p1), .val (.int p2), .val (.int p3), .val (.int p4), .val (.int p5), .val (.int b0), .val (.int b1), .val (.int b2), .val (.int b3), .val (.ref b), .unset, .unset, .unset, .unset, .unset, .unset] [(.int (0 : Int32)), (.ref b)])
  refine hs.go (fun _ kk_ => XS.iload X5.here hx rfl (hb hby at_32) rfl  kk_) ?_
  show G T5 (mkF m 34 #[.val (.int p0), .val (.int p1), .val (.int p2), .val (.int p3), .val (.int p4), .val (.int p5), .val (.int b0), .val (.int b1), .val (.int b2), .val (.int b3), .val (.ref b), .unset, .unset, .unset, .unset, .unset, .unset] [(.int b0), (.int (0 : Int32)), (.ref b)])
  refine rStB hs X5 hx hZ V_b g_b ⟨by decide, by decide⟩ 0 (by decide) (by simp) (x' := b0) (by rw [hb0]; exact own_byte _) rfl rfl (hb hby at_34) (fun T6 h6 X6 W6 V_b => ?_)
  have V_b : Arv Z h6 b k5 .byte (4 : Int32) [(.int b0), (.int (0 : Int32)), (.int (0 : Int32)), (.int (0 : Int32))] (.int (0 : Int32)) := V_b
  have Z0 := Nat.le_trans Z0 (Keep.of_wr W6).1
  show G T6 (mkF m 35 #[.val (.int p0), .val (.int p1), .val (.int p2), .val (.int p3), .val (.int p4), .val (.int p5), .val (.int b0), .val (.int b1), .val (.int b2), .val (.int b3), .val (.ref b), .unset, .unset, .unset, .unset, .unset, .unset] [])
  refine hs.go (fun _ kk_ => XS.aload X6.here hx rfl (hb hby at_35) rfl rfl kk_) ?_
  show G T6 (mkF m 37 #[.val (.int p0), .val (.int p1), .val (.int p2), .val (.int p3), .val (.int p4), .val (.int p5), .val (.int b0), .val (.int b1), .val (.int b2), .val (.int b3), .val (.ref b), .unset, .unset, .unset, .unset, .unset, .unset] [(.ref b)])
  refine hs.go (fun _ kk_ => XS.iconst X6.here hx rfl (hb hby at_37) kk_) ?_
  show G T6 (mkF m 38 #[.val (.int p0), .val (.int p1), .val (.int p2), .val (.int p3), .val (.int p4), .val (.int p5), .val (.int b0), .val (.int b1), .val (.int b2), .val (.int b3), .val (.ref b), .unset, .unset, .unset, .unset, .unset, .unset] [(.int (1 : Int32)), (.ref b)])
  refine hs.go (fun _ kk_ => XS.iload X6.here hx rfl (hb hby at_38) rfl  kk_) ?_
  show G T6 (mkF m 40 #[.val (.int p0), .val (.int p1), .val (.int p2), .val (.int p3), .val (.int p4), .val (.int p5), .val (.int b0), .val (.int b1), .val (.int b2), .val (.int b3), .val (.ref b), .unset, .unset, .unset, .unset, .unset, .unset] [(.int b1), (.int (1 : Int32)), (.ref b)])
  refine rStB hs X6 hx hZ V_b g_b ⟨by decide, by decide⟩ 1 (by decide) (by simp) (x' := b1) (by rw [hb1]; exact own_byte _) rfl rfl (hb hby at_40) (fun T7 h7 X7 W7 V_b => ?_)
  have V_b : Arv Z h7 b k5 .byte (4 : Int32) [(.int b0), (.int b1), (.int (0 : Int32)), (.int (0 : Int32))] (.int (0 : Int32)) := V_b
  have Z0 := Nat.le_trans Z0 (Keep.of_wr W7).1
  show G T7 (mkF m 41 #[.val (.int p0), .val (.int p1), .val (.int p2), .val (.int p3), .val (.int p4), .val (.int p5), .val (.int b0), .val (.int b1), .val (.int b2), .val (.int b3), .val (.ref b), .unset, .unset, .unset, .unset, .unset, .unset] [])
  refine hs.go (fun _ kk_ => XS.aload X7.here hx rfl (hb hby at_41) rfl rfl kk_) ?_
  show G T7 (mkF m 43 #[.val (.int p0), .val (.int p1), .val (.int p2), .val (.int p3), .val (.int p4), .val (.int p5), .val (.int b0), .val (.int b1), .val (.int b2), .val (.int b3), .val (.ref b), .unset, .unset, .unset, .unset, .unset, .unset] [(.ref b)])
  refine hs.go (fun _ kk_ => XS.iconst X7.here hx rfl (hb hby at_43) kk_) ?_
  show G T7 (mkF m 44 #[.val (.int p0), .val (.int p1), .val (.int p2), .val (.int p3), .val (.int p4), .val (.int p5), .val (.int b0), .val (.int b1), .val (.int b2), .val (.int b3), .val (.ref b), .unset, .unset, .unset, .unset, .unset, .unset] [(.int (2 : Int32)), (.ref b)])
  refine hs.go (fun _ kk_ => XS.iload X7.here hx rfl (hb hby at_44) rfl  kk_) ?_
  show G T7 (mkF m 46 #[.val (.int p0), .val (.int p1), .val (.int p2), .val (.int p3), .val (.int p4), .val (.int p5), .val (.int b0), .val (.int b1), .val (.int b2), .val (.int b3), .val (.ref b), .unset, .unset, .unset, .unset, .unset, .unset] [(.int b2), (.int (2 : Int32)), (.ref b)])
  refine rStB hs X7 hx hZ V_b g_b ⟨by decide, by decide⟩ 2 (by decide) (by simp) (x' := b2) (by rw [hb2]; exact own_byte _) rfl rfl (hb hby at_46) (fun T8 h8 X8 W8 V_b => ?_)
  have V_b : Arv Z h8 b k5 .byte (4 : Int32) [(.int b0), (.int b1), (.int b2), (.int (0 : Int32))] (.int (0 : Int32)) := V_b
  have Z0 := Nat.le_trans Z0 (Keep.of_wr W8).1
  show G T8 (mkF m 47 #[.val (.int p0), .val (.int p1), .val (.int p2), .val (.int p3), .val (.int p4), .val (.int p5), .val (.int b0), .val (.int b1), .val (.int b2), .val (.int b3), .val (.ref b), .unset, .unset, .unset, .unset, .unset, .unset] [])
  refine hs.go (fun _ kk_ => XS.aload X8.here hx rfl (hb hby at_47) rfl rfl kk_) ?_
  show G T8 (mkF m 49 #[.val (.int p0), .val (.int p1), .val (.int p2), .val (.int p3), .val (.int p4), .val (.int p5), .val (.int b0), .val (.int b1), .val (.int b2), .val (.int b3), .val (.ref b), .unset, .unset, .unset, .unset, .unset, .unset] [(.ref b)])
  refine hs.go (fun _ kk_ => XS.iconst X8.here hx rfl (hb hby at_49) kk_) ?_
  show G T8 (mkF m 50 #[.val (.int p0), .val (.int p1), .val (.int p2), .val (.int p3), .val (.int p4), .val (.int p5), .val (.int b0), .val (.int b1), .val (.int b2), .val (.int b3), .val (.ref b), .unset, .unset, .unset, .unset, .unset, .unset] [(.int (3 : Int32)), (.ref b)])
  refine hs.go (fun _ kk_ => XS.iload X8.here hx rfl (hb hby at_50) rfl  kk_) ?_
  show G T8 (mkF m 52 #[.val (.int p0), .val (.int p1), .val (.int p2), .val (.int p3), .val (.int p4), .val (.int p5), .val (.int b0), .val (.int b1), .val (.int b2), .val (.int b3), .val (.ref b), .unset, .unset, .unset, .unset, .unset, .unset] [(.int b3), (.int (3 : Int32)), (.ref b)])
  refine rStB hs X8 hx hZ V_b g_b ⟨by decide, by decide⟩ 3 (by decide) (by simp) (x' := b3) (by rw [hb3]; exact own_byte _) rfl rfl (hb hby at_52) (fun T9 h9 X9 W9 V_b => ?_)
  have V_b : Arv Z h9 b k5 .byte (4 : Int32) [(.int b0), (.int b1), (.int b2), (.int b3)] (.int (0 : Int32)) := V_b
  have Z0 := Nat.le_trans Z0 (Keep.of_wr W9).1
  show G T9 (mkF m 53 #[.val (.int p0), .val (.int p1), .val (.int p2), .val (.int p3), .val (.int p4), .val (.int p5), .val (.int b0), .val (.int b1), .val (.int b2), .val (.int b3), .val (.ref b), .unset, .unset, .unset, .unset, .unset, .unset] [])
  refine hs.go (fun _ kk_ => XS.iload X9.here hx rfl (hb hby at_53) rfl  kk_) ?_
  show G T9 (mkF m 55 #[.val (.int p0), .val (.int p1), .val (.int p2), .val (.int p3), .val (.int p4), .val (.int p5), .val (.int b0), .val (.int b1), .val (.int b2), .val (.int b3), .val (.ref b), .unset, .unset, .unset, .unset, .unset, .unset] [(.int p4)])
  refine rLdcI hs X9 hx hZ hown (hw _ (List.mem_of_getElem? (i := 5) rfl)) rfl (hb hby at_55) ?_
  show G T9 (mkF m 57 #[.val (.int p0), .val (.int p1), .val (.int p2), .val (.int p3), .val (.int p4), .val (.int p5), .val (.int b0), .val (.int b1), .val (.int b2), .val (.int b3), .val (.ref b), .unset, .unset, .unset, .unset, .unset, .unset] [(.int (2147483647 : Int32)), (.int p4)])
  refine hs.go (fun _ kk_ => XS.iand X9.here hx rfl (hb hby at_57) rfl kk_) ?_
  show G T9 (mkF m 58 #[.val (.int p0), .val (.int p1), .val (.int p2), .val (.int p3), .val (.int p4), .val (.int p5), .val (.int b0), .val (.int b1), .val (.int b2), .val (.int b3), .val (.ref b), .unset, .unset, .unset, .unset, .unset, .unset] [(.int (p4 &&& (2147483647 : Int32)))])
  refine hs.go (fun _ kk_ => XS.iconst X9.here hx rfl (hb hby at_58) kk_) ?_
  show G T9 (mkF m 59 #[.val (.int p0), .val (.int p1), .val (.int p2), .val (.int p3), .val (.int p4), .val (.int p5), .val (.int b0), .val (.int b1), .val (.int b2), .val (.int b3), .val (.ref b), .unset, .unset, .unset, .unset, .unset, .unset] [(.int (5 : Int32)), (.int (p4 &&& (2147483647 : Int32)))])
  refine rIrem hs X9 hx rfl (hb hby at_59) rfl (by decide) ?_
  show G T9 (mkF m 60 #[.val (.int p0), .val (.int p1), .val (.int p2), .val (.int p3), .val (.int p4), .val (.int p5), .val (.int b0), .val (.int b1), .val (.int b2), .val (.int b3), .val (.ref b), .unset, .unset, .unset, .unset, .unset, .unset] [(.int ((p4 &&& (2147483647 : Int32)) % (5 : Int32)))])
  refine nameIt (P := fun zz_ : Int32 => G T9 (mkF m 60 #[.val (.int p0), .val (.int p1), .val (.int p2), .val (.int p3), .val (.int p4), .val (.int p5), .val (.int b0), .val (.int b1), .val (.int b2), .val (.int b3), .val (.ref b), .unset, .unset, .unset, .unset, .unset, .unset] [(.int zz_)])) ((p4 &&& (2147483647 : Int32)) % (5 : Int32)) (fun ff hff => ?_)
  show G T9 (mkF m 60 #[.val (.int p0), .val (.int p1), .val (.int p2), .val (.int p3), .val (.int p4), .val (.int p5), .val (.int b0), .val (.int b1), .val (.int b2), .val (.int b3), .val (.ref b), .unset, .unset, .unset, .unset, .unset, .unset] [(.int ff)])
  refine hs.go (fun _ kk_ => XS.istore X9.here hx rfl (hb hby at_60) rfl (l' := #[.val (.int p0), .val (.int p1), .val (.int p2), .val (.int p3), .val (.int p4), .val (.int p5), .val (.int b0), .val (.int b1), .val (.int b2), .val (.int b3), .val (.ref b), .val (.int ff), .unset, .unset, .unset, .unset, .unset]) rfl kk_) ?_
  show G T9 (mkF m 62 #[.val (.int p0), .val (.int p1), .val (.int p2), .val (.int p3), .val (.int p4), .val (.int p5), .val (.int b0), .val (.int b1), .val (.int b2), .val (.int b3), .val (.ref b), .val (.int ff), .unset, .unset, .unset, .unset, .unset] [])
  refine hs.go (fun _ kk_ => XS.iload X9.here hx rfl (hb hby at_62) rfl  kk_) ?_
  show G T9 (mkF m 64 #[.val (.int p0), .val (.int p1), .val (.int p2), .val (.int p3), .val (.int p4), .val (.int p5), .val (.int b0), .val (.int b1), .val (.int b2), .val (.int b3), .val (.ref b), .val (.int ff), .unset, .unset, .unset, .unset, .unset] [(.int p5)])
  refine rLdcI hs X9 hx hZ hown (hw _ (List.mem_of_getElem? (i := 5) rfl)) rfl (hb hby at_64) ?_
  show G T9 (mkF m 66 #[.val (.int p0), .val (.int p1), .val (.int p2), .val (.int p3), .val (.int p4), .val (.int p5), .val (.int b0), .val (.int b1), .val (.int b2), .val (.int b3), .val (.ref b), .val (.int ff), .unset, .unset, .unset, .unset, .unset] [(.int (2147483647 : Int32)), (.int p5)])
  refine hs.go (fun _ kk_ => XS.iand X9.here hx rfl (hb hby at_66) rfl kk_) ?_
  show G T9 (mkF m 67 #[.val (.int p0), .val (.int p1), .val (.int p2), .val (.int p3), .val (.int p4), .val (.int p5), .val (.int b0), .val (.int b1), .val (.int b2), .val (.int b3), .val (.ref b), .val (.int ff), .unset, .unset, .unset, .unset, .unset] [(.int (p5 &&& (2147483647 : Int32)))])
  refine hs.go (fun _ kk_ => XS.iconst X9.here hx rfl (hb hby at_67) kk_) ?_
  show G T9 (mkF m 68 #[.val (.int p0), .val (.int p1), .val (.int p2), .val (.int p3), .val (.int p4), .val (.int p5), .val (.int b0), .val (.int b1), .val (.int b2), .val (.int b3), .val (.ref b), .val (.int ff), .unset, .unset, .unset, .unset, .unset] [(.int (5 : Int32)), (.int (p5 &&& (2147483647 : Int32)))])
  refine rIrem hs X9 hx rfl (hb hby at_68) rfl (by decide) ?_
  show G T9 (mkF m 69 #[.val (.int p0), .val (.int p1), .val (.int p2), .val (.int p3), .val (.int p4), .val (.int p5), .val (.int b0), .val (.int b1), .val (.int b2), .val (.int b3), .val (.ref b), .val (.int ff), .unset, .unset, .unset, .unset, .unset] [(.int ((p5 &&& (2147483647 : Int32)) % (5 : Int32)))])
  refine nameIt (P := fun zz_ : Int32 => G T9 (mkF m 69 #[.val (.int p0), .val (.int p1), .val (.int p2), .val (.int p3), .val (.int p4), .val (.int p5), .val (.int b0), .val (.int b1), .val (.int b2), .val (.int b3), .val (.ref b), .val (.int ff), .unset, .unset, .unset, .unset, .unset] [(.int zz_)])) ((p5 &&& (2147483647 : Int32)) % (5 : Int32)) (fun tt htt => ?_)
  show G T9 (mkF m 69 #[.val (.int p0), .val (.int p1), .val (.int p2), .val (.int p3), .val (.int p4), .val (.int p5), .val (.int b0), .val (.int b1), .val (.int b2), .val (.int b3), .val (.ref b), .val (.int ff), .unset, .unset, .unset, .unset, .unset] [(.int tt)])
  refine hs.go (fun _ kk_ => XS.istore X9.here hx rfl (hb hby at_69) rfl (l' := #[.val (.int p0), .val (.int p1), .val (.int p2), .val (.int p3), .val (.int p4), .val (.int p5), .val (.int b0), .val (.int b1), .val (.int b2), .val (.int b3), .val (.ref b), .val (.int ff), .val (.int tt), .unset, .unset, .unset, .unset]) rfl kk_) ?_
  show G T9 (mkF m 71 #[.val (.int p0), .val (.int p1), .val (.int p2), .val (.int p3), .val (.int p4), .val (.int p5), .val (.int b0), .val (.int b1), .val (.int b2), .val (.int b3), .val (.ref b), .val (.int ff), .val (.int tt), .unset, .unset, .unset, .unset] [])
  refine hs.go (fun _ kk_ => XS.iload X9.here hx rfl (hb hby at_71) rfl  kk_) ?_
  show G T9 (mkF m 73 #[.val (.int p0), .val (.int p1), .val (.int p2), .val (.int p3), .val (.int p4), .val (.int p5), .val (.int b0), .val (.int b1), .val (.int b2), .val (.int b3), .val (.ref b), .val (.int ff), .val (.int tt), .unset, .unset, .unset, .unset] [(.int ff)])
  refine hs.go (fun _ kk_ => XS.iload X9.here hx rfl (hb hby at_73) rfl  kk_) ?_
  show G T9 (mkF m 75 #[.val (.int p0), .val (.int p1), .val (.int p2), .val (.int p3), .val (.int p4), .val (.int p5), .val (.int b0), .val (.int b1), .val (.int b2), .val (.int b3), .val (.ref b), .val (.int ff), .val (.int tt), .unset, .unset, .unset, .unset] [(.int tt), (.int ff)])
  refine rCallS hs X9 hx hZ (as' := [(.int ff), (.int tt)]) (rm2 l Z a0 hw [] ff tt h9 n0 Z0) hown (hw _ (List.mem_of_getElem? (i := 6) rfl)) (hw _ (List.mem_of_getElem? (i := 7) rfl)) (hw _ (List.mem_of_getElem? (i := 8) rfl)) (hw _ (List.mem_of_getElem? (i := 9) rfl)) hy_2 rfl (by rw [hml]; rfl) [] (lenOf pd_1 rfl) rfl 0 (by show 2 * 0 + _ ≤ _; exact Nat.le_of_eq rfl) (hb hby at_75) (by decide) (by decide) (by decide) (by decide) (fun r10 T10 h10 X10 q10 => ?_)
  obtain ⟨rfl, qh10⟩ := q10
  rw [qh10] at X10
  show G T10 (mkF m 78 #[.val (.int p0), .val (.int p1), .val (.int p2), .val (.int p3), .val (.int p4), .val (.int p5), .val (.int b0), .val (.int b1), .val (.int b2), .val (.int b3), .val (.ref b), .val (.int ff), .val (.int tt), .unset, .unset, .unset, .unset] [(.int (f2 ff tt))])
  refine nameIt (P := fun zz_ : Int32 => G T10 (mkF m 78 #[.val (.int p0), .val (.int p1), .val (.int p2), .val (.int p3), .val (.int p4), .val (.int p5), .val (.int b0), .val (.int b1), .val (.int b2), .val (.int b3), .val (.ref b), .val (.int ff), .val (.int tt), .unset, .unset, .unset, .unset] [(.int zz_)])) (f2 ff tt) (fun lo hlo => ?_)
  show G T10 (mkF m 78 #[.val (.int p0), .val (.int p1), .val (.int p2), .val (.int p3), .val (.int p4), .val (.int p5), .val (.int b0), .val (.int b1), .val (.int b2), .val (.int b3), .val (.ref b), .val (.int ff), .val (.int tt), .unset, .unset, .unset, .unset] [(.int lo)])
  refine hs.go (fun _ kk_ => XS.istore X10.here hx rfl (hb hby at_78) rfl (l' := #[.val (.int p0), .val (.int p1), .val (.int p2), .val (.int p3), .val (.int p4), .val (.int p5), .val (.int b0), .val (.int b1), .val (.int b2), .val (.int b3), .val (.ref b), .val (.int ff), .val (.int tt), .val (.int lo), .unset, .unset, .unset]) rfl kk_) ?_
  show G T10 (mkF m 80 #[.val (.int p0), .val (.int p1), .val (.int p2), .val (.int p3), .val (.int p4), .val (.int p5), .val (.int b0), .val (.int b1), .val (.int b2), .val (.int b3), .val (.ref b), .val (.int ff), .val (.int tt), .val (.int lo), .unset, .unset, .unset] [])
  refine hs.go (fun _ kk_ => XS.iload X10.here hx rfl (hb hby at_80) rfl  kk_) ?_
  show G T10 (mkF m 82 #[.val (.int p0), .val (.int p1), .val (.int p2), .val (.int p3), .val (.int p4), .val (.int p5), .val (.int b0), .val (.int b1), .val (.int b2), .val (.int b3), .val (.ref b), .val (.int ff), .val (.int tt), .val (.int lo), .unset, .unset, .unset] [(.int ff)])
  refine hs.go (fun _ kk_ => XS.iload X10.here hx rfl (hb hby at_82) rfl  kk_) ?_
  show G T10 (mkF m 84 #[.val (.int p0), .val (.int p1), .val (.int p2), .val (.int p3), .val (.int p4), .val (.int p5), .val (.int b0), .val (.int b1), .val (.int b2), .val (.int b3), .val (.ref b), .val (.int ff), .val (.int tt), .val (.int lo), .unset, .unset, .unset] [(.int tt), (.int ff)])
  refine rCallS hs X10 hx hZ (as' := [(.int ff), (.int tt)]) (rm3 l Z a0 hw [] ff tt h9 n0 Z0) hown (hw _ (List.mem_of_getElem? (i := 10) rfl)) (hw _ (List.mem_of_getElem? (i := 11) rfl)) (hw _ (List.mem_of_getElem? (i := 8) rfl)) (hw _ (List.mem_of_getElem? (i := 12) rfl)) hy_3 rfl (by rw [hml]; rfl) [] (lenOf pd_1 rfl) rfl 0 (by show 2 * 0 + _ ≤ _; exact Nat.le_of_eq rfl) (hb hby at_84) (by decide) (by decide) (by decide) (by decide) (fun r11 T11 h11 X11 q11 => ?_)
  obtain ⟨rfl, qh11⟩ := q11
  rw [qh11] at X11
  show G T11 (mkF m 87 #[.val (.int p0), .val (.int p1), .val (.int p2), .val (.int p3), .val (.int p4), .val (.int p5), .val (.int b0), .val (.int b1), .val (.int b2), .val (.int b3), .val (.ref b), .val (.int ff), .val (.int tt), .val (.int lo), .unset, .unset, .unset] [(.int (f3 ff tt))])
  refine nameIt (P := fun zz_ : Int32 => G T11 (mkF m 87 #[.val (.int p0), .val (.int p1), .val (.int p2), .val (.int p3), .val (.int p4), .val (.int p5), .val (.int b0), .val (.int b1), .val (.int b2), .val (.int b3), .val (.ref b), .val (.int ff), .val (.int tt), .val (.int lo), .unset, .unset, .unset] [(.int zz_)])) (f3 ff tt) (fun hi hhi => ?_)
  show G T11 (mkF m 87 #[.val (.int p0), .val (.int p1), .val (.int p2), .val (.int p3), .val (.int p4), .val (.int p5), .val (.int b0), .val (.int b1), .val (.int b2), .val (.int b3), .val (.ref b), .val (.int ff), .val (.int tt), .val (.int lo), .unset, .unset, .unset] [(.int hi)])
  refine hs.go (fun _ kk_ => XS.istore X11.here hx rfl (hb hby at_87) rfl (l' := #[.val (.int p0), .val (.int p1), .val (.int p2), .val (.int p3), .val (.int p4), .val (.int p5), .val (.int b0), .val (.int b1), .val (.int b2), .val (.int b3), .val (.ref b), .val (.int ff), .val (.int tt), .val (.int lo), .val (.int hi), .unset, .unset]) rfl kk_) ?_
  show G T11 (mkF m 89 #[.val (.int p0), .val (.int p1), .val (.int p2), .val (.int p3), .val (.int p4), .val (.int p5), .val (.int b0), .val (.int b1), .val (.int b2), .val (.int b3), .val (.ref b), .val (.int ff), .val (.int tt), .val (.int lo), .val (.int hi), .unset, .unset] [])
  have HL := own_lohi (own_ft hff) (own_ft htt) hlo hhi
  have J146 : ∀ (Tj12 : State) (zx : Int32), Sd p l e room_1 s m #[(.int p0), (.int p1), (.int p2), (.int p3), (.int p4), (.int p5)] below meth c n0 Tj12 h9 1 4 → (((f4 (0 : Int32) b0 lo hi) = (0 : Int32) ∧ zx = (0 : Int32)) ∨ (¬ ((f4 (0 : Int32) b0 lo hi) = (0 : Int32)) ∧ (f4 (1 : Int32) b1 lo hi) = (0 : Int32) ∧ zx = (0 : Int32)) ∨ (¬ ((f4 (0 : Int32) b0 lo hi) = (0 : Int32)) ∧ ¬ ((f4 (1 : Int32) b1 lo hi) = (0 : Int32)) ∧ (f4 (2 : Int32) b2 lo hi) = (0 : Int32) ∧ zx = (0 : Int32)) ∨ (¬ ((f4 (0 : Int32) b0 lo hi) = (0 : Int32)) ∧ ¬ ((f4 (1 : Int32) b1 lo hi) = (0 : Int32)) ∧ ¬ ((f4 (2 : Int32) b2 lo hi) = (0 : Int32)) ∧ (f4 (3 : Int32) b3 lo hi) = (0 : Int32) ∧ zx = (0 : Int32)) ∨ (¬ ((f4 (0 : Int32) b0 lo hi) = (0 : Int32)) ∧ ¬ ((f4 (1 : Int32) b1 lo hi) = (0 : Int32)) ∧ ¬ ((f4 (2 : Int32) b2 lo hi) = (0 : Int32)) ∧ ¬ ((f4 (3 : Int32) b3 lo hi) = (0 : Int32)) ∧ zx = (1 : Int32))) → G Tj12 (mkF m 146 #[.val (.int p0), .val (.int p1), .val (.int p2), .val (.int p3), .val (.int p4), .val (.int p5), .val (.int b0), .val (.int b1), .val (.int b2), .val (.int b3), .val (.ref b), .val (.int ff), .val (.int tt), .val (.int lo), .val (.int hi), .unset, .unset] [(.int zx)]) := by
    intro Tj12 zx XTj12 hJ146
    show G Tj12 (mkF m 146 #[.val (.int p0), .val (.int p1), .val (.int p2), .val (.int p3), .val (.int p4), .val (.int p5), .val (.int b0), .val (.int b1), .val (.int b2), .val (.int b3), .val (.ref b), .val (.int ff), .val (.int tt), .val (.int lo), .val (.int hi), .unset, .unset] [(.int zx)])
    refine hs.go (fun _ kk_ => XS.istore XTj12.here hx rfl (hb hby at_146) rfl (l' := #[.val (.int p0), .val (.int p1), .val (.int p2), .val (.int p3), .val (.int p4), .val (.int p5), .val (.int b0), .val (.int b1), .val (.int b2), .val (.int b3), .val (.ref b), .val (.int ff), .val (.int tt), .val (.int lo), .val (.int hi), .val (.int zx), .unset]) rfl kk_) ?_
    show G Tj12 (mkF m 148 #[.val (.int p0), .val (.int p1), .val (.int p2), .val (.int p3), .val (.int p4), .val (.int p5), .val (.int b0), .val (.int b1), .val (.int b2), .val (.int b3), .val (.ref b), .val (.int ff), .val (.int tt), .val (.int lo), .val (.int hi), .val (.int zx), .unset] [])
    refine hs.go (fun _ kk_ => XS.aload XTj12.here hx rfl (hb hby at_148) rfl rfl kk_) ?_
    show G Tj12 (mkF m 150 #[.val (.int p0), .val (.int p1), .val (.int p2), .val (.int p3), .val (.int p4), .val (.int p5), .val (.int b0), .val (.int b1), .val (.int b2), .val (.int b3), .val (.ref b), .val (.int ff), .val (.int tt), .val (.int lo), .val (.int hi), .val (.int zx), .unset] [(.ref b)])
    refine hs.go (fun _ kk_ => XS.iload XTj12.here hx rfl (hb hby at_150) rfl  kk_) ?_
    show G Tj12 (mkF m 152 #[.val (.int p0), .val (.int p1), .val (.int p2), .val (.int p3), .val (.int p4), .val (.int p5), .val (.int b0), .val (.int b1), .val (.int b2), .val (.int b3), .val (.ref b), .val (.int ff), .val (.int tt), .val (.int lo), .val (.int hi), .val (.int zx), .unset] [(.int lo), (.ref b)])
    refine hs.go (fun _ kk_ => XS.iload XTj12.here hx rfl (hb hby at_152) rfl  kk_) ?_
    show G Tj12 (mkF m 154 #[.val (.int p0), .val (.int p1), .val (.int p2), .val (.int p3), .val (.int p4), .val (.int p5), .val (.int b0), .val (.int b1), .val (.int b2), .val (.int b3), .val (.ref b), .val (.int ff), .val (.int tt), .val (.int lo), .val (.int hi), .val (.int zx), .unset] [(.int hi), (.int lo), (.ref b)])
    refine rCallS hs XTj12 hx hZ (as' := [(.ref b), (.int lo), (.int hi)]) (rm5 l Z a0 hw [] b lo hi b0 b1 b2 b3 k5 lo.toInt.toNat (hi.toInt - lo.toInt).toNat h9 n0 Z0 V_b (by omega) (by omega) (by omega)) hown (hw _ (List.mem_of_getElem? (i := 16) rfl)) (hw _ (List.mem_of_getElem? (i := 17) rfl)) (hw _ (List.mem_of_getElem? (i := 18) rfl)) (hw _ (List.mem_of_getElem? (i := 19) rfl)) hy_5 rfl (by rw [hml]; rfl) [] (lenOf pd_3 rfl) rfl 0 (by show 2 * 0 + _ ≤ _; exact Nat.le_of_eq rfl) (hb hby at_154) (by decide) (by decide) (by decide) (by decide) (fun r13 T13 h13 X13 q13 => ?_)
    obtain ⟨rfl, qh13⟩ := q13
    rw [qh13] at X13
    show G T13 (mkF m 157 #[.val (.int p0), .val (.int p1), .val (.int p2), .val (.int p3), .val (.int p4), .val (.int p5), .val (.int b0), .val (.int b1), .val (.int b2), .val (.int b3), .val (.ref b), .val (.int ff), .val (.int tt), .val (.int lo), .val (.int hi), .val (.int zx), .unset] [(.int (zall [b0, b1, b2, b3] lo.toInt.toNat (hi.toInt - lo.toInt).toNat))])
    refine nameIt (P := fun zz_ : Int32 => G T13 (mkF m 157 #[.val (.int p0), .val (.int p1), .val (.int p2), .val (.int p3), .val (.int p4), .val (.int p5), .val (.int b0), .val (.int b1), .val (.int b2), .val (.int b3), .val (.ref b), .val (.int ff), .val (.int tt), .val (.int lo), .val (.int hi), .val (.int zx), .unset] [(.int zz_)])) (zall [b0, b1, b2, b3] lo.toInt.toNat (hi.toInt - lo.toInt).toNat) (fun gt hgt => ?_)
    show G T13 (mkF m 157 #[.val (.int p0), .val (.int p1), .val (.int p2), .val (.int p3), .val (.int p4), .val (.int p5), .val (.int b0), .val (.int b1), .val (.int b2), .val (.int b3), .val (.ref b), .val (.int ff), .val (.int tt), .val (.int lo), .val (.int hi), .val (.int zx), .unset] [(.int gt)])
    refine hs.go (fun _ kk_ => XS.istore X13.here hx rfl (hb hby at_157) rfl (l' := #[.val (.int p0), .val (.int p1), .val (.int p2), .val (.int p3), .val (.int p4), .val (.int p5), .val (.int b0), .val (.int b1), .val (.int b2), .val (.int b3), .val (.ref b), .val (.int ff), .val (.int tt), .val (.int lo), .val (.int hi), .val (.int zx), .val (.int gt)]) rfl kk_) ?_
    show G T13 (mkF m 159 #[.val (.int p0), .val (.int p1), .val (.int p2), .val (.int p3), .val (.int p4), .val (.int p5), .val (.int b0), .val (.int b1), .val (.int b2), .val (.int b3), .val (.ref b), .val (.int ff), .val (.int tt), .val (.int lo), .val (.int hi), .val (.int zx), .val (.int gt)] [])
    refine hs.go (fun _ kk_ => XS.iload X13.here hx rfl (hb hby at_159) rfl  kk_) ?_
    show G T13 (mkF m 161 #[.val (.int p0), .val (.int p1), .val (.int p2), .val (.int p3), .val (.int p4), .val (.int p5), .val (.int b0), .val (.int b1), .val (.int b2), .val (.int b3), .val (.ref b), .val (.int ff), .val (.int tt), .val (.int lo), .val (.int hi), .val (.int zx), .val (.int gt)] [(.int gt)])
    refine hs.go (fun _ kk_ => XS.iload X13.here hx rfl (hb hby at_161) rfl  kk_) ?_
    show G T13 (mkF m 163 #[.val (.int p0), .val (.int p1), .val (.int p2), .val (.int p3), .val (.int p4), .val (.int p5), .val (.int b0), .val (.int b1), .val (.int b2), .val (.int b3), .val (.ref b), .val (.int ff), .val (.int tt), .val (.int lo), .val (.int hi), .val (.int zx), .val (.int gt)] [(.int zx), (.int gt)])
    refine hs.go (fun _ kk_ => XS.icmpNo X13.here hx rfl (hb hby at_163) rfl (teq (hgt.trans (own_law b0 b1 b2 b3 lo hi zx _ _ HL (by omega) (by omega) hJ146) : gt = zx)).2 kk_) ?_
    show G T13 (mkF m 166 #[.val (.int p0), .val (.int p1), .val (.int p2), .val (.int p3), .val (.int p4), .val (.int p5), .val (.int b0), .val (.int b1), .val (.int b2), .val (.int b3), .val (.ref b), .val (.int ff), .val (.int tt), .val (.int lo), .val (.int hi), .val (.int zx), .val (.int gt)] [])
    refine hs.go (fun _ kk_ => XS.iconst X13.here hx rfl (hb hby at_166) kk_) ?_
    show G T13 (mkF m 167 #[.val (.int p0), .val (.int p1), .val (.int p2), .val (.int p3), .val (.int p4), .val (.int p5), .val (.int b0), .val (.int b1), .val (.int b2), .val (.int b3), .val (.ref b), .val (.int ff), .val (.int tt), .val (.int lo), .val (.int hi), .val (.int zx), .val (.int gt)] [(.int (1 : Int32))])
    refine hs.go (fun _ kk_ => XS.goto X13.here hx rfl (pc0 := 167) (pc' := 171) rfl (hb hby at_167) (by decide) (by decide) kk_) ?_
    show G T13 (mkF m 171 #[.val (.int p0), .val (.int p1), .val (.int p2), .val (.int p3), .val (.int p4), .val (.int p5), .val (.int b0), .val (.int b1), .val (.int b2), .val (.int b3), .val (.ref b), .val (.int ff), .val (.int tt), .val (.int lo), .val (.int hi), .val (.int zx), .val (.int gt)] [(.int (1 : Int32))])
    exact rRetN fin X13 hx (by decide) (by decide) hret (by simp) (hb hby at_171) (z' := (1 : Int32)) (by decide) rfl
  refine hs.go (fun _ kk_ => XS.iconst X11.here hx rfl (hb hby at_89) kk_) ?_
  show G T11 (mkF m 90 #[.val (.int p0), .val (.int p1), .val (.int p2), .val (.int p3), .val (.int p4), .val (.int p5), .val (.int b0), .val (.int b1), .val (.int b2), .val (.int b3), .val (.ref b), .val (.int ff), .val (.int tt), .val (.int lo), .val (.int hi), .unset, .unset] [(.int (0 : Int32))])
  refine hs.go (fun _ kk_ => XS.iload X11.here hx rfl (hb hby at_90) rfl  kk_) ?_
  show G T11 (mkF m 92 #[.val (.int p0), .val (.int p1), .val (.int p2), .val (.int p3), .val (.int p4), .val (.int p5), .val (.int b0), .val (.int b1), .val (.int b2), .val (.int b3), .val (.ref b), .val (.int ff), .val (.int tt), .val (.int lo), .val (.int hi), .unset, .unset] [(.int b0), (.int (0 : Int32))])
  refine hs.go (fun _ kk_ => XS.iload X11.here hx rfl (hb hby at_92) rfl  kk_) ?_
  show G T11 (mkF m 94 #[.val (.int p0), .val (.int p1), .val (.int p2), .val (.int p3), .val (.int p4), .val (.int p5), .val (.int b0), .val (.int b1), .val (.int b2), .val (.int b3), .val (.ref b), .val (.int ff), .val (.int tt), .val (.int lo), .val (.int hi), .unset, .unset] [(.int lo), (.int b0), (.int (0 : Int32))])
  refine hs.go (fun _ kk_ => XS.iload X11.here hx rfl (hb hby at_94) rfl  kk_) ?_
  show G T11 (mkF m 96 #[.val (.int p0), .val (.int p1), .val (.int p2), .val (.int p3), .val (.int p4), .val (.int p5), .val (.int b0), .val (.int b1), .val (.int b2), .val (.int b3), .val (.ref b), .val (.int ff), .val (.int tt), .val (.int lo), .val (.int hi), .unset, .unset] [(.int hi), (.int lo), (.int b0), (.int (0 : Int32))])
  refine rCallS hs X11 hx hZ (as' := [(.int (0 : Int32)), (.int b0), (.int lo), (.int hi)]) (rm4 l Z a0 hw [] (0 : Int32) b0 lo hi h9 n0 Z0) hown (hw _ (List.mem_of_getElem? (i := 13) rfl)) (hw _ (List.mem_of_getElem? (i := 14) rfl)) (hw _ (List.mem_of_getElem? (i := 2) rfl)) (hw _ (List.mem_of_getElem? (i := 15) rfl)) hy_4 rfl (by rw [hml]; rfl) [] (lenOf pd_2 rfl) rfl 0 (by show 2 * 0 + _ ≤ _; exact Nat.le_of_eq rfl) (hb hby at_96) (by decide) (by decide) (by decide) (by decide) (fun r14 T14 h14 X14 q14 => ?_)
  obtain ⟨rfl, qh14⟩ := q14
  rw [qh14] at X14
  show G T14 (mkF m 99 #[.val (.int p0), .val (.int p1), .val (.int p2), .val (.int p3), .val (.int p4), .val (.int p5), .val (.int b0), .val (.int b1), .val (.int b2), .val (.int b3), .val (.ref b), .val (.int ff), .val (.int tt), .val (.int lo), .val (.int hi), .unset, .unset] [(.int (f4 (0 : Int32) b0 lo hi))])
  by_cases c99 : (f4 (0 : Int32) b0 lo hi) = (0 : Int32)
  · refine hs.go (fun _ kk_ => XS.ifYes X14.here hx rfl (pc0 := 99) (pc' := 145) rfl (hb hby at_99) rfl ((if0 _ _).trans (teq c99).1) (by decide) (by decide) kk_) ?_
    show G T14 (mkF m 145 #[.val (.int p0), .val (.int p1), .val (.int p2), .val (.int p3), .val (.int p4), .val (.int p5), .val (.int b0), .val (.int b1), .val (.int b2), .val (.int b3), .val (.ref b), .val (.int ff), .val (.int tt), .val (.int lo), .val (.int hi), .unset, .unset] [])
    refine hs.go (fun _ kk_ => XS.iconst X14.here hx rfl (hb hby at_145) kk_) ?_
    show G T14 (mkF m 146 #[.val (.int p0), .val (.int p1), .val (.int p2), .val (.int p3), .val (.int p4), .val (.int p5), .val (.int b0), .val (.int b1), .val (.int b2), .val (.int b3), .val (.ref b), .val (.int ff), .val (.int tt), .val (.int lo), .val (.int hi), .unset, .unset] [(.int (0 : Int32))])
    exact J146 _ _ (X14.more (by decide) (by decide)) (Or.inl (⟨c99, rfl⟩))
  · refine hs.go (fun _ kk_ => XS.ifNo X14.here hx rfl (hb hby at_99) rfl ((if0 _ _).trans (feq c99).1) kk_) ?_
    show G T14 (mkF m 102 #[.val (.int p0), .val (.int p1), .val (.int p2), .val (.int p3), .val (.int p4), .val (.int p5), .val (.int b0), .val (.int b1), .val (.int b2), .val (.int b3), .val (.ref b), .val (.int ff), .val (.int tt), .val (.int lo), .val (.int hi), .unset, .unset] [])
    refine hs.go (fun _ kk_ => XS.iconst X14.here hx rfl (hb hby at_102) kk_) ?_
    show G T14 (mkF m 103 #[.val (.int p0), .val (.int p1), .val (.int p2), .val (.int p3), .val (.int p4), .val (.int p5), .val (.int b0), .val (.int b1), .val (.int b2), .val (.int b3), .val (.ref b), .val (.int ff), .val (.int tt), .val (.int lo), .val (.int hi), .unset, .unset] [(.int (1 : Int32))])
    refine hs.go (fun _ kk_ => XS.iload X14.here hx rfl (hb hby at_103) rfl  kk_) ?_
    show G T14 (mkF m 105 #[.val (.int p0), .val (.int p1), .val (.int p2), .val (.int p3), .val (.int p4), .val (.int p5), .val (.int b0), .val (.int b1), .val (.int b2), .val (.int b3), .val (.ref b), .val (.int ff), .val (.int tt), .val (.int lo), .val (.int hi), .unset, .unset] [(.int b1), (.int (1 : Int32))])
    refine hs.go (fun _ kk_ => XS.iload X14.here hx rfl (hb hby at_105) rfl  kk_) ?_
    show G T14 (mkF m 107 #[.val (.int p0), .val (.int p1), .val (.int p2), .val (.int p3), .val (.int p4), .val (.int p5), .val (.int b0), .val (.int b1), .val (.int b2), .val (.int b3), .val (.ref b), .val (.int ff), .val (.int tt), .val (.int lo), .val (.int hi), .unset, .unset] [(.int lo), (.int b1), (.int (1 : Int32))])
    refine hs.go (fun _ kk_ => XS.iload X14.here hx rfl (hb hby at_107) rfl  kk_) ?_
    show G T14 (mkF m 109 #[.val (.int p0), .val (.int p1), .val (.int p2), .val (.int p3), .val (.int p4), .val (.int p5), .val (.int b0), .val (.int b1), .val (.int b2), .val (.int b3), .val (.ref b), .val (.int ff), .val (.int tt), .val (.int lo), .val (.int hi), .unset, .unset] [(.int hi), (.int lo), (.int b1), (.int (1 : Int32))])
    refine rCallS hs X14 hx hZ (as' := [(.int (1 : Int32)), (.int b1), (.int lo), (.int hi)]) (rm4 l Z a0 hw [] (1 : Int32) b1 lo hi h9 n0 Z0) hown (hw _ (List.mem_of_getElem? (i := 13) rfl)) (hw _ (List.mem_of_getElem? (i := 14) rfl)) (hw _ (List.mem_of_getElem? (i := 2) rfl)) (hw _ (List.mem_of_getElem? (i := 15) rfl)) hy_4 rfl (by rw [hml]; rfl) [] (lenOf pd_2 rfl) rfl 0 (by show 2 * 0 + _ ≤ _; exact Nat.le_of_eq rfl) (hb hby at_109) (by decide) (by decide) (by decide) (by decide) (fun r15 T15 h15 X15 q15 => ?_)
    obtain ⟨rfl, qh15⟩ := q15
    rw [qh15] at X15
    show G T15 (mkF m 112 #[.val (.int p0), .val (.int p1), .val (.int p2), .val (.int p3), .val (.int p4), .val (.int p5), .val (.int b0), .val (.int b1), .val (.int b2), .val (.int b3), .val (.ref b), .val (.int ff), .val (.int tt), .val (.int lo), .val (.int hi), .unset, .unset] [(.int (f4 (1 : Int32) b1 lo hi))])
    by_cases c112 : (f4 (1 : Int32) b1 lo hi) = (0 : Int32)
    · refine hs.go (fun _ kk_ => XS.ifYes X15.here hx rfl (pc0 := 112) (pc' := 145) rfl (hb hby at_112) rfl ((if0 _ _).trans (teq c112).1) (by decide) (by decide) kk_) ?_
      show G T15 (mkF m 145 #[.val (.int p0), .val (.int p1), .val (.int p2), .val (.int p3), .val (.int p4), .val (.int p5), .val (.int b0), .val (.int b1), .val (.int b2), .val (.int b3), .val (.ref b), .val (.int ff), .val (.int tt), .val (.int lo), .val (.int hi), .unset, .unset] [])
      refine hs.go (fun _ kk_ => XS.iconst X15.here hx rfl (hb hby at_145) kk_) ?_
      show G T15 (mkF m 146 #[.val (.int p0), .val (.int p1), .val (.int p2), .val (.int p3), .val (.int p4), .val (.int p5), .val (.int b0), .val (.int b1), .val (.int b2), .val (.int b3), .val (.ref b), .val (.int ff), .val (.int tt), .val (.int lo), .val (.int hi), .unset, .unset] [(.int (0 : Int32))])
      exact J146 _ _ (X15.more (by decide) (by decide)) (Or.inr (Or.inl (⟨c99, c112, rfl⟩)))
    · refine hs.go (fun _ kk_ => XS.ifNo X15.here hx rfl (hb hby at_112) rfl ((if0 _ _).trans (feq c112).1) kk_) ?_
      show G T15 (mkF m 115 #[.val (.int p0), .val (.int p1), .val (.int p2), .val (.int p3), .val (.int p4), .val (.int p5), .val (.int b0), .val (.int b1), .val (.int b2), .val (.int b3), .val (.ref b), .val (.int ff), .val (.int tt), .val (.int lo), .val (.int hi), .unset, .unset] [])
      refine hs.go (fun _ kk_ => XS.iconst X15.here hx rfl (hb hby at_115) kk_) ?_
      show G T15 (mkF m 116 #[.val (.int p0), .val (.int p1), .val (.int p2), .val (.int p3), .val (.int p4), .val (.int p5), .val (.int b0), .val (.int b1), .val (.int b2), .val (.int b3), .val (.ref b), .val (.int ff), .val (.int tt), .val (.int lo), .val (.int hi), .unset, .unset] [(.int (2 : Int32))])
      refine hs.go (fun _ kk_ => XS.iload X15.here hx rfl (hb hby at_116) rfl  kk_) ?_
      show G T15 (mkF m 118 #[.val (.int p0), .val (.int p1), .val (.int p2), .val (.int p3), .val (.int p4), .val (.int p5), .val (.int b0), .val (.int b1), .val (.int b2), .val (.int b3), .val (.ref b), .val (.int ff), .val (.int tt), .val (.int lo), .val (.int hi), .unset, .unset] [(.int b2), (.int (2 : Int32))])
      refine hs.go (fun _ kk_ => XS.iload X15.here hx rfl (hb hby at_118) rfl  kk_) ?_
      show G T15 (mkF m 120 #[.val (.int p0), .val (.int p1), .val (.int p2), .val (.int p3), .val (.int p4), .val (.int p5), .val (.int b0), .val (.int b1), .val (.int b2), .val (.int b3), .val (.ref b), .val (.int ff), .val (.int tt), .val (.int lo), .val (.int hi), .unset, .unset] [(.int lo), (.int b2), (.int (2 : Int32))])
      refine hs.go (fun _ kk_ => XS.iload X15.here hx rfl (hb hby at_120) rfl  kk_) ?_
      show G T15 (mkF m 122 #[.val (.int p0), .val (.int p1), .val (.int p2), .val (.int p3), .val (.int p4), .val (.int p5), .val (.int b0), .val (.int b1), .val (.int b2), .val (.int b3), .val (.ref b), .val (.int ff), .val (.int tt), .val (.int lo), .val (.int hi), .unset, .unset] [(.int hi), (.int lo), (.int b2), (.int (2 : Int32))])
      refine rCallS hs X15 hx hZ (as' := [(.int (2 : Int32)), (.int b2), (.int lo), (.int hi)]) (rm4 l Z a0 hw [] (2 : Int32) b2 lo hi h9 n0 Z0) hown (hw _ (List.mem_of_getElem? (i := 13) rfl)) (hw _ (List.mem_of_getElem? (i := 14) rfl)) (hw _ (List.mem_of_getElem? (i := 2) rfl)) (hw _ (List.mem_of_getElem? (i := 15) rfl)) hy_4 rfl (by rw [hml]; rfl) [] (lenOf pd_2 rfl) rfl 0 (by show 2 * 0 + _ ≤ _; exact Nat.le_of_eq rfl) (hb hby at_122) (by decide) (by decide) (by decide) (by decide) (fun r16 T16 h16 X16 q16 => ?_)
      obtain ⟨rfl, qh16⟩ := q16
      rw [qh16] at X16
      show G T16 (mkF m 125 #[.val (.int p0), .val (.int p1), .val (.int p2), .val (.int p3), .val (.int p4), .val (.int p5), .val (.int b0), .val (.int b1), .val (.int b2), .val (.int b3), .val (.ref b), .val (.int ff), .val (.int tt), .val (.int lo), .val (.int hi), .unset, .unset] [(.int (f4 (2 : Int32) b2 lo hi))])
      by_cases c125 : (f4 (2 : Int32) b2 lo hi) = (0 : Int32)
      · refine hs.go (fun _ kk_ => XS.ifYes X16.here hx rfl (pc0 := 125) (pc' := 145) rfl (hb hby at_125) rfl ((if0 _ _).trans (teq c125).1) (by decide) (by decide) kk_) ?_
        show G T16 (mkF m 145 #[.val (.int p0), .val (.int p1), .val (.int p2), .val (.int p3), .val (.int p4), .val (.int p5), .val (.int b0), .val (.int b1), .val (.int b2), .val (.int b3), .val (.ref b), .val (.int ff), .val (.int tt), .val (.int lo), .val (.int hi), .unset, .unset] [])
        refine hs.go (fun _ kk_ => XS.iconst X16.here hx rfl (hb hby at_145) kk_) ?_
        show G T16 (mkF m 146 #[.val (.int p0), .val (.int p1), .val (.int p2), .val (.int p3), .val (.int p4), .val (.int p5), .val (.int b0), .val (.int b1), .val (.int b2), .val (.int b3), .val (.ref b), .val (.int ff), .val (.int tt), .val (.int lo), .val (.int hi), .unset, .unset] [(.int (0 : Int32))])
        exact J146 _ _ (X16.more (by decide) (by decide)) (Or.inr (Or.inr (Or.inl (⟨c99, c112, c125, rfl⟩))))
      · refine hs.go (fun _ kk_ => XS.ifNo X16.here hx rfl (hb hby at_125) rfl ((if0 _ _).trans (feq c125).1) kk_) ?_
        show G T16 (mkF m 128 #[.val (.int p0), .val (.int p1), .val (.int p2), .val (.int p3), .val (.int p4), .val (.int p5), .val (.int b0), .val (.int b1), .val (.int b2), .val (.int b3), .val (.ref b), .val (.int ff), .val (.int tt), .val (.int lo), .val (.int hi), .unset, .unset] [])
        refine hs.go (fun _ kk_ => XS.iconst X16.here hx rfl (hb hby at_128) kk_) ?_
        show G T16 (mkF m 129 #[.val (.int p0), .val (.int p1), .val (.int p2), .val (.int p3), .val (.int p4), .val (.int p5), .val (.int b0), .val (.int b1), .val (.int b2), .val (.int b3), .val (.ref b), .val (.int ff), .val (.int tt), .val (.int lo), .val (.int hi), .unset, .unset] [(.int (3 : Int32))])
        refine hs.go (fun _ kk_ => XS.iload X16.here hx rfl (hb hby at_129) rfl  kk_) ?_
        show G T16 (mkF m 131 #[.val (.int p0), .val (.int p1), .val (.int p2), .val (.int p3), .val (.int p4), .val (.int p5), .val (.int b0), .val (.int b1), .val (.int b2), .val (.int b3), .val (.ref b), .val (.int ff), .val (.int tt), .val (.int lo), .val (.int hi), .unset, .unset] [(.int b3), (.int (3 : Int32))])
        refine hs.go (fun _ kk_ => XS.iload X16.here hx rfl (hb hby at_131) rfl  kk_) ?_
        show G T16 (mkF m 133 #[.val (.int p0), .val (.int p1), .val (.int p2), .val (.int p3), .val (.int p4), .val (.int p5), .val (.int b0), .val (.int b1), .val (.int b2), .val (.int b3), .val (.ref b), .val (.int ff), .val (.int tt), .val (.int lo), .val (.int hi), .unset, .unset] [(.int lo), (.int b3), (.int (3 : Int32))])
        refine hs.go (fun _ kk_ => XS.iload X16.here hx rfl (hb hby at_133) rfl  kk_) ?_
        show G T16 (mkF m 135 #[.val (.int p0), .val (.int p1), .val (.int p2), .val (.int p3), .val (.int p4), .val (.int p5), .val (.int b0), .val (.int b1), .val (.int b2), .val (.int b3), .val (.ref b), .val (.int ff), .val (.int tt), .val (.int lo), .val (.int hi), .unset, .unset] [(.int hi), (.int lo), (.int b3), (.int (3 : Int32))])
        refine rCallS hs X16 hx hZ (as' := [(.int (3 : Int32)), (.int b3), (.int lo), (.int hi)]) (rm4 l Z a0 hw [] (3 : Int32) b3 lo hi h9 n0 Z0) hown (hw _ (List.mem_of_getElem? (i := 13) rfl)) (hw _ (List.mem_of_getElem? (i := 14) rfl)) (hw _ (List.mem_of_getElem? (i := 2) rfl)) (hw _ (List.mem_of_getElem? (i := 15) rfl)) hy_4 rfl (by rw [hml]; rfl) [] (lenOf pd_2 rfl) rfl 0 (by show 2 * 0 + _ ≤ _; exact Nat.le_of_eq rfl) (hb hby at_135) (by decide) (by decide) (by decide) (by decide) (fun r17 T17 h17 X17 q17 => ?_)
        obtain ⟨rfl, qh17⟩ := q17
        rw [qh17] at X17
        show G T17 (mkF m 138 #[.val (.int p0), .val (.int p1), .val (.int p2), .val (.int p3), .val (.int p4), .val (.int p5), .val (.int b0), .val (.int b1), .val (.int b2), .val (.int b3), .val (.ref b), .val (.int ff), .val (.int tt), .val (.int lo), .val (.int hi), .unset, .unset] [(.int (f4 (3 : Int32) b3 lo hi))])
        by_cases c138 : (f4 (3 : Int32) b3 lo hi) = (0 : Int32)
        · refine hs.go (fun _ kk_ => XS.ifYes X17.here hx rfl (pc0 := 138) (pc' := 145) rfl (hb hby at_138) rfl ((if0 _ _).trans (teq c138).1) (by decide) (by decide) kk_) ?_
          show G T17 (mkF m 145 #[.val (.int p0), .val (.int p1), .val (.int p2), .val (.int p3), .val (.int p4), .val (.int p5), .val (.int b0), .val (.int b1), .val (.int b2), .val (.int b3), .val (.ref b), .val (.int ff), .val (.int tt), .val (.int lo), .val (.int hi), .unset, .unset] [])
          refine hs.go (fun _ kk_ => XS.iconst X17.here hx rfl (hb hby at_145) kk_) ?_
          show G T17 (mkF m 146 #[.val (.int p0), .val (.int p1), .val (.int p2), .val (.int p3), .val (.int p4), .val (.int p5), .val (.int b0), .val (.int b1), .val (.int b2), .val (.int b3), .val (.ref b), .val (.int ff), .val (.int tt), .val (.int lo), .val (.int hi), .unset, .unset] [(.int (0 : Int32))])
          exact J146 _ _ (X17.more (by decide) (by decide)) (Or.inr (Or.inr (Or.inr (Or.inl (⟨c99, c112, c125, c138, rfl⟩)))))
        · refine hs.go (fun _ kk_ => XS.ifNo X17.here hx rfl (hb hby at_138) rfl ((if0 _ _).trans (feq c138).1) kk_) ?_
          show G T17 (mkF m 141 #[.val (.int p0), .val (.int p1), .val (.int p2), .val (.int p3), .val (.int p4), .val (.int p5), .val (.int b0), .val (.int b1), .val (.int b2), .val (.int b3), .val (.ref b), .val (.int ff), .val (.int tt), .val (.int lo), .val (.int hi), .unset, .unset] [])
          refine hs.go (fun _ kk_ => XS.iconst X17.here hx rfl (hb hby at_141) kk_) ?_
          show G T17 (mkF m 142 #[.val (.int p0), .val (.int p1), .val (.int p2), .val (.int p3), .val (.int p4), .val (.int p5), .val (.int b0), .val (.int b1), .val (.int b2), .val (.int b3), .val (.ref b), .val (.int ff), .val (.int tt), .val (.int lo), .val (.int hi), .unset, .unset] [(.int (1 : Int32))])
          refine hs.go (fun _ kk_ => XS.goto X17.here hx rfl (pc0 := 142) (pc' := 146) rfl (hb hby at_142) (by decide) (by decide) kk_) ?_
          show G T17 (mkF m 146 #[.val (.int p0), .val (.int p1), .val (.int p2), .val (.int p3), .val (.int p4), .val (.int p5), .val (.int b0), .val (.int b1), .val (.int b2), .val (.int b3), .val (.ref b), .val (.int ff), .val (.int tt), .val (.int lo), .val (.int hi), .unset, .unset] [(.int (1 : Int32))])
          exact J146 _ _ (X17.more (by decide) (by decide)) (Or.inr (Or.inr (Or.inr (Or.inr (⟨c99, c112, c125, c138, rfl⟩)))))
set_option maxRecDepth 65536 in
set_option maxHeartbeats 40000000 in
theorem comes_1 {Post : Tables → Env → Array Value → State → Outcome → State → Prop} (hpost : ∀ tb e args s v u, (limb_1_1.after args s (.returned v) u = true ∧ limb_1_2.after args s (.returned v) u = true ∧ True) → FrameEnd s (.returned v) u (Jvm.fieldLocs frame_1_writes args s ++ Jvm.arrayLocs frame_1_arrays args s ++ Jvm.staticLocs frame_1_statics s) 16 128 → Post tb e args s (.returned v) u) :
    ArmFor flags0 classFile x code maxLocals ret World_1 tables_1 room_1 Calls_1 rest_1 Pre_1 Post := by
  intro l hfl _ _ p e ha hc hk s m args below hf hA hF happ hP
  obtain ⟨hcalls, hrest, hpre⟩ := hP
  obtain ⟨-, -, -, hnamed, -, -, -, hat⟩ := (Spec.applies_iff hf).mp happ
  obtain ⟨hg, hn⟩ := and_e (Cond.before_iff.mp (show (Jvm.Cond.and given_1 narrow_1).before args s = true from hpre))
  obtain ⟨hcnt, hg0⟩ := and_e hg
  obtain ⟨t0, hg1⟩ := and_e hg0
  obtain ⟨t1, hg2⟩ := and_e hg1
  obtain ⟨t2, hg3⟩ := and_e hg2
  obtain ⟨t3, hg4⟩ := and_e hg3
  obtain ⟨t4, hg5⟩ := and_e hg4
  have t5 := hg5
  obtain ⟨w0, w1, w2, w3, w4, w5, rfl⟩ : ∃ w0 w1 w2 w3 w4 w5 : Value, args = #[w0, w1, w2, w3, w4, w5] := by
    have hs : args.size = 6 := by simpa [Cond.value, given_1] using hcnt
    obtain ⟨L⟩ := args
    match L, hs with
    | [w0, w1, w2, w3, w4, w5], _ => exact ⟨w0, w1, w2, w3, w4, w5, rfl⟩
  have hw := fun d (hd : d ∈ tables_1) => atoms_spec (ws := Jvm.Cond.code x code maxLocals ret :: tables_1) hat d (List.mem_cons_of_mem _ hd)
  have hfit : Fit s := fun {y c} hc i hi => by
    obtain ⟨ha, rfl⟩ := Array.getElem?_eq_some_iff.mp hc
    have q := List.all_eq_true.mp ((Array.all_eq_true_iff_forall_mem.mp hF) _ (Array.getElem_mem ha)) i (List.mem_range.mpr hi)
    simpa [Array.getElem?_eq_getElem hi] using q
  obtain ⟨i0, ei0⟩ := is_v t0
  obtain rfl : w0 = (.int i0) := Option.some.inj ei0
  obtain ⟨i1, ei1⟩ := is_v t1
  obtain rfl : w1 = (.int i1) := Option.some.inj ei1
  obtain ⟨i2, ei2⟩ := is_v t2
  obtain rfl : w2 = (.int i2) := Option.some.inj ei2
  obtain ⟨i3, ei3⟩ := is_v t3
  obtain rfl : w3 = (.int i3) := Option.some.inj ei3
  obtain ⟨i4, ei4⟩ := is_v t4
  obtain rfl : w4 = (.int i4) := Option.some.inj ei4
  obtain ⟨i5, ei5⟩ := is_v t5
  obtain rfl : w5 = (.int i5) := Option.some.inj ei5
  obtain ⟨n, o, h1, h2, h3, _, L, rfl, ⟨rfl, N⟩, hq⟩ := rm0 l s _ hw tables_1 i0 i1 i2 i3 i4 i5  s.heap s.heap.size (Nat.le_refl _)  p e ha hc hk s m _ below hf ((Spec.applies_iff_loose hf).mp happ).1 ⟨rfl, State.Warmed39.refl s, rfl⟩ trivial
  refine ⟨n, _, h1, h2, h3, hpost _ _ _ _ _ _ ⟨Cond.after_iff.mpr rfl, Cond.after_iff.mpr (eq_i res_at (Term.int_eval (1)) rfl), trivial⟩ ⟨hq.1, hq.2.1, (hq.2.2.sift fun y hy => Or.inr (N y hy)).mono (by decide) (by decide)⟩⟩
theorem main_1_1 : Claimed_1_1 := comes_1 fun _ _ _ _ _ _ h hF => ⟨h.1, hF⟩
theorem main_1_2 : Claimed_1_2 := comes_1 fun _ _ _ _ _ _ h hF => ⟨h.2.1, hF⟩
end Jvm.Pilot.@@N@@
namespace Jvm.Pilot.@@N@@
open Jvm Jvm.ClassFile Sem Op Lib Jvm.Free Jvm.Stand Jvm.Pilot.@@N@@.Jvm.D
/-! MADE BY PROGRAM (witnessworld.py) out of the Statement's table words and the real class files: 10 classes; the members and pool entries that the words name. The judged class is class 1, her method 3. -/
namespace start1
open Jvm.ClassFile
def u (s : String) : CpInfo := .utf8 (stringToUtf16 s)
/-- a pool by its gaps: so many unusable entries, then the entry; so many at the end -/
def gap : Nat → List CpInfo → List CpInfo
  | 0, r => r
  | n + 1, r => .unusable :: gap n r
def poolList (es : List (Nat × CpInfo)) (last : Nat) : List CpInfo := es.foldr (fun e r => gap e.1 (e.2 :: r)) (gap last [])
def pool (es : List (Nat × CpInfo)) (last : Nat) : Array CpInfo := ⟨poolList es last⟩
def fileOf (pool : Array CpInfo) (this : Nat) (attrs : Array Attribute := #[]) (ms : Array MethodInfo := #[]) (fl : Nat := 33) (sup : Nat := 0) (ifs : Array Nat := #[]) (fds : Array FieldInfo := #[]) : ClassFile where
  minorVersion := 0
  majorVersion := 65
  constantPool := pool
  accessFlags := fl
  thisClass := this
  superClass := sup
  interfaces := ifs
  fields := fds
  methods := ms
  attributes := attrs
def plain (name : String) (sup : Option ClassId) : Class where
  name := name
  kind := .ordinary
  loader := none
  accessFlags := 33
  super := sup
  interfaces := #[]
  cf := none
  fields := #[]
  methods := #[]
  instanceTypes := #[]
  staticTypes := #[]
  resolved := #[]
  callSites := []
  init := .initialized
  statics := none
  mirror := none

def pool0 : Array CpInfo := pool [(5, u "<init>"), (0, u "()V"), (1, .class_ 10), (1, u "java/lang/Object")] 113

def k0m0 : Method := { name := "<init>", desc := "()V", sig := { parameters := [], returnType := none }, accessFlags := 1, code := none }
/-- java/lang/Object -/
def k0 : Class := { plain "java/lang/Object" none with
  accessFlags := 33
  interfaces := #[]
  cf := some (fileOf pool0 8 #[] #[{ accessFlags := 1, nameIndex := 5, descriptorIndex := 6, attributes := #[] }] 33 0 #[] #[])
  fields := #[]
  methods := #[k0m0]
  instanceTypes := #[]
  staticTypes := #[]
  resolved := Array.replicate 124 none
  statics := none }

def pool1 : Array CpInfo := pool [(2, .class_ 4), (1, u "java/lang/Object"), (0, u "<init>"), (0, u "()V"), (0, .methodref 8 9), (0, .class_ 10), (0, .nameAndType 11 12), (0, u "com/example/redoubt/redoubt/storage/ZeroBytesAllPinLaw"), (0, u "draw"), (0, u "(I)B"), (0, .integer 2147483647), (0, .methodref 15 16), (0, .class_ 17), (0, .nameAndType 18 19), (0, u "java/lang/Math"), (0, u "min"), (0, u "(II)I"), (0, .methodref 15 21), (0, .nameAndType 22 19), (0, u "max"), (0, .methodref 8 24), (0, .nameAndType 25 26), (0, u "okAt"), (0, u "(IBII)Z"), (0, .methodref 28 29), (0, .class_ 30), (0, .nameAndType 31 32), (0, u "com/example/redoubt/redoubt/storage/ZeroBytes"), (0, u "all"), (0, u "([BII)Z"), (3, u "law"), (0, u "(IIIIII)Z")] 4

def k1m0 : Method := { name := "<init>", desc := "()V", sig := { parameters := [], returnType := none }, accessFlags := 2, code := none }
def k1c1 : Code := { maxStack := 2, maxLocals := 1, code := method_2_code, exceptionTable := #[], attributes := #[] }
def k1m1 : Method := { name := "draw", desc := "(I)B", sig := { parameters := [.int], returnType := some .byte }, accessFlags := 10, code := some k1c1 }
def k1c2 : Code := { maxStack := 2, maxLocals := 5, code := method_3_code, exceptionTable := #[], attributes := #[] }
def k1m2 : Method := { name := "okAt", desc := "(IBII)Z", sig := { parameters := [.int, .byte, .int, .int], returnType := some .boolean }, accessFlags := 10, code := some k1c2 }
def k1c3 : Code := { maxStack := 4, maxLocals := 17, code := code, exceptionTable := #[], attributes := #[] }
def k1m3 : Method := { name := "law", desc := "(IIIIII)Z", sig := { parameters := [.int, .int, .int, .int, .int, .int], returnType := some .boolean }, accessFlags := 9, code := some k1c3 }
/-- com/example/redoubt/redoubt/storage/ZeroBytesAllPinLaw -/
def k1 : Class := { plain "com/example/redoubt/redoubt/storage/ZeroBytesAllPinLaw" (some 0) with
  accessFlags := 49
  interfaces := #[]
  cf := some (fileOf pool1 8 #[] #[{ accessFlags := 2, nameIndex := 5, descriptorIndex := 6, attributes := #[] }, { accessFlags := 10, nameIndex := 11, descriptorIndex := 12, attributes := #[] }, { accessFlags := 10, nameIndex := 25, descriptorIndex := 26, attributes := #[] }, { accessFlags := 9, nameIndex := 36, descriptorIndex := 37, attributes := #[] }] 49 2 #[] #[])
  fields := #[]
  methods := #[k1m0, k1m1, k1m2, k1m3]
  instanceTypes := #[]
  staticTypes := #[]
  resolved := Array.replicate 42 none
  statics := none }

def pool2 : Array CpInfo := pool [(1, .class_ 2), (0, u "java/lang/Math"), (1, .class_ 6), (1, u "java/lang/Object"), (0, u "<init>"), (0, u "()V"), (89, .class_ 100), (1, u "java/lang/Math$RandomNumberGeneratorHolder"), (71, u "negativeZeroFloatBits"), (0, u "J"), (2, u "negativeZeroDoubleBits"), (21, u "max"), (2, u "min"), (43, u "$assertionsDisabled"), (0, u "Z"), (88, u "(II)I"), (2, u "twoToTheDoubleScaleDown"), (0, u "D"), (4, u "twoToTheDoubleScaleUp"), (9, u "E"), (3, u "PI"), (2, u "TAU"), (2, u "DEGREES_TO_RADIANS"), (0, u "RADIANS_TO_DEGREES")] 94

def k2m0 : Method := { name := "<init>", desc := "()V", sig := { parameters := [], returnType := none }, accessFlags := 2, code := none }
def k2c1 : Code := { maxStack := 2, maxLocals := 2, code := jdk_29_method_65_code, exceptionTable := #[], attributes := #[] }
def k2m1 : Method := { name := "max", desc := "(II)I", sig := { parameters := [.int, .int], returnType := some .int }, accessFlags := 9, code := some k2c1 }
def k2c2 : Code := { maxStack := 2, maxLocals := 2, code := jdk_29_method_69_code, exceptionTable := #[], attributes := #[] }
def k2m2 : Method := { name := "min", desc := "(II)I", sig := { parameters := [.int, .int], returnType := some .int }, accessFlags := 9, code := some k2c2 }
/-- java/lang/Math -/
def k2 : Class := { plain "java/lang/Math" (some 0) with
  accessFlags := 49
  interfaces := #[]
  cf := some (fileOf pool2 1 #[.nestMembers #[98]] #[{ accessFlags := 2, nameIndex := 7, descriptorIndex := 8, attributes := #[] }, { accessFlags := 9, nameIndex := 198, descriptorIndex := 335, attributes := #[] }, { accessFlags := 9, nameIndex := 201, descriptorIndex := 335, attributes := #[] }] 49 4 #[] #[{ accessFlags := 25, nameIndex := 354, descriptorIndex := 339, attributes := #[] }, { accessFlags := 25, nameIndex := 358, descriptorIndex := 339, attributes := #[] }, { accessFlags := 25, nameIndex := 361, descriptorIndex := 339, attributes := #[] }, { accessFlags := 26, nameIndex := 364, descriptorIndex := 339, attributes := #[] }, { accessFlags := 26, nameIndex := 365, descriptorIndex := 339, attributes := #[] }, { accessFlags := 26, nameIndex := 172, descriptorIndex := 173, attributes := #[] }, { accessFlags := 26, nameIndex := 176, descriptorIndex := 173, attributes := #[] }, { accessFlags := 8, nameIndex := 344, descriptorIndex := 339, attributes := #[] }, { accessFlags := 8, nameIndex := 338, descriptorIndex := 339, attributes := #[] }, { accessFlags := 4120, nameIndex := 245, descriptorIndex := 246, attributes := #[] }])
  fields := #[{ name := "E", type := .double, accessFlags := 25, slot := 0, constantValue := 0 }, { name := "PI", type := .double, accessFlags := 25, slot := 1, constantValue := 0 }, { name := "TAU", type := .double, accessFlags := 25, slot := 2, constantValue := 0 }, { name := "DEGREES_TO_RADIANS", type := .double, accessFlags := 26, slot := 3, constantValue := 0 }, { name := "RADIANS_TO_DEGREES", type := .double, accessFlags := 26, slot := 4, constantValue := 0 }, { name := "negativeZeroFloatBits", type := .long, accessFlags := 26, slot := 5, constantValue := 0 }, { name := "negativeZeroDoubleBits", type := .long, accessFlags := 26, slot := 6, constantValue := 0 }, { name := "twoToTheDoubleScaleUp", type := .double, accessFlags := 8, slot := 7, constantValue := 0 }, { name := "twoToTheDoubleScaleDown", type := .double, accessFlags := 8, slot := 8, constantValue := 0 }, { name := "$assertionsDisabled", type := .boolean, accessFlags := 4120, slot := 9, constantValue := 0 }]
  methods := #[k2m0, k2m1, k2m2]
  instanceTypes := #[]
  staticTypes := #[.double, .double, .double, .double, .double, .long, .long, .double, .double, .boolean]
  resolved := Array.replicate 460 none
  statics := none }

def pool3 : Array CpInfo := pool [(2, .class_ 4), (1, u "java/lang/Object"), (0, u "<init>"), (0, u "()V"), (1, .class_ 10), (1, u "com/example/redoubt/redoubt/storage/ZeroBytes"), (0, u "all"), (0, u "([BII)Z")] 6

def k3m0 : Method := { name := "<init>", desc := "()V", sig := { parameters := [], returnType := none }, accessFlags := 2, code := none }
def k3c1 : Code := { maxStack := 2, maxLocals := 4, code := prog_134_method_3_code, exceptionTable := #[], attributes := #[] }
def k3m1 : Method := { name := "all", desc := "([BII)Z", sig := { parameters := [(.array .byte), .int, .int], returnType := some .boolean }, accessFlags := 8, code := some k3c1 }
/-- com/example/redoubt/redoubt/storage/ZeroBytes -/
def k3 : Class := { plain "com/example/redoubt/redoubt/storage/ZeroBytes" (some 0) with
  accessFlags := 48
  interfaces := #[]
  cf := some (fileOf pool3 8 #[] #[{ accessFlags := 2, nameIndex := 5, descriptorIndex := 6, attributes := #[] }, { accessFlags := 8, nameIndex := 11, descriptorIndex := 12, attributes := #[] }] 48 2 #[] #[])
  fields := #[]
  methods := #[k3m0, k3m1]
  instanceTypes := #[]
  staticTypes := #[]
  resolved := Array.replicate 19 none
  statics := none }

def pool4 : Array CpInfo := pool [(1, u "java/lang/Cloneable"), (0, .class_ 1), (0, u "java/lang/Object"), (0, .class_ 3)] 3

/-- java/lang/Cloneable -/
def k4 : Class := { plain "java/lang/Cloneable" (some 0) with
  accessFlags := 1537
  interfaces := #[]
  cf := some (fileOf pool4 2 #[] #[] 1537 4 #[] #[])
  fields := #[]
  methods := #[]
  instanceTypes := #[]
  staticTypes := #[]
  resolved := Array.replicate 8 none
  statics := none }

def pool5 : Array CpInfo := pool [(1, u "java/io/Serializable"), (0, .class_ 1), (0, u "java/lang/Object"), (0, .class_ 3)] 3

/-- java/io/Serializable -/
def k5 : Class := { plain "java/io/Serializable" (some 0) with
  accessFlags := 1537
  interfaces := #[]
  cf := some (fileOf pool5 2 #[] #[] 1537 4 #[] #[])
  fields := #[]
  methods := #[]
  instanceTypes := #[]
  staticTypes := #[]
  resolved := Array.replicate 8 none
  statics := none }

/-- the primitive byte -/
def k6 : Class := { plain "byte" none with kind := .primitive 'B', accessFlags := 0x411 }
/-- [B -/
def k7 : Class := { plain "[B" (some 0) with kind := .array 6 .byte, interfaces := #[4, 5], accessFlags := 1041 }

/-- the primitive int -/
def k8 : Class := { plain "int" none with kind := .primitive 'I', accessFlags := 0x411 }
/-- [I -/
def k9 : Class := { plain "[I" (some 0) with kind := .array 8 .int, interfaces := #[4, 5], accessFlags := 1041 }

def heap : Heap := #[]
def classes : Array Class := #[k0, k1, k2, k3, k4, k5, k6, k7, k8, k9]
def interned : List (Array UInt16 × Addr) := []
def slotsUsed : Nat := 0
def theMethod : MethodId := ⟨1, 3⟩
def args0 : Array Value := #[.int 5, .int 5, .int 5, .int 5, .int 5, .int 5]
def aboutOver (below : List Frame) : State where
  vm := { classes := classes, interned := interned.toArray }
  heap := heap
  slotsUsed := slotsUsed
  threads := #[{ frames := .invoking theMethod args0 :: below }]
def below0 : List Frame := [.native { method := ⟨0, 0⟩, args := #[] }]
def about1 : State := aboutOver below0
def p0 : Program := .bare "" "" ""
def e0 : Env := launch0.env 0 0 0
theorem w_frames : about1.frames = Frame.invoking theMethod args0 :: below0 := rfl
set_option maxRecDepth 65536 in
theorem w_args : argsFit about1.vm theMethod args0 = true := by decide +kernel
set_option maxRecDepth 65536 in
theorem w_heap : heapFits about1 = true := by decide +kernel
set_option maxRecDepth 65536 in
theorem w_runnable : about1.curStatus? = some .runnable := by decide +kernel
set_option maxRecDepth 65536 in
theorem w_alone : about1.alone = true := by decide +kernel
set_option maxRecDepth 65536 in
theorem w_named : about1.methodNamed? x = some theMethod := by decide +kernel
set_option maxRecDepth 65536 in
theorem w_hears : about1.hears theMethod below0 = true := by decide +kernel
set_option maxRecDepth 65536 in
theorem w_ripe : about1.ripe theMethod args0 below0 = true := by decide +kernel
theorem w_running : about1.status = .running := rfl
set_option maxRecDepth 65536 in
theorem w_room : about1.hasRoom e0.platform room_1 = true :=
  launch0.hasRoom_least _ room_1 (by decide +kernel) (by decide +kernel) (by decide +kernel) (by decide +kernel) (by decide +kernel) (by decide +kernel)
theorem allAtoms_all (ts : List Jvm.Cond) (a : Array Jvm.Value) (st : Jvm.State) : (allAtoms ts).before a st = ts.all (fun c => c.before a st) := by
  induction ts with
  | nil => rfl
  | cons c t ih =>
    show (Jvm.Cond.and c (allAtoms t)).before a st = _
    rw [Jvm.Cond.before_and, ih, List.all_cons]
def words1 : List Jvm.Cond := Jvm.Cond.code x code maxLocals ret :: tables_1
/-- a 'code' word, met by the world's own term for the bytes: nothing is compared byte by byte -/
theorem code_word {y : MethodName} {bytes : ByteArray} {mx : Nat} {rt : Option FieldType} {a : Array Value} {s : State} {m : MethodId} {meth : Method} {c : Code} (h1 : s.methodNamed? y = some m) (h2 : s.vm.method? m = some meth) (h3 : meth.code = some c) (h4 : c.code = bytes)
    (h5 : (c.maxLocals == mx && c.exceptionTable.isEmpty && decide (c.maxStack ≤ mostOperands) && decide (meth.sig.returnType = rt) && !meth.locks && decide (parseMethodDescriptor y.desc = some meth.sig)) = true) : (Jvm.Cond.code y bytes mx rt).before a s = true := by
  simp only [Bool.and_eq_true, beq_iff_eq, Bool.not_eq_true', decide_eq_true_eq] at h5
  obtain ⟨⟨⟨⟨⟨g1, g2⟩, g3⟩, g4⟩, g5⟩, g6⟩ := h5
  simp [Cond.before, Cond.holds, Cond.value, h1, h2, h3, h4, g1, g2, g3, g4, g5, g6]
def isCode : Jvm.Cond → Bool
  | .code _ _ _ _ => true
  | _ => false
theorem all_split {L : List Jvm.Cond} {P : Jvm.Cond → Bool} (h1 : L.all (fun c => isCode c || P c) = true) (h2 : ∀ c ∈ L.filter isCode, P c = true) : L.all P = true := by
  refine List.all_eq_true.mpr fun c hc => ?_
  have h := List.all_eq_true.mp h1 c hc
  rcases Bool.eq_false_or_eq_true (isCode c) with hi | hi
  · exact h2 c (List.mem_filter.mpr ⟨hc, hi⟩)
  · simpa [hi] using h
set_option maxRecDepth 65536 in
theorem w_c0 : (Jvm.Cond.code x code maxLocals ret).before args0 about1 = true := code_word (m := ⟨1, 3⟩) (meth := k1m3) (c := k1c3) (by decide +kernel) rfl rfl rfl (by decide +kernel)
set_option maxRecDepth 65536 in
theorem w_c1 : (Jvm.Cond.code ({ cls := "com/example/redoubt/redoubt/storage/ZeroBytesAllPinLaw", name := "draw", desc := "(I)B" } : Jvm.MethodName) method_2_code (1 : Nat) (Option.some Jvm.ClassFile.FieldType.byte)).before args0 about1 = true := code_word (m := ⟨1, 1⟩) (meth := k1m1) (c := k1c1) (by decide +kernel) rfl rfl rfl (by decide +kernel)
set_option maxRecDepth 65536 in
theorem w_c2 : (Jvm.Cond.code ({ cls := "java/lang/Math", name := "min", desc := "(II)I" } : Jvm.MethodName) jdk_29_method_69_code (2 : Nat) (Option.some Jvm.ClassFile.FieldType.int)).before args0 about1 = true := code_word (m := ⟨2, 2⟩) (meth := k2m2) (c := k2c2) (by decide +kernel) rfl rfl rfl (by decide +kernel)
set_option maxRecDepth 65536 in
theorem w_c3 : (Jvm.Cond.code ({ cls := "java/lang/Math", name := "max", desc := "(II)I" } : Jvm.MethodName) jdk_29_method_65_code (2 : Nat) (Option.some Jvm.ClassFile.FieldType.int)).before args0 about1 = true := code_word (m := ⟨2, 1⟩) (meth := k2m1) (c := k2c1) (by decide +kernel) rfl rfl rfl (by decide +kernel)
set_option maxRecDepth 65536 in
theorem w_c4 : (Jvm.Cond.code ({ cls := "com/example/redoubt/redoubt/storage/ZeroBytesAllPinLaw", name := "okAt", desc := "(IBII)Z" } : Jvm.MethodName) method_3_code (5 : Nat) (Option.some Jvm.ClassFile.FieldType.boolean)).before args0 about1 = true := code_word (m := ⟨1, 2⟩) (meth := k1m2) (c := k1c2) (by decide +kernel) rfl rfl rfl (by decide +kernel)
set_option maxRecDepth 65536 in
theorem w_c5 : (Jvm.Cond.code ({ cls := "com/example/redoubt/redoubt/storage/ZeroBytes", name := "all", desc := "([BII)Z" } : Jvm.MethodName) prog_134_method_3_code (4 : Nat) (Option.some Jvm.ClassFile.FieldType.boolean)).before args0 about1 = true := code_word (m := ⟨3, 1⟩) (meth := k3m1) (c := k3c1) (by decide +kernel) rfl rfl rfl (by decide +kernel)
def codes1 : List Jvm.Cond := [Jvm.Cond.code x code maxLocals ret, Jvm.Cond.code ({ cls := "com/example/redoubt/redoubt/storage/ZeroBytesAllPinLaw", name := "draw", desc := "(I)B" } : Jvm.MethodName) method_2_code (1 : Nat) (Option.some Jvm.ClassFile.FieldType.byte), Jvm.Cond.code ({ cls := "java/lang/Math", name := "min", desc := "(II)I" } : Jvm.MethodName) jdk_29_method_69_code (2 : Nat) (Option.some Jvm.ClassFile.FieldType.int), Jvm.Cond.code ({ cls := "java/lang/Math", name := "max", desc := "(II)I" } : Jvm.MethodName) jdk_29_method_65_code (2 : Nat) (Option.some Jvm.ClassFile.FieldType.int), Jvm.Cond.code ({ cls := "com/example/redoubt/redoubt/storage/ZeroBytesAllPinLaw", name := "okAt", desc := "(IBII)Z" } : Jvm.MethodName) method_3_code (5 : Nat) (Option.some Jvm.ClassFile.FieldType.boolean), Jvm.Cond.code ({ cls := "com/example/redoubt/redoubt/storage/ZeroBytes", name := "all", desc := "([BII)Z" } : Jvm.MethodName) prog_134_method_3_code (4 : Nat) (Option.some Jvm.ClassFile.FieldType.boolean)]
set_option maxRecDepth 65536 in
theorem codes_eq : words1.filter isCode = codes1 := rfl
theorem w_codes : ∀ c ∈ words1.filter isCode, c.before args0 about1 = true := by
  rw [codes_eq]
  intro c hc
  simp only [codes1, List.mem_cons, List.not_mem_nil, or_false] at hc
  rcases hc with rfl | rfl | rfl | rfl | rfl | rfl
  · exact w_c0
  · exact w_c1
  · exact w_c2
  · exact w_c3
  · exact w_c4
  · exact w_c5
set_option maxRecDepth 65536 in
theorem w_t1 : words1.all (fun c => isCode c || c.before args0 about1) = true := by decide +kernel
theorem w_tables : (allAtoms (Jvm.Cond.code x code maxLocals ret :: tables_1)).before args0 about1 = true := by
  rw [allAtoms_all]
  show words1.all (fun c => c.before args0 about1) = true
  refine all_split ?_ w_codes
  rw [w_t1]
set_option maxRecDepth 65536 in
theorem w_case : (Jvm.Cond.and given_1 narrow_1).before args0 about1 = true := by decide +kernel
theorem w_applies : (headSpec (Jvm.Cond.code x code maxLocals ret :: tables_1) room_1).applies x e0.platform about1 = true :=
  (Spec.applies_iff w_frames).mpr ⟨w_running, w_runnable, w_alone, w_named, w_hears, w_ripe, w_room, w_tables⟩
theorem atStart : AtStart classFile x code maxLocals ret World_1 tables_1 room_1 Calls_1 rest_1 Pre_1 launch0 p0 e0 about1 theMethod args0 below0 :=
  ⟨lists_1, trivial, launch0.admits_env _ _ _, launch0.least_env, fairChoices_fair.cas, fairChoices_fair.clock, w_frames, w_args, w_heap, w_applies, trivial, trivial, w_case⟩
end start1
theorem witness_1 : WitnessClaimed_1 := ⟨start1.p0, start1.e0, start1.about1, start1.theMethod, start1.args0, start1.below0, start1.atStart⟩
end Jvm.Pilot.@@N@@
