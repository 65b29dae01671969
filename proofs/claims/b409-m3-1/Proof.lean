import JvmDerived
import JvmDerived.Pilot.@@N@@Statement
import JvmDerived.Pilot.@@N@@Code
set_option linter.unusedVariables false
set_option linter.unusedSimpArgs false
set_option maxHeartbeats 4000000
namespace Jvm.Pilot.@@N@@
open Jvm Jvm.ClassFile Sem Op Lib Jvm.Free Jvm.Stand Jvm.LawKit Jvm.RoadKit Bundle Jvm.Pilot.@@N@@.Jvm.D
/-! own kit: a walk read backwards: G T g says that from the state T with g on top the body comes to a good end -/
section OwnKit
variable {p : Program} {l : Launch} {e : Env} {R : Room} {s : State} {m : MethodId} {args : Array Value} {below : List Frame} {meth : Method} {c : Code} {T : State} {cells slots : Nat} {Z : State} {a0 : Array Value} {h : Heap} {n0 : Nat} {G : State → JFrame → Prop} {Q : Option Value → Heap → Prop}
def Clo (p : Program) (e : Env) (below : List Frame) (G : State → JFrame → Prop) : Prop := ∀ (T T' : State) (g g' : JFrame), (∀ t, Steps p.tables e below (T'.setTop g') t → Steps p.tables e below (T.setTop g) t) → G T' g' → G T g
theorem Clo.go (hs : Clo p e below G) {T T' : State} {g g' : JFrame} (st : ∀ t, Steps p.tables e below (T'.setTop g') t → Steps p.tables e below (T.setTop g) t) (k : G T' g') : G T g := hs T T' g g' st k
def Sd (p : Program) (l : Launch) (e : Env) (R : Room) (s : State) (m : MethodId) (args : Array Value) (below : List Frame) (meth : Method) (c : Code) (n0 : Nat) (T : State) (h : Heap) (cells slots : Nat) : Prop := ∃ locs, Stand p l e R s m args below meth c T locs cells slots ∧ Fr n0 locs ∧ T.heap = h
theorem Sd.here (X : Sd p l e R s m args below meth c n0 T h cells slots) : At T m c below := by obtain ⟨_, X, _⟩ := X; exact X.here
theorem Sd.more (X : Sd p l e R s m args below meth c n0 T h cells slots) {k n : Nat} (hk : cells ≤ k) (hn : slots ≤ n) : Sd p l e R s m args below meth c n0 T h k n := by obtain ⟨L, X, N⟩ := X; exact ⟨L, X.more hk hn, N⟩
/-- how a body ends -/
def Fnl (p : Program) (l : Launch) (e : Env) (R : Room) (s : State) (m : MethodId) (args : Array Value) (below : List Frame) (meth : Method) (c : Code) (n0 : Nat) (Q : Option Value → Heap → Prop) (G : State → JFrame → Prop) : Prop :=
  ∀ (T : State) (h : Heap) (k n : Nat) (g : JFrame) (v : Option Value), Sd p l e R s m args below meth c n0 T h k n → k ≤ R.cells → n ≤ R.slots → (meth.sig.returnType = none → v = none) →
    (∀ fs, (∀ (f : JFrame) (acts : List Action), f.method = m → f.locked = none → f.entered = [] → (doReturn e (T.setTop f) acts v).1 = T.setFrames fs) → Steps p.tables e below (T.setTop g) (T.setFrames fs)) → Q v h → G T g
/-- a body's contract -/
def Con (l : Launch) (Z : State) (y : MethodName) (bytes : ByteArray) (maxL : Nat) (ret : Option FieldType) (ws : List Jvm.Cond) (rm : Room) (as' : Array Value) (h : Heap) (n0 : Nat) (Q : Option Value → Heap → Prop) : Prop :=
  MetFree l y (head1 (Jvm.Cond.code y bytes maxL ret :: ws) rm) (fun a U => a = as' ∧ Z.Warmed39 U.vm ∧ U.heap = h) (fun _ _ _ _ _ => True)
    (fun _ U o U' => ∃ v L, o = .returned v ∧ (Q v U'.heap ∧ Fr n0 L) ∧ FrameEnd U o U' L rm.cells rm.slots)
theorem Con.of {y : MethodName} {bytes : ByteArray} {maxL : Nat} {ret : Option FieldType} {ws : List Jvm.Cond} {rm : Room} {as' : Array Value} (hp : plainFor y = true)
    (body : ∀ (G : State → JFrame → Prop) (p : Program) (e : Env) (s : State) (m : MethodId) (below : List Frame) (meth : Method) (c : Code) (s₁ : State),
      Clo p e below G → p.tables.exec = Jvm.exec → c.code = bytes → c.maxLocals = maxL → s.vm.findClass y.cls = some m.cls → meth.name = y.name → meth.sig.returnType = ret → Z.Warmed39 s.vm →
      Sd p l e rm s m as' below meth c n0 s₁ h 0 0 → Fnl p l e rm s m as' below meth c n0 Q G → G s₁ (entryFrame m as' maxL)) : Con l Z y bytes maxL ret ws rm as' h n0 Q := by
  refine MetFree.of_bodySF hp hisR ?_
  intro p e s m args below meth c s₁ Bd hml hP hK
  obtain ⟨ha, hZ, hh⟩ := hP
  subst ha
  refine body (fun T g => ∃ s₂ o, Steps p.tables e below (T.setTop g) s₂ ∧ s₂.status = .running ∧ Ended s₂ below o ∧ ∃ v L, o = .returned v ∧ (Q v s₂.heap ∧ Fr n0 L) ∧ FrameEnd s o s₂ L rm.cells rm.slots) p e s m below meth c s₁ ?_ Bd.exec Bd.bytes hml (findClass_of_methodNamed Bd.named) (name_of_methodNamed Bd.named Bd.method).1 Bd.returns hZ ⟨[], Stand.of_body Bd, Fr.nil n0, by rw [← hh, Bd.state]; rfl⟩ ?_
  · intro T T' g g' st ⟨s₂, o, h1, r⟩
    exact ⟨s₂, o, st _ h1, r⟩
  · intro T h k n g v ⟨locs, X, N, eh⟩ hk hn hv st q
    obtain ⟨fs, hr, hrun, hended, hW, hsame⟩ := X.leave (v := v) hv Bd.notSynchronized
    exact ⟨_, _, st fs hr, hrun, hended, v, locs, rfl, ⟨by show Q v T.heap; rw [eh]; exact q, N⟩, ⟨_, rfl⟩, hW, hsame.mono hk hn⟩
theorem rRetI (fin : Fnl p l e R s m args below meth c n0 Q G) (X : Sd p l e R s m args below meth c n0 T h cells slots) (hx : p.tables.exec = Jvm.exec) (hk : cells ≤ R.cells) (hn : slots ≤ R.slots) (hret : meth.sig.returnType = some .int) {pc : Nat} {Ls : Array Slot} {z : Int32} {rest : List Value} (hd : decode c.code pc = .ok (.ireturn, 1)) (q : Q (some (.int z)) h) : G T (mkF m pc Ls (.int z :: rest)) :=
  fin T h cells slots _ (some (.int z)) X hk hn (fun h => by rw [hret] at h; cases h) (fun fs hr => by obtain ⟨_, X, _⟩ := X; exact retOut X hx hret rfl (Or.inl ⟨rfl, Or.inl rfl, _, rfl⟩) hd hr) q
theorem rRetN (fin : Fnl p l e R s m args below meth c n0 Q G) (X : Sd p l e R s m args below meth c n0 T h cells slots) (hx : p.tables.exec = Jvm.exec) (hk : cells ≤ R.cells) (hn : slots ≤ R.slots) {t : FieldType} (hret : meth.sig.returnType = some t) (ht : t = .boolean ∨ t = .byte ∨ t = .char ∨ t = .short) {pc : Nat} {Ls : Array Slot} {z z' : Int32} {rest : List Value} (hd : decode c.code pc = .ok (.ireturn, 1)) (hz : nar t z = z') (q : Q (some (.int z')) h) : G T (mkF m pc Ls (.int z :: rest)) :=
  fin T h cells slots _ (some (.int (nar t z))) X hk hn (fun h => by rw [hret] at h; cases h) (fun fs hr => by obtain ⟨_, X, _⟩ := X; exact retN X hx hret ht hd hr) (hz ▸ q)
theorem rRetL (fin : Fnl p l e R s m args below meth c n0 Q G) (X : Sd p l e R s m args below meth c n0 T h cells slots) (hx : p.tables.exec = Jvm.exec) (hk : cells ≤ R.cells) (hn : slots ≤ R.slots) (hret : meth.sig.returnType = some .long) {pc : Nat} {Ls : Array Slot} {z : Int64} {rest : List Value} (hd : decode c.code pc = .ok (.lreturn, 1)) (q : Q (some (.long z)) h) : G T (mkF m pc Ls (.long z :: rest)) :=
  fin T h cells slots _ (some (.long z)) X hk hn (fun h => by rw [hret] at h; cases h) (fun fs hr => by obtain ⟨_, X, _⟩ := X; exact retOut X hx hret rfl (Or.inr (Or.inl ⟨rfl, rfl, _, rfl⟩)) hd hr) q
theorem rRetA (fin : Fnl p l e R s m args below meth c n0 Q G) (X : Sd p l e R s m args below meth c n0 T h cells slots) (hx : p.tables.exec = Jvm.exec) (hk : cells ≤ R.cells) (hn : slots ≤ R.slots) {t : FieldType} (hret : meth.sig.returnType = some t) (ht : t.isReference = true) {pc : Nat} {Ls : Array Slot} {z : Value} (hz : z.isRef = true) (hw : narrow t z = z) {rest : List Value} (hd : decode c.code pc = .ok (.areturn, 1)) (q : Q (some z) h) : G T (mkF m pc Ls (z :: rest)) :=
  fin T h cells slots _ (some z) X hk hn (fun h => by rw [hret] at h; cases h) (fun fs hr => by obtain ⟨_, X, _⟩ := X; exact retOut X hx hret hw (Or.inr (Or.inr (Or.inr (Or.inr ⟨rfl, ht, hz⟩)))) hd hr) q
theorem rRetD (fin : Fnl p l e R s m args below meth c n0 Q G) (X : Sd p l e R s m args below meth c n0 T h cells slots) (hx : p.tables.exec = Jvm.exec) (hk : cells ≤ R.cells) (hn : slots ≤ R.slots) (hret : meth.sig.returnType = some .double) {pc : Nat} {Ls : Array Slot} {z : UInt64} {rest : List Value} (hd : decode c.code pc = .ok (.dreturn, 1)) (q : Q (some (.double z)) h) : G T (mkF m pc Ls (.double z :: rest)) :=
  fin T h cells slots _ (some (.double z)) X hk hn (fun h => by rw [hret] at h; cases h) (fun fs hr => by obtain ⟨_, X, _⟩ := X; exact retOut X hx hret rfl (Or.inr (Or.inr (Or.inl ⟨rfl, rfl, _, rfl⟩))) hd hr) q
theorem rRetV (fin : Fnl p l e R s m args below meth c n0 Q G) (X : Sd p l e R s m args below meth c n0 T h cells slots) (hx : p.tables.exec = Jvm.exec) (hk : cells ≤ R.cells) (hn : slots ≤ R.slots) (hret : meth.sig.returnType = none) {pc : Nat} {Ls : Array Slot} (hd : decode c.code pc = .ok (.return_, 1)) (q : Q none h) : G T (mkF m pc Ls []) :=
  fin T h cells slots _ none X hk hn (fun _ => rfl) (fun fs hr => by obtain ⟨_, X, _⟩ := X; exact X.returnOut hx hret hd hr) q
theorem rLdcI (hs : Clo p e below G) (X : Sd p l e R s m args below meth c n0 T h cells slots) (hx : p.tables.exec = Jvm.exec) (hZ : Z.Warmed39 s.vm) {own : String} {index : Nat} {v : Int32} (hown : s.vm.findClass own = some m.cls) (w : (Jvm.Cond.constant own index v).before a0 Z = true) {g : JFrame} (hg : g.method = m) (hd : decode c.code g.pc = .ok (.ldc index, 2)) (k : G T { g with pc := g.pc + 2, stack := .int v :: g.stack }) : G T g := by
  obtain ⟨_, X, _⟩ := X
  exact hs.go (X.ldcInt hx hown (mvT hZ w) hg hd) k
theorem rLdcL (hs : Clo p e below G) (X : Sd p l e R s m args below meth c n0 T h cells slots) (hx : p.tables.exec = Jvm.exec) (hZ : Z.Warmed39 s.vm) {own : String} {index : Nat} {v : Int64} (hown : s.vm.findClass own = some m.cls) (w : (Jvm.Cond.constantLong own index v).before a0 Z = true) {g : JFrame} (hg : g.method = m) (hd : decode c.code g.pc = .ok (.ldc2_w index, 3)) (k : G T { g with pc := g.pc + 3, stack := .long v :: g.stack }) : G T g := by
  obtain ⟨_, X, _⟩ := X
  exact hs.go (X.ldc2Long hx hown (mvT hZ w) hg hd) k
theorem rLdcD (hs : Clo p e below G) (X : Sd p l e R s m args below meth c n0 T h cells slots) (hx : p.tables.exec = Jvm.exec) (hZ : Z.Warmed39 s.vm) {own : String} {index : Nat} {v : UInt64} (hown : s.vm.findClass own = some m.cls) (w : (Jvm.Cond.constantDouble own index v).before a0 Z = true) {g : JFrame} (hg : g.method = m) (hd : decode c.code g.pc = .ok (.ldc2_w index, 3)) (k : G T { g with pc := g.pc + 3, stack := .double v :: g.stack }) : G T g := by
  obtain ⟨_, X, _⟩ := X
  exact hs.go (X.ldc2DoubleC hx hown (mvT hZ w) hg hd) k
theorem rIrem (hs : Clo p e below G) (X : Sd p l e R s m args below meth c n0 T h cells slots) (hx : p.tables.exec = Jvm.exec) {g : JFrame} (hg : g.method = m) {x y : Int32} {rest : List Value} (hd : decode c.code g.pc = .ok (.irem, 1)) (hst : g.stack = .int y :: .int x :: rest) (hy : y ≠ 0) (k : G T { g with pc := g.pc + 1, stack := .int (x % y) :: rest }) : G T g := by
  obtain ⟨_, X, _⟩ := X
  exact hs.go (fun _ q => iremM X hx hg hd hst hy q) k
theorem rLrem (hs : Clo p e below G) (X : Sd p l e R s m args below meth c n0 T h cells slots) (hx : p.tables.exec = Jvm.exec) {g : JFrame} (hg : g.method = m) {x y : Int64} {rest : List Value} (hd : decode c.code g.pc = .ok (.lrem, 1)) (hst : g.stack = .long y :: .long x :: rest) (hy : y ≠ 0) (k : G T { g with pc := g.pc + 1, stack := .long (x % y) :: rest }) : G T g :=
  hs.go (fun _ q => XS.lrem X.here hx hg hd hst hy q) (by rw [lrem_mod]; exact k)
/-! arrays -/
theorem rNewP (hs : Clo p e below G) (X : Sd p l e R s m args below meth c n0 T h cells slots) (hx : p.tables.exec = Jvm.exec) (hZ : Z.Warmed39 s.vm) {aty : ArrayType} (w : (Jvm.Cond.arrayClass (newarray.typeOf aty)).before a0 Z = true) {g : JFrame} (hg : g.method = m) (hd : decode c.code g.pc = .ok (.newarray aty, 2)) {n : Int32} {rest : List Value} (hst : g.stack = .int n :: rest)
    (hn : ¬ n < 0) (cap len : Nat) (hcap : n.toNatClampNeg ≤ cap) (hb : cap * 8 ≤ 536870912) (hc : cells + 1 ≤ R.cells) (hl : slots + cap ≤ R.slots)
    (k : ∀ (T' : State) (h' : Heap) (cA : ClassId) (b : Addr), b = h.size → Sd p l e R s m args below meth c n0 T' h' (cells + 1) (slots + cap) → Ext h h' → Arv Z h' b cA (newarray.typeOf aty) n (List.replicate len (defaultValue (newarray.typeOf aty))) (defaultValue (newarray.typeOf aty)) → G T' { g with pc := g.pc + 2, stack := .ref b :: rest }) : G T g := by
  obtain ⟨L, X, N, eh⟩ := X
  obtain ⟨T', h', cA, X', e', E, A, st⟩ := newP X hx hZ w eh hg hd hst hn hcap hb hc hl
  exact hs.go st (k T' h' cA h.size rfl ⟨L, X', N, e'⟩ E ((Arv.new A hn).pad (pad_rep [] _ len)))
theorem rStI (hs : Clo p e below G) (X : Sd p l e R s m args below meth c n0 T h cells slots) (hx : p.tables.exec = Jvm.exec) (hZ : Z.Warmed39 s.vm) {a : Addr} {kc : ClassId} {z : Int32} {vs : List Value} {dv : Value} (V : Arv Z h a kc .int z vs dv) (ga : n0 ≤ a) {j x : Int32} (hj : ¬ j < 0 ∧ j < z) (i : Nat) (hi : j.toNatClampNeg = i) (hl : i < vs.length)
    {g : JFrame} (hg : g.method = m) {rest : List Value} (hst : g.stack = .int x :: .int j :: .ref a :: rest) (hd : decode c.code g.pc = .ok (.iastore, 1))
    (k : ∀ (T' : State) (h' : Heap), Sd p l e R s m args below meth c n0 T' h' cells slots → Wr h h' a i (.int x) → Arv Z h' a kc .int z (vs.set i (.int x)) dv → G T' { g with pc := g.pc + 1, stack := rest }) : G T g := by
  obtain ⟨L, X, N, eh⟩ := X
  obtain ⟨cl, A, q1, S, q3, H, F⟩ := V
  obtain ⟨T', h', X', e', W, st⟩ := stI X hx hZ eh A (j := j) (inb_of S hj) hg hst hd
  exact hs.go st (k T' h' ⟨_, X', Fr.snoc X' N ga, e'⟩ (hi ▸ W) (Arv.set A q1 S q3 H F rfl W i hi hl))
theorem rStB (hs : Clo p e below G) (X : Sd p l e R s m args below meth c n0 T h cells slots) (hx : p.tables.exec = Jvm.exec) (hZ : Z.Warmed39 s.vm) {a : Addr} {kc : ClassId} {z : Int32} {vs : List Value} {dv : Value} (V : Arv Z h a kc .byte z vs dv) (ga : n0 ≤ a) {j x x' : Int32} (hj : ¬ j < 0 ∧ j < z) (i : Nat) (hi : j.toNatClampNeg = i) (hl : i < vs.length) (hnx : x.toInt8.toInt32 = x')
    {g : JFrame} (hg : g.method = m) {rest : List Value} (hst : g.stack = .int x :: .int j :: .ref a :: rest) (hd : decode c.code g.pc = .ok (.bastore, 1))
    (k : ∀ (T' : State) (h' : Heap), Sd p l e R s m args below meth c n0 T' h' cells slots → Wr h h' a i (.int x') → Arv Z h' a kc .byte z (vs.set i (.int x')) dv → G T' { g with pc := g.pc + 1, stack := rest }) : G T g := by
  obtain ⟨L, X, N, eh⟩ := X
  obtain ⟨cl, A, q1, S, q3, H, F⟩ := V
  obtain ⟨T', h', X', e', W, st⟩ := stB X hx hZ eh A (j := j) (inb_of S hj) hg hst hd
  subst hnx
  exact hs.go st (k T' h' ⟨_, X', Fr.snoc X' N ga, e'⟩ (hi ▸ W) (Arv.set A q1 S q3 H F (fits_nar_byte _) W i hi hl))
theorem rStC (hs : Clo p e below G) (X : Sd p l e R s m args below meth c n0 T h cells slots) (hx : p.tables.exec = Jvm.exec) (hZ : Z.Warmed39 s.vm) {a : Addr} {kc : ClassId} {z : Int32} {vs : List Value} {dv : Value} (V : Arv Z h a kc .char z vs dv) (ga : n0 ≤ a) {j x x' : Int32} (hj : ¬ j < 0 ∧ j < z) (i : Nat) (hi : j.toNatClampNeg = i) (hl : i < vs.length) (hnx : nar .char x = x')
    {g : JFrame} (hg : g.method = m) {rest : List Value} (hst : g.stack = .int x :: .int j :: .ref a :: rest) (hd : decode c.code g.pc = .ok (.castore, 1))
    (k : ∀ (T' : State) (h' : Heap), Sd p l e R s m args below meth c n0 T' h' cells slots → Wr h h' a i (.int x') → Arv Z h' a kc .char z (vs.set i (.int x')) dv → G T' { g with pc := g.pc + 1, stack := rest }) : G T g := by
  obtain ⟨L, X, N, eh⟩ := X
  obtain ⟨cl, A, q1, S, q3, H, F⟩ := V
  obtain ⟨T', h', X', e', W, st⟩ := stC X hx hZ eh A (j := j) (inb_of S hj) hg hst hd
  subst hnx
  exact hs.go st (k T' h' ⟨_, X', Fr.snoc X' N ga, e'⟩ (hi ▸ W) (Arv.set A q1 S q3 H F (fits_nar_char _) W i hi hl))
theorem rLdI (hs : Clo p e below G) (X : Sd p l e R s m args below meth c n0 T h cells slots) (hx : p.tables.exec = Jvm.exec) (hZ : Z.Warmed39 s.vm) {a : Addr} {kc : ClassId} {z : Int32} {vs : List Value} {dv : Value} (V : Arv Z h a kc .int z vs dv) {j : Int32} (hj : ¬ j < 0 ∧ j < z) {v : Value} (hv : vs.getD j.toNatClampNeg dv = v)
    {g : JFrame} (hg : g.method = m) {rest : List Value} (hst : g.stack = .int j :: .ref a :: rest) (hd : decode c.code g.pc = .ok (.iaload, 1)) (k : G T { g with pc := g.pc + 1, stack := v :: rest }) : G T g := by
  obtain ⟨L, X, N, eh⟩ := X
  obtain ⟨cl, A, q1, S, q3, H, F⟩ := V
  exact hs.go (X.iaload hx (j := j) (v := v) (by rw [eh]; exact A.1) (State.isArrayOf_alike hZ.alike A.2.1) A.2.2 (inb_of S hj) (H.at (inb_of S hj) hv) hg hst hd) k
theorem rLdB (hs : Clo p e below G) (X : Sd p l e R s m args below meth c n0 T h cells slots) (hx : p.tables.exec = Jvm.exec) (hZ : Z.Warmed39 s.vm) {a : Addr} {kc : ClassId} {z : Int32} {vs : List Value} {dv : Value} (V : Arv Z h a kc .byte z vs dv) {j : Int32} (hj : ¬ j < 0 ∧ j < z) {v : Value} (hv : vs.getD j.toNatClampNeg dv = v)
    {g : JFrame} (hg : g.method = m) {rest : List Value} (hst : g.stack = .int j :: .ref a :: rest) (hd : decode c.code g.pc = .ok (.baload, 1)) (k : G T { g with pc := g.pc + 1, stack := v :: rest }) : G T g := by
  obtain ⟨L, X, N, eh⟩ := X
  obtain ⟨cl, A, q1, S, q3, H, F⟩ := V
  exact hs.go (X.baloadBytes hx (j := j) (v := v) (by rw [eh]; exact A.1) (State.isArrayOf_alike hZ.alike A.2.1) A.2.2 (inb_of S hj) (H.at (inb_of S hj) hv) hg hst hd) k
theorem rLdC (hs : Clo p e below G) (X : Sd p l e R s m args below meth c n0 T h cells slots) (hx : p.tables.exec = Jvm.exec) (hZ : Z.Warmed39 s.vm) {a : Addr} {kc : ClassId} {z : Int32} {vs : List Value} {dv : Value} (V : Arv Z h a kc .char z vs dv) {j : Int32} (hj : ¬ j < 0 ∧ j < z) {v : Value} (hv : vs.getD j.toNatClampNeg dv = v)
    {g : JFrame} (hg : g.method = m) {rest : List Value} (hst : g.stack = .int j :: .ref a :: rest) (hd : decode c.code g.pc = .ok (.caload, 1)) (k : G T { g with pc := g.pc + 1, stack := v :: rest }) : G T g := by
  obtain ⟨L, X, N, eh⟩ := X
  obtain ⟨cl, A, q1, S, q3, H, F⟩ := V
  exact hs.go (X.caload hx (j := j) (v := v) (by rw [eh]; exact A.1) (State.isArrayOf_alike hZ.alike A.2.1) A.2.2 (inb_of S hj) (H.at (inb_of S hj) hv) hg hst hd) k
theorem rLdR (hs : Clo p e below G) (X : Sd p l e R s m args below meth c n0 T h cells slots) (hx : p.tables.exec = Jvm.exec) (hZ : Z.Warmed39 s.vm) {a : Addr} {kc : ClassId} {ty : FieldType} {z : Int32} {vs : List Value} {dv : Value} (V : Arv Z h a kc ty z vs dv) (hty : ty.isReference = true) {j : Int32} (hj : ¬ j < 0 ∧ j < z) {v : Value} (hv : vs.getD j.toNatClampNeg dv = v)
    {g : JFrame} (hg : g.method = m) {rest : List Value} (hst : g.stack = .int j :: .ref a :: rest) (hd : decode c.code g.pc = .ok (.aaload, 1)) (k : G T { g with pc := g.pc + 1, stack := v :: rest }) : G T g := by
  obtain ⟨L, X, N, eh⟩ := X
  obtain ⟨cl, A, q1, S, q3, H, F⟩ := V
  exact hs.go (X.aaload hx (j := j) (v := v) (by rw [eh]; exact A.1) (State.isArrayOf_alike hZ.alike A.2.1) hty A.2.2 (inb_of S hj) (H.at (inb_of S hj) hv) hg hst hd) k
theorem rLen (hs : Clo p e below G) (X : Sd p l e R s m args below meth c n0 T h cells slots) (hx : p.tables.exec = Jvm.exec) (hZ : Z.Warmed39 s.vm) {a : Addr} {kc : ClassId} {ty : FieldType} {z : Int32} {vs : List Value} {dv : Value} (V : Arv Z h a kc ty z vs dv)
    {g : JFrame} (hg : g.method = m) {rest : List Value} (hst : g.stack = .ref a :: rest) (hd : decode c.code g.pc = .ok (.arraylength, 1)) (k : G T { g with pc := g.pc + 1, stack := .int z :: rest }) : G T g := by
  obtain ⟨L, X, N, eh⟩ := X
  obtain ⟨cl, A, q1, S, q3, H, F⟩ := V
  exact hs.go (X.arraylength hx (by rw [eh]; exact A.1) (State.isArrayOf_alike hZ.alike A.2.1) hg hst hd) (by rw [len_of S q3]; exact k)
theorem rNewR (hs : Clo p e below G) (X : Sd p l e R s m args below meth c n0 T h cells slots) (hx : p.tables.exec = Jvm.exec) (hZ : Z.Warmed39 s.vm) {own C : String} {index : Nat} (hown : s.vm.findClass own = some m.cls) (w1 : (Jvm.Cond.classLink own index C).before a0 Z = true) (w2 : (Jvm.Cond.arrayOver (.object C)).before a0 Z = true) {g : JFrame} (hg : g.method = m) (hd : decode c.code g.pc = .ok (.anewarray index, 3)) {n : Int32} {rest : List Value} (hst : g.stack = .int n :: rest)
    (hn : ¬ n < 0) (cap len : Nat) (hcap : n.toNatClampNeg ≤ cap) (hb : cap * 8 ≤ 536870912) (hc : cells + 1 ≤ R.cells) (hl : slots + cap ≤ R.slots)
    (k : ∀ (T' : State) (h' : Heap) (cA : ClassId) (b : Addr), b = h.size → Sd p l e R s m args below meth c n0 T' h' (cells + 1) (slots + cap) → Ext h h' → Arv Z h' b cA (.object C) n (List.replicate len .null) .null → Ovr Z cA C → G T' { g with pc := g.pc + 3, stack := .ref b :: rest }) : G T g := by
  obtain ⟨L, X, N, eh⟩ := X
  obtain ⟨T', h', cA, X', e', E, A, O, st⟩ := newR X hx hZ hown w1 w2 eh hg hd hst hn hcap hb hc hl
  exact hs.go st (k T' h' cA h.size rfl ⟨L, X', N, e'⟩ E ((Arv.new A hn).pad (pad_rep [] _ len)) O)
theorem rStR (hs : Clo p e below G) (X : Sd p l e R s m args below meth c n0 T h cells slots) (hx : p.tables.exec = Jvm.exec) (hZ : Z.Warmed39 s.vm) {a : Addr} {kc : ClassId} {C : String} {z : Int32} {vs : List Value} {dv : Value} (V : Arv Z h a kc (.object C) z vs dv) (O : Ovr Z kc C) (ga : n0 ≤ a) {j : Int32} {y : Addr} (I : Ins Z h y C true) (hj : ¬ j < 0 ∧ j < z) (i : Nat) (hi : j.toNatClampNeg = i) (hl : i < vs.length)
    {g : JFrame} (hg : g.method = m) {rest : List Value} (hst : g.stack = .ref y :: .int j :: .ref a :: rest) (hd : decode c.code g.pc = .ok (.aastore, 1))
    (k : ∀ (T' : State) (h' : Heap), Sd p l e R s m args below meth c n0 T' h' cells slots → Wr h h' a i (.ref y) → Arv Z h' a kc (.object C) z (vs.set i (.ref y)) dv → G T' { g with pc := g.pc + 1, stack := rest }) : G T g := by
  obtain ⟨L, X, N, eh⟩ := X
  obtain ⟨cl, A, q1, S, q3, H, F⟩ := V
  obtain ⟨T', h', X', e', W, st⟩ := stR X hx hZ eh A (j := j) (v := .ref y) (inb_of S hj) rfl (Sto.ofV A q1 O I) hg hst hd
  exact hs.go st (k T' h' ⟨_, X', Fr.snoc X' N ga, e'⟩ (hi ▸ W) (Arv.set A q1 S q3 H F rfl W i hi hl))
/-! objects -/
theorem rNewO (hs : Clo p e below G) (X : Sd p l e R s m args below meth c n0 T h cells slots) (hx : p.tables.exec = Jvm.exec) (hZ : Z.Warmed39 s.vm) {own C : String} {index n : Nat} (hown : s.vm.findClass own = some m.cls) (w : (Jvm.Cond.classLink own index C).before a0 Z = true) (wi : (Jvm.Cond.instantiable C n).before a0 Z = true) (wz : (Jvm.Cond.initialized C).before a0 Z = true)
    {g : JFrame} (hg : g.method = m) (hd : decode c.code g.pc = .ok (.new index, 3)) (hc : cells + 1 ≤ R.cells) (hl : slots + n ≤ R.slots)
    (k : ∀ (T' : State) (h' : Heap) (b : Addr), b = h.size → Sd p l e R s m args below meth c n0 T' h' (cells + 1) (slots + n) → Ext h h' → Exa Z h' b C → (∀ {O nm d : String} {ty : FieldType}, Laid Z a0 C O nm d → parseFieldDescriptor d = some ty → Fld Z h' b O nm d (defaultValue ty)) → G T' { g with pc := g.pc + 3, stack := .ref b :: g.stack }) : G T g := by
  obtain ⟨L, X, N, eh⟩ := X
  obtain ⟨T', h', X', e', E, A, D, -, st⟩ := newO X hx hZ hown w wi wz eh hg hd hc hl
  exact hs.go st (k T' h' h.size rfl ⟨L, X', N, e'⟩ E A D)
theorem rInitO (hs : Clo p e below G) (X : Sd p l e R s m args below meth c n0 T h cells slots) (hx : p.tables.exec = Jvm.exec) (hZ : Z.Warmed39 s.vm) {own : String} {idx : Nat} (hown : s.vm.findClass own = some m.cls) (w1 : (Jvm.Cond.methodLink own idx Lib.objectInit).before a0 Z = true) (w2 : (Jvm.Cond.instanceMethod Lib.objectInit).before a0 Z = true)
    (w3 : (Jvm.Cond.code Lib.objectInit ⟨#[0xb1]⟩ 1 none).before a0 Z = true) {g : JFrame} (hg : g.method = m) (hsize : g.locals.size = c.maxLocals) {a : Addr} {rest : List Value} (hst : g.stack = .ref a :: rest) (hd : decode c.code g.pc = .ok (.invokespecial idx, 3))
    (hf : 1 ≤ R.frames) {W : Nat} (hW : 2 * g.monitorRoom + (rest.map fun v => v.category).sum ≤ W) (hl : W + 12 ≤ R.locals)
    (k : ∀ T' : State, Sd p l e R s m args below meth c n0 T' h cells slots → G T' { g with pc := g.pc + 3, stack := rest }) : G T g := by
  obtain ⟨L, X, N, eh⟩ := X
  obtain ⟨T', X', e', st⟩ := initO X hx hZ hown w1 w2 w3 eh hg hsize hst hd hf hW hl
  exact hs.go st (k T' ⟨L, X', N, e'⟩)
theorem rGetF (hs : Clo p e below G) (X : Sd p l e R s m args below meth c n0 T h cells slots) (hx : p.tables.exec = Jvm.exec) (hZ : Z.Warmed39 s.vm) {own R0 O n d host : String} {index : Nat} (hown : s.vm.findClass own = some m.cls) (w : (Jvm.Cond.fieldLink own index R0 n d).before a0 Z = true ∨ (Jvm.Cond.fieldLinkNest own index R0 n d host).before a0 Z = true) (via : Via Z R0 O n d)
    {a : Addr} {v : Value} (F : Fld Z h a O n d v) {g : JFrame} (hg : g.method = m) {rest : List Value} (hst : g.stack = .ref a :: rest) (hd : decode c.code g.pc = .ok (.getfield index, 3))
    (k : ∀ T' : State, Sd p l e R s m args below meth c n0 T' h cells slots → G T' { g with pc := g.pc + 3, stack := v :: rest }) : G T g := by
  obtain ⟨L, X, N, eh⟩ := X
  obtain ⟨T', X', e', st⟩ := getF X hx hZ hown w via eh F hg hst hd
  exact hs.go st (k T' ⟨L, X', N, e'⟩)
theorem rGetS (hs : Clo p e below G) (X : Sd p l e R s m args below meth c n0 T h cells slots) (hx : p.tables.exec = Jvm.exec) (hZ : Z.Warmed39 s.vm) {own R0 O n d host : String} {index : Nat} (hown : s.vm.findClass own = some m.cls) (w : (Jvm.Cond.fieldLink own index R0 n d).before a0 Z = true ∨ (Jvm.Cond.fieldLinkNest own index R0 n d host).before a0 Z = true) (via : Via Z R0 O n d)
    {v : Value} (F : Sta Z h O n d v) {g : JFrame} (hg : g.method = m) (hd : decode c.code g.pc = .ok (.getstatic index, 3))
    (k : ∀ T' : State, Sd p l e R s m args below meth c n0 T' h cells slots → G T' { g with pc := g.pc + 3, stack := v :: g.stack }) : G T g := by
  obtain ⟨L, X, N, eh⟩ := X
  obtain ⟨T', X', e', st⟩ := getS2 X hx hZ hown w via eh F hg hd
  exact hs.go st (k T' ⟨L, X', N, e'⟩)
theorem rPutF (hs : Clo p e below G) (X : Sd p l e R s m args below meth c n0 T h cells slots) (hx : p.tables.exec = Jvm.exec) (hZ : Z.Warmed39 s.vm) {own R0 O n d host C : String} {index kk : Nat} (ty : FieldType) (hown : s.vm.findClass own = some m.cls) (w : (Jvm.Cond.fieldLink own index R0 n d).before a0 Z = true ∨ (Jvm.Cond.fieldLinkNest own index R0 n d host).before a0 Z = true) (via : Via Z R0 O n d)
    {a : Addr} {v old : Value} (F : Fld Z h a O n d old) (E : Exa Z h a C) (ga : n0 ≤ a) (L : (Jvm.Cond.lays C O n d).before a0 Z = true ∨ ((Jvm.Cond.laysFinal C O n d).before a0 Z = true ∧ own = O ∧ meth.name = "<init>")) (wi : (Jvm.Cond.instantiable C kk).before a0 Z = true)
    (hty : parseFieldDescriptor d = some ty) (hn : narrow ty v = v) (hf : fits ty v = true) {g : JFrame} (hg : g.method = m) {rest : List Value} (hst : g.stack = v :: .ref a :: rest) (hd : decode c.code g.pc = .ok (.putfield index, 3))
    (k : ∀ (T' : State) (h' : Heap), Sd p l e R s m args below meth c n0 T' h' cells slots → Wr h h' a (Jvm.RoadKit.slotOf Z O n d) v → Fld Z h' a O n d v → G T' { g with pc := g.pc + 3, stack := rest }) : G T g := by
  obtain ⟨L0, X, N, eh⟩ := X
  obtain ⟨T', h', X', e', W, st⟩ := putF X hx hZ hown w via eh F E L wi hty hn hf hg hst hd
  exact hs.go st (k T' h' ⟨_, X', Fr.snoc X' N ga, e'⟩ W (F.same W))
/-! calls -/
theorem rCallS (hs : Clo p e below G) (X : Sd p l e R s m args below meth c n0 T h cells slots) (hx : p.tables.exec = Jvm.exec) (hZ : Z.Warmed39 s.vm) {own : String} {index : Nat} {y : MethodName} {bytes : ByteArray} {maxL : Nat} {ret : Option FieldType} {rm : Room} {as' : List Value} {Q' : Option Value → Heap → Prop}
    (hM : Con l Z y bytes maxL ret [] rm as'.toArray h n0 Q') (hown : s.vm.findClass own = some m.cls) (w1 : (Jvm.Cond.methodLink own index y).before a0 Z = true) (w2 : (Jvm.Cond.static y).before a0 Z = true) (w3 : (Jvm.Cond.initialized y.cls).before a0 Z = true) (w4 : (Jvm.Cond.code y bytes maxL ret).before a0 Z = true)
    (hy : y.cls ≠ "java/lang/invoke/MethodHandle" ∧ y.cls ≠ "java/lang/invoke/VarHandle") {g : JFrame} (hg : g.method = m) (hsize : g.locals.size = c.maxLocals) (rest : List Value) (hlen : ∀ sig, parseMethodDescriptor y.desc = some sig → as'.length = sig.parameters.length)
    (hst : g.stack = as'.reverse ++ rest) (W : Nat) (hW : 2 * g.monitorRoom + (rest.map fun v => v.category).sum ≤ W) (hd : decode c.code g.pc = .ok (.invokestatic index, 3))
    (hf : rm.frames + 1 ≤ R.frames) (hl : W + (maxL + 11) + rm.locals ≤ R.locals) (hc : cells + rm.cells ≤ R.cells) (hsl : slots + rm.slots ≤ R.slots)
    (k : ∀ (v : Option Value) (T' : State) (h' : Heap), Sd p l e R s m args below meth c n0 T' h' (cells + rm.cells) (slots + rm.slots) → Q' v h' → G T' { g with pc := g.pc + 3, stack := v.toList ++ rest }) : G T g := by
  obtain ⟨L, X, N, eh⟩ := X
  obtain ⟨v, vm₁, ⟨T', L', k', n'⟩, -, X', ⟨Lc, ⟨hQ, hN⟩, l', y', z'⟩, st⟩ := Jvm.LawKit.callS X hx (y := y) hown (mvT hZ w1) (mvT hZ w2) (mvT hZ w3) (mvT hZ w4) hy (backOf (Q := fun v h L => Q' v h ∧ Fr n0 L) (W := W) hM hZ w4 w3 hf hl) hg hsize (argsL := as') (rest := rest) hlen hst hW hd (fun _ _ => ⟨rfl, eh, hc, hsl⟩)
  dsimp only [Pt.U, Pt.locs, Pt.cells, Pt.slots] at X' l' y' z' st hQ
  subst l' y' z'
  exact hs.go st (k v T' T'.heap ⟨_, X', Fr.app N hN, rfl⟩ hQ)
theorem rCallI (hs : Clo p e below G) (X : Sd p l e R s m args below meth c n0 T h cells slots) (hx : p.tables.exec = Jvm.exec) (hZ : Z.Warmed39 s.vm) {own : String} {index : Nat} {y : MethodName} {bytes : ByteArray} {maxL : Nat} {rm : Room} {a : Addr} {as' : List Value} {Q' : Option Value → Heap → Prop}
    (hM : Con l Z y bytes maxL none [] rm (Value.ref a :: as').toArray h n0 Q') (hyn : y.name = "<init>") (hown : s.vm.findClass own = some m.cls) (w1 : (Jvm.Cond.methodLink own index y).before a0 Z = true) (w2 : (Jvm.Cond.instanceMethod y).before a0 Z = true) (w3 : (Jvm.Cond.initialized y.cls).before a0 Z = true) (w4 : (Jvm.Cond.code y bytes maxL none).before a0 Z = true)
    (hy : y.cls ≠ "java/lang/invoke/MethodHandle" ∧ y.cls ≠ "java/lang/invoke/VarHandle") {g : JFrame} (hg : g.method = m) (hsize : g.locals.size = c.maxLocals) (rest : List Value) (hlen : ∀ sig, parseMethodDescriptor y.desc = some sig → as'.length = sig.parameters.length)
    (hst : g.stack = as'.reverse ++ .ref a :: rest) (W : Nat) (hW : 2 * g.monitorRoom + (rest.map fun v => v.category).sum ≤ W) (hd : decode c.code g.pc = .ok (.invokespecial index, 3))
    (hf : rm.frames + 1 ≤ R.frames) (hl : W + (maxL + 11) + rm.locals ≤ R.locals) (hc : cells + rm.cells ≤ R.cells) (hsl : slots + rm.slots ≤ R.slots)
    (k : ∀ (v : Option Value) (T' : State) (h' : Heap), Sd p l e R s m args below meth c n0 T' h' (cells + rm.cells) (slots + rm.slots) → Q' v h' → G T' { g with pc := g.pc + 3, stack := v.toList ++ rest }) : G T g := by
  obtain ⟨L, X, N, eh⟩ := X
  obtain ⟨v, vm₁, ⟨T', L', k', n'⟩, -, X', ⟨Lc, ⟨hQ, hN⟩, l', y', z'⟩, st⟩ := X.specialBack hx (y := y) hyn hown (mvT hZ w1) (mvT hZ w2) (mvT hZ w4) hy (backOf (Q := fun v h L => Q' v h ∧ Fr n0 L) (W := W) hM hZ w4 w3 hf hl) hg hsize (Steps.refl _) (a := a) (argsL := as') (rest := rest) hlen hst hW hd (fun _ _ => ⟨rfl, eh, hc, hsl⟩)
  dsimp only [Pt.U, Pt.locs, Pt.cells, Pt.slots] at X' l' y' z' st hQ
  subst l' y' z'
  exact hs.go (fun _ q => st.trans q) (k v T' T'.heap ⟨_, X', Fr.app N hN, rfl⟩ hQ)
theorem rCallV (hs : Clo p e below G) (X : Sd p l e R s m args below meth c n0 T h cells slots) (hx : p.tables.exec = Jvm.exec) (hZ : Z.Warmed39 s.vm) {own C : String} {index : Nat} {y : MethodName} {bytes : ByteArray} {maxL : Nat} {ret : Option FieldType} {rm : Room} {a : Addr} {as' : List Value} {Q' : Option Value → Heap → Prop}
    (hM : Con l Z y bytes maxL ret [] rm (Value.ref a :: as').toArray h n0 Q') (E : Exa Z h a C) (hown : s.vm.findClass own = some m.cls) (w1 : (Jvm.Cond.methodLink own index y).before a0 Z = true) (w5 : (Jvm.Cond.declares y).before a0 Z = true) (w6 : (Jvm.Cond.selects C y y).before a0 Z = true) (w2 : (Jvm.Cond.instanceMethod y).before a0 Z = true) (w3 : (Jvm.Cond.initialized y.cls).before a0 Z = true) (w4 : (Jvm.Cond.code y bytes maxL ret).before a0 Z = true)
    (hy : y.cls ≠ "java/lang/invoke/MethodHandle" ∧ y.cls ≠ "java/lang/invoke/VarHandle") {g : JFrame} (hg : g.method = m) (hsize : g.locals.size = c.maxLocals) (rest : List Value) (hlen : ∀ sig, parseMethodDescriptor y.desc = some sig → as'.length = sig.parameters.length)
    (hst : g.stack = as'.reverse ++ .ref a :: rest) (W : Nat) (hW : 2 * g.monitorRoom + (rest.map fun v => v.category).sum ≤ W) (hd : decode c.code g.pc = .ok (.invokevirtual index, 3))
    (hf : rm.frames + 1 ≤ R.frames) (hl : W + (maxL + 11) + rm.locals ≤ R.locals) (hc : cells + rm.cells ≤ R.cells) (hsl : slots + rm.slots ≤ R.slots)
    (k : ∀ (v : Option Value) (T' : State) (h' : Heap), Sd p l e R s m args below meth c n0 T' h' (cells + rm.cells) (slots + rm.slots) → Q' v h' → G T' { g with pc := g.pc + 3, stack := v.toList ++ rest }) : G T g := by
  obtain ⟨L, X, N, eh⟩ := X
  obtain ⟨cB, kB, qa, qb, qc⟩ := isOf (T := T) hZ eh E
  obtain ⟨v, vm₁, ⟨T', L', k', n'⟩, -, X', ⟨Lc, ⟨hQ, hN⟩, l', y', z'⟩, st⟩ := X.virtualBack hx (y := y) (z := y) hown (mvT hZ w1) (mvT hZ w5) (notFace_of_selects (args := #[]) (mvT hZ w6)) (mvT hZ w6) (mvT hZ w2) hy (backOf (Q := fun v h L => Q' v h ∧ Fr n0 L) (W := W) hM hZ w4 w3 hf hl) qa qc hg hsize (Steps.refl _) (argsL := as') (rest := rest) hlen hst hW hd (fun _ _ => ⟨rfl, eh, hc, hsl⟩)
  dsimp only [Pt.U, Pt.locs, Pt.cells, Pt.slots] at X' l' y' z' st hQ
  subst l' y' z'
  exact hs.go (fun _ q => st.trans q) (k v T' T'.heap ⟨_, X', Fr.app N hN, rfl⟩ hQ)
/-! branches -/
theorem ltL {x y : Int64} (h : x < y) : if_icmp.holds .lt (lcmpW x y) 0 = true ∧ if_icmp.holds .ge (lcmpW x y) 0 = false := have q := tlt ((lw_lt x y).mpr h); ⟨q.1, q.2.1⟩
theorem nltL {x y : Int64} (h : ¬ x < y) : if_icmp.holds .lt (lcmpW x y) 0 = false ∧ if_icmp.holds .ge (lcmpW x y) 0 = true := have q := flt (fun z => h ((lw_lt x y).mp z)); ⟨q.1, q.2.1⟩
theorem gtL {x y : Int64} (h : y < x) : if_icmp.holds .gt (lcmpW x y) 0 = true ∧ if_icmp.holds .le (lcmpW x y) 0 = false := have q := tlt ((lw_gt x y).mpr h); ⟨q.2.2.1, q.2.2.2⟩
theorem ngtL {x y : Int64} (h : ¬ y < x) : if_icmp.holds .gt (lcmpW x y) 0 = false ∧ if_icmp.holds .le (lcmpW x y) 0 = true := have q := flt (fun z => h ((lw_gt x y).mp z)); ⟨q.2.2.1, q.2.2.2⟩
theorem eqL {x y : Int64} (h : x = y) : if_icmp.holds .eq (lcmpW x y) 0 = true ∧ if_icmp.holds .ne (lcmpW x y) 0 = false := teq ((lw_eq x y).mpr h)
theorem neqL {x y : Int64} (h : ¬ x = y) : if_icmp.holds .eq (lcmpW x y) 0 = false ∧ if_icmp.holds .ne (lcmpW x y) 0 = true := feq (fun z => h ((lw_eq x y).mp z))
theorem nameIt {α : Type} {P : α → Prop} (x : α) (k : ∀ z, z = x → P z) : P x := k x rfl
theorem eq64 {x y : Int64} (h : x.toInt = y.toInt) : x = y := Int64.toInt_inj.mp h
theorem eq32 {x y : Int32} (h : x.toInt = y.toInt) : x = y := Int32.toInt_inj.mp h
theorem lt64 {x y : Int64} : x < y ↔ x.toInt < y.toInt := Int64.lt_iff_toInt_lt
theorem lt32 {x y : Int32} : x < y ↔ x.toInt < y.toInt := Int32.lt_iff_toInt_lt
theorem e64 {x y : Int64} : x = y ↔ x.toInt = y.toInt := Int64.toInt_inj.symm
theorem e32 {x y : Int32} : x = y ↔ x.toInt = y.toInt := Int32.toInt_inj.symm
theorem c_lremM (x y : Int64) (d : Int) (hy : y.toInt = d) : (0 ≤ x.toInt → (x % y).toInt = x.toInt % d) ∧ (x.toInt < 0 → (x % y).toInt = -((-x.toInt) % d)) := by rw [Int64.toInt_mod, hy]; exact tr _ _
theorem nar_byte (x : Int32) : x.toInt8.toInt32.toInt8.toInt32 = x.toInt8.toInt32 := by simp
end OwnKit

theorem d1_0 : decode prog_32_method_1_code 0 = .ok (.aload_n 0, 1) := by decide +kernel
theorem d1_1 : decode prog_32_method_1_code 1 = .ok (.invokespecial 1, 3) := by decide +kernel
theorem d1_4 : decode prog_32_method_1_code 4 = .ok (.aload_n 0, 1) := by decide +kernel
theorem d1_5 : decode prog_32_method_1_code 5 = .ok (.ldc2_w 7, 3) := by decide +kernel
theorem d1_8 : decode prog_32_method_1_code 8 = .ok (.putfield 9, 3) := by decide +kernel
theorem d1_11 : decode prog_32_method_1_code 11 = .ok (.aload_n 0, 1) := by decide +kernel
theorem d1_12 : decode prog_32_method_1_code 12 = .ok (.lload_n 1, 1) := by decide +kernel
theorem d1_13 : decode prog_32_method_1_code 13 = .ok (.putfield 15, 3) := by decide +kernel
theorem d1_16 : decode prog_32_method_1_code 16 = .ok (.return_, 1) := by decide +kernel
theorem pn_1 : plainFor (⟨"com/example/redoubt/redoubt/RequestedBackups$Silence", "<init>", "(J)V"⟩ : MethodName) = true := plainFor_of_name (by first | (simp [plainName, overriddenIn]; done) | decide +kernel)
theorem ef_1 (m : MethodId) (x0 : Addr) (x1 : Int64) : entryFrame m #[(.ref x0), (.long x1)] 3 = mkF m 0 #[.val (.ref x0), .val (.long x1), .second] [] := by first | (simp [entryFrame, mkF, argsToLocals, Value.category]; done) | rfl
theorem hy_1 : ((⟨"com/example/redoubt/redoubt/RequestedBackups$Silence", "<init>", "(J)V"⟩ : MethodName)).cls ≠ "java/lang/invoke/MethodHandle" ∧ ((⟨"com/example/redoubt/redoubt/RequestedBackups$Silence", "<init>", "(J)V"⟩ : MethodName)).cls ≠ "java/lang/invoke/VarHandle" := by decide
set_option maxRecDepth 65536 in
set_option maxHeartbeats 40000000 in
theorem rm1 (l : Launch) (Z : State) (a0 : Array Value) (hw : ∀ d ∈ tables_1, d.before a0 Z = true) (ws : List Jvm.Cond) (a : Addr) (q : Int64) (h0 : Heap) (n0 : Nat) (Z0 : n0 ≤ h0.size) (E_a : Exa Z h0 a "com/example/redoubt/redoubt/RequestedBackups$Silence") (g_a : n0 ≤ a) (F_beat_a : Fld Z h0 a "com/example/redoubt/redoubt/RequestedBackups$Silence" "beat" "J" (.long (0 : Int64))) (F_sign_a : Fld Z h0 a "com/example/redoubt/redoubt/RequestedBackups$Silence" "sign" "J" (.long (0 : Int64))) :
    Con l Z (⟨"com/example/redoubt/redoubt/RequestedBackups$Silence", "<init>", "(J)V"⟩ : MethodName) prog_32_method_1_code 3 none ws ({ frames := 1, cells := 0, slots := 0, locals := 12 } : Room) #[(.ref a), (.long q)] h0 n0 (fun v h => v = none ∧ Keep h0 h [a] ∧ Exa Z h a "com/example/redoubt/redoubt/RequestedBackups$Silence" ∧ Fld Z h a "com/example/redoubt/redoubt/RequestedBackups$Silence" "beat" "J" (.long (-1 : Int64)) ∧ Fld Z h a "com/example/redoubt/redoubt/RequestedBackups$Silence" "sign" "J" (.long q)) := by
  refine Con.of pn_1 ?_
  intro G p e s m below meth c s₁ hs hx hby hml hown hnm hret hZ X0 fin
  have hml : c.maxLocals = 3 := hml
  have hown : s.vm.findClass "com/example/redoubt/redoubt/RequestedBackups$Silence" = some m.cls := hown
  rw [ef_1]
  have K := Keep.refl h0 ([a] : List Addr)
  have Ksz := K.1
  show G s₁ (mkF m 0 #[.val (.ref a), .val (.long q), .second] [])
  refine hs.go (fun _ kk_ => XS.aloadN X0.here hx rfl (hb hby d1_0) rfl rfl kk_) ?_
  show G s₁ (mkF m 1 #[.val (.ref a), .val (.long q), .second] [(.ref a)])
  refine rInitO hs X0 hx hZ hown (hw _ (List.mem_of_getElem? (i := 6) rfl)) (hw _ (List.mem_of_getElem? (i := 7) rfl)) (hw _ (List.mem_of_getElem? (i := 8) rfl)) rfl (by rw [hml]; rfl) rfl (hb hby d1_1) (by decide) (W := 0) (by show 2 * 0 + _ ≤ _; exact Nat.le_of_eq rfl) (by decide) (fun T1 X1 => ?_)
  show G T1 (mkF m 4 #[.val (.ref a), .val (.long q), .second] [])
  refine hs.go (fun _ kk_ => XS.aloadN X1.here hx rfl (hb hby d1_4) rfl rfl kk_) ?_
  show G T1 (mkF m 5 #[.val (.ref a), .val (.long q), .second] [(.ref a)])
  refine rLdcL hs X1 hx hZ hown (hw _ (List.mem_of_getElem? (i := 9) rfl)) rfl (hb hby d1_5) ?_
  show G T1 (mkF m 8 #[.val (.ref a), .val (.long q), .second] [(.long (-1 : Int64)), (.ref a)])
  refine rPutF hs X1 hx hZ .long hown (host := "") (Or.inl (hw _ (List.mem_of_getElem? (i := 10) rfl))) Via.refl F_beat_a E_a g_a (Or.inl (hw _ (List.mem_of_getElem? (i := 11) rfl))) (hw _ (List.mem_of_getElem? (i := 1) rfl)) (by decide) rfl rfl rfl rfl (hb hby d1_8) (fun T2 h2 X2 W2 F_beat_a => ?_)
  have E_a := E_a.wr W2
  have F_sign_a := F_sign_a.other W2 (Or.inr (slot_ne (Or.inl (hw _ (List.mem_of_getElem? (i := 13) rfl))) (Or.inl (hw _ (List.mem_of_getElem? (i := 11) rfl))) (by decide) (t := .long) (t' := .long) (by decide) (by decide)))
  have K := K.wr W2 (Or.inl (by simp))
  have Ksz := K.1
  have Z0 := Nat.le_trans Z0 (Keep.of_wr W2).1
  show G T2 (mkF m 11 #[.val (.ref a), .val (.long q), .second] [])
  refine hs.go (fun _ kk_ => XS.aloadN X2.here hx rfl (hb hby d1_11) rfl rfl kk_) ?_
  show G T2 (mkF m 12 #[.val (.ref a), .val (.long q), .second] [(.ref a)])
  refine hs.go (fun _ kk_ => XS.lloadN X2.here hx rfl (hb hby d1_12) rfl  kk_) ?_
  show G T2 (mkF m 13 #[.val (.ref a), .val (.long q), .second] [(.long q), (.ref a)])
  refine rPutF hs X2 hx hZ .long hown (host := "") (Or.inl (hw _ (List.mem_of_getElem? (i := 12) rfl))) Via.refl F_sign_a E_a g_a (Or.inl (hw _ (List.mem_of_getElem? (i := 13) rfl))) (hw _ (List.mem_of_getElem? (i := 1) rfl)) (by decide) rfl rfl rfl rfl (hb hby d1_13) (fun T3 h3 X3 W3 F_sign_a => ?_)
  have E_a := E_a.wr W3
  have F_beat_a := F_beat_a.other W3 (Or.inr (slot_ne (Or.inl (hw _ (List.mem_of_getElem? (i := 11) rfl))) (Or.inl (hw _ (List.mem_of_getElem? (i := 13) rfl))) (by decide) (t := .long) (t' := .long) (by decide) (by decide)))
  have K := K.wr W3 (Or.inl (by simp))
  have Ksz := K.1
  have Z0 := Nat.le_trans Z0 (Keep.of_wr W3).1
  show G T3 (mkF m 16 #[.val (.ref a), .val (.long q), .second] [])
  exact rRetV fin X3 hx (by decide) (by decide) hret (hb hby d1_16) ⟨rfl, K, E_a, F_beat_a, F_sign_a⟩
def fsg (b bt sg t : Int64) : Int64 := if b = bt then sg else t
theorem d4_0 : decode prog_32_method_3_code 0 = .ok (.lload_n 1, 1) := by decide +kernel
theorem d4_1 : decode prog_32_method_3_code 1 = .ok (.aload_n 0, 1) := by decide +kernel
theorem d4_2 : decode prog_32_method_3_code 2 = .ok (.getfield 9, 3) := by decide +kernel
theorem d4_5 : decode prog_32_method_3_code 5 = .ok (.lcmp, 1) := by decide +kernel
theorem d4_6 : decode prog_32_method_3_code 6 = .ok (.ifCond .eq 13, 3) := by decide +kernel
theorem d4_9 : decode prog_32_method_3_code 9 = .ok (.aload_n 0, 1) := by decide +kernel
theorem d4_10 : decode prog_32_method_3_code 10 = .ok (.lload_n 1, 1) := by decide +kernel
theorem d4_11 : decode prog_32_method_3_code 11 = .ok (.putfield 9, 3) := by decide +kernel
theorem d4_14 : decode prog_32_method_3_code 14 = .ok (.aload_n 0, 1) := by decide +kernel
theorem d4_15 : decode prog_32_method_3_code 15 = .ok (.lload_n 3, 1) := by decide +kernel
theorem d4_16 : decode prog_32_method_3_code 16 = .ok (.putfield 15, 3) := by decide +kernel
theorem d4_19 : decode prog_32_method_3_code 19 = .ok (.return_, 1) := by decide +kernel
theorem pn_4 : plainFor (⟨"com/example/redoubt/redoubt/RequestedBackups$Silence", "replied", "(JJ)V"⟩ : MethodName) = true := plainFor_of_name (by first | (simp [plainName, overriddenIn]; done) | decide +kernel)
theorem ef_4 (m : MethodId) (x0 : Addr) (x1 : Int64) (x2 : Int64) : entryFrame m #[(.ref x0), (.long x1), (.long x2)] 5 = mkF m 0 #[.val (.ref x0), .val (.long x1), .second, .val (.long x2), .second] [] := by first | (simp [entryFrame, mkF, argsToLocals, Value.category]; done) | rfl
theorem hy_4 : ((⟨"com/example/redoubt/redoubt/RequestedBackups$Silence", "replied", "(JJ)V"⟩ : MethodName)).cls ≠ "java/lang/invoke/MethodHandle" ∧ ((⟨"com/example/redoubt/redoubt/RequestedBackups$Silence", "replied", "(JJ)V"⟩ : MethodName)).cls ≠ "java/lang/invoke/VarHandle" := by decide
set_option maxRecDepth 65536 in
set_option maxHeartbeats 40000000 in
theorem rm4 (l : Launch) (Z : State) (a0 : Array Value) (hw : ∀ d ∈ tables_1, d.before a0 Z = true) (ws : List Jvm.Cond) (a : Addr) (b t bt sg : Int64) (h0 : Heap) (n0 : Nat) (Z0 : n0 ≤ h0.size) (E_a : Exa Z h0 a "com/example/redoubt/redoubt/RequestedBackups$Silence") (g_a : n0 ≤ a) (F_beat_a : Fld Z h0 a "com/example/redoubt/redoubt/RequestedBackups$Silence" "beat" "J" (.long bt)) (F_sign_a : Fld Z h0 a "com/example/redoubt/redoubt/RequestedBackups$Silence" "sign" "J" (.long sg)) :
    Con l Z (⟨"com/example/redoubt/redoubt/RequestedBackups$Silence", "replied", "(JJ)V"⟩ : MethodName) prog_32_method_3_code 5 none ws ({ frames := 0, cells := 0, slots := 0, locals := 0 } : Room) #[(.ref a), (.long b), (.long t)] h0 n0 (fun v h => v = none ∧ Keep h0 h [a] ∧ Exa Z h a "com/example/redoubt/redoubt/RequestedBackups$Silence" ∧ Fld Z h a "com/example/redoubt/redoubt/RequestedBackups$Silence" "beat" "J" (.long b) ∧ Fld Z h a "com/example/redoubt/redoubt/RequestedBackups$Silence" "sign" "J" (.long (fsg b bt sg t))) := by
  refine Con.of pn_4 ?_
  intro G p e s m below meth c s₁ hs hx hby hml hown hnm hret hZ X0 fin
  have hml : c.maxLocals = 5 := hml
  have hown : s.vm.findClass "com/example/redoubt/redoubt/RequestedBackups$Silence" = some m.cls := hown
  rw [ef_4]
  have K := Keep.refl h0 ([a] : List Addr)
  have Ksz := K.1
  show G s₁ (mkF m 0 #[.val (.ref a), .val (.long b), .second, .val (.long t), .second] [])
  refine hs.go (fun _ kk_ => XS.lloadN X0.here hx rfl (hb hby d4_0) rfl  kk_) ?_
  show G s₁ (mkF m 1 #[.val (.ref a), .val (.long b), .second, .val (.long t), .second] [(.long b)])
  refine hs.go (fun _ kk_ => XS.aloadN X0.here hx rfl (hb hby d4_1) rfl rfl kk_) ?_
  show G s₁ (mkF m 2 #[.val (.ref a), .val (.long b), .second, .val (.long t), .second] [(.ref a), (.long b)])
  refine rGetF hs X0 hx hZ hown (host := "") (Or.inl (hw _ (List.mem_of_getElem? (i := 10) rfl))) Via.refl F_beat_a rfl rfl (hb hby d4_2) (fun T1 X1 => ?_)
  show G T1 (mkF m 5 #[.val (.ref a), .val (.long b), .second, .val (.long t), .second] [(.long bt), (.long b)])
  refine hs.go (fun _ kk_ => XS.lcmp X1.here hx rfl (hb hby d4_5) rfl kk_) ?_
  show G T1 (mkF m 6 #[.val (.ref a), .val (.long b), .second, .val (.long t), .second] [(.int (lcmpW b bt))])
  by_cases c6 : b = bt
  · refine hs.go (fun _ kk_ => XS.ifYes X1.here hx rfl (pc0 := 6) (pc' := 19) rfl (hb hby d4_6) rfl ((if0 _ _).trans (eqL c6).1) (by decide) (by decide) kk_) ?_
    show G T1 (mkF m 19 #[.val (.ref a), .val (.long b), .second, .val (.long t), .second] [])
    exact rRetV fin X1 hx (by decide) (by decide) hret (hb hby d4_19) ⟨rfl, K, E_a, (by rw [c6]; exact F_beat_a), (by rw [fsg, if_pos c6]; exact F_sign_a)⟩
  · refine hs.go (fun _ kk_ => XS.ifNo X1.here hx rfl (hb hby d4_6) rfl ((if0 _ _).trans (neqL c6).1) kk_) ?_
    show G T1 (mkF m 9 #[.val (.ref a), .val (.long b), .second, .val (.long t), .second] [])
    refine hs.go (fun _ kk_ => XS.aloadN X1.here hx rfl (hb hby d4_9) rfl rfl kk_) ?_
    show G T1 (mkF m 10 #[.val (.ref a), .val (.long b), .second, .val (.long t), .second] [(.ref a)])
    refine hs.go (fun _ kk_ => XS.lloadN X1.here hx rfl (hb hby d4_10) rfl  kk_) ?_
    show G T1 (mkF m 11 #[.val (.ref a), .val (.long b), .second, .val (.long t), .second] [(.long b), (.ref a)])
    refine rPutF hs X1 hx hZ .long hown (host := "") (Or.inl (hw _ (List.mem_of_getElem? (i := 10) rfl))) Via.refl F_beat_a E_a g_a (Or.inl (hw _ (List.mem_of_getElem? (i := 11) rfl))) (hw _ (List.mem_of_getElem? (i := 1) rfl)) (by decide) rfl rfl rfl rfl (hb hby d4_11) (fun T2 h2 X2 W2 F_beat_a => ?_)
    have E_a := E_a.wr W2
    have F_sign_a := F_sign_a.other W2 (Or.inr (slot_ne (Or.inl (hw _ (List.mem_of_getElem? (i := 13) rfl))) (Or.inl (hw _ (List.mem_of_getElem? (i := 11) rfl))) (by decide) (t := .long) (t' := .long) (by decide) (by decide)))
    have K := K.wr W2 (Or.inl (by simp))
    have Ksz := K.1
    have Z0 := Nat.le_trans Z0 (Keep.of_wr W2).1
    show G T2 (mkF m 14 #[.val (.ref a), .val (.long b), .second, .val (.long t), .second] [])
    refine hs.go (fun _ kk_ => XS.aloadN X2.here hx rfl (hb hby d4_14) rfl rfl kk_) ?_
    show G T2 (mkF m 15 #[.val (.ref a), .val (.long b), .second, .val (.long t), .second] [(.ref a)])
    refine hs.go (fun _ kk_ => XS.lloadN X2.here hx rfl (hb hby d4_15) rfl  kk_) ?_
    show G T2 (mkF m 16 #[.val (.ref a), .val (.long b), .second, .val (.long t), .second] [(.long t), (.ref a)])
    refine rPutF hs X2 hx hZ .long hown (host := "") (Or.inl (hw _ (List.mem_of_getElem? (i := 12) rfl))) Via.refl F_sign_a E_a g_a (Or.inl (hw _ (List.mem_of_getElem? (i := 13) rfl))) (hw _ (List.mem_of_getElem? (i := 1) rfl)) (by decide) rfl rfl rfl rfl (hb hby d4_16) (fun T3 h3 X3 W3 F_sign_a => ?_)
    have E_a := E_a.wr W3
    have F_beat_a := F_beat_a.other W3 (Or.inr (slot_ne (Or.inl (hw _ (List.mem_of_getElem? (i := 11) rfl))) (Or.inl (hw _ (List.mem_of_getElem? (i := 13) rfl))) (by decide) (t := .long) (t' := .long) (by decide) (by decide)))
    have K := K.wr W3 (Or.inl (by simp))
    have Ksz := K.1
    have Z0 := Nat.le_trans Z0 (Keep.of_wr W3).1
    show G T3 (mkF m 19 #[.val (.ref a), .val (.long b), .second, .val (.long t), .second] [])
    exact rRetV fin X3 hx (by decide) (by decide) hret (hb hby d4_19) ⟨rfl, K, E_a, F_beat_a, (by rw [fsg, if_neg c6]; exact F_sign_a)⟩
def fov (now sg : Int64) : Int32 := if (5000000000 : Int64) < (now - sg) then (1 : Int32) else (0 : Int32)
theorem d3_0 : decode prog_32_method_4_code 0 = .ok (.lload_n 1, 1) := by decide +kernel
theorem d3_1 : decode prog_32_method_4_code 1 = .ok (.aload_n 0, 1) := by decide +kernel
theorem d3_2 : decode prog_32_method_4_code 2 = .ok (.getfield 15, 3) := by decide +kernel
theorem d3_5 : decode prog_32_method_4_code 5 = .ok (.lsub, 1) := by decide +kernel
theorem d3_6 : decode prog_32_method_4_code 6 = .ok (.getstatic 18, 3) := by decide +kernel
theorem d3_9 : decode prog_32_method_4_code 9 = .ok (.lcmp, 1) := by decide +kernel
theorem d3_10 : decode prog_32_method_4_code 10 = .ok (.ifCond .le 7, 3) := by decide +kernel
theorem d3_13 : decode prog_32_method_4_code 13 = .ok (.iconst 1, 1) := by decide +kernel
theorem d3_14 : decode prog_32_method_4_code 14 = .ok (.goto 4, 3) := by decide +kernel
theorem d3_17 : decode prog_32_method_4_code 17 = .ok (.iconst 0, 1) := by decide +kernel
theorem d3_18 : decode prog_32_method_4_code 18 = .ok (.ireturn, 1) := by decide +kernel
theorem pn_3 : plainFor (⟨"com/example/redoubt/redoubt/RequestedBackups$Silence", "over", "(J)Z"⟩ : MethodName) = true := plainFor_of_name (by first | (simp [plainName, overriddenIn]; done) | decide +kernel)
theorem ef_3 (m : MethodId) (x0 : Addr) (x1 : Int64) : entryFrame m #[(.ref x0), (.long x1)] 3 = mkF m 0 #[.val (.ref x0), .val (.long x1), .second] [] := by first | (simp [entryFrame, mkF, argsToLocals, Value.category]; done) | rfl
theorem hy_3 : ((⟨"com/example/redoubt/redoubt/RequestedBackups$Silence", "over", "(J)Z"⟩ : MethodName)).cls ≠ "java/lang/invoke/MethodHandle" ∧ ((⟨"com/example/redoubt/redoubt/RequestedBackups$Silence", "over", "(J)Z"⟩ : MethodName)).cls ≠ "java/lang/invoke/VarHandle" := by decide
set_option maxRecDepth 65536 in
set_option maxHeartbeats 40000000 in
theorem rm3 (l : Launch) (Z : State) (a0 : Array Value) (hw : ∀ d ∈ tables_1, d.before a0 Z = true) (ws : List Jvm.Cond) (a : Addr) (now sg : Int64) (h0 : Heap) (n0 : Nat) (Z0 : n0 ≤ h0.size) (F_sign_a : Fld Z h0 a "com/example/redoubt/redoubt/RequestedBackups$Silence" "sign" "J" (.long sg)) (S_n : Sta Z h0 "com/example/redoubt/redoubt/RequestedBackups" "SILENCE_NANOS" "J" (.long (5000000000 : Int64))) :
    Con l Z (⟨"com/example/redoubt/redoubt/RequestedBackups$Silence", "over", "(J)Z"⟩ : MethodName) prog_32_method_4_code 3 (some .boolean) ws ({ frames := 0, cells := 0, slots := 0, locals := 0 } : Room) #[(.ref a), (.long now)] h0 n0 (fun v h => v = some (.int (fov now sg)) ∧ h = h0) := by
  refine Con.of pn_3 ?_
  intro G p e s m below meth c s₁ hs hx hby hml hown hnm hret hZ X0 fin
  have hml : c.maxLocals = 3 := hml
  have hown : s.vm.findClass "com/example/redoubt/redoubt/RequestedBackups$Silence" = some m.cls := hown
  rw [ef_3]
  show G s₁ (mkF m 0 #[.val (.ref a), .val (.long now), .second] [])
  refine hs.go (fun _ kk_ => XS.lloadN X0.here hx rfl (hb hby d3_0) rfl  kk_) ?_
  show G s₁ (mkF m 1 #[.val (.ref a), .val (.long now), .second] [(.long now)])
  refine hs.go (fun _ kk_ => XS.aloadN X0.here hx rfl (hb hby d3_1) rfl rfl kk_) ?_
  show G s₁ (mkF m 2 #[.val (.ref a), .val (.long now), .second] [(.ref a), (.long now)])
  refine rGetF hs X0 hx hZ hown (host := "") (Or.inl (hw _ (List.mem_of_getElem? (i := 12) rfl))) Via.refl F_sign_a rfl rfl (hb hby d3_2) (fun T1 X1 => ?_)
  show G T1 (mkF m 5 #[.val (.ref a), .val (.long now), .second] [(.long sg), (.long now)])
  refine hs.go (fun _ kk_ => XS.lsub X1.here hx rfl (hb hby d3_5) rfl kk_) ?_
  show G T1 (mkF m 6 #[.val (.ref a), .val (.long now), .second] [(.long (now - sg))])
  refine rGetS hs X1 hx hZ hown (Or.inr (hw _ (List.mem_of_getElem? (i := 20) rfl))) Via.refl S_n rfl (hb hby d3_6) (fun T2 X2 => ?_)
  show G T2 (mkF m 9 #[.val (.ref a), .val (.long now), .second] [(.long (5000000000 : Int64)), (.long (now - sg))])
  refine hs.go (fun _ kk_ => XS.lcmp X2.here hx rfl (hb hby d3_9) rfl kk_) ?_
  show G T2 (mkF m 10 #[.val (.ref a), .val (.long now), .second] [(.int (lcmpW (now - sg) (5000000000 : Int64)))])
  by_cases c10 : (5000000000 : Int64) < (now - sg)
  · refine hs.go (fun _ kk_ => XS.ifNo X2.here hx rfl (hb hby d3_10) rfl ((if0 _ _).trans (gtL c10).2) kk_) ?_
    show G T2 (mkF m 13 #[.val (.ref a), .val (.long now), .second] [])
    refine hs.go (fun _ kk_ => XS.iconst X2.here hx rfl (hb hby d3_13) kk_) ?_
    show G T2 (mkF m 14 #[.val (.ref a), .val (.long now), .second] [(.int (1 : Int32))])
    refine hs.go (fun _ kk_ => XS.goto X2.here hx rfl (pc0 := 14) (pc' := 18) rfl (hb hby d3_14) (by decide) (by decide) kk_) ?_
    show G T2 (mkF m 18 #[.val (.ref a), .val (.long now), .second] [(.int (1 : Int32))])
    exact rRetN fin X2 hx (by decide) (by decide) hret (by simp) (hb hby d3_18) (z' := (1 : Int32)) (by decide) ⟨by rw [fov, if_pos c10], rfl⟩
  · refine hs.go (fun _ kk_ => XS.ifYes X2.here hx rfl (pc0 := 10) (pc' := 17) rfl (hb hby d3_10) rfl ((if0 _ _).trans (ngtL c10).2) (by decide) (by decide) kk_) ?_
    show G T2 (mkF m 17 #[.val (.ref a), .val (.long now), .second] [])
    refine hs.go (fun _ kk_ => XS.iconst X2.here hx rfl (hb hby d3_17) kk_) ?_
    show G T2 (mkF m 18 #[.val (.ref a), .val (.long now), .second] [(.int (0 : Int32))])
    exact rRetN fin X2 hx (by decide) (by decide) hret (by simp) (hb hby d3_18) (z' := (0 : Int32)) (by decide) ⟨by rw [fov, if_neg c10], rfl⟩

theorem own_lt2 {n : Int32} (h : n < (1 : Int32)) : n < (2 : Int32) := by rw [lt32] at h ⊢; have k1 : (1 : Int32).toInt = 1 := rfl; have k2 : (2 : Int32).toInt = 2 := rfl; omega
theorem own_lt3 {n : Int32} (h : n < (2 : Int32)) : n < (3 : Int32) := by rw [lt32] at h ⊢; have k1 : (3 : Int32).toInt = 3 := rfl; have k2 : (2 : Int32).toInt = 2 := rfl; omega
theorem own_r {n k : Int32} {p q e e' t : Int64} (H : (n < k ∧ e' = e) ∨ (¬ (n < k) ∧ p = q ∧ e' = e) ∨ (¬ (n < k) ∧ ¬ (p = q) ∧ e' = t)) : (n < k → e' = e) ∧ (¬ n < k → e' = fsg p q e t) := by
  rcases H with ⟨h, rfl⟩ | ⟨h, hp, rfl⟩ | ⟨h, hp, rfl⟩
  · exact ⟨fun _ => rfl, fun z => absurd h z⟩
  · exact ⟨fun z => absurd z h, fun _ => by rw [fsg, if_pos hp]⟩
  · exact ⟨fun z => absurd z h, fun _ => by rw [fsg, if_neg hp]⟩
theorem own_ov0 {e sg : Int64} (h : e = sg) : fov (e + (5000000000 : Int64)) sg = (0 : Int32) := by
  rw [fov, if_neg]
  rw [lt64, h]
  have a1 := c_ladd sg 5000000000
  have a2 := c_lsub (sg + 5000000000) sg
  have a3 := rng64 (sg + 5000000000 - sg)
  have k : (5000000000 : Int64).toInt = 5000000000 := rfl
  omega
theorem own_ov1 {e sg : Int64} (h : e = sg) : ¬ (fov ((e + (5000000000 : Int64)) + (1 : Int64)) sg = (0 : Int32)) := by
  rw [fov, if_pos]
  · decide
  rw [lt64, h]
  have a1 := c_ladd sg 5000000000
  have a0 := c_ladd (sg + 5000000000) 1
  have a2 := c_lsub (sg + 5000000000 + 1) sg
  have a3 := rng64 (sg + 5000000000 + 1 - sg)
  have k : (5000000000 : Int64).toInt = 5000000000 := rfl
  have k1 : (1 : Int64).toInt = 1 := rfl
  omega

theorem pd_0 : parseMethodDescriptor "(J)V" = some ⟨[.long], none⟩ := by decide +kernel
theorem pd_1 : parseMethodDescriptor "(J)Z" = some ⟨[.long], some .boolean⟩ := by decide +kernel
theorem pd_2 : parseMethodDescriptor "(JJ)V" = some ⟨[.long, .long], none⟩ := by decide +kernel
theorem pn_0 : plainFor x = true := plainFor_of_name (show plainName "com/example/redoubt/redoubt/SilenceRepliedPinLaw" = true by first | (simp [plainName, overriddenIn]; done) | decide +kernel)
theorem ef_0 (m : MethodId) (x0 : Int64) (x1 : Int64) (x2 : Int64) (x3 : Int64) (x4 : Int64) (x5 : Int32) : entryFrame m #[(.long x0), (.long x1), (.long x2), (.long x3), (.long x4), (.int x5)] maxLocals = mkF m 0 #[.val (.long x0), .second, .val (.long x1), .second, .val (.long x2), .second, .val (.long x3), .second, .val (.long x4), .second, .val (.int x5), .unset, .unset, .unset, .unset, .unset, .unset, .unset, .unset, .unset, .unset, .unset, .unset, .unset, .unset, .unset, .unset, .unset] [] := by first | (simp [entryFrame, mkF, argsToLocals, Value.category, maxLocals]; done) | rfl
set_option maxRecDepth 65536 in
set_option maxHeartbeats 40000000 in
theorem rm0 (l : Launch) (Z : State) (a0 : Array Value) (hw : ∀ d ∈ tables_1, d.before a0 Z = true) (ws : List Jvm.Cond) (began b1 b2 t1 t2 : Int64) (mode : Int32) (h0 : Heap) (n0 : Nat) (Z0 : n0 ≤ h0.size) (O : Old Z n0 h0) (S0 : Sta Z Z.heap "com/example/redoubt/redoubt/RequestedBackups" "SILENCE_NANOS" "J" (.long (5000000000 : Int64))) :
    Con l Z x code maxLocals ret ws room_1 #[(.long began), (.long b1), (.long b2), (.long t1), (.long t2), (.int mode)] h0 n0 (fun v h => v = some (.int 1)) := by
  refine Con.of pn_0 ?_
  intro G p e s m below meth c s₁ hs hx hby hml hown hnm hret hZ X0 fin
  have hml : c.maxLocals = 28 := hml
  have hown : s.vm.findClass "com/example/redoubt/redoubt/SilenceRepliedPinLaw" = some m.cls := hown
  rw [ef_0]
  show G s₁ (mkF m 0 #[.val (.long began), .second, .val (.long b1), .second, .val (.long b2), .second, .val (.long t1), .second, .val (.long t2), .second, .val (.int mode), .unset, .unset, .unset, .unset, .unset, .unset, .unset, .unset, .unset, .unset, .unset, .unset, .unset, .unset, .unset, .unset, .unset] [])
  have J12 : ∀ (z1 : Int32), (((mode &&& (1 : Int32)) = (0 : Int32) ∧ z1 = (0 : Int32)) ∨ (¬ ((mode &&& (1 : Int32)) = (0 : Int32)) ∧ z1 = (1 : Int32))) → G s₁ (mkF m 12 #[.val (.long began), .second, .val (.long b1), .second, .val (.long b2), .second, .val (.long t1), .second, .val (.long t2), .second, .val (.int mode), .unset, .unset, .unset, .unset, .unset, .unset, .unset, .unset, .unset, .unset, .unset, .unset, .unset, .unset, .unset, .unset, .unset] [(.int z1)]) := by
    intro z1 hJ12
    show G s₁ (mkF m 12 #[.val (.long began), .second, .val (.long b1), .second, .val (.long b2), .second, .val (.long t1), .second, .val (.long t2), .second, .val (.int mode), .unset, .unset, .unset, .unset, .unset, .unset, .unset, .unset, .unset, .unset, .unset, .unset, .unset, .unset, .unset, .unset, .unset] [(.int z1)])
    refine hs.go (fun _ kk_ => XS.istore X0.here hx rfl (hb hby at_12) rfl (l' := #[.val (.long began), .second, .val (.long b1), .second, .val (.long b2), .second, .val (.long t1), .second, .val (.long t2), .second, .val (.int mode), .val (.int z1), .unset, .unset, .unset, .unset, .unset, .unset, .unset, .unset, .unset, .unset, .unset, .unset, .unset, .unset, .unset, .unset]) rfl kk_) ?_
    show G s₁ (mkF m 14 #[.val (.long began), .second, .val (.long b1), .second, .val (.long b2), .second, .val (.long t1), .second, .val (.long t2), .second, .val (.int mode), .val (.int z1), .unset, .unset, .unset, .unset, .unset, .unset, .unset, .unset, .unset, .unset, .unset, .unset, .unset, .unset, .unset, .unset] [])
    have J26 : ∀ (z2 : Int32), (((mode &&& (2 : Int32)) = (0 : Int32) ∧ z2 = (0 : Int32)) ∨ (¬ ((mode &&& (2 : Int32)) = (0 : Int32)) ∧ z2 = (1 : Int32))) → G s₁ (mkF m 26 #[.val (.long began), .second, .val (.long b1), .second, .val (.long b2), .second, .val (.long t1), .second, .val (.long t2), .second, .val (.int mode), .val (.int z1), .unset, .unset, .unset, .unset, .unset, .unset, .unset, .unset, .unset, .unset, .unset, .unset, .unset, .unset, .unset, .unset] [(.int z2)]) := by
      intro z2 hJ26
      show G s₁ (mkF m 26 #[.val (.long began), .second, .val (.long b1), .second, .val (.long b2), .second, .val (.long t1), .second, .val (.long t2), .second, .val (.int mode), .val (.int z1), .unset, .unset, .unset, .unset, .unset, .unset, .unset, .unset, .unset, .unset, .unset, .unset, .unset, .unset, .unset, .unset] [(.int z2)])
      refine hs.go (fun _ kk_ => XS.istore X0.here hx rfl (hb hby at_26) rfl (l' := #[.val (.long began), .second, .val (.long b1), .second, .val (.long b2), .second, .val (.long t1), .second, .val (.long t2), .second, .val (.int mode), .val (.int z1), .val (.int z2), .unset, .unset, .unset, .unset, .unset, .unset, .unset, .unset, .unset, .unset, .unset, .unset, .unset, .unset, .unset]) rfl kk_) ?_
      show G s₁ (mkF m 28 #[.val (.long began), .second, .val (.long b1), .second, .val (.long b2), .second, .val (.long t1), .second, .val (.long t2), .second, .val (.int mode), .val (.int z1), .val (.int z2), .unset, .unset, .unset, .unset, .unset, .unset, .unset, .unset, .unset, .unset, .unset, .unset, .unset, .unset, .unset] [])
      have J40 : ∀ (z3 : Int32), (((mode &&& (4 : Int32)) = (0 : Int32) ∧ z3 = (0 : Int32)) ∨ (¬ ((mode &&& (4 : Int32)) = (0 : Int32)) ∧ z3 = (1 : Int32))) → G s₁ (mkF m 40 #[.val (.long began), .second, .val (.long b1), .second, .val (.long b2), .second, .val (.long t1), .second, .val (.long t2), .second, .val (.int mode), .val (.int z1), .val (.int z2), .unset, .unset, .unset, .unset, .unset, .unset, .unset, .unset, .unset, .unset, .unset, .unset, .unset, .unset, .unset] [(.int z3)]) := by
        intro z3 hJ40
        show G s₁ (mkF m 40 #[.val (.long began), .second, .val (.long b1), .second, .val (.long b2), .second, .val (.long t1), .second, .val (.long t2), .second, .val (.int mode), .val (.int z1), .val (.int z2), .unset, .unset, .unset, .unset, .unset, .unset, .unset, .unset, .unset, .unset, .unset, .unset, .unset, .unset, .unset] [(.int z3)])
        refine hs.go (fun _ kk_ => XS.istore X0.here hx rfl (hb hby at_40) rfl (l' := #[.val (.long began), .second, .val (.long b1), .second, .val (.long b2), .second, .val (.long t1), .second, .val (.long t2), .second, .val (.int mode), .val (.int z1), .val (.int z2), .val (.int z3), .unset, .unset, .unset, .unset, .unset, .unset, .unset, .unset, .unset, .unset, .unset, .unset, .unset, .unset]) rfl kk_) ?_
        show G s₁ (mkF m 42 #[.val (.long began), .second, .val (.long b1), .second, .val (.long b2), .second, .val (.long t1), .second, .val (.long t2), .second, .val (.int mode), .val (.int z1), .val (.int z2), .val (.int z3), .unset, .unset, .unset, .unset, .unset, .unset, .unset, .unset, .unset, .unset, .unset, .unset, .unset, .unset] [])
        refine hs.go (fun _ kk_ => XS.iload X0.here hx rfl (hb hby at_42) rfl  kk_) ?_
        show G s₁ (mkF m 44 #[.val (.long began), .second, .val (.long b1), .second, .val (.long b2), .second, .val (.long t1), .second, .val (.long t2), .second, .val (.int mode), .val (.int z1), .val (.int z2), .val (.int z3), .unset, .unset, .unset, .unset, .unset, .unset, .unset, .unset, .unset, .unset, .unset, .unset, .unset, .unset] [(.int mode)])
        refine hs.go (fun _ kk_ => XS.iconst X0.here hx rfl (hb hby at_44) kk_) ?_
        show G s₁ (mkF m 45 #[.val (.long began), .second, .val (.long b1), .second, .val (.long b2), .second, .val (.long t1), .second, .val (.long t2), .second, .val (.int mode), .val (.int z1), .val (.int z2), .val (.int z3), .unset, .unset, .unset, .unset, .unset, .unset, .unset, .unset, .unset, .unset, .unset, .unset, .unset, .unset] [(.int (3 : Int32)), (.int mode)])
        refine hs.go (fun _ kk_ => XS.iushr X0.here hx rfl (hb hby at_45) rfl kk_) ?_
        show G s₁ (mkF m 46 #[.val (.long began), .second, .val (.long b1), .second, .val (.long b2), .second, .val (.long t1), .second, .val (.long t2), .second, .val (.int mode), .val (.int z1), .val (.int z2), .val (.int z3), .unset, .unset, .unset, .unset, .unset, .unset, .unset, .unset, .unset, .unset, .unset, .unset, .unset, .unset] [(.int ((mode.toUInt32 >>> ((3 : Int32) &&& 31).toUInt32).toInt32))])
        refine hs.go (fun _ kk_ => XS.iconst X0.here hx rfl (hb hby at_46) kk_) ?_
        show G s₁ (mkF m 47 #[.val (.long began), .second, .val (.long b1), .second, .val (.long b2), .second, .val (.long t1), .second, .val (.long t2), .second, .val (.int mode), .val (.int z1), .val (.int z2), .val (.int z3), .unset, .unset, .unset, .unset, .unset, .unset, .unset, .unset, .unset, .unset, .unset, .unset, .unset, .unset] [(.int (3 : Int32)), (.int ((mode.toUInt32 >>> ((3 : Int32) &&& 31).toUInt32).toInt32))])
        refine hs.go (fun _ kk_ => XS.iand X0.here hx rfl (hb hby at_47) rfl kk_) ?_
        show G s₁ (mkF m 48 #[.val (.long began), .second, .val (.long b1), .second, .val (.long b2), .second, .val (.long t1), .second, .val (.long t2), .second, .val (.int mode), .val (.int z1), .val (.int z2), .val (.int z3), .unset, .unset, .unset, .unset, .unset, .unset, .unset, .unset, .unset, .unset, .unset, .unset, .unset, .unset] [(.int (((mode.toUInt32 >>> ((3 : Int32) &&& 31).toUInt32).toInt32) &&& (3 : Int32)))])
        refine nameIt (P := fun zz_ : Int32 => G s₁ (mkF m 48 #[.val (.long began), .second, .val (.long b1), .second, .val (.long b2), .second, .val (.long t1), .second, .val (.long t2), .second, .val (.int mode), .val (.int z1), .val (.int z2), .val (.int z3), .unset, .unset, .unset, .unset, .unset, .unset, .unset, .unset, .unset, .unset, .unset, .unset, .unset, .unset] [(.int zz_)])) (((mode.toUInt32 >>> ((3 : Int32) &&& 31).toUInt32).toInt32) &&& (3 : Int32)) (fun nn hnn => ?_)
        show G s₁ (mkF m 48 #[.val (.long began), .second, .val (.long b1), .second, .val (.long b2), .second, .val (.long t1), .second, .val (.long t2), .second, .val (.int mode), .val (.int z1), .val (.int z2), .val (.int z3), .unset, .unset, .unset, .unset, .unset, .unset, .unset, .unset, .unset, .unset, .unset, .unset, .unset, .unset] [(.int nn)])
        refine hs.go (fun _ kk_ => XS.istore X0.here hx rfl (hb hby at_48) rfl (l' := #[.val (.long began), .second, .val (.long b1), .second, .val (.long b2), .second, .val (.long t1), .second, .val (.long t2), .second, .val (.int mode), .val (.int z1), .val (.int z2), .val (.int z3), .val (.int nn), .unset, .unset, .unset, .unset, .unset, .unset, .unset, .unset, .unset, .unset, .unset, .unset, .unset]) rfl kk_) ?_
        show G s₁ (mkF m 50 #[.val (.long began), .second, .val (.long b1), .second, .val (.long b2), .second, .val (.long t1), .second, .val (.long t2), .second, .val (.int mode), .val (.int z1), .val (.int z2), .val (.int z3), .val (.int nn), .unset, .unset, .unset, .unset, .unset, .unset, .unset, .unset, .unset, .unset, .unset, .unset, .unset] [])
        have J62 : ∀ (bt1 : Int64), ((z1 = (0 : Int32) ∧ bt1 = b1) ∨ (¬ (z1 = (0 : Int32)) ∧ bt1 = (-1 : Int64))) → G s₁ (mkF m 62 #[.val (.long began), .second, .val (.long b1), .second, .val (.long b2), .second, .val (.long t1), .second, .val (.long t2), .second, .val (.int mode), .val (.int z1), .val (.int z2), .val (.int z3), .val (.int nn), .unset, .unset, .unset, .unset, .unset, .unset, .unset, .unset, .unset, .unset, .unset, .unset, .unset] [(.long bt1)]) := by
          intro bt1 hJ62
          show G s₁ (mkF m 62 #[.val (.long began), .second, .val (.long b1), .second, .val (.long b2), .second, .val (.long t1), .second, .val (.long t2), .second, .val (.int mode), .val (.int z1), .val (.int z2), .val (.int z3), .val (.int nn), .unset, .unset, .unset, .unset, .unset, .unset, .unset, .unset, .unset, .unset, .unset, .unset, .unset] [(.long bt1)])
          refine hs.go (fun _ kk_ => XS.lstore X0.here hx rfl (hb hby at_62) rfl (l' := #[.val (.long began), .second, .val (.long b1), .second, .val (.long b2), .second, .val (.long t1), .second, .val (.long t2), .second, .val (.int mode), .val (.int z1), .val (.int z2), .val (.int z3), .val (.int nn), .val (.long bt1), .second, .unset, .unset, .unset, .unset, .unset, .unset, .unset, .unset, .unset, .unset, .unset]) rfl kk_) ?_
          show G s₁ (mkF m 64 #[.val (.long began), .second, .val (.long b1), .second, .val (.long b2), .second, .val (.long t1), .second, .val (.long t2), .second, .val (.int mode), .val (.int z1), .val (.int z2), .val (.int z3), .val (.int nn), .val (.long bt1), .second, .unset, .unset, .unset, .unset, .unset, .unset, .unset, .unset, .unset, .unset, .unset] [])
          have J76 : ∀ (bt2 : Int64), ((z2 = (0 : Int32) ∧ bt2 = b2) ∨ (¬ (z2 = (0 : Int32)) ∧ bt2 = bt1)) → G s₁ (mkF m 76 #[.val (.long began), .second, .val (.long b1), .second, .val (.long b2), .second, .val (.long t1), .second, .val (.long t2), .second, .val (.int mode), .val (.int z1), .val (.int z2), .val (.int z3), .val (.int nn), .val (.long bt1), .second, .unset, .unset, .unset, .unset, .unset, .unset, .unset, .unset, .unset, .unset, .unset] [(.long bt2)]) := by
            intro bt2 hJ76
            show G s₁ (mkF m 76 #[.val (.long began), .second, .val (.long b1), .second, .val (.long b2), .second, .val (.long t1), .second, .val (.long t2), .second, .val (.int mode), .val (.int z1), .val (.int z2), .val (.int z3), .val (.int nn), .val (.long bt1), .second, .unset, .unset, .unset, .unset, .unset, .unset, .unset, .unset, .unset, .unset, .unset] [(.long bt2)])
            refine hs.go (fun _ kk_ => XS.lstore X0.here hx rfl (hb hby at_76) rfl (l' := #[.val (.long began), .second, .val (.long b1), .second, .val (.long b2), .second, .val (.long t1), .second, .val (.long t2), .second, .val (.int mode), .val (.int z1), .val (.int z2), .val (.int z3), .val (.int nn), .val (.long bt1), .second, .val (.long bt2), .second, .unset, .unset, .unset, .unset, .unset, .unset, .unset, .unset, .unset]) rfl kk_) ?_
            show G s₁ (mkF m 78 #[.val (.long began), .second, .val (.long b1), .second, .val (.long b2), .second, .val (.long t1), .second, .val (.long t2), .second, .val (.int mode), .val (.int z1), .val (.int z2), .val (.int z3), .val (.int nn), .val (.long bt1), .second, .val (.long bt2), .second, .unset, .unset, .unset, .unset, .unset, .unset, .unset, .unset, .unset] [])
            have J90 : ∀ (bt3 : Int64), ((z3 = (0 : Int32) ∧ bt3 = bt2) ∨ (¬ (z3 = (0 : Int32)) ∧ bt3 = bt1)) → G s₁ (mkF m 90 #[.val (.long began), .second, .val (.long b1), .second, .val (.long b2), .second, .val (.long t1), .second, .val (.long t2), .second, .val (.int mode), .val (.int z1), .val (.int z2), .val (.int z3), .val (.int nn), .val (.long bt1), .second, .val (.long bt2), .second, .unset, .unset, .unset, .unset, .unset, .unset, .unset, .unset, .unset] [(.long bt3)]) := by
              intro bt3 hJ90
              show G s₁ (mkF m 90 #[.val (.long began), .second, .val (.long b1), .second, .val (.long b2), .second, .val (.long t1), .second, .val (.long t2), .second, .val (.int mode), .val (.int z1), .val (.int z2), .val (.int z3), .val (.int nn), .val (.long bt1), .second, .val (.long bt2), .second, .unset, .unset, .unset, .unset, .unset, .unset, .unset, .unset, .unset] [(.long bt3)])
              refine hs.go (fun _ kk_ => XS.lstore X0.here hx rfl (hb hby at_90) rfl (l' := #[.val (.long began), .second, .val (.long b1), .second, .val (.long b2), .second, .val (.long t1), .second, .val (.long t2), .second, .val (.int mode), .val (.int z1), .val (.int z2), .val (.int z3), .val (.int nn), .val (.long bt1), .second, .val (.long bt2), .second, .val (.long bt3), .second, .unset, .unset, .unset, .unset, .unset, .unset, .unset]) rfl kk_) ?_
              show G s₁ (mkF m 92 #[.val (.long began), .second, .val (.long b1), .second, .val (.long b2), .second, .val (.long t1), .second, .val (.long t2), .second, .val (.int mode), .val (.int z1), .val (.int z2), .val (.int z3), .val (.int nn), .val (.long bt1), .second, .val (.long bt2), .second, .val (.long bt3), .second, .unset, .unset, .unset, .unset, .unset, .unset, .unset] [])
              refine hs.go (fun _ kk_ => XS.lload X0.here hx rfl (hb hby at_92) rfl  kk_) ?_
              show G s₁ (mkF m 94 #[.val (.long began), .second, .val (.long b1), .second, .val (.long b2), .second, .val (.long t1), .second, .val (.long t2), .second, .val (.int mode), .val (.int z1), .val (.int z2), .val (.int z3), .val (.int nn), .val (.long bt1), .second, .val (.long bt2), .second, .val (.long bt3), .second, .unset, .unset, .unset, .unset, .unset, .unset, .unset] [(.long t1)])
              refine hs.go (fun _ kk_ => XS.lload X0.here hx rfl (hb hby at_94) rfl  kk_) ?_
              show G s₁ (mkF m 96 #[.val (.long began), .second, .val (.long b1), .second, .val (.long b2), .second, .val (.long t1), .second, .val (.long t2), .second, .val (.int mode), .val (.int z1), .val (.int z2), .val (.int z3), .val (.int nn), .val (.long bt1), .second, .val (.long bt2), .second, .val (.long bt3), .second, .unset, .unset, .unset, .unset, .unset, .unset, .unset] [(.long t2), (.long t1)])
              refine hs.go (fun _ kk_ => XS.lxor X0.here hx rfl (hb hby at_96) rfl kk_) ?_
              show G s₁ (mkF m 97 #[.val (.long began), .second, .val (.long b1), .second, .val (.long b2), .second, .val (.long t1), .second, .val (.long t2), .second, .val (.int mode), .val (.int z1), .val (.int z2), .val (.int z3), .val (.int nn), .val (.long bt1), .second, .val (.long bt2), .second, .val (.long bt3), .second, .unset, .unset, .unset, .unset, .unset, .unset, .unset] [(.long (t1 ^^^ t2))])
              refine hs.go (fun _ kk_ => XS.lloadN X0.here hx rfl (hb hby at_97) rfl  kk_) ?_
              show G s₁ (mkF m 98 #[.val (.long began), .second, .val (.long b1), .second, .val (.long b2), .second, .val (.long t1), .second, .val (.long t2), .second, .val (.int mode), .val (.int z1), .val (.int z2), .val (.int z3), .val (.int nn), .val (.long bt1), .second, .val (.long bt2), .second, .val (.long bt3), .second, .unset, .unset, .unset, .unset, .unset, .unset, .unset] [(.long began), (.long (t1 ^^^ t2))])
              refine hs.go (fun _ kk_ => XS.lxor X0.here hx rfl (hb hby at_98) rfl kk_) ?_
              show G s₁ (mkF m 99 #[.val (.long began), .second, .val (.long b1), .second, .val (.long b2), .second, .val (.long t1), .second, .val (.long t2), .second, .val (.int mode), .val (.int z1), .val (.int z2), .val (.int z3), .val (.int nn), .val (.long bt1), .second, .val (.long bt2), .second, .val (.long bt3), .second, .unset, .unset, .unset, .unset, .unset, .unset, .unset] [(.long ((t1 ^^^ t2) ^^^ began))])
              refine nameIt (P := fun zz_ : Int64 => G s₁ (mkF m 99 #[.val (.long began), .second, .val (.long b1), .second, .val (.long b2), .second, .val (.long t1), .second, .val (.long t2), .second, .val (.int mode), .val (.int z1), .val (.int z2), .val (.int z3), .val (.int nn), .val (.long bt1), .second, .val (.long bt2), .second, .val (.long bt3), .second, .unset, .unset, .unset, .unset, .unset, .unset, .unset] [(.long zz_)])) ((t1 ^^^ t2) ^^^ began) (fun t3 ht3 => ?_)
              show G s₁ (mkF m 99 #[.val (.long began), .second, .val (.long b1), .second, .val (.long b2), .second, .val (.long t1), .second, .val (.long t2), .second, .val (.int mode), .val (.int z1), .val (.int z2), .val (.int z3), .val (.int nn), .val (.long bt1), .second, .val (.long bt2), .second, .val (.long bt3), .second, .unset, .unset, .unset, .unset, .unset, .unset, .unset] [(.long t3)])
              refine hs.go (fun _ kk_ => XS.lstore X0.here hx rfl (hb hby at_99) rfl (l' := #[.val (.long began), .second, .val (.long b1), .second, .val (.long b2), .second, .val (.long t1), .second, .val (.long t2), .second, .val (.int mode), .val (.int z1), .val (.int z2), .val (.int z3), .val (.int nn), .val (.long bt1), .second, .val (.long bt2), .second, .val (.long bt3), .second, .val (.long t3), .second, .unset, .unset, .unset, .unset, .unset]) rfl kk_) ?_
              show G s₁ (mkF m 101 #[.val (.long began), .second, .val (.long b1), .second, .val (.long b2), .second, .val (.long t1), .second, .val (.long t2), .second, .val (.int mode), .val (.int z1), .val (.int z2), .val (.int z3), .val (.int nn), .val (.long bt1), .second, .val (.long bt2), .second, .val (.long bt3), .second, .val (.long t3), .second, .unset, .unset, .unset, .unset, .unset] [])
              refine hs.go (fun _ kk_ => XS.lloadN X0.here hx rfl (hb hby at_101) rfl  kk_) ?_
              show G s₁ (mkF m 102 #[.val (.long began), .second, .val (.long b1), .second, .val (.long b2), .second, .val (.long t1), .second, .val (.long t2), .second, .val (.int mode), .val (.int z1), .val (.int z2), .val (.int z3), .val (.int nn), .val (.long bt1), .second, .val (.long bt2), .second, .val (.long bt3), .second, .val (.long t3), .second, .unset, .unset, .unset, .unset, .unset] [(.long began)])
              refine hs.go (fun _ kk_ => XS.lstore X0.here hx rfl (hb hby at_102) rfl (l' := #[.val (.long began), .second, .val (.long b1), .second, .val (.long b2), .second, .val (.long t1), .second, .val (.long t2), .second, .val (.int mode), .val (.int z1), .val (.int z2), .val (.int z3), .val (.int nn), .val (.long bt1), .second, .val (.long bt2), .second, .val (.long bt3), .second, .val (.long t3), .second, .val (.long began), .second, .unset, .unset, .unset]) rfl kk_) ?_
              show G s₁ (mkF m 104 #[.val (.long began), .second, .val (.long b1), .second, .val (.long b2), .second, .val (.long t1), .second, .val (.long t2), .second, .val (.int mode), .val (.int z1), .val (.int z2), .val (.int z3), .val (.int nn), .val (.long bt1), .second, .val (.long bt2), .second, .val (.long bt3), .second, .val (.long t3), .second, .val (.long began), .second, .unset, .unset, .unset] [])
              have J123 : ∀ (e1 : Int64), ((nn < (1 : Int32) ∧ e1 = began) ∨ (¬ (nn < (1 : Int32)) ∧ bt1 = (-1 : Int64) ∧ e1 = began) ∨ (¬ (nn < (1 : Int32)) ∧ ¬ (bt1 = (-1 : Int64)) ∧ e1 = t1)) → G s₁ (mkF m 123 #[.val (.long began), .second, .val (.long b1), .second, .val (.long b2), .second, .val (.long t1), .second, .val (.long t2), .second, .val (.int mode), .val (.int z1), .val (.int z2), .val (.int z3), .val (.int nn), .val (.long bt1), .second, .val (.long bt2), .second, .val (.long bt3), .second, .val (.long t3), .second, .val (.long e1), .second, .unset, .unset, .unset] []) := by
                intro e1 hJ123
                show G s₁ (mkF m 123 #[.val (.long began), .second, .val (.long b1), .second, .val (.long b2), .second, .val (.long t1), .second, .val (.long t2), .second, .val (.int mode), .val (.int z1), .val (.int z2), .val (.int z3), .val (.int nn), .val (.long bt1), .second, .val (.long bt2), .second, .val (.long bt3), .second, .val (.long t3), .second, .val (.long e1), .second, .unset, .unset, .unset] [])
                have J141 : ∀ (e2 : Int64), ((nn < (2 : Int32) ∧ e2 = e1) ∨ (¬ (nn < (2 : Int32)) ∧ bt2 = bt1 ∧ e2 = e1) ∨ (¬ (nn < (2 : Int32)) ∧ ¬ (bt2 = bt1) ∧ e2 = t2)) → G s₁ (mkF m 141 #[.val (.long began), .second, .val (.long b1), .second, .val (.long b2), .second, .val (.long t1), .second, .val (.long t2), .second, .val (.int mode), .val (.int z1), .val (.int z2), .val (.int z3), .val (.int nn), .val (.long bt1), .second, .val (.long bt2), .second, .val (.long bt3), .second, .val (.long t3), .second, .val (.long e2), .second, .unset, .unset, .unset] []) := by
                  intro e2 hJ141
                  show G s₁ (mkF m 141 #[.val (.long began), .second, .val (.long b1), .second, .val (.long b2), .second, .val (.long t1), .second, .val (.long t2), .second, .val (.int mode), .val (.int z1), .val (.int z2), .val (.int z3), .val (.int nn), .val (.long bt1), .second, .val (.long bt2), .second, .val (.long bt3), .second, .val (.long t3), .second, .val (.long e2), .second, .unset, .unset, .unset] [])
                  have J159 : ∀ (e3 : Int64), ((nn < (3 : Int32) ∧ e3 = e2) ∨ (¬ (nn < (3 : Int32)) ∧ bt3 = bt2 ∧ e3 = e2) ∨ (¬ (nn < (3 : Int32)) ∧ ¬ (bt3 = bt2) ∧ e3 = t3)) → G s₁ (mkF m 159 #[.val (.long began), .second, .val (.long b1), .second, .val (.long b2), .second, .val (.long t1), .second, .val (.long t2), .second, .val (.int mode), .val (.int z1), .val (.int z2), .val (.int z3), .val (.int nn), .val (.long bt1), .second, .val (.long bt2), .second, .val (.long bt3), .second, .val (.long t3), .second, .val (.long e3), .second, .unset, .unset, .unset] []) := by
                    intro e3 hJ159
                    show G s₁ (mkF m 159 #[.val (.long began), .second, .val (.long b1), .second, .val (.long b2), .second, .val (.long t1), .second, .val (.long t2), .second, .val (.int mode), .val (.int z1), .val (.int z2), .val (.int z3), .val (.int nn), .val (.long bt1), .second, .val (.long bt2), .second, .val (.long bt3), .second, .val (.long t3), .second, .val (.long e3), .second, .unset, .unset, .unset] [])
                    refine rNewO hs X0 hx hZ hown (hw _ (List.mem_of_getElem? (i := 0) rfl)) (hw _ (List.mem_of_getElem? (i := 1) rfl)) (hw _ (List.mem_of_getElem? (i := 2) rfl)) rfl (hb hby at_159) (by decide) (by decide) (fun T1 h1 ob g1 X1 E1 E_ob D1 => ?_)
                    have g_ob : n0 ≤ ob := by rw [g1]; exact Z0
                    have Z0 := Nat.le_trans Z0 E1.1
                    have O := O.ext E1
                    have F_beat_ob : Fld Z h1 ob "com/example/redoubt/redoubt/RequestedBackups$Silence" "beat" "J" (.long (0 : Int64)) := D1 (Or.inl (hw _ (List.mem_of_getElem? (i := 11) rfl))) (ty := .long) (by decide)
                    have F_sign_ob : Fld Z h1 ob "com/example/redoubt/redoubt/RequestedBackups$Silence" "sign" "J" (.long (0 : Int64)) := D1 (Or.inl (hw _ (List.mem_of_getElem? (i := 13) rfl))) (ty := .long) (by decide)
                    show G T1 (mkF m 162 #[.val (.long began), .second, .val (.long b1), .second, .val (.long b2), .second, .val (.long t1), .second, .val (.long t2), .second, .val (.int mode), .val (.int z1), .val (.int z2), .val (.int z3), .val (.int nn), .val (.long bt1), .second, .val (.long bt2), .second, .val (.long bt3), .second, .val (.long t3), .second, .val (.long e3), .second, .unset, .unset, .unset] [(.ref ob)])
                    refine hs.go (fun _ kk_ => XS.dup X1.here hx rfl (hb hby at_162) rfl rfl kk_) ?_
                    show G T1 (mkF m 163 #[.val (.long began), .second, .val (.long b1), .second, .val (.long b2), .second, .val (.long t1), .second, .val (.long t2), .second, .val (.int mode), .val (.int z1), .val (.int z2), .val (.int z3), .val (.int nn), .val (.long bt1), .second, .val (.long bt2), .second, .val (.long bt3), .second, .val (.long t3), .second, .val (.long e3), .second, .unset, .unset, .unset] [(.ref ob), (.ref ob)])
                    refine hs.go (fun _ kk_ => XS.lloadN X1.here hx rfl (hb hby at_163) rfl  kk_) ?_
                    show G T1 (mkF m 164 #[.val (.long began), .second, .val (.long b1), .second, .val (.long b2), .second, .val (.long t1), .second, .val (.long t2), .second, .val (.int mode), .val (.int z1), .val (.int z2), .val (.int z3), .val (.int nn), .val (.long bt1), .second, .val (.long bt2), .second, .val (.long bt3), .second, .val (.long t3), .second, .val (.long e3), .second, .unset, .unset, .unset] [(.long began), (.ref ob), (.ref ob)])
                    refine rCallI hs X1 hx hZ (as' := [(.long began)]) (rm1 l Z a0 hw [] ob began h1 n0 Z0 E_ob g_ob F_beat_ob F_sign_ob) rfl hown (hw _ (List.mem_of_getElem? (i := 3) rfl)) (hw _ (List.mem_of_getElem? (i := 4) rfl)) (hw _ (List.mem_of_getElem? (i := 2) rfl)) (hw _ (List.mem_of_getElem? (i := 5) rfl)) hy_1 rfl (by rw [hml]; rfl) [(.ref ob)] (lenOf pd_0 rfl) rfl 1 (by show 2 * 0 + _ ≤ _; exact Nat.le_of_eq rfl) (hb hby at_164) (by decide) (by decide) (by decide) (by decide) (fun r2 T2 h2 X2 q2 => ?_)
                    obtain ⟨rfl, Kc2, E_ob, F_beat_ob, F_sign_ob⟩ := q2
                    have Z0 := Nat.le_trans Z0 Kc2.1
                    have O := O.keep Kc2 (allS g_ob all0)
                    show G T2 (mkF m 167 #[.val (.long began), .second, .val (.long b1), .second, .val (.long b2), .second, .val (.long t1), .second, .val (.long t2), .second, .val (.int mode), .val (.int z1), .val (.int z2), .val (.int z3), .val (.int nn), .val (.long bt1), .second, .val (.long bt2), .second, .val (.long bt3), .second, .val (.long t3), .second, .val (.long e3), .second, .unset, .unset, .unset] [(.ref ob)])
                    refine hs.go (fun _ kk_ => XS.astore X2.here hx rfl (hb hby at_167) rfl rfl (l' := #[.val (.long began), .second, .val (.long b1), .second, .val (.long b2), .second, .val (.long t1), .second, .val (.long t2), .second, .val (.int mode), .val (.int z1), .val (.int z2), .val (.int z3), .val (.int nn), .val (.long bt1), .second, .val (.long bt2), .second, .val (.long bt3), .second, .val (.long t3), .second, .val (.long e3), .second, .val (.ref ob), .unset, .unset]) rfl kk_) ?_
                    show G T2 (mkF m 169 #[.val (.long began), .second, .val (.long b1), .second, .val (.long b2), .second, .val (.long t1), .second, .val (.long t2), .second, .val (.int mode), .val (.int z1), .val (.int z2), .val (.int z3), .val (.int nn), .val (.long bt1), .second, .val (.long bt2), .second, .val (.long bt3), .second, .val (.long t3), .second, .val (.long e3), .second, .val (.ref ob), .unset, .unset] [])
                    refine hs.go (fun _ kk_ => XS.iload X2.here hx rfl (hb hby at_169) rfl  kk_) ?_
                    show G T2 (mkF m 171 #[.val (.long began), .second, .val (.long b1), .second, .val (.long b2), .second, .val (.long t1), .second, .val (.long t2), .second, .val (.int mode), .val (.int z1), .val (.int z2), .val (.int z3), .val (.int nn), .val (.long bt1), .second, .val (.long bt2), .second, .val (.long bt3), .second, .val (.long t3), .second, .val (.long e3), .second, .val (.ref ob), .unset, .unset] [(.int nn)])
                    refine hs.go (fun _ kk_ => XS.iconst X2.here hx rfl (hb hby at_171) kk_) ?_
                    show G T2 (mkF m 172 #[.val (.long began), .second, .val (.long b1), .second, .val (.long b2), .second, .val (.long t1), .second, .val (.long t2), .second, .val (.int mode), .val (.int z1), .val (.int z2), .val (.int z3), .val (.int nn), .val (.long bt1), .second, .val (.long bt2), .second, .val (.long bt3), .second, .val (.long t3), .second, .val (.long e3), .second, .val (.ref ob), .unset, .unset] [(.int (1 : Int32)), (.int nn)])
                    by_cases c172 : nn < (1 : Int32)
                    · refine hs.go (fun _ kk_ => XS.icmpYes X2.here hx rfl (pc0 := 172) (pc' := 184) rfl (hb hby at_172) rfl (tlt c172).1 (by decide) (by decide) kk_) ?_
                      show G T2 (mkF m 184 #[.val (.long began), .second, .val (.long b1), .second, .val (.long b2), .second, .val (.long t1), .second, .val (.long t2), .second, .val (.int mode), .val (.int z1), .val (.int z2), .val (.int z3), .val (.int nn), .val (.long bt1), .second, .val (.long bt2), .second, .val (.long bt3), .second, .val (.long t3), .second, .val (.long e3), .second, .val (.ref ob), .unset, .unset] [])
                      refine hs.go (fun _ kk_ => XS.iload X2.here hx rfl (hb hby at_184) rfl  kk_) ?_
                      show G T2 (mkF m 186 #[.val (.long began), .second, .val (.long b1), .second, .val (.long b2), .second, .val (.long t1), .second, .val (.long t2), .second, .val (.int mode), .val (.int z1), .val (.int z2), .val (.int z3), .val (.int nn), .val (.long bt1), .second, .val (.long bt2), .second, .val (.long bt3), .second, .val (.long t3), .second, .val (.long e3), .second, .val (.ref ob), .unset, .unset] [(.int nn)])
                      refine hs.go (fun _ kk_ => XS.iconst X2.here hx rfl (hb hby at_186) kk_) ?_
                      show G T2 (mkF m 187 #[.val (.long began), .second, .val (.long b1), .second, .val (.long b2), .second, .val (.long t1), .second, .val (.long t2), .second, .val (.int mode), .val (.int z1), .val (.int z2), .val (.int z3), .val (.int nn), .val (.long bt1), .second, .val (.long bt2), .second, .val (.long bt3), .second, .val (.long t3), .second, .val (.long e3), .second, .val (.ref ob), .unset, .unset] [(.int (2 : Int32)), (.int nn)])
                      refine hs.go (fun _ kk_ => XS.icmpYes X2.here hx rfl (pc0 := 187) (pc' := 199) rfl (hb hby at_187) rfl (tlt (own_lt2 c172 : nn < (2 : Int32))).1 (by decide) (by decide) kk_) ?_
                      show G T2 (mkF m 199 #[.val (.long began), .second, .val (.long b1), .second, .val (.long b2), .second, .val (.long t1), .second, .val (.long t2), .second, .val (.int mode), .val (.int z1), .val (.int z2), .val (.int z3), .val (.int nn), .val (.long bt1), .second, .val (.long bt2), .second, .val (.long bt3), .second, .val (.long t3), .second, .val (.long e3), .second, .val (.ref ob), .unset, .unset] [])
                      refine hs.go (fun _ kk_ => XS.iload X2.here hx rfl (hb hby at_199) rfl  kk_) ?_
                      show G T2 (mkF m 201 #[.val (.long began), .second, .val (.long b1), .second, .val (.long b2), .second, .val (.long t1), .second, .val (.long t2), .second, .val (.int mode), .val (.int z1), .val (.int z2), .val (.int z3), .val (.int nn), .val (.long bt1), .second, .val (.long bt2), .second, .val (.long bt3), .second, .val (.long t3), .second, .val (.long e3), .second, .val (.ref ob), .unset, .unset] [(.int nn)])
                      refine hs.go (fun _ kk_ => XS.iconst X2.here hx rfl (hb hby at_201) kk_) ?_
                      show G T2 (mkF m 202 #[.val (.long began), .second, .val (.long b1), .second, .val (.long b2), .second, .val (.long t1), .second, .val (.long t2), .second, .val (.int mode), .val (.int z1), .val (.int z2), .val (.int z3), .val (.int nn), .val (.long bt1), .second, .val (.long bt2), .second, .val (.long bt3), .second, .val (.long t3), .second, .val (.long e3), .second, .val (.ref ob), .unset, .unset] [(.int (3 : Int32)), (.int nn)])
                      refine hs.go (fun _ kk_ => XS.icmpYes X2.here hx rfl (pc0 := 202) (pc' := 214) rfl (hb hby at_202) rfl (tlt (own_lt3 (own_lt2 c172) : nn < (3 : Int32))).1 (by decide) (by decide) kk_) ?_
                      show G T2 (mkF m 214 #[.val (.long began), .second, .val (.long b1), .second, .val (.long b2), .second, .val (.long t1), .second, .val (.long t2), .second, .val (.int mode), .val (.int z1), .val (.int z2), .val (.int z3), .val (.int nn), .val (.long bt1), .second, .val (.long bt2), .second, .val (.long bt3), .second, .val (.long t3), .second, .val (.long e3), .second, .val (.ref ob), .unset, .unset] [])
                      refine rLdcL hs X2 hx hZ hown (hw _ (List.mem_of_getElem? (i := 14) rfl)) rfl (hb hby at_214) ?_
                      show G T2 (mkF m 217 #[.val (.long began), .second, .val (.long b1), .second, .val (.long b2), .second, .val (.long t1), .second, .val (.long t2), .second, .val (.int mode), .val (.int z1), .val (.int z2), .val (.int z3), .val (.int nn), .val (.long bt1), .second, .val (.long bt2), .second, .val (.long bt3), .second, .val (.long t3), .second, .val (.long e3), .second, .val (.ref ob), .unset, .unset] [(.long (5000000000 : Int64))])
                      refine hs.go (fun _ kk_ => XS.lstore X2.here hx rfl (hb hby at_217) rfl (l' := #[.val (.long began), .second, .val (.long b1), .second, .val (.long b2), .second, .val (.long t1), .second, .val (.long t2), .second, .val (.int mode), .val (.int z1), .val (.int z2), .val (.int z3), .val (.int nn), .val (.long bt1), .second, .val (.long bt2), .second, .val (.long bt3), .second, .val (.long t3), .second, .val (.long e3), .second, .val (.ref ob), .val (.long (5000000000 : Int64)), .second]) rfl kk_) ?_
                      show G T2 (mkF m 219 #[.val (.long began), .second, .val (.long b1), .second, .val (.long b2), .second, .val (.long t1), .second, .val (.long t2), .second, .val (.int mode), .val (.int z1), .val (.int z2), .val (.int z3), .val (.int nn), .val (.long bt1), .second, .val (.long bt2), .second, .val (.long bt3), .second, .val (.long t3), .second, .val (.long e3), .second, .val (.ref ob), .val (.long (5000000000 : Int64)), .second] [])
                      refine hs.go (fun _ kk_ => XS.aload X2.here hx rfl (hb hby at_219) rfl rfl kk_) ?_
                      show G T2 (mkF m 221 #[.val (.long began), .second, .val (.long b1), .second, .val (.long b2), .second, .val (.long t1), .second, .val (.long t2), .second, .val (.int mode), .val (.int z1), .val (.int z2), .val (.int z3), .val (.int nn), .val (.long bt1), .second, .val (.long bt2), .second, .val (.long bt3), .second, .val (.long t3), .second, .val (.long e3), .second, .val (.ref ob), .val (.long (5000000000 : Int64)), .second] [(.ref ob)])
                      refine hs.go (fun _ kk_ => XS.lload X2.here hx rfl (hb hby at_221) rfl  kk_) ?_
                      show G T2 (mkF m 223 #[.val (.long began), .second, .val (.long b1), .second, .val (.long b2), .second, .val (.long t1), .second, .val (.long t2), .second, .val (.int mode), .val (.int z1), .val (.int z2), .val (.int z3), .val (.int nn), .val (.long bt1), .second, .val (.long bt2), .second, .val (.long bt3), .second, .val (.long t3), .second, .val (.long e3), .second, .val (.ref ob), .val (.long (5000000000 : Int64)), .second] [(.long e3), (.ref ob)])
                      refine hs.go (fun _ kk_ => XS.lload X2.here hx rfl (hb hby at_223) rfl  kk_) ?_
                      show G T2 (mkF m 225 #[.val (.long began), .second, .val (.long b1), .second, .val (.long b2), .second, .val (.long t1), .second, .val (.long t2), .second, .val (.int mode), .val (.int z1), .val (.int z2), .val (.int z3), .val (.int nn), .val (.long bt1), .second, .val (.long bt2), .second, .val (.long bt3), .second, .val (.long t3), .second, .val (.long e3), .second, .val (.ref ob), .val (.long (5000000000 : Int64)), .second] [(.long (5000000000 : Int64)), (.long e3), (.ref ob)])
                      refine hs.go (fun _ kk_ => XS.ladd X2.here hx rfl (hb hby at_225) rfl kk_) ?_
                      show G T2 (mkF m 226 #[.val (.long began), .second, .val (.long b1), .second, .val (.long b2), .second, .val (.long t1), .second, .val (.long t2), .second, .val (.int mode), .val (.int z1), .val (.int z2), .val (.int z3), .val (.int nn), .val (.long bt1), .second, .val (.long bt2), .second, .val (.long bt3), .second, .val (.long t3), .second, .val (.long e3), .second, .val (.ref ob), .val (.long (5000000000 : Int64)), .second] [(.long (e3 + (5000000000 : Int64))), (.ref ob)])
                      refine rCallV hs X2 hx hZ (as' := [(.long (e3 + (5000000000 : Int64)))]) (rm3 l Z a0 hw [] ob (e3 + (5000000000 : Int64)) began h2 n0 Z0 F_sign_ob (S0.ext O.2)) E_ob hown (hw _ (List.mem_of_getElem? (i := 15) rfl)) (hw _ (List.mem_of_getElem? (i := 16) rfl)) (hw _ (List.mem_of_getElem? (i := 18) rfl)) (hw _ (List.mem_of_getElem? (i := 17) rfl)) (hw _ (List.mem_of_getElem? (i := 2) rfl)) (hw _ (List.mem_of_getElem? (i := 19) rfl)) hy_3 rfl (by rw [hml]; rfl) [] (lenOf pd_1 rfl) rfl 0 (by show 2 * 0 + _ ≤ _; exact Nat.le_of_eq rfl) (hb hby at_226) (by decide) (by decide) (by decide) (by decide) (fun r3 T3 h3 X3 q3 => ?_)
                      obtain ⟨rfl, qh3⟩ := q3
                      rw [qh3] at X3
                      show G T3 (mkF m 229 #[.val (.long began), .second, .val (.long b1), .second, .val (.long b2), .second, .val (.long t1), .second, .val (.long t2), .second, .val (.int mode), .val (.int z1), .val (.int z2), .val (.int z3), .val (.int nn), .val (.long bt1), .second, .val (.long bt2), .second, .val (.long bt3), .second, .val (.long t3), .second, .val (.long e3), .second, .val (.ref ob), .val (.long (5000000000 : Int64)), .second] [(.int (fov (e3 + (5000000000 : Int64)) began))])
                      refine hs.go (fun _ kk_ => XS.ifNo X3.here hx rfl (hb hby at_229) rfl ((if0 _ _).trans (teq (own_ov0 (((own_r hJ159).1 (own_lt3 (own_lt2 c172))).trans (((own_r hJ141).1 (own_lt2 c172)).trans ((own_r hJ123).1 c172))) : (fov (e3 + (5000000000 : Int64)) began) = (0 : Int32))).2) kk_) ?_
                      show G T3 (mkF m 232 #[.val (.long began), .second, .val (.long b1), .second, .val (.long b2), .second, .val (.long t1), .second, .val (.long t2), .second, .val (.int mode), .val (.int z1), .val (.int z2), .val (.int z3), .val (.int nn), .val (.long bt1), .second, .val (.long bt2), .second, .val (.long bt3), .second, .val (.long t3), .second, .val (.long e3), .second, .val (.ref ob), .val (.long (5000000000 : Int64)), .second] [])
                      refine hs.go (fun _ kk_ => XS.aload X3.here hx rfl (hb hby at_232) rfl rfl kk_) ?_
                      show G T3 (mkF m 234 #[.val (.long began), .second, .val (.long b1), .second, .val (.long b2), .second, .val (.long t1), .second, .val (.long t2), .second, .val (.int mode), .val (.int z1), .val (.int z2), .val (.int z3), .val (.int nn), .val (.long bt1), .second, .val (.long bt2), .second, .val (.long bt3), .second, .val (.long t3), .second, .val (.long e3), .second, .val (.ref ob), .val (.long (5000000000 : Int64)), .second] [(.ref ob)])
                      refine hs.go (fun _ kk_ => XS.lload X3.here hx rfl (hb hby at_234) rfl  kk_) ?_
                      show G T3 (mkF m 236 #[.val (.long began), .second, .val (.long b1), .second, .val (.long b2), .second, .val (.long t1), .second, .val (.long t2), .second, .val (.int mode), .val (.int z1), .val (.int z2), .val (.int z3), .val (.int nn), .val (.long bt1), .second, .val (.long bt2), .second, .val (.long bt3), .second, .val (.long t3), .second, .val (.long e3), .second, .val (.ref ob), .val (.long (5000000000 : Int64)), .second] [(.long e3), (.ref ob)])
                      refine hs.go (fun _ kk_ => XS.lload X3.here hx rfl (hb hby at_236) rfl  kk_) ?_
                      show G T3 (mkF m 238 #[.val (.long began), .second, .val (.long b1), .second, .val (.long b2), .second, .val (.long t1), .second, .val (.long t2), .second, .val (.int mode), .val (.int z1), .val (.int z2), .val (.int z3), .val (.int nn), .val (.long bt1), .second, .val (.long bt2), .second, .val (.long bt3), .second, .val (.long t3), .second, .val (.long e3), .second, .val (.ref ob), .val (.long (5000000000 : Int64)), .second] [(.long (5000000000 : Int64)), (.long e3), (.ref ob)])
                      refine hs.go (fun _ kk_ => XS.ladd X3.here hx rfl (hb hby at_238) rfl kk_) ?_
                      show G T3 (mkF m 239 #[.val (.long began), .second, .val (.long b1), .second, .val (.long b2), .second, .val (.long t1), .second, .val (.long t2), .second, .val (.int mode), .val (.int z1), .val (.int z2), .val (.int z3), .val (.int nn), .val (.long bt1), .second, .val (.long bt2), .second, .val (.long bt3), .second, .val (.long t3), .second, .val (.long e3), .second, .val (.ref ob), .val (.long (5000000000 : Int64)), .second] [(.long (e3 + (5000000000 : Int64))), (.ref ob)])
                      refine hs.go (fun _ kk_ => XS.lconst X3.here hx rfl (hb hby at_239) kk_) ?_
                      show G T3 (mkF m 240 #[.val (.long began), .second, .val (.long b1), .second, .val (.long b2), .second, .val (.long t1), .second, .val (.long t2), .second, .val (.int mode), .val (.int z1), .val (.int z2), .val (.int z3), .val (.int nn), .val (.long bt1), .second, .val (.long bt2), .second, .val (.long bt3), .second, .val (.long t3), .second, .val (.long e3), .second, .val (.ref ob), .val (.long (5000000000 : Int64)), .second] [(.long (1 : Int64)), (.long (e3 + (5000000000 : Int64))), (.ref ob)])
                      refine hs.go (fun _ kk_ => XS.ladd X3.here hx rfl (hb hby at_240) rfl kk_) ?_
                      show G T3 (mkF m 241 #[.val (.long began), .second, .val (.long b1), .second, .val (.long b2), .second, .val (.long t1), .second, .val (.long t2), .second, .val (.int mode), .val (.int z1), .val (.int z2), .val (.int z3), .val (.int nn), .val (.long bt1), .second, .val (.long bt2), .second, .val (.long bt3), .second, .val (.long t3), .second, .val (.long e3), .second, .val (.ref ob), .val (.long (5000000000 : Int64)), .second] [(.long ((e3 + (5000000000 : Int64)) + (1 : Int64))), (.ref ob)])
                      refine rCallV hs X3 hx hZ (as' := [(.long ((e3 + (5000000000 : Int64)) + (1 : Int64)))]) (rm3 l Z a0 hw [] ob ((e3 + (5000000000 : Int64)) + (1 : Int64)) began h2 n0 Z0 F_sign_ob (S0.ext O.2)) E_ob hown (hw _ (List.mem_of_getElem? (i := 15) rfl)) (hw _ (List.mem_of_getElem? (i := 16) rfl)) (hw _ (List.mem_of_getElem? (i := 18) rfl)) (hw _ (List.mem_of_getElem? (i := 17) rfl)) (hw _ (List.mem_of_getElem? (i := 2) rfl)) (hw _ (List.mem_of_getElem? (i := 19) rfl)) hy_3 rfl (by rw [hml]; rfl) [] (lenOf pd_1 rfl) rfl 0 (by show 2 * 0 + _ ≤ _; exact Nat.le_of_eq rfl) (hb hby at_241) (by decide) (by decide) (by decide) (by decide) (fun r4 T4 h4 X4 q4 => ?_)
                      obtain ⟨rfl, qh4⟩ := q4
                      rw [qh4] at X4
                      show G T4 (mkF m 244 #[.val (.long began), .second, .val (.long b1), .second, .val (.long b2), .second, .val (.long t1), .second, .val (.long t2), .second, .val (.int mode), .val (.int z1), .val (.int z2), .val (.int z3), .val (.int nn), .val (.long bt1), .second, .val (.long bt2), .second, .val (.long bt3), .second, .val (.long t3), .second, .val (.long e3), .second, .val (.ref ob), .val (.long (5000000000 : Int64)), .second] [(.int (fov ((e3 + (5000000000 : Int64)) + (1 : Int64)) began))])
                      refine hs.go (fun _ kk_ => XS.ifNo X4.here hx rfl (hb hby at_244) rfl ((if0 _ _).trans (feq (own_ov1 (((own_r hJ159).1 (own_lt3 (own_lt2 c172))).trans (((own_r hJ141).1 (own_lt2 c172)).trans ((own_r hJ123).1 c172))) : ¬ ((fov ((e3 + (5000000000 : Int64)) + (1 : Int64)) began) = (0 : Int32)))).1) kk_) ?_
                      show G T4 (mkF m 247 #[.val (.long began), .second, .val (.long b1), .second, .val (.long b2), .second, .val (.long t1), .second, .val (.long t2), .second, .val (.int mode), .val (.int z1), .val (.int z2), .val (.int z3), .val (.int nn), .val (.long bt1), .second, .val (.long bt2), .second, .val (.long bt3), .second, .val (.long t3), .second, .val (.long e3), .second, .val (.ref ob), .val (.long (5000000000 : Int64)), .second] [])
                      refine hs.go (fun _ kk_ => XS.iconst X4.here hx rfl (hb hby at_247) kk_) ?_
                      show G T4 (mkF m 248 #[.val (.long began), .second, .val (.long b1), .second, .val (.long b2), .second, .val (.long t1), .second, .val (.long t2), .second, .val (.int mode), .val (.int z1), .val (.int z2), .val (.int z3), .val (.int nn), .val (.long bt1), .second, .val (.long bt2), .second, .val (.long bt3), .second, .val (.long t3), .second, .val (.long e3), .second, .val (.ref ob), .val (.long (5000000000 : Int64)), .second] [(.int (1 : Int32))])
                      refine hs.go (fun _ kk_ => XS.goto X4.here hx rfl (pc0 := 248) (pc' := 252) rfl (hb hby at_248) (by decide) (by decide) kk_) ?_
                      show G T4 (mkF m 252 #[.val (.long began), .second, .val (.long b1), .second, .val (.long b2), .second, .val (.long t1), .second, .val (.long t2), .second, .val (.int mode), .val (.int z1), .val (.int z2), .val (.int z3), .val (.int nn), .val (.long bt1), .second, .val (.long bt2), .second, .val (.long bt3), .second, .val (.long t3), .second, .val (.long e3), .second, .val (.ref ob), .val (.long (5000000000 : Int64)), .second] [(.int (1 : Int32))])
                      exact rRetN fin X4 hx (by decide) (by decide) hret (by simp) (hb hby at_252) (z' := (1 : Int32)) (by decide) rfl
                    · refine hs.go (fun _ kk_ => XS.icmpNo X2.here hx rfl (hb hby at_172) rfl (flt c172).1 kk_) ?_
                      show G T2 (mkF m 175 #[.val (.long began), .second, .val (.long b1), .second, .val (.long b2), .second, .val (.long t1), .second, .val (.long t2), .second, .val (.int mode), .val (.int z1), .val (.int z2), .val (.int z3), .val (.int nn), .val (.long bt1), .second, .val (.long bt2), .second, .val (.long bt3), .second, .val (.long t3), .second, .val (.long e3), .second, .val (.ref ob), .unset, .unset] [])
                      refine hs.go (fun _ kk_ => XS.aload X2.here hx rfl (hb hby at_175) rfl rfl kk_) ?_
                      show G T2 (mkF m 177 #[.val (.long began), .second, .val (.long b1), .second, .val (.long b2), .second, .val (.long t1), .second, .val (.long t2), .second, .val (.int mode), .val (.int z1), .val (.int z2), .val (.int z3), .val (.int nn), .val (.long bt1), .second, .val (.long bt2), .second, .val (.long bt3), .second, .val (.long t3), .second, .val (.long e3), .second, .val (.ref ob), .unset, .unset] [(.ref ob)])
                      refine hs.go (fun _ kk_ => XS.lload X2.here hx rfl (hb hby at_177) rfl  kk_) ?_
                      show G T2 (mkF m 179 #[.val (.long began), .second, .val (.long b1), .second, .val (.long b2), .second, .val (.long t1), .second, .val (.long t2), .second, .val (.int mode), .val (.int z1), .val (.int z2), .val (.int z3), .val (.int nn), .val (.long bt1), .second, .val (.long bt2), .second, .val (.long bt3), .second, .val (.long t3), .second, .val (.long e3), .second, .val (.ref ob), .unset, .unset] [(.long bt1), (.ref ob)])
                      refine hs.go (fun _ kk_ => XS.lload X2.here hx rfl (hb hby at_179) rfl  kk_) ?_
                      show G T2 (mkF m 181 #[.val (.long began), .second, .val (.long b1), .second, .val (.long b2), .second, .val (.long t1), .second, .val (.long t2), .second, .val (.int mode), .val (.int z1), .val (.int z2), .val (.int z3), .val (.int nn), .val (.long bt1), .second, .val (.long bt2), .second, .val (.long bt3), .second, .val (.long t3), .second, .val (.long e3), .second, .val (.ref ob), .unset, .unset] [(.long t1), (.long bt1), (.ref ob)])
                      refine rCallV hs X2 hx hZ (as' := [(.long bt1), (.long t1)]) (rm4 l Z a0 hw [] ob bt1 t1 (-1 : Int64) began h2 n0 Z0 E_ob g_ob F_beat_ob F_sign_ob) E_ob hown (hw _ (List.mem_of_getElem? (i := 24) rfl)) (hw _ (List.mem_of_getElem? (i := 25) rfl)) (hw _ (List.mem_of_getElem? (i := 27) rfl)) (hw _ (List.mem_of_getElem? (i := 26) rfl)) (hw _ (List.mem_of_getElem? (i := 2) rfl)) (hw _ (List.mem_of_getElem? (i := 28) rfl)) hy_4 rfl (by rw [hml]; rfl) [] (lenOf pd_2 rfl) rfl 0 (by show 2 * 0 + _ ≤ _; exact Nat.le_of_eq rfl) (hb hby at_181) (by decide) (by decide) (by decide) (by decide) (fun r5 T5 h5 X5 q5 => ?_)
                      obtain ⟨rfl, Kc5, E_ob, F_beat_ob, F_sign_ob⟩ := q5
                      have Z0 := Nat.le_trans Z0 Kc5.1
                      have O := O.keep Kc5 (allS g_ob all0)
                      show G T5 (mkF m 184 #[.val (.long began), .second, .val (.long b1), .second, .val (.long b2), .second, .val (.long t1), .second, .val (.long t2), .second, .val (.int mode), .val (.int z1), .val (.int z2), .val (.int z3), .val (.int nn), .val (.long bt1), .second, .val (.long bt2), .second, .val (.long bt3), .second, .val (.long t3), .second, .val (.long e3), .second, .val (.ref ob), .unset, .unset] [])
                      refine hs.go (fun _ kk_ => XS.iload X5.here hx rfl (hb hby at_184) rfl  kk_) ?_
                      show G T5 (mkF m 186 #[.val (.long began), .second, .val (.long b1), .second, .val (.long b2), .second, .val (.long t1), .second, .val (.long t2), .second, .val (.int mode), .val (.int z1), .val (.int z2), .val (.int z3), .val (.int nn), .val (.long bt1), .second, .val (.long bt2), .second, .val (.long bt3), .second, .val (.long t3), .second, .val (.long e3), .second, .val (.ref ob), .unset, .unset] [(.int nn)])
                      refine hs.go (fun _ kk_ => XS.iconst X5.here hx rfl (hb hby at_186) kk_) ?_
                      show G T5 (mkF m 187 #[.val (.long began), .second, .val (.long b1), .second, .val (.long b2), .second, .val (.long t1), .second, .val (.long t2), .second, .val (.int mode), .val (.int z1), .val (.int z2), .val (.int z3), .val (.int nn), .val (.long bt1), .second, .val (.long bt2), .second, .val (.long bt3), .second, .val (.long t3), .second, .val (.long e3), .second, .val (.ref ob), .unset, .unset] [(.int (2 : Int32)), (.int nn)])
                      by_cases c187 : nn < (2 : Int32)
                      · refine hs.go (fun _ kk_ => XS.icmpYes X5.here hx rfl (pc0 := 187) (pc' := 199) rfl (hb hby at_187) rfl (tlt c187).1 (by decide) (by decide) kk_) ?_
                        show G T5 (mkF m 199 #[.val (.long began), .second, .val (.long b1), .second, .val (.long b2), .second, .val (.long t1), .second, .val (.long t2), .second, .val (.int mode), .val (.int z1), .val (.int z2), .val (.int z3), .val (.int nn), .val (.long bt1), .second, .val (.long bt2), .second, .val (.long bt3), .second, .val (.long t3), .second, .val (.long e3), .second, .val (.ref ob), .unset, .unset] [])
                        refine hs.go (fun _ kk_ => XS.iload X5.here hx rfl (hb hby at_199) rfl  kk_) ?_
                        show G T5 (mkF m 201 #[.val (.long began), .second, .val (.long b1), .second, .val (.long b2), .second, .val (.long t1), .second, .val (.long t2), .second, .val (.int mode), .val (.int z1), .val (.int z2), .val (.int z3), .val (.int nn), .val (.long bt1), .second, .val (.long bt2), .second, .val (.long bt3), .second, .val (.long t3), .second, .val (.long e3), .second, .val (.ref ob), .unset, .unset] [(.int nn)])
                        refine hs.go (fun _ kk_ => XS.iconst X5.here hx rfl (hb hby at_201) kk_) ?_
                        show G T5 (mkF m 202 #[.val (.long began), .second, .val (.long b1), .second, .val (.long b2), .second, .val (.long t1), .second, .val (.long t2), .second, .val (.int mode), .val (.int z1), .val (.int z2), .val (.int z3), .val (.int nn), .val (.long bt1), .second, .val (.long bt2), .second, .val (.long bt3), .second, .val (.long t3), .second, .val (.long e3), .second, .val (.ref ob), .unset, .unset] [(.int (3 : Int32)), (.int nn)])
                        refine hs.go (fun _ kk_ => XS.icmpYes X5.here hx rfl (pc0 := 202) (pc' := 214) rfl (hb hby at_202) rfl (tlt (own_lt3 c187 : nn < (3 : Int32))).1 (by decide) (by decide) kk_) ?_
                        show G T5 (mkF m 214 #[.val (.long began), .second, .val (.long b1), .second, .val (.long b2), .second, .val (.long t1), .second, .val (.long t2), .second, .val (.int mode), .val (.int z1), .val (.int z2), .val (.int z3), .val (.int nn), .val (.long bt1), .second, .val (.long bt2), .second, .val (.long bt3), .second, .val (.long t3), .second, .val (.long e3), .second, .val (.ref ob), .unset, .unset] [])
                        refine rLdcL hs X5 hx hZ hown (hw _ (List.mem_of_getElem? (i := 14) rfl)) rfl (hb hby at_214) ?_
                        show G T5 (mkF m 217 #[.val (.long began), .second, .val (.long b1), .second, .val (.long b2), .second, .val (.long t1), .second, .val (.long t2), .second, .val (.int mode), .val (.int z1), .val (.int z2), .val (.int z3), .val (.int nn), .val (.long bt1), .second, .val (.long bt2), .second, .val (.long bt3), .second, .val (.long t3), .second, .val (.long e3), .second, .val (.ref ob), .unset, .unset] [(.long (5000000000 : Int64))])
                        refine hs.go (fun _ kk_ => XS.lstore X5.here hx rfl (hb hby at_217) rfl (l' := #[.val (.long began), .second, .val (.long b1), .second, .val (.long b2), .second, .val (.long t1), .second, .val (.long t2), .second, .val (.int mode), .val (.int z1), .val (.int z2), .val (.int z3), .val (.int nn), .val (.long bt1), .second, .val (.long bt2), .second, .val (.long bt3), .second, .val (.long t3), .second, .val (.long e3), .second, .val (.ref ob), .val (.long (5000000000 : Int64)), .second]) rfl kk_) ?_
                        show G T5 (mkF m 219 #[.val (.long began), .second, .val (.long b1), .second, .val (.long b2), .second, .val (.long t1), .second, .val (.long t2), .second, .val (.int mode), .val (.int z1), .val (.int z2), .val (.int z3), .val (.int nn), .val (.long bt1), .second, .val (.long bt2), .second, .val (.long bt3), .second, .val (.long t3), .second, .val (.long e3), .second, .val (.ref ob), .val (.long (5000000000 : Int64)), .second] [])
                        refine hs.go (fun _ kk_ => XS.aload X5.here hx rfl (hb hby at_219) rfl rfl kk_) ?_
                        show G T5 (mkF m 221 #[.val (.long began), .second, .val (.long b1), .second, .val (.long b2), .second, .val (.long t1), .second, .val (.long t2), .second, .val (.int mode), .val (.int z1), .val (.int z2), .val (.int z3), .val (.int nn), .val (.long bt1), .second, .val (.long bt2), .second, .val (.long bt3), .second, .val (.long t3), .second, .val (.long e3), .second, .val (.ref ob), .val (.long (5000000000 : Int64)), .second] [(.ref ob)])
                        refine hs.go (fun _ kk_ => XS.lload X5.here hx rfl (hb hby at_221) rfl  kk_) ?_
                        show G T5 (mkF m 223 #[.val (.long began), .second, .val (.long b1), .second, .val (.long b2), .second, .val (.long t1), .second, .val (.long t2), .second, .val (.int mode), .val (.int z1), .val (.int z2), .val (.int z3), .val (.int nn), .val (.long bt1), .second, .val (.long bt2), .second, .val (.long bt3), .second, .val (.long t3), .second, .val (.long e3), .second, .val (.ref ob), .val (.long (5000000000 : Int64)), .second] [(.long e3), (.ref ob)])
                        refine hs.go (fun _ kk_ => XS.lload X5.here hx rfl (hb hby at_223) rfl  kk_) ?_
                        show G T5 (mkF m 225 #[.val (.long began), .second, .val (.long b1), .second, .val (.long b2), .second, .val (.long t1), .second, .val (.long t2), .second, .val (.int mode), .val (.int z1), .val (.int z2), .val (.int z3), .val (.int nn), .val (.long bt1), .second, .val (.long bt2), .second, .val (.long bt3), .second, .val (.long t3), .second, .val (.long e3), .second, .val (.ref ob), .val (.long (5000000000 : Int64)), .second] [(.long (5000000000 : Int64)), (.long e3), (.ref ob)])
                        refine hs.go (fun _ kk_ => XS.ladd X5.here hx rfl (hb hby at_225) rfl kk_) ?_
                        show G T5 (mkF m 226 #[.val (.long began), .second, .val (.long b1), .second, .val (.long b2), .second, .val (.long t1), .second, .val (.long t2), .second, .val (.int mode), .val (.int z1), .val (.int z2), .val (.int z3), .val (.int nn), .val (.long bt1), .second, .val (.long bt2), .second, .val (.long bt3), .second, .val (.long t3), .second, .val (.long e3), .second, .val (.ref ob), .val (.long (5000000000 : Int64)), .second] [(.long (e3 + (5000000000 : Int64))), (.ref ob)])
                        refine rCallV hs X5 hx hZ (as' := [(.long (e3 + (5000000000 : Int64)))]) (rm3 l Z a0 hw [] ob (e3 + (5000000000 : Int64)) (fsg bt1 (-1 : Int64) began t1) h5 n0 Z0 F_sign_ob (S0.ext O.2)) E_ob hown (hw _ (List.mem_of_getElem? (i := 15) rfl)) (hw _ (List.mem_of_getElem? (i := 16) rfl)) (hw _ (List.mem_of_getElem? (i := 18) rfl)) (hw _ (List.mem_of_getElem? (i := 17) rfl)) (hw _ (List.mem_of_getElem? (i := 2) rfl)) (hw _ (List.mem_of_getElem? (i := 19) rfl)) hy_3 rfl (by rw [hml]; rfl) [] (lenOf pd_1 rfl) rfl 0 (by show 2 * 0 + _ ≤ _; exact Nat.le_of_eq rfl) (hb hby at_226) (by decide) (by decide) (by decide) (by decide) (fun r6 T6 h6 X6 q6 => ?_)
                        obtain ⟨rfl, qh6⟩ := q6
                        rw [qh6] at X6
                        show G T6 (mkF m 229 #[.val (.long began), .second, .val (.long b1), .second, .val (.long b2), .second, .val (.long t1), .second, .val (.long t2), .second, .val (.int mode), .val (.int z1), .val (.int z2), .val (.int z3), .val (.int nn), .val (.long bt1), .second, .val (.long bt2), .second, .val (.long bt3), .second, .val (.long t3), .second, .val (.long e3), .second, .val (.ref ob), .val (.long (5000000000 : Int64)), .second] [(.int (fov (e3 + (5000000000 : Int64)) (fsg bt1 (-1 : Int64) began t1)))])
                        refine hs.go (fun _ kk_ => XS.ifNo X6.here hx rfl (hb hby at_229) rfl ((if0 _ _).trans (teq (own_ov0 (((own_r hJ159).1 (own_lt3 c187)).trans (((own_r hJ141).1 c187).trans ((own_r hJ123).2 c172))) : (fov (e3 + (5000000000 : Int64)) (fsg bt1 (-1 : Int64) began t1)) = (0 : Int32))).2) kk_) ?_
                        show G T6 (mkF m 232 #[.val (.long began), .second, .val (.long b1), .second, .val (.long b2), .second, .val (.long t1), .second, .val (.long t2), .second, .val (.int mode), .val (.int z1), .val (.int z2), .val (.int z3), .val (.int nn), .val (.long bt1), .second, .val (.long bt2), .second, .val (.long bt3), .second, .val (.long t3), .second, .val (.long e3), .second, .val (.ref ob), .val (.long (5000000000 : Int64)), .second] [])
                        refine hs.go (fun _ kk_ => XS.aload X6.here hx rfl (hb hby at_232) rfl rfl kk_) ?_
                        show G T6 (mkF m 234 #[.val (.long began), .second, .val (.long b1), .second, .val (.long b2), .second, .val (.long t1), .second, .val (.long t2), .second, .val (.int mode), .val (.int z1), .val (.int z2), .val (.int z3), .val (.int nn), .val (.long bt1), .second, .val (.long bt2), .second, .val (.long bt3), .second, .val (.long t3), .second, .val (.long e3), .second, .val (.ref ob), .val (.long (5000000000 : Int64)), .second] [(.ref ob)])
                        refine hs.go (fun _ kk_ => XS.lload X6.here hx rfl (hb hby at_234) rfl  kk_) ?_
                        show G T6 (mkF m 236 #[.val (.long began), .second, .val (.long b1), .second, .val (.long b2), .second, .val (.long t1), .second, .val (.long t2), .second, .val (.int mode), .val (.int z1), .val (.int z2), .val (.int z3), .val (.int nn), .val (.long bt1), .second, .val (.long bt2), .second, .val (.long bt3), .second, .val (.long t3), .second, .val (.long e3), .second, .val (.ref ob), .val (.long (5000000000 : Int64)), .second] [(.long e3), (.ref ob)])
                        refine hs.go (fun _ kk_ => XS.lload X6.here hx rfl (hb hby at_236) rfl  kk_) ?_
                        show G T6 (mkF m 238 #[.val (.long began), .second, .val (.long b1), .second, .val (.long b2), .second, .val (.long t1), .second, .val (.long t2), .second, .val (.int mode), .val (.int z1), .val (.int z2), .val (.int z3), .val (.int nn), .val (.long bt1), .second, .val (.long bt2), .second, .val (.long bt3), .second, .val (.long t3), .second, .val (.long e3), .second, .val (.ref ob), .val (.long (5000000000 : Int64)), .second] [(.long (5000000000 : Int64)), (.long e3), (.ref ob)])
                        refine hs.go (fun _ kk_ => XS.ladd X6.here hx rfl (hb hby at_238) rfl kk_) ?_
                        show G T6 (mkF m 239 #[.val (.long began), .second, .val (.long b1), .second, .val (.long b2), .second, .val (.long t1), .second, .val (.long t2), .second, .val (.int mode), .val (.int z1), .val (.int z2), .val (.int z3), .val (.int nn), .val (.long bt1), .second, .val (.long bt2), .second, .val (.long bt3), .second, .val (.long t3), .second, .val (.long e3), .second, .val (.ref ob), .val (.long (5000000000 : Int64)), .second] [(.long (e3 + (5000000000 : Int64))), (.ref ob)])
                        refine hs.go (fun _ kk_ => XS.lconst X6.here hx rfl (hb hby at_239) kk_) ?_
                        show G T6 (mkF m 240 #[.val (.long began), .second, .val (.long b1), .second, .val (.long b2), .second, .val (.long t1), .second, .val (.long t2), .second, .val (.int mode), .val (.int z1), .val (.int z2), .val (.int z3), .val (.int nn), .val (.long bt1), .second, .val (.long bt2), .second, .val (.long bt3), .second, .val (.long t3), .second, .val (.long e3), .second, .val (.ref ob), .val (.long (5000000000 : Int64)), .second] [(.long (1 : Int64)), (.long (e3 + (5000000000 : Int64))), (.ref ob)])
                        refine hs.go (fun _ kk_ => XS.ladd X6.here hx rfl (hb hby at_240) rfl kk_) ?_
                        show G T6 (mkF m 241 #[.val (.long began), .second, .val (.long b1), .second, .val (.long b2), .second, .val (.long t1), .second, .val (.long t2), .second, .val (.int mode), .val (.int z1), .val (.int z2), .val (.int z3), .val (.int nn), .val (.long bt1), .second, .val (.long bt2), .second, .val (.long bt3), .second, .val (.long t3), .second, .val (.long e3), .second, .val (.ref ob), .val (.long (5000000000 : Int64)), .second] [(.long ((e3 + (5000000000 : Int64)) + (1 : Int64))), (.ref ob)])
                        refine rCallV hs X6 hx hZ (as' := [(.long ((e3 + (5000000000 : Int64)) + (1 : Int64)))]) (rm3 l Z a0 hw [] ob ((e3 + (5000000000 : Int64)) + (1 : Int64)) (fsg bt1 (-1 : Int64) began t1) h5 n0 Z0 F_sign_ob (S0.ext O.2)) E_ob hown (hw _ (List.mem_of_getElem? (i := 15) rfl)) (hw _ (List.mem_of_getElem? (i := 16) rfl)) (hw _ (List.mem_of_getElem? (i := 18) rfl)) (hw _ (List.mem_of_getElem? (i := 17) rfl)) (hw _ (List.mem_of_getElem? (i := 2) rfl)) (hw _ (List.mem_of_getElem? (i := 19) rfl)) hy_3 rfl (by rw [hml]; rfl) [] (lenOf pd_1 rfl) rfl 0 (by show 2 * 0 + _ ≤ _; exact Nat.le_of_eq rfl) (hb hby at_241) (by decide) (by decide) (by decide) (by decide) (fun r7 T7 h7 X7 q7 => ?_)
                        obtain ⟨rfl, qh7⟩ := q7
                        rw [qh7] at X7
                        show G T7 (mkF m 244 #[.val (.long began), .second, .val (.long b1), .second, .val (.long b2), .second, .val (.long t1), .second, .val (.long t2), .second, .val (.int mode), .val (.int z1), .val (.int z2), .val (.int z3), .val (.int nn), .val (.long bt1), .second, .val (.long bt2), .second, .val (.long bt3), .second, .val (.long t3), .second, .val (.long e3), .second, .val (.ref ob), .val (.long (5000000000 : Int64)), .second] [(.int (fov ((e3 + (5000000000 : Int64)) + (1 : Int64)) (fsg bt1 (-1 : Int64) began t1)))])
                        refine hs.go (fun _ kk_ => XS.ifNo X7.here hx rfl (hb hby at_244) rfl ((if0 _ _).trans (feq (own_ov1 (((own_r hJ159).1 (own_lt3 c187)).trans (((own_r hJ141).1 c187).trans ((own_r hJ123).2 c172))) : ¬ ((fov ((e3 + (5000000000 : Int64)) + (1 : Int64)) (fsg bt1 (-1 : Int64) began t1)) = (0 : Int32)))).1) kk_) ?_
                        show G T7 (mkF m 247 #[.val (.long began), .second, .val (.long b1), .second, .val (.long b2), .second, .val (.long t1), .second, .val (.long t2), .second, .val (.int mode), .val (.int z1), .val (.int z2), .val (.int z3), .val (.int nn), .val (.long bt1), .second, .val (.long bt2), .second, .val (.long bt3), .second, .val (.long t3), .second, .val (.long e3), .second, .val (.ref ob), .val (.long (5000000000 : Int64)), .second] [])
                        refine hs.go (fun _ kk_ => XS.iconst X7.here hx rfl (hb hby at_247) kk_) ?_
                        show G T7 (mkF m 248 #[.val (.long began), .second, .val (.long b1), .second, .val (.long b2), .second, .val (.long t1), .second, .val (.long t2), .second, .val (.int mode), .val (.int z1), .val (.int z2), .val (.int z3), .val (.int nn), .val (.long bt1), .second, .val (.long bt2), .second, .val (.long bt3), .second, .val (.long t3), .second, .val (.long e3), .second, .val (.ref ob), .val (.long (5000000000 : Int64)), .second] [(.int (1 : Int32))])
                        refine hs.go (fun _ kk_ => XS.goto X7.here hx rfl (pc0 := 248) (pc' := 252) rfl (hb hby at_248) (by decide) (by decide) kk_) ?_
                        show G T7 (mkF m 252 #[.val (.long began), .second, .val (.long b1), .second, .val (.long b2), .second, .val (.long t1), .second, .val (.long t2), .second, .val (.int mode), .val (.int z1), .val (.int z2), .val (.int z3), .val (.int nn), .val (.long bt1), .second, .val (.long bt2), .second, .val (.long bt3), .second, .val (.long t3), .second, .val (.long e3), .second, .val (.ref ob), .val (.long (5000000000 : Int64)), .second] [(.int (1 : Int32))])
                        exact rRetN fin X7 hx (by decide) (by decide) hret (by simp) (hb hby at_252) (z' := (1 : Int32)) (by decide) rfl
                      · refine hs.go (fun _ kk_ => XS.icmpNo X5.here hx rfl (hb hby at_187) rfl (flt c187).1 kk_) ?_
                        show G T5 (mkF m 190 #[.val (.long began), .second, .val (.long b1), .second, .val (.long b2), .second, .val (.long t1), .second, .val (.long t2), .second, .val (.int mode), .val (.int z1), .val (.int z2), .val (.int z3), .val (.int nn), .val (.long bt1), .second, .val (.long bt2), .second, .val (.long bt3), .second, .val (.long t3), .second, .val (.long e3), .second, .val (.ref ob), .unset, .unset] [])
                        refine hs.go (fun _ kk_ => XS.aload X5.here hx rfl (hb hby at_190) rfl rfl kk_) ?_
                        show G T5 (mkF m 192 #[.val (.long began), .second, .val (.long b1), .second, .val (.long b2), .second, .val (.long t1), .second, .val (.long t2), .second, .val (.int mode), .val (.int z1), .val (.int z2), .val (.int z3), .val (.int nn), .val (.long bt1), .second, .val (.long bt2), .second, .val (.long bt3), .second, .val (.long t3), .second, .val (.long e3), .second, .val (.ref ob), .unset, .unset] [(.ref ob)])
                        refine hs.go (fun _ kk_ => XS.lload X5.here hx rfl (hb hby at_192) rfl  kk_) ?_
                        show G T5 (mkF m 194 #[.val (.long began), .second, .val (.long b1), .second, .val (.long b2), .second, .val (.long t1), .second, .val (.long t2), .second, .val (.int mode), .val (.int z1), .val (.int z2), .val (.int z3), .val (.int nn), .val (.long bt1), .second, .val (.long bt2), .second, .val (.long bt3), .second, .val (.long t3), .second, .val (.long e3), .second, .val (.ref ob), .unset, .unset] [(.long bt2), (.ref ob)])
                        refine hs.go (fun _ kk_ => XS.lload X5.here hx rfl (hb hby at_194) rfl  kk_) ?_
                        show G T5 (mkF m 196 #[.val (.long began), .second, .val (.long b1), .second, .val (.long b2), .second, .val (.long t1), .second, .val (.long t2), .second, .val (.int mode), .val (.int z1), .val (.int z2), .val (.int z3), .val (.int nn), .val (.long bt1), .second, .val (.long bt2), .second, .val (.long bt3), .second, .val (.long t3), .second, .val (.long e3), .second, .val (.ref ob), .unset, .unset] [(.long t2), (.long bt2), (.ref ob)])
                        refine rCallV hs X5 hx hZ (as' := [(.long bt2), (.long t2)]) (rm4 l Z a0 hw [] ob bt2 t2 bt1 (fsg bt1 (-1 : Int64) began t1) h5 n0 Z0 E_ob g_ob F_beat_ob F_sign_ob) E_ob hown (hw _ (List.mem_of_getElem? (i := 24) rfl)) (hw _ (List.mem_of_getElem? (i := 25) rfl)) (hw _ (List.mem_of_getElem? (i := 27) rfl)) (hw _ (List.mem_of_getElem? (i := 26) rfl)) (hw _ (List.mem_of_getElem? (i := 2) rfl)) (hw _ (List.mem_of_getElem? (i := 28) rfl)) hy_4 rfl (by rw [hml]; rfl) [] (lenOf pd_2 rfl) rfl 0 (by show 2 * 0 + _ ≤ _; exact Nat.le_of_eq rfl) (hb hby at_196) (by decide) (by decide) (by decide) (by decide) (fun r8 T8 h8 X8 q8 => ?_)
                        obtain ⟨rfl, Kc8, E_ob, F_beat_ob, F_sign_ob⟩ := q8
                        have Z0 := Nat.le_trans Z0 Kc8.1
                        have O := O.keep Kc8 (allS g_ob all0)
                        show G T8 (mkF m 199 #[.val (.long began), .second, .val (.long b1), .second, .val (.long b2), .second, .val (.long t1), .second, .val (.long t2), .second, .val (.int mode), .val (.int z1), .val (.int z2), .val (.int z3), .val (.int nn), .val (.long bt1), .second, .val (.long bt2), .second, .val (.long bt3), .second, .val (.long t3), .second, .val (.long e3), .second, .val (.ref ob), .unset, .unset] [])
                        refine hs.go (fun _ kk_ => XS.iload X8.here hx rfl (hb hby at_199) rfl  kk_) ?_
                        show G T8 (mkF m 201 #[.val (.long began), .second, .val (.long b1), .second, .val (.long b2), .second, .val (.long t1), .second, .val (.long t2), .second, .val (.int mode), .val (.int z1), .val (.int z2), .val (.int z3), .val (.int nn), .val (.long bt1), .second, .val (.long bt2), .second, .val (.long bt3), .second, .val (.long t3), .second, .val (.long e3), .second, .val (.ref ob), .unset, .unset] [(.int nn)])
                        refine hs.go (fun _ kk_ => XS.iconst X8.here hx rfl (hb hby at_201) kk_) ?_
                        show G T8 (mkF m 202 #[.val (.long began), .second, .val (.long b1), .second, .val (.long b2), .second, .val (.long t1), .second, .val (.long t2), .second, .val (.int mode), .val (.int z1), .val (.int z2), .val (.int z3), .val (.int nn), .val (.long bt1), .second, .val (.long bt2), .second, .val (.long bt3), .second, .val (.long t3), .second, .val (.long e3), .second, .val (.ref ob), .unset, .unset] [(.int (3 : Int32)), (.int nn)])
                        by_cases c202 : nn < (3 : Int32)
                        · refine hs.go (fun _ kk_ => XS.icmpYes X8.here hx rfl (pc0 := 202) (pc' := 214) rfl (hb hby at_202) rfl (tlt c202).1 (by decide) (by decide) kk_) ?_
                          show G T8 (mkF m 214 #[.val (.long began), .second, .val (.long b1), .second, .val (.long b2), .second, .val (.long t1), .second, .val (.long t2), .second, .val (.int mode), .val (.int z1), .val (.int z2), .val (.int z3), .val (.int nn), .val (.long bt1), .second, .val (.long bt2), .second, .val (.long bt3), .second, .val (.long t3), .second, .val (.long e3), .second, .val (.ref ob), .unset, .unset] [])
                          refine rLdcL hs X8 hx hZ hown (hw _ (List.mem_of_getElem? (i := 14) rfl)) rfl (hb hby at_214) ?_
                          show G T8 (mkF m 217 #[.val (.long began), .second, .val (.long b1), .second, .val (.long b2), .second, .val (.long t1), .second, .val (.long t2), .second, .val (.int mode), .val (.int z1), .val (.int z2), .val (.int z3), .val (.int nn), .val (.long bt1), .second, .val (.long bt2), .second, .val (.long bt3), .second, .val (.long t3), .second, .val (.long e3), .second, .val (.ref ob), .unset, .unset] [(.long (5000000000 : Int64))])
                          refine hs.go (fun _ kk_ => XS.lstore X8.here hx rfl (hb hby at_217) rfl (l' := #[.val (.long began), .second, .val (.long b1), .second, .val (.long b2), .second, .val (.long t1), .second, .val (.long t2), .second, .val (.int mode), .val (.int z1), .val (.int z2), .val (.int z3), .val (.int nn), .val (.long bt1), .second, .val (.long bt2), .second, .val (.long bt3), .second, .val (.long t3), .second, .val (.long e3), .second, .val (.ref ob), .val (.long (5000000000 : Int64)), .second]) rfl kk_) ?_
                          show G T8 (mkF m 219 #[.val (.long began), .second, .val (.long b1), .second, .val (.long b2), .second, .val (.long t1), .second, .val (.long t2), .second, .val (.int mode), .val (.int z1), .val (.int z2), .val (.int z3), .val (.int nn), .val (.long bt1), .second, .val (.long bt2), .second, .val (.long bt3), .second, .val (.long t3), .second, .val (.long e3), .second, .val (.ref ob), .val (.long (5000000000 : Int64)), .second] [])
                          refine hs.go (fun _ kk_ => XS.aload X8.here hx rfl (hb hby at_219) rfl rfl kk_) ?_
                          show G T8 (mkF m 221 #[.val (.long began), .second, .val (.long b1), .second, .val (.long b2), .second, .val (.long t1), .second, .val (.long t2), .second, .val (.int mode), .val (.int z1), .val (.int z2), .val (.int z3), .val (.int nn), .val (.long bt1), .second, .val (.long bt2), .second, .val (.long bt3), .second, .val (.long t3), .second, .val (.long e3), .second, .val (.ref ob), .val (.long (5000000000 : Int64)), .second] [(.ref ob)])
                          refine hs.go (fun _ kk_ => XS.lload X8.here hx rfl (hb hby at_221) rfl  kk_) ?_
                          show G T8 (mkF m 223 #[.val (.long began), .second, .val (.long b1), .second, .val (.long b2), .second, .val (.long t1), .second, .val (.long t2), .second, .val (.int mode), .val (.int z1), .val (.int z2), .val (.int z3), .val (.int nn), .val (.long bt1), .second, .val (.long bt2), .second, .val (.long bt3), .second, .val (.long t3), .second, .val (.long e3), .second, .val (.ref ob), .val (.long (5000000000 : Int64)), .second] [(.long e3), (.ref ob)])
                          refine hs.go (fun _ kk_ => XS.lload X8.here hx rfl (hb hby at_223) rfl  kk_) ?_
                          show G T8 (mkF m 225 #[.val (.long began), .second, .val (.long b1), .second, .val (.long b2), .second, .val (.long t1), .second, .val (.long t2), .second, .val (.int mode), .val (.int z1), .val (.int z2), .val (.int z3), .val (.int nn), .val (.long bt1), .second, .val (.long bt2), .second, .val (.long bt3), .second, .val (.long t3), .second, .val (.long e3), .second, .val (.ref ob), .val (.long (5000000000 : Int64)), .second] [(.long (5000000000 : Int64)), (.long e3), (.ref ob)])
                          refine hs.go (fun _ kk_ => XS.ladd X8.here hx rfl (hb hby at_225) rfl kk_) ?_
                          show G T8 (mkF m 226 #[.val (.long began), .second, .val (.long b1), .second, .val (.long b2), .second, .val (.long t1), .second, .val (.long t2), .second, .val (.int mode), .val (.int z1), .val (.int z2), .val (.int z3), .val (.int nn), .val (.long bt1), .second, .val (.long bt2), .second, .val (.long bt3), .second, .val (.long t3), .second, .val (.long e3), .second, .val (.ref ob), .val (.long (5000000000 : Int64)), .second] [(.long (e3 + (5000000000 : Int64))), (.ref ob)])
                          refine rCallV hs X8 hx hZ (as' := [(.long (e3 + (5000000000 : Int64)))]) (rm3 l Z a0 hw [] ob (e3 + (5000000000 : Int64)) (fsg bt2 bt1 (fsg bt1 (-1 : Int64) began t1) t2) h8 n0 Z0 F_sign_ob (S0.ext O.2)) E_ob hown (hw _ (List.mem_of_getElem? (i := 15) rfl)) (hw _ (List.mem_of_getElem? (i := 16) rfl)) (hw _ (List.mem_of_getElem? (i := 18) rfl)) (hw _ (List.mem_of_getElem? (i := 17) rfl)) (hw _ (List.mem_of_getElem? (i := 2) rfl)) (hw _ (List.mem_of_getElem? (i := 19) rfl)) hy_3 rfl (by rw [hml]; rfl) [] (lenOf pd_1 rfl) rfl 0 (by show 2 * 0 + _ ≤ _; exact Nat.le_of_eq rfl) (hb hby at_226) (by decide) (by decide) (by decide) (by decide) (fun r9 T9 h9 X9 q9 => ?_)
                          obtain ⟨rfl, qh9⟩ := q9
                          rw [qh9] at X9
                          show G T9 (mkF m 229 #[.val (.long began), .second, .val (.long b1), .second, .val (.long b2), .second, .val (.long t1), .second, .val (.long t2), .second, .val (.int mode), .val (.int z1), .val (.int z2), .val (.int z3), .val (.int nn), .val (.long bt1), .second, .val (.long bt2), .second, .val (.long bt3), .second, .val (.long t3), .second, .val (.long e3), .second, .val (.ref ob), .val (.long (5000000000 : Int64)), .second] [(.int (fov (e3 + (5000000000 : Int64)) (fsg bt2 bt1 (fsg bt1 (-1 : Int64) began t1) t2)))])
                          refine hs.go (fun _ kk_ => XS.ifNo X9.here hx rfl (hb hby at_229) rfl ((if0 _ _).trans (teq (own_ov0 (((own_r hJ159).1 c202).trans (((own_r hJ141).2 c187).trans (by rw [(own_r hJ123).2 c172]))) : (fov (e3 + (5000000000 : Int64)) (fsg bt2 bt1 (fsg bt1 (-1 : Int64) began t1) t2)) = (0 : Int32))).2) kk_) ?_
                          show G T9 (mkF m 232 #[.val (.long began), .second, .val (.long b1), .second, .val (.long b2), .second, .val (.long t1), .second, .val (.long t2), .second, .val (.int mode), .val (.int z1), .val (.int z2), .val (.int z3), .val (.int nn), .val (.long bt1), .second, .val (.long bt2), .second, .val (.long bt3), .second, .val (.long t3), .second, .val (.long e3), .second, .val (.ref ob), .val (.long (5000000000 : Int64)), .second] [])
                          refine hs.go (fun _ kk_ => XS.aload X9.here hx rfl (hb hby at_232) rfl rfl kk_) ?_
                          show G T9 (mkF m 234 #[.val (.long began), .second, .val (.long b1), .second, .val (.long b2), .second, .val (.long t1), .second, .val (.long t2), .second, .val (.int mode), .val (.int z1), .val (.int z2), .val (.int z3), .val (.int nn), .val (.long bt1), .second, .val (.long bt2), .second, .val (.long bt3), .second, .val (.long t3), .second, .val (.long e3), .second, .val (.ref ob), .val (.long (5000000000 : Int64)), .second] [(.ref ob)])
                          refine hs.go (fun _ kk_ => XS.lload X9.here hx rfl (hb hby at_234) rfl  kk_) ?_
                          show G T9 (mkF m 236 #[.val (.long began), .second, .val (.long b1), .second, .val (.long b2), .second, .val (.long t1), .second, .val (.long t2), .second, .val (.int mode), .val (.int z1), .val (.int z2), .val (.int z3), .val (.int nn), .val (.long bt1), .second, .val (.long bt2), .second, .val (.long bt3), .second, .val (.long t3), .second, .val (.long e3), .second, .val (.ref ob), .val (.long (5000000000 : Int64)), .second] [(.long e3), (.ref ob)])
                          refine hs.go (fun _ kk_ => XS.lload X9.here hx rfl (hb hby at_236) rfl  kk_) ?_
                          show G T9 (mkF m 238 #[.val (.long began), .second, .val (.long b1), .second, .val (.long b2), .second, .val (.long t1), .second, .val (.long t2), .second, .val (.int mode), .val (.int z1), .val (.int z2), .val (.int z3), .val (.int nn), .val (.long bt1), .second, .val (.long bt2), .second, .val (.long bt3), .second, .val (.long t3), .second, .val (.long e3), .second, .val (.ref ob), .val (.long (5000000000 : Int64)), .second] [(.long (5000000000 : Int64)), (.long e3), (.ref ob)])
                          refine hs.go (fun _ kk_ => XS.ladd X9.here hx rfl (hb hby at_238) rfl kk_) ?_
                          show G T9 (mkF m 239 #[.val (.long began), .second, .val (.long b1), .second, .val (.long b2), .second, .val (.long t1), .second, .val (.long t2), .second, .val (.int mode), .val (.int z1), .val (.int z2), .val (.int z3), .val (.int nn), .val (.long bt1), .second, .val (.long bt2), .second, .val (.long bt3), .second, .val (.long t3), .second, .val (.long e3), .second, .val (.ref ob), .val (.long (5000000000 : Int64)), .second] [(.long (e3 + (5000000000 : Int64))), (.ref ob)])
                          refine hs.go (fun _ kk_ => XS.lconst X9.here hx rfl (hb hby at_239) kk_) ?_
                          show G T9 (mkF m 240 #[.val (.long began), .second, .val (.long b1), .second, .val (.long b2), .second, .val (.long t1), .second, .val (.long t2), .second, .val (.int mode), .val (.int z1), .val (.int z2), .val (.int z3), .val (.int nn), .val (.long bt1), .second, .val (.long bt2), .second, .val (.long bt3), .second, .val (.long t3), .second, .val (.long e3), .second, .val (.ref ob), .val (.long (5000000000 : Int64)), .second] [(.long (1 : Int64)), (.long (e3 + (5000000000 : Int64))), (.ref ob)])
                          refine hs.go (fun _ kk_ => XS.ladd X9.here hx rfl (hb hby at_240) rfl kk_) ?_
                          show G T9 (mkF m 241 #[.val (.long began), .second, .val (.long b1), .second, .val (.long b2), .second, .val (.long t1), .second, .val (.long t2), .second, .val (.int mode), .val (.int z1), .val (.int z2), .val (.int z3), .val (.int nn), .val (.long bt1), .second, .val (.long bt2), .second, .val (.long bt3), .second, .val (.long t3), .second, .val (.long e3), .second, .val (.ref ob), .val (.long (5000000000 : Int64)), .second] [(.long ((e3 + (5000000000 : Int64)) + (1 : Int64))), (.ref ob)])
                          refine rCallV hs X9 hx hZ (as' := [(.long ((e3 + (5000000000 : Int64)) + (1 : Int64)))]) (rm3 l Z a0 hw [] ob ((e3 + (5000000000 : Int64)) + (1 : Int64)) (fsg bt2 bt1 (fsg bt1 (-1 : Int64) began t1) t2) h8 n0 Z0 F_sign_ob (S0.ext O.2)) E_ob hown (hw _ (List.mem_of_getElem? (i := 15) rfl)) (hw _ (List.mem_of_getElem? (i := 16) rfl)) (hw _ (List.mem_of_getElem? (i := 18) rfl)) (hw _ (List.mem_of_getElem? (i := 17) rfl)) (hw _ (List.mem_of_getElem? (i := 2) rfl)) (hw _ (List.mem_of_getElem? (i := 19) rfl)) hy_3 rfl (by rw [hml]; rfl) [] (lenOf pd_1 rfl) rfl 0 (by show 2 * 0 + _ ≤ _; exact Nat.le_of_eq rfl) (hb hby at_241) (by decide) (by decide) (by decide) (by decide) (fun r10 T10 h10 X10 q10 => ?_)
                          obtain ⟨rfl, qh10⟩ := q10
                          rw [qh10] at X10
                          show G T10 (mkF m 244 #[.val (.long began), .second, .val (.long b1), .second, .val (.long b2), .second, .val (.long t1), .second, .val (.long t2), .second, .val (.int mode), .val (.int z1), .val (.int z2), .val (.int z3), .val (.int nn), .val (.long bt1), .second, .val (.long bt2), .second, .val (.long bt3), .second, .val (.long t3), .second, .val (.long e3), .second, .val (.ref ob), .val (.long (5000000000 : Int64)), .second] [(.int (fov ((e3 + (5000000000 : Int64)) + (1 : Int64)) (fsg bt2 bt1 (fsg bt1 (-1 : Int64) began t1) t2)))])
                          refine hs.go (fun _ kk_ => XS.ifNo X10.here hx rfl (hb hby at_244) rfl ((if0 _ _).trans (feq (own_ov1 (((own_r hJ159).1 c202).trans (((own_r hJ141).2 c187).trans (by rw [(own_r hJ123).2 c172]))) : ¬ ((fov ((e3 + (5000000000 : Int64)) + (1 : Int64)) (fsg bt2 bt1 (fsg bt1 (-1 : Int64) began t1) t2)) = (0 : Int32)))).1) kk_) ?_
                          show G T10 (mkF m 247 #[.val (.long began), .second, .val (.long b1), .second, .val (.long b2), .second, .val (.long t1), .second, .val (.long t2), .second, .val (.int mode), .val (.int z1), .val (.int z2), .val (.int z3), .val (.int nn), .val (.long bt1), .second, .val (.long bt2), .second, .val (.long bt3), .second, .val (.long t3), .second, .val (.long e3), .second, .val (.ref ob), .val (.long (5000000000 : Int64)), .second] [])
                          refine hs.go (fun _ kk_ => XS.iconst X10.here hx rfl (hb hby at_247) kk_) ?_
                          show G T10 (mkF m 248 #[.val (.long began), .second, .val (.long b1), .second, .val (.long b2), .second, .val (.long t1), .second, .val (.long t2), .second, .val (.int mode), .val (.int z1), .val (.int z2), .val (.int z3), .val (.int nn), .val (.long bt1), .second, .val (.long bt2), .second, .val (.long bt3), .second, .val (.long t3), .second, .val (.long e3), .second, .val (.ref ob), .val (.long (5000000000 : Int64)), .second] [(.int (1 : Int32))])
                          refine hs.go (fun _ kk_ => XS.goto X10.here hx rfl (pc0 := 248) (pc' := 252) rfl (hb hby at_248) (by decide) (by decide) kk_) ?_
                          show G T10 (mkF m 252 #[.val (.long began), .second, .val (.long b1), .second, .val (.long b2), .second, .val (.long t1), .second, .val (.long t2), .second, .val (.int mode), .val (.int z1), .val (.int z2), .val (.int z3), .val (.int nn), .val (.long bt1), .second, .val (.long bt2), .second, .val (.long bt3), .second, .val (.long t3), .second, .val (.long e3), .second, .val (.ref ob), .val (.long (5000000000 : Int64)), .second] [(.int (1 : Int32))])
                          exact rRetN fin X10 hx (by decide) (by decide) hret (by simp) (hb hby at_252) (z' := (1 : Int32)) (by decide) rfl
                        · refine hs.go (fun _ kk_ => XS.icmpNo X8.here hx rfl (hb hby at_202) rfl (flt c202).1 kk_) ?_
                          show G T8 (mkF m 205 #[.val (.long began), .second, .val (.long b1), .second, .val (.long b2), .second, .val (.long t1), .second, .val (.long t2), .second, .val (.int mode), .val (.int z1), .val (.int z2), .val (.int z3), .val (.int nn), .val (.long bt1), .second, .val (.long bt2), .second, .val (.long bt3), .second, .val (.long t3), .second, .val (.long e3), .second, .val (.ref ob), .unset, .unset] [])
                          refine hs.go (fun _ kk_ => XS.aload X8.here hx rfl (hb hby at_205) rfl rfl kk_) ?_
                          show G T8 (mkF m 207 #[.val (.long began), .second, .val (.long b1), .second, .val (.long b2), .second, .val (.long t1), .second, .val (.long t2), .second, .val (.int mode), .val (.int z1), .val (.int z2), .val (.int z3), .val (.int nn), .val (.long bt1), .second, .val (.long bt2), .second, .val (.long bt3), .second, .val (.long t3), .second, .val (.long e3), .second, .val (.ref ob), .unset, .unset] [(.ref ob)])
                          refine hs.go (fun _ kk_ => XS.lload X8.here hx rfl (hb hby at_207) rfl  kk_) ?_
                          show G T8 (mkF m 209 #[.val (.long began), .second, .val (.long b1), .second, .val (.long b2), .second, .val (.long t1), .second, .val (.long t2), .second, .val (.int mode), .val (.int z1), .val (.int z2), .val (.int z3), .val (.int nn), .val (.long bt1), .second, .val (.long bt2), .second, .val (.long bt3), .second, .val (.long t3), .second, .val (.long e3), .second, .val (.ref ob), .unset, .unset] [(.long bt3), (.ref ob)])
                          refine hs.go (fun _ kk_ => XS.lload X8.here hx rfl (hb hby at_209) rfl  kk_) ?_
                          show G T8 (mkF m 211 #[.val (.long began), .second, .val (.long b1), .second, .val (.long b2), .second, .val (.long t1), .second, .val (.long t2), .second, .val (.int mode), .val (.int z1), .val (.int z2), .val (.int z3), .val (.int nn), .val (.long bt1), .second, .val (.long bt2), .second, .val (.long bt3), .second, .val (.long t3), .second, .val (.long e3), .second, .val (.ref ob), .unset, .unset] [(.long t3), (.long bt3), (.ref ob)])
                          refine rCallV hs X8 hx hZ (as' := [(.long bt3), (.long t3)]) (rm4 l Z a0 hw [] ob bt3 t3 bt2 (fsg bt2 bt1 (fsg bt1 (-1 : Int64) began t1) t2) h8 n0 Z0 E_ob g_ob F_beat_ob F_sign_ob) E_ob hown (hw _ (List.mem_of_getElem? (i := 24) rfl)) (hw _ (List.mem_of_getElem? (i := 25) rfl)) (hw _ (List.mem_of_getElem? (i := 27) rfl)) (hw _ (List.mem_of_getElem? (i := 26) rfl)) (hw _ (List.mem_of_getElem? (i := 2) rfl)) (hw _ (List.mem_of_getElem? (i := 28) rfl)) hy_4 rfl (by rw [hml]; rfl) [] (lenOf pd_2 rfl) rfl 0 (by show 2 * 0 + _ ≤ _; exact Nat.le_of_eq rfl) (hb hby at_211) (by decide) (by decide) (by decide) (by decide) (fun r11 T11 h11 X11 q11 => ?_)
                          obtain ⟨rfl, Kc11, E_ob, F_beat_ob, F_sign_ob⟩ := q11
                          have Z0 := Nat.le_trans Z0 Kc11.1
                          have O := O.keep Kc11 (allS g_ob all0)
                          show G T11 (mkF m 214 #[.val (.long began), .second, .val (.long b1), .second, .val (.long b2), .second, .val (.long t1), .second, .val (.long t2), .second, .val (.int mode), .val (.int z1), .val (.int z2), .val (.int z3), .val (.int nn), .val (.long bt1), .second, .val (.long bt2), .second, .val (.long bt3), .second, .val (.long t3), .second, .val (.long e3), .second, .val (.ref ob), .unset, .unset] [])
                          refine rLdcL hs X11 hx hZ hown (hw _ (List.mem_of_getElem? (i := 14) rfl)) rfl (hb hby at_214) ?_
                          show G T11 (mkF m 217 #[.val (.long began), .second, .val (.long b1), .second, .val (.long b2), .second, .val (.long t1), .second, .val (.long t2), .second, .val (.int mode), .val (.int z1), .val (.int z2), .val (.int z3), .val (.int nn), .val (.long bt1), .second, .val (.long bt2), .second, .val (.long bt3), .second, .val (.long t3), .second, .val (.long e3), .second, .val (.ref ob), .unset, .unset] [(.long (5000000000 : Int64))])
                          refine hs.go (fun _ kk_ => XS.lstore X11.here hx rfl (hb hby at_217) rfl (l' := #[.val (.long began), .second, .val (.long b1), .second, .val (.long b2), .second, .val (.long t1), .second, .val (.long t2), .second, .val (.int mode), .val (.int z1), .val (.int z2), .val (.int z3), .val (.int nn), .val (.long bt1), .second, .val (.long bt2), .second, .val (.long bt3), .second, .val (.long t3), .second, .val (.long e3), .second, .val (.ref ob), .val (.long (5000000000 : Int64)), .second]) rfl kk_) ?_
                          show G T11 (mkF m 219 #[.val (.long began), .second, .val (.long b1), .second, .val (.long b2), .second, .val (.long t1), .second, .val (.long t2), .second, .val (.int mode), .val (.int z1), .val (.int z2), .val (.int z3), .val (.int nn), .val (.long bt1), .second, .val (.long bt2), .second, .val (.long bt3), .second, .val (.long t3), .second, .val (.long e3), .second, .val (.ref ob), .val (.long (5000000000 : Int64)), .second] [])
                          refine hs.go (fun _ kk_ => XS.aload X11.here hx rfl (hb hby at_219) rfl rfl kk_) ?_
                          show G T11 (mkF m 221 #[.val (.long began), .second, .val (.long b1), .second, .val (.long b2), .second, .val (.long t1), .second, .val (.long t2), .second, .val (.int mode), .val (.int z1), .val (.int z2), .val (.int z3), .val (.int nn), .val (.long bt1), .second, .val (.long bt2), .second, .val (.long bt3), .second, .val (.long t3), .second, .val (.long e3), .second, .val (.ref ob), .val (.long (5000000000 : Int64)), .second] [(.ref ob)])
                          refine hs.go (fun _ kk_ => XS.lload X11.here hx rfl (hb hby at_221) rfl  kk_) ?_
                          show G T11 (mkF m 223 #[.val (.long began), .second, .val (.long b1), .second, .val (.long b2), .second, .val (.long t1), .second, .val (.long t2), .second, .val (.int mode), .val (.int z1), .val (.int z2), .val (.int z3), .val (.int nn), .val (.long bt1), .second, .val (.long bt2), .second, .val (.long bt3), .second, .val (.long t3), .second, .val (.long e3), .second, .val (.ref ob), .val (.long (5000000000 : Int64)), .second] [(.long e3), (.ref ob)])
                          refine hs.go (fun _ kk_ => XS.lload X11.here hx rfl (hb hby at_223) rfl  kk_) ?_
                          show G T11 (mkF m 225 #[.val (.long began), .second, .val (.long b1), .second, .val (.long b2), .second, .val (.long t1), .second, .val (.long t2), .second, .val (.int mode), .val (.int z1), .val (.int z2), .val (.int z3), .val (.int nn), .val (.long bt1), .second, .val (.long bt2), .second, .val (.long bt3), .second, .val (.long t3), .second, .val (.long e3), .second, .val (.ref ob), .val (.long (5000000000 : Int64)), .second] [(.long (5000000000 : Int64)), (.long e3), (.ref ob)])
                          refine hs.go (fun _ kk_ => XS.ladd X11.here hx rfl (hb hby at_225) rfl kk_) ?_
                          show G T11 (mkF m 226 #[.val (.long began), .second, .val (.long b1), .second, .val (.long b2), .second, .val (.long t1), .second, .val (.long t2), .second, .val (.int mode), .val (.int z1), .val (.int z2), .val (.int z3), .val (.int nn), .val (.long bt1), .second, .val (.long bt2), .second, .val (.long bt3), .second, .val (.long t3), .second, .val (.long e3), .second, .val (.ref ob), .val (.long (5000000000 : Int64)), .second] [(.long (e3 + (5000000000 : Int64))), (.ref ob)])
                          refine rCallV hs X11 hx hZ (as' := [(.long (e3 + (5000000000 : Int64)))]) (rm3 l Z a0 hw [] ob (e3 + (5000000000 : Int64)) (fsg bt3 bt2 (fsg bt2 bt1 (fsg bt1 (-1 : Int64) began t1) t2) t3) h11 n0 Z0 F_sign_ob (S0.ext O.2)) E_ob hown (hw _ (List.mem_of_getElem? (i := 15) rfl)) (hw _ (List.mem_of_getElem? (i := 16) rfl)) (hw _ (List.mem_of_getElem? (i := 18) rfl)) (hw _ (List.mem_of_getElem? (i := 17) rfl)) (hw _ (List.mem_of_getElem? (i := 2) rfl)) (hw _ (List.mem_of_getElem? (i := 19) rfl)) hy_3 rfl (by rw [hml]; rfl) [] (lenOf pd_1 rfl) rfl 0 (by show 2 * 0 + _ ≤ _; exact Nat.le_of_eq rfl) (hb hby at_226) (by decide) (by decide) (by decide) (by decide) (fun r12 T12 h12 X12 q12 => ?_)
                          obtain ⟨rfl, qh12⟩ := q12
                          rw [qh12] at X12
                          show G T12 (mkF m 229 #[.val (.long began), .second, .val (.long b1), .second, .val (.long b2), .second, .val (.long t1), .second, .val (.long t2), .second, .val (.int mode), .val (.int z1), .val (.int z2), .val (.int z3), .val (.int nn), .val (.long bt1), .second, .val (.long bt2), .second, .val (.long bt3), .second, .val (.long t3), .second, .val (.long e3), .second, .val (.ref ob), .val (.long (5000000000 : Int64)), .second] [(.int (fov (e3 + (5000000000 : Int64)) (fsg bt3 bt2 (fsg bt2 bt1 (fsg bt1 (-1 : Int64) began t1) t2) t3)))])
                          refine hs.go (fun _ kk_ => XS.ifNo X12.here hx rfl (hb hby at_229) rfl ((if0 _ _).trans (teq (own_ov0 (((own_r hJ159).2 c202).trans (by rw [(own_r hJ141).2 c187, (own_r hJ123).2 c172])) : (fov (e3 + (5000000000 : Int64)) (fsg bt3 bt2 (fsg bt2 bt1 (fsg bt1 (-1 : Int64) began t1) t2) t3)) = (0 : Int32))).2) kk_) ?_
                          show G T12 (mkF m 232 #[.val (.long began), .second, .val (.long b1), .second, .val (.long b2), .second, .val (.long t1), .second, .val (.long t2), .second, .val (.int mode), .val (.int z1), .val (.int z2), .val (.int z3), .val (.int nn), .val (.long bt1), .second, .val (.long bt2), .second, .val (.long bt3), .second, .val (.long t3), .second, .val (.long e3), .second, .val (.ref ob), .val (.long (5000000000 : Int64)), .second] [])
                          refine hs.go (fun _ kk_ => XS.aload X12.here hx rfl (hb hby at_232) rfl rfl kk_) ?_
                          show G T12 (mkF m 234 #[.val (.long began), .second, .val (.long b1), .second, .val (.long b2), .second, .val (.long t1), .second, .val (.long t2), .second, .val (.int mode), .val (.int z1), .val (.int z2), .val (.int z3), .val (.int nn), .val (.long bt1), .second, .val (.long bt2), .second, .val (.long bt3), .second, .val (.long t3), .second, .val (.long e3), .second, .val (.ref ob), .val (.long (5000000000 : Int64)), .second] [(.ref ob)])
                          refine hs.go (fun _ kk_ => XS.lload X12.here hx rfl (hb hby at_234) rfl  kk_) ?_
                          show G T12 (mkF m 236 #[.val (.long began), .second, .val (.long b1), .second, .val (.long b2), .second, .val (.long t1), .second, .val (.long t2), .second, .val (.int mode), .val (.int z1), .val (.int z2), .val (.int z3), .val (.int nn), .val (.long bt1), .second, .val (.long bt2), .second, .val (.long bt3), .second, .val (.long t3), .second, .val (.long e3), .second, .val (.ref ob), .val (.long (5000000000 : Int64)), .second] [(.long e3), (.ref ob)])
                          refine hs.go (fun _ kk_ => XS.lload X12.here hx rfl (hb hby at_236) rfl  kk_) ?_
                          show G T12 (mkF m 238 #[.val (.long began), .second, .val (.long b1), .second, .val (.long b2), .second, .val (.long t1), .second, .val (.long t2), .second, .val (.int mode), .val (.int z1), .val (.int z2), .val (.int z3), .val (.int nn), .val (.long bt1), .second, .val (.long bt2), .second, .val (.long bt3), .second, .val (.long t3), .second, .val (.long e3), .second, .val (.ref ob), .val (.long (5000000000 : Int64)), .second] [(.long (5000000000 : Int64)), (.long e3), (.ref ob)])
                          refine hs.go (fun _ kk_ => XS.ladd X12.here hx rfl (hb hby at_238) rfl kk_) ?_
                          show G T12 (mkF m 239 #[.val (.long began), .second, .val (.long b1), .second, .val (.long b2), .second, .val (.long t1), .second, .val (.long t2), .second, .val (.int mode), .val (.int z1), .val (.int z2), .val (.int z3), .val (.int nn), .val (.long bt1), .second, .val (.long bt2), .second, .val (.long bt3), .second, .val (.long t3), .second, .val (.long e3), .second, .val (.ref ob), .val (.long (5000000000 : Int64)), .second] [(.long (e3 + (5000000000 : Int64))), (.ref ob)])
                          refine hs.go (fun _ kk_ => XS.lconst X12.here hx rfl (hb hby at_239) kk_) ?_
                          show G T12 (mkF m 240 #[.val (.long began), .second, .val (.long b1), .second, .val (.long b2), .second, .val (.long t1), .second, .val (.long t2), .second, .val (.int mode), .val (.int z1), .val (.int z2), .val (.int z3), .val (.int nn), .val (.long bt1), .second, .val (.long bt2), .second, .val (.long bt3), .second, .val (.long t3), .second, .val (.long e3), .second, .val (.ref ob), .val (.long (5000000000 : Int64)), .second] [(.long (1 : Int64)), (.long (e3 + (5000000000 : Int64))), (.ref ob)])
                          refine hs.go (fun _ kk_ => XS.ladd X12.here hx rfl (hb hby at_240) rfl kk_) ?_
                          show G T12 (mkF m 241 #[.val (.long began), .second, .val (.long b1), .second, .val (.long b2), .second, .val (.long t1), .second, .val (.long t2), .second, .val (.int mode), .val (.int z1), .val (.int z2), .val (.int z3), .val (.int nn), .val (.long bt1), .second, .val (.long bt2), .second, .val (.long bt3), .second, .val (.long t3), .second, .val (.long e3), .second, .val (.ref ob), .val (.long (5000000000 : Int64)), .second] [(.long ((e3 + (5000000000 : Int64)) + (1 : Int64))), (.ref ob)])
                          refine rCallV hs X12 hx hZ (as' := [(.long ((e3 + (5000000000 : Int64)) + (1 : Int64)))]) (rm3 l Z a0 hw [] ob ((e3 + (5000000000 : Int64)) + (1 : Int64)) (fsg bt3 bt2 (fsg bt2 bt1 (fsg bt1 (-1 : Int64) began t1) t2) t3) h11 n0 Z0 F_sign_ob (S0.ext O.2)) E_ob hown (hw _ (List.mem_of_getElem? (i := 15) rfl)) (hw _ (List.mem_of_getElem? (i := 16) rfl)) (hw _ (List.mem_of_getElem? (i := 18) rfl)) (hw _ (List.mem_of_getElem? (i := 17) rfl)) (hw _ (List.mem_of_getElem? (i := 2) rfl)) (hw _ (List.mem_of_getElem? (i := 19) rfl)) hy_3 rfl (by rw [hml]; rfl) [] (lenOf pd_1 rfl) rfl 0 (by show 2 * 0 + _ ≤ _; exact Nat.le_of_eq rfl) (hb hby at_241) (by decide) (by decide) (by decide) (by decide) (fun r13 T13 h13 X13 q13 => ?_)
                          obtain ⟨rfl, qh13⟩ := q13
                          rw [qh13] at X13
                          show G T13 (mkF m 244 #[.val (.long began), .second, .val (.long b1), .second, .val (.long b2), .second, .val (.long t1), .second, .val (.long t2), .second, .val (.int mode), .val (.int z1), .val (.int z2), .val (.int z3), .val (.int nn), .val (.long bt1), .second, .val (.long bt2), .second, .val (.long bt3), .second, .val (.long t3), .second, .val (.long e3), .second, .val (.ref ob), .val (.long (5000000000 : Int64)), .second] [(.int (fov ((e3 + (5000000000 : Int64)) + (1 : Int64)) (fsg bt3 bt2 (fsg bt2 bt1 (fsg bt1 (-1 : Int64) began t1) t2) t3)))])
                          refine hs.go (fun _ kk_ => XS.ifNo X13.here hx rfl (hb hby at_244) rfl ((if0 _ _).trans (feq (own_ov1 (((own_r hJ159).2 c202).trans (by rw [(own_r hJ141).2 c187, (own_r hJ123).2 c172])) : ¬ ((fov ((e3 + (5000000000 : Int64)) + (1 : Int64)) (fsg bt3 bt2 (fsg bt2 bt1 (fsg bt1 (-1 : Int64) began t1) t2) t3)) = (0 : Int32)))).1) kk_) ?_
                          show G T13 (mkF m 247 #[.val (.long began), .second, .val (.long b1), .second, .val (.long b2), .second, .val (.long t1), .second, .val (.long t2), .second, .val (.int mode), .val (.int z1), .val (.int z2), .val (.int z3), .val (.int nn), .val (.long bt1), .second, .val (.long bt2), .second, .val (.long bt3), .second, .val (.long t3), .second, .val (.long e3), .second, .val (.ref ob), .val (.long (5000000000 : Int64)), .second] [])
                          refine hs.go (fun _ kk_ => XS.iconst X13.here hx rfl (hb hby at_247) kk_) ?_
                          show G T13 (mkF m 248 #[.val (.long began), .second, .val (.long b1), .second, .val (.long b2), .second, .val (.long t1), .second, .val (.long t2), .second, .val (.int mode), .val (.int z1), .val (.int z2), .val (.int z3), .val (.int nn), .val (.long bt1), .second, .val (.long bt2), .second, .val (.long bt3), .second, .val (.long t3), .second, .val (.long e3), .second, .val (.ref ob), .val (.long (5000000000 : Int64)), .second] [(.int (1 : Int32))])
                          refine hs.go (fun _ kk_ => XS.goto X13.here hx rfl (pc0 := 248) (pc' := 252) rfl (hb hby at_248) (by decide) (by decide) kk_) ?_
                          show G T13 (mkF m 252 #[.val (.long began), .second, .val (.long b1), .second, .val (.long b2), .second, .val (.long t1), .second, .val (.long t2), .second, .val (.int mode), .val (.int z1), .val (.int z2), .val (.int z3), .val (.int nn), .val (.long bt1), .second, .val (.long bt2), .second, .val (.long bt3), .second, .val (.long t3), .second, .val (.long e3), .second, .val (.ref ob), .val (.long (5000000000 : Int64)), .second] [(.int (1 : Int32))])
                          exact rRetN fin X13 hx (by decide) (by decide) hret (by simp) (hb hby at_252) (z' := (1 : Int32)) (by decide) rfl
                  refine hs.go (fun _ kk_ => XS.iload X0.here hx rfl (hb hby at_141) rfl  kk_) ?_
                  show G s₁ (mkF m 143 #[.val (.long began), .second, .val (.long b1), .second, .val (.long b2), .second, .val (.long t1), .second, .val (.long t2), .second, .val (.int mode), .val (.int z1), .val (.int z2), .val (.int z3), .val (.int nn), .val (.long bt1), .second, .val (.long bt2), .second, .val (.long bt3), .second, .val (.long t3), .second, .val (.long e2), .second, .unset, .unset, .unset] [(.int nn)])
                  refine hs.go (fun _ kk_ => XS.iconst X0.here hx rfl (hb hby at_143) kk_) ?_
                  show G s₁ (mkF m 144 #[.val (.long began), .second, .val (.long b1), .second, .val (.long b2), .second, .val (.long t1), .second, .val (.long t2), .second, .val (.int mode), .val (.int z1), .val (.int z2), .val (.int z3), .val (.int nn), .val (.long bt1), .second, .val (.long bt2), .second, .val (.long bt3), .second, .val (.long t3), .second, .val (.long e2), .second, .unset, .unset, .unset] [(.int (3 : Int32)), (.int nn)])
                  by_cases c144 : nn < (3 : Int32)
                  · refine hs.go (fun _ kk_ => XS.icmpYes X0.here hx rfl (pc0 := 144) (pc' := 159) rfl (hb hby at_144) rfl (tlt c144).1 (by decide) (by decide) kk_) ?_
                    show G s₁ (mkF m 159 #[.val (.long began), .second, .val (.long b1), .second, .val (.long b2), .second, .val (.long t1), .second, .val (.long t2), .second, .val (.int mode), .val (.int z1), .val (.int z2), .val (.int z3), .val (.int nn), .val (.long bt1), .second, .val (.long bt2), .second, .val (.long bt3), .second, .val (.long t3), .second, .val (.long e2), .second, .unset, .unset, .unset] [])
                    exact J159 _ (Or.inl (⟨c144, rfl⟩))
                  · refine hs.go (fun _ kk_ => XS.icmpNo X0.here hx rfl (hb hby at_144) rfl (flt c144).1 kk_) ?_
                    show G s₁ (mkF m 147 #[.val (.long began), .second, .val (.long b1), .second, .val (.long b2), .second, .val (.long t1), .second, .val (.long t2), .second, .val (.int mode), .val (.int z1), .val (.int z2), .val (.int z3), .val (.int nn), .val (.long bt1), .second, .val (.long bt2), .second, .val (.long bt3), .second, .val (.long t3), .second, .val (.long e2), .second, .unset, .unset, .unset] [])
                    refine hs.go (fun _ kk_ => XS.lload X0.here hx rfl (hb hby at_147) rfl  kk_) ?_
                    show G s₁ (mkF m 149 #[.val (.long began), .second, .val (.long b1), .second, .val (.long b2), .second, .val (.long t1), .second, .val (.long t2), .second, .val (.int mode), .val (.int z1), .val (.int z2), .val (.int z3), .val (.int nn), .val (.long bt1), .second, .val (.long bt2), .second, .val (.long bt3), .second, .val (.long t3), .second, .val (.long e2), .second, .unset, .unset, .unset] [(.long bt3)])
                    refine hs.go (fun _ kk_ => XS.lload X0.here hx rfl (hb hby at_149) rfl  kk_) ?_
                    show G s₁ (mkF m 151 #[.val (.long began), .second, .val (.long b1), .second, .val (.long b2), .second, .val (.long t1), .second, .val (.long t2), .second, .val (.int mode), .val (.int z1), .val (.int z2), .val (.int z3), .val (.int nn), .val (.long bt1), .second, .val (.long bt2), .second, .val (.long bt3), .second, .val (.long t3), .second, .val (.long e2), .second, .unset, .unset, .unset] [(.long bt2), (.long bt3)])
                    refine hs.go (fun _ kk_ => XS.lcmp X0.here hx rfl (hb hby at_151) rfl kk_) ?_
                    show G s₁ (mkF m 152 #[.val (.long began), .second, .val (.long b1), .second, .val (.long b2), .second, .val (.long t1), .second, .val (.long t2), .second, .val (.int mode), .val (.int z1), .val (.int z2), .val (.int z3), .val (.int nn), .val (.long bt1), .second, .val (.long bt2), .second, .val (.long bt3), .second, .val (.long t3), .second, .val (.long e2), .second, .unset, .unset, .unset] [(.int (lcmpW bt3 bt2))])
                    by_cases c152 : bt3 = bt2
                    · refine hs.go (fun _ kk_ => XS.ifYes X0.here hx rfl (pc0 := 152) (pc' := 159) rfl (hb hby at_152) rfl ((if0 _ _).trans (eqL c152).1) (by decide) (by decide) kk_) ?_
                      show G s₁ (mkF m 159 #[.val (.long began), .second, .val (.long b1), .second, .val (.long b2), .second, .val (.long t1), .second, .val (.long t2), .second, .val (.int mode), .val (.int z1), .val (.int z2), .val (.int z3), .val (.int nn), .val (.long bt1), .second, .val (.long bt2), .second, .val (.long bt3), .second, .val (.long t3), .second, .val (.long e2), .second, .unset, .unset, .unset] [])
                      exact J159 _ (Or.inr (Or.inl (⟨c144, c152, rfl⟩)))
                    · refine hs.go (fun _ kk_ => XS.ifNo X0.here hx rfl (hb hby at_152) rfl ((if0 _ _).trans (neqL c152).1) kk_) ?_
                      show G s₁ (mkF m 155 #[.val (.long began), .second, .val (.long b1), .second, .val (.long b2), .second, .val (.long t1), .second, .val (.long t2), .second, .val (.int mode), .val (.int z1), .val (.int z2), .val (.int z3), .val (.int nn), .val (.long bt1), .second, .val (.long bt2), .second, .val (.long bt3), .second, .val (.long t3), .second, .val (.long e2), .second, .unset, .unset, .unset] [])
                      refine hs.go (fun _ kk_ => XS.lload X0.here hx rfl (hb hby at_155) rfl  kk_) ?_
                      show G s₁ (mkF m 157 #[.val (.long began), .second, .val (.long b1), .second, .val (.long b2), .second, .val (.long t1), .second, .val (.long t2), .second, .val (.int mode), .val (.int z1), .val (.int z2), .val (.int z3), .val (.int nn), .val (.long bt1), .second, .val (.long bt2), .second, .val (.long bt3), .second, .val (.long t3), .second, .val (.long e2), .second, .unset, .unset, .unset] [(.long t3)])
                      refine hs.go (fun _ kk_ => XS.lstore X0.here hx rfl (hb hby at_157) rfl (l' := #[.val (.long began), .second, .val (.long b1), .second, .val (.long b2), .second, .val (.long t1), .second, .val (.long t2), .second, .val (.int mode), .val (.int z1), .val (.int z2), .val (.int z3), .val (.int nn), .val (.long bt1), .second, .val (.long bt2), .second, .val (.long bt3), .second, .val (.long t3), .second, .val (.long t3), .second, .unset, .unset, .unset]) rfl kk_) ?_
                      show G s₁ (mkF m 159 #[.val (.long began), .second, .val (.long b1), .second, .val (.long b2), .second, .val (.long t1), .second, .val (.long t2), .second, .val (.int mode), .val (.int z1), .val (.int z2), .val (.int z3), .val (.int nn), .val (.long bt1), .second, .val (.long bt2), .second, .val (.long bt3), .second, .val (.long t3), .second, .val (.long t3), .second, .unset, .unset, .unset] [])
                      exact J159 _ (Or.inr (Or.inr (⟨c144, c152, rfl⟩)))
                refine hs.go (fun _ kk_ => XS.iload X0.here hx rfl (hb hby at_123) rfl  kk_) ?_
                show G s₁ (mkF m 125 #[.val (.long began), .second, .val (.long b1), .second, .val (.long b2), .second, .val (.long t1), .second, .val (.long t2), .second, .val (.int mode), .val (.int z1), .val (.int z2), .val (.int z3), .val (.int nn), .val (.long bt1), .second, .val (.long bt2), .second, .val (.long bt3), .second, .val (.long t3), .second, .val (.long e1), .second, .unset, .unset, .unset] [(.int nn)])
                refine hs.go (fun _ kk_ => XS.iconst X0.here hx rfl (hb hby at_125) kk_) ?_
                show G s₁ (mkF m 126 #[.val (.long began), .second, .val (.long b1), .second, .val (.long b2), .second, .val (.long t1), .second, .val (.long t2), .second, .val (.int mode), .val (.int z1), .val (.int z2), .val (.int z3), .val (.int nn), .val (.long bt1), .second, .val (.long bt2), .second, .val (.long bt3), .second, .val (.long t3), .second, .val (.long e1), .second, .unset, .unset, .unset] [(.int (2 : Int32)), (.int nn)])
                by_cases c126 : nn < (2 : Int32)
                · refine hs.go (fun _ kk_ => XS.icmpYes X0.here hx rfl (pc0 := 126) (pc' := 141) rfl (hb hby at_126) rfl (tlt c126).1 (by decide) (by decide) kk_) ?_
                  show G s₁ (mkF m 141 #[.val (.long began), .second, .val (.long b1), .second, .val (.long b2), .second, .val (.long t1), .second, .val (.long t2), .second, .val (.int mode), .val (.int z1), .val (.int z2), .val (.int z3), .val (.int nn), .val (.long bt1), .second, .val (.long bt2), .second, .val (.long bt3), .second, .val (.long t3), .second, .val (.long e1), .second, .unset, .unset, .unset] [])
                  exact J141 _ (Or.inl (⟨c126, rfl⟩))
                · refine hs.go (fun _ kk_ => XS.icmpNo X0.here hx rfl (hb hby at_126) rfl (flt c126).1 kk_) ?_
                  show G s₁ (mkF m 129 #[.val (.long began), .second, .val (.long b1), .second, .val (.long b2), .second, .val (.long t1), .second, .val (.long t2), .second, .val (.int mode), .val (.int z1), .val (.int z2), .val (.int z3), .val (.int nn), .val (.long bt1), .second, .val (.long bt2), .second, .val (.long bt3), .second, .val (.long t3), .second, .val (.long e1), .second, .unset, .unset, .unset] [])
                  refine hs.go (fun _ kk_ => XS.lload X0.here hx rfl (hb hby at_129) rfl  kk_) ?_
                  show G s₁ (mkF m 131 #[.val (.long began), .second, .val (.long b1), .second, .val (.long b2), .second, .val (.long t1), .second, .val (.long t2), .second, .val (.int mode), .val (.int z1), .val (.int z2), .val (.int z3), .val (.int nn), .val (.long bt1), .second, .val (.long bt2), .second, .val (.long bt3), .second, .val (.long t3), .second, .val (.long e1), .second, .unset, .unset, .unset] [(.long bt2)])
                  refine hs.go (fun _ kk_ => XS.lload X0.here hx rfl (hb hby at_131) rfl  kk_) ?_
                  show G s₁ (mkF m 133 #[.val (.long began), .second, .val (.long b1), .second, .val (.long b2), .second, .val (.long t1), .second, .val (.long t2), .second, .val (.int mode), .val (.int z1), .val (.int z2), .val (.int z3), .val (.int nn), .val (.long bt1), .second, .val (.long bt2), .second, .val (.long bt3), .second, .val (.long t3), .second, .val (.long e1), .second, .unset, .unset, .unset] [(.long bt1), (.long bt2)])
                  refine hs.go (fun _ kk_ => XS.lcmp X0.here hx rfl (hb hby at_133) rfl kk_) ?_
                  show G s₁ (mkF m 134 #[.val (.long began), .second, .val (.long b1), .second, .val (.long b2), .second, .val (.long t1), .second, .val (.long t2), .second, .val (.int mode), .val (.int z1), .val (.int z2), .val (.int z3), .val (.int nn), .val (.long bt1), .second, .val (.long bt2), .second, .val (.long bt3), .second, .val (.long t3), .second, .val (.long e1), .second, .unset, .unset, .unset] [(.int (lcmpW bt2 bt1))])
                  by_cases c134 : bt2 = bt1
                  · refine hs.go (fun _ kk_ => XS.ifYes X0.here hx rfl (pc0 := 134) (pc' := 141) rfl (hb hby at_134) rfl ((if0 _ _).trans (eqL c134).1) (by decide) (by decide) kk_) ?_
                    show G s₁ (mkF m 141 #[.val (.long began), .second, .val (.long b1), .second, .val (.long b2), .second, .val (.long t1), .second, .val (.long t2), .second, .val (.int mode), .val (.int z1), .val (.int z2), .val (.int z3), .val (.int nn), .val (.long bt1), .second, .val (.long bt2), .second, .val (.long bt3), .second, .val (.long t3), .second, .val (.long e1), .second, .unset, .unset, .unset] [])
                    exact J141 _ (Or.inr (Or.inl (⟨c126, c134, rfl⟩)))
                  · refine hs.go (fun _ kk_ => XS.ifNo X0.here hx rfl (hb hby at_134) rfl ((if0 _ _).trans (neqL c134).1) kk_) ?_
                    show G s₁ (mkF m 137 #[.val (.long began), .second, .val (.long b1), .second, .val (.long b2), .second, .val (.long t1), .second, .val (.long t2), .second, .val (.int mode), .val (.int z1), .val (.int z2), .val (.int z3), .val (.int nn), .val (.long bt1), .second, .val (.long bt2), .second, .val (.long bt3), .second, .val (.long t3), .second, .val (.long e1), .second, .unset, .unset, .unset] [])
                    refine hs.go (fun _ kk_ => XS.lload X0.here hx rfl (hb hby at_137) rfl  kk_) ?_
                    show G s₁ (mkF m 139 #[.val (.long began), .second, .val (.long b1), .second, .val (.long b2), .second, .val (.long t1), .second, .val (.long t2), .second, .val (.int mode), .val (.int z1), .val (.int z2), .val (.int z3), .val (.int nn), .val (.long bt1), .second, .val (.long bt2), .second, .val (.long bt3), .second, .val (.long t3), .second, .val (.long e1), .second, .unset, .unset, .unset] [(.long t2)])
                    refine hs.go (fun _ kk_ => XS.lstore X0.here hx rfl (hb hby at_139) rfl (l' := #[.val (.long began), .second, .val (.long b1), .second, .val (.long b2), .second, .val (.long t1), .second, .val (.long t2), .second, .val (.int mode), .val (.int z1), .val (.int z2), .val (.int z3), .val (.int nn), .val (.long bt1), .second, .val (.long bt2), .second, .val (.long bt3), .second, .val (.long t3), .second, .val (.long t2), .second, .unset, .unset, .unset]) rfl kk_) ?_
                    show G s₁ (mkF m 141 #[.val (.long began), .second, .val (.long b1), .second, .val (.long b2), .second, .val (.long t1), .second, .val (.long t2), .second, .val (.int mode), .val (.int z1), .val (.int z2), .val (.int z3), .val (.int nn), .val (.long bt1), .second, .val (.long bt2), .second, .val (.long bt3), .second, .val (.long t3), .second, .val (.long t2), .second, .unset, .unset, .unset] [])
                    exact J141 _ (Or.inr (Or.inr (⟨c126, c134, rfl⟩)))
              refine hs.go (fun _ kk_ => XS.iload X0.here hx rfl (hb hby at_104) rfl  kk_) ?_
              show G s₁ (mkF m 106 #[.val (.long began), .second, .val (.long b1), .second, .val (.long b2), .second, .val (.long t1), .second, .val (.long t2), .second, .val (.int mode), .val (.int z1), .val (.int z2), .val (.int z3), .val (.int nn), .val (.long bt1), .second, .val (.long bt2), .second, .val (.long bt3), .second, .val (.long t3), .second, .val (.long began), .second, .unset, .unset, .unset] [(.int nn)])
              refine hs.go (fun _ kk_ => XS.iconst X0.here hx rfl (hb hby at_106) kk_) ?_
              show G s₁ (mkF m 107 #[.val (.long began), .second, .val (.long b1), .second, .val (.long b2), .second, .val (.long t1), .second, .val (.long t2), .second, .val (.int mode), .val (.int z1), .val (.int z2), .val (.int z3), .val (.int nn), .val (.long bt1), .second, .val (.long bt2), .second, .val (.long bt3), .second, .val (.long t3), .second, .val (.long began), .second, .unset, .unset, .unset] [(.int (1 : Int32)), (.int nn)])
              by_cases c107 : nn < (1 : Int32)
              · refine hs.go (fun _ kk_ => XS.icmpYes X0.here hx rfl (pc0 := 107) (pc' := 123) rfl (hb hby at_107) rfl (tlt c107).1 (by decide) (by decide) kk_) ?_
                show G s₁ (mkF m 123 #[.val (.long began), .second, .val (.long b1), .second, .val (.long b2), .second, .val (.long t1), .second, .val (.long t2), .second, .val (.int mode), .val (.int z1), .val (.int z2), .val (.int z3), .val (.int nn), .val (.long bt1), .second, .val (.long bt2), .second, .val (.long bt3), .second, .val (.long t3), .second, .val (.long began), .second, .unset, .unset, .unset] [])
                exact J123 _ (Or.inl (⟨c107, rfl⟩))
              · refine hs.go (fun _ kk_ => XS.icmpNo X0.here hx rfl (hb hby at_107) rfl (flt c107).1 kk_) ?_
                show G s₁ (mkF m 110 #[.val (.long began), .second, .val (.long b1), .second, .val (.long b2), .second, .val (.long t1), .second, .val (.long t2), .second, .val (.int mode), .val (.int z1), .val (.int z2), .val (.int z3), .val (.int nn), .val (.long bt1), .second, .val (.long bt2), .second, .val (.long bt3), .second, .val (.long t3), .second, .val (.long began), .second, .unset, .unset, .unset] [])
                refine hs.go (fun _ kk_ => XS.lload X0.here hx rfl (hb hby at_110) rfl  kk_) ?_
                show G s₁ (mkF m 112 #[.val (.long began), .second, .val (.long b1), .second, .val (.long b2), .second, .val (.long t1), .second, .val (.long t2), .second, .val (.int mode), .val (.int z1), .val (.int z2), .val (.int z3), .val (.int nn), .val (.long bt1), .second, .val (.long bt2), .second, .val (.long bt3), .second, .val (.long t3), .second, .val (.long began), .second, .unset, .unset, .unset] [(.long bt1)])
                refine rLdcL hs X0 hx hZ hown (hw _ (List.mem_of_getElem? (i := 23) rfl)) rfl (hb hby at_112) ?_
                show G s₁ (mkF m 115 #[.val (.long began), .second, .val (.long b1), .second, .val (.long b2), .second, .val (.long t1), .second, .val (.long t2), .second, .val (.int mode), .val (.int z1), .val (.int z2), .val (.int z3), .val (.int nn), .val (.long bt1), .second, .val (.long bt2), .second, .val (.long bt3), .second, .val (.long t3), .second, .val (.long began), .second, .unset, .unset, .unset] [(.long (-1 : Int64)), (.long bt1)])
                refine hs.go (fun _ kk_ => XS.lcmp X0.here hx rfl (hb hby at_115) rfl kk_) ?_
                show G s₁ (mkF m 116 #[.val (.long began), .second, .val (.long b1), .second, .val (.long b2), .second, .val (.long t1), .second, .val (.long t2), .second, .val (.int mode), .val (.int z1), .val (.int z2), .val (.int z3), .val (.int nn), .val (.long bt1), .second, .val (.long bt2), .second, .val (.long bt3), .second, .val (.long t3), .second, .val (.long began), .second, .unset, .unset, .unset] [(.int (lcmpW bt1 (-1 : Int64)))])
                by_cases c116 : bt1 = (-1 : Int64)
                · refine hs.go (fun _ kk_ => XS.ifYes X0.here hx rfl (pc0 := 116) (pc' := 123) rfl (hb hby at_116) rfl ((if0 _ _).trans (eqL c116).1) (by decide) (by decide) kk_) ?_
                  show G s₁ (mkF m 123 #[.val (.long began), .second, .val (.long b1), .second, .val (.long b2), .second, .val (.long t1), .second, .val (.long t2), .second, .val (.int mode), .val (.int z1), .val (.int z2), .val (.int z3), .val (.int nn), .val (.long bt1), .second, .val (.long bt2), .second, .val (.long bt3), .second, .val (.long t3), .second, .val (.long began), .second, .unset, .unset, .unset] [])
                  exact J123 _ (Or.inr (Or.inl (⟨c107, c116, rfl⟩)))
                · refine hs.go (fun _ kk_ => XS.ifNo X0.here hx rfl (hb hby at_116) rfl ((if0 _ _).trans (neqL c116).1) kk_) ?_
                  show G s₁ (mkF m 119 #[.val (.long began), .second, .val (.long b1), .second, .val (.long b2), .second, .val (.long t1), .second, .val (.long t2), .second, .val (.int mode), .val (.int z1), .val (.int z2), .val (.int z3), .val (.int nn), .val (.long bt1), .second, .val (.long bt2), .second, .val (.long bt3), .second, .val (.long t3), .second, .val (.long began), .second, .unset, .unset, .unset] [])
                  refine hs.go (fun _ kk_ => XS.lload X0.here hx rfl (hb hby at_119) rfl  kk_) ?_
                  show G s₁ (mkF m 121 #[.val (.long began), .second, .val (.long b1), .second, .val (.long b2), .second, .val (.long t1), .second, .val (.long t2), .second, .val (.int mode), .val (.int z1), .val (.int z2), .val (.int z3), .val (.int nn), .val (.long bt1), .second, .val (.long bt2), .second, .val (.long bt3), .second, .val (.long t3), .second, .val (.long began), .second, .unset, .unset, .unset] [(.long t1)])
                  refine hs.go (fun _ kk_ => XS.lstore X0.here hx rfl (hb hby at_121) rfl (l' := #[.val (.long began), .second, .val (.long b1), .second, .val (.long b2), .second, .val (.long t1), .second, .val (.long t2), .second, .val (.int mode), .val (.int z1), .val (.int z2), .val (.int z3), .val (.int nn), .val (.long bt1), .second, .val (.long bt2), .second, .val (.long bt3), .second, .val (.long t3), .second, .val (.long t1), .second, .unset, .unset, .unset]) rfl kk_) ?_
                  show G s₁ (mkF m 123 #[.val (.long began), .second, .val (.long b1), .second, .val (.long b2), .second, .val (.long t1), .second, .val (.long t2), .second, .val (.int mode), .val (.int z1), .val (.int z2), .val (.int z3), .val (.int nn), .val (.long bt1), .second, .val (.long bt2), .second, .val (.long bt3), .second, .val (.long t3), .second, .val (.long t1), .second, .unset, .unset, .unset] [])
                  exact J123 _ (Or.inr (Or.inr (⟨c107, c116, rfl⟩)))
            refine hs.go (fun _ kk_ => XS.iload X0.here hx rfl (hb hby at_78) rfl  kk_) ?_
            show G s₁ (mkF m 80 #[.val (.long began), .second, .val (.long b1), .second, .val (.long b2), .second, .val (.long t1), .second, .val (.long t2), .second, .val (.int mode), .val (.int z1), .val (.int z2), .val (.int z3), .val (.int nn), .val (.long bt1), .second, .val (.long bt2), .second, .unset, .unset, .unset, .unset, .unset, .unset, .unset, .unset, .unset] [(.int z3)])
            by_cases c80 : z3 = (0 : Int32)
            · refine hs.go (fun _ kk_ => XS.ifYes X0.here hx rfl (pc0 := 80) (pc' := 88) rfl (hb hby at_80) rfl ((if0 _ _).trans (teq c80).1) (by decide) (by decide) kk_) ?_
              show G s₁ (mkF m 88 #[.val (.long began), .second, .val (.long b1), .second, .val (.long b2), .second, .val (.long t1), .second, .val (.long t2), .second, .val (.int mode), .val (.int z1), .val (.int z2), .val (.int z3), .val (.int nn), .val (.long bt1), .second, .val (.long bt2), .second, .unset, .unset, .unset, .unset, .unset, .unset, .unset, .unset, .unset] [])
              refine hs.go (fun _ kk_ => XS.lload X0.here hx rfl (hb hby at_88) rfl  kk_) ?_
              show G s₁ (mkF m 90 #[.val (.long began), .second, .val (.long b1), .second, .val (.long b2), .second, .val (.long t1), .second, .val (.long t2), .second, .val (.int mode), .val (.int z1), .val (.int z2), .val (.int z3), .val (.int nn), .val (.long bt1), .second, .val (.long bt2), .second, .unset, .unset, .unset, .unset, .unset, .unset, .unset, .unset, .unset] [(.long bt2)])
              exact J90 _ (Or.inl (⟨c80, rfl⟩))
            · refine hs.go (fun _ kk_ => XS.ifNo X0.here hx rfl (hb hby at_80) rfl ((if0 _ _).trans (feq c80).1) kk_) ?_
              show G s₁ (mkF m 83 #[.val (.long began), .second, .val (.long b1), .second, .val (.long b2), .second, .val (.long t1), .second, .val (.long t2), .second, .val (.int mode), .val (.int z1), .val (.int z2), .val (.int z3), .val (.int nn), .val (.long bt1), .second, .val (.long bt2), .second, .unset, .unset, .unset, .unset, .unset, .unset, .unset, .unset, .unset] [])
              refine hs.go (fun _ kk_ => XS.lload X0.here hx rfl (hb hby at_83) rfl  kk_) ?_
              show G s₁ (mkF m 85 #[.val (.long began), .second, .val (.long b1), .second, .val (.long b2), .second, .val (.long t1), .second, .val (.long t2), .second, .val (.int mode), .val (.int z1), .val (.int z2), .val (.int z3), .val (.int nn), .val (.long bt1), .second, .val (.long bt2), .second, .unset, .unset, .unset, .unset, .unset, .unset, .unset, .unset, .unset] [(.long bt1)])
              refine hs.go (fun _ kk_ => XS.goto X0.here hx rfl (pc0 := 85) (pc' := 90) rfl (hb hby at_85) (by decide) (by decide) kk_) ?_
              show G s₁ (mkF m 90 #[.val (.long began), .second, .val (.long b1), .second, .val (.long b2), .second, .val (.long t1), .second, .val (.long t2), .second, .val (.int mode), .val (.int z1), .val (.int z2), .val (.int z3), .val (.int nn), .val (.long bt1), .second, .val (.long bt2), .second, .unset, .unset, .unset, .unset, .unset, .unset, .unset, .unset, .unset] [(.long bt1)])
              exact J90 _ (Or.inr (⟨c80, rfl⟩))
          refine hs.go (fun _ kk_ => XS.iload X0.here hx rfl (hb hby at_64) rfl  kk_) ?_
          show G s₁ (mkF m 66 #[.val (.long began), .second, .val (.long b1), .second, .val (.long b2), .second, .val (.long t1), .second, .val (.long t2), .second, .val (.int mode), .val (.int z1), .val (.int z2), .val (.int z3), .val (.int nn), .val (.long bt1), .second, .unset, .unset, .unset, .unset, .unset, .unset, .unset, .unset, .unset, .unset, .unset] [(.int z2)])
          by_cases c66 : z2 = (0 : Int32)
          · refine hs.go (fun _ kk_ => XS.ifYes X0.here hx rfl (pc0 := 66) (pc' := 74) rfl (hb hby at_66) rfl ((if0 _ _).trans (teq c66).1) (by decide) (by decide) kk_) ?_
            show G s₁ (mkF m 74 #[.val (.long began), .second, .val (.long b1), .second, .val (.long b2), .second, .val (.long t1), .second, .val (.long t2), .second, .val (.int mode), .val (.int z1), .val (.int z2), .val (.int z3), .val (.int nn), .val (.long bt1), .second, .unset, .unset, .unset, .unset, .unset, .unset, .unset, .unset, .unset, .unset, .unset] [])
            refine hs.go (fun _ kk_ => XS.lload X0.here hx rfl (hb hby at_74) rfl  kk_) ?_
            show G s₁ (mkF m 76 #[.val (.long began), .second, .val (.long b1), .second, .val (.long b2), .second, .val (.long t1), .second, .val (.long t2), .second, .val (.int mode), .val (.int z1), .val (.int z2), .val (.int z3), .val (.int nn), .val (.long bt1), .second, .unset, .unset, .unset, .unset, .unset, .unset, .unset, .unset, .unset, .unset, .unset] [(.long b2)])
            exact J76 _ (Or.inl (⟨c66, rfl⟩))
          · refine hs.go (fun _ kk_ => XS.ifNo X0.here hx rfl (hb hby at_66) rfl ((if0 _ _).trans (feq c66).1) kk_) ?_
            show G s₁ (mkF m 69 #[.val (.long began), .second, .val (.long b1), .second, .val (.long b2), .second, .val (.long t1), .second, .val (.long t2), .second, .val (.int mode), .val (.int z1), .val (.int z2), .val (.int z3), .val (.int nn), .val (.long bt1), .second, .unset, .unset, .unset, .unset, .unset, .unset, .unset, .unset, .unset, .unset, .unset] [])
            refine hs.go (fun _ kk_ => XS.lload X0.here hx rfl (hb hby at_69) rfl  kk_) ?_
            show G s₁ (mkF m 71 #[.val (.long began), .second, .val (.long b1), .second, .val (.long b2), .second, .val (.long t1), .second, .val (.long t2), .second, .val (.int mode), .val (.int z1), .val (.int z2), .val (.int z3), .val (.int nn), .val (.long bt1), .second, .unset, .unset, .unset, .unset, .unset, .unset, .unset, .unset, .unset, .unset, .unset] [(.long bt1)])
            refine hs.go (fun _ kk_ => XS.goto X0.here hx rfl (pc0 := 71) (pc' := 76) rfl (hb hby at_71) (by decide) (by decide) kk_) ?_
            show G s₁ (mkF m 76 #[.val (.long began), .second, .val (.long b1), .second, .val (.long b2), .second, .val (.long t1), .second, .val (.long t2), .second, .val (.int mode), .val (.int z1), .val (.int z2), .val (.int z3), .val (.int nn), .val (.long bt1), .second, .unset, .unset, .unset, .unset, .unset, .unset, .unset, .unset, .unset, .unset, .unset] [(.long bt1)])
            exact J76 _ (Or.inr (⟨c66, rfl⟩))
        refine hs.go (fun _ kk_ => XS.iload X0.here hx rfl (hb hby at_50) rfl  kk_) ?_
        show G s₁ (mkF m 52 #[.val (.long began), .second, .val (.long b1), .second, .val (.long b2), .second, .val (.long t1), .second, .val (.long t2), .second, .val (.int mode), .val (.int z1), .val (.int z2), .val (.int z3), .val (.int nn), .unset, .unset, .unset, .unset, .unset, .unset, .unset, .unset, .unset, .unset, .unset, .unset, .unset] [(.int z1)])
        by_cases c52 : z1 = (0 : Int32)
        · refine hs.go (fun _ kk_ => XS.ifYes X0.here hx rfl (pc0 := 52) (pc' := 61) rfl (hb hby at_52) rfl ((if0 _ _).trans (teq c52).1) (by decide) (by decide) kk_) ?_
          show G s₁ (mkF m 61 #[.val (.long began), .second, .val (.long b1), .second, .val (.long b2), .second, .val (.long t1), .second, .val (.long t2), .second, .val (.int mode), .val (.int z1), .val (.int z2), .val (.int z3), .val (.int nn), .unset, .unset, .unset, .unset, .unset, .unset, .unset, .unset, .unset, .unset, .unset, .unset, .unset] [])
          refine hs.go (fun _ kk_ => XS.lloadN X0.here hx rfl (hb hby at_61) rfl  kk_) ?_
          show G s₁ (mkF m 62 #[.val (.long began), .second, .val (.long b1), .second, .val (.long b2), .second, .val (.long t1), .second, .val (.long t2), .second, .val (.int mode), .val (.int z1), .val (.int z2), .val (.int z3), .val (.int nn), .unset, .unset, .unset, .unset, .unset, .unset, .unset, .unset, .unset, .unset, .unset, .unset, .unset] [(.long b1)])
          exact J62 _ (Or.inl (⟨c52, rfl⟩))
        · refine hs.go (fun _ kk_ => XS.ifNo X0.here hx rfl (hb hby at_52) rfl ((if0 _ _).trans (feq c52).1) kk_) ?_
          show G s₁ (mkF m 55 #[.val (.long began), .second, .val (.long b1), .second, .val (.long b2), .second, .val (.long t1), .second, .val (.long t2), .second, .val (.int mode), .val (.int z1), .val (.int z2), .val (.int z3), .val (.int nn), .unset, .unset, .unset, .unset, .unset, .unset, .unset, .unset, .unset, .unset, .unset, .unset, .unset] [])
          refine rLdcL hs X0 hx hZ hown (hw _ (List.mem_of_getElem? (i := 23) rfl)) rfl (hb hby at_55) ?_
          show G s₁ (mkF m 58 #[.val (.long began), .second, .val (.long b1), .second, .val (.long b2), .second, .val (.long t1), .second, .val (.long t2), .second, .val (.int mode), .val (.int z1), .val (.int z2), .val (.int z3), .val (.int nn), .unset, .unset, .unset, .unset, .unset, .unset, .unset, .unset, .unset, .unset, .unset, .unset, .unset] [(.long (-1 : Int64))])
          refine hs.go (fun _ kk_ => XS.goto X0.here hx rfl (pc0 := 58) (pc' := 62) rfl (hb hby at_58) (by decide) (by decide) kk_) ?_
          show G s₁ (mkF m 62 #[.val (.long began), .second, .val (.long b1), .second, .val (.long b2), .second, .val (.long t1), .second, .val (.long t2), .second, .val (.int mode), .val (.int z1), .val (.int z2), .val (.int z3), .val (.int nn), .unset, .unset, .unset, .unset, .unset, .unset, .unset, .unset, .unset, .unset, .unset, .unset, .unset] [(.long (-1 : Int64))])
          exact J62 _ (Or.inr (⟨c52, rfl⟩))
      refine hs.go (fun _ kk_ => XS.iload X0.here hx rfl (hb hby at_28) rfl  kk_) ?_
      show G s₁ (mkF m 30 #[.val (.long began), .second, .val (.long b1), .second, .val (.long b2), .second, .val (.long t1), .second, .val (.long t2), .second, .val (.int mode), .val (.int z1), .val (.int z2), .unset, .unset, .unset, .unset, .unset, .unset, .unset, .unset, .unset, .unset, .unset, .unset, .unset, .unset, .unset] [(.int mode)])
      refine hs.go (fun _ kk_ => XS.iconst X0.here hx rfl (hb hby at_30) kk_) ?_
      show G s₁ (mkF m 31 #[.val (.long began), .second, .val (.long b1), .second, .val (.long b2), .second, .val (.long t1), .second, .val (.long t2), .second, .val (.int mode), .val (.int z1), .val (.int z2), .unset, .unset, .unset, .unset, .unset, .unset, .unset, .unset, .unset, .unset, .unset, .unset, .unset, .unset, .unset] [(.int (4 : Int32)), (.int mode)])
      refine hs.go (fun _ kk_ => XS.iand X0.here hx rfl (hb hby at_31) rfl kk_) ?_
      show G s₁ (mkF m 32 #[.val (.long began), .second, .val (.long b1), .second, .val (.long b2), .second, .val (.long t1), .second, .val (.long t2), .second, .val (.int mode), .val (.int z1), .val (.int z2), .unset, .unset, .unset, .unset, .unset, .unset, .unset, .unset, .unset, .unset, .unset, .unset, .unset, .unset, .unset] [(.int (mode &&& (4 : Int32)))])
      by_cases c32 : (mode &&& (4 : Int32)) = (0 : Int32)
      · refine hs.go (fun _ kk_ => XS.ifYes X0.here hx rfl (pc0 := 32) (pc' := 39) rfl (hb hby at_32) rfl ((if0 _ _).trans (teq c32).1) (by decide) (by decide) kk_) ?_
        show G s₁ (mkF m 39 #[.val (.long began), .second, .val (.long b1), .second, .val (.long b2), .second, .val (.long t1), .second, .val (.long t2), .second, .val (.int mode), .val (.int z1), .val (.int z2), .unset, .unset, .unset, .unset, .unset, .unset, .unset, .unset, .unset, .unset, .unset, .unset, .unset, .unset, .unset] [])
        refine hs.go (fun _ kk_ => XS.iconst X0.here hx rfl (hb hby at_39) kk_) ?_
        show G s₁ (mkF m 40 #[.val (.long began), .second, .val (.long b1), .second, .val (.long b2), .second, .val (.long t1), .second, .val (.long t2), .second, .val (.int mode), .val (.int z1), .val (.int z2), .unset, .unset, .unset, .unset, .unset, .unset, .unset, .unset, .unset, .unset, .unset, .unset, .unset, .unset, .unset] [(.int (0 : Int32))])
        exact J40 _ (Or.inl (⟨c32, rfl⟩))
      · refine hs.go (fun _ kk_ => XS.ifNo X0.here hx rfl (hb hby at_32) rfl ((if0 _ _).trans (feq c32).1) kk_) ?_
        show G s₁ (mkF m 35 #[.val (.long began), .second, .val (.long b1), .second, .val (.long b2), .second, .val (.long t1), .second, .val (.long t2), .second, .val (.int mode), .val (.int z1), .val (.int z2), .unset, .unset, .unset, .unset, .unset, .unset, .unset, .unset, .unset, .unset, .unset, .unset, .unset, .unset, .unset] [])
        refine hs.go (fun _ kk_ => XS.iconst X0.here hx rfl (hb hby at_35) kk_) ?_
        show G s₁ (mkF m 36 #[.val (.long began), .second, .val (.long b1), .second, .val (.long b2), .second, .val (.long t1), .second, .val (.long t2), .second, .val (.int mode), .val (.int z1), .val (.int z2), .unset, .unset, .unset, .unset, .unset, .unset, .unset, .unset, .unset, .unset, .unset, .unset, .unset, .unset, .unset] [(.int (1 : Int32))])
        refine hs.go (fun _ kk_ => XS.goto X0.here hx rfl (pc0 := 36) (pc' := 40) rfl (hb hby at_36) (by decide) (by decide) kk_) ?_
        show G s₁ (mkF m 40 #[.val (.long began), .second, .val (.long b1), .second, .val (.long b2), .second, .val (.long t1), .second, .val (.long t2), .second, .val (.int mode), .val (.int z1), .val (.int z2), .unset, .unset, .unset, .unset, .unset, .unset, .unset, .unset, .unset, .unset, .unset, .unset, .unset, .unset, .unset] [(.int (1 : Int32))])
        exact J40 _ (Or.inr (⟨c32, rfl⟩))
    refine hs.go (fun _ kk_ => XS.iload X0.here hx rfl (hb hby at_14) rfl  kk_) ?_
    show G s₁ (mkF m 16 #[.val (.long began), .second, .val (.long b1), .second, .val (.long b2), .second, .val (.long t1), .second, .val (.long t2), .second, .val (.int mode), .val (.int z1), .unset, .unset, .unset, .unset, .unset, .unset, .unset, .unset, .unset, .unset, .unset, .unset, .unset, .unset, .unset, .unset] [(.int mode)])
    refine hs.go (fun _ kk_ => XS.iconst X0.here hx rfl (hb hby at_16) kk_) ?_
    show G s₁ (mkF m 17 #[.val (.long began), .second, .val (.long b1), .second, .val (.long b2), .second, .val (.long t1), .second, .val (.long t2), .second, .val (.int mode), .val (.int z1), .unset, .unset, .unset, .unset, .unset, .unset, .unset, .unset, .unset, .unset, .unset, .unset, .unset, .unset, .unset, .unset] [(.int (2 : Int32)), (.int mode)])
    refine hs.go (fun _ kk_ => XS.iand X0.here hx rfl (hb hby at_17) rfl kk_) ?_
    show G s₁ (mkF m 18 #[.val (.long began), .second, .val (.long b1), .second, .val (.long b2), .second, .val (.long t1), .second, .val (.long t2), .second, .val (.int mode), .val (.int z1), .unset, .unset, .unset, .unset, .unset, .unset, .unset, .unset, .unset, .unset, .unset, .unset, .unset, .unset, .unset, .unset] [(.int (mode &&& (2 : Int32)))])
    by_cases c18 : (mode &&& (2 : Int32)) = (0 : Int32)
    · refine hs.go (fun _ kk_ => XS.ifYes X0.here hx rfl (pc0 := 18) (pc' := 25) rfl (hb hby at_18) rfl ((if0 _ _).trans (teq c18).1) (by decide) (by decide) kk_) ?_
      show G s₁ (mkF m 25 #[.val (.long began), .second, .val (.long b1), .second, .val (.long b2), .second, .val (.long t1), .second, .val (.long t2), .second, .val (.int mode), .val (.int z1), .unset, .unset, .unset, .unset, .unset, .unset, .unset, .unset, .unset, .unset, .unset, .unset, .unset, .unset, .unset, .unset] [])
      refine hs.go (fun _ kk_ => XS.iconst X0.here hx rfl (hb hby at_25) kk_) ?_
      show G s₁ (mkF m 26 #[.val (.long began), .second, .val (.long b1), .second, .val (.long b2), .second, .val (.long t1), .second, .val (.long t2), .second, .val (.int mode), .val (.int z1), .unset, .unset, .unset, .unset, .unset, .unset, .unset, .unset, .unset, .unset, .unset, .unset, .unset, .unset, .unset, .unset] [(.int (0 : Int32))])
      exact J26 _ (Or.inl (⟨c18, rfl⟩))
    · refine hs.go (fun _ kk_ => XS.ifNo X0.here hx rfl (hb hby at_18) rfl ((if0 _ _).trans (feq c18).1) kk_) ?_
      show G s₁ (mkF m 21 #[.val (.long began), .second, .val (.long b1), .second, .val (.long b2), .second, .val (.long t1), .second, .val (.long t2), .second, .val (.int mode), .val (.int z1), .unset, .unset, .unset, .unset, .unset, .unset, .unset, .unset, .unset, .unset, .unset, .unset, .unset, .unset, .unset, .unset] [])
      refine hs.go (fun _ kk_ => XS.iconst X0.here hx rfl (hb hby at_21) kk_) ?_
      show G s₁ (mkF m 22 #[.val (.long began), .second, .val (.long b1), .second, .val (.long b2), .second, .val (.long t1), .second, .val (.long t2), .second, .val (.int mode), .val (.int z1), .unset, .unset, .unset, .unset, .unset, .unset, .unset, .unset, .unset, .unset, .unset, .unset, .unset, .unset, .unset, .unset] [(.int (1 : Int32))])
      refine hs.go (fun _ kk_ => XS.goto X0.here hx rfl (pc0 := 22) (pc' := 26) rfl (hb hby at_22) (by decide) (by decide) kk_) ?_
      show G s₁ (mkF m 26 #[.val (.long began), .second, .val (.long b1), .second, .val (.long b2), .second, .val (.long t1), .second, .val (.long t2), .second, .val (.int mode), .val (.int z1), .unset, .unset, .unset, .unset, .unset, .unset, .unset, .unset, .unset, .unset, .unset, .unset, .unset, .unset, .unset, .unset] [(.int (1 : Int32))])
      exact J26 _ (Or.inr (⟨c18, rfl⟩))
  refine hs.go (fun _ kk_ => XS.iload X0.here hx rfl (hb hby at_0) rfl  kk_) ?_
  show G s₁ (mkF m 2 #[.val (.long began), .second, .val (.long b1), .second, .val (.long b2), .second, .val (.long t1), .second, .val (.long t2), .second, .val (.int mode), .unset, .unset, .unset, .unset, .unset, .unset, .unset, .unset, .unset, .unset, .unset, .unset, .unset, .unset, .unset, .unset, .unset] [(.int mode)])
  refine hs.go (fun _ kk_ => XS.iconst X0.here hx rfl (hb hby at_2) kk_) ?_
  show G s₁ (mkF m 3 #[.val (.long began), .second, .val (.long b1), .second, .val (.long b2), .second, .val (.long t1), .second, .val (.long t2), .second, .val (.int mode), .unset, .unset, .unset, .unset, .unset, .unset, .unset, .unset, .unset, .unset, .unset, .unset, .unset, .unset, .unset, .unset, .unset] [(.int (1 : Int32)), (.int mode)])
  refine hs.go (fun _ kk_ => XS.iand X0.here hx rfl (hb hby at_3) rfl kk_) ?_
  show G s₁ (mkF m 4 #[.val (.long began), .second, .val (.long b1), .second, .val (.long b2), .second, .val (.long t1), .second, .val (.long t2), .second, .val (.int mode), .unset, .unset, .unset, .unset, .unset, .unset, .unset, .unset, .unset, .unset, .unset, .unset, .unset, .unset, .unset, .unset, .unset] [(.int (mode &&& (1 : Int32)))])
  by_cases c4 : (mode &&& (1 : Int32)) = (0 : Int32)
  · refine hs.go (fun _ kk_ => XS.ifYes X0.here hx rfl (pc0 := 4) (pc' := 11) rfl (hb hby at_4) rfl ((if0 _ _).trans (teq c4).1) (by decide) (by decide) kk_) ?_
    show G s₁ (mkF m 11 #[.val (.long began), .second, .val (.long b1), .second, .val (.long b2), .second, .val (.long t1), .second, .val (.long t2), .second, .val (.int mode), .unset, .unset, .unset, .unset, .unset, .unset, .unset, .unset, .unset, .unset, .unset, .unset, .unset, .unset, .unset, .unset, .unset] [])
    refine hs.go (fun _ kk_ => XS.iconst X0.here hx rfl (hb hby at_11) kk_) ?_
    show G s₁ (mkF m 12 #[.val (.long began), .second, .val (.long b1), .second, .val (.long b2), .second, .val (.long t1), .second, .val (.long t2), .second, .val (.int mode), .unset, .unset, .unset, .unset, .unset, .unset, .unset, .unset, .unset, .unset, .unset, .unset, .unset, .unset, .unset, .unset, .unset] [(.int (0 : Int32))])
    exact J12 _ (Or.inl (⟨c4, rfl⟩))
  · refine hs.go (fun _ kk_ => XS.ifNo X0.here hx rfl (hb hby at_4) rfl ((if0 _ _).trans (feq c4).1) kk_) ?_
    show G s₁ (mkF m 7 #[.val (.long began), .second, .val (.long b1), .second, .val (.long b2), .second, .val (.long t1), .second, .val (.long t2), .second, .val (.int mode), .unset, .unset, .unset, .unset, .unset, .unset, .unset, .unset, .unset, .unset, .unset, .unset, .unset, .unset, .unset, .unset, .unset] [])
    refine hs.go (fun _ kk_ => XS.iconst X0.here hx rfl (hb hby at_7) kk_) ?_
    show G s₁ (mkF m 8 #[.val (.long began), .second, .val (.long b1), .second, .val (.long b2), .second, .val (.long t1), .second, .val (.long t2), .second, .val (.int mode), .unset, .unset, .unset, .unset, .unset, .unset, .unset, .unset, .unset, .unset, .unset, .unset, .unset, .unset, .unset, .unset, .unset] [(.int (1 : Int32))])
    refine hs.go (fun _ kk_ => XS.goto X0.here hx rfl (pc0 := 8) (pc' := 12) rfl (hb hby at_8) (by decide) (by decide) kk_) ?_
    show G s₁ (mkF m 12 #[.val (.long began), .second, .val (.long b1), .second, .val (.long b2), .second, .val (.long t1), .second, .val (.long t2), .second, .val (.int mode), .unset, .unset, .unset, .unset, .unset, .unset, .unset, .unset, .unset, .unset, .unset, .unset, .unset, .unset, .unset, .unset, .unset] [(.int (1 : Int32))])
    exact J12 _ (Or.inr (⟨c4, rfl⟩))
set_option maxRecDepth 65536 in
set_option maxHeartbeats 40000000 in
theorem comes_1 {Post : Tables → Env → Array Value → State → Outcome → State → Prop} (hpost : ∀ tb e args s v u, (limb_1_1.after args s (.returned v) u = true ∧ limb_1_2.after args s (.returned v) u = true ∧ True) → FrameEnd s (.returned v) u (Jvm.fieldLocs frame_1_writes args s ++ Jvm.arrayLocs frame_1_arrays args s ++ Jvm.staticLocs frame_1_statics s) 16 128 → Post tb e args s (.returned v) u) :
    ArmFor flags0 classFile x code maxLocals ret World_1 tables_1 room_1 Calls_1 rest_1 Pre_1 Post := by
  intro l hfl _ _ p e ha hc hk s m args below hf hA hF happ hP
  obtain ⟨hcalls, hrest, hpre⟩ := hP
  obtain ⟨-, -, -, hnamed, -, -, -, hat⟩ := (Spec.applies_iff hf).mp happ
  obtain ⟨hg, hn⟩ := and_e (Cond.before_iff.mp (show (Jvm.Cond.and given_1 narrow_1).before args s = true from hpre))
  obtain ⟨hcnt, hg0⟩ := and_e hg
  obtain ⟨t0, hg1⟩ := and_e hg0
  obtain ⟨t1, hg2⟩ := and_e hg1
  obtain ⟨t2, hg3⟩ := and_e hg2
  obtain ⟨t3, hg4⟩ := and_e hg3
  obtain ⟨t4, hg5⟩ := and_e hg4
  have t5 := hg5
  obtain ⟨w0, w1, w2, w3, w4, w5, rfl⟩ : ∃ w0 w1 w2 w3 w4 w5 : Value, args = #[w0, w1, w2, w3, w4, w5] := by
    have hs : args.size = 6 := by simpa [Cond.value, given_1] using hcnt
    obtain ⟨L⟩ := args
    match L, hs with
    | [w0, w1, w2, w3, w4, w5], _ => exact ⟨w0, w1, w2, w3, w4, w5, rfl⟩
  have hw := fun d (hd : d ∈ tables_1) => atoms_spec (ws := Jvm.Cond.code x code maxLocals ret :: tables_1) hat d (List.mem_cons_of_mem _ hd)
  have hfit : Fit s := fun {y c} hc i hi => by
    obtain ⟨ha, rfl⟩ := Array.getElem?_eq_some_iff.mp hc
    have q := List.all_eq_true.mp ((Array.all_eq_true_iff_forall_mem.mp hF) _ (Array.getElem_mem ha)) i (List.mem_range.mpr hi)
    simpa [Array.getElem?_eq_getElem hi] using q
  obtain ⟨i0, ei0⟩ := isL_v t0
  obtain rfl : w0 = (.long i0) := Option.some.inj ei0
  obtain ⟨i1, ei1⟩ := isL_v t1
  obtain rfl : w1 = (.long i1) := Option.some.inj ei1
  obtain ⟨i2, ei2⟩ := isL_v t2
  obtain rfl : w2 = (.long i2) := Option.some.inj ei2
  obtain ⟨i3, ei3⟩ := isL_v t3
  obtain rfl : w3 = (.long i3) := Option.some.inj ei3
  obtain ⟨i4, ei4⟩ := isL_v t4
  obtain rfl : w4 = (.long i4) := Option.some.inj ei4
  obtain ⟨i5, ei5⟩ := is_v t5
  obtain rfl : w5 = (.int i5) := Option.some.inj ei5
  have S0 := Sta.start (eqv_l (long_at 5000000000) hn) (Or.inr ⟨(hw _ (List.mem_of_getElem? (i := 21) rfl)), (hw _ (List.mem_of_getElem? (i := 22) rfl))⟩)
  obtain ⟨n, o, h1, h2, h3, _, L, rfl, ⟨rfl, N⟩, hq⟩ := rm0 l s _ hw tables_1 i0 i1 i2 i3 i4 i5  s.heap s.heap.size (Nat.le_refl _) (Old.start s) S0 p e ha hc hk s m _ below hf ((Spec.applies_iff_loose hf).mp happ).1 ⟨rfl, State.Warmed39.refl s, rfl⟩ trivial
  refine ⟨n, _, h1, h2, h3, hpost _ _ _ _ _ _ ⟨Cond.after_iff.mpr rfl, Cond.after_iff.mpr (eq_i res_at (Term.int_eval (1)) rfl), trivial⟩ ⟨hq.1, hq.2.1, (hq.2.2.sift fun y hy => Or.inr (N y hy)).mono (by decide) (by decide)⟩⟩
theorem main_1_1 : Claimed_1_1 := comes_1 fun _ _ _ _ _ _ h hF => ⟨h.1, hF⟩
theorem main_1_2 : Claimed_1_2 := comes_1 fun _ _ _ _ _ _ h hF => ⟨h.2.1, hF⟩
end Jvm.Pilot.@@N@@
namespace Jvm.Pilot.@@N@@
open Jvm Jvm.ClassFile Sem Op Lib Jvm.Free Jvm.Stand Jvm.Pilot.@@N@@.Jvm.D
/-! MADE BY PROGRAM (witnessworld.py) out of the Statement's table words and the real class files: 10 classes; the members and pool entries that the words name. The judged class is class 1, her method 1. -/
namespace start1
open Jvm.ClassFile
def u (s : String) : CpInfo := .utf8 (stringToUtf16 s)
/-- a pool by its gaps: so many unusable entries, then the entry; so many at the end -/
def gap : Nat → List CpInfo → List CpInfo
  | 0, r => r
  | n + 1, r => .unusable :: gap n r
def poolList (es : List (Nat × CpInfo)) (last : Nat) : List CpInfo := es.foldr (fun e r => gap e.1 (e.2 :: r)) (gap last [])
def pool (es : List (Nat × CpInfo)) (last : Nat) : Array CpInfo := ⟨poolList es last⟩
def fileOf (pool : Array CpInfo) (this : Nat) (attrs : Array Attribute := #[]) (ms : Array MethodInfo := #[]) (fl : Nat := 33) (sup : Nat := 0) (ifs : Array Nat := #[]) (fds : Array FieldInfo := #[]) : ClassFile where
  minorVersion := 0
  majorVersion := 65
  constantPool := pool
  accessFlags := fl
  thisClass := this
  superClass := sup
  interfaces := ifs
  fields := fds
  methods := ms
  attributes := attrs
def plain (name : String) (sup : Option ClassId) : Class where
  name := name
  kind := .ordinary
  loader := none
  accessFlags := 33
  super := sup
  interfaces := #[]
  cf := none
  fields := #[]
  methods := #[]
  instanceTypes := #[]
  staticTypes := #[]
  resolved := #[]
  callSites := []
  init := .initialized
  statics := none
  mirror := none

def pool0 : Array CpInfo := pool [(5, u "<init>"), (0, u "()V"), (1, .class_ 10), (1, u "java/lang/Object")] 113

def k0c0 : Code := { maxStack := 0, maxLocals := 1, code := object_method_1_code, exceptionTable := #[], attributes := #[] }
def k0m0 : Method := { name := "<init>", desc := "()V", sig := { parameters := [], returnType := none }, accessFlags := 1, code := some k0c0 }
/-- java/lang/Object -/
def k0 : Class := { plain "java/lang/Object" none with
  accessFlags := 33
  interfaces := #[]
  cf := some (fileOf pool0 8 #[] #[{ accessFlags := 1, nameIndex := 5, descriptorIndex := 6, attributes := #[] }] 33 0 #[] #[])
  fields := #[]
  methods := #[k0m0]
  instanceTypes := #[]
  staticTypes := #[]
  resolved := Array.replicate 124 none
  statics := none }

def pool1 : Array CpInfo := pool [(2, .class_ 4), (1, u "java/lang/Object"), (0, u "<init>"), (0, u "()V"), (0, .long 18446744073709551615), (1, .class_ 10), (0, u "com/example/redoubt/redoubt/RequestedBackups$Silence"), (0, .methodref 9 12), (0, .nameAndType 5 13), (0, u "(J)V"), (0, .methodref 9 15), (0, .nameAndType 16 17), (0, u "replied"), (0, u "(JJ)V"), (0, .long 5000000000), (1, .methodref 9 21), (0, .nameAndType 22 23), (0, u "over"), (0, u "(J)Z"), (0, .class_ 25), (0, u "com/example/redoubt/redoubt/SilenceRepliedPinLaw"), (2, u "law"), (0, u "(JJJJJI)Z")] 7

def k1m0 : Method := { name := "<init>", desc := "()V", sig := { parameters := [], returnType := none }, accessFlags := 2, code := none }
def k1c1 : Code := { maxStack := 5, maxLocals := 28, code := code, exceptionTable := #[], attributes := #[] }
def k1m1 : Method := { name := "law", desc := "(JJJJJI)Z", sig := { parameters := [.long, .long, .long, .long, .long, .int], returnType := some .boolean }, accessFlags := 9, code := some k1c1 }
/-- com/example/redoubt/redoubt/SilenceRepliedPinLaw -/
def k1 : Class := { plain "com/example/redoubt/redoubt/SilenceRepliedPinLaw" (some 0) with
  accessFlags := 49
  interfaces := #[]
  cf := some (fileOf pool1 24 #[] #[{ accessFlags := 2, nameIndex := 5, descriptorIndex := 6, attributes := #[] }, { accessFlags := 9, nameIndex := 28, descriptorIndex := 29, attributes := #[] }] 49 2 #[] #[])
  fields := #[]
  methods := #[k1m0, k1m1]
  instanceTypes := #[]
  staticTypes := #[]
  resolved := Array.replicate 37 none
  statics := none }

def pool2 : Array CpInfo := pool [(1, .methodref 2 3), (0, .class_ 4), (0, .nameAndType 5 6), (0, u "java/lang/Object"), (0, u "<init>"), (0, u "()V"), (0, .long 18446744073709551615), (1, .fieldref 10 11), (0, .class_ 12), (0, .nameAndType 13 14), (0, u "com/example/redoubt/redoubt/RequestedBackups$Silence"), (0, u "beat"), (0, u "J"), (0, .fieldref 10 16), (0, .nameAndType 17 14), (0, u "sign"), (0, .fieldref 19 20), (0, .class_ 21), (0, .nameAndType 22 14), (0, u "com/example/redoubt/redoubt/RequestedBackups"), (0, u "SILENCE_NANOS"), (0, u "(J)V"), (3, u "replied"), (0, u "(JJ)V"), (1, u "over"), (0, u "(J)Z")] 5

def k2c0 : Code := { maxStack := 3, maxLocals := 3, code := prog_32_method_1_code, exceptionTable := #[], attributes := #[] }
def k2m0 : Method := { name := "<init>", desc := "(J)V", sig := { parameters := [.long], returnType := none }, accessFlags := 0, code := some k2c0 }
def k2c1 : Code := { maxStack := 4, maxLocals := 5, code := prog_32_method_3_code, exceptionTable := #[], attributes := #[] }
def k2m1 : Method := { name := "replied", desc := "(JJ)V", sig := { parameters := [.long, .long], returnType := none }, accessFlags := 0, code := some k2c1 }
def k2c2 : Code := { maxStack := 4, maxLocals := 3, code := prog_32_method_4_code, exceptionTable := #[], attributes := #[] }
def k2m2 : Method := { name := "over", desc := "(J)Z", sig := { parameters := [.long], returnType := some .boolean }, accessFlags := 0, code := some k2c2 }
/-- com/example/redoubt/redoubt/RequestedBackups$Silence -/
def k2 : Class := { plain "com/example/redoubt/redoubt/RequestedBackups$Silence" (some 0) with
  accessFlags := 48
  interfaces := #[]
  cf := some (fileOf pool2 10 #[.nestHost 19] #[{ accessFlags := 0, nameIndex := 5, descriptorIndex := 23, attributes := #[] }, { accessFlags := 0, nameIndex := 27, descriptorIndex := 28, attributes := #[] }, { accessFlags := 0, nameIndex := 30, descriptorIndex := 31, attributes := #[] }] 48 2 #[] #[{ accessFlags := 2, nameIndex := 17, descriptorIndex := 14, attributes := #[] }, { accessFlags := 2, nameIndex := 13, descriptorIndex := 14, attributes := #[] }])
  fields := #[{ name := "sign", type := .long, accessFlags := 2, slot := 0, constantValue := 0 }, { name := "beat", type := .long, accessFlags := 2, slot := 1, constantValue := 0 }]
  methods := #[k2m0, k2m1, k2m2]
  instanceTypes := #[.long, .long]
  staticTypes := #[]
  resolved := Array.replicate 37 none
  statics := none }

def pool3 : Array CpInfo := pool [(2, .class_ 4), (1, u "java/lang/Object"), (3, .class_ 10), (1, u "com/example/redoubt/redoubt/RequestedBackups"), (0, u "directory"), (0, u "Lcom/example/redoubt/redoubt/storage/DatabaseDirectory;"), (2, u "checkpoints"), (0, u "Lcom/example/redoubt/redoubt/Checkpoints;"), (24, .class_ 42), (0, u "com/example/redoubt/redoubt/RequestedBackups$Silence"), (140, u "stopped"), (0, u "Z"), (5, u "ended"), (2, u "looking"), (146, u "SILENCE_NANOS"), (0, u "J"), (0, u "LOOK_MILLIS"), (1, u "BEAT_MILLIS"), (0, u "ASKER_LOOK_MILLIS")] 76

/-- com/example/redoubt/redoubt/RequestedBackups -/
def k3 : Class := { plain "com/example/redoubt/redoubt/RequestedBackups" (some 0) with
  accessFlags := 48
  interfaces := #[]
  cf := some (fileOf pool3 8 #[.nestMembers #[41]] #[] 48 2 #[] #[{ accessFlags := 26, nameIndex := 342, descriptorIndex := 341, attributes := #[] }, { accessFlags := 26, nameIndex := 344, descriptorIndex := 341, attributes := #[] }, { accessFlags := 26, nameIndex := 345, descriptorIndex := 341, attributes := #[] }, { accessFlags := 26, nameIndex := 340, descriptorIndex := 341, attributes := #[] }, { accessFlags := 18, nameIndex := 11, descriptorIndex := 12, attributes := #[] }, { accessFlags := 18, nameIndex := 15, descriptorIndex := 16, attributes := #[] }, { accessFlags := 2, nameIndex := 183, descriptorIndex := 184, attributes := #[] }, { accessFlags := 2, nameIndex := 193, descriptorIndex := 184, attributes := #[] }, { accessFlags := 2, nameIndex := 190, descriptorIndex := 184, attributes := #[] }])
  fields := #[{ name := "LOOK_MILLIS", type := .long, accessFlags := 26, slot := 0, constantValue := 0 }, { name := "BEAT_MILLIS", type := .long, accessFlags := 26, slot := 1, constantValue := 0 }, { name := "ASKER_LOOK_MILLIS", type := .long, accessFlags := 26, slot := 2, constantValue := 0 }, { name := "SILENCE_NANOS", type := .long, accessFlags := 26, slot := 3, constantValue := 0 }, { name := "directory", type := (.object "com/example/redoubt/redoubt/storage/DatabaseDirectory"), accessFlags := 18, slot := 0, constantValue := 0 }, { name := "checkpoints", type := (.object "com/example/redoubt/redoubt/Checkpoints"), accessFlags := 18, slot := 1, constantValue := 0 }, { name := "stopped", type := .boolean, accessFlags := 2, slot := 2, constantValue := 0 }, { name := "looking", type := .boolean, accessFlags := 2, slot := 3, constantValue := 0 }, { name := "ended", type := .boolean, accessFlags := 2, slot := 4, constantValue := 0 }]
  methods := #[]
  instanceTypes := #[(.object "com/example/redoubt/redoubt/storage/DatabaseDirectory"), (.object "com/example/redoubt/redoubt/Checkpoints"), .boolean, .boolean, .boolean]
  staticTypes := #[.long, .long, .long, .long]
  resolved := Array.replicate 422 none
  statics := some 0 }

def pool4 : Array CpInfo := pool [(1, u "java/lang/Cloneable"), (0, .class_ 1), (0, u "java/lang/Object"), (0, .class_ 3)] 3

/-- java/lang/Cloneable -/
def k4 : Class := { plain "java/lang/Cloneable" (some 0) with
  accessFlags := 1537
  interfaces := #[]
  cf := some (fileOf pool4 2 #[] #[] 1537 4 #[] #[])
  fields := #[]
  methods := #[]
  instanceTypes := #[]
  staticTypes := #[]
  resolved := Array.replicate 8 none
  statics := none }

def pool5 : Array CpInfo := pool [(1, u "java/io/Serializable"), (0, .class_ 1), (0, u "java/lang/Object"), (0, .class_ 3)] 3

/-- java/io/Serializable -/
def k5 : Class := { plain "java/io/Serializable" (some 0) with
  accessFlags := 1537
  interfaces := #[]
  cf := some (fileOf pool5 2 #[] #[] 1537 4 #[] #[])
  fields := #[]
  methods := #[]
  instanceTypes := #[]
  staticTypes := #[]
  resolved := Array.replicate 8 none
  statics := none }

/-- the primitive byte -/
def k6 : Class := { plain "byte" none with kind := .primitive 'B', accessFlags := 0x411 }
/-- [B -/
def k7 : Class := { plain "[B" (some 0) with kind := .array 6 .byte, interfaces := #[4, 5], accessFlags := 1041 }

/-- the primitive int -/
def k8 : Class := { plain "int" none with kind := .primitive 'I', accessFlags := 0x411 }
/-- [I -/
def k9 : Class := { plain "[I" (some 0) with kind := .array 8 .int, interfaces := #[4, 5], accessFlags := 1041 }

def heap : Heap := #[{ cls := 3, slots := #[.long 0, .long 0, .long 0, .long 5000000000], vm := .statics 3 }]
def classes : Array Class := #[k0, k1, k2, k3, k4, k5, k6, k7, k8, k9]
def interned : List (Array UInt16 × Addr) := []
def slotsUsed : Nat := 4
def theMethod : MethodId := ⟨1, 1⟩
def args0 : Array Value := #[.long 7, .long 7, .long 7, .long 7, .long 7, .int 5]
def aboutOver (below : List Frame) : State where
  vm := { classes := classes, interned := interned.toArray }
  heap := heap
  slotsUsed := slotsUsed
  threads := #[{ frames := .invoking theMethod args0 :: below }]
def below0 : List Frame := [.native { method := ⟨0, 0⟩, args := #[] }]
def about1 : State := aboutOver below0
def p0 : Program := .bare "" "" ""
def e0 : Env := launch0.env 0 0 0
theorem w_frames : about1.frames = Frame.invoking theMethod args0 :: below0 := rfl
set_option maxRecDepth 65536 in
theorem w_args : argsFit about1.vm theMethod args0 = true := by decide +kernel
set_option maxRecDepth 65536 in
theorem w_heap : heapFits about1 = true := by decide +kernel
set_option maxRecDepth 65536 in
theorem w_runnable : about1.curStatus? = some .runnable := by decide +kernel
set_option maxRecDepth 65536 in
theorem w_alone : about1.alone = true := by decide +kernel
set_option maxRecDepth 65536 in
theorem w_named : about1.methodNamed? x = some theMethod := by decide +kernel
set_option maxRecDepth 65536 in
theorem w_hears : about1.hears theMethod below0 = true := by decide +kernel
set_option maxRecDepth 65536 in
theorem w_ripe : about1.ripe theMethod args0 below0 = true := by decide +kernel
theorem w_running : about1.status = .running := rfl
set_option maxRecDepth 65536 in
theorem w_room : about1.hasRoom e0.platform room_1 = true :=
  launch0.hasRoom_least _ room_1 (by decide +kernel) (by decide +kernel) (by decide +kernel) (by decide +kernel) (by decide +kernel) (by decide +kernel)
theorem allAtoms_all (ts : List Jvm.Cond) (a : Array Jvm.Value) (st : Jvm.State) : (allAtoms ts).before a st = ts.all (fun c => c.before a st) := by
  induction ts with
  | nil => rfl
  | cons c t ih =>
    show (Jvm.Cond.and c (allAtoms t)).before a st = _
    rw [Jvm.Cond.before_and, ih, List.all_cons]
def words1 : List Jvm.Cond := Jvm.Cond.code x code maxLocals ret :: tables_1
/-- a 'code' word, met by the world's own term for the bytes: nothing is compared byte by byte -/
theorem code_word {y : MethodName} {bytes : ByteArray} {mx : Nat} {rt : Option FieldType} {a : Array Value} {s : State} {m : MethodId} {meth : Method} {c : Code} (h1 : s.methodNamed? y = some m) (h2 : s.vm.method? m = some meth) (h3 : meth.code = some c) (h4 : c.code = bytes)
    (h5 : (c.maxLocals == mx && c.exceptionTable.isEmpty && decide (c.maxStack ≤ mostOperands) && decide (meth.sig.returnType = rt) && !meth.locks && decide (parseMethodDescriptor y.desc = some meth.sig)) = true) : (Jvm.Cond.code y bytes mx rt).before a s = true := by
  simp only [Bool.and_eq_true, beq_iff_eq, Bool.not_eq_true', decide_eq_true_eq] at h5
  obtain ⟨⟨⟨⟨⟨g1, g2⟩, g3⟩, g4⟩, g5⟩, g6⟩ := h5
  simp [Cond.before, Cond.holds, Cond.value, h1, h2, h3, h4, g1, g2, g3, g4, g5, g6]
def isCode : Jvm.Cond → Bool
  | .code _ _ _ _ => true
  | _ => false
theorem all_split {L : List Jvm.Cond} {P : Jvm.Cond → Bool} (h1 : L.all (fun c => isCode c || P c) = true) (h2 : ∀ c ∈ L.filter isCode, P c = true) : L.all P = true := by
  refine List.all_eq_true.mpr fun c hc => ?_
  have h := List.all_eq_true.mp h1 c hc
  rcases Bool.eq_false_or_eq_true (isCode c) with hi | hi
  · exact h2 c (List.mem_filter.mpr ⟨hc, hi⟩)
  · simpa [hi] using h
set_option maxRecDepth 65536 in
theorem w_c0 : (Jvm.Cond.code x code maxLocals ret).before args0 about1 = true := code_word (m := ⟨1, 1⟩) (meth := k1m1) (c := k1c1) (by decide +kernel) rfl rfl rfl (by decide +kernel)
set_option maxRecDepth 65536 in
theorem w_c1 : (Jvm.Cond.code ({ cls := "com/example/redoubt/redoubt/RequestedBackups$Silence", name := "<init>", desc := "(J)V" } : Jvm.MethodName) prog_32_method_1_code (3 : Nat) (Option.none : Option Jvm.ClassFile.FieldType)).before args0 about1 = true := code_word (m := ⟨2, 0⟩) (meth := k2m0) (c := k2c0) (by decide +kernel) rfl rfl rfl (by decide +kernel)
set_option maxRecDepth 65536 in
theorem w_c2 : (Jvm.Cond.code ({ cls := "java/lang/Object", name := "<init>", desc := "()V" } : Jvm.MethodName) object_method_1_code (1 : Nat) (Option.none : Option Jvm.ClassFile.FieldType)).before args0 about1 = true := code_word (m := ⟨0, 0⟩) (meth := k0m0) (c := k0c0) (by decide +kernel) rfl rfl rfl (by decide +kernel)
set_option maxRecDepth 65536 in
theorem w_c3 : (Jvm.Cond.code ({ cls := "com/example/redoubt/redoubt/RequestedBackups$Silence", name := "over", desc := "(J)Z" } : Jvm.MethodName) prog_32_method_4_code (3 : Nat) (Option.some Jvm.ClassFile.FieldType.boolean)).before args0 about1 = true := code_word (m := ⟨2, 2⟩) (meth := k2m2) (c := k2c2) (by decide +kernel) rfl rfl rfl (by decide +kernel)
set_option maxRecDepth 65536 in
theorem w_c4 : (Jvm.Cond.code ({ cls := "com/example/redoubt/redoubt/RequestedBackups$Silence", name := "replied", desc := "(JJ)V" } : Jvm.MethodName) prog_32_method_3_code (5 : Nat) (Option.none : Option Jvm.ClassFile.FieldType)).before args0 about1 = true := code_word (m := ⟨2, 1⟩) (meth := k2m1) (c := k2c1) (by decide +kernel) rfl rfl rfl (by decide +kernel)
def codes1 : List Jvm.Cond := [Jvm.Cond.code x code maxLocals ret, Jvm.Cond.code ({ cls := "com/example/redoubt/redoubt/RequestedBackups$Silence", name := "<init>", desc := "(J)V" } : Jvm.MethodName) prog_32_method_1_code (3 : Nat) (Option.none : Option Jvm.ClassFile.FieldType), Jvm.Cond.code ({ cls := "java/lang/Object", name := "<init>", desc := "()V" } : Jvm.MethodName) object_method_1_code (1 : Nat) (Option.none : Option Jvm.ClassFile.FieldType), Jvm.Cond.code ({ cls := "com/example/redoubt/redoubt/RequestedBackups$Silence", name := "over", desc := "(J)Z" } : Jvm.MethodName) prog_32_method_4_code (3 : Nat) (Option.some Jvm.ClassFile.FieldType.boolean), Jvm.Cond.code ({ cls := "com/example/redoubt/redoubt/RequestedBackups$Silence", name := "replied", desc := "(JJ)V" } : Jvm.MethodName) prog_32_method_3_code (5 : Nat) (Option.none : Option Jvm.ClassFile.FieldType)]
set_option maxRecDepth 65536 in
theorem codes_eq : words1.filter isCode = codes1 := rfl
theorem w_codes : ∀ c ∈ words1.filter isCode, c.before args0 about1 = true := by
  rw [codes_eq]
  intro c hc
  simp only [codes1, List.mem_cons, List.not_mem_nil, or_false] at hc
  rcases hc with rfl | rfl | rfl | rfl | rfl
  · exact w_c0
  · exact w_c1
  · exact w_c2
  · exact w_c3
  · exact w_c4
set_option maxRecDepth 65536 in
theorem w_t1 : (words1.take 24).all (fun c => isCode c || c.before args0 about1) = true := by decide +kernel
set_option maxRecDepth 65536 in
theorem w_t2 : (words1.drop 24).all (fun c => isCode c || c.before args0 about1) = true := by decide +kernel
theorem w_tables : (allAtoms (Jvm.Cond.code x code maxLocals ret :: tables_1)).before args0 about1 = true := by
  rw [allAtoms_all]
  show words1.all (fun c => c.before args0 about1) = true
  refine all_split ?_ w_codes
  rw [← List.take_append_drop 24 words1, List.all_append, w_t1, w_t2]
  rfl
set_option maxRecDepth 65536 in
theorem w_case : (Jvm.Cond.and given_1 narrow_1).before args0 about1 = true := by decide +kernel
theorem w_applies : (headSpec (Jvm.Cond.code x code maxLocals ret :: tables_1) room_1).applies x e0.platform about1 = true :=
  (Spec.applies_iff w_frames).mpr ⟨w_running, w_runnable, w_alone, w_named, w_hears, w_ripe, w_room, w_tables⟩
theorem atStart : AtStart classFile x code maxLocals ret World_1 tables_1 room_1 Calls_1 rest_1 Pre_1 launch0 p0 e0 about1 theMethod args0 below0 :=
  ⟨lists_1, trivial, launch0.admits_env _ _ _, launch0.least_env, fairChoices_fair.cas, fairChoices_fair.clock, w_frames, w_args, w_heap, w_applies, trivial, trivial, w_case⟩
end start1
theorem witness_1 : WitnessClaimed_1 := ⟨start1.p0, start1.e0, start1.about1, start1.theMethod, start1.args0, start1.below0, start1.atStart⟩
end Jvm.Pilot.@@N@@
