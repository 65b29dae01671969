import JvmDerived
import JvmDerived.Pilot.@@N@@Statement
import JvmDerived.Pilot.@@N@@Code
set_option linter.unusedVariables false
set_option linter.unusedSimpArgs false
set_option maxHeartbeats 4000000
namespace Jvm.Pilot.@@N@@
open Jvm Jvm.ClassFile Sem Op Lib Jvm.Free Jvm.Stand Jvm.LawKit Jvm.RoadKit Bundle Jvm.Pilot.@@N@@.Jvm.D
/-! own kit: a walk read backwards: G T g says that from the state T with g on top the body comes to a good end -/
section OwnKit
variable {p : Program} {l : Launch} {e : Env} {R : Room} {s : State} {m : MethodId} {args : Array Value} {below : List Frame} {meth : Method} {c : Code} {T : State} {cells slots : Nat} {Z : State} {a0 : Array Value} {h : Heap} {n0 : Nat} {G : State → JFrame → Prop} {Q : Option Value → Heap → Prop}
def Clo (p : Program) (e : Env) (below : List Frame) (G : State → JFrame → Prop) : Prop := ∀ (T T' : State) (g g' : JFrame), (∀ t, Steps p.tables e below (T'.setTop g') t → Steps p.tables e below (T.setTop g) t) → G T' g' → G T g
theorem Clo.go (hs : Clo p e below G) {T T' : State} {g g' : JFrame} (st : ∀ t, Steps p.tables e below (T'.setTop g') t → Steps p.tables e below (T.setTop g) t) (k : G T' g') : G T g := hs T T' g g' st k
def Sd (p : Program) (l : Launch) (e : Env) (R : Room) (s : State) (m : MethodId) (args : Array Value) (below : List Frame) (meth : Method) (c : Code) (n0 : Nat) (T : State) (h : Heap) (cells slots : Nat) : Prop := ∃ locs, Stand p l e R s m args below meth c T locs cells slots ∧ Fr n0 locs ∧ T.heap = h
theorem Sd.here (X : Sd p l e R s m args below meth c n0 T h cells slots) : At T m c below := by obtain ⟨_, X, _⟩ := X; exact X.here
theorem Sd.more (X : Sd p l e R s m args below meth c n0 T h cells slots) {k n : Nat} (hk : cells ≤ k) (hn : slots ≤ n) : Sd p l e R s m args below meth c n0 T h k n := by obtain ⟨L, X, N⟩ := X; exact ⟨L, X.more hk hn, N⟩
/-- how a body ends -/
def Fnl (p : Program) (l : Launch) (e : Env) (R : Room) (s : State) (m : MethodId) (args : Array Value) (below : List Frame) (meth : Method) (c : Code) (n0 : Nat) (Q : Option Value → Heap → Prop) (G : State → JFrame → Prop) : Prop :=
  ∀ (T : State) (h : Heap) (k n : Nat) (g : JFrame) (v : Option Value), Sd p l e R s m args below meth c n0 T h k n → k ≤ R.cells → n ≤ R.slots → (meth.sig.returnType = none → v = none) →
    (∀ fs, (∀ (f : JFrame) (acts : List Action), f.method = m → f.locked = none → f.entered = [] → (doReturn e (T.setTop f) acts v).1 = T.setFrames fs) → Steps p.tables e below (T.setTop g) (T.setFrames fs)) → Q v h → G T g
/-- a body's contract -/
def Con (l : Launch) (Z : State) (y : MethodName) (bytes : ByteArray) (maxL : Nat) (ret : Option FieldType) (ws : List Jvm.Cond) (rm : Room) (as' : Array Value) (h : Heap) (n0 : Nat) (Q : Option Value → Heap → Prop) : Prop :=
  MetFree l y (head1 (Jvm.Cond.code y bytes maxL ret :: ws) rm) (fun a U => a = as' ∧ Z.Warmed39 U.vm ∧ U.heap = h) (fun _ _ _ _ _ => True)
    (fun _ U o U' => ∃ v L, o = .returned v ∧ (Q v U'.heap ∧ Fr n0 L) ∧ FrameEnd U o U' L rm.cells rm.slots)
theorem Con.of {y : MethodName} {bytes : ByteArray} {maxL : Nat} {ret : Option FieldType} {ws : List Jvm.Cond} {rm : Room} {as' : Array Value} (hp : plainFor y = true)
    (body : ∀ (G : State → JFrame → Prop) (p : Program) (e : Env) (s : State) (m : MethodId) (below : List Frame) (meth : Method) (c : Code) (s₁ : State),
      Clo p e below G → p.tables.exec = Jvm.exec → c.code = bytes → c.maxLocals = maxL → s.vm.findClass y.cls = some m.cls → meth.name = y.name → meth.sig.returnType = ret → Z.Warmed39 s.vm →
      Sd p l e rm s m as' below meth c n0 s₁ h 0 0 → Fnl p l e rm s m as' below meth c n0 Q G → G s₁ (entryFrame m as' maxL)) : Con l Z y bytes maxL ret ws rm as' h n0 Q := by
  refine MetFree.of_bodySF hp hisR ?_
  intro p e s m args below meth c s₁ Bd hml hP hK
  obtain ⟨ha, hZ, hh⟩ := hP
  subst ha
  refine body (fun T g => ∃ s₂ o, Steps p.tables e below (T.setTop g) s₂ ∧ s₂.status = .running ∧ Ended s₂ below o ∧ ∃ v L, o = .returned v ∧ (Q v s₂.heap ∧ Fr n0 L) ∧ FrameEnd s o s₂ L rm.cells rm.slots) p e s m below meth c s₁ ?_ Bd.exec Bd.bytes hml (findClass_of_methodNamed Bd.named) (name_of_methodNamed Bd.named Bd.method).1 Bd.returns hZ ⟨[], Stand.of_body Bd, Fr.nil n0, by rw [← hh, Bd.state]; rfl⟩ ?_
  · intro T T' g g' st ⟨s₂, o, h1, r⟩
    exact ⟨s₂, o, st _ h1, r⟩
  · intro T h k n g v ⟨locs, X, N, eh⟩ hk hn hv st q
    obtain ⟨fs, hr, hrun, hended, hW, hsame⟩ := X.leave (v := v) hv Bd.notSynchronized
    exact ⟨_, _, st fs hr, hrun, hended, v, locs, rfl, ⟨by show Q v T.heap; rw [eh]; exact q, N⟩, ⟨_, rfl⟩, hW, hsame.mono hk hn⟩
theorem rRetI (fin : Fnl p l e R s m args below meth c n0 Q G) (X : Sd p l e R s m args below meth c n0 T h cells slots) (hx : p.tables.exec = Jvm.exec) (hk : cells ≤ R.cells) (hn : slots ≤ R.slots) (hret : meth.sig.returnType = some .int) {pc : Nat} {Ls : Array Slot} {z : Int32} {rest : List Value} (hd : decode c.code pc = .ok (.ireturn, 1)) (q : Q (some (.int z)) h) : G T (mkF m pc Ls (.int z :: rest)) :=
  fin T h cells slots _ (some (.int z)) X hk hn (fun h => by rw [hret] at h; cases h) (fun fs hr => by obtain ⟨_, X, _⟩ := X; exact retOut X hx hret rfl (Or.inl ⟨rfl, Or.inl rfl, _, rfl⟩) hd hr) q
theorem rRetN (fin : Fnl p l e R s m args below meth c n0 Q G) (X : Sd p l e R s m args below meth c n0 T h cells slots) (hx : p.tables.exec = Jvm.exec) (hk : cells ≤ R.cells) (hn : slots ≤ R.slots) {t : FieldType} (hret : meth.sig.returnType = some t) (ht : t = .boolean ∨ t = .byte ∨ t = .char ∨ t = .short) {pc : Nat} {Ls : Array Slot} {z z' : Int32} {rest : List Value} (hd : decode c.code pc = .ok (.ireturn, 1)) (hz : nar t z = z') (q : Q (some (.int z')) h) : G T (mkF m pc Ls (.int z :: rest)) :=
  fin T h cells slots _ (some (.int (nar t z))) X hk hn (fun h => by rw [hret] at h; cases h) (fun fs hr => by obtain ⟨_, X, _⟩ := X; exact retN X hx hret ht hd hr) (hz ▸ q)
theorem rRetL (fin : Fnl p l e R s m args below meth c n0 Q G) (X : Sd p l e R s m args below meth c n0 T h cells slots) (hx : p.tables.exec = Jvm.exec) (hk : cells ≤ R.cells) (hn : slots ≤ R.slots) (hret : meth.sig.returnType = some .long) {pc : Nat} {Ls : Array Slot} {z : Int64} {rest : List Value} (hd : decode c.code pc = .ok (.lreturn, 1)) (q : Q (some (.long z)) h) : G T (mkF m pc Ls (.long z :: rest)) :=
  fin T h cells slots _ (some (.long z)) X hk hn (fun h => by rw [hret] at h; cases h) (fun fs hr => by obtain ⟨_, X, _⟩ := X; exact retOut X hx hret rfl (Or.inr (Or.inl ⟨rfl, rfl, _, rfl⟩)) hd hr) q
theorem rRetA (fin : Fnl p l e R s m args below meth c n0 Q G) (X : Sd p l e R s m args below meth c n0 T h cells slots) (hx : p.tables.exec = Jvm.exec) (hk : cells ≤ R.cells) (hn : slots ≤ R.slots) {t : FieldType} (hret : meth.sig.returnType = some t) (ht : t.isReference = true) {pc : Nat} {Ls : Array Slot} {z : Value} (hz : z.isRef = true) (hw : narrow t z = z) {rest : List Value} (hd : decode c.code pc = .ok (.areturn, 1)) (q : Q (some z) h) : G T (mkF m pc Ls (z :: rest)) :=
  fin T h cells slots _ (some z) X hk hn (fun h => by rw [hret] at h; cases h) (fun fs hr => by obtain ⟨_, X, _⟩ := X; exact retOut X hx hret hw (Or.inr (Or.inr (Or.inr (Or.inr ⟨rfl, ht, hz⟩)))) hd hr) q
theorem rRetD (fin : Fnl p l e R s m args below meth c n0 Q G) (X : Sd p l e R s m args below meth c n0 T h cells slots) (hx : p.tables.exec = Jvm.exec) (hk : cells ≤ R.cells) (hn : slots ≤ R.slots) (hret : meth.sig.returnType = some .double) {pc : Nat} {Ls : Array Slot} {z : UInt64} {rest : List Value} (hd : decode c.code pc = .ok (.dreturn, 1)) (q : Q (some (.double z)) h) : G T (mkF m pc Ls (.double z :: rest)) :=
  fin T h cells slots _ (some (.double z)) X hk hn (fun h => by rw [hret] at h; cases h) (fun fs hr => by obtain ⟨_, X, _⟩ := X; exact retOut X hx hret rfl (Or.inr (Or.inr (Or.inl ⟨rfl, rfl, _, rfl⟩))) hd hr) q
theorem rRetV (fin : Fnl p l e R s m args below meth c n0 Q G) (X : Sd p l e R s m args below meth c n0 T h cells slots) (hx : p.tables.exec = Jvm.exec) (hk : cells ≤ R.cells) (hn : slots ≤ R.slots) (hret : meth.sig.returnType = none) {pc : Nat} {Ls : Array Slot} (hd : decode c.code pc = .ok (.return_, 1)) (q : Q none h) : G T (mkF m pc Ls []) :=
  fin T h cells slots _ none X hk hn (fun _ => rfl) (fun fs hr => by obtain ⟨_, X, _⟩ := X; exact X.returnOut hx hret hd hr) q
theorem rLdcI (hs : Clo p e below G) (X : Sd p l e R s m args below meth c n0 T h cells slots) (hx : p.tables.exec = Jvm.exec) (hZ : Z.Warmed39 s.vm) {own : String} {index : Nat} {v : Int32} (hown : s.vm.findClass own = some m.cls) (w : (Jvm.Cond.constant own index v).before a0 Z = true) {g : JFrame} (hg : g.method = m) (hd : decode c.code g.pc = .ok (.ldc index, 2)) (k : G T { g with pc := g.pc + 2, stack := .int v :: g.stack }) : G T g := by
  obtain ⟨_, X, _⟩ := X
  exact hs.go (X.ldcInt hx hown (mvT hZ w) hg hd) k
theorem rLdcL (hs : Clo p e below G) (X : Sd p l e R s m args below meth c n0 T h cells slots) (hx : p.tables.exec = Jvm.exec) (hZ : Z.Warmed39 s.vm) {own : String} {index : Nat} {v : Int64} (hown : s.vm.findClass own = some m.cls) (w : (Jvm.Cond.constantLong own index v).before a0 Z = true) {g : JFrame} (hg : g.method = m) (hd : decode c.code g.pc = .ok (.ldc2_w index, 3)) (k : G T { g with pc := g.pc + 3, stack := .long v :: g.stack }) : G T g := by
  obtain ⟨_, X, _⟩ := X
  exact hs.go (X.ldc2Long hx hown (mvT hZ w) hg hd) k
theorem rLdcD (hs : Clo p e below G) (X : Sd p l e R s m args below meth c n0 T h cells slots) (hx : p.tables.exec = Jvm.exec) (hZ : Z.Warmed39 s.vm) {own : String} {index : Nat} {v : UInt64} (hown : s.vm.findClass own = some m.cls) (w : (Jvm.Cond.constantDouble own index v).before a0 Z = true) {g : JFrame} (hg : g.method = m) (hd : decode c.code g.pc = .ok (.ldc2_w index, 3)) (k : G T { g with pc := g.pc + 3, stack := .double v :: g.stack }) : G T g := by
  obtain ⟨_, X, _⟩ := X
  exact hs.go (X.ldc2DoubleC hx hown (mvT hZ w) hg hd) k
theorem rIrem (hs : Clo p e below G) (X : Sd p l e R s m args below meth c n0 T h cells slots) (hx : p.tables.exec = Jvm.exec) {g : JFrame} (hg : g.method = m) {x y : Int32} {rest : List Value} (hd : decode c.code g.pc = .ok (.irem, 1)) (hst : g.stack = .int y :: .int x :: rest) (hy : y ≠ 0) (k : G T { g with pc := g.pc + 1, stack := .int (x % y) :: rest }) : G T g := by
  obtain ⟨_, X, _⟩ := X
  exact hs.go (fun _ q => iremM X hx hg hd hst hy q) k
theorem rLrem (hs : Clo p e below G) (X : Sd p l e R s m args below meth c n0 T h cells slots) (hx : p.tables.exec = Jvm.exec) {g : JFrame} (hg : g.method = m) {x y : Int64} {rest : List Value} (hd : decode c.code g.pc = .ok (.lrem, 1)) (hst : g.stack = .long y :: .long x :: rest) (hy : y ≠ 0) (k : G T { g with pc := g.pc + 1, stack := .long (x % y) :: rest }) : G T g :=
  hs.go (fun _ q => XS.lrem X.here hx hg hd hst hy q) (by rw [lrem_mod]; exact k)
/-! arrays -/
theorem rNewP (hs : Clo p e below G) (X : Sd p l e R s m args below meth c n0 T h cells slots) (hx : p.tables.exec = Jvm.exec) (hZ : Z.Warmed39 s.vm) {aty : ArrayType} (w : (Jvm.Cond.arrayClass (newarray.typeOf aty)).before a0 Z = true) {g : JFrame} (hg : g.method = m) (hd : decode c.code g.pc = .ok (.newarray aty, 2)) {n : Int32} {rest : List Value} (hst : g.stack = .int n :: rest)
    (hn : ¬ n < 0) (cap len : Nat) (hcap : n.toNatClampNeg ≤ cap) (hb : cap * 8 ≤ 536870912) (hc : cells + 1 ≤ R.cells) (hl : slots + cap ≤ R.slots)
    (k : ∀ (T' : State) (h' : Heap) (cA : ClassId) (b : Addr), b = h.size → Sd p l e R s m args below meth c n0 T' h' (cells + 1) (slots + cap) → Ext h h' → Arv Z h' b cA (newarray.typeOf aty) n (List.replicate len (defaultValue (newarray.typeOf aty))) (defaultValue (newarray.typeOf aty)) → G T' { g with pc := g.pc + 2, stack := .ref b :: rest }) : G T g := by
  obtain ⟨L, X, N, eh⟩ := X
  obtain ⟨T', h', cA, X', e', E, A, st⟩ := newP X hx hZ w eh hg hd hst hn hcap hb hc hl
  exact hs.go st (k T' h' cA h.size rfl ⟨L, X', N, e'⟩ E ((Arv.new A hn).pad (pad_rep [] _ len)))
theorem rStI (hs : Clo p e below G) (X : Sd p l e R s m args below meth c n0 T h cells slots) (hx : p.tables.exec = Jvm.exec) (hZ : Z.Warmed39 s.vm) {a : Addr} {kc : ClassId} {z : Int32} {vs : List Value} {dv : Value} (V : Arv Z h a kc .int z vs dv) (ga : n0 ≤ a) {j x : Int32} (hj : ¬ j < 0 ∧ j < z) (i : Nat) (hi : j.toNatClampNeg = i) (hl : i < vs.length)
    {g : JFrame} (hg : g.method = m) {rest : List Value} (hst : g.stack = .int x :: .int j :: .ref a :: rest) (hd : decode c.code g.pc = .ok (.iastore, 1))
    (k : ∀ (T' : State) (h' : Heap), Sd p l e R s m args below meth c n0 T' h' cells slots → Wr h h' a i (.int x) → Arv Z h' a kc .int z (vs.set i (.int x)) dv → G T' { g with pc := g.pc + 1, stack := rest }) : G T g := by
  obtain ⟨L, X, N, eh⟩ := X
  obtain ⟨cl, A, q1, S, q3, H, F⟩ := V
  obtain ⟨T', h', X', e', W, st⟩ := stI X hx hZ eh A (j := j) (inb_of S hj) hg hst hd
  exact hs.go st (k T' h' ⟨_, X', Fr.snoc X' N ga, e'⟩ (hi ▸ W) (Arv.set A q1 S q3 H F rfl W i hi hl))
theorem rStB (hs : Clo p e below G) (X : Sd p l e R s m args below meth c n0 T h cells slots) (hx : p.tables.exec = Jvm.exec) (hZ : Z.Warmed39 s.vm) {a : Addr} {kc : ClassId} {z : Int32} {vs : List Value} {dv : Value} (V : Arv Z h a kc .byte z vs dv) (ga : n0 ≤ a) {j x x' : Int32} (hj : ¬ j < 0 ∧ j < z) (i : Nat) (hi : j.toNatClampNeg = i) (hl : i < vs.length) (hnx : x.toInt8.toInt32 = x')
    {g : JFrame} (hg : g.method = m) {rest : List Value} (hst : g.stack = .int x :: .int j :: .ref a :: rest) (hd : decode c.code g.pc = .ok (.bastore, 1))
    (k : ∀ (T' : State) (h' : Heap), Sd p l e R s m args below meth c n0 T' h' cells slots → Wr h h' a i (.int x') → Arv Z h' a kc .byte z (vs.set i (.int x')) dv → G T' { g with pc := g.pc + 1, stack := rest }) : G T g := by
  obtain ⟨L, X, N, eh⟩ := X
  obtain ⟨cl, A, q1, S, q3, H, F⟩ := V
  obtain ⟨T', h', X', e', W, st⟩ := stB X hx hZ eh A (j := j) (inb_of S hj) hg hst hd
  subst hnx
  exact hs.go st (k T' h' ⟨_, X', Fr.snoc X' N ga, e'⟩ (hi ▸ W) (Arv.set A q1 S q3 H F (fits_nar_byte _) W i hi hl))
theorem rStC (hs : Clo p e below G) (X : Sd p l e R s m args below meth c n0 T h cells slots) (hx : p.tables.exec = Jvm.exec) (hZ : Z.Warmed39 s.vm) {a : Addr} {kc : ClassId} {z : Int32} {vs : List Value} {dv : Value} (V : Arv Z h a kc .char z vs dv) (ga : n0 ≤ a) {j x x' : Int32} (hj : ¬ j < 0 ∧ j < z) (i : Nat) (hi : j.toNatClampNeg = i) (hl : i < vs.length) (hnx : nar .char x = x')
    {g : JFrame} (hg : g.method = m) {rest : List Value} (hst : g.stack = .int x :: .int j :: .ref a :: rest) (hd : decode c.code g.pc = .ok (.castore, 1))
    (k : ∀ (T' : State) (h' : Heap), Sd p l e R s m args below meth c n0 T' h' cells slots → Wr h h' a i (.int x') → Arv Z h' a kc .char z (vs.set i (.int x')) dv → G T' { g with pc := g.pc + 1, stack := rest }) : G T g := by
  obtain ⟨L, X, N, eh⟩ := X
  obtain ⟨cl, A, q1, S, q3, H, F⟩ := V
  obtain ⟨T', h', X', e', W, st⟩ := stC X hx hZ eh A (j := j) (inb_of S hj) hg hst hd
  subst hnx
  exact hs.go st (k T' h' ⟨_, X', Fr.snoc X' N ga, e'⟩ (hi ▸ W) (Arv.set A q1 S q3 H F (fits_nar_char _) W i hi hl))
theorem rLdI (hs : Clo p e below G) (X : Sd p l e R s m args below meth c n0 T h cells slots) (hx : p.tables.exec = Jvm.exec) (hZ : Z.Warmed39 s.vm) {a : Addr} {kc : ClassId} {z : Int32} {vs : List Value} {dv : Value} (V : Arv Z h a kc .int z vs dv) {j : Int32} (hj : ¬ j < 0 ∧ j < z) {v : Value} (hv : vs.getD j.toNatClampNeg dv = v)
    {g : JFrame} (hg : g.method = m) {rest : List Value} (hst : g.stack = .int j :: .ref a :: rest) (hd : decode c.code g.pc = .ok (.iaload, 1)) (k : G T { g with pc := g.pc + 1, stack := v :: rest }) : G T g := by
  obtain ⟨L, X, N, eh⟩ := X
  obtain ⟨cl, A, q1, S, q3, H, F⟩ := V
  exact hs.go (X.iaload hx (j := j) (v := v) (by rw [eh]; exact A.1) (State.isArrayOf_alike hZ.alike A.2.1) A.2.2 (inb_of S hj) (H.at (inb_of S hj) hv) hg hst hd) k
theorem rLdB (hs : Clo p e below G) (X : Sd p l e R s m args below meth c n0 T h cells slots) (hx : p.tables.exec = Jvm.exec) (hZ : Z.Warmed39 s.vm) {a : Addr} {kc : ClassId} {z : Int32} {vs : List Value} {dv : Value} (V : Arv Z h a kc .byte z vs dv) {j : Int32} (hj : ¬ j < 0 ∧ j < z) {v : Value} (hv : vs.getD j.toNatClampNeg dv = v)
    {g : JFrame} (hg : g.method = m) {rest : List Value} (hst : g.stack = .int j :: .ref a :: rest) (hd : decode c.code g.pc = .ok (.baload, 1)) (k : G T { g with pc := g.pc + 1, stack := v :: rest }) : G T g := by
  obtain ⟨L, X, N, eh⟩ := X
  obtain ⟨cl, A, q1, S, q3, H, F⟩ := V
  exact hs.go (X.baloadBytes hx (j := j) (v := v) (by rw [eh]; exact A.1) (State.isArrayOf_alike hZ.alike A.2.1) A.2.2 (inb_of S hj) (H.at (inb_of S hj) hv) hg hst hd) k
theorem rLdC (hs : Clo p e below G) (X : Sd p l e R s m args below meth c n0 T h cells slots) (hx : p.tables.exec = Jvm.exec) (hZ : Z.Warmed39 s.vm) {a : Addr} {kc : ClassId} {z : Int32} {vs : List Value} {dv : Value} (V : Arv Z h a kc .char z vs dv) {j : Int32} (hj : ¬ j < 0 ∧ j < z) {v : Value} (hv : vs.getD j.toNatClampNeg dv = v)
    {g : JFrame} (hg : g.method = m) {rest : List Value} (hst : g.stack = .int j :: .ref a :: rest) (hd : decode c.code g.pc = .ok (.caload, 1)) (k : G T { g with pc := g.pc + 1, stack := v :: rest }) : G T g := by
  obtain ⟨L, X, N, eh⟩ := X
  obtain ⟨cl, A, q1, S, q3, H, F⟩ := V
  exact hs.go (X.caload hx (j := j) (v := v) (by rw [eh]; exact A.1) (State.isArrayOf_alike hZ.alike A.2.1) A.2.2 (inb_of S hj) (H.at (inb_of S hj) hv) hg hst hd) k
theorem rLdR (hs : Clo p e below G) (X : Sd p l e R s m args below meth c n0 T h cells slots) (hx : p.tables.exec = Jvm.exec) (hZ : Z.Warmed39 s.vm) {a : Addr} {kc : ClassId} {ty : FieldType} {z : Int32} {vs : List Value} {dv : Value} (V : Arv Z h a kc ty z vs dv) (hty : ty.isReference = true) {j : Int32} (hj : ¬ j < 0 ∧ j < z) {v : Value} (hv : vs.getD j.toNatClampNeg dv = v)
    {g : JFrame} (hg : g.method = m) {rest : List Value} (hst : g.stack = .int j :: .ref a :: rest) (hd : decode c.code g.pc = .ok (.aaload, 1)) (k : G T { g with pc := g.pc + 1, stack := v :: rest }) : G T g := by
  obtain ⟨L, X, N, eh⟩ := X
  obtain ⟨cl, A, q1, S, q3, H, F⟩ := V
  exact hs.go (X.aaload hx (j := j) (v := v) (by rw [eh]; exact A.1) (State.isArrayOf_alike hZ.alike A.2.1) hty A.2.2 (inb_of S hj) (H.at (inb_of S hj) hv) hg hst hd) k
theorem rLen (hs : Clo p e below G) (X : Sd p l e R s m args below meth c n0 T h cells slots) (hx : p.tables.exec = Jvm.exec) (hZ : Z.Warmed39 s.vm) {a : Addr} {kc : ClassId} {ty : FieldType} {z : Int32} {vs : List Value} {dv : Value} (V : Arv Z h a kc ty z vs dv)
    {g : JFrame} (hg : g.method = m) {rest : List Value} (hst : g.stack = .ref a :: rest) (hd : decode c.code g.pc = .ok (.arraylength, 1)) (k : G T { g with pc := g.pc + 1, stack := .int z :: rest }) : G T g := by
  obtain ⟨L, X, N, eh⟩ := X
  obtain ⟨cl, A, q1, S, q3, H, F⟩ := V
  exact hs.go (X.arraylength hx (by rw [eh]; exact A.1) (State.isArrayOf_alike hZ.alike A.2.1) hg hst hd) (by rw [len_of S q3]; exact k)
theorem rNewR (hs : Clo p e below G) (X : Sd p l e R s m args below meth c n0 T h cells slots) (hx : p.tables.exec = Jvm.exec) (hZ : Z.Warmed39 s.vm) {own C : String} {index : Nat} (hown : s.vm.findClass own = some m.cls) (w1 : (Jvm.Cond.classLink own index C).before a0 Z = true) (w2 : (Jvm.Cond.arrayOver (.object C)).before a0 Z = true) {g : JFrame} (hg : g.method = m) (hd : decode c.code g.pc = .ok (.anewarray index, 3)) {n : Int32} {rest : List Value} (hst : g.stack = .int n :: rest)
    (hn : ¬ n < 0) (cap len : Nat) (hcap : n.toNatClampNeg ≤ cap) (hb : cap * 8 ≤ 536870912) (hc : cells + 1 ≤ R.cells) (hl : slots + cap ≤ R.slots)
    (k : ∀ (T' : State) (h' : Heap) (cA : ClassId) (b : Addr), b = h.size → Sd p l e R s m args below meth c n0 T' h' (cells + 1) (slots + cap) → Ext h h' → Arv Z h' b cA (.object C) n (List.replicate len .null) .null → Ovr Z cA C → G T' { g with pc := g.pc + 3, stack := .ref b :: rest }) : G T g := by
  obtain ⟨L, X, N, eh⟩ := X
  obtain ⟨T', h', cA, X', e', E, A, O, st⟩ := newR X hx hZ hown w1 w2 eh hg hd hst hn hcap hb hc hl
  exact hs.go st (k T' h' cA h.size rfl ⟨L, X', N, e'⟩ E ((Arv.new A hn).pad (pad_rep [] _ len)) O)
theorem rStR (hs : Clo p e below G) (X : Sd p l e R s m args below meth c n0 T h cells slots) (hx : p.tables.exec = Jvm.exec) (hZ : Z.Warmed39 s.vm) {a : Addr} {kc : ClassId} {C : String} {z : Int32} {vs : List Value} {dv : Value} (V : Arv Z h a kc (.object C) z vs dv) (O : Ovr Z kc C) (ga : n0 ≤ a) {j : Int32} {y : Addr} (I : Ins Z h y C true) (hj : ¬ j < 0 ∧ j < z) (i : Nat) (hi : j.toNatClampNeg = i) (hl : i < vs.length)
    {g : JFrame} (hg : g.method = m) {rest : List Value} (hst : g.stack = .ref y :: .int j :: .ref a :: rest) (hd : decode c.code g.pc = .ok (.aastore, 1))
    (k : ∀ (T' : State) (h' : Heap), Sd p l e R s m args below meth c n0 T' h' cells slots → Wr h h' a i (.ref y) → Arv Z h' a kc (.object C) z (vs.set i (.ref y)) dv → G T' { g with pc := g.pc + 1, stack := rest }) : G T g := by
  obtain ⟨L, X, N, eh⟩ := X
  obtain ⟨cl, A, q1, S, q3, H, F⟩ := V
  obtain ⟨T', h', X', e', W, st⟩ := stR X hx hZ eh A (j := j) (v := .ref y) (inb_of S hj) rfl (Sto.ofV A q1 O I) hg hst hd
  exact hs.go st (k T' h' ⟨_, X', Fr.snoc X' N ga, e'⟩ (hi ▸ W) (Arv.set A q1 S q3 H F rfl W i hi hl))
/-! objects -/
theorem rNewO (hs : Clo p e below G) (X : Sd p l e R s m args below meth c n0 T h cells slots) (hx : p.tables.exec = Jvm.exec) (hZ : Z.Warmed39 s.vm) {own C : String} {index n : Nat} (hown : s.vm.findClass own = some m.cls) (w : (Jvm.Cond.classLink own index C).before a0 Z = true) (wi : (Jvm.Cond.instantiable C n).before a0 Z = true) (wz : (Jvm.Cond.initialized C).before a0 Z = true)
    {g : JFrame} (hg : g.method = m) (hd : decode c.code g.pc = .ok (.new index, 3)) (hc : cells + 1 ≤ R.cells) (hl : slots + n ≤ R.slots)
    (k : ∀ (T' : State) (h' : Heap) (b : Addr), b = h.size → Sd p l e R s m args below meth c n0 T' h' (cells + 1) (slots + n) → Ext h h' → Exa Z h' b C → (∀ {O nm d : String} {ty : FieldType}, Laid Z a0 C O nm d → parseFieldDescriptor d = some ty → Fld Z h' b O nm d (defaultValue ty)) → G T' { g with pc := g.pc + 3, stack := .ref b :: g.stack }) : G T g := by
  obtain ⟨L, X, N, eh⟩ := X
  obtain ⟨T', h', X', e', E, A, D, -, st⟩ := newO X hx hZ hown w wi wz eh hg hd hc hl
  exact hs.go st (k T' h' h.size rfl ⟨L, X', N, e'⟩ E A D)
theorem rInitO (hs : Clo p e below G) (X : Sd p l e R s m args below meth c n0 T h cells slots) (hx : p.tables.exec = Jvm.exec) (hZ : Z.Warmed39 s.vm) {own : String} {idx : Nat} (hown : s.vm.findClass own = some m.cls) (w1 : (Jvm.Cond.methodLink own idx Lib.objectInit).before a0 Z = true) (w2 : (Jvm.Cond.instanceMethod Lib.objectInit).before a0 Z = true)
    (w3 : (Jvm.Cond.code Lib.objectInit ⟨#[0xb1]⟩ 1 none).before a0 Z = true) {g : JFrame} (hg : g.method = m) (hsize : g.locals.size = c.maxLocals) {a : Addr} {rest : List Value} (hst : g.stack = .ref a :: rest) (hd : decode c.code g.pc = .ok (.invokespecial idx, 3))
    (hf : 1 ≤ R.frames) {W : Nat} (hW : 2 * g.monitorRoom + (rest.map fun v => v.category).sum ≤ W) (hl : W + 12 ≤ R.locals)
    (k : ∀ T' : State, Sd p l e R s m args below meth c n0 T' h cells slots → G T' { g with pc := g.pc + 3, stack := rest }) : G T g := by
  obtain ⟨L, X, N, eh⟩ := X
  obtain ⟨T', X', e', st⟩ := initO X hx hZ hown w1 w2 w3 eh hg hsize hst hd hf hW hl
  exact hs.go st (k T' ⟨L, X', N, e'⟩)
theorem rGetF (hs : Clo p e below G) (X : Sd p l e R s m args below meth c n0 T h cells slots) (hx : p.tables.exec = Jvm.exec) (hZ : Z.Warmed39 s.vm) {own R0 O n d host : String} {index : Nat} (hown : s.vm.findClass own = some m.cls) (w : (Jvm.Cond.fieldLink own index R0 n d).before a0 Z = true ∨ (Jvm.Cond.fieldLinkNest own index R0 n d host).before a0 Z = true) (via : Via Z R0 O n d)
    {a : Addr} {v : Value} (F : Fld Z h a O n d v) {g : JFrame} (hg : g.method = m) {rest : List Value} (hst : g.stack = .ref a :: rest) (hd : decode c.code g.pc = .ok (.getfield index, 3))
    (k : ∀ T' : State, Sd p l e R s m args below meth c n0 T' h cells slots → G T' { g with pc := g.pc + 3, stack := v :: rest }) : G T g := by
  obtain ⟨L, X, N, eh⟩ := X
  obtain ⟨T', X', e', st⟩ := getF X hx hZ hown w via eh F hg hst hd
  exact hs.go st (k T' ⟨L, X', N, e'⟩)
theorem rGetS (hs : Clo p e below G) (X : Sd p l e R s m args below meth c n0 T h cells slots) (hx : p.tables.exec = Jvm.exec) (hZ : Z.Warmed39 s.vm) {own R0 O n d host : String} {index : Nat} (hown : s.vm.findClass own = some m.cls) (w : (Jvm.Cond.fieldLink own index R0 n d).before a0 Z = true ∨ (Jvm.Cond.fieldLinkNest own index R0 n d host).before a0 Z = true) (via : Via Z R0 O n d)
    {v : Value} (F : Sta Z h O n d v) {g : JFrame} (hg : g.method = m) (hd : decode c.code g.pc = .ok (.getstatic index, 3))
    (k : ∀ T' : State, Sd p l e R s m args below meth c n0 T' h cells slots → G T' { g with pc := g.pc + 3, stack := v :: g.stack }) : G T g := by
  obtain ⟨L, X, N, eh⟩ := X
  obtain ⟨T', X', e', st⟩ := getS2 X hx hZ hown w via eh F hg hd
  exact hs.go st (k T' ⟨L, X', N, e'⟩)
theorem rPutF (hs : Clo p e below G) (X : Sd p l e R s m args below meth c n0 T h cells slots) (hx : p.tables.exec = Jvm.exec) (hZ : Z.Warmed39 s.vm) {own R0 O n d host C : String} {index kk : Nat} (ty : FieldType) (hown : s.vm.findClass own = some m.cls) (w : (Jvm.Cond.fieldLink own index R0 n d).before a0 Z = true ∨ (Jvm.Cond.fieldLinkNest own index R0 n d host).before a0 Z = true) (via : Via Z R0 O n d)
    {a : Addr} {v old : Value} (F : Fld Z h a O n d old) (E : Exa Z h a C) (ga : n0 ≤ a) (L : (Jvm.Cond.lays C O n d).before a0 Z = true ∨ ((Jvm.Cond.laysFinal C O n d).before a0 Z = true ∧ own = O ∧ meth.name = "<init>")) (wi : (Jvm.Cond.instantiable C kk).before a0 Z = true)
    (hty : parseFieldDescriptor d = some ty) (hn : narrow ty v = v) (hf : fits ty v = true) {g : JFrame} (hg : g.method = m) {rest : List Value} (hst : g.stack = v :: .ref a :: rest) (hd : decode c.code g.pc = .ok (.putfield index, 3))
    (k : ∀ (T' : State) (h' : Heap), Sd p l e R s m args below meth c n0 T' h' cells slots → Wr h h' a (Jvm.RoadKit.slotOf Z O n d) v → Fld Z h' a O n d v → G T' { g with pc := g.pc + 3, stack := rest }) : G T g := by
  obtain ⟨L0, X, N, eh⟩ := X
  obtain ⟨T', h', X', e', W, st⟩ := putF X hx hZ hown w via eh F E L wi hty hn hf hg hst hd
  exact hs.go st (k T' h' ⟨_, X', Fr.snoc X' N ga, e'⟩ W (F.same W))
/-! calls -/
theorem rCallS (hs : Clo p e below G) (X : Sd p l e R s m args below meth c n0 T h cells slots) (hx : p.tables.exec = Jvm.exec) (hZ : Z.Warmed39 s.vm) {own : String} {index : Nat} {y : MethodName} {bytes : ByteArray} {maxL : Nat} {ret : Option FieldType} {rm : Room} {as' : List Value} {Q' : Option Value → Heap → Prop}
    (hM : Con l Z y bytes maxL ret [] rm as'.toArray h n0 Q') (hown : s.vm.findClass own = some m.cls) (w1 : (Jvm.Cond.methodLink own index y).before a0 Z = true) (w2 : (Jvm.Cond.static y).before a0 Z = true) (w3 : (Jvm.Cond.initialized y.cls).before a0 Z = true) (w4 : (Jvm.Cond.code y bytes maxL ret).before a0 Z = true)
    (hy : y.cls ≠ "java/lang/invoke/MethodHandle" ∧ y.cls ≠ "java/lang/invoke/VarHandle") {g : JFrame} (hg : g.method = m) (hsize : g.locals.size = c.maxLocals) (rest : List Value) (hlen : ∀ sig, parseMethodDescriptor y.desc = some sig → as'.length = sig.parameters.length)
    (hst : g.stack = as'.reverse ++ rest) (W : Nat) (hW : 2 * g.monitorRoom + (rest.map fun v => v.category).sum ≤ W) (hd : decode c.code g.pc = .ok (.invokestatic index, 3))
    (hf : rm.frames + 1 ≤ R.frames) (hl : W + (maxL + 11) + rm.locals ≤ R.locals) (hc : cells + rm.cells ≤ R.cells) (hsl : slots + rm.slots ≤ R.slots)
    (k : ∀ (v : Option Value) (T' : State) (h' : Heap), Sd p l e R s m args below meth c n0 T' h' (cells + rm.cells) (slots + rm.slots) → Q' v h' → G T' { g with pc := g.pc + 3, stack := v.toList ++ rest }) : G T g := by
  obtain ⟨L, X, N, eh⟩ := X
  obtain ⟨v, vm₁, ⟨T', L', k', n'⟩, -, X', ⟨Lc, ⟨hQ, hN⟩, l', y', z'⟩, st⟩ := Jvm.LawKit.callS X hx (y := y) hown (mvT hZ w1) (mvT hZ w2) (mvT hZ w3) (mvT hZ w4) hy (backOf (Q := fun v h L => Q' v h ∧ Fr n0 L) (W := W) hM hZ w4 w3 hf hl) hg hsize (argsL := as') (rest := rest) hlen hst hW hd (fun _ _ => ⟨rfl, eh, hc, hsl⟩)
  dsimp only [Pt.U, Pt.locs, Pt.cells, Pt.slots] at X' l' y' z' st hQ
  subst l' y' z'
  exact hs.go st (k v T' T'.heap ⟨_, X', Fr.app N hN, rfl⟩ hQ)
theorem rCallI (hs : Clo p e below G) (X : Sd p l e R s m args below meth c n0 T h cells slots) (hx : p.tables.exec = Jvm.exec) (hZ : Z.Warmed39 s.vm) {own : String} {index : Nat} {y : MethodName} {bytes : ByteArray} {maxL : Nat} {rm : Room} {a : Addr} {as' : List Value} {Q' : Option Value → Heap → Prop}
    (hM : Con l Z y bytes maxL none [] rm (Value.ref a :: as').toArray h n0 Q') (hyn : y.name = "<init>") (hown : s.vm.findClass own = some m.cls) (w1 : (Jvm.Cond.methodLink own index y).before a0 Z = true) (w2 : (Jvm.Cond.instanceMethod y).before a0 Z = true) (w3 : (Jvm.Cond.initialized y.cls).before a0 Z = true) (w4 : (Jvm.Cond.code y bytes maxL none).before a0 Z = true)
    (hy : y.cls ≠ "java/lang/invoke/MethodHandle" ∧ y.cls ≠ "java/lang/invoke/VarHandle") {g : JFrame} (hg : g.method = m) (hsize : g.locals.size = c.maxLocals) (rest : List Value) (hlen : ∀ sig, parseMethodDescriptor y.desc = some sig → as'.length = sig.parameters.length)
    (hst : g.stack = as'.reverse ++ .ref a :: rest) (W : Nat) (hW : 2 * g.monitorRoom + (rest.map fun v => v.category).sum ≤ W) (hd : decode c.code g.pc = .ok (.invokespecial index, 3))
    (hf : rm.frames + 1 ≤ R.frames) (hl : W + (maxL + 11) + rm.locals ≤ R.locals) (hc : cells + rm.cells ≤ R.cells) (hsl : slots + rm.slots ≤ R.slots)
    (k : ∀ (v : Option Value) (T' : State) (h' : Heap), Sd p l e R s m args below meth c n0 T' h' (cells + rm.cells) (slots + rm.slots) → Q' v h' → G T' { g with pc := g.pc + 3, stack := v.toList ++ rest }) : G T g := by
  obtain ⟨L, X, N, eh⟩ := X
  obtain ⟨v, vm₁, ⟨T', L', k', n'⟩, -, X', ⟨Lc, ⟨hQ, hN⟩, l', y', z'⟩, st⟩ := X.specialBack hx (y := y) hyn hown (mvT hZ w1) (mvT hZ w2) (mvT hZ w4) hy (backOf (Q := fun v h L => Q' v h ∧ Fr n0 L) (W := W) hM hZ w4 w3 hf hl) hg hsize (Steps.refl _) (a := a) (argsL := as') (rest := rest) hlen hst hW hd (fun _ _ => ⟨rfl, eh, hc, hsl⟩)
  dsimp only [Pt.U, Pt.locs, Pt.cells, Pt.slots] at X' l' y' z' st hQ
  subst l' y' z'
  exact hs.go (fun _ q => st.trans q) (k v T' T'.heap ⟨_, X', Fr.app N hN, rfl⟩ hQ)
theorem rCallV (hs : Clo p e below G) (X : Sd p l e R s m args below meth c n0 T h cells slots) (hx : p.tables.exec = Jvm.exec) (hZ : Z.Warmed39 s.vm) {own C : String} {index : Nat} {y : MethodName} {bytes : ByteArray} {maxL : Nat} {ret : Option FieldType} {rm : Room} {a : Addr} {as' : List Value} {Q' : Option Value → Heap → Prop}
    (hM : Con l Z y bytes maxL ret [] rm (Value.ref a :: as').toArray h n0 Q') (E : Exa Z h a C) (hown : s.vm.findClass own = some m.cls) (w1 : (Jvm.Cond.methodLink own index y).before a0 Z = true) (w5 : (Jvm.Cond.declares y).before a0 Z = true) (w6 : (Jvm.Cond.selects C y y).before a0 Z = true) (w2 : (Jvm.Cond.instanceMethod y).before a0 Z = true) (w3 : (Jvm.Cond.initialized y.cls).before a0 Z = true) (w4 : (Jvm.Cond.code y bytes maxL ret).before a0 Z = true)
    (hy : y.cls ≠ "java/lang/invoke/MethodHandle" ∧ y.cls ≠ "java/lang/invoke/VarHandle") {g : JFrame} (hg : g.method = m) (hsize : g.locals.size = c.maxLocals) (rest : List Value) (hlen : ∀ sig, parseMethodDescriptor y.desc = some sig → as'.length = sig.parameters.length)
    (hst : g.stack = as'.reverse ++ .ref a :: rest) (W : Nat) (hW : 2 * g.monitorRoom + (rest.map fun v => v.category).sum ≤ W) (hd : decode c.code g.pc = .ok (.invokevirtual index, 3))
    (hf : rm.frames + 1 ≤ R.frames) (hl : W + (maxL + 11) + rm.locals ≤ R.locals) (hc : cells + rm.cells ≤ R.cells) (hsl : slots + rm.slots ≤ R.slots)
    (k : ∀ (v : Option Value) (T' : State) (h' : Heap), Sd p l e R s m args below meth c n0 T' h' (cells + rm.cells) (slots + rm.slots) → Q' v h' → G T' { g with pc := g.pc + 3, stack := v.toList ++ rest }) : G T g := by
  obtain ⟨L, X, N, eh⟩ := X
  obtain ⟨cB, kB, qa, qb, qc⟩ := isOf (T := T) hZ eh E
  obtain ⟨v, vm₁, ⟨T', L', k', n'⟩, -, X', ⟨Lc, ⟨hQ, hN⟩, l', y', z'⟩, st⟩ := X.virtualBack hx (y := y) (z := y) hown (mvT hZ w1) (mvT hZ w5) (notFace_of_selects (args := #[]) (mvT hZ w6)) (mvT hZ w6) (mvT hZ w2) hy (backOf (Q := fun v h L => Q' v h ∧ Fr n0 L) (W := W) hM hZ w4 w3 hf hl) qa qc hg hsize (Steps.refl _) (argsL := as') (rest := rest) hlen hst hW hd (fun _ _ => ⟨rfl, eh, hc, hsl⟩)
  dsimp only [Pt.U, Pt.locs, Pt.cells, Pt.slots] at X' l' y' z' st hQ
  subst l' y' z'
  exact hs.go (fun _ q => st.trans q) (k v T' T'.heap ⟨_, X', Fr.app N hN, rfl⟩ hQ)
/-! branches -/
theorem ltL {x y : Int64} (h : x < y) : if_icmp.holds .lt (lcmpW x y) 0 = true ∧ if_icmp.holds .ge (lcmpW x y) 0 = false := have q := tlt ((lw_lt x y).mpr h); ⟨q.1, q.2.1⟩
theorem nltL {x y : Int64} (h : ¬ x < y) : if_icmp.holds .lt (lcmpW x y) 0 = false ∧ if_icmp.holds .ge (lcmpW x y) 0 = true := have q := flt (fun z => h ((lw_lt x y).mp z)); ⟨q.1, q.2.1⟩
theorem gtL {x y : Int64} (h : y < x) : if_icmp.holds .gt (lcmpW x y) 0 = true ∧ if_icmp.holds .le (lcmpW x y) 0 = false := have q := tlt ((lw_gt x y).mpr h); ⟨q.2.2.1, q.2.2.2⟩
theorem ngtL {x y : Int64} (h : ¬ y < x) : if_icmp.holds .gt (lcmpW x y) 0 = false ∧ if_icmp.holds .le (lcmpW x y) 0 = true := have q := flt (fun z => h ((lw_gt x y).mp z)); ⟨q.2.2.1, q.2.2.2⟩
theorem eqL {x y : Int64} (h : x = y) : if_icmp.holds .eq (lcmpW x y) 0 = true ∧ if_icmp.holds .ne (lcmpW x y) 0 = false := teq ((lw_eq x y).mpr h)
theorem neqL {x y : Int64} (h : ¬ x = y) : if_icmp.holds .eq (lcmpW x y) 0 = false ∧ if_icmp.holds .ne (lcmpW x y) 0 = true := feq (fun z => h ((lw_eq x y).mp z))
theorem nameIt {α : Type} {P : α → Prop} (x : α) (k : ∀ z, z = x → P z) : P x := k x rfl
theorem eq64 {x y : Int64} (h : x.toInt = y.toInt) : x = y := Int64.toInt_inj.mp h
theorem eq32 {x y : Int32} (h : x.toInt = y.toInt) : x = y := Int32.toInt_inj.mp h
theorem lt64 {x y : Int64} : x < y ↔ x.toInt < y.toInt := Int64.lt_iff_toInt_lt
theorem lt32 {x y : Int32} : x < y ↔ x.toInt < y.toInt := Int32.lt_iff_toInt_lt
theorem e64 {x y : Int64} : x = y ↔ x.toInt = y.toInt := Int64.toInt_inj.symm
theorem e32 {x y : Int32} : x = y ↔ x.toInt = y.toInt := Int32.toInt_inj.symm
theorem c_lremM (x y : Int64) (d : Int) (hy : y.toInt = d) : (0 ≤ x.toInt → (x % y).toInt = x.toInt % d) ∧ (x.toInt < 0 → (x % y).toInt = -((-x.toInt) % d)) := by rw [Int64.toInt_mod, hy]; exact tr _ _
theorem nar_byte (x : Int32) : x.toInt8.toInt32.toInt8.toInt32 = x.toInt8.toInt32 := by simp
end OwnKit


def wB (q : Int64) (k : Int32) : Int32 := ((((q.toUInt64 >>> (k &&& 0x3f).toInt64.toUInt64).toInt64).toInt32).toInt8.toInt32)
def wL (q : Int64) : Int32 := ((q.toInt32).toInt8.toInt32)

theorem d1_0 : decode prog_3_method_8_code 0 = .ok (.aload_n 0, 1) := by decide +kernel
theorem d1_1 : decode prog_3_method_8_code 1 = .ok (.iconst 0, 1) := by decide +kernel
theorem d1_2 : decode prog_3_method_8_code 2 = .ok (.lload_n 1, 1) := by decide +kernel
theorem d1_3 : decode prog_3_method_8_code 3 = .ok (.bipush 24, 2) := by decide +kernel
theorem d1_5 : decode prog_3_method_8_code 5 = .ok (.lushr, 1) := by decide +kernel
theorem d1_6 : decode prog_3_method_8_code 6 = .ok (.l2i, 1) := by decide +kernel
theorem d1_7 : decode prog_3_method_8_code 7 = .ok (.i2b, 1) := by decide +kernel
theorem d1_8 : decode prog_3_method_8_code 8 = .ok (.bastore, 1) := by decide +kernel
theorem d1_9 : decode prog_3_method_8_code 9 = .ok (.aload_n 0, 1) := by decide +kernel
theorem d1_10 : decode prog_3_method_8_code 10 = .ok (.iconst 1, 1) := by decide +kernel
theorem d1_11 : decode prog_3_method_8_code 11 = .ok (.lload_n 1, 1) := by decide +kernel
theorem d1_12 : decode prog_3_method_8_code 12 = .ok (.bipush 16, 2) := by decide +kernel
theorem d1_14 : decode prog_3_method_8_code 14 = .ok (.lushr, 1) := by decide +kernel
theorem d1_15 : decode prog_3_method_8_code 15 = .ok (.l2i, 1) := by decide +kernel
theorem d1_16 : decode prog_3_method_8_code 16 = .ok (.i2b, 1) := by decide +kernel
theorem d1_17 : decode prog_3_method_8_code 17 = .ok (.bastore, 1) := by decide +kernel
theorem d1_18 : decode prog_3_method_8_code 18 = .ok (.aload_n 0, 1) := by decide +kernel
theorem d1_19 : decode prog_3_method_8_code 19 = .ok (.iconst 2, 1) := by decide +kernel
theorem d1_20 : decode prog_3_method_8_code 20 = .ok (.lload_n 1, 1) := by decide +kernel
theorem d1_21 : decode prog_3_method_8_code 21 = .ok (.bipush 8, 2) := by decide +kernel
theorem d1_23 : decode prog_3_method_8_code 23 = .ok (.lushr, 1) := by decide +kernel
theorem d1_24 : decode prog_3_method_8_code 24 = .ok (.l2i, 1) := by decide +kernel
theorem d1_25 : decode prog_3_method_8_code 25 = .ok (.i2b, 1) := by decide +kernel
theorem d1_26 : decode prog_3_method_8_code 26 = .ok (.bastore, 1) := by decide +kernel
theorem d1_27 : decode prog_3_method_8_code 27 = .ok (.aload_n 0, 1) := by decide +kernel
theorem d1_28 : decode prog_3_method_8_code 28 = .ok (.iconst 3, 1) := by decide +kernel
theorem d1_29 : decode prog_3_method_8_code 29 = .ok (.lload_n 1, 1) := by decide +kernel
theorem d1_30 : decode prog_3_method_8_code 30 = .ok (.l2i, 1) := by decide +kernel
theorem d1_31 : decode prog_3_method_8_code 31 = .ok (.i2b, 1) := by decide +kernel
theorem d1_32 : decode prog_3_method_8_code 32 = .ok (.bastore, 1) := by decide +kernel
theorem d1_33 : decode prog_3_method_8_code 33 = .ok (.aload_n 0, 1) := by decide +kernel
theorem d1_34 : decode prog_3_method_8_code 34 = .ok (.areturn, 1) := by decide +kernel
theorem pn_1 : plainFor (⟨"com/example/rowcall/bench/Blocks", "writeKey", "([BJ)[B"⟩ : MethodName) = true := plainFor_of_name (by first | (simp [plainName, overriddenIn]; done) | decide +kernel)
theorem ef_1 (m : MethodId) (x0 : Addr) (x1 : Int64) : entryFrame m #[(.ref x0), (.long x1)] 3 = mkF m 0 #[.val (.ref x0), .val (.long x1), .second] [] := by first | (simp [entryFrame, mkF, argsToLocals, Value.category]; done) | rfl
theorem hy_1 : ((⟨"com/example/rowcall/bench/Blocks", "writeKey", "([BJ)[B"⟩ : MethodName)).cls ≠ "java/lang/invoke/MethodHandle" ∧ ((⟨"com/example/rowcall/bench/Blocks", "writeKey", "([BJ)[B"⟩ : MethodName)).cls ≠ "java/lang/invoke/VarHandle" := by decide
set_option maxRecDepth 65536 in
set_option maxHeartbeats 40000000 in
theorem rm1 (l : Launch) (Z : State) (a0 : Array Value) (hw : ∀ d ∈ tables_1, d.before a0 Z = true) (ws : List Jvm.Cond) (a : Addr) (q : Int64) (kc : ClassId) (x0 x1 x2 x3 x4 x5 : Value) (h0 : Heap) (n0 : Nat) (Z0 : n0 ≤ h0.size) (V_a : Arv Z h0 a kc .byte (6 : Int32) [x0, x1, x2, x3, x4, x5] (.int (0 : Int32))) (g_a : n0 ≤ a) :
    Con l Z (⟨"com/example/rowcall/bench/Blocks", "writeKey", "([BJ)[B"⟩ : MethodName) prog_3_method_8_code 3 (some (.array .byte)) ws ({ frames := 0, cells := 0, slots := 0, locals := 0 } : Room) #[(.ref a), (.long q)] h0 n0 (fun v h => v = some (.ref a) ∧ Keep h0 h [a] ∧ Arv Z h a kc .byte (6 : Int32) [(.int (wB q (24 : Int32))), (.int (wB q (16 : Int32))), (.int (wB q (8 : Int32))), (.int (wL q)), x4, x5] (.int (0 : Int32))) := by
  refine Con.of pn_1 ?_
  intro G p e s m below meth c s₁ hs hx hby hml hown hnm hret hZ X0 fin
  have hml : c.maxLocals = 3 := hml
  have hown : s.vm.findClass "com/example/rowcall/bench/Blocks" = some m.cls := hown
  rw [ef_1]
  have K := Keep.refl h0 ([a] : List Addr)
  have Ksz := K.1
  show G s₁ (mkF m 0 #[.val (.ref a), .val (.long q), .second] [])
  refine hs.go (fun _ kk_ => XS.aloadN X0.here hx rfl (hb hby d1_0) rfl rfl kk_) ?_
  show G s₁ (mkF m 1 #[.val (.ref a), .val (.long q), .second] [(.ref a)])
  refine hs.go (fun _ kk_ => XS.iconst X0.here hx rfl (hb hby d1_1) kk_) ?_
  show G s₁ (mkF m 2 #[.val (.ref a), .val (.long q), .second] [(.int (0 : Int32)), (.ref a)])
  refine hs.go (fun _ kk_ => XS.lloadN X0.here hx rfl (hb hby d1_2) rfl  kk_) ?_
  show G s₁ (mkF m 3 #[.val (.ref a), .val (.long q), .second] [(.long q), (.int (0 : Int32)), (.ref a)])
  refine hs.go (fun _ kk_ => XS.bipush X0.here hx rfl (hb hby d1_3) kk_) ?_
  show G s₁ (mkF m 5 #[.val (.ref a), .val (.long q), .second] [(.int (24 : Int32)), (.long q), (.int (0 : Int32)), (.ref a)])
  refine hs.go (fun _ kk_ => XS.lushr X0.here hx rfl (hb hby d1_5) rfl kk_) ?_
  show G s₁ (mkF m 6 #[.val (.ref a), .val (.long q), .second] [(.long ((q.toUInt64 >>> ((24 : Int32) &&& 0x3f).toInt64.toUInt64).toInt64)), (.int (0 : Int32)), (.ref a)])
  refine hs.go (fun _ kk_ => XS.l2i X0.here hx rfl (hb hby d1_6) rfl kk_) ?_
  show G s₁ (mkF m 7 #[.val (.ref a), .val (.long q), .second] [(.int (((q.toUInt64 >>> ((24 : Int32) &&& 0x3f).toInt64.toUInt64).toInt64).toInt32)), (.int (0 : Int32)), (.ref a)])
  refine hs.go (fun _ kk_ => XS.i2b X0.here hx rfl (hb hby d1_7) rfl kk_) ?_
  show G s₁ (mkF m 8 #[.val (.ref a), .val (.long q), .second] [(.int ((((q.toUInt64 >>> ((24 : Int32) &&& 0x3f).toInt64.toUInt64).toInt64).toInt32).toInt8.toInt32)), (.int (0 : Int32)), (.ref a)])
  refine rStB hs X0 hx hZ V_a g_a ⟨by decide, by decide⟩ 0 (by decide) (by simp) (x' := ((((q.toUInt64 >>> ((24 : Int32) &&& 0x3f).toInt64.toUInt64).toInt64).toInt32).toInt8.toInt32)) (nar_byte _) rfl rfl (hb hby d1_8) (fun T1 h1 X1 W1 V_a => ?_)
  have V_a : Arv Z h1 a kc .byte (6 : Int32) [(.int ((((q.toUInt64 >>> ((24 : Int32) &&& 0x3f).toInt64.toUInt64).toInt64).toInt32).toInt8.toInt32)), x1, x2, x3, x4, x5] (.int (0 : Int32)) := V_a
  have K := K.wr W1 (Or.inl (by simp))
  have Ksz := K.1
  have Z0 := Nat.le_trans Z0 (Keep.of_wr W1).1
  show G T1 (mkF m 9 #[.val (.ref a), .val (.long q), .second] [])
  refine hs.go (fun _ kk_ => XS.aloadN X1.here hx rfl (hb hby d1_9) rfl rfl kk_) ?_
  show G T1 (mkF m 10 #[.val (.ref a), .val (.long q), .second] [(.ref a)])
  refine hs.go (fun _ kk_ => XS.iconst X1.here hx rfl (hb hby d1_10) kk_) ?_
  show G T1 (mkF m 11 #[.val (.ref a), .val (.long q), .second] [(.int (1 : Int32)), (.ref a)])
  refine hs.go (fun _ kk_ => XS.lloadN X1.here hx rfl (hb hby d1_11) rfl  kk_) ?_
  show G T1 (mkF m 12 #[.val (.ref a), .val (.long q), .second] [(.long q), (.int (1 : Int32)), (.ref a)])
  refine hs.go (fun _ kk_ => XS.bipush X1.here hx rfl (hb hby d1_12) kk_) ?_
  show G T1 (mkF m 14 #[.val (.ref a), .val (.long q), .second] [(.int (16 : Int32)), (.long q), (.int (1 : Int32)), (.ref a)])
  refine hs.go (fun _ kk_ => XS.lushr X1.here hx rfl (hb hby d1_14) rfl kk_) ?_
  show G T1 (mkF m 15 #[.val (.ref a), .val (.long q), .second] [(.long ((q.toUInt64 >>> ((16 : Int32) &&& 0x3f).toInt64.toUInt64).toInt64)), (.int (1 : Int32)), (.ref a)])
  refine hs.go (fun _ kk_ => XS.l2i X1.here hx rfl (hb hby d1_15) rfl kk_) ?_
  show G T1 (mkF m 16 #[.val (.ref a), .val (.long q), .second] [(.int (((q.toUInt64 >>> ((16 : Int32) &&& 0x3f).toInt64.toUInt64).toInt64).toInt32)), (.int (1 : Int32)), (.ref a)])
  refine hs.go (fun _ kk_ => XS.i2b X1.here hx rfl (hb hby d1_16) rfl kk_) ?_
  show G T1 (mkF m 17 #[.val (.ref a), .val (.long q), .second] [(.int ((((q.toUInt64 >>> ((16 : Int32) &&& 0x3f).toInt64.toUInt64).toInt64).toInt32).toInt8.toInt32)), (.int (1 : Int32)), (.ref a)])
  refine rStB hs X1 hx hZ V_a g_a ⟨by decide, by decide⟩ 1 (by decide) (by simp) (x' := ((((q.toUInt64 >>> ((16 : Int32) &&& 0x3f).toInt64.toUInt64).toInt64).toInt32).toInt8.toInt32)) (nar_byte _) rfl rfl (hb hby d1_17) (fun T2 h2 X2 W2 V_a => ?_)
  have V_a : Arv Z h2 a kc .byte (6 : Int32) [(.int ((((q.toUInt64 >>> ((24 : Int32) &&& 0x3f).toInt64.toUInt64).toInt64).toInt32).toInt8.toInt32)), (.int ((((q.toUInt64 >>> ((16 : Int32) &&& 0x3f).toInt64.toUInt64).toInt64).toInt32).toInt8.toInt32)), x2, x3, x4, x5] (.int (0 : Int32)) := V_a
  have K := K.wr W2 (Or.inl (by simp))
  have Ksz := K.1
  have Z0 := Nat.le_trans Z0 (Keep.of_wr W2).1
  show G T2 (mkF m 18 #[.val (.ref a), .val (.long q), .second] [])
  refine hs.go (fun _ kk_ => XS.aloadN X2.here hx rfl (hb hby d1_18) rfl rfl kk_) ?_
  show G T2 (mkF m 19 #[.val (.ref a), .val (.long q), .second] [(.ref a)])
  refine hs.go (fun _ kk_ => XS.iconst X2.here hx rfl (hb hby d1_19) kk_) ?_
  show G T2 (mkF m 20 #[.val (.ref a), .val (.long q), .second] [(.int (2 : Int32)), (.ref a)])
  refine hs.go (fun _ kk_ => XS.lloadN X2.here hx rfl (hb hby d1_20) rfl  kk_) ?_
  show G T2 (mkF m 21 #[.val (.ref a), .val (.long q), .second] [(.long q), (.int (2 : Int32)), (.ref a)])
  refine hs.go (fun _ kk_ => XS.bipush X2.here hx rfl (hb hby d1_21) kk_) ?_
  show G T2 (mkF m 23 #[.val (.ref a), .val (.long q), .second] [(.int (8 : Int32)), (.long q), (.int (2 : Int32)), (.ref a)])
  refine hs.go (fun _ kk_ => XS.lushr X2.here hx rfl (hb hby d1_23) rfl kk_) ?_
  show G T2 (mkF m 24 #[.val (.ref a), .val (.long q), .second] [(.long ((q.toUInt64 >>> ((8 : Int32) &&& 0x3f).toInt64.toUInt64).toInt64)), (.int (2 : Int32)), (.ref a)])
  refine hs.go (fun _ kk_ => XS.l2i X2.here hx rfl (hb hby d1_24) rfl kk_) ?_
  show G T2 (mkF m 25 #[.val (.ref a), .val (.long q), .second] [(.int (((q.toUInt64 >>> ((8 : Int32) &&& 0x3f).toInt64.toUInt64).toInt64).toInt32)), (.int (2 : Int32)), (.ref a)])
  refine hs.go (fun _ kk_ => XS.i2b X2.here hx rfl (hb hby d1_25) rfl kk_) ?_
  show G T2 (mkF m 26 #[.val (.ref a), .val (.long q), .second] [(.int ((((q.toUInt64 >>> ((8 : Int32) &&& 0x3f).toInt64.toUInt64).toInt64).toInt32).toInt8.toInt32)), (.int (2 : Int32)), (.ref a)])
  refine rStB hs X2 hx hZ V_a g_a ⟨by decide, by decide⟩ 2 (by decide) (by simp) (x' := ((((q.toUInt64 >>> ((8 : Int32) &&& 0x3f).toInt64.toUInt64).toInt64).toInt32).toInt8.toInt32)) (nar_byte _) rfl rfl (hb hby d1_26) (fun T3 h3 X3 W3 V_a => ?_)
  have V_a : Arv Z h3 a kc .byte (6 : Int32) [(.int ((((q.toUInt64 >>> ((24 : Int32) &&& 0x3f).toInt64.toUInt64).toInt64).toInt32).toInt8.toInt32)), (.int ((((q.toUInt64 >>> ((16 : Int32) &&& 0x3f).toInt64.toUInt64).toInt64).toInt32).toInt8.toInt32)), (.int ((((q.toUInt64 >>> ((8 : Int32) &&& 0x3f).toInt64.toUInt64).toInt64).toInt32).toInt8.toInt32)), x3, x4, x5] (.int (0 : Int32)) := V_a
  have K := K.wr W3 (Or.inl (by simp))
  have Ksz := K.1
  have Z0 := Nat.le_trans Z0 (Keep.of_wr W3).1
  show G T3 (mkF m 27 #[.val (.ref a), .val (.long q), .second] [])
  refine hs.go (fun _ kk_ => XS.aloadN X3.here hx rfl (hb hby d1_27) rfl rfl kk_) ?_
  show G T3 (mkF m 28 #[.val (.ref a), .val (.long q), .second] [(.ref a)])
  refine hs.go (fun _ kk_ => XS.iconst X3.here hx rfl (hb hby d1_28) kk_) ?_
  show G T3 (mkF m 29 #[.val (.ref a), .val (.long q), .second] [(.int (3 : Int32)), (.ref a)])
  refine hs.go (fun _ kk_ => XS.lloadN X3.here hx rfl (hb hby d1_29) rfl  kk_) ?_
  show G T3 (mkF m 30 #[.val (.ref a), .val (.long q), .second] [(.long q), (.int (3 : Int32)), (.ref a)])
  refine hs.go (fun _ kk_ => XS.l2i X3.here hx rfl (hb hby d1_30) rfl kk_) ?_
  show G T3 (mkF m 31 #[.val (.ref a), .val (.long q), .second] [(.int (q.toInt32)), (.int (3 : Int32)), (.ref a)])
  refine hs.go (fun _ kk_ => XS.i2b X3.here hx rfl (hb hby d1_31) rfl kk_) ?_
  show G T3 (mkF m 32 #[.val (.ref a), .val (.long q), .second] [(.int ((q.toInt32).toInt8.toInt32)), (.int (3 : Int32)), (.ref a)])
  refine rStB hs X3 hx hZ V_a g_a ⟨by decide, by decide⟩ 3 (by decide) (by simp) (x' := ((q.toInt32).toInt8.toInt32)) (nar_byte _) rfl rfl (hb hby d1_32) (fun T4 h4 X4 W4 V_a => ?_)
  have V_a : Arv Z h4 a kc .byte (6 : Int32) [(.int ((((q.toUInt64 >>> ((24 : Int32) &&& 0x3f).toInt64.toUInt64).toInt64).toInt32).toInt8.toInt32)), (.int ((((q.toUInt64 >>> ((16 : Int32) &&& 0x3f).toInt64.toUInt64).toInt64).toInt32).toInt8.toInt32)), (.int ((((q.toUInt64 >>> ((8 : Int32) &&& 0x3f).toInt64.toUInt64).toInt64).toInt32).toInt8.toInt32)), (.int ((q.toInt32).toInt8.toInt32)), x4, x5] (.int (0 : Int32)) := V_a
  have K := K.wr W4 (Or.inl (by simp))
  have Ksz := K.1
  have Z0 := Nat.le_trans Z0 (Keep.of_wr W4).1
  show G T4 (mkF m 33 #[.val (.ref a), .val (.long q), .second] [])
  refine hs.go (fun _ kk_ => XS.aloadN X4.here hx rfl (hb hby d1_33) rfl rfl kk_) ?_
  show G T4 (mkF m 34 #[.val (.ref a), .val (.long q), .second] [(.ref a)])
  exact rRetA fin X4 hx (by decide) (by decide) hret rfl rfl rfl (hb hby d1_34) ⟨rfl, K, V_a⟩

theorem own_wB (q : Int64) (k : Int32) (n : Nat) (P : Int) (hk : k.toBitVec.toNat % 64 = n) (h0 : 0 < n) (hP : P = (2 ^ n : Nat)) (h32 : n ≤ 24) : ((wB q k) &&& (255 : Int32)).toInt = ((q.toInt % 18446744073709551616) / P) % 256 := by
  have a1 : ((wB q k) &&& (255 : Int32)).toInt = (wB q k).toInt % 256 := c_mask (wB q k) 255 8 (by decide) (by decide)
  have a2 := c_i2b ((q.toUInt64 >>> (k &&& 0x3f).toInt64.toUInt64).toInt64).toInt32
  have a3 := c_l2i (q.toUInt64 >>> (k &&& 0x3f).toInt64.toUInt64).toInt64
  have a4 := c_lushr q k n hk h0
  rw [← hP] at a4
  rw [a1, wB]
  omega
theorem own_wL (q : Int64) : ((wL q) &&& (255 : Int32)).toInt = q.toInt % 256 := by
  have a1 : ((wL q) &&& (255 : Int32)).toInt = (wL q).toInt % 256 := c_mask (wL q) 255 8 (by decide) (by decide)
  have a2 := c_i2b q.toInt32
  have a3 := c_l2i q
  rw [a1, wL]
  omega
theorem own_law (q : Int64) {bk : Int64} (hbk : bk = (((((((wB q (24 : Int32)) &&& (255 : Int32)).toInt64) <<< ((24 : Int32) &&& 0x3f).toInt64) ||| ((((wB q (16 : Int32)) &&& (255 : Int32)) <<< ((16 : Int32) &&& 31)).toInt64)) ||| ((((wB q (8 : Int32)) &&& (255 : Int32)) <<< ((8 : Int32) &&& 31)).toInt64)) ||| (((wL q) &&& (255 : Int32)).toInt64))) : bk = (q &&& (4294967295 : Int64)) := by
  have a0 := own_wB q 24 24 16777216 (by decide) (by decide) rfl (by decide)
  have a1 := own_wB q 16 16 65536 (by decide) (by decide) rfl (by decide)
  have a2 := own_wB q 8 8 256 (by decide) (by decide) rfl (by decide)
  have a3 := own_wL q
  generalize (wB q (24 : Int32)) &&& (255 : Int32) = b0 at *
  generalize (wB q (16 : Int32)) &&& (255 : Int32) = b1 at *
  generalize (wB q (8 : Int32)) &&& (255 : Int32) = b2 at *
  generalize (wL q) &&& (255 : Int32) = b3 at *
  have c0 := c_i2l b0
  have c3 := c_i2l b3
  have s0 : ((b0.toInt64 <<< ((24 : Int32) &&& 0x3f).toInt64).toInt - b0.toInt64.toInt * 16777216) % 18446744073709551616 = 0 := c_lshl b0.toInt64 24 24 (by decide)
  have s1 : ((b1 <<< ((16 : Int32) &&& 31)).toInt - b1.toInt * 65536) % 4294967296 = 0 := c_ishl b1 16 16 (by decide)
  have s2 : ((b2 <<< ((8 : Int32) &&& 31)).toInt - b2.toInt * 256) % 4294967296 = 0 := c_ishl b2 8 8 (by decide)
  have t1 := c_i2l (b1 <<< ((16 : Int32) &&& 31))
  have t2 := c_i2l (b2 <<< ((8 : Int32) &&& 31))
  have u0 := rng64 (b0.toInt64 <<< ((24 : Int32) &&& 0x3f).toInt64)
  have u1 := rng32 (b1 <<< ((16 : Int32) &&& 31))
  have u2 := rng32 (b2 <<< ((8 : Int32) &&& 31))
  generalize b0.toInt64 <<< ((24 : Int32) &&& 0x3f).toInt64 = A at *
  generalize (b1 <<< ((16 : Int32) &&& 31)).toInt64 = B at *
  generalize (b2 <<< ((8 : Int32) &&& 31)).toInt64 = D at *
  generalize b3.toInt64 = E at *
  have r := rng64 q
  have e0 : A.toInt = b0.toInt * 16777216 := by omega
  have e1 : B.toInt = b1.toInt * 65536 := by omega
  have e2 : D.toInt = b2.toInt * 256 := by omega
  have o1 := c_orL A B 24 (by decide) 16777216 rfl (by omega) (by omega) (by omega)
  have v1 := rng64 (A ||| B)
  have w1 : (A ||| B).toInt = A.toInt + B.toInt := by omega
  have o2 := c_orL (A ||| B) D 16 (by decide) 65536 rfl (by omega) (by omega) (by omega)
  have v2 := rng64 (A ||| B ||| D)
  have w2 : (A ||| B ||| D).toInt = A.toInt + B.toInt + D.toInt := by omega
  have o3 := c_orL (A ||| B ||| D) E 8 (by decide) 256 rfl (by omega) (by omega) (by omega)
  have v3 := rng64 (A ||| B ||| D ||| E)
  have w3 : (A ||| B ||| D ||| E).toInt = A.toInt + B.toInt + D.toInt + E.toInt := by omega
  have m : (q &&& (4294967295 : Int64)).toInt = q.toInt % 4294967296 := c_maskL q 4294967295 32 (by decide) (by decide)
  rw [hbk]
  apply eq64
  rw [w3, m]
  omega

theorem pd_0 : parseMethodDescriptor "([BJ)[B" = some ⟨[(.array .byte), .long], some (.array .byte)⟩ := by decide +kernel
theorem pn_0 : plainFor x = true := plainFor_of_name (show plainName "com/example/rowcall/bench/BlocksWriteKeyPinLaw" = true by first | (simp [plainName, overriddenIn]; done) | decide +kernel)
theorem ef_0 (m : MethodId) (x0 : Int64) (x1 : Int32) (x2 : Int32) : entryFrame m #[(.long x0), (.int x1), (.int x2)] maxLocals = mkF m 0 #[.val (.long x0), .second, .val (.int x1), .val (.int x2), .unset, .unset, .unset, .unset] [] := by first | (simp [entryFrame, mkF, argsToLocals, Value.category, maxLocals]; done) | rfl
set_option maxRecDepth 65536 in
set_option maxHeartbeats 40000000 in
theorem rm0 (l : Launch) (Z : State) (a0 : Array Value) (hw : ∀ d ∈ tables_1, d.before a0 Z = true) (ws : List Jvm.Cond) (q : Int64) (p1 p2 : Int32) (h0 : Heap) (n0 : Nat) (Z0 : n0 ≤ h0.size)  :
    Con l Z x code maxLocals ret ws room_1 #[(.long q), (.int p1), (.int p2)] h0 n0 (fun v h => v = some (.int 1)) := by
  refine Con.of pn_0 ?_
  intro G p e s m below meth c s₁ hs hx hby hml hown hnm hret hZ X0 fin
  have hml : c.maxLocals = 8 := hml
  have hown : s.vm.findClass "com/example/rowcall/bench/BlocksWriteKeyPinLaw" = some m.cls := hown
  rw [ef_0]
  show G s₁ (mkF m 0 #[.val (.long q), .second, .val (.int p1), .val (.int p2), .unset, .unset, .unset, .unset] [])
  refine hs.go (fun _ kk_ => XS.bipush X0.here hx rfl (hb hby at_0) kk_) ?_
  show G s₁ (mkF m 2 #[.val (.long q), .second, .val (.int p1), .val (.int p2), .unset, .unset, .unset, .unset] [(.int (6 : Int32))])
  refine rNewP hs X0 hx hZ (hw _ (List.mem_of_getElem? (i := 0) rfl)) rfl (hb hby at_2) rfl (by decide) 6 6 (by decide) (by decide) (by decide) (by decide) (fun T1 h1 k1 b g1 X1 E1 V_b => ?_)
  have V_b : Arv Z h1 b k1 .byte (6 : Int32) [(.int (0 : Int32)), (.int (0 : Int32)), (.int (0 : Int32)), (.int (0 : Int32)), (.int (0 : Int32)), (.int (0 : Int32))] (.int (0 : Int32)) := V_b
  have g_b : n0 ≤ b := by rw [g1]; exact Z0
  have Z0 := Nat.le_trans Z0 E1.1
  show G T1 (mkF m 4 #[.val (.long q), .second, .val (.int p1), .val (.int p2), .unset, .unset, .unset, .unset] [(.ref b)])
  refine hs.go (fun _ kk_ => XS.astore X1.here hx rfl (hb hby at_4) rfl rfl (l' := #[.val (.long q), .second, .val (.int p1), .val (.int p2), .val (.ref b), .unset, .unset, .unset]) rfl kk_) ?_
  show G T1 (mkF m 6 #[.val (.long q), .second, .val (.int p1), .val (.int p2), .val (.ref b), .unset, .unset, .unset] [])
  refine hs.go (fun _ kk_ => XS.aload X1.here hx rfl (hb hby at_6) rfl rfl kk_) ?_
  show G T1 (mkF m 8 #[.val (.long q), .second, .val (.int p1), .val (.int p2), .val (.ref b), .unset, .unset, .unset] [(.ref b)])
  refine hs.go (fun _ kk_ => XS.iconst X1.here hx rfl (hb hby at_8) kk_) ?_
  show G T1 (mkF m 9 #[.val (.long q), .second, .val (.int p1), .val (.int p2), .val (.ref b), .unset, .unset, .unset] [(.int (0 : Int32)), (.ref b)])
  refine hs.go (fun _ kk_ => XS.iloadN X1.here hx rfl (hb hby at_9) rfl  kk_) ?_
  show G T1 (mkF m 10 #[.val (.long q), .second, .val (.int p1), .val (.int p2), .val (.ref b), .unset, .unset, .unset] [(.int p1), (.int (0 : Int32)), (.ref b)])
  refine hs.go (fun _ kk_ => XS.i2b X1.here hx rfl (hb hby at_10) rfl kk_) ?_
  show G T1 (mkF m 11 #[.val (.long q), .second, .val (.int p1), .val (.int p2), .val (.ref b), .unset, .unset, .unset] [(.int (p1.toInt8.toInt32)), (.int (0 : Int32)), (.ref b)])
  refine rStB hs X1 hx hZ V_b g_b ⟨by decide, by decide⟩ 0 (by decide) (by simp) (x' := (p1.toInt8.toInt32)) (nar_byte _) rfl rfl (hb hby at_11) (fun T2 h2 X2 W2 V_b => ?_)
  have V_b : Arv Z h2 b k1 .byte (6 : Int32) [(.int (p1.toInt8.toInt32)), (.int (0 : Int32)), (.int (0 : Int32)), (.int (0 : Int32)), (.int (0 : Int32)), (.int (0 : Int32))] (.int (0 : Int32)) := V_b
  have Z0 := Nat.le_trans Z0 (Keep.of_wr W2).1
  show G T2 (mkF m 12 #[.val (.long q), .second, .val (.int p1), .val (.int p2), .val (.ref b), .unset, .unset, .unset] [])
  refine hs.go (fun _ kk_ => XS.aload X2.here hx rfl (hb hby at_12) rfl rfl kk_) ?_
  show G T2 (mkF m 14 #[.val (.long q), .second, .val (.int p1), .val (.int p2), .val (.ref b), .unset, .unset, .unset] [(.ref b)])
  refine hs.go (fun _ kk_ => XS.iconst X2.here hx rfl (hb hby at_14) kk_) ?_
  show G T2 (mkF m 15 #[.val (.long q), .second, .val (.int p1), .val (.int p2), .val (.ref b), .unset, .unset, .unset] [(.int (1 : Int32)), (.ref b)])
  refine hs.go (fun _ kk_ => XS.iloadN X2.here hx rfl (hb hby at_15) rfl  kk_) ?_
  show G T2 (mkF m 16 #[.val (.long q), .second, .val (.int p1), .val (.int p2), .val (.ref b), .unset, .unset, .unset] [(.int p1), (.int (1 : Int32)), (.ref b)])
  refine hs.go (fun _ kk_ => XS.bipush X2.here hx rfl (hb hby at_16) kk_) ?_
  show G T2 (mkF m 18 #[.val (.long q), .second, .val (.int p1), .val (.int p2), .val (.ref b), .unset, .unset, .unset] [(.int (8 : Int32)), (.int p1), (.int (1 : Int32)), (.ref b)])
  refine hs.go (fun _ kk_ => XS.ishr X2.here hx rfl (hb hby at_18) rfl kk_) ?_
  show G T2 (mkF m 19 #[.val (.long q), .second, .val (.int p1), .val (.int p2), .val (.ref b), .unset, .unset, .unset] [(.int (p1 >>> ((8 : Int32) &&& 31))), (.int (1 : Int32)), (.ref b)])
  refine hs.go (fun _ kk_ => XS.i2b X2.here hx rfl (hb hby at_19) rfl kk_) ?_
  show G T2 (mkF m 20 #[.val (.long q), .second, .val (.int p1), .val (.int p2), .val (.ref b), .unset, .unset, .unset] [(.int ((p1 >>> ((8 : Int32) &&& 31)).toInt8.toInt32)), (.int (1 : Int32)), (.ref b)])
  refine rStB hs X2 hx hZ V_b g_b ⟨by decide, by decide⟩ 1 (by decide) (by simp) (x' := ((p1 >>> ((8 : Int32) &&& 31)).toInt8.toInt32)) (nar_byte _) rfl rfl (hb hby at_20) (fun T3 h3 X3 W3 V_b => ?_)
  have V_b : Arv Z h3 b k1 .byte (6 : Int32) [(.int (p1.toInt8.toInt32)), (.int ((p1 >>> ((8 : Int32) &&& 31)).toInt8.toInt32)), (.int (0 : Int32)), (.int (0 : Int32)), (.int (0 : Int32)), (.int (0 : Int32))] (.int (0 : Int32)) := V_b
  have Z0 := Nat.le_trans Z0 (Keep.of_wr W3).1
  show G T3 (mkF m 21 #[.val (.long q), .second, .val (.int p1), .val (.int p2), .val (.ref b), .unset, .unset, .unset] [])
  refine hs.go (fun _ kk_ => XS.aload X3.here hx rfl (hb hby at_21) rfl rfl kk_) ?_
  show G T3 (mkF m 23 #[.val (.long q), .second, .val (.int p1), .val (.int p2), .val (.ref b), .unset, .unset, .unset] [(.ref b)])
  refine hs.go (fun _ kk_ => XS.iconst X3.here hx rfl (hb hby at_23) kk_) ?_
  show G T3 (mkF m 24 #[.val (.long q), .second, .val (.int p1), .val (.int p2), .val (.ref b), .unset, .unset, .unset] [(.int (2 : Int32)), (.ref b)])
  refine hs.go (fun _ kk_ => XS.iloadN X3.here hx rfl (hb hby at_24) rfl  kk_) ?_
  show G T3 (mkF m 25 #[.val (.long q), .second, .val (.int p1), .val (.int p2), .val (.ref b), .unset, .unset, .unset] [(.int p1), (.int (2 : Int32)), (.ref b)])
  refine hs.go (fun _ kk_ => XS.bipush X3.here hx rfl (hb hby at_25) kk_) ?_
  show G T3 (mkF m 27 #[.val (.long q), .second, .val (.int p1), .val (.int p2), .val (.ref b), .unset, .unset, .unset] [(.int (16 : Int32)), (.int p1), (.int (2 : Int32)), (.ref b)])
  refine hs.go (fun _ kk_ => XS.ishr X3.here hx rfl (hb hby at_27) rfl kk_) ?_
  show G T3 (mkF m 28 #[.val (.long q), .second, .val (.int p1), .val (.int p2), .val (.ref b), .unset, .unset, .unset] [(.int (p1 >>> ((16 : Int32) &&& 31))), (.int (2 : Int32)), (.ref b)])
  refine hs.go (fun _ kk_ => XS.i2b X3.here hx rfl (hb hby at_28) rfl kk_) ?_
  show G T3 (mkF m 29 #[.val (.long q), .second, .val (.int p1), .val (.int p2), .val (.ref b), .unset, .unset, .unset] [(.int ((p1 >>> ((16 : Int32) &&& 31)).toInt8.toInt32)), (.int (2 : Int32)), (.ref b)])
  refine rStB hs X3 hx hZ V_b g_b ⟨by decide, by decide⟩ 2 (by decide) (by simp) (x' := ((p1 >>> ((16 : Int32) &&& 31)).toInt8.toInt32)) (nar_byte _) rfl rfl (hb hby at_29) (fun T4 h4 X4 W4 V_b => ?_)
  have V_b : Arv Z h4 b k1 .byte (6 : Int32) [(.int (p1.toInt8.toInt32)), (.int ((p1 >>> ((8 : Int32) &&& 31)).toInt8.toInt32)), (.int ((p1 >>> ((16 : Int32) &&& 31)).toInt8.toInt32)), (.int (0 : Int32)), (.int (0 : Int32)), (.int (0 : Int32))] (.int (0 : Int32)) := V_b
  have Z0 := Nat.le_trans Z0 (Keep.of_wr W4).1
  show G T4 (mkF m 30 #[.val (.long q), .second, .val (.int p1), .val (.int p2), .val (.ref b), .unset, .unset, .unset] [])
  refine hs.go (fun _ kk_ => XS.aload X4.here hx rfl (hb hby at_30) rfl rfl kk_) ?_
  show G T4 (mkF m 32 #[.val (.long q), .second, .val (.int p1), .val (.int p2), .val (.ref b), .unset, .unset, .unset] [(.ref b)])
  refine hs.go (fun _ kk_ => XS.iconst X4.here hx rfl (hb hby at_32) kk_) ?_
  show G T4 (mkF m 33 #[.val (.long q), .second, .val (.int p1), .val (.int p2), .val (.ref b), .unset, .unset, .unset] [(.int (3 : Int32)), (.ref b)])
  refine hs.go (fun _ kk_ => XS.iloadN X4.here hx rfl (hb hby at_33) rfl  kk_) ?_
  show G T4 (mkF m 34 #[.val (.long q), .second, .val (.int p1), .val (.int p2), .val (.ref b), .unset, .unset, .unset] [(.int p1), (.int (3 : Int32)), (.ref b)])
  refine hs.go (fun _ kk_ => XS.bipush X4.here hx rfl (hb hby at_34) kk_) ?_
  show G T4 (mkF m 36 #[.val (.long q), .second, .val (.int p1), .val (.int p2), .val (.ref b), .unset, .unset, .unset] [(.int (24 : Int32)), (.int p1), (.int (3 : Int32)), (.ref b)])
  refine hs.go (fun _ kk_ => XS.ishr X4.here hx rfl (hb hby at_36) rfl kk_) ?_
  show G T4 (mkF m 37 #[.val (.long q), .second, .val (.int p1), .val (.int p2), .val (.ref b), .unset, .unset, .unset] [(.int (p1 >>> ((24 : Int32) &&& 31))), (.int (3 : Int32)), (.ref b)])
  refine hs.go (fun _ kk_ => XS.i2b X4.here hx rfl (hb hby at_37) rfl kk_) ?_
  show G T4 (mkF m 38 #[.val (.long q), .second, .val (.int p1), .val (.int p2), .val (.ref b), .unset, .unset, .unset] [(.int ((p1 >>> ((24 : Int32) &&& 31)).toInt8.toInt32)), (.int (3 : Int32)), (.ref b)])
  refine rStB hs X4 hx hZ V_b g_b ⟨by decide, by decide⟩ 3 (by decide) (by simp) (x' := ((p1 >>> ((24 : Int32) &&& 31)).toInt8.toInt32)) (nar_byte _) rfl rfl (hb hby at_38) (fun T5 h5 X5 W5 V_b => ?_)
  have V_b : Arv Z h5 b k1 .byte (6 : Int32) [(.int (p1.toInt8.toInt32)), (.int ((p1 >>> ((8 : Int32) &&& 31)).toInt8.toInt32)), (.int ((p1 >>> ((16 : Int32) &&& 31)).toInt8.toInt32)), (.int ((p1 >>> ((24 : Int32) &&& 31)).toInt8.toInt32)), (.int (0 : Int32)), (.int (0 : Int32))] (.int (0 : Int32)) := V_b
  have Z0 := Nat.le_trans Z0 (Keep.of_wr W5).1
  show G T5 (mkF m 39 #[.val (.long q), .second, .val (.int p1), .val (.int p2), .val (.ref b), .unset, .unset, .unset] [])
  refine hs.go (fun _ kk_ => XS.aload X5.here hx rfl (hb hby at_39) rfl rfl kk_) ?_
  show G T5 (mkF m 41 #[.val (.long q), .second, .val (.int p1), .val (.int p2), .val (.ref b), .unset, .unset, .unset] [(.ref b)])
  refine hs.go (fun _ kk_ => XS.iconst X5.here hx rfl (hb hby at_41) kk_) ?_
  show G T5 (mkF m 42 #[.val (.long q), .second, .val (.int p1), .val (.int p2), .val (.ref b), .unset, .unset, .unset] [(.int (4 : Int32)), (.ref b)])
  refine hs.go (fun _ kk_ => XS.iloadN X5.here hx rfl (hb hby at_42) rfl  kk_) ?_
  show G T5 (mkF m 43 #[.val (.long q), .second, .val (.int p1), .val (.int p2), .val (.ref b), .unset, .unset, .unset] [(.int p2), (.int (4 : Int32)), (.ref b)])
  refine hs.go (fun _ kk_ => XS.i2b X5.here hx rfl (hb hby at_43) rfl kk_) ?_
  show G T5 (mkF m 44 #[.val (.long q), .second, .val (.int p1), .val (.int p2), .val (.ref b), .unset, .unset, .unset] [(.int (p2.toInt8.toInt32)), (.int (4 : Int32)), (.ref b)])
  refine rStB hs X5 hx hZ V_b g_b ⟨by decide, by decide⟩ 4 (by decide) (by simp) (x' := (p2.toInt8.toInt32)) (nar_byte _) rfl rfl (hb hby at_44) (fun T6 h6 X6 W6 V_b => ?_)
  have V_b : Arv Z h6 b k1 .byte (6 : Int32) [(.int (p1.toInt8.toInt32)), (.int ((p1 >>> ((8 : Int32) &&& 31)).toInt8.toInt32)), (.int ((p1 >>> ((16 : Int32) &&& 31)).toInt8.toInt32)), (.int ((p1 >>> ((24 : Int32) &&& 31)).toInt8.toInt32)), (.int (p2.toInt8.toInt32)), (.int (0 : Int32))] (.int (0 : Int32)) := V_b
  have Z0 := Nat.le_trans Z0 (Keep.of_wr W6).1
  show G T6 (mkF m 45 #[.val (.long q), .second, .val (.int p1), .val (.int p2), .val (.ref b), .unset, .unset, .unset] [])
  refine hs.go (fun _ kk_ => XS.aload X6.here hx rfl (hb hby at_45) rfl rfl kk_) ?_
  show G T6 (mkF m 47 #[.val (.long q), .second, .val (.int p1), .val (.int p2), .val (.ref b), .unset, .unset, .unset] [(.ref b)])
  refine hs.go (fun _ kk_ => XS.iconst X6.here hx rfl (hb hby at_47) kk_) ?_
  show G T6 (mkF m 48 #[.val (.long q), .second, .val (.int p1), .val (.int p2), .val (.ref b), .unset, .unset, .unset] [(.int (5 : Int32)), (.ref b)])
  refine hs.go (fun _ kk_ => XS.iloadN X6.here hx rfl (hb hby at_48) rfl  kk_) ?_
  show G T6 (mkF m 49 #[.val (.long q), .second, .val (.int p1), .val (.int p2), .val (.ref b), .unset, .unset, .unset] [(.int p2), (.int (5 : Int32)), (.ref b)])
  refine hs.go (fun _ kk_ => XS.bipush X6.here hx rfl (hb hby at_49) kk_) ?_
  show G T6 (mkF m 51 #[.val (.long q), .second, .val (.int p1), .val (.int p2), .val (.ref b), .unset, .unset, .unset] [(.int (8 : Int32)), (.int p2), (.int (5 : Int32)), (.ref b)])
  refine hs.go (fun _ kk_ => XS.ishr X6.here hx rfl (hb hby at_51) rfl kk_) ?_
  show G T6 (mkF m 52 #[.val (.long q), .second, .val (.int p1), .val (.int p2), .val (.ref b), .unset, .unset, .unset] [(.int (p2 >>> ((8 : Int32) &&& 31))), (.int (5 : Int32)), (.ref b)])
  refine hs.go (fun _ kk_ => XS.i2b X6.here hx rfl (hb hby at_52) rfl kk_) ?_
  show G T6 (mkF m 53 #[.val (.long q), .second, .val (.int p1), .val (.int p2), .val (.ref b), .unset, .unset, .unset] [(.int ((p2 >>> ((8 : Int32) &&& 31)).toInt8.toInt32)), (.int (5 : Int32)), (.ref b)])
  refine rStB hs X6 hx hZ V_b g_b ⟨by decide, by decide⟩ 5 (by decide) (by simp) (x' := ((p2 >>> ((8 : Int32) &&& 31)).toInt8.toInt32)) (nar_byte _) rfl rfl (hb hby at_53) (fun T7 h7 X7 W7 V_b => ?_)
  have V_b : Arv Z h7 b k1 .byte (6 : Int32) [(.int (p1.toInt8.toInt32)), (.int ((p1 >>> ((8 : Int32) &&& 31)).toInt8.toInt32)), (.int ((p1 >>> ((16 : Int32) &&& 31)).toInt8.toInt32)), (.int ((p1 >>> ((24 : Int32) &&& 31)).toInt8.toInt32)), (.int (p2.toInt8.toInt32)), (.int ((p2 >>> ((8 : Int32) &&& 31)).toInt8.toInt32))] (.int (0 : Int32)) := V_b
  have Z0 := Nat.le_trans Z0 (Keep.of_wr W7).1
  show G T7 (mkF m 54 #[.val (.long q), .second, .val (.int p1), .val (.int p2), .val (.ref b), .unset, .unset, .unset] [])
  refine hs.go (fun _ kk_ => XS.aload X7.here hx rfl (hb hby at_54) rfl rfl kk_) ?_
  show G T7 (mkF m 56 #[.val (.long q), .second, .val (.int p1), .val (.int p2), .val (.ref b), .unset, .unset, .unset] [(.ref b)])
  refine hs.go (fun _ kk_ => XS.lloadN X7.here hx rfl (hb hby at_56) rfl  kk_) ?_
  show G T7 (mkF m 57 #[.val (.long q), .second, .val (.int p1), .val (.int p2), .val (.ref b), .unset, .unset, .unset] [(.long q), (.ref b)])
  refine rCallS hs X7 hx hZ (as' := [(.ref b), (.long q)]) (rm1 l Z a0 hw [] b q k1 (.int (p1.toInt8.toInt32)) (.int ((p1 >>> ((8 : Int32) &&& 31)).toInt8.toInt32)) (.int ((p1 >>> ((16 : Int32) &&& 31)).toInt8.toInt32)) (.int ((p1 >>> ((24 : Int32) &&& 31)).toInt8.toInt32)) (.int (p2.toInt8.toInt32)) (.int ((p2 >>> ((8 : Int32) &&& 31)).toInt8.toInt32)) h7 n0 Z0 V_b g_b) hown (hw _ (List.mem_of_getElem? (i := 1) rfl)) (hw _ (List.mem_of_getElem? (i := 2) rfl)) (hw _ (List.mem_of_getElem? (i := 3) rfl)) (hw _ (List.mem_of_getElem? (i := 4) rfl)) hy_1 rfl (by rw [hml]; rfl) [] (lenOf pd_0 rfl) rfl 0 (by show 2 * 0 + _ ≤ _; exact Nat.le_of_eq rfl) (hb hby at_57) (by decide) (by decide) (by decide) (by decide) (fun r8 T8 h8 X8 q8 => ?_)
  obtain ⟨rfl, Kc8, V_b⟩ := q8
  have Z0 := Nat.le_trans Z0 Kc8.1
  show G T8 (mkF m 60 #[.val (.long q), .second, .val (.int p1), .val (.int p2), .val (.ref b), .unset, .unset, .unset] [(.ref b)])
  refine hs.go (fun _ kk_ => XS.astore X8.here hx rfl (hb hby at_60) rfl rfl (l' := #[.val (.long q), .second, .val (.int p1), .val (.int p2), .val (.ref b), .val (.ref b), .unset, .unset]) rfl kk_) ?_
  show G T8 (mkF m 62 #[.val (.long q), .second, .val (.int p1), .val (.int p2), .val (.ref b), .val (.ref b), .unset, .unset] [])
  refine hs.go (fun _ kk_ => XS.aload X8.here hx rfl (hb hby at_62) rfl rfl kk_) ?_
  show G T8 (mkF m 64 #[.val (.long q), .second, .val (.int p1), .val (.int p2), .val (.ref b), .val (.ref b), .unset, .unset] [(.ref b)])
  refine hs.go (fun _ kk_ => XS.aload X8.here hx rfl (hb hby at_64) rfl rfl kk_) ?_
  show G T8 (mkF m 66 #[.val (.long q), .second, .val (.int p1), .val (.int p2), .val (.ref b), .val (.ref b), .unset, .unset] [(.ref b), (.ref b)])
  refine hs.go (fun _ kk_ => XS.acmpYes X8.here hx rfl (pc0 := 66) (pc' := 71) rfl (hb hby at_66) rfl (by simp [if_acmp.holds]) (by decide) (by decide) kk_) ?_
  show G T8 (mkF m 71 #[.val (.long q), .second, .val (.int p1), .val (.int p2), .val (.ref b), .val (.ref b), .unset, .unset] [])
  refine hs.go (fun _ kk_ => XS.aload X8.here hx rfl (hb hby at_71) rfl rfl kk_) ?_
  show G T8 (mkF m 73 #[.val (.long q), .second, .val (.int p1), .val (.int p2), .val (.ref b), .val (.ref b), .unset, .unset] [(.ref b)])
  refine hs.go (fun _ kk_ => XS.iconst X8.here hx rfl (hb hby at_73) kk_) ?_
  show G T8 (mkF m 74 #[.val (.long q), .second, .val (.int p1), .val (.int p2), .val (.ref b), .val (.ref b), .unset, .unset] [(.int (0 : Int32)), (.ref b)])
  refine rLdB hs X8 hx hZ V_b ⟨by decide, by decide⟩ (v := (.int (wB q (24 : Int32)))) rfl rfl rfl (hb hby at_74) ?_
  show G T8 (mkF m 75 #[.val (.long q), .second, .val (.int p1), .val (.int p2), .val (.ref b), .val (.ref b), .unset, .unset] [(.int (wB q (24 : Int32)))])
  refine hs.go (fun _ kk_ => XS.sipush X8.here hx rfl (hb hby at_75) kk_) ?_
  show G T8 (mkF m 78 #[.val (.long q), .second, .val (.int p1), .val (.int p2), .val (.ref b), .val (.ref b), .unset, .unset] [(.int (255 : Int32)), (.int (wB q (24 : Int32)))])
  refine hs.go (fun _ kk_ => XS.iand X8.here hx rfl (hb hby at_78) rfl kk_) ?_
  show G T8 (mkF m 79 #[.val (.long q), .second, .val (.int p1), .val (.int p2), .val (.ref b), .val (.ref b), .unset, .unset] [(.int ((wB q (24 : Int32)) &&& (255 : Int32)))])
  refine hs.go (fun _ kk_ => XS.i2l X8.here hx rfl (hb hby at_79) rfl kk_) ?_
  show G T8 (mkF m 80 #[.val (.long q), .second, .val (.int p1), .val (.int p2), .val (.ref b), .val (.ref b), .unset, .unset] [(.long (((wB q (24 : Int32)) &&& (255 : Int32)).toInt64))])
  refine hs.go (fun _ kk_ => XS.bipush X8.here hx rfl (hb hby at_80) kk_) ?_
  show G T8 (mkF m 82 #[.val (.long q), .second, .val (.int p1), .val (.int p2), .val (.ref b), .val (.ref b), .unset, .unset] [(.int (24 : Int32)), (.long (((wB q (24 : Int32)) &&& (255 : Int32)).toInt64))])
  refine hs.go (fun _ kk_ => XS.lshl X8.here hx rfl (hb hby at_82) rfl kk_) ?_
  show G T8 (mkF m 83 #[.val (.long q), .second, .val (.int p1), .val (.int p2), .val (.ref b), .val (.ref b), .unset, .unset] [(.long ((((wB q (24 : Int32)) &&& (255 : Int32)).toInt64) <<< ((24 : Int32) &&& 0x3f).toInt64))])
  refine hs.go (fun _ kk_ => XS.aload X8.here hx rfl (hb hby at_83) rfl rfl kk_) ?_
  show G T8 (mkF m 85 #[.val (.long q), .second, .val (.int p1), .val (.int p2), .val (.ref b), .val (.ref b), .unset, .unset] [(.ref b), (.long ((((wB q (24 : Int32)) &&& (255 : Int32)).toInt64) <<< ((24 : Int32) &&& 0x3f).toInt64))])
  refine hs.go (fun _ kk_ => XS.iconst X8.here hx rfl (hb hby at_85) kk_) ?_
  show G T8 (mkF m 86 #[.val (.long q), .second, .val (.int p1), .val (.int p2), .val (.ref b), .val (.ref b), .unset, .unset] [(.int (1 : Int32)), (.ref b), (.long ((((wB q (24 : Int32)) &&& (255 : Int32)).toInt64) <<< ((24 : Int32) &&& 0x3f).toInt64))])
  refine rLdB hs X8 hx hZ V_b ⟨by decide, by decide⟩ (v := (.int (wB q (16 : Int32)))) rfl rfl rfl (hb hby at_86) ?_
  show G T8 (mkF m 87 #[.val (.long q), .second, .val (.int p1), .val (.int p2), .val (.ref b), .val (.ref b), .unset, .unset] [(.int (wB q (16 : Int32))), (.long ((((wB q (24 : Int32)) &&& (255 : Int32)).toInt64) <<< ((24 : Int32) &&& 0x3f).toInt64))])
  refine hs.go (fun _ kk_ => XS.sipush X8.here hx rfl (hb hby at_87) kk_) ?_
  show G T8 (mkF m 90 #[.val (.long q), .second, .val (.int p1), .val (.int p2), .val (.ref b), .val (.ref b), .unset, .unset] [(.int (255 : Int32)), (.int (wB q (16 : Int32))), (.long ((((wB q (24 : Int32)) &&& (255 : Int32)).toInt64) <<< ((24 : Int32) &&& 0x3f).toInt64))])
  refine hs.go (fun _ kk_ => XS.iand X8.here hx rfl (hb hby at_90) rfl kk_) ?_
  show G T8 (mkF m 91 #[.val (.long q), .second, .val (.int p1), .val (.int p2), .val (.ref b), .val (.ref b), .unset, .unset] [(.int ((wB q (16 : Int32)) &&& (255 : Int32))), (.long ((((wB q (24 : Int32)) &&& (255 : Int32)).toInt64) <<< ((24 : Int32) &&& 0x3f).toInt64))])
  refine hs.go (fun _ kk_ => XS.bipush X8.here hx rfl (hb hby at_91) kk_) ?_
  show G T8 (mkF m 93 #[.val (.long q), .second, .val (.int p1), .val (.int p2), .val (.ref b), .val (.ref b), .unset, .unset] [(.int (16 : Int32)), (.int ((wB q (16 : Int32)) &&& (255 : Int32))), (.long ((((wB q (24 : Int32)) &&& (255 : Int32)).toInt64) <<< ((24 : Int32) &&& 0x3f).toInt64))])
  refine hs.go (fun _ kk_ => XS.ishl X8.here hx rfl (hb hby at_93) rfl kk_) ?_
  show G T8 (mkF m 94 #[.val (.long q), .second, .val (.int p1), .val (.int p2), .val (.ref b), .val (.ref b), .unset, .unset] [(.int (((wB q (16 : Int32)) &&& (255 : Int32)) <<< ((16 : Int32) &&& 31))), (.long ((((wB q (24 : Int32)) &&& (255 : Int32)).toInt64) <<< ((24 : Int32) &&& 0x3f).toInt64))])
  refine hs.go (fun _ kk_ => XS.i2l X8.here hx rfl (hb hby at_94) rfl kk_) ?_
  show G T8 (mkF m 95 #[.val (.long q), .second, .val (.int p1), .val (.int p2), .val (.ref b), .val (.ref b), .unset, .unset] [(.long ((((wB q (16 : Int32)) &&& (255 : Int32)) <<< ((16 : Int32) &&& 31)).toInt64)), (.long ((((wB q (24 : Int32)) &&& (255 : Int32)).toInt64) <<< ((24 : Int32) &&& 0x3f).toInt64))])
  refine hs.go (fun _ kk_ => XS.lor X8.here hx rfl (hb hby at_95) rfl kk_) ?_
  show G T8 (mkF m 96 #[.val (.long q), .second, .val (.int p1), .val (.int p2), .val (.ref b), .val (.ref b), .unset, .unset] [(.long (((((wB q (24 : Int32)) &&& (255 : Int32)).toInt64) <<< ((24 : Int32) &&& 0x3f).toInt64) ||| ((((wB q (16 : Int32)) &&& (255 : Int32)) <<< ((16 : Int32) &&& 31)).toInt64)))])
  refine hs.go (fun _ kk_ => XS.aload X8.here hx rfl (hb hby at_96) rfl rfl kk_) ?_
  show G T8 (mkF m 98 #[.val (.long q), .second, .val (.int p1), .val (.int p2), .val (.ref b), .val (.ref b), .unset, .unset] [(.ref b), (.long (((((wB q (24 : Int32)) &&& (255 : Int32)).toInt64) <<< ((24 : Int32) &&& 0x3f).toInt64) ||| ((((wB q (16 : Int32)) &&& (255 : Int32)) <<< ((16 : Int32) &&& 31)).toInt64)))])
  refine hs.go (fun _ kk_ => XS.iconst X8.here hx rfl (hb hby at_98) kk_) ?_
  show G T8 (mkF m 99 #[.val (.long q), .second, .val (.int p1), .val (.int p2), .val (.ref b), .val (.ref b), .unset, .unset] [(.int (2 : Int32)), (.ref b), (.long (((((wB q (24 : Int32)) &&& (255 : Int32)).toInt64) <<< ((24 : Int32) &&& 0x3f).toInt64) ||| ((((wB q (16 : Int32)) &&& (255 : Int32)) <<< ((16 : Int32) &&& 31)).toInt64)))])
  refine rLdB hs X8 hx hZ V_b ⟨by decide, by decide⟩ (v := (.int (wB q (8 : Int32)))) rfl rfl rfl (hb hby at_99) ?_
  show G T8 (mkF m 100 #[.val (.long q), .second, .val (.int p1), .val (.int p2), .val (.ref b), .val (.ref b), .unset, .unset] [(.int (wB q (8 : Int32))), (.long (((((wB q (24 : Int32)) &&& (255 : Int32)).toInt64) <<< ((24 : Int32) &&& 0x3f).toInt64) ||| ((((wB q (16 : Int32)) &&& (255 : Int32)) <<< ((16 : Int32) &&& 31)).toInt64)))])
  refine hs.go (fun _ kk_ => XS.sipush X8.here hx rfl (hb hby at_100) kk_) ?_
  show G T8 (mkF m 103 #[.val (.long q), .second, .val (.int p1), .val (.int p2), .val (.ref b), .val (.ref b), .unset, .unset] [(.int (255 : Int32)), (.int (wB q (8 : Int32))), (.long (((((wB q (24 : Int32)) &&& (255 : Int32)).toInt64) <<< ((24 : Int32) &&& 0x3f).toInt64) ||| ((((wB q (16 : Int32)) &&& (255 : Int32)) <<< ((16 : Int32) &&& 31)).toInt64)))])
  refine hs.go (fun _ kk_ => XS.iand X8.here hx rfl (hb hby at_103) rfl kk_) ?_
  show G T8 (mkF m 104 #[.val (.long q), .second, .val (.int p1), .val (.int p2), .val (.ref b), .val (.ref b), .unset, .unset] [(.int ((wB q (8 : Int32)) &&& (255 : Int32))), (.long (((((wB q (24 : Int32)) &&& (255 : Int32)).toInt64) <<< ((24 : Int32) &&& 0x3f).toInt64) ||| ((((wB q (16 : Int32)) &&& (255 : Int32)) <<< ((16 : Int32) &&& 31)).toInt64)))])
  refine hs.go (fun _ kk_ => XS.bipush X8.here hx rfl (hb hby at_104) kk_) ?_
  show G T8 (mkF m 106 #[.val (.long q), .second, .val (.int p1), .val (.int p2), .val (.ref b), .val (.ref b), .unset, .unset] [(.int (8 : Int32)), (.int ((wB q (8 : Int32)) &&& (255 : Int32))), (.long (((((wB q (24 : Int32)) &&& (255 : Int32)).toInt64) <<< ((24 : Int32) &&& 0x3f).toInt64) ||| ((((wB q (16 : Int32)) &&& (255 : Int32)) <<< ((16 : Int32) &&& 31)).toInt64)))])
  refine hs.go (fun _ kk_ => XS.ishl X8.here hx rfl (hb hby at_106) rfl kk_) ?_
  show G T8 (mkF m 107 #[.val (.long q), .second, .val (.int p1), .val (.int p2), .val (.ref b), .val (.ref b), .unset, .unset] [(.int (((wB q (8 : Int32)) &&& (255 : Int32)) <<< ((8 : Int32) &&& 31))), (.long (((((wB q (24 : Int32)) &&& (255 : Int32)).toInt64) <<< ((24 : Int32) &&& 0x3f).toInt64) ||| ((((wB q (16 : Int32)) &&& (255 : Int32)) <<< ((16 : Int32) &&& 31)).toInt64)))])
  refine hs.go (fun _ kk_ => XS.i2l X8.here hx rfl (hb hby at_107) rfl kk_) ?_
  show G T8 (mkF m 108 #[.val (.long q), .second, .val (.int p1), .val (.int p2), .val (.ref b), .val (.ref b), .unset, .unset] [(.long ((((wB q (8 : Int32)) &&& (255 : Int32)) <<< ((8 : Int32) &&& 31)).toInt64)), (.long (((((wB q (24 : Int32)) &&& (255 : Int32)).toInt64) <<< ((24 : Int32) &&& 0x3f).toInt64) ||| ((((wB q (16 : Int32)) &&& (255 : Int32)) <<< ((16 : Int32) &&& 31)).toInt64)))])
  refine hs.go (fun _ kk_ => XS.lor X8.here hx rfl (hb hby at_108) rfl kk_) ?_
  show G T8 (mkF m 109 #[.val (.long q), .second, .val (.int p1), .val (.int p2), .val (.ref b), .val (.ref b), .unset, .unset] [(.long ((((((wB q (24 : Int32)) &&& (255 : Int32)).toInt64) <<< ((24 : Int32) &&& 0x3f).toInt64) ||| ((((wB q (16 : Int32)) &&& (255 : Int32)) <<< ((16 : Int32) &&& 31)).toInt64)) ||| ((((wB q (8 : Int32)) &&& (255 : Int32)) <<< ((8 : Int32) &&& 31)).toInt64)))])
  refine hs.go (fun _ kk_ => XS.aload X8.here hx rfl (hb hby at_109) rfl rfl kk_) ?_
  show G T8 (mkF m 111 #[.val (.long q), .second, .val (.int p1), .val (.int p2), .val (.ref b), .val (.ref b), .unset, .unset] [(.ref b), (.long ((((((wB q (24 : Int32)) &&& (255 : Int32)).toInt64) <<< ((24 : Int32) &&& 0x3f).toInt64) ||| ((((wB q (16 : Int32)) &&& (255 : Int32)) <<< ((16 : Int32) &&& 31)).toInt64)) ||| ((((wB q (8 : Int32)) &&& (255 : Int32)) <<< ((8 : Int32) &&& 31)).toInt64)))])
  refine hs.go (fun _ kk_ => XS.iconst X8.here hx rfl (hb hby at_111) kk_) ?_
  show G T8 (mkF m 112 #[.val (.long q), .second, .val (.int p1), .val (.int p2), .val (.ref b), .val (.ref b), .unset, .unset] [(.int (3 : Int32)), (.ref b), (.long ((((((wB q (24 : Int32)) &&& (255 : Int32)).toInt64) <<< ((24 : Int32) &&& 0x3f).toInt64) ||| ((((wB q (16 : Int32)) &&& (255 : Int32)) <<< ((16 : Int32) &&& 31)).toInt64)) ||| ((((wB q (8 : Int32)) &&& (255 : Int32)) <<< ((8 : Int32) &&& 31)).toInt64)))])
  refine rLdB hs X8 hx hZ V_b ⟨by decide, by decide⟩ (v := (.int (wL q))) rfl rfl rfl (hb hby at_112) ?_
  show G T8 (mkF m 113 #[.val (.long q), .second, .val (.int p1), .val (.int p2), .val (.ref b), .val (.ref b), .unset, .unset] [(.int (wL q)), (.long ((((((wB q (24 : Int32)) &&& (255 : Int32)).toInt64) <<< ((24 : Int32) &&& 0x3f).toInt64) ||| ((((wB q (16 : Int32)) &&& (255 : Int32)) <<< ((16 : Int32) &&& 31)).toInt64)) ||| ((((wB q (8 : Int32)) &&& (255 : Int32)) <<< ((8 : Int32) &&& 31)).toInt64)))])
  refine hs.go (fun _ kk_ => XS.sipush X8.here hx rfl (hb hby at_113) kk_) ?_
  show G T8 (mkF m 116 #[.val (.long q), .second, .val (.int p1), .val (.int p2), .val (.ref b), .val (.ref b), .unset, .unset] [(.int (255 : Int32)), (.int (wL q)), (.long ((((((wB q (24 : Int32)) &&& (255 : Int32)).toInt64) <<< ((24 : Int32) &&& 0x3f).toInt64) ||| ((((wB q (16 : Int32)) &&& (255 : Int32)) <<< ((16 : Int32) &&& 31)).toInt64)) ||| ((((wB q (8 : Int32)) &&& (255 : Int32)) <<< ((8 : Int32) &&& 31)).toInt64)))])
  refine hs.go (fun _ kk_ => XS.iand X8.here hx rfl (hb hby at_116) rfl kk_) ?_
  show G T8 (mkF m 117 #[.val (.long q), .second, .val (.int p1), .val (.int p2), .val (.ref b), .val (.ref b), .unset, .unset] [(.int ((wL q) &&& (255 : Int32))), (.long ((((((wB q (24 : Int32)) &&& (255 : Int32)).toInt64) <<< ((24 : Int32) &&& 0x3f).toInt64) ||| ((((wB q (16 : Int32)) &&& (255 : Int32)) <<< ((16 : Int32) &&& 31)).toInt64)) ||| ((((wB q (8 : Int32)) &&& (255 : Int32)) <<< ((8 : Int32) &&& 31)).toInt64)))])
  refine hs.go (fun _ kk_ => XS.i2l X8.here hx rfl (hb hby at_117) rfl kk_) ?_
  show G T8 (mkF m 118 #[.val (.long q), .second, .val (.int p1), .val (.int p2), .val (.ref b), .val (.ref b), .unset, .unset] [(.long (((wL q) &&& (255 : Int32)).toInt64)), (.long ((((((wB q (24 : Int32)) &&& (255 : Int32)).toInt64) <<< ((24 : Int32) &&& 0x3f).toInt64) ||| ((((wB q (16 : Int32)) &&& (255 : Int32)) <<< ((16 : Int32) &&& 31)).toInt64)) ||| ((((wB q (8 : Int32)) &&& (255 : Int32)) <<< ((8 : Int32) &&& 31)).toInt64)))])
  refine hs.go (fun _ kk_ => XS.lor X8.here hx rfl (hb hby at_118) rfl kk_) ?_
  show G T8 (mkF m 119 #[.val (.long q), .second, .val (.int p1), .val (.int p2), .val (.ref b), .val (.ref b), .unset, .unset] [(.long (((((((wB q (24 : Int32)) &&& (255 : Int32)).toInt64) <<< ((24 : Int32) &&& 0x3f).toInt64) ||| ((((wB q (16 : Int32)) &&& (255 : Int32)) <<< ((16 : Int32) &&& 31)).toInt64)) ||| ((((wB q (8 : Int32)) &&& (255 : Int32)) <<< ((8 : Int32) &&& 31)).toInt64)) ||| (((wL q) &&& (255 : Int32)).toInt64)))])
  refine nameIt (P := fun zz_ : Int64 => G T8 (mkF m 119 #[.val (.long q), .second, .val (.int p1), .val (.int p2), .val (.ref b), .val (.ref b), .unset, .unset] [(.long zz_)])) (((((((wB q (24 : Int32)) &&& (255 : Int32)).toInt64) <<< ((24 : Int32) &&& 0x3f).toInt64) ||| ((((wB q (16 : Int32)) &&& (255 : Int32)) <<< ((16 : Int32) &&& 31)).toInt64)) ||| ((((wB q (8 : Int32)) &&& (255 : Int32)) <<< ((8 : Int32) &&& 31)).toInt64)) ||| (((wL q) &&& (255 : Int32)).toInt64)) (fun bk hbk => ?_)
  show G T8 (mkF m 119 #[.val (.long q), .second, .val (.int p1), .val (.int p2), .val (.ref b), .val (.ref b), .unset, .unset] [(.long bk)])
  refine hs.go (fun _ kk_ => XS.lstore X8.here hx rfl (hb hby at_119) rfl (l' := #[.val (.long q), .second, .val (.int p1), .val (.int p2), .val (.ref b), .val (.ref b), .val (.long bk), .second]) rfl kk_) ?_
  show G T8 (mkF m 121 #[.val (.long q), .second, .val (.int p1), .val (.int p2), .val (.ref b), .val (.ref b), .val (.long bk), .second] [])
  refine hs.go (fun _ kk_ => XS.lload X8.here hx rfl (hb hby at_121) rfl  kk_) ?_
  show G T8 (mkF m 123 #[.val (.long q), .second, .val (.int p1), .val (.int p2), .val (.ref b), .val (.ref b), .val (.long bk), .second] [(.long bk)])
  refine hs.go (fun _ kk_ => XS.lloadN X8.here hx rfl (hb hby at_123) rfl  kk_) ?_
  show G T8 (mkF m 124 #[.val (.long q), .second, .val (.int p1), .val (.int p2), .val (.ref b), .val (.ref b), .val (.long bk), .second] [(.long q), (.long bk)])
  refine rLdcL hs X8 hx hZ hown (hw _ (List.mem_of_getElem? (i := 5) rfl)) rfl (hb hby at_124) ?_
  show G T8 (mkF m 127 #[.val (.long q), .second, .val (.int p1), .val (.int p2), .val (.ref b), .val (.ref b), .val (.long bk), .second] [(.long (4294967295 : Int64)), (.long q), (.long bk)])
  refine hs.go (fun _ kk_ => XS.land X8.here hx rfl (hb hby at_127) rfl kk_) ?_
  show G T8 (mkF m 128 #[.val (.long q), .second, .val (.int p1), .val (.int p2), .val (.ref b), .val (.ref b), .val (.long bk), .second] [(.long (q &&& (4294967295 : Int64))), (.long bk)])
  refine hs.go (fun _ kk_ => XS.lcmp X8.here hx rfl (hb hby at_128) rfl kk_) ?_
  show G T8 (mkF m 129 #[.val (.long q), .second, .val (.int p1), .val (.int p2), .val (.ref b), .val (.ref b), .val (.long bk), .second] [(.int (lcmpW bk (q &&& (4294967295 : Int64))))])
  refine hs.go (fun _ kk_ => XS.ifNo X8.here hx rfl (hb hby at_129) rfl ((if0 _ _).trans (eqL (own_law q hbk : bk = (q &&& (4294967295 : Int64)))).2) kk_) ?_
  show G T8 (mkF m 132 #[.val (.long q), .second, .val (.int p1), .val (.int p2), .val (.ref b), .val (.ref b), .val (.long bk), .second] [])
  refine hs.go (fun _ kk_ => XS.aload X8.here hx rfl (hb hby at_132) rfl rfl kk_) ?_
  show G T8 (mkF m 134 #[.val (.long q), .second, .val (.int p1), .val (.int p2), .val (.ref b), .val (.ref b), .val (.long bk), .second] [(.ref b)])
  refine hs.go (fun _ kk_ => XS.iconst X8.here hx rfl (hb hby at_134) kk_) ?_
  show G T8 (mkF m 135 #[.val (.long q), .second, .val (.int p1), .val (.int p2), .val (.ref b), .val (.ref b), .val (.long bk), .second] [(.int (4 : Int32)), (.ref b)])
  refine rLdB hs X8 hx hZ V_b ⟨by decide, by decide⟩ (v := (.int (p2.toInt8.toInt32))) rfl rfl rfl (hb hby at_135) ?_
  show G T8 (mkF m 136 #[.val (.long q), .second, .val (.int p1), .val (.int p2), .val (.ref b), .val (.ref b), .val (.long bk), .second] [(.int (p2.toInt8.toInt32))])
  refine hs.go (fun _ kk_ => XS.iloadN X8.here hx rfl (hb hby at_136) rfl  kk_) ?_
  show G T8 (mkF m 137 #[.val (.long q), .second, .val (.int p1), .val (.int p2), .val (.ref b), .val (.ref b), .val (.long bk), .second] [(.int p2), (.int (p2.toInt8.toInt32))])
  refine hs.go (fun _ kk_ => XS.i2b X8.here hx rfl (hb hby at_137) rfl kk_) ?_
  show G T8 (mkF m 138 #[.val (.long q), .second, .val (.int p1), .val (.int p2), .val (.ref b), .val (.ref b), .val (.long bk), .second] [(.int (p2.toInt8.toInt32)), (.int (p2.toInt8.toInt32))])
  refine hs.go (fun _ kk_ => XS.icmpNo X8.here hx rfl (hb hby at_138) rfl (teq (rfl : (p2.toInt8.toInt32) = (p2.toInt8.toInt32))).2 kk_) ?_
  show G T8 (mkF m 141 #[.val (.long q), .second, .val (.int p1), .val (.int p2), .val (.ref b), .val (.ref b), .val (.long bk), .second] [])
  refine hs.go (fun _ kk_ => XS.aload X8.here hx rfl (hb hby at_141) rfl rfl kk_) ?_
  show G T8 (mkF m 143 #[.val (.long q), .second, .val (.int p1), .val (.int p2), .val (.ref b), .val (.ref b), .val (.long bk), .second] [(.ref b)])
  refine hs.go (fun _ kk_ => XS.iconst X8.here hx rfl (hb hby at_143) kk_) ?_
  show G T8 (mkF m 144 #[.val (.long q), .second, .val (.int p1), .val (.int p2), .val (.ref b), .val (.ref b), .val (.long bk), .second] [(.int (5 : Int32)), (.ref b)])
  refine rLdB hs X8 hx hZ V_b ⟨by decide, by decide⟩ (v := (.int ((p2 >>> ((8 : Int32) &&& 31)).toInt8.toInt32))) rfl rfl rfl (hb hby at_144) ?_
  show G T8 (mkF m 145 #[.val (.long q), .second, .val (.int p1), .val (.int p2), .val (.ref b), .val (.ref b), .val (.long bk), .second] [(.int ((p2 >>> ((8 : Int32) &&& 31)).toInt8.toInt32))])
  refine hs.go (fun _ kk_ => XS.iloadN X8.here hx rfl (hb hby at_145) rfl  kk_) ?_
  show G T8 (mkF m 146 #[.val (.long q), .second, .val (.int p1), .val (.int p2), .val (.ref b), .val (.ref b), .val (.long bk), .second] [(.int p2), (.int ((p2 >>> ((8 : Int32) &&& 31)).toInt8.toInt32))])
  refine hs.go (fun _ kk_ => XS.bipush X8.here hx rfl (hb hby at_146) kk_) ?_
  show G T8 (mkF m 148 #[.val (.long q), .second, .val (.int p1), .val (.int p2), .val (.ref b), .val (.ref b), .val (.long bk), .second] [(.int (8 : Int32)), (.int p2), (.int ((p2 >>> ((8 : Int32) &&& 31)).toInt8.toInt32))])
  refine hs.go (fun _ kk_ => XS.ishr X8.here hx rfl (hb hby at_148) rfl kk_) ?_
  show G T8 (mkF m 149 #[.val (.long q), .second, .val (.int p1), .val (.int p2), .val (.ref b), .val (.ref b), .val (.long bk), .second] [(.int (p2 >>> ((8 : Int32) &&& 31))), (.int ((p2 >>> ((8 : Int32) &&& 31)).toInt8.toInt32))])
  refine hs.go (fun _ kk_ => XS.i2b X8.here hx rfl (hb hby at_149) rfl kk_) ?_
  show G T8 (mkF m 150 #[.val (.long q), .second, .val (.int p1), .val (.int p2), .val (.ref b), .val (.ref b), .val (.long bk), .second] [(.int ((p2 >>> ((8 : Int32) &&& 31)).toInt8.toInt32)), (.int ((p2 >>> ((8 : Int32) &&& 31)).toInt8.toInt32))])
  refine hs.go (fun _ kk_ => XS.icmpNo X8.here hx rfl (hb hby at_150) rfl (teq (rfl : ((p2 >>> ((8 : Int32) &&& 31)).toInt8.toInt32) = ((p2 >>> ((8 : Int32) &&& 31)).toInt8.toInt32))).2 kk_) ?_
  show G T8 (mkF m 153 #[.val (.long q), .second, .val (.int p1), .val (.int p2), .val (.ref b), .val (.ref b), .val (.long bk), .second] [])
  refine hs.go (fun _ kk_ => XS.iconst X8.here hx rfl (hb hby at_153) kk_) ?_
  show G T8 (mkF m 154 #[.val (.long q), .second, .val (.int p1), .val (.int p2), .val (.ref b), .val (.ref b), .val (.long bk), .second] [(.int (1 : Int32))])
  refine hs.go (fun _ kk_ => XS.goto X8.here hx rfl (pc0 := 154) (pc' := 158) rfl (hb hby at_154) (by decide) (by decide) kk_) ?_
  show G T8 (mkF m 158 #[.val (.long q), .second, .val (.int p1), .val (.int p2), .val (.ref b), .val (.ref b), .val (.long bk), .second] [(.int (1 : Int32))])
  exact rRetN fin X8 hx (by decide) (by decide) hret (by simp) (hb hby at_158) (z' := (1 : Int32)) (by decide) rfl
set_option maxRecDepth 65536 in
set_option maxHeartbeats 40000000 in
theorem comes_1 {Post : Tables → Env → Array Value → State → Outcome → State → Prop} (hpost : ∀ tb e args s v u, (limb_1_1.after args s (.returned v) u = true ∧ limb_1_2.after args s (.returned v) u = true ∧ True) → FrameEnd s (.returned v) u (Jvm.fieldLocs frame_1_writes args s ++ Jvm.arrayLocs frame_1_arrays args s ++ Jvm.staticLocs frame_1_statics s) 16 128 → Post tb e args s (.returned v) u) :
    ArmFor flags0 classFile x code maxLocals ret World_1 tables_1 room_1 Calls_1 rest_1 Pre_1 Post := by
  intro l hfl _ _ p e ha hc hk s m args below hf hA hF happ hP
  obtain ⟨hcalls, hrest, hpre⟩ := hP
  obtain ⟨-, -, -, hnamed, -, -, -, hat⟩ := (Spec.applies_iff hf).mp happ
  obtain ⟨hg, hn⟩ := and_e (Cond.before_iff.mp (show (Jvm.Cond.and given_1 narrow_1).before args s = true from hpre))
  obtain ⟨hcnt, hg0⟩ := and_e hg
  obtain ⟨t0, hg1⟩ := and_e hg0
  obtain ⟨t1, hg2⟩ := and_e hg1
  have t2 := hg2
  obtain ⟨w0, w1, w2, rfl⟩ : ∃ w0 w1 w2 : Value, args = #[w0, w1, w2] := by
    have hs : args.size = 3 := by simpa [Cond.value, given_1] using hcnt
    obtain ⟨L⟩ := args
    match L, hs with
    | [w0, w1, w2], _ => exact ⟨w0, w1, w2, rfl⟩
  have hw := fun d (hd : d ∈ tables_1) => atoms_spec (ws := Jvm.Cond.code x code maxLocals ret :: tables_1) hat d (List.mem_cons_of_mem _ hd)
  have hfit : Fit s := fun {y c} hc i hi => by
    obtain ⟨ha, rfl⟩ := Array.getElem?_eq_some_iff.mp hc
    have q := List.all_eq_true.mp ((Array.all_eq_true_iff_forall_mem.mp hF) _ (Array.getElem_mem ha)) i (List.mem_range.mpr hi)
    simpa [Array.getElem?_eq_getElem hi] using q
  obtain ⟨i0, ei0⟩ := isL_v t0
  obtain rfl : w0 = (.long i0) := Option.some.inj ei0
  obtain ⟨i1, ei1⟩ := is_v t1
  obtain rfl : w1 = (.int i1) := Option.some.inj ei1
  obtain ⟨i2, ei2⟩ := is_v t2
  obtain rfl : w2 = (.int i2) := Option.some.inj ei2
  obtain ⟨n, o, h1, h2, h3, _, L, rfl, ⟨rfl, N⟩, hq⟩ := rm0 l s _ hw tables_1 i0 i1 i2  s.heap s.heap.size (Nat.le_refl _)  p e ha hc hk s m _ below hf ((Spec.applies_iff_loose hf).mp happ).1 ⟨rfl, State.Warmed39.refl s, rfl⟩ trivial
  refine ⟨n, _, h1, h2, h3, hpost _ _ _ _ _ _ ⟨Cond.after_iff.mpr rfl, Cond.after_iff.mpr (eq_i res_at (Term.int_eval (1)) rfl), trivial⟩ ⟨hq.1, hq.2.1, (hq.2.2.sift fun y hy => Or.inr (N y hy)).mono (by decide) (by decide)⟩⟩
theorem main_1_1 : Claimed_1_1 := comes_1 fun _ _ _ _ _ _ h hF => ⟨h.1, hF⟩
theorem main_1_2 : Claimed_1_2 := comes_1 fun _ _ _ _ _ _ h hF => ⟨h.2.1, hF⟩
end Jvm.Pilot.@@N@@
namespace Jvm.Pilot.@@N@@
open Jvm Jvm.ClassFile Sem Op Lib Jvm.Free Jvm.Stand Jvm.Pilot.@@N@@.Jvm.D
/-! MADE BY PROGRAM (witnessworld.py) out of the Statement's table words and the real class files: 9 classes; the members and pool entries that the words name. The judged class is class 1, her method 1. -/
namespace start1
open Jvm.ClassFile
def u (s : String) : CpInfo := .utf8 (stringToUtf16 s)
/-- a pool by its gaps: so many unusable entries, then the entry; so many at the end -/
def gap : Nat → List CpInfo → List CpInfo
  | 0, r => r
  | n + 1, r => .unusable :: gap n r
def poolList (es : List (Nat × CpInfo)) (last : Nat) : List CpInfo := es.foldr (fun e r => gap e.1 (e.2 :: r)) (gap last [])
def pool (es : List (Nat × CpInfo)) (last : Nat) : Array CpInfo := ⟨poolList es last⟩
def fileOf (pool : Array CpInfo) (this : Nat) (attrs : Array Attribute := #[]) (ms : Array MethodInfo := #[]) (fl : Nat := 33) (sup : Nat := 0) (ifs : Array Nat := #[]) (fds : Array FieldInfo := #[]) : ClassFile where
  minorVersion := 0
  majorVersion := 65
  constantPool := pool
  accessFlags := fl
  thisClass := this
  superClass := sup
  interfaces := ifs
  fields := fds
  methods := ms
  attributes := attrs
def plain (name : String) (sup : Option ClassId) : Class where
  name := name
  kind := .ordinary
  loader := none
  accessFlags := 33
  super := sup
  interfaces := #[]
  cf := none
  fields := #[]
  methods := #[]
  instanceTypes := #[]
  staticTypes := #[]
  resolved := #[]
  callSites := []
  init := .initialized
  statics := none
  mirror := none

def pool0 : Array CpInfo := pool [(5, u "<init>"), (0, u "()V"), (1, .class_ 10), (1, u "java/lang/Object")] 113

def k0m0 : Method := { name := "<init>", desc := "()V", sig := { parameters := [], returnType := none }, accessFlags := 1, code := none }
/-- java/lang/Object -/
def k0 : Class := { plain "java/lang/Object" none with
  accessFlags := 33
  interfaces := #[]
  cf := some (fileOf pool0 8 #[] #[{ accessFlags := 1, nameIndex := 5, descriptorIndex := 6, attributes := #[] }] 33 0 #[] #[])
  fields := #[]
  methods := #[k0m0]
  instanceTypes := #[]
  staticTypes := #[]
  resolved := Array.replicate 124 none
  statics := none }

def pool1 : Array CpInfo := pool [(2, .class_ 4), (1, u "java/lang/Object"), (0, u "<init>"), (0, u "()V"), (0, .methodref 8 9), (0, .class_ 10), (0, .nameAndType 11 12), (0, u "com/example/rowcall/bench/Blocks"), (0, u "writeKey"), (0, u "([BJ)[B"), (0, .long 4294967295), (1, .class_ 16), (0, u "com/example/rowcall/bench/BlocksWriteKeyPinLaw"), (2, u "law"), (0, u "(JII)Z")] 5

def k1m0 : Method := { name := "<init>", desc := "()V", sig := { parameters := [], returnType := none }, accessFlags := 1, code := none }
def k1c1 : Code := { maxStack := 6, maxLocals := 8, code := code, exceptionTable := #[], attributes := #[] }
def k1m1 : Method := { name := "law", desc := "(JII)Z", sig := { parameters := [.long, .int, .int], returnType := some .boolean }, accessFlags := 9, code := some k1c1 }
/-- com/example/rowcall/bench/BlocksWriteKeyPinLaw -/
def k1 : Class := { plain "com/example/rowcall/bench/BlocksWriteKeyPinLaw" (some 0) with
  accessFlags := 49
  interfaces := #[]
  cf := some (fileOf pool1 15 #[] #[{ accessFlags := 1, nameIndex := 5, descriptorIndex := 6, attributes := #[] }, { accessFlags := 9, nameIndex := 19, descriptorIndex := 20, attributes := #[] }] 49 2 #[] #[])
  fields := #[]
  methods := #[k1m0, k1m1]
  instanceTypes := #[]
  staticTypes := #[]
  resolved := Array.replicate 26 none
  statics := none }

def pool2 : Array CpInfo := pool [(2, .class_ 4), (1, u "java/lang/Object"), (3, .class_ 10), (1, u "com/example/rowcall/bench/Blocks"), (0, u "ends"), (0, u "[J"), (2, u "values"), (0, u "[[B"), (117, u "writeKey"), (0, u "([BJ)[B"), (19, u "KEY_LENGTH"), (0, u "I")] 45

def k2c0 : Code := { maxStack := 5, maxLocals := 3, code := prog_3_method_8_code, exceptionTable := #[], attributes := #[] }
def k2m0 : Method := { name := "writeKey", desc := "([BJ)[B", sig := { parameters := [(.array .byte), .long], returnType := some (.array .byte) }, accessFlags := 8, code := some k2c0 }
/-- com/example/rowcall/bench/Blocks -/
def k2 : Class := { plain "com/example/rowcall/bench/Blocks" (some 0) with
  accessFlags := 48
  interfaces := #[]
  cf := some (fileOf pool2 8 #[] #[{ accessFlags := 8, nameIndex := 134, descriptorIndex := 135, attributes := #[] }] 48 2 #[] #[{ accessFlags := 24, nameIndex := 155, descriptorIndex := 156, attributes := #[] }, { accessFlags := 18, nameIndex := 11, descriptorIndex := 12, attributes := #[] }, { accessFlags := 18, nameIndex := 15, descriptorIndex := 16, attributes := #[] }])
  fields := #[{ name := "KEY_LENGTH", type := .int, accessFlags := 24, slot := 0, constantValue := 0 }, { name := "ends", type := (.array .long), accessFlags := 18, slot := 0, constantValue := 0 }, { name := "values", type := (.array (.array .byte)), accessFlags := 18, slot := 1, constantValue := 0 }]
  methods := #[k2m0]
  instanceTypes := #[(.array .long), (.array (.array .byte))]
  staticTypes := #[.int]
  resolved := Array.replicate 202 none
  statics := none }

def pool3 : Array CpInfo := pool [(1, u "java/lang/Cloneable"), (0, .class_ 1), (0, u "java/lang/Object"), (0, .class_ 3)] 3

/-- java/lang/Cloneable -/
def k3 : Class := { plain "java/lang/Cloneable" (some 0) with
  accessFlags := 1537
  interfaces := #[]
  cf := some (fileOf pool3 2 #[] #[] 1537 4 #[] #[])
  fields := #[]
  methods := #[]
  instanceTypes := #[]
  staticTypes := #[]
  resolved := Array.replicate 8 none
  statics := none }

def pool4 : Array CpInfo := pool [(1, u "java/io/Serializable"), (0, .class_ 1), (0, u "java/lang/Object"), (0, .class_ 3)] 3

/-- java/io/Serializable -/
def k4 : Class := { plain "java/io/Serializable" (some 0) with
  accessFlags := 1537
  interfaces := #[]
  cf := some (fileOf pool4 2 #[] #[] 1537 4 #[] #[])
  fields := #[]
  methods := #[]
  instanceTypes := #[]
  staticTypes := #[]
  resolved := Array.replicate 8 none
  statics := none }

/-- the primitive byte -/
def k5 : Class := { plain "byte" none with kind := .primitive 'B', accessFlags := 0x411 }
/-- [B -/
def k6 : Class := { plain "[B" (some 0) with kind := .array 5 .byte, interfaces := #[3, 4], accessFlags := 1041 }

/-- the primitive int -/
def k7 : Class := { plain "int" none with kind := .primitive 'I', accessFlags := 0x411 }
/-- [I -/
def k8 : Class := { plain "[I" (some 0) with kind := .array 7 .int, interfaces := #[3, 4], accessFlags := 1041 }

def heap : Heap := #[]
def classes : Array Class := #[k0, k1, k2, k3, k4, k5, k6, k7, k8]
def interned : List (Array UInt16 × Addr) := []
def slotsUsed : Nat := 0
def theMethod : MethodId := ⟨1, 1⟩
def args0 : Array Value := #[.long 7, .int 5, .int 5]
def aboutOver (below : List Frame) : State where
  vm := { classes := classes, interned := interned.toArray }
  heap := heap
  slotsUsed := slotsUsed
  threads := #[{ frames := .invoking theMethod args0 :: below }]
def below0 : List Frame := [.native { method := ⟨0, 0⟩, args := #[] }]
def about1 : State := aboutOver below0
def p0 : Program := .bare "" "" ""
def e0 : Env := launch0.env 0 0 0
theorem w_frames : about1.frames = Frame.invoking theMethod args0 :: below0 := rfl
set_option maxRecDepth 65536 in
theorem w_args : argsFit about1.vm theMethod args0 = true := by decide +kernel
set_option maxRecDepth 65536 in
theorem w_heap : heapFits about1 = true := by decide +kernel
set_option maxRecDepth 65536 in
theorem w_runnable : about1.curStatus? = some .runnable := by decide +kernel
set_option maxRecDepth 65536 in
theorem w_alone : about1.alone = true := by decide +kernel
set_option maxRecDepth 65536 in
theorem w_named : about1.methodNamed? x = some theMethod := by decide +kernel
set_option maxRecDepth 65536 in
theorem w_hears : about1.hears theMethod below0 = true := by decide +kernel
set_option maxRecDepth 65536 in
theorem w_ripe : about1.ripe theMethod args0 below0 = true := by decide +kernel
theorem w_running : about1.status = .running := rfl
set_option maxRecDepth 65536 in
theorem w_room : about1.hasRoom e0.platform room_1 = true :=
  launch0.hasRoom_least _ room_1 (by decide +kernel) (by decide +kernel) (by decide +kernel) (by decide +kernel) (by decide +kernel) (by decide +kernel)
theorem allAtoms_all (ts : List Jvm.Cond) (a : Array Jvm.Value) (st : Jvm.State) : (allAtoms ts).before a st = ts.all (fun c => c.before a st) := by
  induction ts with
  | nil => rfl
  | cons c t ih =>
    show (Jvm.Cond.and c (allAtoms t)).before a st = _
    rw [Jvm.Cond.before_and, ih, List.all_cons]
def words1 : List Jvm.Cond := Jvm.Cond.code x code maxLocals ret :: tables_1
/-- a 'code' word, met by the world's own term for the bytes: nothing is compared byte by byte -/
theorem code_word {y : MethodName} {bytes : ByteArray} {mx : Nat} {rt : Option FieldType} {a : Array Value} {s : State} {m : MethodId} {meth : Method} {c : Code} (h1 : s.methodNamed? y = some m) (h2 : s.vm.method? m = some meth) (h3 : meth.code = some c) (h4 : c.code = bytes)
    (h5 : (c.maxLocals == mx && c.exceptionTable.isEmpty && decide (c.maxStack ≤ mostOperands) && decide (meth.sig.returnType = rt) && !meth.locks && decide (parseMethodDescriptor y.desc = some meth.sig)) = true) : (Jvm.Cond.code y bytes mx rt).before a s = true := by
  simp only [Bool.and_eq_true, beq_iff_eq, Bool.not_eq_true', decide_eq_true_eq] at h5
  obtain ⟨⟨⟨⟨⟨g1, g2⟩, g3⟩, g4⟩, g5⟩, g6⟩ := h5
  simp [Cond.before, Cond.holds, Cond.value, h1, h2, h3, h4, g1, g2, g3, g4, g5, g6]
def isCode : Jvm.Cond → Bool
  | .code _ _ _ _ => true
  | _ => false
theorem all_split {L : List Jvm.Cond} {P : Jvm.Cond → Bool} (h1 : L.all (fun c => isCode c || P c) = true) (h2 : ∀ c ∈ L.filter isCode, P c = true) : L.all P = true := by
  refine List.all_eq_true.mpr fun c hc => ?_
  have h := List.all_eq_true.mp h1 c hc
  rcases Bool.eq_false_or_eq_true (isCode c) with hi | hi
  · exact h2 c (List.mem_filter.mpr ⟨hc, hi⟩)
  · simpa [hi] using h
set_option maxRecDepth 65536 in
theorem w_c0 : (Jvm.Cond.code x code maxLocals ret).before args0 about1 = true := code_word (m := ⟨1, 1⟩) (meth := k1m1) (c := k1c1) (by decide +kernel) rfl rfl rfl (by decide +kernel)
set_option maxRecDepth 65536 in
theorem w_c1 : (Jvm.Cond.code ({ cls := "com/example/rowcall/bench/Blocks", name := "writeKey", desc := "([BJ)[B" } : Jvm.MethodName) prog_3_method_8_code (3 : Nat) (Option.some (Jvm.ClassFile.FieldType.array Jvm.ClassFile.FieldType.byte))).before args0 about1 = true := code_word (m := ⟨2, 0⟩) (meth := k2m0) (c := k2c0) (by decide +kernel) rfl rfl rfl (by decide +kernel)
def codes1 : List Jvm.Cond := [Jvm.Cond.code x code maxLocals ret, Jvm.Cond.code ({ cls := "com/example/rowcall/bench/Blocks", name := "writeKey", desc := "([BJ)[B" } : Jvm.MethodName) prog_3_method_8_code (3 : Nat) (Option.some (Jvm.ClassFile.FieldType.array Jvm.ClassFile.FieldType.byte))]
set_option maxRecDepth 65536 in
theorem codes_eq : words1.filter isCode = codes1 := rfl
theorem w_codes : ∀ c ∈ words1.filter isCode, c.before args0 about1 = true := by
  rw [codes_eq]
  intro c hc
  simp only [codes1, List.mem_cons, List.not_mem_nil, or_false] at hc
  rcases hc with rfl | rfl
  · exact w_c0
  · exact w_c1
set_option maxRecDepth 65536 in
theorem w_t1 : words1.all (fun c => isCode c || c.before args0 about1) = true := by decide +kernel
theorem w_tables : (allAtoms (Jvm.Cond.code x code maxLocals ret :: tables_1)).before args0 about1 = true := by
  rw [allAtoms_all]
  show words1.all (fun c => c.before args0 about1) = true
  refine all_split ?_ w_codes
  rw [w_t1]
set_option maxRecDepth 65536 in
theorem w_case : (Jvm.Cond.and given_1 narrow_1).before args0 about1 = true := by decide +kernel
theorem w_applies : (headSpec (Jvm.Cond.code x code maxLocals ret :: tables_1) room_1).applies x e0.platform about1 = true :=
  (Spec.applies_iff w_frames).mpr ⟨w_running, w_runnable, w_alone, w_named, w_hears, w_ripe, w_room, w_tables⟩
theorem atStart : AtStart classFile x code maxLocals ret World_1 tables_1 room_1 Calls_1 rest_1 Pre_1 launch0 p0 e0 about1 theMethod args0 below0 :=
  ⟨lists_1, trivial, launch0.admits_env _ _ _, launch0.least_env, fairChoices_fair.cas, fairChoices_fair.clock, w_frames, w_args, w_heap, w_applies, trivial, trivial, w_case⟩
end start1
theorem witness_1 : WitnessClaimed_1 := ⟨start1.p0, start1.e0, start1.about1, start1.theMethod, start1.args0, start1.below0, start1.atStart⟩
end Jvm.Pilot.@@N@@
