import JvmDerived
import JvmDerived.Pilot.@@N@@Statement
import JvmDerived.Pilot.@@N@@Code
set_option linter.unusedVariables false
set_option linter.unusedSimpArgs false
namespace Jvm.Pilot.@@N@@
open Jvm Jvm.ClassFile Sem Op Lib Jvm.Free Jvm.Stand Jvm.LawKit Jvm.RoadKit Bundle Jvm.Pilot.@@N@@.Jvm.D
/-! own kit: a walk read backwards: G T g says that from the state T with g on top the body comes to a good end -/
section OwnKit
variable {p : Program} {l : Launch} {e : Env} {R : Room} {s : State} {m : MethodId} {args : Array Value} {below : List Frame} {meth : Method} {c : Code} {T : State} {cells slots : Nat} {Z : State} {a0 : Array Value} {h : Heap} {n0 : Nat} {G : State → JFrame → Prop} {Q : Option Value → Heap → Prop}
def Clo (p : Program) (e : Env) (below : List Frame) (G : State → JFrame → Prop) : Prop := ∀ (T T' : State) (g g' : JFrame), (∀ t, Steps p.tables e below (T'.setTop g') t → Steps p.tables e below (T.setTop g) t) → G T' g' → G T g
theorem Clo.go (hs : Clo p e below G) {T T' : State} {g g' : JFrame} (st : ∀ t, Steps p.tables e below (T'.setTop g') t → Steps p.tables e below (T.setTop g) t) (k : G T' g') : G T g := hs T T' g g' st k
def Sd (p : Program) (l : Launch) (e : Env) (R : Room) (s : State) (m : MethodId) (args : Array Value) (below : List Frame) (meth : Method) (c : Code) (n0 : Nat) (T : State) (h : Heap) (cells slots : Nat) : Prop := ∃ locs, Stand p l e R s m args below meth c T locs cells slots ∧ Fr n0 locs ∧ T.heap = h
theorem Sd.here (X : Sd p l e R s m args below meth c n0 T h cells slots) : At T m c below := by obtain ⟨_, X, _⟩ := X; exact X.here
theorem Sd.more (X : Sd p l e R s m args below meth c n0 T h cells slots) {k n : Nat} (hk : cells ≤ k) (hn : slots ≤ n) : Sd p l e R s m args below meth c n0 T h k n := by obtain ⟨L, X, N⟩ := X; exact ⟨L, X.more hk hn, N⟩
/-- how a body ends -/
def Fnl (p : Program) (l : Launch) (e : Env) (R : Room) (s : State) (m : MethodId) (args : Array Value) (below : List Frame) (meth : Method) (c : Code) (n0 : Nat) (Q : Option Value → Heap → Prop) (G : State → JFrame → Prop) : Prop :=
  ∀ (T : State) (h : Heap) (k n : Nat) (g : JFrame) (v : Option Value), Sd p l e R s m args below meth c n0 T h k n → k ≤ R.cells → n ≤ R.slots → (meth.sig.returnType = none → v = none) →
    (∀ fs, (∀ (f : JFrame) (acts : List Action), f.method = m → f.locked = none → f.entered = [] → (doReturn e (T.setTop f) acts v).1 = T.setFrames fs) → Steps p.tables e below (T.setTop g) (T.setFrames fs)) → Q v h → G T g
/-- a body's contract -/
def Con (l : Launch) (Z : State) (y : MethodName) (bytes : ByteArray) (maxL : Nat) (ret : Option FieldType) (ws : List Jvm.Cond) (rm : Room) (as' : Array Value) (h : Heap) (n0 : Nat) (Q : Option Value → Heap → Prop) : Prop :=
  MetFree l y (head1 (Jvm.Cond.code y bytes maxL ret :: ws) rm) (fun a U => a = as' ∧ Z.Warmed39 U.vm ∧ U.heap = h) (fun _ _ _ _ _ => True)
    (fun _ U o U' => ∃ v L, o = .returned v ∧ (Q v U'.heap ∧ Fr n0 L) ∧ FrameEnd U o U' L rm.cells rm.slots)
theorem Con.of {y : MethodName} {bytes : ByteArray} {maxL : Nat} {ret : Option FieldType} {ws : List Jvm.Cond} {rm : Room} {as' : Array Value} (hp : plainFor y = true)
    (body : ∀ (G : State → JFrame → Prop) (p : Program) (e : Env) (s : State) (m : MethodId) (below : List Frame) (meth : Method) (c : Code) (s₁ : State),
      Clo p e below G → p.tables.exec = Jvm.exec → c.code = bytes → c.maxLocals = maxL → s.vm.findClass y.cls = some m.cls → meth.name = y.name → meth.sig.returnType = ret → Z.Warmed39 s.vm →
      Sd p l e rm s m as' below meth c n0 s₁ h 0 0 → Fnl p l e rm s m as' below meth c n0 Q G → G s₁ (entryFrame m as' maxL)) : Con l Z y bytes maxL ret ws rm as' h n0 Q := by
  refine MetFree.of_bodySF hp hisR ?_
  intro p e s m args below meth c s₁ Bd hml hP hK
  obtain ⟨ha, hZ, hh⟩ := hP
  subst ha
  refine body (fun T g => ∃ s₂ o, Steps p.tables e below (T.setTop g) s₂ ∧ s₂.status = .running ∧ Ended s₂ below o ∧ ∃ v L, o = .returned v ∧ (Q v s₂.heap ∧ Fr n0 L) ∧ FrameEnd s o s₂ L rm.cells rm.slots) p e s m below meth c s₁ ?_ Bd.exec Bd.bytes hml (findClass_of_methodNamed Bd.named) (name_of_methodNamed Bd.named Bd.method).1 Bd.returns hZ ⟨[], Stand.of_body Bd, Fr.nil n0, by rw [← hh, Bd.state]; rfl⟩ ?_
  · intro T T' g g' st ⟨s₂, o, h1, r⟩
    exact ⟨s₂, o, st _ h1, r⟩
  · intro T h k n g v ⟨locs, X, N, eh⟩ hk hn hv st q
    obtain ⟨fs, hr, hrun, hended, hW, hsame⟩ := X.leave (v := v) hv Bd.notSynchronized
    exact ⟨_, _, st fs hr, hrun, hended, v, locs, rfl, ⟨by show Q v T.heap; rw [eh]; exact q, N⟩, ⟨_, rfl⟩, hW, hsame.mono hk hn⟩
theorem rRetI (fin : Fnl p l e R s m args below meth c n0 Q G) (X : Sd p l e R s m args below meth c n0 T h cells slots) (hx : p.tables.exec = Jvm.exec) (hk : cells ≤ R.cells) (hn : slots ≤ R.slots) (hret : meth.sig.returnType = some .int) {pc : Nat} {Ls : Array Slot} {z : Int32} {rest : List Value} (hd : decode c.code pc = .ok (.ireturn, 1)) (q : Q (some (.int z)) h) : G T (mkF m pc Ls (.int z :: rest)) :=
  fin T h cells slots _ (some (.int z)) X hk hn (fun h => by rw [hret] at h; cases h) (fun fs hr => by obtain ⟨_, X, _⟩ := X; exact retOut X hx hret rfl (Or.inl ⟨rfl, Or.inl rfl, _, rfl⟩) hd hr) q
theorem rRetN (fin : Fnl p l e R s m args below meth c n0 Q G) (X : Sd p l e R s m args below meth c n0 T h cells slots) (hx : p.tables.exec = Jvm.exec) (hk : cells ≤ R.cells) (hn : slots ≤ R.slots) {t : FieldType} (hret : meth.sig.returnType = some t) (ht : t = .boolean ∨ t = .byte ∨ t = .char ∨ t = .short) {pc : Nat} {Ls : Array Slot} {z z' : Int32} {rest : List Value} (hd : decode c.code pc = .ok (.ireturn, 1)) (hz : nar t z = z') (q : Q (some (.int z')) h) : G T (mkF m pc Ls (.int z :: rest)) :=
  fin T h cells slots _ (some (.int (nar t z))) X hk hn (fun h => by rw [hret] at h; cases h) (fun fs hr => by obtain ⟨_, X, _⟩ := X; exact retN X hx hret ht hd hr) (hz ▸ q)
theorem rRetL (fin : Fnl p l e R s m args below meth c n0 Q G) (X : Sd p l e R s m args below meth c n0 T h cells slots) (hx : p.tables.exec = Jvm.exec) (hk : cells ≤ R.cells) (hn : slots ≤ R.slots) (hret : meth.sig.returnType = some .long) {pc : Nat} {Ls : Array Slot} {z : Int64} {rest : List Value} (hd : decode c.code pc = .ok (.lreturn, 1)) (q : Q (some (.long z)) h) : G T (mkF m pc Ls (.long z :: rest)) :=
  fin T h cells slots _ (some (.long z)) X hk hn (fun h => by rw [hret] at h; cases h) (fun fs hr => by obtain ⟨_, X, _⟩ := X; exact retOut X hx hret rfl (Or.inr (Or.inl ⟨rfl, rfl, _, rfl⟩)) hd hr) q
theorem rRetA (fin : Fnl p l e R s m args below meth c n0 Q G) (X : Sd p l e R s m args below meth c n0 T h cells slots) (hx : p.tables.exec = Jvm.exec) (hk : cells ≤ R.cells) (hn : slots ≤ R.slots) {t : FieldType} (hret : meth.sig.returnType = some t) (ht : t.isReference = true) {pc : Nat} {Ls : Array Slot} {z : Value} (hz : z.isRef = true) (hw : narrow t z = z) {rest : List Value} (hd : decode c.code pc = .ok (.areturn, 1)) (q : Q (some z) h) : G T (mkF m pc Ls (z :: rest)) :=
  fin T h cells slots _ (some z) X hk hn (fun h => by rw [hret] at h; cases h) (fun fs hr => by obtain ⟨_, X, _⟩ := X; exact retOut X hx hret hw (Or.inr (Or.inr (Or.inr (Or.inr ⟨rfl, ht, hz⟩)))) hd hr) q
theorem rRetD (fin : Fnl p l e R s m args below meth c n0 Q G) (X : Sd p l e R s m args below meth c n0 T h cells slots) (hx : p.tables.exec = Jvm.exec) (hk : cells ≤ R.cells) (hn : slots ≤ R.slots) (hret : meth.sig.returnType = some .double) {pc : Nat} {Ls : Array Slot} {z : UInt64} {rest : List Value} (hd : decode c.code pc = .ok (.dreturn, 1)) (q : Q (some (.double z)) h) : G T (mkF m pc Ls (.double z :: rest)) :=
  fin T h cells slots _ (some (.double z)) X hk hn (fun h => by rw [hret] at h; cases h) (fun fs hr => by obtain ⟨_, X, _⟩ := X; exact retOut X hx hret rfl (Or.inr (Or.inr (Or.inl ⟨rfl, rfl, _, rfl⟩))) hd hr) q
theorem rRetV (fin : Fnl p l e R s m args below meth c n0 Q G) (X : Sd p l e R s m args below meth c n0 T h cells slots) (hx : p.tables.exec = Jvm.exec) (hk : cells ≤ R.cells) (hn : slots ≤ R.slots) (hret : meth.sig.returnType = none) {pc : Nat} {Ls : Array Slot} (hd : decode c.code pc = .ok (.return_, 1)) (q : Q none h) : G T (mkF m pc Ls []) :=
  fin T h cells slots _ none X hk hn (fun _ => rfl) (fun fs hr => by obtain ⟨_, X, _⟩ := X; exact X.returnOut hx hret hd hr) q
theorem rLdcI (hs : Clo p e below G) (X : Sd p l e R s m args below meth c n0 T h cells slots) (hx : p.tables.exec = Jvm.exec) (hZ : Z.Warmed39 s.vm) {own : String} {index : Nat} {v : Int32} (hown : s.vm.findClass own = some m.cls) (w : (Jvm.Cond.constant own index v).before a0 Z = true) {g : JFrame} (hg : g.method = m) (hd : decode c.code g.pc = .ok (.ldc index, 2)) (k : G T { g with pc := g.pc + 2, stack := .int v :: g.stack }) : G T g := by
  obtain ⟨_, X, _⟩ := X
  exact hs.go (X.ldcInt hx hown (mvT hZ w) hg hd) k
theorem rLdcL (hs : Clo p e below G) (X : Sd p l e R s m args below meth c n0 T h cells slots) (hx : p.tables.exec = Jvm.exec) (hZ : Z.Warmed39 s.vm) {own : String} {index : Nat} {v : Int64} (hown : s.vm.findClass own = some m.cls) (w : (Jvm.Cond.constantLong own index v).before a0 Z = true) {g : JFrame} (hg : g.method = m) (hd : decode c.code g.pc = .ok (.ldc2_w index, 3)) (k : G T { g with pc := g.pc + 3, stack := .long v :: g.stack }) : G T g := by
  obtain ⟨_, X, _⟩ := X
  exact hs.go (X.ldc2Long hx hown (mvT hZ w) hg hd) k
theorem rLdcD (hs : Clo p e below G) (X : Sd p l e R s m args below meth c n0 T h cells slots) (hx : p.tables.exec = Jvm.exec) (hZ : Z.Warmed39 s.vm) {own : String} {index : Nat} {v : UInt64} (hown : s.vm.findClass own = some m.cls) (w : (Jvm.Cond.constantDouble own index v).before a0 Z = true) {g : JFrame} (hg : g.method = m) (hd : decode c.code g.pc = .ok (.ldc2_w index, 3)) (k : G T { g with pc := g.pc + 3, stack := .double v :: g.stack }) : G T g := by
  obtain ⟨_, X, _⟩ := X
  exact hs.go (X.ldc2DoubleC hx hown (mvT hZ w) hg hd) k
theorem rIrem (hs : Clo p e below G) (X : Sd p l e R s m args below meth c n0 T h cells slots) (hx : p.tables.exec = Jvm.exec) {g : JFrame} (hg : g.method = m) {x y : Int32} {rest : List Value} (hd : decode c.code g.pc = .ok (.irem, 1)) (hst : g.stack = .int y :: .int x :: rest) (hy : y ≠ 0) (k : G T { g with pc := g.pc + 1, stack := .int (x % y) :: rest }) : G T g := by
  obtain ⟨_, X, _⟩ := X
  exact hs.go (fun _ q => iremM X hx hg hd hst hy q) k
theorem rLrem (hs : Clo p e below G) (X : Sd p l e R s m args below meth c n0 T h cells slots) (hx : p.tables.exec = Jvm.exec) {g : JFrame} (hg : g.method = m) {x y : Int64} {rest : List Value} (hd : decode c.code g.pc = .ok (.lrem, 1)) (hst : g.stack = .long y :: .long x :: rest) (hy : y ≠ 0) (k : G T { g with pc := g.pc + 1, stack := .long (x % y) :: rest }) : G T g :=
  hs.go (fun _ q => XS.lrem X.here hx hg hd hst hy q) (by rw [lrem_mod]; exact k)
/-! arrays -/
theorem rNewP (hs : Clo p e below G) (X : Sd p l e R s m args below meth c n0 T h cells slots) (hx : p.tables.exec = Jvm.exec) (hZ : Z.Warmed39 s.vm) {aty : ArrayType} (w : (Jvm.Cond.arrayClass (newarray.typeOf aty)).before a0 Z = true) {g : JFrame} (hg : g.method = m) (hd : decode c.code g.pc = .ok (.newarray aty, 2)) {n : Int32} {rest : List Value} (hst : g.stack = .int n :: rest)
    (hn : ¬ n < 0) (cap len : Nat) (hcap : n.toNatClampNeg ≤ cap) (hb : cap * 8 ≤ 536870912) (hc : cells + 1 ≤ R.cells) (hl : slots + cap ≤ R.slots)
    (k : ∀ (T' : State) (h' : Heap) (cA : ClassId) (b : Addr), b = h.size → Sd p l e R s m args below meth c n0 T' h' (cells + 1) (slots + cap) → Ext h h' → Arv Z h' b cA (newarray.typeOf aty) n (List.replicate len (defaultValue (newarray.typeOf aty))) (defaultValue (newarray.typeOf aty)) → G T' { g with pc := g.pc + 2, stack := .ref b :: rest }) : G T g := by
  obtain ⟨L, X, N, eh⟩ := X
  obtain ⟨T', h', cA, X', e', E, A, st⟩ := newP X hx hZ w eh hg hd hst hn hcap hb hc hl
  exact hs.go st (k T' h' cA h.size rfl ⟨L, X', N, e'⟩ E ((Arv.new A hn).pad (pad_rep [] _ len)))
theorem rStI (hs : Clo p e below G) (X : Sd p l e R s m args below meth c n0 T h cells slots) (hx : p.tables.exec = Jvm.exec) (hZ : Z.Warmed39 s.vm) {a : Addr} {kc : ClassId} {z : Int32} {vs : List Value} {dv : Value} (V : Arv Z h a kc .int z vs dv) (ga : n0 ≤ a) {j x : Int32} (hj : ¬ j < 0 ∧ j < z) (i : Nat) (hi : j.toNatClampNeg = i) (hl : i < vs.length)
    {g : JFrame} (hg : g.method = m) {rest : List Value} (hst : g.stack = .int x :: .int j :: .ref a :: rest) (hd : decode c.code g.pc = .ok (.iastore, 1))
    (k : ∀ (T' : State) (h' : Heap), Sd p l e R s m args below meth c n0 T' h' cells slots → Wr h h' a i (.int x) → Arv Z h' a kc .int z (vs.set i (.int x)) dv → G T' { g with pc := g.pc + 1, stack := rest }) : G T g := by
  obtain ⟨L, X, N, eh⟩ := X
  obtain ⟨cl, A, q1, S, q3, H, F⟩ := V
  obtain ⟨T', h', X', e', W, st⟩ := stI X hx hZ eh A (j := j) (inb_of S hj) hg hst hd
  exact hs.go st (k T' h' ⟨_, X', Fr.snoc X' N ga, e'⟩ (hi ▸ W) (Arv.set A q1 S q3 H F rfl W i hi hl))
theorem rStB (hs : Clo p e below G) (X : Sd p l e R s m args below meth c n0 T h cells slots) (hx : p.tables.exec = Jvm.exec) (hZ : Z.Warmed39 s.vm) {a : Addr} {kc : ClassId} {z : Int32} {vs : List Value} {dv : Value} (V : Arv Z h a kc .byte z vs dv) (ga : n0 ≤ a) {j x x' : Int32} (hj : ¬ j < 0 ∧ j < z) (i : Nat) (hi : j.toNatClampNeg = i) (hl : i < vs.length) (hnx : x.toInt8.toInt32 = x')
    {g : JFrame} (hg : g.method = m) {rest : List Value} (hst : g.stack = .int x :: .int j :: .ref a :: rest) (hd : decode c.code g.pc = .ok (.bastore, 1))
    (k : ∀ (T' : State) (h' : Heap), Sd p l e R s m args below meth c n0 T' h' cells slots → Wr h h' a i (.int x') → Arv Z h' a kc .byte z (vs.set i (.int x')) dv → G T' { g with pc := g.pc + 1, stack := rest }) : G T g := by
  obtain ⟨L, X, N, eh⟩ := X
  obtain ⟨cl, A, q1, S, q3, H, F⟩ := V
  obtain ⟨T', h', X', e', W, st⟩ := stB X hx hZ eh A (j := j) (inb_of S hj) hg hst hd
  subst hnx
  exact hs.go st (k T' h' ⟨_, X', Fr.snoc X' N ga, e'⟩ (hi ▸ W) (Arv.set A q1 S q3 H F (fits_nar_byte _) W i hi hl))
theorem rStC (hs : Clo p e below G) (X : Sd p l e R s m args below meth c n0 T h cells slots) (hx : p.tables.exec = Jvm.exec) (hZ : Z.Warmed39 s.vm) {a : Addr} {kc : ClassId} {z : Int32} {vs : List Value} {dv : Value} (V : Arv Z h a kc .char z vs dv) (ga : n0 ≤ a) {j x x' : Int32} (hj : ¬ j < 0 ∧ j < z) (i : Nat) (hi : j.toNatClampNeg = i) (hl : i < vs.length) (hnx : nar .char x = x')
    {g : JFrame} (hg : g.method = m) {rest : List Value} (hst : g.stack = .int x :: .int j :: .ref a :: rest) (hd : decode c.code g.pc = .ok (.castore, 1))
    (k : ∀ (T' : State) (h' : Heap), Sd p l e R s m args below meth c n0 T' h' cells slots → Wr h h' a i (.int x') → Arv Z h' a kc .char z (vs.set i (.int x')) dv → G T' { g with pc := g.pc + 1, stack := rest }) : G T g := by
  obtain ⟨L, X, N, eh⟩ := X
  obtain ⟨cl, A, q1, S, q3, H, F⟩ := V
  obtain ⟨T', h', X', e', W, st⟩ := stC X hx hZ eh A (j := j) (inb_of S hj) hg hst hd
  subst hnx
  exact hs.go st (k T' h' ⟨_, X', Fr.snoc X' N ga, e'⟩ (hi ▸ W) (Arv.set A q1 S q3 H F (fits_nar_char _) W i hi hl))
theorem rLdI (hs : Clo p e below G) (X : Sd p l e R s m args below meth c n0 T h cells slots) (hx : p.tables.exec = Jvm.exec) (hZ : Z.Warmed39 s.vm) {a : Addr} {kc : ClassId} {z : Int32} {vs : List Value} {dv : Value} (V : Arv Z h a kc .int z vs dv) {j : Int32} (hj : ¬ j < 0 ∧ j < z) {v : Value} (hv : vs.getD j.toNatClampNeg dv = v)
    {g : JFrame} (hg : g.method = m) {rest : List Value} (hst : g.stack = .int j :: .ref a :: rest) (hd : decode c.code g.pc = .ok (.iaload, 1)) (k : G T { g with pc := g.pc + 1, stack := v :: rest }) : G T g := by
  obtain ⟨L, X, N, eh⟩ := X
  obtain ⟨cl, A, q1, S, q3, H, F⟩ := V
  exact hs.go (X.iaload hx (j := j) (v := v) (by rw [eh]; exact A.1) (State.isArrayOf_alike hZ.alike A.2.1) A.2.2 (inb_of S hj) (H.at (inb_of S hj) hv) hg hst hd) k
theorem rLdB (hs : Clo p e below G) (X : Sd p l e R s m args below meth c n0 T h cells slots) (hx : p.tables.exec = Jvm.exec) (hZ : Z.Warmed39 s.vm) {a : Addr} {kc : ClassId} {z : Int32} {vs : List Value} {dv : Value} (V : Arv Z h a kc .byte z vs dv) {j : Int32} (hj : ¬ j < 0 ∧ j < z) {v : Value} (hv : vs.getD j.toNatClampNeg dv = v)
    {g : JFrame} (hg : g.method = m) {rest : List Value} (hst : g.stack = .int j :: .ref a :: rest) (hd : decode c.code g.pc = .ok (.baload, 1)) (k : G T { g with pc := g.pc + 1, stack := v :: rest }) : G T g := by
  obtain ⟨L, X, N, eh⟩ := X
  obtain ⟨cl, A, q1, S, q3, H, F⟩ := V
  exact hs.go (X.baloadBytes hx (j := j) (v := v) (by rw [eh]; exact A.1) (State.isArrayOf_alike hZ.alike A.2.1) A.2.2 (inb_of S hj) (H.at (inb_of S hj) hv) hg hst hd) k
theorem rLdC (hs : Clo p e below G) (X : Sd p l e R s m args below meth c n0 T h cells slots) (hx : p.tables.exec = Jvm.exec) (hZ : Z.Warmed39 s.vm) {a : Addr} {kc : ClassId} {z : Int32} {vs : List Value} {dv : Value} (V : Arv Z h a kc .char z vs dv) {j : Int32} (hj : ¬ j < 0 ∧ j < z) {v : Value} (hv : vs.getD j.toNatClampNeg dv = v)
    {g : JFrame} (hg : g.method = m) {rest : List Value} (hst : g.stack = .int j :: .ref a :: rest) (hd : decode c.code g.pc = .ok (.caload, 1)) (k : G T { g with pc := g.pc + 1, stack := v :: rest }) : G T g := by
  obtain ⟨L, X, N, eh⟩ := X
  obtain ⟨cl, A, q1, S, q3, H, F⟩ := V
  exact hs.go (X.caload hx (j := j) (v := v) (by rw [eh]; exact A.1) (State.isArrayOf_alike hZ.alike A.2.1) A.2.2 (inb_of S hj) (H.at (inb_of S hj) hv) hg hst hd) k
theorem rLdR (hs : Clo p e below G) (X : Sd p l e R s m args below meth c n0 T h cells slots) (hx : p.tables.exec = Jvm.exec) (hZ : Z.Warmed39 s.vm) {a : Addr} {kc : ClassId} {ty : FieldType} {z : Int32} {vs : List Value} {dv : Value} (V : Arv Z h a kc ty z vs dv) (hty : ty.isReference = true) {j : Int32} (hj : ¬ j < 0 ∧ j < z) {v : Value} (hv : vs.getD j.toNatClampNeg dv = v)
    {g : JFrame} (hg : g.method = m) {rest : List Value} (hst : g.stack = .int j :: .ref a :: rest) (hd : decode c.code g.pc = .ok (.aaload, 1)) (k : G T { g with pc := g.pc + 1, stack := v :: rest }) : G T g := by
  obtain ⟨L, X, N, eh⟩ := X
  obtain ⟨cl, A, q1, S, q3, H, F⟩ := V
  exact hs.go (X.aaload hx (j := j) (v := v) (by rw [eh]; exact A.1) (State.isArrayOf_alike hZ.alike A.2.1) hty A.2.2 (inb_of S hj) (H.at (inb_of S hj) hv) hg hst hd) k
theorem rLen (hs : Clo p e below G) (X : Sd p l e R s m args below meth c n0 T h cells slots) (hx : p.tables.exec = Jvm.exec) (hZ : Z.Warmed39 s.vm) {a : Addr} {kc : ClassId} {ty : FieldType} {z : Int32} {vs : List Value} {dv : Value} (V : Arv Z h a kc ty z vs dv)
    {g : JFrame} (hg : g.method = m) {rest : List Value} (hst : g.stack = .ref a :: rest) (hd : decode c.code g.pc = .ok (.arraylength, 1)) (k : G T { g with pc := g.pc + 1, stack := .int z :: rest }) : G T g := by
  obtain ⟨L, X, N, eh⟩ := X
  obtain ⟨cl, A, q1, S, q3, H, F⟩ := V
  exact hs.go (X.arraylength hx (by rw [eh]; exact A.1) (State.isArrayOf_alike hZ.alike A.2.1) hg hst hd) (by rw [len_of S q3]; exact k)
theorem rNewR (hs : Clo p e below G) (X : Sd p l e R s m args below meth c n0 T h cells slots) (hx : p.tables.exec = Jvm.exec) (hZ : Z.Warmed39 s.vm) {own C : String} {index : Nat} (hown : s.vm.findClass own = some m.cls) (w1 : (Jvm.Cond.classLink own index C).before a0 Z = true) (w2 : (Jvm.Cond.arrayOver (.object C)).before a0 Z = true) {g : JFrame} (hg : g.method = m) (hd : decode c.code g.pc = .ok (.anewarray index, 3)) {n : Int32} {rest : List Value} (hst : g.stack = .int n :: rest)
    (hn : ¬ n < 0) (cap len : Nat) (hcap : n.toNatClampNeg ≤ cap) (hb : cap * 8 ≤ 536870912) (hc : cells + 1 ≤ R.cells) (hl : slots + cap ≤ R.slots)
    (k : ∀ (T' : State) (h' : Heap) (cA : ClassId) (b : Addr), b = h.size → Sd p l e R s m args below meth c n0 T' h' (cells + 1) (slots + cap) → Ext h h' → Arv Z h' b cA (.object C) n (List.replicate len .null) .null → Ovr Z cA C → G T' { g with pc := g.pc + 3, stack := .ref b :: rest }) : G T g := by
  obtain ⟨L, X, N, eh⟩ := X
  obtain ⟨T', h', cA, X', e', E, A, O, st⟩ := newR X hx hZ hown w1 w2 eh hg hd hst hn hcap hb hc hl
  exact hs.go st (k T' h' cA h.size rfl ⟨L, X', N, e'⟩ E ((Arv.new A hn).pad (pad_rep [] _ len)) O)
theorem rStR (hs : Clo p e below G) (X : Sd p l e R s m args below meth c n0 T h cells slots) (hx : p.tables.exec = Jvm.exec) (hZ : Z.Warmed39 s.vm) {a : Addr} {kc : ClassId} {C : String} {z : Int32} {vs : List Value} {dv : Value} (V : Arv Z h a kc (.object C) z vs dv) (O : Ovr Z kc C) (ga : n0 ≤ a) {j : Int32} {y : Addr} (I : Ins Z h y C true) (hj : ¬ j < 0 ∧ j < z) (i : Nat) (hi : j.toNatClampNeg = i) (hl : i < vs.length)
    {g : JFrame} (hg : g.method = m) {rest : List Value} (hst : g.stack = .ref y :: .int j :: .ref a :: rest) (hd : decode c.code g.pc = .ok (.aastore, 1))
    (k : ∀ (T' : State) (h' : Heap), Sd p l e R s m args below meth c n0 T' h' cells slots → Wr h h' a i (.ref y) → Arv Z h' a kc (.object C) z (vs.set i (.ref y)) dv → G T' { g with pc := g.pc + 1, stack := rest }) : G T g := by
  obtain ⟨L, X, N, eh⟩ := X
  obtain ⟨cl, A, q1, S, q3, H, F⟩ := V
  obtain ⟨T', h', X', e', W, st⟩ := stR X hx hZ eh A (j := j) (v := .ref y) (inb_of S hj) rfl (Sto.ofV A q1 O I) hg hst hd
  exact hs.go st (k T' h' ⟨_, X', Fr.snoc X' N ga, e'⟩ (hi ▸ W) (Arv.set A q1 S q3 H F rfl W i hi hl))
/-! objects -/
theorem rNewO (hs : Clo p e below G) (X : Sd p l e R s m args below meth c n0 T h cells slots) (hx : p.tables.exec = Jvm.exec) (hZ : Z.Warmed39 s.vm) {own C : String} {index n : Nat} (hown : s.vm.findClass own = some m.cls) (w : (Jvm.Cond.classLink own index C).before a0 Z = true) (wi : (Jvm.Cond.instantiable C n).before a0 Z = true) (wz : (Jvm.Cond.initialized C).before a0 Z = true)
    {g : JFrame} (hg : g.method = m) (hd : decode c.code g.pc = .ok (.new index, 3)) (hc : cells + 1 ≤ R.cells) (hl : slots + n ≤ R.slots)
    (k : ∀ (T' : State) (h' : Heap) (b : Addr), b = h.size → Sd p l e R s m args below meth c n0 T' h' (cells + 1) (slots + n) → Ext h h' → Exa Z h' b C → (∀ {O nm d : String} {ty : FieldType}, Laid Z a0 C O nm d → parseFieldDescriptor d = some ty → Fld Z h' b O nm d (defaultValue ty)) → G T' { g with pc := g.pc + 3, stack := .ref b :: g.stack }) : G T g := by
  obtain ⟨L, X, N, eh⟩ := X
  obtain ⟨T', h', X', e', E, A, D, -, st⟩ := newO X hx hZ hown w wi wz eh hg hd hc hl
  exact hs.go st (k T' h' h.size rfl ⟨L, X', N, e'⟩ E A D)
theorem rInitO (hs : Clo p e below G) (X : Sd p l e R s m args below meth c n0 T h cells slots) (hx : p.tables.exec = Jvm.exec) (hZ : Z.Warmed39 s.vm) {own : String} {idx : Nat} (hown : s.vm.findClass own = some m.cls) (w1 : (Jvm.Cond.methodLink own idx Lib.objectInit).before a0 Z = true) (w2 : (Jvm.Cond.instanceMethod Lib.objectInit).before a0 Z = true)
    (w3 : (Jvm.Cond.code Lib.objectInit ⟨#[0xb1]⟩ 1 none).before a0 Z = true) {g : JFrame} (hg : g.method = m) (hsize : g.locals.size = c.maxLocals) {a : Addr} {rest : List Value} (hst : g.stack = .ref a :: rest) (hd : decode c.code g.pc = .ok (.invokespecial idx, 3))
    (hf : 1 ≤ R.frames) {W : Nat} (hW : 2 * g.monitorRoom + (rest.map fun v => v.category).sum ≤ W) (hl : W + 12 ≤ R.locals)
    (k : ∀ T' : State, Sd p l e R s m args below meth c n0 T' h cells slots → G T' { g with pc := g.pc + 3, stack := rest }) : G T g := by
  obtain ⟨L, X, N, eh⟩ := X
  obtain ⟨T', X', e', st⟩ := initO X hx hZ hown w1 w2 w3 eh hg hsize hst hd hf hW hl
  exact hs.go st (k T' ⟨L, X', N, e'⟩)
theorem rGetF (hs : Clo p e below G) (X : Sd p l e R s m args below meth c n0 T h cells slots) (hx : p.tables.exec = Jvm.exec) (hZ : Z.Warmed39 s.vm) {own R0 O n d host : String} {index : Nat} (hown : s.vm.findClass own = some m.cls) (w : (Jvm.Cond.fieldLink own index R0 n d).before a0 Z = true ∨ (Jvm.Cond.fieldLinkNest own index R0 n d host).before a0 Z = true) (via : Via Z R0 O n d)
    {a : Addr} {v : Value} (F : Fld Z h a O n d v) {g : JFrame} (hg : g.method = m) {rest : List Value} (hst : g.stack = .ref a :: rest) (hd : decode c.code g.pc = .ok (.getfield index, 3))
    (k : ∀ T' : State, Sd p l e R s m args below meth c n0 T' h cells slots → G T' { g with pc := g.pc + 3, stack := v :: rest }) : G T g := by
  obtain ⟨L, X, N, eh⟩ := X
  obtain ⟨T', X', e', st⟩ := getF X hx hZ hown w via eh F hg hst hd
  exact hs.go st (k T' ⟨L, X', N, e'⟩)
theorem rGetS (hs : Clo p e below G) (X : Sd p l e R s m args below meth c n0 T h cells slots) (hx : p.tables.exec = Jvm.exec) (hZ : Z.Warmed39 s.vm) {own R0 O n d host : String} {index : Nat} (hown : s.vm.findClass own = some m.cls) (w : (Jvm.Cond.fieldLink own index R0 n d).before a0 Z = true ∨ (Jvm.Cond.fieldLinkNest own index R0 n d host).before a0 Z = true) (via : Via Z R0 O n d)
    {v : Value} (F : Sta Z h O n d v) {g : JFrame} (hg : g.method = m) (hd : decode c.code g.pc = .ok (.getstatic index, 3))
    (k : ∀ T' : State, Sd p l e R s m args below meth c n0 T' h cells slots → G T' { g with pc := g.pc + 3, stack := v :: g.stack }) : G T g := by
  obtain ⟨L, X, N, eh⟩ := X
  obtain ⟨T', X', e', st⟩ := getS2 X hx hZ hown w via eh F hg hd
  exact hs.go st (k T' ⟨L, X', N, e'⟩)
theorem rPutF (hs : Clo p e below G) (X : Sd p l e R s m args below meth c n0 T h cells slots) (hx : p.tables.exec = Jvm.exec) (hZ : Z.Warmed39 s.vm) {own R0 O n d host C : String} {index kk : Nat} (ty : FieldType) (hown : s.vm.findClass own = some m.cls) (w : (Jvm.Cond.fieldLink own index R0 n d).before a0 Z = true ∨ (Jvm.Cond.fieldLinkNest own index R0 n d host).before a0 Z = true) (via : Via Z R0 O n d)
    {a : Addr} {v old : Value} (F : Fld Z h a O n d old) (E : Exa Z h a C) (ga : n0 ≤ a) (L : (Jvm.Cond.lays C O n d).before a0 Z = true ∨ ((Jvm.Cond.laysFinal C O n d).before a0 Z = true ∧ own = O ∧ meth.name = "<init>")) (wi : (Jvm.Cond.instantiable C kk).before a0 Z = true)
    (hty : parseFieldDescriptor d = some ty) (hn : narrow ty v = v) (hf : fits ty v = true) {g : JFrame} (hg : g.method = m) {rest : List Value} (hst : g.stack = v :: .ref a :: rest) (hd : decode c.code g.pc = .ok (.putfield index, 3))
    (k : ∀ (T' : State) (h' : Heap), Sd p l e R s m args below meth c n0 T' h' cells slots → Wr h h' a (Jvm.RoadKit.slotOf Z O n d) v → Fld Z h' a O n d v → G T' { g with pc := g.pc + 3, stack := rest }) : G T g := by
  obtain ⟨L0, X, N, eh⟩ := X
  obtain ⟨T', h', X', e', W, st⟩ := putF X hx hZ hown w via eh F E L wi hty hn hf hg hst hd
  exact hs.go st (k T' h' ⟨_, X', Fr.snoc X' N ga, e'⟩ W (F.same W))
/-! calls -/
theorem rCallS (hs : Clo p e below G) (X : Sd p l e R s m args below meth c n0 T h cells slots) (hx : p.tables.exec = Jvm.exec) (hZ : Z.Warmed39 s.vm) {own : String} {index : Nat} {y : MethodName} {bytes : ByteArray} {maxL : Nat} {ret : Option FieldType} {rm : Room} {as' : List Value} {Q' : Option Value → Heap → Prop}
    (hM : Con l Z y bytes maxL ret [] rm as'.toArray h n0 Q') (hown : s.vm.findClass own = some m.cls) (w1 : (Jvm.Cond.methodLink own index y).before a0 Z = true) (w2 : (Jvm.Cond.static y).before a0 Z = true) (w3 : (Jvm.Cond.initialized y.cls).before a0 Z = true) (w4 : (Jvm.Cond.code y bytes maxL ret).before a0 Z = true)
    (hy : y.cls ≠ "java/lang/invoke/MethodHandle" ∧ y.cls ≠ "java/lang/invoke/VarHandle") {g : JFrame} (hg : g.method = m) (hsize : g.locals.size = c.maxLocals) (rest : List Value) (hlen : ∀ sig, parseMethodDescriptor y.desc = some sig → as'.length = sig.parameters.length)
    (hst : g.stack = as'.reverse ++ rest) (W : Nat) (hW : 2 * g.monitorRoom + (rest.map fun v => v.category).sum ≤ W) (hd : decode c.code g.pc = .ok (.invokestatic index, 3))
    (hf : rm.frames + 1 ≤ R.frames) (hl : W + (maxL + 11) + rm.locals ≤ R.locals) (hc : cells + rm.cells ≤ R.cells) (hsl : slots + rm.slots ≤ R.slots)
    (k : ∀ (v : Option Value) (T' : State) (h' : Heap), Sd p l e R s m args below meth c n0 T' h' (cells + rm.cells) (slots + rm.slots) → Q' v h' → G T' { g with pc := g.pc + 3, stack := v.toList ++ rest }) : G T g := by
  obtain ⟨L, X, N, eh⟩ := X
  obtain ⟨v, vm₁, ⟨T', L', k', n'⟩, -, X', ⟨Lc, ⟨hQ, hN⟩, l', y', z'⟩, st⟩ := Jvm.LawKit.callS X hx (y := y) hown (mvT hZ w1) (mvT hZ w2) (mvT hZ w3) (mvT hZ w4) hy (backOf (Q := fun v h L => Q' v h ∧ Fr n0 L) (W := W) hM hZ w4 w3 hf hl) hg hsize (argsL := as') (rest := rest) hlen hst hW hd (fun _ _ => ⟨rfl, eh, hc, hsl⟩)
  dsimp only [Pt.U, Pt.locs, Pt.cells, Pt.slots] at X' l' y' z' st hQ
  subst l' y' z'
  exact hs.go st (k v T' T'.heap ⟨_, X', Fr.app N hN, rfl⟩ hQ)
theorem rCallI (hs : Clo p e below G) (X : Sd p l e R s m args below meth c n0 T h cells slots) (hx : p.tables.exec = Jvm.exec) (hZ : Z.Warmed39 s.vm) {own : String} {index : Nat} {y : MethodName} {bytes : ByteArray} {maxL : Nat} {rm : Room} {a : Addr} {as' : List Value} {Q' : Option Value → Heap → Prop}
    (hM : Con l Z y bytes maxL none [] rm (Value.ref a :: as').toArray h n0 Q') (hyn : y.name = "<init>") (hown : s.vm.findClass own = some m.cls) (w1 : (Jvm.Cond.methodLink own index y).before a0 Z = true) (w2 : (Jvm.Cond.instanceMethod y).before a0 Z = true) (w3 : (Jvm.Cond.initialized y.cls).before a0 Z = true) (w4 : (Jvm.Cond.code y bytes maxL none).before a0 Z = true)
    (hy : y.cls ≠ "java/lang/invoke/MethodHandle" ∧ y.cls ≠ "java/lang/invoke/VarHandle") {g : JFrame} (hg : g.method = m) (hsize : g.locals.size = c.maxLocals) (rest : List Value) (hlen : ∀ sig, parseMethodDescriptor y.desc = some sig → as'.length = sig.parameters.length)
    (hst : g.stack = as'.reverse ++ .ref a :: rest) (W : Nat) (hW : 2 * g.monitorRoom + (rest.map fun v => v.category).sum ≤ W) (hd : decode c.code g.pc = .ok (.invokespecial index, 3))
    (hf : rm.frames + 1 ≤ R.frames) (hl : W + (maxL + 11) + rm.locals ≤ R.locals) (hc : cells + rm.cells ≤ R.cells) (hsl : slots + rm.slots ≤ R.slots)
    (k : ∀ (v : Option Value) (T' : State) (h' : Heap), Sd p l e R s m args below meth c n0 T' h' (cells + rm.cells) (slots + rm.slots) → Q' v h' → G T' { g with pc := g.pc + 3, stack := v.toList ++ rest }) : G T g := by
  obtain ⟨L, X, N, eh⟩ := X
  obtain ⟨v, vm₁, ⟨T', L', k', n'⟩, -, X', ⟨Lc, ⟨hQ, hN⟩, l', y', z'⟩, st⟩ := X.specialBack hx (y := y) hyn hown (mvT hZ w1) (mvT hZ w2) (mvT hZ w4) hy (backOf (Q := fun v h L => Q' v h ∧ Fr n0 L) (W := W) hM hZ w4 w3 hf hl) hg hsize (Steps.refl _) (a := a) (argsL := as') (rest := rest) hlen hst hW hd (fun _ _ => ⟨rfl, eh, hc, hsl⟩)
  dsimp only [Pt.U, Pt.locs, Pt.cells, Pt.slots] at X' l' y' z' st hQ
  subst l' y' z'
  exact hs.go (fun _ q => st.trans q) (k v T' T'.heap ⟨_, X', Fr.app N hN, rfl⟩ hQ)
theorem rCallV (hs : Clo p e below G) (X : Sd p l e R s m args below meth c n0 T h cells slots) (hx : p.tables.exec = Jvm.exec) (hZ : Z.Warmed39 s.vm) {own C : String} {index : Nat} {y : MethodName} {bytes : ByteArray} {maxL : Nat} {ret : Option FieldType} {rm : Room} {a : Addr} {as' : List Value} {Q' : Option Value → Heap → Prop}
    (hM : Con l Z y bytes maxL ret [] rm (Value.ref a :: as').toArray h n0 Q') (E : Exa Z h a C) (hown : s.vm.findClass own = some m.cls) (w1 : (Jvm.Cond.methodLink own index y).before a0 Z = true) (w5 : (Jvm.Cond.declares y).before a0 Z = true) (w6 : (Jvm.Cond.selects C y y).before a0 Z = true) (w2 : (Jvm.Cond.instanceMethod y).before a0 Z = true) (w3 : (Jvm.Cond.initialized y.cls).before a0 Z = true) (w4 : (Jvm.Cond.code y bytes maxL ret).before a0 Z = true)
    (hy : y.cls ≠ "java/lang/invoke/MethodHandle" ∧ y.cls ≠ "java/lang/invoke/VarHandle") {g : JFrame} (hg : g.method = m) (hsize : g.locals.size = c.maxLocals) (rest : List Value) (hlen : ∀ sig, parseMethodDescriptor y.desc = some sig → as'.length = sig.parameters.length)
    (hst : g.stack = as'.reverse ++ .ref a :: rest) (W : Nat) (hW : 2 * g.monitorRoom + (rest.map fun v => v.category).sum ≤ W) (hd : decode c.code g.pc = .ok (.invokevirtual index, 3))
    (hf : rm.frames + 1 ≤ R.frames) (hl : W + (maxL + 11) + rm.locals ≤ R.locals) (hc : cells + rm.cells ≤ R.cells) (hsl : slots + rm.slots ≤ R.slots)
    (k : ∀ (v : Option Value) (T' : State) (h' : Heap), Sd p l e R s m args below meth c n0 T' h' (cells + rm.cells) (slots + rm.slots) → Q' v h' → G T' { g with pc := g.pc + 3, stack := v.toList ++ rest }) : G T g := by
  obtain ⟨L, X, N, eh⟩ := X
  obtain ⟨cB, kB, qa, qb, qc⟩ := isOf (T := T) hZ eh E
  obtain ⟨v, vm₁, ⟨T', L', k', n'⟩, -, X', ⟨Lc, ⟨hQ, hN⟩, l', y', z'⟩, st⟩ := X.virtualBack hx (y := y) (z := y) hown (mvT hZ w1) (mvT hZ w5) (notFace_of_selects (args := #[]) (mvT hZ w6)) (mvT hZ w6) (mvT hZ w2) hy (backOf (Q := fun v h L => Q' v h ∧ Fr n0 L) (W := W) hM hZ w4 w3 hf hl) qa qc hg hsize (Steps.refl _) (argsL := as') (rest := rest) hlen hst hW hd (fun _ _ => ⟨rfl, eh, hc, hsl⟩)
  dsimp only [Pt.U, Pt.locs, Pt.cells, Pt.slots] at X' l' y' z' st hQ
  subst l' y' z'
  exact hs.go (fun _ q => st.trans q) (k v T' T'.heap ⟨_, X', Fr.app N hN, rfl⟩ hQ)
/-! branches -/
theorem ltL {x y : Int64} (h : x < y) : if_icmp.holds .lt (lcmpW x y) 0 = true ∧ if_icmp.holds .ge (lcmpW x y) 0 = false := have q := tlt ((lw_lt x y).mpr h); ⟨q.1, q.2.1⟩
theorem nltL {x y : Int64} (h : ¬ x < y) : if_icmp.holds .lt (lcmpW x y) 0 = false ∧ if_icmp.holds .ge (lcmpW x y) 0 = true := have q := flt (fun z => h ((lw_lt x y).mp z)); ⟨q.1, q.2.1⟩
theorem gtL {x y : Int64} (h : y < x) : if_icmp.holds .gt (lcmpW x y) 0 = true ∧ if_icmp.holds .le (lcmpW x y) 0 = false := have q := tlt ((lw_gt x y).mpr h); ⟨q.2.2.1, q.2.2.2⟩
theorem ngtL {x y : Int64} (h : ¬ y < x) : if_icmp.holds .gt (lcmpW x y) 0 = false ∧ if_icmp.holds .le (lcmpW x y) 0 = true := have q := flt (fun z => h ((lw_gt x y).mp z)); ⟨q.2.2.1, q.2.2.2⟩
theorem eqL {x y : Int64} (h : x = y) : if_icmp.holds .eq (lcmpW x y) 0 = true ∧ if_icmp.holds .ne (lcmpW x y) 0 = false := teq ((lw_eq x y).mpr h)
theorem neqL {x y : Int64} (h : ¬ x = y) : if_icmp.holds .eq (lcmpW x y) 0 = false ∧ if_icmp.holds .ne (lcmpW x y) 0 = true := feq (fun z => h ((lw_eq x y).mp z))
theorem nameIt {α : Type} {P : α → Prop} (x : α) (k : ∀ z, z = x → P z) : P x := k x rfl
theorem eq64 {x y : Int64} (h : x.toInt = y.toInt) : x = y := Int64.toInt_inj.mp h
theorem eq32 {x y : Int32} (h : x.toInt = y.toInt) : x = y := Int32.toInt_inj.mp h
theorem lt64 {x y : Int64} : x < y ↔ x.toInt < y.toInt := Int64.lt_iff_toInt_lt
theorem lt32 {x y : Int32} : x < y ↔ x.toInt < y.toInt := Int32.lt_iff_toInt_lt
theorem e64 {x y : Int64} : x = y ↔ x.toInt = y.toInt := Int64.toInt_inj.symm
theorem e32 {x y : Int32} : x = y ↔ x.toInt = y.toInt := Int32.toInt_inj.symm
theorem c_lremM (x y : Int64) (d : Int) (hy : y.toInt = d) : (0 ≤ x.toInt → (x % y).toInt = x.toInt % d) ∧ (x.toInt < 0 → (x % y).toInt = -((-x.toInt) % d)) := by rw [Int64.toInt_mod, hy]; exact tr _ _
theorem nar_byte (x : Int32) : x.toInt8.toInt32.toInt8.toInt32 = x.toInt8.toInt32 := by simp
end OwnKit

def f1 (o : Int64) : Int64 := if (512 : Int64) - (o % (512 : Int64)) < (8 : Int64) then o + ((512 : Int64) - (o % (512 : Int64))) else o
theorem own_o (sector : Int64) (position : Int32) {r o : Int64} (hr : r = (position &&& (511 : Int32)).toInt64) (ho : o = (((sector &&& (9007199254740991 : Int64)) <<< ((9 : Int32) &&& 0x3f).toInt64) ||| r)) :
    0 ≤ r.toInt ∧ r.toInt < 512 ∧ 0 ≤ o.toInt ∧ o.toInt < 4611686018427387904 ∧ o.toInt % 512 = r.toInt := by
  have a1 : (position &&& (511 : Int32)).toInt = position.toInt % 512 := c_mask position 511 9 (by decide) (by decide)
  have a2 := c_i2l (position &&& (511 : Int32))
  rw [← hr] at a2
  have a3 : (sector &&& (9007199254740991 : Int64)).toInt = sector.toInt % 9007199254740992 := c_maskL sector 9007199254740991 53 (by decide) (by decide)
  have a4 : ((((sector &&& (9007199254740991 : Int64)) <<< ((9 : Int32) &&& 0x3f).toInt64)).toInt - (sector &&& (9007199254740991 : Int64)).toInt * 512) % 18446744073709551616 = 0 := c_lshl (sector &&& (9007199254740991 : Int64)) 9 9 (by decide)
  have a5 := rng64 ((sector &&& (9007199254740991 : Int64)) <<< ((9 : Int32) &&& 0x3f).toInt64)
  have a6 := c_orL ((sector &&& (9007199254740991 : Int64)) <<< ((9 : Int32) &&& 0x3f).toInt64) r 9 (by decide) 512 rfl
  rw [← ho] at a6
  have a7 := rng64 o
  generalize ((sector &&& (9007199254740991 : Int64)) <<< ((9 : Int32) &&& 0x3f).toInt64).toInt = A at *
  generalize (sector &&& (9007199254740991 : Int64)).toInt = B at *
  generalize (position &&& (511 : Int32)).toInt = P at *
  have a8 : A % 512 = 0 := by omega
  have a9 := a6 a8 (by omega) (by omega)
  omega
theorem own_law {r o h e : Int64} (H : 0 ≤ r.toInt ∧ r.toInt < 512 ∧ 0 ≤ o.toInt ∧ o.toInt < 4611686018427387904 ∧ o.toInt % 512 = r.toInt) (hh : h = f1 o) (he : ((512 : Int64) < (r + (8 : Int64)) ∧ e = ((o - r) + (512 : Int64))) ∨ (¬ ((512 : Int64) < (r + (8 : Int64))) ∧ e = o)) : h = e := by
  have b1 := (c_lremM o 512 512 rfl).1 H.2.2.1
  have b2 := c_lsub 512 (o % 512)
  have b3 := rng64 ((512 : Int64) - o % 512)
  have b4 := c_ladd r 8
  have b5 := rng64 (r + 8)
  have b6 := c_ladd o (512 - o % 512)
  have b7 := rng64 (o + (512 - o % 512))
  have b8 := c_lsub o r
  have b9 := rng64 (o - r)
  have b10 := c_ladd (o - r) 512
  have b11 := rng64 (o - r + 512)
  have k1 : (512 : Int64).toInt = 512 := rfl
  have k2 : (8 : Int64).toInt = 8 := rfl
  rw [lt64, k1] at he
  rw [hh, f1]
  by_cases c : (512 : Int64) - (o % (512 : Int64)) < (8 : Int64)
  · rw [if_pos c]
    rw [lt64, k2] at c
    rcases he with ⟨h1, rfl⟩ | ⟨h1, rfl⟩
    · apply eq64; omega
    · exfalso; omega
  · rw [if_neg c]
    rw [lt64, k2] at c
    rcases he with ⟨h1, rfl⟩ | ⟨h1, rfl⟩
    · exfalso; omega
    · rfl

theorem d1_0 : decode prog_117_method_2_code 0 = .ok (.ldc2_w 9, 3) := by decide +kernel
theorem d1_3 : decode prog_117_method_2_code 3 = .ok (.lload_n 0, 1) := by decide +kernel
theorem d1_4 : decode prog_117_method_2_code 4 = .ok (.ldc2_w 9, 3) := by decide +kernel
theorem d1_7 : decode prog_117_method_2_code 7 = .ok (.lrem, 1) := by decide +kernel
theorem d1_8 : decode prog_117_method_2_code 8 = .ok (.lsub, 1) := by decide +kernel
theorem d1_9 : decode prog_117_method_2_code 9 = .ok (.lstore_n 2, 1) := by decide +kernel
theorem d1_10 : decode prog_117_method_2_code 10 = .ok (.lload_n 2, 1) := by decide +kernel
theorem d1_11 : decode prog_117_method_2_code 11 = .ok (.ldc2_w 13, 3) := by decide +kernel
theorem d1_14 : decode prog_117_method_2_code 14 = .ok (.lcmp, 1) := by decide +kernel
theorem d1_15 : decode prog_117_method_2_code 15 = .ok (.ifCond .ge 9, 3) := by decide +kernel
theorem d1_18 : decode prog_117_method_2_code 18 = .ok (.lload_n 0, 1) := by decide +kernel
theorem d1_19 : decode prog_117_method_2_code 19 = .ok (.lload_n 2, 1) := by decide +kernel
theorem d1_20 : decode prog_117_method_2_code 20 = .ok (.ladd, 1) := by decide +kernel
theorem d1_21 : decode prog_117_method_2_code 21 = .ok (.goto 4, 3) := by decide +kernel
theorem d1_24 : decode prog_117_method_2_code 24 = .ok (.lload_n 0, 1) := by decide +kernel
theorem d1_25 : decode prog_117_method_2_code 25 = .ok (.lreturn, 1) := by decide +kernel
theorem pn_1 : plainFor (⟨"com/example/redoubt/redoubt/storage/LogSectors", "headerAt", "(J)J"⟩ : MethodName) = true := plainFor_of_name (by first | (simp [plainName, overriddenIn]; done) | decide +kernel)
theorem ef_1 (m : MethodId) (x0 : Int64) : entryFrame m #[(.long x0)] 4 = mkF m 0 #[.val (.long x0), .second, .unset, .unset] [] := by first | (simp [entryFrame, mkF, argsToLocals, Value.category]; done) | rfl
theorem hy_1 : ((⟨"com/example/redoubt/redoubt/storage/LogSectors", "headerAt", "(J)J"⟩ : MethodName)).cls ≠ "java/lang/invoke/MethodHandle" ∧ ((⟨"com/example/redoubt/redoubt/storage/LogSectors", "headerAt", "(J)J"⟩ : MethodName)).cls ≠ "java/lang/invoke/VarHandle" := by decide
set_option maxRecDepth 65536 in
set_option maxHeartbeats 40000000 in
theorem rm1 (l : Launch) (Z : State) (a0 : Array Value) (hw : ∀ d ∈ tables_1, d.before a0 Z = true) (ws : List Jvm.Cond) (q1 : Int64) (h0 : Heap) (n0 : Nat) (Z0 : n0 ≤ h0.size)  :
    Con l Z (⟨"com/example/redoubt/redoubt/storage/LogSectors", "headerAt", "(J)J"⟩ : MethodName) prog_117_method_2_code 4 (some .long) ws ({ frames := 0, cells := 0, slots := 0, locals := 0 } : Room) #[(.long q1)] h0 n0 (fun v h => v = some (.long (f1 q1)) ∧ h = h0) := by
  refine Con.of pn_1 ?_
  intro G p e s m below meth c s₁ hs hx hby hml hown hnm hret hZ X0 fin
  have hml : c.maxLocals = 4 := hml
  have hown : s.vm.findClass "com/example/redoubt/redoubt/storage/LogSectors" = some m.cls := hown
  rw [ef_1]
  show G s₁ (mkF m 0 #[.val (.long q1), .second, .unset, .unset] [])
  refine rLdcL hs X0 hx hZ hown (hw _ (List.mem_of_getElem? (i := 5) rfl)) rfl (hb hby d1_0) ?_
  show G s₁ (mkF m 3 #[.val (.long q1), .second, .unset, .unset] [(.long (512 : Int64))])
  refine hs.go (fun _ kk_ => XS.lloadN X0.here hx rfl (hb hby d1_3) rfl  kk_) ?_
  show G s₁ (mkF m 4 #[.val (.long q1), .second, .unset, .unset] [(.long q1), (.long (512 : Int64))])
  refine rLdcL hs X0 hx hZ hown (hw _ (List.mem_of_getElem? (i := 5) rfl)) rfl (hb hby d1_4) ?_
  show G s₁ (mkF m 7 #[.val (.long q1), .second, .unset, .unset] [(.long (512 : Int64)), (.long q1), (.long (512 : Int64))])
  refine rLrem hs X0 hx rfl (hb hby d1_7) rfl (by decide) ?_
  show G s₁ (mkF m 8 #[.val (.long q1), .second, .unset, .unset] [(.long (q1 % (512 : Int64))), (.long (512 : Int64))])
  refine hs.go (fun _ kk_ => XS.lsub X0.here hx rfl (hb hby d1_8) rfl kk_) ?_
  show G s₁ (mkF m 9 #[.val (.long q1), .second, .unset, .unset] [(.long ((512 : Int64) - (q1 % (512 : Int64))))])
  refine nameIt (P := fun zz_ : Int64 => G s₁ (mkF m 9 #[.val (.long q1), .second, .unset, .unset] [(.long zz_)])) ((512 : Int64) - (q1 % (512 : Int64))) (fun k9 hk9 => ?_)
  show G s₁ (mkF m 9 #[.val (.long q1), .second, .unset, .unset] [(.long k9)])
  refine hs.go (fun _ kk_ => XS.lstoreN X0.here hx rfl (hb hby d1_9) rfl (l' := #[.val (.long q1), .second, .val (.long k9), .second]) rfl kk_) ?_
  show G s₁ (mkF m 10 #[.val (.long q1), .second, .val (.long k9), .second] [])
  refine hs.go (fun _ kk_ => XS.lloadN X0.here hx rfl (hb hby d1_10) rfl  kk_) ?_
  show G s₁ (mkF m 11 #[.val (.long q1), .second, .val (.long k9), .second] [(.long k9)])
  refine rLdcL hs X0 hx hZ hown (hw _ (List.mem_of_getElem? (i := 6) rfl)) rfl (hb hby d1_11) ?_
  show G s₁ (mkF m 14 #[.val (.long q1), .second, .val (.long k9), .second] [(.long (8 : Int64)), (.long k9)])
  refine hs.go (fun _ kk_ => XS.lcmp X0.here hx rfl (hb hby d1_14) rfl kk_) ?_
  show G s₁ (mkF m 15 #[.val (.long q1), .second, .val (.long k9), .second] [(.int (lcmpW k9 (8 : Int64)))])
  by_cases c15 : k9 < (8 : Int64)
  · refine hs.go (fun _ kk_ => XS.ifNo X0.here hx rfl (hb hby d1_15) rfl ((if0 _ _).trans (ltL c15).2) kk_) ?_
    show G s₁ (mkF m 18 #[.val (.long q1), .second, .val (.long k9), .second] [])
    refine hs.go (fun _ kk_ => XS.lloadN X0.here hx rfl (hb hby d1_18) rfl  kk_) ?_
    show G s₁ (mkF m 19 #[.val (.long q1), .second, .val (.long k9), .second] [(.long q1)])
    refine hs.go (fun _ kk_ => XS.lloadN X0.here hx rfl (hb hby d1_19) rfl  kk_) ?_
    show G s₁ (mkF m 20 #[.val (.long q1), .second, .val (.long k9), .second] [(.long k9), (.long q1)])
    refine hs.go (fun _ kk_ => XS.ladd X0.here hx rfl (hb hby d1_20) rfl kk_) ?_
    show G s₁ (mkF m 21 #[.val (.long q1), .second, .val (.long k9), .second] [(.long (q1 + k9))])
    refine hs.go (fun _ kk_ => XS.goto X0.here hx rfl (pc0 := 21) (pc' := 25) rfl (hb hby d1_21) (by decide) (by decide) kk_) ?_
    show G s₁ (mkF m 25 #[.val (.long q1), .second, .val (.long k9), .second] [(.long (q1 + k9))])
    exact rRetL fin X0 hx (by decide) (by decide) hret (hb hby d1_25) ⟨by subst hk9; rw [f1, if_pos c15], rfl⟩
  · refine hs.go (fun _ kk_ => XS.ifYes X0.here hx rfl (pc0 := 15) (pc' := 24) rfl (hb hby d1_15) rfl ((if0 _ _).trans (nltL c15).2) (by decide) (by decide) kk_) ?_
    show G s₁ (mkF m 24 #[.val (.long q1), .second, .val (.long k9), .second] [])
    refine hs.go (fun _ kk_ => XS.lloadN X0.here hx rfl (hb hby d1_24) rfl  kk_) ?_
    show G s₁ (mkF m 25 #[.val (.long q1), .second, .val (.long k9), .second] [(.long q1)])
    exact rRetL fin X0 hx (by decide) (by decide) hret (hb hby d1_25) ⟨by subst hk9; rw [f1, if_neg c15], rfl⟩
theorem pd_0 : parseMethodDescriptor "(J)J" = some ⟨[.long], some .long⟩ := by decide +kernel
theorem pn_0 : plainFor x = true := plainFor_of_name (show plainName "com/example/redoubt/redoubt/storage/LogSectorsHeaderAtPinLaw" = true by first | (simp [plainName, overriddenIn]; done) | decide +kernel)
theorem ef_0 (m : MethodId) (x0 : Int64) (x1 : Int32) : entryFrame m #[(.long x0), (.int x1)] maxLocals = mkF m 0 #[.val (.long x0), .second, .val (.int x1), .unset, .unset, .unset, .unset, .unset, .unset, .unset, .unset] [] := by first | (simp [entryFrame, mkF, argsToLocals, Value.category, maxLocals]; done) | rfl
set_option maxRecDepth 65536 in
set_option maxHeartbeats 40000000 in
theorem rm0 (l : Launch) (Z : State) (a0 : Array Value) (hw : ∀ d ∈ tables_1, d.before a0 Z = true) (ws : List Jvm.Cond) (p1 : Int64) (p2 : Int32) (h0 : Heap) (n0 : Nat) (Z0 : n0 ≤ h0.size)  :
    Con l Z x code maxLocals ret ws room_1 #[(.long p1), (.int p2)] h0 n0 (fun v h => v = some (.int 1)) := by
  refine Con.of pn_0 ?_
  intro G p e s m below meth c s₁ hs hx hby hml hown hnm hret hZ X0 fin
  have hml : c.maxLocals = 11 := hml
  have hown : s.vm.findClass "com/example/redoubt/redoubt/storage/LogSectorsHeaderAtPinLaw" = some m.cls := hown
  rw [ef_0]
  show G s₁ (mkF m 0 #[.val (.long p1), .second, .val (.int p2), .unset, .unset, .unset, .unset, .unset, .unset, .unset, .unset] [])
  refine hs.go (fun _ kk_ => XS.iloadN X0.here hx rfl (hb hby at_0) rfl  kk_) ?_
  show G s₁ (mkF m 1 #[.val (.long p1), .second, .val (.int p2), .unset, .unset, .unset, .unset, .unset, .unset, .unset, .unset] [(.int p2)])
  refine hs.go (fun _ kk_ => XS.sipush X0.here hx rfl (hb hby at_1) kk_) ?_
  show G s₁ (mkF m 4 #[.val (.long p1), .second, .val (.int p2), .unset, .unset, .unset, .unset, .unset, .unset, .unset, .unset] [(.int (511 : Int32)), (.int p2)])
  refine hs.go (fun _ kk_ => XS.iand X0.here hx rfl (hb hby at_4) rfl kk_) ?_
  show G s₁ (mkF m 5 #[.val (.long p1), .second, .val (.int p2), .unset, .unset, .unset, .unset, .unset, .unset, .unset, .unset] [(.int (p2 &&& (511 : Int32)))])
  refine hs.go (fun _ kk_ => XS.i2l X0.here hx rfl (hb hby at_5) rfl kk_) ?_
  show G s₁ (mkF m 6 #[.val (.long p1), .second, .val (.int p2), .unset, .unset, .unset, .unset, .unset, .unset, .unset, .unset] [(.long ((p2 &&& (511 : Int32)).toInt64))])
  refine nameIt (P := fun zz_ : Int64 => G s₁ (mkF m 6 #[.val (.long p1), .second, .val (.int p2), .unset, .unset, .unset, .unset, .unset, .unset, .unset, .unset] [(.long zz_)])) ((p2 &&& (511 : Int32)).toInt64) (fun r hr => ?_)
  show G s₁ (mkF m 6 #[.val (.long p1), .second, .val (.int p2), .unset, .unset, .unset, .unset, .unset, .unset, .unset, .unset] [(.long r)])
  refine hs.go (fun _ kk_ => XS.lstoreN X0.here hx rfl (hb hby at_6) rfl (l' := #[.val (.long p1), .second, .val (.int p2), .val (.long r), .second, .unset, .unset, .unset, .unset, .unset, .unset]) rfl kk_) ?_
  show G s₁ (mkF m 7 #[.val (.long p1), .second, .val (.int p2), .val (.long r), .second, .unset, .unset, .unset, .unset, .unset, .unset] [])
  refine hs.go (fun _ kk_ => XS.lloadN X0.here hx rfl (hb hby at_7) rfl  kk_) ?_
  show G s₁ (mkF m 8 #[.val (.long p1), .second, .val (.int p2), .val (.long r), .second, .unset, .unset, .unset, .unset, .unset, .unset] [(.long p1)])
  refine rLdcL hs X0 hx hZ hown (hw _ (List.mem_of_getElem? (i := 0) rfl)) rfl (hb hby at_8) ?_
  show G s₁ (mkF m 11 #[.val (.long p1), .second, .val (.int p2), .val (.long r), .second, .unset, .unset, .unset, .unset, .unset, .unset] [(.long (9007199254740991 : Int64)), (.long p1)])
  refine hs.go (fun _ kk_ => XS.land X0.here hx rfl (hb hby at_11) rfl kk_) ?_
  show G s₁ (mkF m 12 #[.val (.long p1), .second, .val (.int p2), .val (.long r), .second, .unset, .unset, .unset, .unset, .unset, .unset] [(.long (p1 &&& (9007199254740991 : Int64)))])
  refine hs.go (fun _ kk_ => XS.bipush X0.here hx rfl (hb hby at_12) kk_) ?_
  show G s₁ (mkF m 14 #[.val (.long p1), .second, .val (.int p2), .val (.long r), .second, .unset, .unset, .unset, .unset, .unset, .unset] [(.int (9 : Int32)), (.long (p1 &&& (9007199254740991 : Int64)))])
  refine hs.go (fun _ kk_ => XS.lshl X0.here hx rfl (hb hby at_14) rfl kk_) ?_
  show G s₁ (mkF m 15 #[.val (.long p1), .second, .val (.int p2), .val (.long r), .second, .unset, .unset, .unset, .unset, .unset, .unset] [(.long ((p1 &&& (9007199254740991 : Int64)) <<< ((9 : Int32) &&& 0x3f).toInt64))])
  refine hs.go (fun _ kk_ => XS.lloadN X0.here hx rfl (hb hby at_15) rfl  kk_) ?_
  show G s₁ (mkF m 16 #[.val (.long p1), .second, .val (.int p2), .val (.long r), .second, .unset, .unset, .unset, .unset, .unset, .unset] [(.long r), (.long ((p1 &&& (9007199254740991 : Int64)) <<< ((9 : Int32) &&& 0x3f).toInt64))])
  refine hs.go (fun _ kk_ => XS.lor X0.here hx rfl (hb hby at_16) rfl kk_) ?_
  show G s₁ (mkF m 17 #[.val (.long p1), .second, .val (.int p2), .val (.long r), .second, .unset, .unset, .unset, .unset, .unset, .unset] [(.long (((p1 &&& (9007199254740991 : Int64)) <<< ((9 : Int32) &&& 0x3f).toInt64) ||| r))])
  refine nameIt (P := fun zz_ : Int64 => G s₁ (mkF m 17 #[.val (.long p1), .second, .val (.int p2), .val (.long r), .second, .unset, .unset, .unset, .unset, .unset, .unset] [(.long zz_)])) (((p1 &&& (9007199254740991 : Int64)) <<< ((9 : Int32) &&& 0x3f).toInt64) ||| r) (fun o ho => ?_)
  show G s₁ (mkF m 17 #[.val (.long p1), .second, .val (.int p2), .val (.long r), .second, .unset, .unset, .unset, .unset, .unset, .unset] [(.long o)])
  refine hs.go (fun _ kk_ => XS.lstore X0.here hx rfl (hb hby at_17) rfl (l' := #[.val (.long p1), .second, .val (.int p2), .val (.long r), .second, .val (.long o), .second, .unset, .unset, .unset, .unset]) rfl kk_) ?_
  show G s₁ (mkF m 19 #[.val (.long p1), .second, .val (.int p2), .val (.long r), .second, .val (.long o), .second, .unset, .unset, .unset, .unset] [])
  refine hs.go (fun _ kk_ => XS.lload X0.here hx rfl (hb hby at_19) rfl  kk_) ?_
  show G s₁ (mkF m 21 #[.val (.long p1), .second, .val (.int p2), .val (.long r), .second, .val (.long o), .second, .unset, .unset, .unset, .unset] [(.long o)])
  refine rCallS hs X0 hx hZ (as' := [(.long o)]) (rm1 l Z a0 hw [] o h0 n0 Z0) hown (hw _ (List.mem_of_getElem? (i := 1) rfl)) (hw _ (List.mem_of_getElem? (i := 2) rfl)) (hw _ (List.mem_of_getElem? (i := 3) rfl)) (hw _ (List.mem_of_getElem? (i := 4) rfl)) hy_1 rfl (by rw [hml]; rfl) [] (lenOf pd_0 rfl) rfl 0 (by show 2 * 0 + _ ≤ _; exact Nat.le_of_eq rfl) (hb hby at_21) (by decide) (by decide) (by decide) (by decide) (fun r1 T1 h1 X1 q1 => ?_)
  obtain ⟨rfl, qh1⟩ := q1
  rw [qh1] at X1
  show G T1 (mkF m 24 #[.val (.long p1), .second, .val (.int p2), .val (.long r), .second, .val (.long o), .second, .unset, .unset, .unset, .unset] [(.long (f1 o))])
  refine nameIt (P := fun zz_ : Int64 => G T1 (mkF m 24 #[.val (.long p1), .second, .val (.int p2), .val (.long r), .second, .val (.long o), .second, .unset, .unset, .unset, .unset] [(.long zz_)])) (f1 o) (fun hd hhd => ?_)
  show G T1 (mkF m 24 #[.val (.long p1), .second, .val (.int p2), .val (.long r), .second, .val (.long o), .second, .unset, .unset, .unset, .unset] [(.long hd)])
  refine hs.go (fun _ kk_ => XS.lstore X1.here hx rfl (hb hby at_24) rfl (l' := #[.val (.long p1), .second, .val (.int p2), .val (.long r), .second, .val (.long o), .second, .val (.long hd), .second, .unset, .unset]) rfl kk_) ?_
  show G T1 (mkF m 26 #[.val (.long p1), .second, .val (.int p2), .val (.long r), .second, .val (.long o), .second, .val (.long hd), .second, .unset, .unset] [])
  refine hs.go (fun _ kk_ => XS.lloadN X1.here hx rfl (hb hby at_26) rfl  kk_) ?_
  show G T1 (mkF m 27 #[.val (.long p1), .second, .val (.int p2), .val (.long r), .second, .val (.long o), .second, .val (.long hd), .second, .unset, .unset] [(.long r)])
  refine rLdcL hs X1 hx hZ hown (hw _ (List.mem_of_getElem? (i := 7) rfl)) rfl (hb hby at_27) ?_
  show G T1 (mkF m 30 #[.val (.long p1), .second, .val (.int p2), .val (.long r), .second, .val (.long o), .second, .val (.long hd), .second, .unset, .unset] [(.long (8 : Int64)), (.long r)])
  refine hs.go (fun _ kk_ => XS.ladd X1.here hx rfl (hb hby at_30) rfl kk_) ?_
  show G T1 (mkF m 31 #[.val (.long p1), .second, .val (.int p2), .val (.long r), .second, .val (.long o), .second, .val (.long hd), .second, .unset, .unset] [(.long (r + (8 : Int64)))])
  refine rLdcL hs X1 hx hZ hown (hw _ (List.mem_of_getElem? (i := 8) rfl)) rfl (hb hby at_31) ?_
  show G T1 (mkF m 34 #[.val (.long p1), .second, .val (.int p2), .val (.long r), .second, .val (.long o), .second, .val (.long hd), .second, .unset, .unset] [(.long (512 : Int64)), (.long (r + (8 : Int64)))])
  refine hs.go (fun _ kk_ => XS.lcmp X1.here hx rfl (hb hby at_34) rfl kk_) ?_
  show G T1 (mkF m 35 #[.val (.long p1), .second, .val (.int p2), .val (.long r), .second, .val (.long o), .second, .val (.long hd), .second, .unset, .unset] [(.int (lcmpW (r + (8 : Int64)) (512 : Int64)))])
  by_cases c35 : (512 : Int64) < (r + (8 : Int64))
  · refine hs.go (fun _ kk_ => XS.ifYes X1.here hx rfl (pc0 := 35) (pc' := 45) rfl (hb hby at_35) rfl ((if0 _ _).trans (gtL c35).1) (by decide) (by decide) kk_) ?_
    show G T1 (mkF m 45 #[.val (.long p1), .second, .val (.int p2), .val (.long r), .second, .val (.long o), .second, .val (.long hd), .second, .unset, .unset] [])
    refine hs.go (fun _ kk_ => XS.lload X1.here hx rfl (hb hby at_45) rfl  kk_) ?_
    show G T1 (mkF m 47 #[.val (.long p1), .second, .val (.int p2), .val (.long r), .second, .val (.long o), .second, .val (.long hd), .second, .unset, .unset] [(.long o)])
    refine hs.go (fun _ kk_ => XS.lloadN X1.here hx rfl (hb hby at_47) rfl  kk_) ?_
    show G T1 (mkF m 48 #[.val (.long p1), .second, .val (.int p2), .val (.long r), .second, .val (.long o), .second, .val (.long hd), .second, .unset, .unset] [(.long r), (.long o)])
    refine hs.go (fun _ kk_ => XS.lsub X1.here hx rfl (hb hby at_48) rfl kk_) ?_
    show G T1 (mkF m 49 #[.val (.long p1), .second, .val (.int p2), .val (.long r), .second, .val (.long o), .second, .val (.long hd), .second, .unset, .unset] [(.long (o - r))])
    refine rLdcL hs X1 hx hZ hown (hw _ (List.mem_of_getElem? (i := 8) rfl)) rfl (hb hby at_49) ?_
    show G T1 (mkF m 52 #[.val (.long p1), .second, .val (.int p2), .val (.long r), .second, .val (.long o), .second, .val (.long hd), .second, .unset, .unset] [(.long (512 : Int64)), (.long (o - r))])
    refine hs.go (fun _ kk_ => XS.ladd X1.here hx rfl (hb hby at_52) rfl kk_) ?_
    show G T1 (mkF m 53 #[.val (.long p1), .second, .val (.int p2), .val (.long r), .second, .val (.long o), .second, .val (.long hd), .second, .unset, .unset] [(.long ((o - r) + (512 : Int64)))])
    refine nameIt (P := fun zz_ : Int64 => G T1 (mkF m 53 #[.val (.long p1), .second, .val (.int p2), .val (.long r), .second, .val (.long o), .second, .val (.long hd), .second, .unset, .unset] [(.long zz_)])) ((o - r) + (512 : Int64)) (fun ex hex => ?_)
    show G T1 (mkF m 53 #[.val (.long p1), .second, .val (.int p2), .val (.long r), .second, .val (.long o), .second, .val (.long hd), .second, .unset, .unset] [(.long ex)])
    refine hs.go (fun _ kk_ => XS.lstore X1.here hx rfl (hb hby at_53) rfl (l' := #[.val (.long p1), .second, .val (.int p2), .val (.long r), .second, .val (.long o), .second, .val (.long hd), .second, .val (.long ex), .second]) rfl kk_) ?_
    show G T1 (mkF m 55 #[.val (.long p1), .second, .val (.int p2), .val (.long r), .second, .val (.long o), .second, .val (.long hd), .second, .val (.long ex), .second] [])
    refine hs.go (fun _ kk_ => XS.lload X1.here hx rfl (hb hby at_55) rfl  kk_) ?_
    show G T1 (mkF m 57 #[.val (.long p1), .second, .val (.int p2), .val (.long r), .second, .val (.long o), .second, .val (.long hd), .second, .val (.long ex), .second] [(.long hd)])
    refine hs.go (fun _ kk_ => XS.lload X1.here hx rfl (hb hby at_57) rfl  kk_) ?_
    show G T1 (mkF m 59 #[.val (.long p1), .second, .val (.int p2), .val (.long r), .second, .val (.long o), .second, .val (.long hd), .second, .val (.long ex), .second] [(.long ex), (.long hd)])
    refine hs.go (fun _ kk_ => XS.lcmp X1.here hx rfl (hb hby at_59) rfl kk_) ?_
    show G T1 (mkF m 60 #[.val (.long p1), .second, .val (.int p2), .val (.long r), .second, .val (.long o), .second, .val (.long hd), .second, .val (.long ex), .second] [(.int (lcmpW hd ex))])
    refine hs.go (fun _ kk_ => XS.ifNo X1.here hx rfl (hb hby at_60) rfl ((if0 _ _).trans (eqL (own_law (own_o p1 p2 hr ho) hhd (Or.inl ⟨c35, hex⟩) : hd = ex)).2) kk_) ?_
    show G T1 (mkF m 63 #[.val (.long p1), .second, .val (.int p2), .val (.long r), .second, .val (.long o), .second, .val (.long hd), .second, .val (.long ex), .second] [])
    refine hs.go (fun _ kk_ => XS.iconst X1.here hx rfl (hb hby at_63) kk_) ?_
    show G T1 (mkF m 64 #[.val (.long p1), .second, .val (.int p2), .val (.long r), .second, .val (.long o), .second, .val (.long hd), .second, .val (.long ex), .second] [(.int (1 : Int32))])
    refine hs.go (fun _ kk_ => XS.goto X1.here hx rfl (pc0 := 64) (pc' := 68) rfl (hb hby at_64) (by decide) (by decide) kk_) ?_
    show G T1 (mkF m 68 #[.val (.long p1), .second, .val (.int p2), .val (.long r), .second, .val (.long o), .second, .val (.long hd), .second, .val (.long ex), .second] [(.int (1 : Int32))])
    exact rRetN fin X1 hx (by decide) (by decide) hret (by simp) (hb hby at_68) (z' := (1 : Int32)) (by decide) rfl
  · refine hs.go (fun _ kk_ => XS.ifNo X1.here hx rfl (hb hby at_35) rfl ((if0 _ _).trans (ngtL c35).1) kk_) ?_
    show G T1 (mkF m 38 #[.val (.long p1), .second, .val (.int p2), .val (.long r), .second, .val (.long o), .second, .val (.long hd), .second, .unset, .unset] [])
    refine hs.go (fun _ kk_ => XS.lload X1.here hx rfl (hb hby at_38) rfl  kk_) ?_
    show G T1 (mkF m 40 #[.val (.long p1), .second, .val (.int p2), .val (.long r), .second, .val (.long o), .second, .val (.long hd), .second, .unset, .unset] [(.long o)])
    refine hs.go (fun _ kk_ => XS.lstore X1.here hx rfl (hb hby at_40) rfl (l' := #[.val (.long p1), .second, .val (.int p2), .val (.long r), .second, .val (.long o), .second, .val (.long hd), .second, .val (.long o), .second]) rfl kk_) ?_
    show G T1 (mkF m 42 #[.val (.long p1), .second, .val (.int p2), .val (.long r), .second, .val (.long o), .second, .val (.long hd), .second, .val (.long o), .second] [])
    refine hs.go (fun _ kk_ => XS.goto X1.here hx rfl (pc0 := 42) (pc' := 55) rfl (hb hby at_42) (by decide) (by decide) kk_) ?_
    show G T1 (mkF m 55 #[.val (.long p1), .second, .val (.int p2), .val (.long r), .second, .val (.long o), .second, .val (.long hd), .second, .val (.long o), .second] [])
    refine hs.go (fun _ kk_ => XS.lload X1.here hx rfl (hb hby at_55) rfl  kk_) ?_
    show G T1 (mkF m 57 #[.val (.long p1), .second, .val (.int p2), .val (.long r), .second, .val (.long o), .second, .val (.long hd), .second, .val (.long o), .second] [(.long hd)])
    refine hs.go (fun _ kk_ => XS.lload X1.here hx rfl (hb hby at_57) rfl  kk_) ?_
    show G T1 (mkF m 59 #[.val (.long p1), .second, .val (.int p2), .val (.long r), .second, .val (.long o), .second, .val (.long hd), .second, .val (.long o), .second] [(.long o), (.long hd)])
    refine hs.go (fun _ kk_ => XS.lcmp X1.here hx rfl (hb hby at_59) rfl kk_) ?_
    show G T1 (mkF m 60 #[.val (.long p1), .second, .val (.int p2), .val (.long r), .second, .val (.long o), .second, .val (.long hd), .second, .val (.long o), .second] [(.int (lcmpW hd o))])
    refine hs.go (fun _ kk_ => XS.ifNo X1.here hx rfl (hb hby at_60) rfl ((if0 _ _).trans (eqL (own_law (own_o p1 p2 hr ho) hhd (Or.inr ⟨c35, rfl⟩) : hd = o)).2) kk_) ?_
    show G T1 (mkF m 63 #[.val (.long p1), .second, .val (.int p2), .val (.long r), .second, .val (.long o), .second, .val (.long hd), .second, .val (.long o), .second] [])
    refine hs.go (fun _ kk_ => XS.iconst X1.here hx rfl (hb hby at_63) kk_) ?_
    show G T1 (mkF m 64 #[.val (.long p1), .second, .val (.int p2), .val (.long r), .second, .val (.long o), .second, .val (.long hd), .second, .val (.long o), .second] [(.int (1 : Int32))])
    refine hs.go (fun _ kk_ => XS.goto X1.here hx rfl (pc0 := 64) (pc' := 68) rfl (hb hby at_64) (by decide) (by decide) kk_) ?_
    show G T1 (mkF m 68 #[.val (.long p1), .second, .val (.int p2), .val (.long r), .second, .val (.long o), .second, .val (.long hd), .second, .val (.long o), .second] [(.int (1 : Int32))])
    exact rRetN fin X1 hx (by decide) (by decide) hret (by simp) (hb hby at_68) (z' := (1 : Int32)) (by decide) rfl
set_option maxRecDepth 65536 in
set_option maxHeartbeats 40000000 in
theorem comes_1 {Post : Tables → Env → Array Value → State → Outcome → State → Prop} (hpost : ∀ tb e args s v u, (limb_1_1.after args s (.returned v) u = true ∧ limb_1_2.after args s (.returned v) u = true ∧ True) → FrameEnd s (.returned v) u (Jvm.fieldLocs frame_1_writes args s ++ Jvm.arrayLocs frame_1_arrays args s ++ Jvm.staticLocs frame_1_statics s) 0 0 → Post tb e args s (.returned v) u) :
    ArmFor flags0 classFile x code maxLocals ret World_1 tables_1 room_1 Calls_1 rest_1 Pre_1 Post := by
  intro l hfl _ _ p e ha hc hk s m args below hf hA hF happ hP
  obtain ⟨hcalls, hrest, hpre⟩ := hP
  obtain ⟨-, -, -, hnamed, -, -, -, hat⟩ := (Spec.applies_iff hf).mp happ
  obtain ⟨hg, hn⟩ := and_e (Cond.before_iff.mp (show (Jvm.Cond.and given_1 narrow_1).before args s = true from hpre))
  obtain ⟨hcnt, hg0⟩ := and_e hg
  obtain ⟨t0, hg1⟩ := and_e hg0
  have t1 := hg1
  obtain ⟨w0, w1, rfl⟩ : ∃ w0 w1 : Value, args = #[w0, w1] := by
    have hs : args.size = 2 := by simpa [Cond.value, given_1] using hcnt
    obtain ⟨L⟩ := args
    match L, hs with
    | [w0, w1], _ => exact ⟨w0, w1, rfl⟩
  have hw := fun d (hd : d ∈ tables_1) => atoms_spec (ws := Jvm.Cond.code x code maxLocals ret :: tables_1) hat d (List.mem_cons_of_mem _ hd)
  have hfit : Fit s := fun {y c} hc i hi => by
    obtain ⟨ha, rfl⟩ := Array.getElem?_eq_some_iff.mp hc
    have q := List.all_eq_true.mp ((Array.all_eq_true_iff_forall_mem.mp hF) _ (Array.getElem_mem ha)) i (List.mem_range.mpr hi)
    simpa [Array.getElem?_eq_getElem hi] using q
  obtain ⟨i0, ei0⟩ := isL_v t0
  obtain rfl : w0 = (.long i0) := Option.some.inj ei0
  obtain ⟨i1, ei1⟩ := is_v t1
  obtain rfl : w1 = (.int i1) := Option.some.inj ei1
  obtain ⟨n, o, h1, h2, h3, _, L, rfl, ⟨rfl, N⟩, hq⟩ := rm0 l s _ hw tables_1 i0 i1  s.heap s.heap.size (Nat.le_refl _)  p e ha hc hk s m _ below hf ((Spec.applies_iff_loose hf).mp happ).1 ⟨rfl, State.Warmed39.refl s, rfl⟩ trivial
  refine ⟨n, _, h1, h2, h3, hpost _ _ _ _ _ _ ⟨Cond.after_iff.mpr rfl, Cond.after_iff.mpr (eq_i res_at (Term.int_eval (1)) rfl), trivial⟩ ⟨hq.1, hq.2.1, (hq.2.2.sift fun y hy => Or.inr (N y hy)).mono (by decide) (by decide)⟩⟩
theorem main_1_1 : Claimed_1_1 := comes_1 fun _ _ _ _ _ _ h hF => ⟨h.1, hF⟩
theorem main_1_2 : Claimed_1_2 := comes_1 fun _ _ _ _ _ _ h hF => ⟨h.2.1, hF⟩
end Jvm.Pilot.@@N@@
namespace Jvm.Pilot.@@N@@
open Jvm Jvm.ClassFile Sem Op Lib Jvm.Free Jvm.Stand Jvm.Pilot.@@N@@.Jvm.D
/-! MADE BY PROGRAM (witnessworld.py) out of the Statement's table words and the real class files: 9 classes; the members and pool entries that the words name. The judged class is class 1, her method 1. -/
namespace start1
open Jvm.ClassFile
def u (s : String) : CpInfo := .utf8 (stringToUtf16 s)
/-- a pool by its gaps: so many unusable entries, then the entry; so many at the end -/
def gap : Nat → List CpInfo → List CpInfo
  | 0, r => r
  | n + 1, r => .unusable :: gap n r
def poolList (es : List (Nat × CpInfo)) (last : Nat) : List CpInfo := es.foldr (fun e r => gap e.1 (e.2 :: r)) (gap last [])
def pool (es : List (Nat × CpInfo)) (last : Nat) : Array CpInfo := ⟨poolList es last⟩
def fileOf (pool : Array CpInfo) (this : Nat) (attrs : Array Attribute := #[]) (ms : Array MethodInfo := #[]) (fl : Nat := 33) (sup : Nat := 0) (ifs : Array Nat := #[]) (fds : Array FieldInfo := #[]) : ClassFile where
  minorVersion := 0
  majorVersion := 65
  constantPool := pool
  accessFlags := fl
  thisClass := this
  superClass := sup
  interfaces := ifs
  fields := fds
  methods := ms
  attributes := attrs
def plain (name : String) (sup : Option ClassId) : Class where
  name := name
  kind := .ordinary
  loader := none
  accessFlags := 33
  super := sup
  interfaces := #[]
  cf := none
  fields := #[]
  methods := #[]
  instanceTypes := #[]
  staticTypes := #[]
  resolved := #[]
  callSites := []
  init := .initialized
  statics := none
  mirror := none

def pool0 : Array CpInfo := pool [(5, u "<init>"), (0, u "()V"), (1, .class_ 10), (1, u "java/lang/Object")] 113

def k0m0 : Method := { name := "<init>", desc := "()V", sig := { parameters := [], returnType := none }, accessFlags := 1, code := none }
/-- java/lang/Object -/
def k0 : Class := { plain "java/lang/Object" none with
  accessFlags := 33
  interfaces := #[]
  cf := some (fileOf pool0 8 #[] #[{ accessFlags := 1, nameIndex := 5, descriptorIndex := 6, attributes := #[] }] 33 0 #[] #[])
  fields := #[]
  methods := #[k0m0]
  instanceTypes := #[]
  staticTypes := #[]
  resolved := Array.replicate 124 none
  statics := none }

def pool1 : Array CpInfo := pool [(2, .class_ 4), (1, u "java/lang/Object"), (0, u "<init>"), (0, u "()V"), (0, .long 9007199254740991), (1, .methodref 10 11), (0, .class_ 12), (0, .nameAndType 13 14), (0, u "com/example/redoubt/redoubt/storage/LogSectors"), (0, u "headerAt"), (0, u "(J)J"), (0, .long 8), (1, .long 512), (1, .class_ 20), (0, u "com/example/redoubt/redoubt/storage/LogSectorsHeaderAtPinLaw"), (2, u "law"), (0, u "(JI)Z")] 3

def k1m0 : Method := { name := "<init>", desc := "()V", sig := { parameters := [], returnType := none }, accessFlags := 2, code := none }
def k1c1 : Code := { maxStack := 4, maxLocals := 11, code := code, exceptionTable := #[], attributes := #[] }
def k1m1 : Method := { name := "law", desc := "(JI)Z", sig := { parameters := [.long, .int], returnType := some .boolean }, accessFlags := 9, code := some k1c1 }
/-- com/example/redoubt/redoubt/storage/LogSectorsHeaderAtPinLaw -/
def k1 : Class := { plain "com/example/redoubt/redoubt/storage/LogSectorsHeaderAtPinLaw" (some 0) with
  accessFlags := 49
  interfaces := #[]
  cf := some (fileOf pool1 19 #[] #[{ accessFlags := 2, nameIndex := 5, descriptorIndex := 6, attributes := #[] }, { accessFlags := 9, nameIndex := 23, descriptorIndex := 24, attributes := #[] }] 49 2 #[] #[])
  fields := #[]
  methods := #[k1m0, k1m1]
  instanceTypes := #[]
  staticTypes := #[]
  resolved := Array.replicate 28 none
  statics := none }

def pool2 : Array CpInfo := pool [(2, .class_ 4), (1, u "java/lang/Object"), (0, u "<init>"), (0, u "()V"), (0, .class_ 8), (0, u "com/example/redoubt/redoubt/storage/LogSectors"), (0, .long 512), (3, .long 8), (3, u "headerAt"), (0, u "(J)J"), (5, u "MARK"), (0, u "[B"), (59, u "I"), (6, u "MOST_LAID_OUT_BYTES"), (0, u "SECTOR_BYTES")] 13

def k2m0 : Method := { name := "<init>", desc := "()V", sig := { parameters := [], returnType := none }, accessFlags := 2, code := none }
def k2c1 : Code := { maxStack := 6, maxLocals := 4, code := prog_117_method_2_code, exceptionTable := #[], attributes := #[] }
def k2m1 : Method := { name := "headerAt", desc := "(J)J", sig := { parameters := [.long], returnType := some .long }, accessFlags := 8, code := some k2c1 }
/-- com/example/redoubt/redoubt/storage/LogSectors -/
def k2 : Class := { plain "com/example/redoubt/redoubt/storage/LogSectors" (some 0) with
  accessFlags := 48
  interfaces := #[]
  cf := some (fileOf pool2 7 #[] #[{ accessFlags := 2, nameIndex := 5, descriptorIndex := 6, attributes := #[] }, { accessFlags := 8, nameIndex := 17, descriptorIndex := 18, attributes := #[] }] 48 2 #[] #[{ accessFlags := 24, nameIndex := 93, descriptorIndex := 85, attributes := #[] }, { accessFlags := 26, nameIndex := 24, descriptorIndex := 25, attributes := #[] }, { accessFlags := 24, nameIndex := 92, descriptorIndex := 85, attributes := #[] }])
  fields := #[{ name := "SECTOR_BYTES", type := .int, accessFlags := 24, slot := 0, constantValue := 0 }, { name := "MARK", type := (.array .byte), accessFlags := 26, slot := 1, constantValue := 0 }, { name := "MOST_LAID_OUT_BYTES", type := .int, accessFlags := 24, slot := 2, constantValue := 0 }]
  methods := #[k2m0, k2m1]
  instanceTypes := #[]
  staticTypes := #[.int, (.array .byte), .int]
  resolved := Array.replicate 107 none
  statics := none }

def pool3 : Array CpInfo := pool [(1, u "java/lang/Cloneable"), (0, .class_ 1), (0, u "java/lang/Object"), (0, .class_ 3)] 3

/-- java/lang/Cloneable -/
def k3 : Class := { plain "java/lang/Cloneable" (some 0) with
  accessFlags := 1537
  interfaces := #[]
  cf := some (fileOf pool3 2 #[] #[] 1537 4 #[] #[])
  fields := #[]
  methods := #[]
  instanceTypes := #[]
  staticTypes := #[]
  resolved := Array.replicate 8 none
  statics := none }

def pool4 : Array CpInfo := pool [(1, u "java/io/Serializable"), (0, .class_ 1), (0, u "java/lang/Object"), (0, .class_ 3)] 3

/-- java/io/Serializable -/
def k4 : Class := { plain "java/io/Serializable" (some 0) with
  accessFlags := 1537
  interfaces := #[]
  cf := some (fileOf pool4 2 #[] #[] 1537 4 #[] #[])
  fields := #[]
  methods := #[]
  instanceTypes := #[]
  staticTypes := #[]
  resolved := Array.replicate 8 none
  statics := none }

/-- the primitive byte -/
def k5 : Class := { plain "byte" none with kind := .primitive 'B', accessFlags := 0x411 }
/-- [B -/
def k6 : Class := { plain "[B" (some 0) with kind := .array 5 .byte, interfaces := #[3, 4], accessFlags := 1041 }

/-- the primitive int -/
def k7 : Class := { plain "int" none with kind := .primitive 'I', accessFlags := 0x411 }
/-- [I -/
def k8 : Class := { plain "[I" (some 0) with kind := .array 7 .int, interfaces := #[3, 4], accessFlags := 1041 }

def heap : Heap := #[]
def classes : Array Class := #[k0, k1, k2, k3, k4, k5, k6, k7, k8]
def interned : List (Array UInt16 × Addr) := []
def slotsUsed : Nat := 0
def theMethod : MethodId := ⟨1, 1⟩
def args0 : Array Value := #[.long 7, .int 5]
def aboutOver (below : List Frame) : State where
  vm := { classes := classes, interned := interned.toArray }
  heap := heap
  slotsUsed := slotsUsed
  threads := #[{ frames := .invoking theMethod args0 :: below }]
def below0 : List Frame := [.native { method := ⟨0, 0⟩, args := #[] }]
def about1 : State := aboutOver below0
def p0 : Program := .bare "" "" ""
def e0 : Env := launch0.env 0 0 0
theorem w_frames : about1.frames = Frame.invoking theMethod args0 :: below0 := rfl
set_option maxRecDepth 65536 in
theorem w_args : argsFit about1.vm theMethod args0 = true := by decide +kernel
set_option maxRecDepth 65536 in
theorem w_heap : heapFits about1 = true := by decide +kernel
set_option maxRecDepth 65536 in
theorem w_runnable : about1.curStatus? = some .runnable := by decide +kernel
set_option maxRecDepth 65536 in
theorem w_alone : about1.alone = true := by decide +kernel
set_option maxRecDepth 65536 in
theorem w_named : about1.methodNamed? x = some theMethod := by decide +kernel
set_option maxRecDepth 65536 in
theorem w_hears : about1.hears theMethod below0 = true := by decide +kernel
set_option maxRecDepth 65536 in
theorem w_ripe : about1.ripe theMethod args0 below0 = true := by decide +kernel
theorem w_running : about1.status = .running := rfl
set_option maxRecDepth 65536 in
theorem w_room : about1.hasRoom e0.platform room_1 = true :=
  launch0.hasRoom_least _ room_1 (by decide +kernel) (by decide +kernel) (by decide +kernel) (by decide +kernel) (by decide +kernel) (by decide +kernel)
theorem allAtoms_all (ts : List Jvm.Cond) (a : Array Jvm.Value) (st : Jvm.State) : (allAtoms ts).before a st = ts.all (fun c => c.before a st) := by
  induction ts with
  | nil => rfl
  | cons c t ih =>
    show (Jvm.Cond.and c (allAtoms t)).before a st = _
    rw [Jvm.Cond.before_and, ih, List.all_cons]
def words1 : List Jvm.Cond := Jvm.Cond.code x code maxLocals ret :: tables_1
/-- a 'code' word, met by the world's own term for the bytes: nothing is compared byte by byte -/
theorem code_word {y : MethodName} {bytes : ByteArray} {mx : Nat} {rt : Option FieldType} {a : Array Value} {s : State} {m : MethodId} {meth : Method} {c : Code} (h1 : s.methodNamed? y = some m) (h2 : s.vm.method? m = some meth) (h3 : meth.code = some c) (h4 : c.code = bytes)
    (h5 : (c.maxLocals == mx && c.exceptionTable.isEmpty && decide (c.maxStack ≤ mostOperands) && decide (meth.sig.returnType = rt) && !meth.locks && decide (parseMethodDescriptor y.desc = some meth.sig)) = true) : (Jvm.Cond.code y bytes mx rt).before a s = true := by
  simp only [Bool.and_eq_true, beq_iff_eq, Bool.not_eq_true', decide_eq_true_eq] at h5
  obtain ⟨⟨⟨⟨⟨g1, g2⟩, g3⟩, g4⟩, g5⟩, g6⟩ := h5
  simp [Cond.before, Cond.holds, Cond.value, h1, h2, h3, h4, g1, g2, g3, g4, g5, g6]
def isCode : Jvm.Cond → Bool
  | .code _ _ _ _ => true
  | _ => false
theorem all_split {L : List Jvm.Cond} {P : Jvm.Cond → Bool} (h1 : L.all (fun c => isCode c || P c) = true) (h2 : ∀ c ∈ L.filter isCode, P c = true) : L.all P = true := by
  refine List.all_eq_true.mpr fun c hc => ?_
  have h := List.all_eq_true.mp h1 c hc
  rcases Bool.eq_false_or_eq_true (isCode c) with hi | hi
  · exact h2 c (List.mem_filter.mpr ⟨hc, hi⟩)
  · simpa [hi] using h
set_option maxRecDepth 65536 in
theorem w_c0 : (Jvm.Cond.code x code maxLocals ret).before args0 about1 = true := code_word (m := ⟨1, 1⟩) (meth := k1m1) (c := k1c1) (by decide +kernel) rfl rfl rfl (by decide +kernel)
set_option maxRecDepth 65536 in
theorem w_c1 : (Jvm.Cond.code ({ cls := "com/example/redoubt/redoubt/storage/LogSectors", name := "headerAt", desc := "(J)J" } : Jvm.MethodName) prog_117_method_2_code (4 : Nat) (Option.some Jvm.ClassFile.FieldType.long)).before args0 about1 = true := code_word (m := ⟨2, 1⟩) (meth := k2m1) (c := k2c1) (by decide +kernel) rfl rfl rfl (by decide +kernel)
def codes1 : List Jvm.Cond := [Jvm.Cond.code x code maxLocals ret, Jvm.Cond.code ({ cls := "com/example/redoubt/redoubt/storage/LogSectors", name := "headerAt", desc := "(J)J" } : Jvm.MethodName) prog_117_method_2_code (4 : Nat) (Option.some Jvm.ClassFile.FieldType.long)]
set_option maxRecDepth 65536 in
theorem codes_eq : words1.filter isCode = codes1 := rfl
theorem w_codes : ∀ c ∈ words1.filter isCode, c.before args0 about1 = true := by
  rw [codes_eq]
  intro c hc
  simp only [codes1, List.mem_cons, List.not_mem_nil, or_false] at hc
  rcases hc with rfl | rfl
  · exact w_c0
  · exact w_c1
set_option maxRecDepth 65536 in
theorem w_t1 : words1.all (fun c => isCode c || c.before args0 about1) = true := by decide +kernel
theorem w_tables : (allAtoms (Jvm.Cond.code x code maxLocals ret :: tables_1)).before args0 about1 = true := by
  rw [allAtoms_all]
  show words1.all (fun c => c.before args0 about1) = true
  refine all_split ?_ w_codes
  rw [w_t1]
set_option maxRecDepth 65536 in
theorem w_case : (Jvm.Cond.and given_1 narrow_1).before args0 about1 = true := by decide +kernel
theorem w_applies : (headSpec (Jvm.Cond.code x code maxLocals ret :: tables_1) room_1).applies x e0.platform about1 = true :=
  (Spec.applies_iff w_frames).mpr ⟨w_running, w_runnable, w_alone, w_named, w_hears, w_ripe, w_room, w_tables⟩
theorem atStart : AtStart classFile x code maxLocals ret World_1 tables_1 room_1 Calls_1 rest_1 Pre_1 launch0 p0 e0 about1 theMethod args0 below0 :=
  ⟨lists_1, trivial, launch0.admits_env _ _ _, launch0.least_env, fairChoices_fair.cas, fairChoices_fair.clock, w_frames, w_args, w_heap, w_applies, trivial, trivial, w_case⟩
end start1
theorem witness_1 : WitnessClaimed_1 := ⟨start1.p0, start1.e0, start1.about1, start1.theMethod, start1.args0, start1.below0, start1.atStart⟩
end Jvm.Pilot.@@N@@
