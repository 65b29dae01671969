import JvmDerived
import JvmDerived.Pilot.@@N@@Statement
import JvmDerived.Pilot.@@N@@Code
set_option linter.unusedVariables false
set_option linter.unusedSimpArgs false
set_option maxHeartbeats 4000000
namespace Jvm.Pilot.@@N@@
open Jvm Jvm.ClassFile Sem Op Lib Jvm.Free Jvm.Stand Jvm.LawKit Jvm.RoadKit Bundle Jvm.Pilot.@@N@@.Jvm.D
/-! own kit: a walk read backwards: G T g says that from the state T with g on top the body comes to a good end -/
section OwnKit
variable {p : Program} {l : Launch} {e : Env} {R : Room} {s : State} {m : MethodId} {args : Array Value} {below : List Frame} {meth : Method} {c : Code} {T : State} {cells slots : Nat} {Z : State} {a0 : Array Value} {h : Heap} {n0 : Nat} {G : State → JFrame → Prop} {Q : Option Value → Heap → Prop}
def Clo (p : Program) (e : Env) (below : List Frame) (G : State → JFrame → Prop) : Prop := ∀ (T T' : State) (g g' : JFrame), (∀ t, Steps p.tables e below (T'.setTop g') t → Steps p.tables e below (T.setTop g) t) → G T' g' → G T g
theorem Clo.go (hs : Clo p e below G) {T T' : State} {g g' : JFrame} (st : ∀ t, Steps p.tables e below (T'.setTop g') t → Steps p.tables e below (T.setTop g) t) (k : G T' g') : G T g := hs T T' g g' st k
def Sd (p : Program) (l : Launch) (e : Env) (R : Room) (s : State) (m : MethodId) (args : Array Value) (below : List Frame) (meth : Method) (c : Code) (n0 : Nat) (T : State) (h : Heap) (cells slots : Nat) : Prop := ∃ locs, Stand p l e R s m args below meth c T locs cells slots ∧ Fr n0 locs ∧ T.heap = h
theorem Sd.here (X : Sd p l e R s m args below meth c n0 T h cells slots) : At T m c below := by obtain ⟨_, X, _⟩ := X; exact X.here
theorem Sd.more (X : Sd p l e R s m args below meth c n0 T h cells slots) {k n : Nat} (hk : cells ≤ k) (hn : slots ≤ n) : Sd p l e R s m args below meth c n0 T h k n := by obtain ⟨L, X, N⟩ := X; exact ⟨L, X.more hk hn, N⟩
/-- how a body ends -/
def Fnl (p : Program) (l : Launch) (e : Env) (R : Room) (s : State) (m : MethodId) (args : Array Value) (below : List Frame) (meth : Method) (c : Code) (n0 : Nat) (Q : Option Value → Heap → Prop) (G : State → JFrame → Prop) : Prop :=
  ∀ (T : State) (h : Heap) (k n : Nat) (g : JFrame) (v : Option Value), Sd p l e R s m args below meth c n0 T h k n → k ≤ R.cells → n ≤ R.slots → (meth.sig.returnType = none → v = none) →
    (∀ fs, (∀ (f : JFrame) (acts : List Action), f.method = m → f.locked = none → f.entered = [] → (doReturn e (T.setTop f) acts v).1 = T.setFrames fs) → Steps p.tables e below (T.setTop g) (T.setFrames fs)) → Q v h → G T g
/-- a body's contract -/
def Con (l : Launch) (Z : State) (y : MethodName) (bytes : ByteArray) (maxL : Nat) (ret : Option FieldType) (ws : List Jvm.Cond) (rm : Room) (as' : Array Value) (h : Heap) (n0 : Nat) (Q : Option Value → Heap → Prop) : Prop :=
  MetFree l y (head1 (Jvm.Cond.code y bytes maxL ret :: ws) rm) (fun a U => a = as' ∧ Z.Warmed39 U.vm ∧ U.heap = h) (fun _ _ _ _ _ => True)
    (fun _ U o U' => ∃ v L, o = .returned v ∧ (Q v U'.heap ∧ Fr n0 L) ∧ FrameEnd U o U' L rm.cells rm.slots)
theorem Con.of {y : MethodName} {bytes : ByteArray} {maxL : Nat} {ret : Option FieldType} {ws : List Jvm.Cond} {rm : Room} {as' : Array Value} (hp : plainFor y = true)
    (body : ∀ (G : State → JFrame → Prop) (p : Program) (e : Env) (s : State) (m : MethodId) (below : List Frame) (meth : Method) (c : Code) (s₁ : State),
      Clo p e below G → p.tables.exec = Jvm.exec → c.code = bytes → c.maxLocals = maxL → s.vm.findClass y.cls = some m.cls → meth.name = y.name → meth.sig.returnType = ret → Z.Warmed39 s.vm →
      Sd p l e rm s m as' below meth c n0 s₁ h 0 0 → Fnl p l e rm s m as' below meth c n0 Q G → G s₁ (entryFrame m as' maxL)) : Con l Z y bytes maxL ret ws rm as' h n0 Q := by
  refine MetFree.of_bodySF hp hisR ?_
  intro p e s m args below meth c s₁ Bd hml hP hK
  obtain ⟨ha, hZ, hh⟩ := hP
  subst ha
  refine body (fun T g => ∃ s₂ o, Steps p.tables e below (T.setTop g) s₂ ∧ s₂.status = .running ∧ Ended s₂ below o ∧ ∃ v L, o = .returned v ∧ (Q v s₂.heap ∧ Fr n0 L) ∧ FrameEnd s o s₂ L rm.cells rm.slots) p e s m below meth c s₁ ?_ Bd.exec Bd.bytes hml (findClass_of_methodNamed Bd.named) (name_of_methodNamed Bd.named Bd.method).1 Bd.returns hZ ⟨[], Stand.of_body Bd, Fr.nil n0, by rw [← hh, Bd.state]; rfl⟩ ?_
  · intro T T' g g' st ⟨s₂, o, h1, r⟩
    exact ⟨s₂, o, st _ h1, r⟩
  · intro T h k n g v ⟨locs, X, N, eh⟩ hk hn hv st q
    obtain ⟨fs, hr, hrun, hended, hW, hsame⟩ := X.leave (v := v) hv Bd.notSynchronized
    exact ⟨_, _, st fs hr, hrun, hended, v, locs, rfl, ⟨by show Q v T.heap; rw [eh]; exact q, N⟩, ⟨_, rfl⟩, hW, hsame.mono hk hn⟩
theorem rRetI (fin : Fnl p l e R s m args below meth c n0 Q G) (X : Sd p l e R s m args below meth c n0 T h cells slots) (hx : p.tables.exec = Jvm.exec) (hk : cells ≤ R.cells) (hn : slots ≤ R.slots) (hret : meth.sig.returnType = some .int) {pc : Nat} {Ls : Array Slot} {z : Int32} {rest : List Value} (hd : decode c.code pc = .ok (.ireturn, 1)) (q : Q (some (.int z)) h) : G T (mkF m pc Ls (.int z :: rest)) :=
  fin T h cells slots _ (some (.int z)) X hk hn (fun h => by rw [hret] at h; cases h) (fun fs hr => by obtain ⟨_, X, _⟩ := X; exact retOut X hx hret rfl (Or.inl ⟨rfl, Or.inl rfl, _, rfl⟩) hd hr) q
theorem rRetN (fin : Fnl p l e R s m args below meth c n0 Q G) (X : Sd p l e R s m args below meth c n0 T h cells slots) (hx : p.tables.exec = Jvm.exec) (hk : cells ≤ R.cells) (hn : slots ≤ R.slots) {t : FieldType} (hret : meth.sig.returnType = some t) (ht : t = .boolean ∨ t = .byte ∨ t = .char ∨ t = .short) {pc : Nat} {Ls : Array Slot} {z z' : Int32} {rest : List Value} (hd : decode c.code pc = .ok (.ireturn, 1)) (hz : nar t z = z') (q : Q (some (.int z')) h) : G T (mkF m pc Ls (.int z :: rest)) :=
  fin T h cells slots _ (some (.int (nar t z))) X hk hn (fun h => by rw [hret] at h; cases h) (fun fs hr => by obtain ⟨_, X, _⟩ := X; exact retN X hx hret ht hd hr) (hz ▸ q)
theorem rRetL (fin : Fnl p l e R s m args below meth c n0 Q G) (X : Sd p l e R s m args below meth c n0 T h cells slots) (hx : p.tables.exec = Jvm.exec) (hk : cells ≤ R.cells) (hn : slots ≤ R.slots) (hret : meth.sig.returnType = some .long) {pc : Nat} {Ls : Array Slot} {z : Int64} {rest : List Value} (hd : decode c.code pc = .ok (.lreturn, 1)) (q : Q (some (.long z)) h) : G T (mkF m pc Ls (.long z :: rest)) :=
  fin T h cells slots _ (some (.long z)) X hk hn (fun h => by rw [hret] at h; cases h) (fun fs hr => by obtain ⟨_, X, _⟩ := X; exact retOut X hx hret rfl (Or.inr (Or.inl ⟨rfl, rfl, _, rfl⟩)) hd hr) q
theorem rRetA (fin : Fnl p l e R s m args below meth c n0 Q G) (X : Sd p l e R s m args below meth c n0 T h cells slots) (hx : p.tables.exec = Jvm.exec) (hk : cells ≤ R.cells) (hn : slots ≤ R.slots) {t : FieldType} (hret : meth.sig.returnType = some t) (ht : t.isReference = true) {pc : Nat} {Ls : Array Slot} {z : Value} (hz : z.isRef = true) (hw : narrow t z = z) {rest : List Value} (hd : decode c.code pc = .ok (.areturn, 1)) (q : Q (some z) h) : G T (mkF m pc Ls (z :: rest)) :=
  fin T h cells slots _ (some z) X hk hn (fun h => by rw [hret] at h; cases h) (fun fs hr => by obtain ⟨_, X, _⟩ := X; exact retOut X hx hret hw (Or.inr (Or.inr (Or.inr (Or.inr ⟨rfl, ht, hz⟩)))) hd hr) q
theorem rRetD (fin : Fnl p l e R s m args below meth c n0 Q G) (X : Sd p l e R s m args below meth c n0 T h cells slots) (hx : p.tables.exec = Jvm.exec) (hk : cells ≤ R.cells) (hn : slots ≤ R.slots) (hret : meth.sig.returnType = some .double) {pc : Nat} {Ls : Array Slot} {z : UInt64} {rest : List Value} (hd : decode c.code pc = .ok (.dreturn, 1)) (q : Q (some (.double z)) h) : G T (mkF m pc Ls (.double z :: rest)) :=
  fin T h cells slots _ (some (.double z)) X hk hn (fun h => by rw [hret] at h; cases h) (fun fs hr => by obtain ⟨_, X, _⟩ := X; exact retOut X hx hret rfl (Or.inr (Or.inr (Or.inl ⟨rfl, rfl, _, rfl⟩))) hd hr) q
theorem rRetV (fin : Fnl p l e R s m args below meth c n0 Q G) (X : Sd p l e R s m args below meth c n0 T h cells slots) (hx : p.tables.exec = Jvm.exec) (hk : cells ≤ R.cells) (hn : slots ≤ R.slots) (hret : meth.sig.returnType = none) {pc : Nat} {Ls : Array Slot} (hd : decode c.code pc = .ok (.return_, 1)) (q : Q none h) : G T (mkF m pc Ls []) :=
  fin T h cells slots _ none X hk hn (fun _ => rfl) (fun fs hr => by obtain ⟨_, X, _⟩ := X; exact X.returnOut hx hret hd hr) q
theorem rLdcI (hs : Clo p e below G) (X : Sd p l e R s m args below meth c n0 T h cells slots) (hx : p.tables.exec = Jvm.exec) (hZ : Z.Warmed39 s.vm) {own : String} {index : Nat} {v : Int32} (hown : s.vm.findClass own = some m.cls) (w : (Jvm.Cond.constant own index v).before a0 Z = true) {g : JFrame} (hg : g.method = m) (hd : decode c.code g.pc = .ok (.ldc index, 2)) (k : G T { g with pc := g.pc + 2, stack := .int v :: g.stack }) : G T g := by
  obtain ⟨_, X, _⟩ := X
  exact hs.go (X.ldcInt hx hown (mvT hZ w) hg hd) k
theorem rLdcL (hs : Clo p e below G) (X : Sd p l e R s m args below meth c n0 T h cells slots) (hx : p.tables.exec = Jvm.exec) (hZ : Z.Warmed39 s.vm) {own : String} {index : Nat} {v : Int64} (hown : s.vm.findClass own = some m.cls) (w : (Jvm.Cond.constantLong own index v).before a0 Z = true) {g : JFrame} (hg : g.method = m) (hd : decode c.code g.pc = .ok (.ldc2_w index, 3)) (k : G T { g with pc := g.pc + 3, stack := .long v :: g.stack }) : G T g := by
  obtain ⟨_, X, _⟩ := X
  exact hs.go (X.ldc2Long hx hown (mvT hZ w) hg hd) k
theorem rLdcD (hs : Clo p e below G) (X : Sd p l e R s m args below meth c n0 T h cells slots) (hx : p.tables.exec = Jvm.exec) (hZ : Z.Warmed39 s.vm) {own : String} {index : Nat} {v : UInt64} (hown : s.vm.findClass own = some m.cls) (w : (Jvm.Cond.constantDouble own index v).before a0 Z = true) {g : JFrame} (hg : g.method = m) (hd : decode c.code g.pc = .ok (.ldc2_w index, 3)) (k : G T { g with pc := g.pc + 3, stack := .double v :: g.stack }) : G T g := by
  obtain ⟨_, X, _⟩ := X
  exact hs.go (X.ldc2DoubleC hx hown (mvT hZ w) hg hd) k
theorem rIrem (hs : Clo p e below G) (X : Sd p l e R s m args below meth c n0 T h cells slots) (hx : p.tables.exec = Jvm.exec) {g : JFrame} (hg : g.method = m) {x y : Int32} {rest : List Value} (hd : decode c.code g.pc = .ok (.irem, 1)) (hst : g.stack = .int y :: .int x :: rest) (hy : y ≠ 0) (k : G T { g with pc := g.pc + 1, stack := .int (x % y) :: rest }) : G T g := by
  obtain ⟨_, X, _⟩ := X
  exact hs.go (fun _ q => iremM X hx hg hd hst hy q) k
theorem rLrem (hs : Clo p e below G) (X : Sd p l e R s m args below meth c n0 T h cells slots) (hx : p.tables.exec = Jvm.exec) {g : JFrame} (hg : g.method = m) {x y : Int64} {rest : List Value} (hd : decode c.code g.pc = .ok (.lrem, 1)) (hst : g.stack = .long y :: .long x :: rest) (hy : y ≠ 0) (k : G T { g with pc := g.pc + 1, stack := .long (x % y) :: rest }) : G T g :=
  hs.go (fun _ q => XS.lrem X.here hx hg hd hst hy q) (by rw [lrem_mod]; exact k)
/-! arrays -/
theorem rNewP (hs : Clo p e below G) (X : Sd p l e R s m args below meth c n0 T h cells slots) (hx : p.tables.exec = Jvm.exec) (hZ : Z.Warmed39 s.vm) {aty : ArrayType} (w : (Jvm.Cond.arrayClass (newarray.typeOf aty)).before a0 Z = true) {g : JFrame} (hg : g.method = m) (hd : decode c.code g.pc = .ok (.newarray aty, 2)) {n : Int32} {rest : List Value} (hst : g.stack = .int n :: rest)
    (hn : ¬ n < 0) (cap len : Nat) (hcap : n.toNatClampNeg ≤ cap) (hb : cap * 8 ≤ 536870912) (hc : cells + 1 ≤ R.cells) (hl : slots + cap ≤ R.slots)
    (k : ∀ (T' : State) (h' : Heap) (cA : ClassId) (b : Addr), b = h.size → Sd p l e R s m args below meth c n0 T' h' (cells + 1) (slots + cap) → Ext h h' → Arv Z h' b cA (newarray.typeOf aty) n (List.replicate len (defaultValue (newarray.typeOf aty))) (defaultValue (newarray.typeOf aty)) → G T' { g with pc := g.pc + 2, stack := .ref b :: rest }) : G T g := by
  obtain ⟨L, X, N, eh⟩ := X
  obtain ⟨T', h', cA, X', e', E, A, st⟩ := newP X hx hZ w eh hg hd hst hn hcap hb hc hl
  exact hs.go st (k T' h' cA h.size rfl ⟨L, X', N, e'⟩ E ((Arv.new A hn).pad (pad_rep [] _ len)))
theorem rStI (hs : Clo p e below G) (X : Sd p l e R s m args below meth c n0 T h cells slots) (hx : p.tables.exec = Jvm.exec) (hZ : Z.Warmed39 s.vm) {a : Addr} {kc : ClassId} {z : Int32} {vs : List Value} {dv : Value} (V : Arv Z h a kc .int z vs dv) (ga : n0 ≤ a) {j x : Int32} (hj : ¬ j < 0 ∧ j < z) (i : Nat) (hi : j.toNatClampNeg = i) (hl : i < vs.length)
    {g : JFrame} (hg : g.method = m) {rest : List Value} (hst : g.stack = .int x :: .int j :: .ref a :: rest) (hd : decode c.code g.pc = .ok (.iastore, 1))
    (k : ∀ (T' : State) (h' : Heap), Sd p l e R s m args below meth c n0 T' h' cells slots → Wr h h' a i (.int x) → Arv Z h' a kc .int z (vs.set i (.int x)) dv → G T' { g with pc := g.pc + 1, stack := rest }) : G T g := by
  obtain ⟨L, X, N, eh⟩ := X
  obtain ⟨cl, A, q1, S, q3, H, F⟩ := V
  obtain ⟨T', h', X', e', W, st⟩ := stI X hx hZ eh A (j := j) (inb_of S hj) hg hst hd
  exact hs.go st (k T' h' ⟨_, X', Fr.snoc X' N ga, e'⟩ (hi ▸ W) (Arv.set A q1 S q3 H F rfl W i hi hl))
theorem rStB (hs : Clo p e below G) (X : Sd p l e R s m args below meth c n0 T h cells slots) (hx : p.tables.exec = Jvm.exec) (hZ : Z.Warmed39 s.vm) {a : Addr} {kc : ClassId} {z : Int32} {vs : List Value} {dv : Value} (V : Arv Z h a kc .byte z vs dv) (ga : n0 ≤ a) {j x x' : Int32} (hj : ¬ j < 0 ∧ j < z) (i : Nat) (hi : j.toNatClampNeg = i) (hl : i < vs.length) (hnx : x.toInt8.toInt32 = x')
    {g : JFrame} (hg : g.method = m) {rest : List Value} (hst : g.stack = .int x :: .int j :: .ref a :: rest) (hd : decode c.code g.pc = .ok (.bastore, 1))
    (k : ∀ (T' : State) (h' : Heap), Sd p l e R s m args below meth c n0 T' h' cells slots → Wr h h' a i (.int x') → Arv Z h' a kc .byte z (vs.set i (.int x')) dv → G T' { g with pc := g.pc + 1, stack := rest }) : G T g := by
  obtain ⟨L, X, N, eh⟩ := X
  obtain ⟨cl, A, q1, S, q3, H, F⟩ := V
  obtain ⟨T', h', X', e', W, st⟩ := stB X hx hZ eh A (j := j) (inb_of S hj) hg hst hd
  subst hnx
  exact hs.go st (k T' h' ⟨_, X', Fr.snoc X' N ga, e'⟩ (hi ▸ W) (Arv.set A q1 S q3 H F (fits_nar_byte _) W i hi hl))
theorem rStC (hs : Clo p e below G) (X : Sd p l e R s m args below meth c n0 T h cells slots) (hx : p.tables.exec = Jvm.exec) (hZ : Z.Warmed39 s.vm) {a : Addr} {kc : ClassId} {z : Int32} {vs : List Value} {dv : Value} (V : Arv Z h a kc .char z vs dv) (ga : n0 ≤ a) {j x x' : Int32} (hj : ¬ j < 0 ∧ j < z) (i : Nat) (hi : j.toNatClampNeg = i) (hl : i < vs.length) (hnx : nar .char x = x')
    {g : JFrame} (hg : g.method = m) {rest : List Value} (hst : g.stack = .int x :: .int j :: .ref a :: rest) (hd : decode c.code g.pc = .ok (.castore, 1))
    (k : ∀ (T' : State) (h' : Heap), Sd p l e R s m args below meth c n0 T' h' cells slots → Wr h h' a i (.int x') → Arv Z h' a kc .char z (vs.set i (.int x')) dv → G T' { g with pc := g.pc + 1, stack := rest }) : G T g := by
  obtain ⟨L, X, N, eh⟩ := X
  obtain ⟨cl, A, q1, S, q3, H, F⟩ := V
  obtain ⟨T', h', X', e', W, st⟩ := stC X hx hZ eh A (j := j) (inb_of S hj) hg hst hd
  subst hnx
  exact hs.go st (k T' h' ⟨_, X', Fr.snoc X' N ga, e'⟩ (hi ▸ W) (Arv.set A q1 S q3 H F (fits_nar_char _) W i hi hl))
theorem rLdI (hs : Clo p e below G) (X : Sd p l e R s m args below meth c n0 T h cells slots) (hx : p.tables.exec = Jvm.exec) (hZ : Z.Warmed39 s.vm) {a : Addr} {kc : ClassId} {z : Int32} {vs : List Value} {dv : Value} (V : Arv Z h a kc .int z vs dv) {j : Int32} (hj : ¬ j < 0 ∧ j < z) {v : Value} (hv : vs.getD j.toNatClampNeg dv = v)
    {g : JFrame} (hg : g.method = m) {rest : List Value} (hst : g.stack = .int j :: .ref a :: rest) (hd : decode c.code g.pc = .ok (.iaload, 1)) (k : G T { g with pc := g.pc + 1, stack := v :: rest }) : G T g := by
  obtain ⟨L, X, N, eh⟩ := X
  obtain ⟨cl, A, q1, S, q3, H, F⟩ := V
  exact hs.go (X.iaload hx (j := j) (v := v) (by rw [eh]; exact A.1) (State.isArrayOf_alike hZ.alike A.2.1) A.2.2 (inb_of S hj) (H.at (inb_of S hj) hv) hg hst hd) k
theorem rLdB (hs : Clo p e below G) (X : Sd p l e R s m args below meth c n0 T h cells slots) (hx : p.tables.exec = Jvm.exec) (hZ : Z.Warmed39 s.vm) {a : Addr} {kc : ClassId} {z : Int32} {vs : List Value} {dv : Value} (V : Arv Z h a kc .byte z vs dv) {j : Int32} (hj : ¬ j < 0 ∧ j < z) {v : Value} (hv : vs.getD j.toNatClampNeg dv = v)
    {g : JFrame} (hg : g.method = m) {rest : List Value} (hst : g.stack = .int j :: .ref a :: rest) (hd : decode c.code g.pc = .ok (.baload, 1)) (k : G T { g with pc := g.pc + 1, stack := v :: rest }) : G T g := by
  obtain ⟨L, X, N, eh⟩ := X
  obtain ⟨cl, A, q1, S, q3, H, F⟩ := V
  exact hs.go (X.baloadBytes hx (j := j) (v := v) (by rw [eh]; exact A.1) (State.isArrayOf_alike hZ.alike A.2.1) A.2.2 (inb_of S hj) (H.at (inb_of S hj) hv) hg hst hd) k
theorem rLdC (hs : Clo p e below G) (X : Sd p l e R s m args below meth c n0 T h cells slots) (hx : p.tables.exec = Jvm.exec) (hZ : Z.Warmed39 s.vm) {a : Addr} {kc : ClassId} {z : Int32} {vs : List Value} {dv : Value} (V : Arv Z h a kc .char z vs dv) {j : Int32} (hj : ¬ j < 0 ∧ j < z) {v : Value} (hv : vs.getD j.toNatClampNeg dv = v)
    {g : JFrame} (hg : g.method = m) {rest : List Value} (hst : g.stack = .int j :: .ref a :: rest) (hd : decode c.code g.pc = .ok (.caload, 1)) (k : G T { g with pc := g.pc + 1, stack := v :: rest }) : G T g := by
  obtain ⟨L, X, N, eh⟩ := X
  obtain ⟨cl, A, q1, S, q3, H, F⟩ := V
  exact hs.go (X.caload hx (j := j) (v := v) (by rw [eh]; exact A.1) (State.isArrayOf_alike hZ.alike A.2.1) A.2.2 (inb_of S hj) (H.at (inb_of S hj) hv) hg hst hd) k
theorem rLdR (hs : Clo p e below G) (X : Sd p l e R s m args below meth c n0 T h cells slots) (hx : p.tables.exec = Jvm.exec) (hZ : Z.Warmed39 s.vm) {a : Addr} {kc : ClassId} {ty : FieldType} {z : Int32} {vs : List Value} {dv : Value} (V : Arv Z h a kc ty z vs dv) (hty : ty.isReference = true) {j : Int32} (hj : ¬ j < 0 ∧ j < z) {v : Value} (hv : vs.getD j.toNatClampNeg dv = v)
    {g : JFrame} (hg : g.method = m) {rest : List Value} (hst : g.stack = .int j :: .ref a :: rest) (hd : decode c.code g.pc = .ok (.aaload, 1)) (k : G T { g with pc := g.pc + 1, stack := v :: rest }) : G T g := by
  obtain ⟨L, X, N, eh⟩ := X
  obtain ⟨cl, A, q1, S, q3, H, F⟩ := V
  exact hs.go (X.aaload hx (j := j) (v := v) (by rw [eh]; exact A.1) (State.isArrayOf_alike hZ.alike A.2.1) hty A.2.2 (inb_of S hj) (H.at (inb_of S hj) hv) hg hst hd) k
theorem rLen (hs : Clo p e below G) (X : Sd p l e R s m args below meth c n0 T h cells slots) (hx : p.tables.exec = Jvm.exec) (hZ : Z.Warmed39 s.vm) {a : Addr} {kc : ClassId} {ty : FieldType} {z : Int32} {vs : List Value} {dv : Value} (V : Arv Z h a kc ty z vs dv)
    {g : JFrame} (hg : g.method = m) {rest : List Value} (hst : g.stack = .ref a :: rest) (hd : decode c.code g.pc = .ok (.arraylength, 1)) (k : G T { g with pc := g.pc + 1, stack := .int z :: rest }) : G T g := by
  obtain ⟨L, X, N, eh⟩ := X
  obtain ⟨cl, A, q1, S, q3, H, F⟩ := V
  exact hs.go (X.arraylength hx (by rw [eh]; exact A.1) (State.isArrayOf_alike hZ.alike A.2.1) hg hst hd) (by rw [len_of S q3]; exact k)
theorem rNewR (hs : Clo p e below G) (X : Sd p l e R s m args below meth c n0 T h cells slots) (hx : p.tables.exec = Jvm.exec) (hZ : Z.Warmed39 s.vm) {own C : String} {index : Nat} (hown : s.vm.findClass own = some m.cls) (w1 : (Jvm.Cond.classLink own index C).before a0 Z = true) (w2 : (Jvm.Cond.arrayOver (.object C)).before a0 Z = true) {g : JFrame} (hg : g.method = m) (hd : decode c.code g.pc = .ok (.anewarray index, 3)) {n : Int32} {rest : List Value} (hst : g.stack = .int n :: rest)
    (hn : ¬ n < 0) (cap len : Nat) (hcap : n.toNatClampNeg ≤ cap) (hb : cap * 8 ≤ 536870912) (hc : cells + 1 ≤ R.cells) (hl : slots + cap ≤ R.slots)
    (k : ∀ (T' : State) (h' : Heap) (cA : ClassId) (b : Addr), b = h.size → Sd p l e R s m args below meth c n0 T' h' (cells + 1) (slots + cap) → Ext h h' → Arv Z h' b cA (.object C) n (List.replicate len .null) .null → Ovr Z cA C → G T' { g with pc := g.pc + 3, stack := .ref b :: rest }) : G T g := by
  obtain ⟨L, X, N, eh⟩ := X
  obtain ⟨T', h', cA, X', e', E, A, O, st⟩ := newR X hx hZ hown w1 w2 eh hg hd hst hn hcap hb hc hl
  exact hs.go st (k T' h' cA h.size rfl ⟨L, X', N, e'⟩ E ((Arv.new A hn).pad (pad_rep [] _ len)) O)
theorem rStR (hs : Clo p e below G) (X : Sd p l e R s m args below meth c n0 T h cells slots) (hx : p.tables.exec = Jvm.exec) (hZ : Z.Warmed39 s.vm) {a : Addr} {kc : ClassId} {C : String} {z : Int32} {vs : List Value} {dv : Value} (V : Arv Z h a kc (.object C) z vs dv) (O : Ovr Z kc C) (ga : n0 ≤ a) {j : Int32} {y : Addr} (I : Ins Z h y C true) (hj : ¬ j < 0 ∧ j < z) (i : Nat) (hi : j.toNatClampNeg = i) (hl : i < vs.length)
    {g : JFrame} (hg : g.method = m) {rest : List Value} (hst : g.stack = .ref y :: .int j :: .ref a :: rest) (hd : decode c.code g.pc = .ok (.aastore, 1))
    (k : ∀ (T' : State) (h' : Heap), Sd p l e R s m args below meth c n0 T' h' cells slots → Wr h h' a i (.ref y) → Arv Z h' a kc (.object C) z (vs.set i (.ref y)) dv → G T' { g with pc := g.pc + 1, stack := rest }) : G T g := by
  obtain ⟨L, X, N, eh⟩ := X
  obtain ⟨cl, A, q1, S, q3, H, F⟩ := V
  obtain ⟨T', h', X', e', W, st⟩ := stR X hx hZ eh A (j := j) (v := .ref y) (inb_of S hj) rfl (Sto.ofV A q1 O I) hg hst hd
  exact hs.go st (k T' h' ⟨_, X', Fr.snoc X' N ga, e'⟩ (hi ▸ W) (Arv.set A q1 S q3 H F rfl W i hi hl))
/-! objects -/
theorem rNewO (hs : Clo p e below G) (X : Sd p l e R s m args below meth c n0 T h cells slots) (hx : p.tables.exec = Jvm.exec) (hZ : Z.Warmed39 s.vm) {own C : String} {index n : Nat} (hown : s.vm.findClass own = some m.cls) (w : (Jvm.Cond.classLink own index C).before a0 Z = true) (wi : (Jvm.Cond.instantiable C n).before a0 Z = true) (wz : (Jvm.Cond.initialized C).before a0 Z = true)
    {g : JFrame} (hg : g.method = m) (hd : decode c.code g.pc = .ok (.new index, 3)) (hc : cells + 1 ≤ R.cells) (hl : slots + n ≤ R.slots)
    (k : ∀ (T' : State) (h' : Heap) (b : Addr), b = h.size → Sd p l e R s m args below meth c n0 T' h' (cells + 1) (slots + n) → Ext h h' → Exa Z h' b C → (∀ {O nm d : String} {ty : FieldType}, Laid Z a0 C O nm d → parseFieldDescriptor d = some ty → Fld Z h' b O nm d (defaultValue ty)) → G T' { g with pc := g.pc + 3, stack := .ref b :: g.stack }) : G T g := by
  obtain ⟨L, X, N, eh⟩ := X
  obtain ⟨T', h', X', e', E, A, D, -, st⟩ := newO X hx hZ hown w wi wz eh hg hd hc hl
  exact hs.go st (k T' h' h.size rfl ⟨L, X', N, e'⟩ E A D)
theorem rInitO (hs : Clo p e below G) (X : Sd p l e R s m args below meth c n0 T h cells slots) (hx : p.tables.exec = Jvm.exec) (hZ : Z.Warmed39 s.vm) {own : String} {idx : Nat} (hown : s.vm.findClass own = some m.cls) (w1 : (Jvm.Cond.methodLink own idx Lib.objectInit).before a0 Z = true) (w2 : (Jvm.Cond.instanceMethod Lib.objectInit).before a0 Z = true)
    (w3 : (Jvm.Cond.code Lib.objectInit ⟨#[0xb1]⟩ 1 none).before a0 Z = true) {g : JFrame} (hg : g.method = m) (hsize : g.locals.size = c.maxLocals) {a : Addr} {rest : List Value} (hst : g.stack = .ref a :: rest) (hd : decode c.code g.pc = .ok (.invokespecial idx, 3))
    (hf : 1 ≤ R.frames) {W : Nat} (hW : 2 * g.monitorRoom + (rest.map fun v => v.category).sum ≤ W) (hl : W + 12 ≤ R.locals)
    (k : ∀ T' : State, Sd p l e R s m args below meth c n0 T' h cells slots → G T' { g with pc := g.pc + 3, stack := rest }) : G T g := by
  obtain ⟨L, X, N, eh⟩ := X
  obtain ⟨T', X', e', st⟩ := initO X hx hZ hown w1 w2 w3 eh hg hsize hst hd hf hW hl
  exact hs.go st (k T' ⟨L, X', N, e'⟩)
theorem rGetF (hs : Clo p e below G) (X : Sd p l e R s m args below meth c n0 T h cells slots) (hx : p.tables.exec = Jvm.exec) (hZ : Z.Warmed39 s.vm) {own R0 O n d host : String} {index : Nat} (hown : s.vm.findClass own = some m.cls) (w : (Jvm.Cond.fieldLink own index R0 n d).before a0 Z = true ∨ (Jvm.Cond.fieldLinkNest own index R0 n d host).before a0 Z = true) (via : Via Z R0 O n d)
    {a : Addr} {v : Value} (F : Fld Z h a O n d v) {g : JFrame} (hg : g.method = m) {rest : List Value} (hst : g.stack = .ref a :: rest) (hd : decode c.code g.pc = .ok (.getfield index, 3))
    (k : ∀ T' : State, Sd p l e R s m args below meth c n0 T' h cells slots → G T' { g with pc := g.pc + 3, stack := v :: rest }) : G T g := by
  obtain ⟨L, X, N, eh⟩ := X
  obtain ⟨T', X', e', st⟩ := getF X hx hZ hown w via eh F hg hst hd
  exact hs.go st (k T' ⟨L, X', N, e'⟩)
theorem rGetS (hs : Clo p e below G) (X : Sd p l e R s m args below meth c n0 T h cells slots) (hx : p.tables.exec = Jvm.exec) (hZ : Z.Warmed39 s.vm) {own R0 O n d host : String} {index : Nat} (hown : s.vm.findClass own = some m.cls) (w : (Jvm.Cond.fieldLink own index R0 n d).before a0 Z = true ∨ (Jvm.Cond.fieldLinkNest own index R0 n d host).before a0 Z = true) (via : Via Z R0 O n d)
    {v : Value} (F : Sta Z h O n d v) {g : JFrame} (hg : g.method = m) (hd : decode c.code g.pc = .ok (.getstatic index, 3))
    (k : ∀ T' : State, Sd p l e R s m args below meth c n0 T' h cells slots → G T' { g with pc := g.pc + 3, stack := v :: g.stack }) : G T g := by
  obtain ⟨L, X, N, eh⟩ := X
  obtain ⟨T', X', e', st⟩ := getS2 X hx hZ hown w via eh F hg hd
  exact hs.go st (k T' ⟨L, X', N, e'⟩)
theorem rPutF (hs : Clo p e below G) (X : Sd p l e R s m args below meth c n0 T h cells slots) (hx : p.tables.exec = Jvm.exec) (hZ : Z.Warmed39 s.vm) {own R0 O n d host C : String} {index kk : Nat} (ty : FieldType) (hown : s.vm.findClass own = some m.cls) (w : (Jvm.Cond.fieldLink own index R0 n d).before a0 Z = true ∨ (Jvm.Cond.fieldLinkNest own index R0 n d host).before a0 Z = true) (via : Via Z R0 O n d)
    {a : Addr} {v old : Value} (F : Fld Z h a O n d old) (E : Exa Z h a C) (ga : n0 ≤ a) (L : (Jvm.Cond.lays C O n d).before a0 Z = true ∨ ((Jvm.Cond.laysFinal C O n d).before a0 Z = true ∧ own = O ∧ meth.name = "<init>")) (wi : (Jvm.Cond.instantiable C kk).before a0 Z = true)
    (hty : parseFieldDescriptor d = some ty) (hn : narrow ty v = v) (hf : fits ty v = true) {g : JFrame} (hg : g.method = m) {rest : List Value} (hst : g.stack = v :: .ref a :: rest) (hd : decode c.code g.pc = .ok (.putfield index, 3))
    (k : ∀ (T' : State) (h' : Heap), Sd p l e R s m args below meth c n0 T' h' cells slots → Wr h h' a (Jvm.RoadKit.slotOf Z O n d) v → Fld Z h' a O n d v → G T' { g with pc := g.pc + 3, stack := rest }) : G T g := by
  obtain ⟨L0, X, N, eh⟩ := X
  obtain ⟨T', h', X', e', W, st⟩ := putF X hx hZ hown w via eh F E L wi hty hn hf hg hst hd
  exact hs.go st (k T' h' ⟨_, X', Fr.snoc X' N ga, e'⟩ W (F.same W))
/-! calls -/
theorem rCallS (hs : Clo p e below G) (X : Sd p l e R s m args below meth c n0 T h cells slots) (hx : p.tables.exec = Jvm.exec) (hZ : Z.Warmed39 s.vm) {own : String} {index : Nat} {y : MethodName} {bytes : ByteArray} {maxL : Nat} {ret : Option FieldType} {rm : Room} {as' : List Value} {Q' : Option Value → Heap → Prop}
    (hM : Con l Z y bytes maxL ret [] rm as'.toArray h n0 Q') (hown : s.vm.findClass own = some m.cls) (w1 : (Jvm.Cond.methodLink own index y).before a0 Z = true) (w2 : (Jvm.Cond.static y).before a0 Z = true) (w3 : (Jvm.Cond.initialized y.cls).before a0 Z = true) (w4 : (Jvm.Cond.code y bytes maxL ret).before a0 Z = true)
    (hy : y.cls ≠ "java/lang/invoke/MethodHandle" ∧ y.cls ≠ "java/lang/invoke/VarHandle") {g : JFrame} (hg : g.method = m) (hsize : g.locals.size = c.maxLocals) (rest : List Value) (hlen : ∀ sig, parseMethodDescriptor y.desc = some sig → as'.length = sig.parameters.length)
    (hst : g.stack = as'.reverse ++ rest) (W : Nat) (hW : 2 * g.monitorRoom + (rest.map fun v => v.category).sum ≤ W) (hd : decode c.code g.pc = .ok (.invokestatic index, 3))
    (hf : rm.frames + 1 ≤ R.frames) (hl : W + (maxL + 11) + rm.locals ≤ R.locals) (hc : cells + rm.cells ≤ R.cells) (hsl : slots + rm.slots ≤ R.slots)
    (k : ∀ (v : Option Value) (T' : State) (h' : Heap), Sd p l e R s m args below meth c n0 T' h' (cells + rm.cells) (slots + rm.slots) → Q' v h' → G T' { g with pc := g.pc + 3, stack := v.toList ++ rest }) : G T g := by
  obtain ⟨L, X, N, eh⟩ := X
  obtain ⟨v, vm₁, ⟨T', L', k', n'⟩, -, X', ⟨Lc, ⟨hQ, hN⟩, l', y', z'⟩, st⟩ := Jvm.LawKit.callS X hx (y := y) hown (mvT hZ w1) (mvT hZ w2) (mvT hZ w3) (mvT hZ w4) hy (backOf (Q := fun v h L => Q' v h ∧ Fr n0 L) (W := W) hM hZ w4 w3 hf hl) hg hsize (argsL := as') (rest := rest) hlen hst hW hd (fun _ _ => ⟨rfl, eh, hc, hsl⟩)
  dsimp only [Pt.U, Pt.locs, Pt.cells, Pt.slots] at X' l' y' z' st hQ
  subst l' y' z'
  exact hs.go st (k v T' T'.heap ⟨_, X', Fr.app N hN, rfl⟩ hQ)
theorem rCallI (hs : Clo p e below G) (X : Sd p l e R s m args below meth c n0 T h cells slots) (hx : p.tables.exec = Jvm.exec) (hZ : Z.Warmed39 s.vm) {own : String} {index : Nat} {y : MethodName} {bytes : ByteArray} {maxL : Nat} {rm : Room} {a : Addr} {as' : List Value} {Q' : Option Value → Heap → Prop}
    (hM : Con l Z y bytes maxL none [] rm (Value.ref a :: as').toArray h n0 Q') (hyn : y.name = "<init>") (hown : s.vm.findClass own = some m.cls) (w1 : (Jvm.Cond.methodLink own index y).before a0 Z = true) (w2 : (Jvm.Cond.instanceMethod y).before a0 Z = true) (w3 : (Jvm.Cond.initialized y.cls).before a0 Z = true) (w4 : (Jvm.Cond.code y bytes maxL none).before a0 Z = true)
    (hy : y.cls ≠ "java/lang/invoke/MethodHandle" ∧ y.cls ≠ "java/lang/invoke/VarHandle") {g : JFrame} (hg : g.method = m) (hsize : g.locals.size = c.maxLocals) (rest : List Value) (hlen : ∀ sig, parseMethodDescriptor y.desc = some sig → as'.length = sig.parameters.length)
    (hst : g.stack = as'.reverse ++ .ref a :: rest) (W : Nat) (hW : 2 * g.monitorRoom + (rest.map fun v => v.category).sum ≤ W) (hd : decode c.code g.pc = .ok (.invokespecial index, 3))
    (hf : rm.frames + 1 ≤ R.frames) (hl : W + (maxL + 11) + rm.locals ≤ R.locals) (hc : cells + rm.cells ≤ R.cells) (hsl : slots + rm.slots ≤ R.slots)
    (k : ∀ (v : Option Value) (T' : State) (h' : Heap), Sd p l e R s m args below meth c n0 T' h' (cells + rm.cells) (slots + rm.slots) → Q' v h' → G T' { g with pc := g.pc + 3, stack := v.toList ++ rest }) : G T g := by
  obtain ⟨L, X, N, eh⟩ := X
  obtain ⟨v, vm₁, ⟨T', L', k', n'⟩, -, X', ⟨Lc, ⟨hQ, hN⟩, l', y', z'⟩, st⟩ := X.specialBack hx (y := y) hyn hown (mvT hZ w1) (mvT hZ w2) (mvT hZ w4) hy (backOf (Q := fun v h L => Q' v h ∧ Fr n0 L) (W := W) hM hZ w4 w3 hf hl) hg hsize (Steps.refl _) (a := a) (argsL := as') (rest := rest) hlen hst hW hd (fun _ _ => ⟨rfl, eh, hc, hsl⟩)
  dsimp only [Pt.U, Pt.locs, Pt.cells, Pt.slots] at X' l' y' z' st hQ
  subst l' y' z'
  exact hs.go (fun _ q => st.trans q) (k v T' T'.heap ⟨_, X', Fr.app N hN, rfl⟩ hQ)
theorem rCallV (hs : Clo p e below G) (X : Sd p l e R s m args below meth c n0 T h cells slots) (hx : p.tables.exec = Jvm.exec) (hZ : Z.Warmed39 s.vm) {own C : String} {index : Nat} {y : MethodName} {bytes : ByteArray} {maxL : Nat} {ret : Option FieldType} {rm : Room} {a : Addr} {as' : List Value} {Q' : Option Value → Heap → Prop}
    (hM : Con l Z y bytes maxL ret [] rm (Value.ref a :: as').toArray h n0 Q') (E : Exa Z h a C) (hown : s.vm.findClass own = some m.cls) (w1 : (Jvm.Cond.methodLink own index y).before a0 Z = true) (w5 : (Jvm.Cond.declares y).before a0 Z = true) (w6 : (Jvm.Cond.selects C y y).before a0 Z = true) (w2 : (Jvm.Cond.instanceMethod y).before a0 Z = true) (w3 : (Jvm.Cond.initialized y.cls).before a0 Z = true) (w4 : (Jvm.Cond.code y bytes maxL ret).before a0 Z = true)
    (hy : y.cls ≠ "java/lang/invoke/MethodHandle" ∧ y.cls ≠ "java/lang/invoke/VarHandle") {g : JFrame} (hg : g.method = m) (hsize : g.locals.size = c.maxLocals) (rest : List Value) (hlen : ∀ sig, parseMethodDescriptor y.desc = some sig → as'.length = sig.parameters.length)
    (hst : g.stack = as'.reverse ++ .ref a :: rest) (W : Nat) (hW : 2 * g.monitorRoom + (rest.map fun v => v.category).sum ≤ W) (hd : decode c.code g.pc = .ok (.invokevirtual index, 3))
    (hf : rm.frames + 1 ≤ R.frames) (hl : W + (maxL + 11) + rm.locals ≤ R.locals) (hc : cells + rm.cells ≤ R.cells) (hsl : slots + rm.slots ≤ R.slots)
    (k : ∀ (v : Option Value) (T' : State) (h' : Heap), Sd p l e R s m args below meth c n0 T' h' (cells + rm.cells) (slots + rm.slots) → Q' v h' → G T' { g with pc := g.pc + 3, stack := v.toList ++ rest }) : G T g := by
  obtain ⟨L, X, N, eh⟩ := X
  obtain ⟨cB, kB, qa, qb, qc⟩ := isOf (T := T) hZ eh E
  obtain ⟨v, vm₁, ⟨T', L', k', n'⟩, -, X', ⟨Lc, ⟨hQ, hN⟩, l', y', z'⟩, st⟩ := X.virtualBack hx (y := y) (z := y) hown (mvT hZ w1) (mvT hZ w5) (notFace_of_selects (args := #[]) (mvT hZ w6)) (mvT hZ w6) (mvT hZ w2) hy (backOf (Q := fun v h L => Q' v h ∧ Fr n0 L) (W := W) hM hZ w4 w3 hf hl) qa qc hg hsize (Steps.refl _) (argsL := as') (rest := rest) hlen hst hW hd (fun _ _ => ⟨rfl, eh, hc, hsl⟩)
  dsimp only [Pt.U, Pt.locs, Pt.cells, Pt.slots] at X' l' y' z' st hQ
  subst l' y' z'
  exact hs.go (fun _ q => st.trans q) (k v T' T'.heap ⟨_, X', Fr.app N hN, rfl⟩ hQ)
/-! branches -/
theorem ltL {x y : Int64} (h : x < y) : if_icmp.holds .lt (lcmpW x y) 0 = true ∧ if_icmp.holds .ge (lcmpW x y) 0 = false := have q := tlt ((lw_lt x y).mpr h); ⟨q.1, q.2.1⟩
theorem nltL {x y : Int64} (h : ¬ x < y) : if_icmp.holds .lt (lcmpW x y) 0 = false ∧ if_icmp.holds .ge (lcmpW x y) 0 = true := have q := flt (fun z => h ((lw_lt x y).mp z)); ⟨q.1, q.2.1⟩
theorem gtL {x y : Int64} (h : y < x) : if_icmp.holds .gt (lcmpW x y) 0 = true ∧ if_icmp.holds .le (lcmpW x y) 0 = false := have q := tlt ((lw_gt x y).mpr h); ⟨q.2.2.1, q.2.2.2⟩
theorem ngtL {x y : Int64} (h : ¬ y < x) : if_icmp.holds .gt (lcmpW x y) 0 = false ∧ if_icmp.holds .le (lcmpW x y) 0 = true := have q := flt (fun z => h ((lw_gt x y).mp z)); ⟨q.2.2.1, q.2.2.2⟩
theorem eqL {x y : Int64} (h : x = y) : if_icmp.holds .eq (lcmpW x y) 0 = true ∧ if_icmp.holds .ne (lcmpW x y) 0 = false := teq ((lw_eq x y).mpr h)
theorem neqL {x y : Int64} (h : ¬ x = y) : if_icmp.holds .eq (lcmpW x y) 0 = false ∧ if_icmp.holds .ne (lcmpW x y) 0 = true := feq (fun z => h ((lw_eq x y).mp z))
theorem nameIt {α : Type} {P : α → Prop} (x : α) (k : ∀ z, z = x → P z) : P x := k x rfl
theorem eq64 {x y : Int64} (h : x.toInt = y.toInt) : x = y := Int64.toInt_inj.mp h
theorem eq32 {x y : Int32} (h : x.toInt = y.toInt) : x = y := Int32.toInt_inj.mp h
theorem lt64 {x y : Int64} : x < y ↔ x.toInt < y.toInt := Int64.lt_iff_toInt_lt
theorem lt32 {x y : Int32} : x < y ↔ x.toInt < y.toInt := Int32.lt_iff_toInt_lt
theorem e64 {x y : Int64} : x = y ↔ x.toInt = y.toInt := Int64.toInt_inj.symm
theorem e32 {x y : Int32} : x = y ↔ x.toInt = y.toInt := Int32.toInt_inj.symm
theorem c_lremM (x y : Int64) (d : Int) (hy : y.toInt = d) : (0 ≤ x.toInt → (x % y).toInt = x.toInt % d) ∧ (x.toInt < 0 → (x % y).toInt = -((-x.toInt) % d)) := by rw [Int64.toInt_mod, hy]; exact tr _ _
theorem nar_byte (x : Int32) : x.toInt8.toInt32.toInt8.toInt32 = x.toInt8.toInt32 := by simp
end OwnKit

def f1 (a : Int64) (b : Int64) : Int64 := (if a = (-9223372036854775808 : Int64) then (-9223372036854775808 : Int64) else (if b = (-9223372036854775808 : Int64) then (-9223372036854775808 : Int64) else (if ((a ^^^ (a + b)) &&& (b ^^^ (a + b))) < (0 : Int64) then (-9223372036854775808 : Int64) else (a + b))))
theorem d1_0 : decode prog_9_method_3_code 0 = .ok (.lload_n 0, 1) := by decide +kernel
theorem d1_1 : decode prog_9_method_3_code 1 = .ok (.lload_n 2, 1) := by decide +kernel
theorem d1_2 : decode prog_9_method_3_code 2 = .ok (.ladd, 1) := by decide +kernel
theorem d1_3 : decode prog_9_method_3_code 3 = .ok (.lstore 4, 2) := by decide +kernel
theorem d1_5 : decode prog_9_method_3_code 5 = .ok (.lload_n 0, 1) := by decide +kernel
theorem d1_6 : decode prog_9_method_3_code 6 = .ok (.ldc2_w 42, 3) := by decide +kernel
theorem d1_9 : decode prog_9_method_3_code 9 = .ok (.lcmp, 1) := by decide +kernel
theorem d1_10 : decode prog_9_method_3_code 10 = .ok (.ifCond .eq 25, 3) := by decide +kernel
theorem d1_13 : decode prog_9_method_3_code 13 = .ok (.lload_n 2, 1) := by decide +kernel
theorem d1_14 : decode prog_9_method_3_code 14 = .ok (.ldc2_w 42, 3) := by decide +kernel
theorem d1_17 : decode prog_9_method_3_code 17 = .ok (.lcmp, 1) := by decide +kernel
theorem d1_18 : decode prog_9_method_3_code 18 = .ok (.ifCond .eq 17, 3) := by decide +kernel
theorem d1_21 : decode prog_9_method_3_code 21 = .ok (.lload_n 0, 1) := by decide +kernel
theorem d1_22 : decode prog_9_method_3_code 22 = .ok (.lload 4, 2) := by decide +kernel
theorem d1_24 : decode prog_9_method_3_code 24 = .ok (.lxor, 1) := by decide +kernel
theorem d1_25 : decode prog_9_method_3_code 25 = .ok (.lload_n 2, 1) := by decide +kernel
theorem d1_26 : decode prog_9_method_3_code 26 = .ok (.lload 4, 2) := by decide +kernel
theorem d1_28 : decode prog_9_method_3_code 28 = .ok (.lxor, 1) := by decide +kernel
theorem d1_29 : decode prog_9_method_3_code 29 = .ok (.land, 1) := by decide +kernel
theorem d1_30 : decode prog_9_method_3_code 30 = .ok (.lconst 0, 1) := by decide +kernel
theorem d1_31 : decode prog_9_method_3_code 31 = .ok (.lcmp, 1) := by decide +kernel
theorem d1_32 : decode prog_9_method_3_code 32 = .ok (.ifCond .ge 9, 3) := by decide +kernel
theorem d1_35 : decode prog_9_method_3_code 35 = .ok (.ldc2_w 42, 3) := by decide +kernel
theorem d1_38 : decode prog_9_method_3_code 38 = .ok (.goto 5, 3) := by decide +kernel
theorem d1_41 : decode prog_9_method_3_code 41 = .ok (.lload 4, 2) := by decide +kernel
theorem d1_43 : decode prog_9_method_3_code 43 = .ok (.lreturn, 1) := by decide +kernel
theorem pn_1 : plainFor (⟨"com/example/farthing/farthing/model/Compact", "add", "(JJ)J"⟩ : MethodName) = true := plainFor_of_name (by first | (simp [plainName, overriddenIn]; done) | decide +kernel)
theorem ef_1 (m : MethodId) (x0 : Int64) (x1 : Int64) : entryFrame m #[(.long x0), (.long x1)] 6 = mkF m 0 #[.val (.long x0), .second, .val (.long x1), .second, .unset, .unset] [] := by first | (simp [entryFrame, mkF, argsToLocals, Value.category]; done) | rfl
theorem hy_1 : ((⟨"com/example/farthing/farthing/model/Compact", "add", "(JJ)J"⟩ : MethodName)).cls ≠ "java/lang/invoke/MethodHandle" ∧ ((⟨"com/example/farthing/farthing/model/Compact", "add", "(JJ)J"⟩ : MethodName)).cls ≠ "java/lang/invoke/VarHandle" := by decide
set_option maxRecDepth 65536 in
set_option maxHeartbeats 40000000 in
theorem rm1 (l : Launch) (Z : State) (a0 : Array Value) (hw : ∀ d ∈ tables_1, d.before a0 Z = true) (ws : List Jvm.Cond) (a : Int64) (b : Int64) (h0 : Heap) (n0 : Nat) (Z0 : n0 ≤ h0.size)  :
    Con l Z (⟨"com/example/farthing/farthing/model/Compact", "add", "(JJ)J"⟩ : MethodName) prog_9_method_3_code 6 (some .long) ws ({ frames := 0, cells := 0, slots := 0, locals := 0 } : Room) #[(.long a), (.long b)] h0 n0 (fun v h => v = some (.long (f1 a b)) ∧ h = h0) := by
  refine Con.of pn_1 ?_
  intro G p e s m below meth c s₁ hs hx hby hml hown hnm hret hZ X0 fin
  have hml : c.maxLocals = 6 := hml
  have hown : s.vm.findClass "com/example/farthing/farthing/model/Compact" = some m.cls := hown
  rw [ef_1]
  show G s₁ (mkF m 0 #[.val (.long a), .second, .val (.long b), .second, .unset, .unset] [])
  refine hs.go (fun _ kk_ => XS.lloadN X0.here hx rfl (hb hby d1_0) rfl  kk_) ?_
  show G s₁ (mkF m 1 #[.val (.long a), .second, .val (.long b), .second, .unset, .unset] [(.long a)])
  refine hs.go (fun _ kk_ => XS.lloadN X0.here hx rfl (hb hby d1_1) rfl  kk_) ?_
  show G s₁ (mkF m 2 #[.val (.long a), .second, .val (.long b), .second, .unset, .unset] [(.long b), (.long a)])
  refine hs.go (fun _ kk_ => XS.ladd X0.here hx rfl (hb hby d1_2) rfl kk_) ?_
  show G s₁ (mkF m 3 #[.val (.long a), .second, .val (.long b), .second, .unset, .unset] [(.long (a + b))])
  refine nameIt (P := fun zz_ : Int64 => G s₁ (mkF m 3 #[.val (.long a), .second, .val (.long b), .second, .unset, .unset] [(.long zz_)])) (a + b) (fun sm hsm => ?_)
  show G s₁ (mkF m 3 #[.val (.long a), .second, .val (.long b), .second, .unset, .unset] [(.long sm)])
  refine hs.go (fun _ kk_ => XS.lstore X0.here hx rfl (hb hby d1_3) rfl (l' := #[.val (.long a), .second, .val (.long b), .second, .val (.long sm), .second]) rfl kk_) ?_
  show G s₁ (mkF m 5 #[.val (.long a), .second, .val (.long b), .second, .val (.long sm), .second] [])
  refine hs.go (fun _ kk_ => XS.lloadN X0.here hx rfl (hb hby d1_5) rfl  kk_) ?_
  show G s₁ (mkF m 6 #[.val (.long a), .second, .val (.long b), .second, .val (.long sm), .second] [(.long a)])
  refine rLdcL hs X0 hx hZ hown (hw _ (List.mem_of_getElem? (i := 8) rfl)) rfl (hb hby d1_6) ?_
  show G s₁ (mkF m 9 #[.val (.long a), .second, .val (.long b), .second, .val (.long sm), .second] [(.long (-9223372036854775808 : Int64)), (.long a)])
  refine hs.go (fun _ kk_ => XS.lcmp X0.here hx rfl (hb hby d1_9) rfl kk_) ?_
  show G s₁ (mkF m 10 #[.val (.long a), .second, .val (.long b), .second, .val (.long sm), .second] [(.int (lcmpW a (-9223372036854775808 : Int64)))])
  by_cases c10 : a = (-9223372036854775808 : Int64)
  · refine hs.go (fun _ kk_ => XS.ifYes X0.here hx rfl (pc0 := 10) (pc' := 35) rfl (hb hby d1_10) rfl ((if0 _ _).trans (eqL c10).1) (by decide) (by decide) kk_) ?_
    show G s₁ (mkF m 35 #[.val (.long a), .second, .val (.long b), .second, .val (.long sm), .second] [])
    refine rLdcL hs X0 hx hZ hown (hw _ (List.mem_of_getElem? (i := 8) rfl)) rfl (hb hby d1_35) ?_
    show G s₁ (mkF m 38 #[.val (.long a), .second, .val (.long b), .second, .val (.long sm), .second] [(.long (-9223372036854775808 : Int64))])
    refine hs.go (fun _ kk_ => XS.goto X0.here hx rfl (pc0 := 38) (pc' := 43) rfl (hb hby d1_38) (by decide) (by decide) kk_) ?_
    show G s₁ (mkF m 43 #[.val (.long a), .second, .val (.long b), .second, .val (.long sm), .second] [(.long (-9223372036854775808 : Int64))])
    exact rRetL fin X0 hx (by decide) (by decide) hret (hb hby d1_43) ⟨by subst hsm; rw [f1, if_pos c10], rfl⟩
  · refine hs.go (fun _ kk_ => XS.ifNo X0.here hx rfl (hb hby d1_10) rfl ((if0 _ _).trans (neqL c10).1) kk_) ?_
    show G s₁ (mkF m 13 #[.val (.long a), .second, .val (.long b), .second, .val (.long sm), .second] [])
    refine hs.go (fun _ kk_ => XS.lloadN X0.here hx rfl (hb hby d1_13) rfl  kk_) ?_
    show G s₁ (mkF m 14 #[.val (.long a), .second, .val (.long b), .second, .val (.long sm), .second] [(.long b)])
    refine rLdcL hs X0 hx hZ hown (hw _ (List.mem_of_getElem? (i := 8) rfl)) rfl (hb hby d1_14) ?_
    show G s₁ (mkF m 17 #[.val (.long a), .second, .val (.long b), .second, .val (.long sm), .second] [(.long (-9223372036854775808 : Int64)), (.long b)])
    refine hs.go (fun _ kk_ => XS.lcmp X0.here hx rfl (hb hby d1_17) rfl kk_) ?_
    show G s₁ (mkF m 18 #[.val (.long a), .second, .val (.long b), .second, .val (.long sm), .second] [(.int (lcmpW b (-9223372036854775808 : Int64)))])
    by_cases c18 : b = (-9223372036854775808 : Int64)
    · refine hs.go (fun _ kk_ => XS.ifYes X0.here hx rfl (pc0 := 18) (pc' := 35) rfl (hb hby d1_18) rfl ((if0 _ _).trans (eqL c18).1) (by decide) (by decide) kk_) ?_
      show G s₁ (mkF m 35 #[.val (.long a), .second, .val (.long b), .second, .val (.long sm), .second] [])
      refine rLdcL hs X0 hx hZ hown (hw _ (List.mem_of_getElem? (i := 8) rfl)) rfl (hb hby d1_35) ?_
      show G s₁ (mkF m 38 #[.val (.long a), .second, .val (.long b), .second, .val (.long sm), .second] [(.long (-9223372036854775808 : Int64))])
      refine hs.go (fun _ kk_ => XS.goto X0.here hx rfl (pc0 := 38) (pc' := 43) rfl (hb hby d1_38) (by decide) (by decide) kk_) ?_
      show G s₁ (mkF m 43 #[.val (.long a), .second, .val (.long b), .second, .val (.long sm), .second] [(.long (-9223372036854775808 : Int64))])
      exact rRetL fin X0 hx (by decide) (by decide) hret (hb hby d1_43) ⟨by subst hsm; rw [f1, if_neg c10, if_pos c18], rfl⟩
    · refine hs.go (fun _ kk_ => XS.ifNo X0.here hx rfl (hb hby d1_18) rfl ((if0 _ _).trans (neqL c18).1) kk_) ?_
      show G s₁ (mkF m 21 #[.val (.long a), .second, .val (.long b), .second, .val (.long sm), .second] [])
      refine hs.go (fun _ kk_ => XS.lloadN X0.here hx rfl (hb hby d1_21) rfl  kk_) ?_
      show G s₁ (mkF m 22 #[.val (.long a), .second, .val (.long b), .second, .val (.long sm), .second] [(.long a)])
      refine hs.go (fun _ kk_ => XS.lload X0.here hx rfl (hb hby d1_22) rfl  kk_) ?_
      show G s₁ (mkF m 24 #[.val (.long a), .second, .val (.long b), .second, .val (.long sm), .second] [(.long sm), (.long a)])
      refine hs.go (fun _ kk_ => XS.lxor X0.here hx rfl (hb hby d1_24) rfl kk_) ?_
      show G s₁ (mkF m 25 #[.val (.long a), .second, .val (.long b), .second, .val (.long sm), .second] [(.long (a ^^^ sm))])
      refine hs.go (fun _ kk_ => XS.lloadN X0.here hx rfl (hb hby d1_25) rfl  kk_) ?_
      show G s₁ (mkF m 26 #[.val (.long a), .second, .val (.long b), .second, .val (.long sm), .second] [(.long b), (.long (a ^^^ sm))])
      refine hs.go (fun _ kk_ => XS.lload X0.here hx rfl (hb hby d1_26) rfl  kk_) ?_
      show G s₁ (mkF m 28 #[.val (.long a), .second, .val (.long b), .second, .val (.long sm), .second] [(.long sm), (.long b), (.long (a ^^^ sm))])
      refine hs.go (fun _ kk_ => XS.lxor X0.here hx rfl (hb hby d1_28) rfl kk_) ?_
      show G s₁ (mkF m 29 #[.val (.long a), .second, .val (.long b), .second, .val (.long sm), .second] [(.long (b ^^^ sm)), (.long (a ^^^ sm))])
      refine hs.go (fun _ kk_ => XS.land X0.here hx rfl (hb hby d1_29) rfl kk_) ?_
      show G s₁ (mkF m 30 #[.val (.long a), .second, .val (.long b), .second, .val (.long sm), .second] [(.long ((a ^^^ sm) &&& (b ^^^ sm)))])
      refine hs.go (fun _ kk_ => XS.lconst X0.here hx rfl (hb hby d1_30) kk_) ?_
      show G s₁ (mkF m 31 #[.val (.long a), .second, .val (.long b), .second, .val (.long sm), .second] [(.long (0 : Int64)), (.long ((a ^^^ sm) &&& (b ^^^ sm)))])
      refine hs.go (fun _ kk_ => XS.lcmp X0.here hx rfl (hb hby d1_31) rfl kk_) ?_
      show G s₁ (mkF m 32 #[.val (.long a), .second, .val (.long b), .second, .val (.long sm), .second] [(.int (lcmpW ((a ^^^ sm) &&& (b ^^^ sm)) (0 : Int64)))])
      by_cases c32 : ((a ^^^ sm) &&& (b ^^^ sm)) < (0 : Int64)
      · refine hs.go (fun _ kk_ => XS.ifNo X0.here hx rfl (hb hby d1_32) rfl ((if0 _ _).trans (ltL c32).2) kk_) ?_
        show G s₁ (mkF m 35 #[.val (.long a), .second, .val (.long b), .second, .val (.long sm), .second] [])
        refine rLdcL hs X0 hx hZ hown (hw _ (List.mem_of_getElem? (i := 8) rfl)) rfl (hb hby d1_35) ?_
        show G s₁ (mkF m 38 #[.val (.long a), .second, .val (.long b), .second, .val (.long sm), .second] [(.long (-9223372036854775808 : Int64))])
        refine hs.go (fun _ kk_ => XS.goto X0.here hx rfl (pc0 := 38) (pc' := 43) rfl (hb hby d1_38) (by decide) (by decide) kk_) ?_
        show G s₁ (mkF m 43 #[.val (.long a), .second, .val (.long b), .second, .val (.long sm), .second] [(.long (-9223372036854775808 : Int64))])
        exact rRetL fin X0 hx (by decide) (by decide) hret (hb hby d1_43) ⟨by subst hsm; rw [f1, if_neg c10, if_neg c18, if_pos c32], rfl⟩
      · refine hs.go (fun _ kk_ => XS.ifYes X0.here hx rfl (pc0 := 32) (pc' := 41) rfl (hb hby d1_32) rfl ((if0 _ _).trans (nltL c32).2) (by decide) (by decide) kk_) ?_
        show G s₁ (mkF m 41 #[.val (.long a), .second, .val (.long b), .second, .val (.long sm), .second] [])
        refine hs.go (fun _ kk_ => XS.lload X0.here hx rfl (hb hby d1_41) rfl  kk_) ?_
        show G s₁ (mkF m 43 #[.val (.long a), .second, .val (.long b), .second, .val (.long sm), .second] [(.long sm)])
        exact rRetL fin X0 hx (by decide) (by decide) hret (hb hby d1_43) ⟨by subst hsm; rw [f1, if_neg c10, if_neg c18, if_neg c32], rfl⟩

theorem own_ov (a b s : Int64) (hs : s = a + b) : (((a ^^^ s) &&& (b ^^^ s)).toInt < 0 → (a.toInt + b.toInt < -9223372036854775808 ∨ 9223372036854775808 ≤ a.toInt + b.toInt)) ∧ (¬ ((a ^^^ s) &&& (b ^^^ s)).toInt < 0 → (-9223372036854775808 ≤ a.toInt + b.toInt ∧ a.toInt + b.toInt < 9223372036854775808 ∧ s.toInt = a.toInt + b.toInt)) := by
  have ra := rng64 a
  have rb := rng64 b
  have e1 := c_ladd a b
  have e2 := rng64 (a + b)
  rw [← hs] at e1 e2
  have x1 := c_xorSL a s
  have x2 := c_xorSL b s
  have x3 := c_andSL (a ^^^ s) (b ^^^ s)
  generalize ((a ^^^ s) &&& (b ^^^ s)).toInt = q at *
  generalize (a ^^^ s).toInt = q1 at *
  generalize (b ^^^ s).toInt = q2 at *
  generalize a.toInt = A at *
  generalize b.toInt = B at *
  generalize s.toInt = S at *
  clear hs
  rcases Int.lt_or_le A 0 with u | u <;> rcases Int.lt_or_le B 0 with v | v <;> rcases Int.lt_or_le S 0 with w | w <;> constructor <;> intro h <;> omega
theorem own_law (a b : Int64) {ah al bh bl lo hi xc j : Int64} {z : Int32}
    (hah : ah = (a >>> ((32 : Int32) &&& 0x3f).toInt64)) (hal : al = (a &&& (4294967295 : Int64))) (hbh : bh = (b >>> ((32 : Int32) &&& 0x3f).toInt64)) (hbl : bl = (b &&& (4294967295 : Int64)))
    (hlo : lo = (al + bl)) (hhi : hi = ((ah + bh) + ((lo.toUInt64 >>> ((32 : Int32) &&& 0x3f).toInt64.toUInt64).toInt64)))
    (H : (hi < (-2147483648 : Int64) ∧ z = (0 : Int32)) ∨ (¬ (hi < (-2147483648 : Int64)) ∧ (2147483647 : Int64) < hi ∧ z = (0 : Int32)) ∨ (¬ (hi < (-2147483648 : Int64)) ∧ ¬ ((2147483647 : Int64) < hi) ∧ z = (1 : Int32)))
    (hxc : xc = ((hi <<< ((32 : Int32) &&& 0x3f).toInt64) ||| (lo &&& (4294967295 : Int64))))
    (K : (a = (-9223372036854775808 : Int64) ∧ j = (-9223372036854775808 : Int64)) ∨ (¬ (a = (-9223372036854775808 : Int64)) ∧ b = (-9223372036854775808 : Int64) ∧ j = (-9223372036854775808 : Int64)) ∨ (¬ (a = (-9223372036854775808 : Int64)) ∧ ¬ (b = (-9223372036854775808 : Int64)) ∧ z = (0 : Int32) ∧ j = (-9223372036854775808 : Int64)) ∨ (¬ (a = (-9223372036854775808 : Int64)) ∧ ¬ (b = (-9223372036854775808 : Int64)) ∧ ¬ (z = (0 : Int32)) ∧ j = xc)) : f1 a b = j := by
  have ra := rng64 a
  have rb := rng64 b
  have a1 : ah.toInt = a.toInt / 4294967296 := by rw [hah]; exact c_lshr a 32 32 (by decide)
  have a2 : bh.toInt = b.toInt / 4294967296 := by rw [hbh]; exact c_lshr b 32 32 (by decide)
  have a3 : al.toInt = a.toInt % 4294967296 := by rw [hal]; exact c_maskL a 4294967295 32 (by decide) (by decide)
  have a4 : bl.toInt = b.toInt % 4294967296 := by rw [hbl]; exact c_maskL b 4294967295 32 (by decide) (by decide)
  have a5 : (lo.toInt - (al.toInt + bl.toInt)) % 18446744073709551616 = 0 := by rw [hlo]; exact c_ladd al bl
  have a6 := rng64 lo
  have a7 : lo.toInt = al.toInt + bl.toInt := by omega
  have a8 : ((lo.toUInt64 >>> ((32 : Int32) &&& 0x3f).toInt64.toUInt64).toInt64).toInt = (lo.toInt % 18446744073709551616) / 4294967296 := c_lushr lo 32 32 (by decide) (by decide)
  generalize (lo.toUInt64 >>> ((32 : Int32) &&& 0x3f).toInt64.toUInt64).toInt64 = cy at *
  have b1 := c_ladd ah bh
  have b2 := rng64 (ah + bh)
  have b3 : (hi.toInt - ((ah + bh).toInt + cy.toInt)) % 18446744073709551616 = 0 := by rw [hhi]; exact c_ladd (ah + bh) cy
  have b4 := rng64 hi
  have b5 : (ah + bh).toInt = ah.toInt + bh.toInt := by omega
  have b6 : hi.toInt = ah.toInt + bh.toInt + cy.toInt := by omega
  have b7 : a.toInt + b.toInt = hi.toInt * 4294967296 + lo.toInt % 4294967296 := by omega
  have d1 : (lo &&& (4294967295 : Int64)).toInt = lo.toInt % 4294967296 := c_maskL lo 4294967295 32 (by decide) (by decide)
  have d2 : ((hi <<< ((32 : Int32) &&& 0x3f).toInt64).toInt - hi.toInt * 4294967296) % 18446744073709551616 = 0 := c_lshl hi 32 32 (by decide)
  have d3 := rng64 (hi <<< ((32 : Int32) &&& 0x3f).toInt64)
  have d4 := c_orL (hi <<< ((32 : Int32) &&& 0x3f).toInt64) (lo &&& (4294967295 : Int64)) 32 (by decide) 4294967296 rfl
  rw [← hxc] at d4
  have d5 := rng64 xc
  generalize (hi <<< ((32 : Int32) &&& 0x3f).toInt64).toInt = HS at *
  generalize (lo &&& (4294967295 : Int64)).toInt = LM at *
  have d6 : HS % 4294967296 = 0 := by omega
  have d7 := d4 d6 (by omega) (by omega)
  generalize hs : a + b = s at *
  have ov := own_ov a b s hs.symm
  clear a1 a2 a3 a4 a5 a7 a8 b1 b2 b3 b5 b6 d4 hah hal hbh hbl hlo hhi hxc
  have kz : (0 : Int64).toInt = 0 := rfl
  have kmin : (-9223372036854775808 : Int64).toInt = -9223372036854775808 := rfl
  have k1 : (-2147483648 : Int64).toInt = -2147483648 := rfl
  have k2 : (2147483647 : Int64).toInt = 2147483647 := rfl
  have k3 : (0 : Int32).toInt = 0 := rfl
  have k4 : (1 : Int32).toInt = 1 := rfl
  simp only [lt64, e64, e32, kmin, k1, k2, k3, k4] at H K
  simp only [f1, hs]
  by_cases c1 : a = (-9223372036854775808 : Int64)
  · rw [if_pos c1]; apply eq64; rw [e64, kmin] at c1; rw [kmin]
    rcases K with ⟨k, j⟩ | ⟨k, -⟩ | ⟨k, -⟩ | ⟨k, -⟩ <;> omega
  rw [if_neg c1]; rw [e64, kmin] at c1
  by_cases c2 : b = (-9223372036854775808 : Int64)
  · rw [if_pos c2]; apply eq64; rw [e64, kmin] at c2; rw [kmin]
    rcases K with ⟨k, j⟩ | ⟨k, -, j⟩ | ⟨-, k, -⟩ | ⟨-, k, -⟩ <;> omega
  rw [if_neg c2]; rw [e64, kmin] at c2
  by_cases c3 : ((a ^^^ s) &&& (b ^^^ s)) < (0 : Int64)
  · rw [if_pos c3]; apply eq64; rw [lt64, kz] at c3; rw [kmin]
    have o := ov.1 c3
    clear ov c3
    rcases K with ⟨k, j⟩ | ⟨k, u, j⟩ | ⟨-, -, y, j⟩ | ⟨-, -, y, j⟩
    · omega
    · omega
    · omega
    · exfalso
      rcases H with ⟨g, v⟩ | ⟨g, g2, v⟩ | ⟨g, g2, v⟩
      · omega
      · omega
      · rcases o with o | o <;> omega
  · rw [if_neg c3]; apply eq64; rw [lt64, kz] at c3
    have o := ov.2 c3
    clear ov c3
    rcases K with ⟨k, j⟩ | ⟨k, u, j⟩ | ⟨-, -, y, j⟩ | ⟨-, -, y, j⟩
    · omega
    · omega
    · exfalso
      rcases H with ⟨g, v⟩ | ⟨g, g2, v⟩ | ⟨g, g2, v⟩ <;> omega
    · rcases H with ⟨g, v⟩ | ⟨g, g2, v⟩ | ⟨g, g2, v⟩ <;> omega

theorem pd_0 : parseMethodDescriptor "(JJ)J" = some ⟨[.long, .long], some .long⟩ := by decide +kernel
theorem pn_0 : plainFor x = true := plainFor_of_name (show plainName "com/example/farthing/farthing/model/CompactAddPinLaw" = true by first | (simp [plainName, overriddenIn]; done) | decide +kernel)
theorem ef_0 (m : MethodId) (x0 : Int64) (x1 : Int64) : entryFrame m #[(.long x0), (.long x1)] maxLocals = mkF m 0 #[.val (.long x0), .second, .val (.long x1), .second, .unset, .unset, .unset, .unset, .unset, .unset, .unset, .unset, .unset, .unset, .unset, .unset, .unset, .unset, .unset, .unset, .unset] [] := by first | (simp [entryFrame, mkF, argsToLocals, Value.category, maxLocals]; done) | rfl
set_option maxRecDepth 65536 in
set_option maxHeartbeats 40000000 in
theorem rm0 (l : Launch) (Z : State) (a0 : Array Value) (hw : ∀ d ∈ tables_1, d.before a0 Z = true) (ws : List Jvm.Cond) (a b : Int64) (h0 : Heap) (n0 : Nat) (Z0 : n0 ≤ h0.size)  :
    Con l Z x code maxLocals ret ws room_1 #[(.long a), (.long b)] h0 n0 (fun v h => v = some (.int 1)) := by
  refine Con.of pn_0 ?_
  intro G p e s m below meth c s₁ hs hx hby hml hown hnm hret hZ X0 fin
  have hml : c.maxLocals = 21 := hml
  have hown : s.vm.findClass "com/example/farthing/farthing/model/CompactAddPinLaw" = some m.cls := hown
  rw [ef_0]
  show G s₁ (mkF m 0 #[.val (.long a), .second, .val (.long b), .second, .unset, .unset, .unset, .unset, .unset, .unset, .unset, .unset, .unset, .unset, .unset, .unset, .unset, .unset, .unset, .unset, .unset] [])
  refine hs.go (fun _ kk_ => XS.lloadN X0.here hx rfl (hb hby at_0) rfl  kk_) ?_
  show G s₁ (mkF m 1 #[.val (.long a), .second, .val (.long b), .second, .unset, .unset, .unset, .unset, .unset, .unset, .unset, .unset, .unset, .unset, .unset, .unset, .unset, .unset, .unset, .unset, .unset] [(.long a)])
  refine hs.go (fun _ kk_ => XS.bipush X0.here hx rfl (hb hby at_1) kk_) ?_
  show G s₁ (mkF m 3 #[.val (.long a), .second, .val (.long b), .second, .unset, .unset, .unset, .unset, .unset, .unset, .unset, .unset, .unset, .unset, .unset, .unset, .unset, .unset, .unset, .unset, .unset] [(.int (32 : Int32)), (.long a)])
  refine hs.go (fun _ kk_ => XS.lshr X0.here hx rfl (hb hby at_3) rfl kk_) ?_
  show G s₁ (mkF m 4 #[.val (.long a), .second, .val (.long b), .second, .unset, .unset, .unset, .unset, .unset, .unset, .unset, .unset, .unset, .unset, .unset, .unset, .unset, .unset, .unset, .unset, .unset] [(.long (a >>> ((32 : Int32) &&& 0x3f).toInt64))])
  refine nameIt (P := fun zz_ : Int64 => G s₁ (mkF m 4 #[.val (.long a), .second, .val (.long b), .second, .unset, .unset, .unset, .unset, .unset, .unset, .unset, .unset, .unset, .unset, .unset, .unset, .unset, .unset, .unset, .unset, .unset] [(.long zz_)])) (a >>> ((32 : Int32) &&& 0x3f).toInt64) (fun ah hah => ?_)
  show G s₁ (mkF m 4 #[.val (.long a), .second, .val (.long b), .second, .unset, .unset, .unset, .unset, .unset, .unset, .unset, .unset, .unset, .unset, .unset, .unset, .unset, .unset, .unset, .unset, .unset] [(.long ah)])
  refine hs.go (fun _ kk_ => XS.lstore X0.here hx rfl (hb hby at_4) rfl (l' := #[.val (.long a), .second, .val (.long b), .second, .val (.long ah), .second, .unset, .unset, .unset, .unset, .unset, .unset, .unset, .unset, .unset, .unset, .unset, .unset, .unset, .unset, .unset]) rfl kk_) ?_
  show G s₁ (mkF m 6 #[.val (.long a), .second, .val (.long b), .second, .val (.long ah), .second, .unset, .unset, .unset, .unset, .unset, .unset, .unset, .unset, .unset, .unset, .unset, .unset, .unset, .unset, .unset] [])
  refine hs.go (fun _ kk_ => XS.lloadN X0.here hx rfl (hb hby at_6) rfl  kk_) ?_
  show G s₁ (mkF m 7 #[.val (.long a), .second, .val (.long b), .second, .val (.long ah), .second, .unset, .unset, .unset, .unset, .unset, .unset, .unset, .unset, .unset, .unset, .unset, .unset, .unset, .unset, .unset] [(.long a)])
  refine rLdcL hs X0 hx hZ hown (hw _ (List.mem_of_getElem? (i := 0) rfl)) rfl (hb hby at_7) ?_
  show G s₁ (mkF m 10 #[.val (.long a), .second, .val (.long b), .second, .val (.long ah), .second, .unset, .unset, .unset, .unset, .unset, .unset, .unset, .unset, .unset, .unset, .unset, .unset, .unset, .unset, .unset] [(.long (4294967295 : Int64)), (.long a)])
  refine hs.go (fun _ kk_ => XS.land X0.here hx rfl (hb hby at_10) rfl kk_) ?_
  show G s₁ (mkF m 11 #[.val (.long a), .second, .val (.long b), .second, .val (.long ah), .second, .unset, .unset, .unset, .unset, .unset, .unset, .unset, .unset, .unset, .unset, .unset, .unset, .unset, .unset, .unset] [(.long (a &&& (4294967295 : Int64)))])
  refine nameIt (P := fun zz_ : Int64 => G s₁ (mkF m 11 #[.val (.long a), .second, .val (.long b), .second, .val (.long ah), .second, .unset, .unset, .unset, .unset, .unset, .unset, .unset, .unset, .unset, .unset, .unset, .unset, .unset, .unset, .unset] [(.long zz_)])) (a &&& (4294967295 : Int64)) (fun al hal => ?_)
  show G s₁ (mkF m 11 #[.val (.long a), .second, .val (.long b), .second, .val (.long ah), .second, .unset, .unset, .unset, .unset, .unset, .unset, .unset, .unset, .unset, .unset, .unset, .unset, .unset, .unset, .unset] [(.long al)])
  refine hs.go (fun _ kk_ => XS.lstore X0.here hx rfl (hb hby at_11) rfl (l' := #[.val (.long a), .second, .val (.long b), .second, .val (.long ah), .second, .val (.long al), .second, .unset, .unset, .unset, .unset, .unset, .unset, .unset, .unset, .unset, .unset, .unset, .unset, .unset]) rfl kk_) ?_
  show G s₁ (mkF m 13 #[.val (.long a), .second, .val (.long b), .second, .val (.long ah), .second, .val (.long al), .second, .unset, .unset, .unset, .unset, .unset, .unset, .unset, .unset, .unset, .unset, .unset, .unset, .unset] [])
  refine hs.go (fun _ kk_ => XS.lloadN X0.here hx rfl (hb hby at_13) rfl  kk_) ?_
  show G s₁ (mkF m 14 #[.val (.long a), .second, .val (.long b), .second, .val (.long ah), .second, .val (.long al), .second, .unset, .unset, .unset, .unset, .unset, .unset, .unset, .unset, .unset, .unset, .unset, .unset, .unset] [(.long b)])
  refine hs.go (fun _ kk_ => XS.bipush X0.here hx rfl (hb hby at_14) kk_) ?_
  show G s₁ (mkF m 16 #[.val (.long a), .second, .val (.long b), .second, .val (.long ah), .second, .val (.long al), .second, .unset, .unset, .unset, .unset, .unset, .unset, .unset, .unset, .unset, .unset, .unset, .unset, .unset] [(.int (32 : Int32)), (.long b)])
  refine hs.go (fun _ kk_ => XS.lshr X0.here hx rfl (hb hby at_16) rfl kk_) ?_
  show G s₁ (mkF m 17 #[.val (.long a), .second, .val (.long b), .second, .val (.long ah), .second, .val (.long al), .second, .unset, .unset, .unset, .unset, .unset, .unset, .unset, .unset, .unset, .unset, .unset, .unset, .unset] [(.long (b >>> ((32 : Int32) &&& 0x3f).toInt64))])
  refine nameIt (P := fun zz_ : Int64 => G s₁ (mkF m 17 #[.val (.long a), .second, .val (.long b), .second, .val (.long ah), .second, .val (.long al), .second, .unset, .unset, .unset, .unset, .unset, .unset, .unset, .unset, .unset, .unset, .unset, .unset, .unset] [(.long zz_)])) (b >>> ((32 : Int32) &&& 0x3f).toInt64) (fun bh hbh => ?_)
  show G s₁ (mkF m 17 #[.val (.long a), .second, .val (.long b), .second, .val (.long ah), .second, .val (.long al), .second, .unset, .unset, .unset, .unset, .unset, .unset, .unset, .unset, .unset, .unset, .unset, .unset, .unset] [(.long bh)])
  refine hs.go (fun _ kk_ => XS.lstore X0.here hx rfl (hb hby at_17) rfl (l' := #[.val (.long a), .second, .val (.long b), .second, .val (.long ah), .second, .val (.long al), .second, .val (.long bh), .second, .unset, .unset, .unset, .unset, .unset, .unset, .unset, .unset, .unset, .unset, .unset]) rfl kk_) ?_
  show G s₁ (mkF m 19 #[.val (.long a), .second, .val (.long b), .second, .val (.long ah), .second, .val (.long al), .second, .val (.long bh), .second, .unset, .unset, .unset, .unset, .unset, .unset, .unset, .unset, .unset, .unset, .unset] [])
  refine hs.go (fun _ kk_ => XS.lloadN X0.here hx rfl (hb hby at_19) rfl  kk_) ?_
  show G s₁ (mkF m 20 #[.val (.long a), .second, .val (.long b), .second, .val (.long ah), .second, .val (.long al), .second, .val (.long bh), .second, .unset, .unset, .unset, .unset, .unset, .unset, .unset, .unset, .unset, .unset, .unset] [(.long b)])
  refine rLdcL hs X0 hx hZ hown (hw _ (List.mem_of_getElem? (i := 0) rfl)) rfl (hb hby at_20) ?_
  show G s₁ (mkF m 23 #[.val (.long a), .second, .val (.long b), .second, .val (.long ah), .second, .val (.long al), .second, .val (.long bh), .second, .unset, .unset, .unset, .unset, .unset, .unset, .unset, .unset, .unset, .unset, .unset] [(.long (4294967295 : Int64)), (.long b)])
  refine hs.go (fun _ kk_ => XS.land X0.here hx rfl (hb hby at_23) rfl kk_) ?_
  show G s₁ (mkF m 24 #[.val (.long a), .second, .val (.long b), .second, .val (.long ah), .second, .val (.long al), .second, .val (.long bh), .second, .unset, .unset, .unset, .unset, .unset, .unset, .unset, .unset, .unset, .unset, .unset] [(.long (b &&& (4294967295 : Int64)))])
  refine nameIt (P := fun zz_ : Int64 => G s₁ (mkF m 24 #[.val (.long a), .second, .val (.long b), .second, .val (.long ah), .second, .val (.long al), .second, .val (.long bh), .second, .unset, .unset, .unset, .unset, .unset, .unset, .unset, .unset, .unset, .unset, .unset] [(.long zz_)])) (b &&& (4294967295 : Int64)) (fun bl hbl => ?_)
  show G s₁ (mkF m 24 #[.val (.long a), .second, .val (.long b), .second, .val (.long ah), .second, .val (.long al), .second, .val (.long bh), .second, .unset, .unset, .unset, .unset, .unset, .unset, .unset, .unset, .unset, .unset, .unset] [(.long bl)])
  refine hs.go (fun _ kk_ => XS.lstore X0.here hx rfl (hb hby at_24) rfl (l' := #[.val (.long a), .second, .val (.long b), .second, .val (.long ah), .second, .val (.long al), .second, .val (.long bh), .second, .val (.long bl), .second, .unset, .unset, .unset, .unset, .unset, .unset, .unset, .unset, .unset]) rfl kk_) ?_
  show G s₁ (mkF m 26 #[.val (.long a), .second, .val (.long b), .second, .val (.long ah), .second, .val (.long al), .second, .val (.long bh), .second, .val (.long bl), .second, .unset, .unset, .unset, .unset, .unset, .unset, .unset, .unset, .unset] [])
  refine hs.go (fun _ kk_ => XS.lload X0.here hx rfl (hb hby at_26) rfl  kk_) ?_
  show G s₁ (mkF m 28 #[.val (.long a), .second, .val (.long b), .second, .val (.long ah), .second, .val (.long al), .second, .val (.long bh), .second, .val (.long bl), .second, .unset, .unset, .unset, .unset, .unset, .unset, .unset, .unset, .unset] [(.long al)])
  refine hs.go (fun _ kk_ => XS.lload X0.here hx rfl (hb hby at_28) rfl  kk_) ?_
  show G s₁ (mkF m 30 #[.val (.long a), .second, .val (.long b), .second, .val (.long ah), .second, .val (.long al), .second, .val (.long bh), .second, .val (.long bl), .second, .unset, .unset, .unset, .unset, .unset, .unset, .unset, .unset, .unset] [(.long bl), (.long al)])
  refine hs.go (fun _ kk_ => XS.ladd X0.here hx rfl (hb hby at_30) rfl kk_) ?_
  show G s₁ (mkF m 31 #[.val (.long a), .second, .val (.long b), .second, .val (.long ah), .second, .val (.long al), .second, .val (.long bh), .second, .val (.long bl), .second, .unset, .unset, .unset, .unset, .unset, .unset, .unset, .unset, .unset] [(.long (al + bl))])
  refine nameIt (P := fun zz_ : Int64 => G s₁ (mkF m 31 #[.val (.long a), .second, .val (.long b), .second, .val (.long ah), .second, .val (.long al), .second, .val (.long bh), .second, .val (.long bl), .second, .unset, .unset, .unset, .unset, .unset, .unset, .unset, .unset, .unset] [(.long zz_)])) (al + bl) (fun lo hlo => ?_)
  show G s₁ (mkF m 31 #[.val (.long a), .second, .val (.long b), .second, .val (.long ah), .second, .val (.long al), .second, .val (.long bh), .second, .val (.long bl), .second, .unset, .unset, .unset, .unset, .unset, .unset, .unset, .unset, .unset] [(.long lo)])
  refine hs.go (fun _ kk_ => XS.lstore X0.here hx rfl (hb hby at_31) rfl (l' := #[.val (.long a), .second, .val (.long b), .second, .val (.long ah), .second, .val (.long al), .second, .val (.long bh), .second, .val (.long bl), .second, .val (.long lo), .second, .unset, .unset, .unset, .unset, .unset, .unset, .unset]) rfl kk_) ?_
  show G s₁ (mkF m 33 #[.val (.long a), .second, .val (.long b), .second, .val (.long ah), .second, .val (.long al), .second, .val (.long bh), .second, .val (.long bl), .second, .val (.long lo), .second, .unset, .unset, .unset, .unset, .unset, .unset, .unset] [])
  refine hs.go (fun _ kk_ => XS.lload X0.here hx rfl (hb hby at_33) rfl  kk_) ?_
  show G s₁ (mkF m 35 #[.val (.long a), .second, .val (.long b), .second, .val (.long ah), .second, .val (.long al), .second, .val (.long bh), .second, .val (.long bl), .second, .val (.long lo), .second, .unset, .unset, .unset, .unset, .unset, .unset, .unset] [(.long ah)])
  refine hs.go (fun _ kk_ => XS.lload X0.here hx rfl (hb hby at_35) rfl  kk_) ?_
  show G s₁ (mkF m 37 #[.val (.long a), .second, .val (.long b), .second, .val (.long ah), .second, .val (.long al), .second, .val (.long bh), .second, .val (.long bl), .second, .val (.long lo), .second, .unset, .unset, .unset, .unset, .unset, .unset, .unset] [(.long bh), (.long ah)])
  refine hs.go (fun _ kk_ => XS.ladd X0.here hx rfl (hb hby at_37) rfl kk_) ?_
  show G s₁ (mkF m 38 #[.val (.long a), .second, .val (.long b), .second, .val (.long ah), .second, .val (.long al), .second, .val (.long bh), .second, .val (.long bl), .second, .val (.long lo), .second, .unset, .unset, .unset, .unset, .unset, .unset, .unset] [(.long (ah + bh))])
  refine hs.go (fun _ kk_ => XS.lload X0.here hx rfl (hb hby at_38) rfl  kk_) ?_
  show G s₁ (mkF m 40 #[.val (.long a), .second, .val (.long b), .second, .val (.long ah), .second, .val (.long al), .second, .val (.long bh), .second, .val (.long bl), .second, .val (.long lo), .second, .unset, .unset, .unset, .unset, .unset, .unset, .unset] [(.long lo), (.long (ah + bh))])
  refine hs.go (fun _ kk_ => XS.bipush X0.here hx rfl (hb hby at_40) kk_) ?_
  show G s₁ (mkF m 42 #[.val (.long a), .second, .val (.long b), .second, .val (.long ah), .second, .val (.long al), .second, .val (.long bh), .second, .val (.long bl), .second, .val (.long lo), .second, .unset, .unset, .unset, .unset, .unset, .unset, .unset] [(.int (32 : Int32)), (.long lo), (.long (ah + bh))])
  refine hs.go (fun _ kk_ => XS.lushr X0.here hx rfl (hb hby at_42) rfl kk_) ?_
  show G s₁ (mkF m 43 #[.val (.long a), .second, .val (.long b), .second, .val (.long ah), .second, .val (.long al), .second, .val (.long bh), .second, .val (.long bl), .second, .val (.long lo), .second, .unset, .unset, .unset, .unset, .unset, .unset, .unset] [(.long ((lo.toUInt64 >>> ((32 : Int32) &&& 0x3f).toInt64.toUInt64).toInt64)), (.long (ah + bh))])
  refine hs.go (fun _ kk_ => XS.ladd X0.here hx rfl (hb hby at_43) rfl kk_) ?_
  show G s₁ (mkF m 44 #[.val (.long a), .second, .val (.long b), .second, .val (.long ah), .second, .val (.long al), .second, .val (.long bh), .second, .val (.long bl), .second, .val (.long lo), .second, .unset, .unset, .unset, .unset, .unset, .unset, .unset] [(.long ((ah + bh) + ((lo.toUInt64 >>> ((32 : Int32) &&& 0x3f).toInt64.toUInt64).toInt64)))])
  refine nameIt (P := fun zz_ : Int64 => G s₁ (mkF m 44 #[.val (.long a), .second, .val (.long b), .second, .val (.long ah), .second, .val (.long al), .second, .val (.long bh), .second, .val (.long bl), .second, .val (.long lo), .second, .unset, .unset, .unset, .unset, .unset, .unset, .unset] [(.long zz_)])) ((ah + bh) + ((lo.toUInt64 >>> ((32 : Int32) &&& 0x3f).toInt64.toUInt64).toInt64)) (fun hi hhi => ?_)
  show G s₁ (mkF m 44 #[.val (.long a), .second, .val (.long b), .second, .val (.long ah), .second, .val (.long al), .second, .val (.long bh), .second, .val (.long bl), .second, .val (.long lo), .second, .unset, .unset, .unset, .unset, .unset, .unset, .unset] [(.long hi)])
  refine hs.go (fun _ kk_ => XS.lstore X0.here hx rfl (hb hby at_44) rfl (l' := #[.val (.long a), .second, .val (.long b), .second, .val (.long ah), .second, .val (.long al), .second, .val (.long bh), .second, .val (.long bl), .second, .val (.long lo), .second, .val (.long hi), .second, .unset, .unset, .unset, .unset, .unset]) rfl kk_) ?_
  show G s₁ (mkF m 46 #[.val (.long a), .second, .val (.long b), .second, .val (.long ah), .second, .val (.long al), .second, .val (.long bh), .second, .val (.long bl), .second, .val (.long lo), .second, .val (.long hi), .second, .unset, .unset, .unset, .unset, .unset] [])
  have J69 : ∀ (z : Int32), ((hi < (-2147483648 : Int64) ∧ z = (0 : Int32)) ∨ (¬ (hi < (-2147483648 : Int64)) ∧ (2147483647 : Int64) < hi ∧ z = (0 : Int32)) ∨ (¬ (hi < (-2147483648 : Int64)) ∧ ¬ ((2147483647 : Int64) < hi) ∧ z = (1 : Int32))) → G s₁ (mkF m 69 #[.val (.long a), .second, .val (.long b), .second, .val (.long ah), .second, .val (.long al), .second, .val (.long bh), .second, .val (.long bl), .second, .val (.long lo), .second, .val (.long hi), .second, .unset, .unset, .unset, .unset, .unset] [(.int z)]) := by
    intro z hJ69
    show G s₁ (mkF m 69 #[.val (.long a), .second, .val (.long b), .second, .val (.long ah), .second, .val (.long al), .second, .val (.long bh), .second, .val (.long bl), .second, .val (.long lo), .second, .val (.long hi), .second, .unset, .unset, .unset, .unset, .unset] [(.int z)])
    refine hs.go (fun _ kk_ => XS.istore X0.here hx rfl (hb hby at_69) rfl (l' := #[.val (.long a), .second, .val (.long b), .second, .val (.long ah), .second, .val (.long al), .second, .val (.long bh), .second, .val (.long bl), .second, .val (.long lo), .second, .val (.long hi), .second, .val (.int z), .unset, .unset, .unset, .unset]) rfl kk_) ?_
    show G s₁ (mkF m 71 #[.val (.long a), .second, .val (.long b), .second, .val (.long ah), .second, .val (.long al), .second, .val (.long bh), .second, .val (.long bl), .second, .val (.long lo), .second, .val (.long hi), .second, .val (.int z), .unset, .unset, .unset, .unset] [])
    refine hs.go (fun _ kk_ => XS.lload X0.here hx rfl (hb hby at_71) rfl  kk_) ?_
    show G s₁ (mkF m 73 #[.val (.long a), .second, .val (.long b), .second, .val (.long ah), .second, .val (.long al), .second, .val (.long bh), .second, .val (.long bl), .second, .val (.long lo), .second, .val (.long hi), .second, .val (.int z), .unset, .unset, .unset, .unset] [(.long hi)])
    refine hs.go (fun _ kk_ => XS.bipush X0.here hx rfl (hb hby at_73) kk_) ?_
    show G s₁ (mkF m 75 #[.val (.long a), .second, .val (.long b), .second, .val (.long ah), .second, .val (.long al), .second, .val (.long bh), .second, .val (.long bl), .second, .val (.long lo), .second, .val (.long hi), .second, .val (.int z), .unset, .unset, .unset, .unset] [(.int (32 : Int32)), (.long hi)])
    refine hs.go (fun _ kk_ => XS.lshl X0.here hx rfl (hb hby at_75) rfl kk_) ?_
    show G s₁ (mkF m 76 #[.val (.long a), .second, .val (.long b), .second, .val (.long ah), .second, .val (.long al), .second, .val (.long bh), .second, .val (.long bl), .second, .val (.long lo), .second, .val (.long hi), .second, .val (.int z), .unset, .unset, .unset, .unset] [(.long (hi <<< ((32 : Int32) &&& 0x3f).toInt64))])
    refine hs.go (fun _ kk_ => XS.lload X0.here hx rfl (hb hby at_76) rfl  kk_) ?_
    show G s₁ (mkF m 78 #[.val (.long a), .second, .val (.long b), .second, .val (.long ah), .second, .val (.long al), .second, .val (.long bh), .second, .val (.long bl), .second, .val (.long lo), .second, .val (.long hi), .second, .val (.int z), .unset, .unset, .unset, .unset] [(.long lo), (.long (hi <<< ((32 : Int32) &&& 0x3f).toInt64))])
    refine rLdcL hs X0 hx hZ hown (hw _ (List.mem_of_getElem? (i := 0) rfl)) rfl (hb hby at_78) ?_
    show G s₁ (mkF m 81 #[.val (.long a), .second, .val (.long b), .second, .val (.long ah), .second, .val (.long al), .second, .val (.long bh), .second, .val (.long bl), .second, .val (.long lo), .second, .val (.long hi), .second, .val (.int z), .unset, .unset, .unset, .unset] [(.long (4294967295 : Int64)), (.long lo), (.long (hi <<< ((32 : Int32) &&& 0x3f).toInt64))])
    refine hs.go (fun _ kk_ => XS.land X0.here hx rfl (hb hby at_81) rfl kk_) ?_
    show G s₁ (mkF m 82 #[.val (.long a), .second, .val (.long b), .second, .val (.long ah), .second, .val (.long al), .second, .val (.long bh), .second, .val (.long bl), .second, .val (.long lo), .second, .val (.long hi), .second, .val (.int z), .unset, .unset, .unset, .unset] [(.long (lo &&& (4294967295 : Int64))), (.long (hi <<< ((32 : Int32) &&& 0x3f).toInt64))])
    refine hs.go (fun _ kk_ => XS.lor X0.here hx rfl (hb hby at_82) rfl kk_) ?_
    show G s₁ (mkF m 83 #[.val (.long a), .second, .val (.long b), .second, .val (.long ah), .second, .val (.long al), .second, .val (.long bh), .second, .val (.long bl), .second, .val (.long lo), .second, .val (.long hi), .second, .val (.int z), .unset, .unset, .unset, .unset] [(.long ((hi <<< ((32 : Int32) &&& 0x3f).toInt64) ||| (lo &&& (4294967295 : Int64))))])
    refine nameIt (P := fun zz_ : Int64 => G s₁ (mkF m 83 #[.val (.long a), .second, .val (.long b), .second, .val (.long ah), .second, .val (.long al), .second, .val (.long bh), .second, .val (.long bl), .second, .val (.long lo), .second, .val (.long hi), .second, .val (.int z), .unset, .unset, .unset, .unset] [(.long zz_)])) ((hi <<< ((32 : Int32) &&& 0x3f).toInt64) ||| (lo &&& (4294967295 : Int64))) (fun xc hxc => ?_)
    show G s₁ (mkF m 83 #[.val (.long a), .second, .val (.long b), .second, .val (.long ah), .second, .val (.long al), .second, .val (.long bh), .second, .val (.long bl), .second, .val (.long lo), .second, .val (.long hi), .second, .val (.int z), .unset, .unset, .unset, .unset] [(.long xc)])
    refine hs.go (fun _ kk_ => XS.lstore X0.here hx rfl (hb hby at_83) rfl (l' := #[.val (.long a), .second, .val (.long b), .second, .val (.long ah), .second, .val (.long al), .second, .val (.long bh), .second, .val (.long bl), .second, .val (.long lo), .second, .val (.long hi), .second, .val (.int z), .val (.long xc), .second, .unset, .unset]) rfl kk_) ?_
    show G s₁ (mkF m 85 #[.val (.long a), .second, .val (.long b), .second, .val (.long ah), .second, .val (.long al), .second, .val (.long bh), .second, .val (.long bl), .second, .val (.long lo), .second, .val (.long hi), .second, .val (.int z), .val (.long xc), .second, .unset, .unset] [])
    have J118 : ∀ (j : Int64), ((a = (-9223372036854775808 : Int64) ∧ j = (-9223372036854775808 : Int64)) ∨ (¬ (a = (-9223372036854775808 : Int64)) ∧ b = (-9223372036854775808 : Int64) ∧ j = (-9223372036854775808 : Int64)) ∨ (¬ (a = (-9223372036854775808 : Int64)) ∧ ¬ (b = (-9223372036854775808 : Int64)) ∧ z = (0 : Int32) ∧ j = (-9223372036854775808 : Int64)) ∨ (¬ (a = (-9223372036854775808 : Int64)) ∧ ¬ (b = (-9223372036854775808 : Int64)) ∧ ¬ (z = (0 : Int32)) ∧ j = xc)) → G s₁ (mkF m 118 #[.val (.long a), .second, .val (.long b), .second, .val (.long ah), .second, .val (.long al), .second, .val (.long bh), .second, .val (.long bl), .second, .val (.long lo), .second, .val (.long hi), .second, .val (.int z), .val (.long xc), .second, .val (.long j), .second] []) := by
      intro j hJ118
      show G s₁ (mkF m 118 #[.val (.long a), .second, .val (.long b), .second, .val (.long ah), .second, .val (.long al), .second, .val (.long bh), .second, .val (.long bl), .second, .val (.long lo), .second, .val (.long hi), .second, .val (.int z), .val (.long xc), .second, .val (.long j), .second] [])
      refine hs.go (fun _ kk_ => XS.lloadN X0.here hx rfl (hb hby at_118) rfl  kk_) ?_
      show G s₁ (mkF m 119 #[.val (.long a), .second, .val (.long b), .second, .val (.long ah), .second, .val (.long al), .second, .val (.long bh), .second, .val (.long bl), .second, .val (.long lo), .second, .val (.long hi), .second, .val (.int z), .val (.long xc), .second, .val (.long j), .second] [(.long a)])
      refine hs.go (fun _ kk_ => XS.lloadN X0.here hx rfl (hb hby at_119) rfl  kk_) ?_
      show G s₁ (mkF m 120 #[.val (.long a), .second, .val (.long b), .second, .val (.long ah), .second, .val (.long al), .second, .val (.long bh), .second, .val (.long bl), .second, .val (.long lo), .second, .val (.long hi), .second, .val (.int z), .val (.long xc), .second, .val (.long j), .second] [(.long b), (.long a)])
      refine rCallS hs X0 hx hZ (as' := [(.long a), (.long b)]) (rm1 l Z a0 hw [] a b h0 n0 Z0) hown (hw _ (List.mem_of_getElem? (i := 4) rfl)) (hw _ (List.mem_of_getElem? (i := 5) rfl)) (hw _ (List.mem_of_getElem? (i := 6) rfl)) (hw _ (List.mem_of_getElem? (i := 7) rfl)) hy_1 rfl (by rw [hml]; rfl) [] (lenOf pd_0 rfl) rfl 0 (by show 2 * 0 + _ ≤ _; exact Nat.le_of_eq rfl) (hb hby at_120) (by decide) (by decide) (by decide) (by decide) (fun r1 T1 h1 X1 q1 => ?_)
      obtain ⟨rfl, qh1⟩ := q1
      rw [qh1] at X1
      show G T1 (mkF m 123 #[.val (.long a), .second, .val (.long b), .second, .val (.long ah), .second, .val (.long al), .second, .val (.long bh), .second, .val (.long bl), .second, .val (.long lo), .second, .val (.long hi), .second, .val (.int z), .val (.long xc), .second, .val (.long j), .second] [(.long (f1 a b))])
      refine hs.go (fun _ kk_ => XS.lload X1.here hx rfl (hb hby at_123) rfl  kk_) ?_
      show G T1 (mkF m 125 #[.val (.long a), .second, .val (.long b), .second, .val (.long ah), .second, .val (.long al), .second, .val (.long bh), .second, .val (.long bl), .second, .val (.long lo), .second, .val (.long hi), .second, .val (.int z), .val (.long xc), .second, .val (.long j), .second] [(.long j), (.long (f1 a b))])
      refine hs.go (fun _ kk_ => XS.lcmp X1.here hx rfl (hb hby at_125) rfl kk_) ?_
      show G T1 (mkF m 126 #[.val (.long a), .second, .val (.long b), .second, .val (.long ah), .second, .val (.long al), .second, .val (.long bh), .second, .val (.long bl), .second, .val (.long lo), .second, .val (.long hi), .second, .val (.int z), .val (.long xc), .second, .val (.long j), .second] [(.int (lcmpW (f1 a b) j))])
      refine hs.go (fun _ kk_ => XS.ifNo X1.here hx rfl (hb hby at_126) rfl ((if0 _ _).trans (eqL (own_law a b hah hal hbh hbl hlo hhi hJ69 hxc hJ118 : (f1 a b) = j)).2) kk_) ?_
      show G T1 (mkF m 129 #[.val (.long a), .second, .val (.long b), .second, .val (.long ah), .second, .val (.long al), .second, .val (.long bh), .second, .val (.long bl), .second, .val (.long lo), .second, .val (.long hi), .second, .val (.int z), .val (.long xc), .second, .val (.long j), .second] [])
      refine hs.go (fun _ kk_ => XS.iconst X1.here hx rfl (hb hby at_129) kk_) ?_
      show G T1 (mkF m 130 #[.val (.long a), .second, .val (.long b), .second, .val (.long ah), .second, .val (.long al), .second, .val (.long bh), .second, .val (.long bl), .second, .val (.long lo), .second, .val (.long hi), .second, .val (.int z), .val (.long xc), .second, .val (.long j), .second] [(.int (1 : Int32))])
      refine hs.go (fun _ kk_ => XS.goto X1.here hx rfl (pc0 := 130) (pc' := 134) rfl (hb hby at_130) (by decide) (by decide) kk_) ?_
      show G T1 (mkF m 134 #[.val (.long a), .second, .val (.long b), .second, .val (.long ah), .second, .val (.long al), .second, .val (.long bh), .second, .val (.long bl), .second, .val (.long lo), .second, .val (.long hi), .second, .val (.int z), .val (.long xc), .second, .val (.long j), .second] [(.int (1 : Int32))])
      exact rRetN fin X1 hx (by decide) (by decide) hret (by simp) (hb hby at_134) (z' := (1 : Int32)) (by decide) rfl
    refine hs.go (fun _ kk_ => XS.lloadN X0.here hx rfl (hb hby at_85) rfl  kk_) ?_
    show G s₁ (mkF m 86 #[.val (.long a), .second, .val (.long b), .second, .val (.long ah), .second, .val (.long al), .second, .val (.long bh), .second, .val (.long bl), .second, .val (.long lo), .second, .val (.long hi), .second, .val (.int z), .val (.long xc), .second, .unset, .unset] [(.long a)])
    refine rLdcL hs X0 hx hZ hown (hw _ (List.mem_of_getElem? (i := 3) rfl)) rfl (hb hby at_86) ?_
    show G s₁ (mkF m 89 #[.val (.long a), .second, .val (.long b), .second, .val (.long ah), .second, .val (.long al), .second, .val (.long bh), .second, .val (.long bl), .second, .val (.long lo), .second, .val (.long hi), .second, .val (.int z), .val (.long xc), .second, .unset, .unset] [(.long (-9223372036854775808 : Int64)), (.long a)])
    refine hs.go (fun _ kk_ => XS.lcmp X0.here hx rfl (hb hby at_89) rfl kk_) ?_
    show G s₁ (mkF m 90 #[.val (.long a), .second, .val (.long b), .second, .val (.long ah), .second, .val (.long al), .second, .val (.long bh), .second, .val (.long bl), .second, .val (.long lo), .second, .val (.long hi), .second, .val (.int z), .val (.long xc), .second, .unset, .unset] [(.int (lcmpW a (-9223372036854775808 : Int64)))])
    by_cases c90 : a = (-9223372036854775808 : Int64)
    · refine hs.go (fun _ kk_ => XS.ifYes X0.here hx rfl (pc0 := 90) (pc' := 106) rfl (hb hby at_90) rfl ((if0 _ _).trans (eqL c90).1) (by decide) (by decide) kk_) ?_
      show G s₁ (mkF m 106 #[.val (.long a), .second, .val (.long b), .second, .val (.long ah), .second, .val (.long al), .second, .val (.long bh), .second, .val (.long bl), .second, .val (.long lo), .second, .val (.long hi), .second, .val (.int z), .val (.long xc), .second, .unset, .unset] [])
      refine rLdcL hs X0 hx hZ hown (hw _ (List.mem_of_getElem? (i := 3) rfl)) rfl (hb hby at_106) ?_
      show G s₁ (mkF m 109 #[.val (.long a), .second, .val (.long b), .second, .val (.long ah), .second, .val (.long al), .second, .val (.long bh), .second, .val (.long bl), .second, .val (.long lo), .second, .val (.long hi), .second, .val (.int z), .val (.long xc), .second, .unset, .unset] [(.long (-9223372036854775808 : Int64))])
      refine hs.go (fun _ kk_ => XS.lstore X0.here hx rfl (hb hby at_109) rfl (l' := #[.val (.long a), .second, .val (.long b), .second, .val (.long ah), .second, .val (.long al), .second, .val (.long bh), .second, .val (.long bl), .second, .val (.long lo), .second, .val (.long hi), .second, .val (.int z), .val (.long xc), .second, .val (.long (-9223372036854775808 : Int64)), .second]) rfl kk_) ?_
      show G s₁ (mkF m 111 #[.val (.long a), .second, .val (.long b), .second, .val (.long ah), .second, .val (.long al), .second, .val (.long bh), .second, .val (.long bl), .second, .val (.long lo), .second, .val (.long hi), .second, .val (.int z), .val (.long xc), .second, .val (.long (-9223372036854775808 : Int64)), .second] [])
      refine hs.go (fun _ kk_ => XS.goto X0.here hx rfl (pc0 := 111) (pc' := 118) rfl (hb hby at_111) (by decide) (by decide) kk_) ?_
      show G s₁ (mkF m 118 #[.val (.long a), .second, .val (.long b), .second, .val (.long ah), .second, .val (.long al), .second, .val (.long bh), .second, .val (.long bl), .second, .val (.long lo), .second, .val (.long hi), .second, .val (.int z), .val (.long xc), .second, .val (.long (-9223372036854775808 : Int64)), .second] [])
      exact J118 _ (Or.inl (⟨c90, rfl⟩))
    · refine hs.go (fun _ kk_ => XS.ifNo X0.here hx rfl (hb hby at_90) rfl ((if0 _ _).trans (neqL c90).1) kk_) ?_
      show G s₁ (mkF m 93 #[.val (.long a), .second, .val (.long b), .second, .val (.long ah), .second, .val (.long al), .second, .val (.long bh), .second, .val (.long bl), .second, .val (.long lo), .second, .val (.long hi), .second, .val (.int z), .val (.long xc), .second, .unset, .unset] [])
      refine hs.go (fun _ kk_ => XS.lloadN X0.here hx rfl (hb hby at_93) rfl  kk_) ?_
      show G s₁ (mkF m 94 #[.val (.long a), .second, .val (.long b), .second, .val (.long ah), .second, .val (.long al), .second, .val (.long bh), .second, .val (.long bl), .second, .val (.long lo), .second, .val (.long hi), .second, .val (.int z), .val (.long xc), .second, .unset, .unset] [(.long b)])
      refine rLdcL hs X0 hx hZ hown (hw _ (List.mem_of_getElem? (i := 3) rfl)) rfl (hb hby at_94) ?_
      show G s₁ (mkF m 97 #[.val (.long a), .second, .val (.long b), .second, .val (.long ah), .second, .val (.long al), .second, .val (.long bh), .second, .val (.long bl), .second, .val (.long lo), .second, .val (.long hi), .second, .val (.int z), .val (.long xc), .second, .unset, .unset] [(.long (-9223372036854775808 : Int64)), (.long b)])
      refine hs.go (fun _ kk_ => XS.lcmp X0.here hx rfl (hb hby at_97) rfl kk_) ?_
      show G s₁ (mkF m 98 #[.val (.long a), .second, .val (.long b), .second, .val (.long ah), .second, .val (.long al), .second, .val (.long bh), .second, .val (.long bl), .second, .val (.long lo), .second, .val (.long hi), .second, .val (.int z), .val (.long xc), .second, .unset, .unset] [(.int (lcmpW b (-9223372036854775808 : Int64)))])
      by_cases c98 : b = (-9223372036854775808 : Int64)
      · refine hs.go (fun _ kk_ => XS.ifYes X0.here hx rfl (pc0 := 98) (pc' := 106) rfl (hb hby at_98) rfl ((if0 _ _).trans (eqL c98).1) (by decide) (by decide) kk_) ?_
        show G s₁ (mkF m 106 #[.val (.long a), .second, .val (.long b), .second, .val (.long ah), .second, .val (.long al), .second, .val (.long bh), .second, .val (.long bl), .second, .val (.long lo), .second, .val (.long hi), .second, .val (.int z), .val (.long xc), .second, .unset, .unset] [])
        refine rLdcL hs X0 hx hZ hown (hw _ (List.mem_of_getElem? (i := 3) rfl)) rfl (hb hby at_106) ?_
        show G s₁ (mkF m 109 #[.val (.long a), .second, .val (.long b), .second, .val (.long ah), .second, .val (.long al), .second, .val (.long bh), .second, .val (.long bl), .second, .val (.long lo), .second, .val (.long hi), .second, .val (.int z), .val (.long xc), .second, .unset, .unset] [(.long (-9223372036854775808 : Int64))])
        refine hs.go (fun _ kk_ => XS.lstore X0.here hx rfl (hb hby at_109) rfl (l' := #[.val (.long a), .second, .val (.long b), .second, .val (.long ah), .second, .val (.long al), .second, .val (.long bh), .second, .val (.long bl), .second, .val (.long lo), .second, .val (.long hi), .second, .val (.int z), .val (.long xc), .second, .val (.long (-9223372036854775808 : Int64)), .second]) rfl kk_) ?_
        show G s₁ (mkF m 111 #[.val (.long a), .second, .val (.long b), .second, .val (.long ah), .second, .val (.long al), .second, .val (.long bh), .second, .val (.long bl), .second, .val (.long lo), .second, .val (.long hi), .second, .val (.int z), .val (.long xc), .second, .val (.long (-9223372036854775808 : Int64)), .second] [])
        refine hs.go (fun _ kk_ => XS.goto X0.here hx rfl (pc0 := 111) (pc' := 118) rfl (hb hby at_111) (by decide) (by decide) kk_) ?_
        show G s₁ (mkF m 118 #[.val (.long a), .second, .val (.long b), .second, .val (.long ah), .second, .val (.long al), .second, .val (.long bh), .second, .val (.long bl), .second, .val (.long lo), .second, .val (.long hi), .second, .val (.int z), .val (.long xc), .second, .val (.long (-9223372036854775808 : Int64)), .second] [])
        exact J118 _ (Or.inr (Or.inl (⟨c90, c98, rfl⟩)))
      · refine hs.go (fun _ kk_ => XS.ifNo X0.here hx rfl (hb hby at_98) rfl ((if0 _ _).trans (neqL c98).1) kk_) ?_
        show G s₁ (mkF m 101 #[.val (.long a), .second, .val (.long b), .second, .val (.long ah), .second, .val (.long al), .second, .val (.long bh), .second, .val (.long bl), .second, .val (.long lo), .second, .val (.long hi), .second, .val (.int z), .val (.long xc), .second, .unset, .unset] [])
        refine hs.go (fun _ kk_ => XS.iload X0.here hx rfl (hb hby at_101) rfl  kk_) ?_
        show G s₁ (mkF m 103 #[.val (.long a), .second, .val (.long b), .second, .val (.long ah), .second, .val (.long al), .second, .val (.long bh), .second, .val (.long bl), .second, .val (.long lo), .second, .val (.long hi), .second, .val (.int z), .val (.long xc), .second, .unset, .unset] [(.int z)])
        by_cases c103 : z = (0 : Int32)
        · refine hs.go (fun _ kk_ => XS.ifNo X0.here hx rfl (hb hby at_103) rfl ((if0 _ _).trans (teq c103).2) kk_) ?_
          show G s₁ (mkF m 106 #[.val (.long a), .second, .val (.long b), .second, .val (.long ah), .second, .val (.long al), .second, .val (.long bh), .second, .val (.long bl), .second, .val (.long lo), .second, .val (.long hi), .second, .val (.int z), .val (.long xc), .second, .unset, .unset] [])
          refine rLdcL hs X0 hx hZ hown (hw _ (List.mem_of_getElem? (i := 3) rfl)) rfl (hb hby at_106) ?_
          show G s₁ (mkF m 109 #[.val (.long a), .second, .val (.long b), .second, .val (.long ah), .second, .val (.long al), .second, .val (.long bh), .second, .val (.long bl), .second, .val (.long lo), .second, .val (.long hi), .second, .val (.int z), .val (.long xc), .second, .unset, .unset] [(.long (-9223372036854775808 : Int64))])
          refine hs.go (fun _ kk_ => XS.lstore X0.here hx rfl (hb hby at_109) rfl (l' := #[.val (.long a), .second, .val (.long b), .second, .val (.long ah), .second, .val (.long al), .second, .val (.long bh), .second, .val (.long bl), .second, .val (.long lo), .second, .val (.long hi), .second, .val (.int z), .val (.long xc), .second, .val (.long (-9223372036854775808 : Int64)), .second]) rfl kk_) ?_
          show G s₁ (mkF m 111 #[.val (.long a), .second, .val (.long b), .second, .val (.long ah), .second, .val (.long al), .second, .val (.long bh), .second, .val (.long bl), .second, .val (.long lo), .second, .val (.long hi), .second, .val (.int z), .val (.long xc), .second, .val (.long (-9223372036854775808 : Int64)), .second] [])
          refine hs.go (fun _ kk_ => XS.goto X0.here hx rfl (pc0 := 111) (pc' := 118) rfl (hb hby at_111) (by decide) (by decide) kk_) ?_
          show G s₁ (mkF m 118 #[.val (.long a), .second, .val (.long b), .second, .val (.long ah), .second, .val (.long al), .second, .val (.long bh), .second, .val (.long bl), .second, .val (.long lo), .second, .val (.long hi), .second, .val (.int z), .val (.long xc), .second, .val (.long (-9223372036854775808 : Int64)), .second] [])
          exact J118 _ (Or.inr (Or.inr (Or.inl (⟨c90, c98, c103, rfl⟩))))
        · refine hs.go (fun _ kk_ => XS.ifYes X0.here hx rfl (pc0 := 103) (pc' := 114) rfl (hb hby at_103) rfl ((if0 _ _).trans (feq c103).2) (by decide) (by decide) kk_) ?_
          show G s₁ (mkF m 114 #[.val (.long a), .second, .val (.long b), .second, .val (.long ah), .second, .val (.long al), .second, .val (.long bh), .second, .val (.long bl), .second, .val (.long lo), .second, .val (.long hi), .second, .val (.int z), .val (.long xc), .second, .unset, .unset] [])
          refine hs.go (fun _ kk_ => XS.lload X0.here hx rfl (hb hby at_114) rfl  kk_) ?_
          show G s₁ (mkF m 116 #[.val (.long a), .second, .val (.long b), .second, .val (.long ah), .second, .val (.long al), .second, .val (.long bh), .second, .val (.long bl), .second, .val (.long lo), .second, .val (.long hi), .second, .val (.int z), .val (.long xc), .second, .unset, .unset] [(.long xc)])
          refine hs.go (fun _ kk_ => XS.lstore X0.here hx rfl (hb hby at_116) rfl (l' := #[.val (.long a), .second, .val (.long b), .second, .val (.long ah), .second, .val (.long al), .second, .val (.long bh), .second, .val (.long bl), .second, .val (.long lo), .second, .val (.long hi), .second, .val (.int z), .val (.long xc), .second, .val (.long xc), .second]) rfl kk_) ?_
          show G s₁ (mkF m 118 #[.val (.long a), .second, .val (.long b), .second, .val (.long ah), .second, .val (.long al), .second, .val (.long bh), .second, .val (.long bl), .second, .val (.long lo), .second, .val (.long hi), .second, .val (.int z), .val (.long xc), .second, .val (.long xc), .second] [])
          exact J118 _ (Or.inr (Or.inr (Or.inr (⟨c90, c98, c103, rfl⟩))))
  refine hs.go (fun _ kk_ => XS.lload X0.here hx rfl (hb hby at_46) rfl  kk_) ?_
  show G s₁ (mkF m 48 #[.val (.long a), .second, .val (.long b), .second, .val (.long ah), .second, .val (.long al), .second, .val (.long bh), .second, .val (.long bl), .second, .val (.long lo), .second, .val (.long hi), .second, .unset, .unset, .unset, .unset, .unset] [(.long hi)])
  refine rLdcL hs X0 hx hZ hown (hw _ (List.mem_of_getElem? (i := 1) rfl)) rfl (hb hby at_48) ?_
  show G s₁ (mkF m 51 #[.val (.long a), .second, .val (.long b), .second, .val (.long ah), .second, .val (.long al), .second, .val (.long bh), .second, .val (.long bl), .second, .val (.long lo), .second, .val (.long hi), .second, .unset, .unset, .unset, .unset, .unset] [(.long (-2147483648 : Int64)), (.long hi)])
  refine hs.go (fun _ kk_ => XS.lcmp X0.here hx rfl (hb hby at_51) rfl kk_) ?_
  show G s₁ (mkF m 52 #[.val (.long a), .second, .val (.long b), .second, .val (.long ah), .second, .val (.long al), .second, .val (.long bh), .second, .val (.long bl), .second, .val (.long lo), .second, .val (.long hi), .second, .unset, .unset, .unset, .unset, .unset] [(.int (lcmpW hi (-2147483648 : Int64)))])
  by_cases c52 : hi < (-2147483648 : Int64)
  · refine hs.go (fun _ kk_ => XS.ifYes X0.here hx rfl (pc0 := 52) (pc' := 68) rfl (hb hby at_52) rfl ((if0 _ _).trans (ltL c52).1) (by decide) (by decide) kk_) ?_
    show G s₁ (mkF m 68 #[.val (.long a), .second, .val (.long b), .second, .val (.long ah), .second, .val (.long al), .second, .val (.long bh), .second, .val (.long bl), .second, .val (.long lo), .second, .val (.long hi), .second, .unset, .unset, .unset, .unset, .unset] [])
    refine hs.go (fun _ kk_ => XS.iconst X0.here hx rfl (hb hby at_68) kk_) ?_
    show G s₁ (mkF m 69 #[.val (.long a), .second, .val (.long b), .second, .val (.long ah), .second, .val (.long al), .second, .val (.long bh), .second, .val (.long bl), .second, .val (.long lo), .second, .val (.long hi), .second, .unset, .unset, .unset, .unset, .unset] [(.int (0 : Int32))])
    exact J69 _ (Or.inl (⟨c52, rfl⟩))
  · refine hs.go (fun _ kk_ => XS.ifNo X0.here hx rfl (hb hby at_52) rfl ((if0 _ _).trans (nltL c52).1) kk_) ?_
    show G s₁ (mkF m 55 #[.val (.long a), .second, .val (.long b), .second, .val (.long ah), .second, .val (.long al), .second, .val (.long bh), .second, .val (.long bl), .second, .val (.long lo), .second, .val (.long hi), .second, .unset, .unset, .unset, .unset, .unset] [])
    refine hs.go (fun _ kk_ => XS.lload X0.here hx rfl (hb hby at_55) rfl  kk_) ?_
    show G s₁ (mkF m 57 #[.val (.long a), .second, .val (.long b), .second, .val (.long ah), .second, .val (.long al), .second, .val (.long bh), .second, .val (.long bl), .second, .val (.long lo), .second, .val (.long hi), .second, .unset, .unset, .unset, .unset, .unset] [(.long hi)])
    refine rLdcL hs X0 hx hZ hown (hw _ (List.mem_of_getElem? (i := 2) rfl)) rfl (hb hby at_57) ?_
    show G s₁ (mkF m 60 #[.val (.long a), .second, .val (.long b), .second, .val (.long ah), .second, .val (.long al), .second, .val (.long bh), .second, .val (.long bl), .second, .val (.long lo), .second, .val (.long hi), .second, .unset, .unset, .unset, .unset, .unset] [(.long (2147483647 : Int64)), (.long hi)])
    refine hs.go (fun _ kk_ => XS.lcmp X0.here hx rfl (hb hby at_60) rfl kk_) ?_
    show G s₁ (mkF m 61 #[.val (.long a), .second, .val (.long b), .second, .val (.long ah), .second, .val (.long al), .second, .val (.long bh), .second, .val (.long bl), .second, .val (.long lo), .second, .val (.long hi), .second, .unset, .unset, .unset, .unset, .unset] [(.int (lcmpW hi (2147483647 : Int64)))])
    by_cases c61 : (2147483647 : Int64) < hi
    · refine hs.go (fun _ kk_ => XS.ifYes X0.here hx rfl (pc0 := 61) (pc' := 68) rfl (hb hby at_61) rfl ((if0 _ _).trans (gtL c61).1) (by decide) (by decide) kk_) ?_
      show G s₁ (mkF m 68 #[.val (.long a), .second, .val (.long b), .second, .val (.long ah), .second, .val (.long al), .second, .val (.long bh), .second, .val (.long bl), .second, .val (.long lo), .second, .val (.long hi), .second, .unset, .unset, .unset, .unset, .unset] [])
      refine hs.go (fun _ kk_ => XS.iconst X0.here hx rfl (hb hby at_68) kk_) ?_
      show G s₁ (mkF m 69 #[.val (.long a), .second, .val (.long b), .second, .val (.long ah), .second, .val (.long al), .second, .val (.long bh), .second, .val (.long bl), .second, .val (.long lo), .second, .val (.long hi), .second, .unset, .unset, .unset, .unset, .unset] [(.int (0 : Int32))])
      exact J69 _ (Or.inr (Or.inl (⟨c52, c61, rfl⟩)))
    · refine hs.go (fun _ kk_ => XS.ifNo X0.here hx rfl (hb hby at_61) rfl ((if0 _ _).trans (ngtL c61).1) kk_) ?_
      show G s₁ (mkF m 64 #[.val (.long a), .second, .val (.long b), .second, .val (.long ah), .second, .val (.long al), .second, .val (.long bh), .second, .val (.long bl), .second, .val (.long lo), .second, .val (.long hi), .second, .unset, .unset, .unset, .unset, .unset] [])
      refine hs.go (fun _ kk_ => XS.iconst X0.here hx rfl (hb hby at_64) kk_) ?_
      show G s₁ (mkF m 65 #[.val (.long a), .second, .val (.long b), .second, .val (.long ah), .second, .val (.long al), .second, .val (.long bh), .second, .val (.long bl), .second, .val (.long lo), .second, .val (.long hi), .second, .unset, .unset, .unset, .unset, .unset] [(.int (1 : Int32))])
      refine hs.go (fun _ kk_ => XS.goto X0.here hx rfl (pc0 := 65) (pc' := 69) rfl (hb hby at_65) (by decide) (by decide) kk_) ?_
      show G s₁ (mkF m 69 #[.val (.long a), .second, .val (.long b), .second, .val (.long ah), .second, .val (.long al), .second, .val (.long bh), .second, .val (.long bl), .second, .val (.long lo), .second, .val (.long hi), .second, .unset, .unset, .unset, .unset, .unset] [(.int (1 : Int32))])
      exact J69 _ (Or.inr (Or.inr (⟨c52, c61, rfl⟩)))
set_option maxRecDepth 65536 in
set_option maxHeartbeats 40000000 in
theorem comes_1 {Post : Tables → Env → Array Value → State → Outcome → State → Prop} (hpost : ∀ tb e args s v u, (limb_1_1.after args s (.returned v) u = true ∧ limb_1_2.after args s (.returned v) u = true ∧ True) → FrameEnd s (.returned v) u (Jvm.fieldLocs frame_1_writes args s ++ Jvm.arrayLocs frame_1_arrays args s ++ Jvm.staticLocs frame_1_statics s) 0 0 → Post tb e args s (.returned v) u) :
    ArmFor flags0 classFile x code maxLocals ret World_1 tables_1 room_1 Calls_1 rest_1 Pre_1 Post := by
  intro l hfl _ _ p e ha hc hk s m args below hf hA hF happ hP
  obtain ⟨hcalls, hrest, hpre⟩ := hP
  obtain ⟨-, -, -, hnamed, -, -, -, hat⟩ := (Spec.applies_iff hf).mp happ
  obtain ⟨hg, hn⟩ := and_e (Cond.before_iff.mp (show (Jvm.Cond.and given_1 narrow_1).before args s = true from hpre))
  obtain ⟨hcnt, hg0⟩ := and_e hg
  obtain ⟨t0, hg1⟩ := and_e hg0
  have t1 := hg1
  obtain ⟨w0, w1, rfl⟩ : ∃ w0 w1 : Value, args = #[w0, w1] := by
    have hs : args.size = 2 := by simpa [Cond.value, given_1] using hcnt
    obtain ⟨L⟩ := args
    match L, hs with
    | [w0, w1], _ => exact ⟨w0, w1, rfl⟩
  have hw := fun d (hd : d ∈ tables_1) => atoms_spec (ws := Jvm.Cond.code x code maxLocals ret :: tables_1) hat d (List.mem_cons_of_mem _ hd)
  have hfit : Fit s := fun {y c} hc i hi => by
    obtain ⟨ha, rfl⟩ := Array.getElem?_eq_some_iff.mp hc
    have q := List.all_eq_true.mp ((Array.all_eq_true_iff_forall_mem.mp hF) _ (Array.getElem_mem ha)) i (List.mem_range.mpr hi)
    simpa [Array.getElem?_eq_getElem hi] using q
  obtain ⟨i0, ei0⟩ := isL_v t0
  obtain rfl : w0 = (.long i0) := Option.some.inj ei0
  obtain ⟨i1, ei1⟩ := isL_v t1
  obtain rfl : w1 = (.long i1) := Option.some.inj ei1
  obtain ⟨n, o, h1, h2, h3, _, L, rfl, ⟨rfl, N⟩, hq⟩ := rm0 l s _ hw tables_1 i0 i1  s.heap s.heap.size (Nat.le_refl _)  p e ha hc hk s m _ below hf ((Spec.applies_iff_loose hf).mp happ).1 ⟨rfl, State.Warmed39.refl s, rfl⟩ trivial
  refine ⟨n, _, h1, h2, h3, hpost _ _ _ _ _ _ ⟨Cond.after_iff.mpr rfl, Cond.after_iff.mpr (eq_i res_at (Term.int_eval (1)) rfl), trivial⟩ ⟨hq.1, hq.2.1, (hq.2.2.sift fun y hy => Or.inr (N y hy)).mono (by decide) (by decide)⟩⟩
theorem main_1_1 : Claimed_1_1 := comes_1 fun _ _ _ _ _ _ h hF => ⟨h.1, hF⟩
theorem main_1_2 : Claimed_1_2 := comes_1 fun _ _ _ _ _ _ h hF => ⟨h.2.1, hF⟩
end Jvm.Pilot.@@N@@
namespace Jvm.Pilot.@@N@@
open Jvm Jvm.ClassFile Sem Op Lib Jvm.Free Jvm.Stand Jvm.Pilot.@@N@@.Jvm.D
/-! MADE BY PROGRAM (witnessworld.py) out of the Statement's table words and the real class files: 9 classes; the members and pool entries that the words name. The judged class is class 1, her method 1. -/
namespace start1
open Jvm.ClassFile
def u (s : String) : CpInfo := .utf8 (stringToUtf16 s)
/-- a pool by its gaps: so many unusable entries, then the entry; so many at the end -/
def gap : Nat → List CpInfo → List CpInfo
  | 0, r => r
  | n + 1, r => .unusable :: gap n r
def poolList (es : List (Nat × CpInfo)) (last : Nat) : List CpInfo := es.foldr (fun e r => gap e.1 (e.2 :: r)) (gap last [])
def pool (es : List (Nat × CpInfo)) (last : Nat) : Array CpInfo := ⟨poolList es last⟩
def fileOf (pool : Array CpInfo) (this : Nat) (attrs : Array Attribute := #[]) (ms : Array MethodInfo := #[]) (fl : Nat := 33) (sup : Nat := 0) (ifs : Array Nat := #[]) (fds : Array FieldInfo := #[]) : ClassFile where
  minorVersion := 0
  majorVersion := 65
  constantPool := pool
  accessFlags := fl
  thisClass := this
  superClass := sup
  interfaces := ifs
  fields := fds
  methods := ms
  attributes := attrs
def plain (name : String) (sup : Option ClassId) : Class where
  name := name
  kind := .ordinary
  loader := none
  accessFlags := 33
  super := sup
  interfaces := #[]
  cf := none
  fields := #[]
  methods := #[]
  instanceTypes := #[]
  staticTypes := #[]
  resolved := #[]
  callSites := []
  init := .initialized
  statics := none
  mirror := none

def pool0 : Array CpInfo := pool [(5, u "<init>"), (0, u "()V"), (1, .class_ 10), (1, u "java/lang/Object")] 113

def k0m0 : Method := { name := "<init>", desc := "()V", sig := { parameters := [], returnType := none }, accessFlags := 1, code := none }
/-- java/lang/Object -/
def k0 : Class := { plain "java/lang/Object" none with
  accessFlags := 33
  interfaces := #[]
  cf := some (fileOf pool0 8 #[] #[{ accessFlags := 1, nameIndex := 5, descriptorIndex := 6, attributes := #[] }] 33 0 #[] #[])
  fields := #[]
  methods := #[k0m0]
  instanceTypes := #[]
  staticTypes := #[]
  resolved := Array.replicate 124 none
  statics := none }

def pool1 : Array CpInfo := pool [(2, .class_ 4), (1, u "java/lang/Object"), (0, u "<init>"), (0, u "()V"), (0, .long 4294967295), (3, .long 18446744071562067968), (1, .long 2147483647), (3, .long 9223372036854775808), (1, .methodref 20 21), (0, .class_ 22), (0, .nameAndType 23 24), (0, u "com/example/farthing/farthing/model/Compact"), (0, u "add"), (0, u "(JJ)J"), (0, .class_ 26), (0, u "com/example/farthing/farthing/model/CompactAddPinLaw"), (2, u "law"), (0, u "(JJ)Z")] 3

def k1m0 : Method := { name := "<init>", desc := "()V", sig := { parameters := [], returnType := none }, accessFlags := 2, code := none }
def k1c1 : Code := { maxStack := 6, maxLocals := 21, code := code, exceptionTable := #[], attributes := #[] }
def k1m1 : Method := { name := "law", desc := "(JJ)Z", sig := { parameters := [.long, .long], returnType := some .boolean }, accessFlags := 9, code := some k1c1 }
/-- com/example/farthing/farthing/model/CompactAddPinLaw -/
def k1 : Class := { plain "com/example/farthing/farthing/model/CompactAddPinLaw" (some 0) with
  accessFlags := 49
  interfaces := #[]
  cf := some (fileOf pool1 25 #[] #[{ accessFlags := 2, nameIndex := 5, descriptorIndex := 6, attributes := #[] }, { accessFlags := 9, nameIndex := 29, descriptorIndex := 30, attributes := #[] }] 49 2 #[] #[])
  fields := #[]
  methods := #[k1m0, k1m1]
  instanceTypes := #[]
  staticTypes := #[]
  resolved := Array.replicate 34 none
  statics := none }

def pool2 : Array CpInfo := pool [(4, .class_ 6), (1, u "java/lang/Object"), (0, u "<init>"), (0, u "()V"), (7, .class_ 18), (1, u "com/example/farthing/farthing/model/Compact"), (0, u "POWERS_OF_TEN"), (0, u "[J"), (21, .long 9223372036854775808), (6, u "(JJ)J"), (20, .class_ 72), (1, u "com/example/farthing/farthing/model/Compact$1"), (25, u "NONE"), (0, u "J"), (6, u "add")] 10

def k2m0 : Method := { name := "<init>", desc := "()V", sig := { parameters := [], returnType := none }, accessFlags := 2, code := none }
def k2c1 : Code := { maxStack := 6, maxLocals := 6, code := prog_9_method_3_code, exceptionTable := #[], attributes := #[] }
def k2m1 : Method := { name := "add", desc := "(JJ)J", sig := { parameters := [.long, .long], returnType := some .long }, accessFlags := 8, code := some k2c1 }
/-- com/example/farthing/farthing/model/Compact -/
def k2 : Class := { plain "com/example/farthing/farthing/model/Compact" (some 0) with
  accessFlags := 48
  interfaces := #[]
  cf := some (fileOf pool2 16 #[.nestMembers #[70]] #[{ accessFlags := 2, nameIndex := 7, descriptorIndex := 8, attributes := #[] }, { accessFlags := 8, nameIndex := 106, descriptorIndex := 49, attributes := #[] }] 48 4 #[] #[{ accessFlags := 24, nameIndex := 98, descriptorIndex := 99, attributes := #[] }, { accessFlags := 26, nameIndex := 19, descriptorIndex := 20, attributes := #[] }])
  fields := #[{ name := "NONE", type := .long, accessFlags := 24, slot := 0, constantValue := 0 }, { name := "POWERS_OF_TEN", type := (.array .long), accessFlags := 26, slot := 1, constantValue := 0 }]
  methods := #[k2m0, k2m1]
  instanceTypes := #[]
  staticTypes := #[.long, (.array .long)]
  resolved := Array.replicate 117 none
  statics := none }

def pool3 : Array CpInfo := pool [(1, u "java/lang/Cloneable"), (0, .class_ 1), (0, u "java/lang/Object"), (0, .class_ 3)] 3

/-- java/lang/Cloneable -/
def k3 : Class := { plain "java/lang/Cloneable" (some 0) with
  accessFlags := 1537
  interfaces := #[]
  cf := some (fileOf pool3 2 #[] #[] 1537 4 #[] #[])
  fields := #[]
  methods := #[]
  instanceTypes := #[]
  staticTypes := #[]
  resolved := Array.replicate 8 none
  statics := none }

def pool4 : Array CpInfo := pool [(1, u "java/io/Serializable"), (0, .class_ 1), (0, u "java/lang/Object"), (0, .class_ 3)] 3

/-- java/io/Serializable -/
def k4 : Class := { plain "java/io/Serializable" (some 0) with
  accessFlags := 1537
  interfaces := #[]
  cf := some (fileOf pool4 2 #[] #[] 1537 4 #[] #[])
  fields := #[]
  methods := #[]
  instanceTypes := #[]
  staticTypes := #[]
  resolved := Array.replicate 8 none
  statics := none }

/-- the primitive byte -/
def k5 : Class := { plain "byte" none with kind := .primitive 'B', accessFlags := 0x411 }
/-- [B -/
def k6 : Class := { plain "[B" (some 0) with kind := .array 5 .byte, interfaces := #[3, 4], accessFlags := 1041 }

/-- the primitive int -/
def k7 : Class := { plain "int" none with kind := .primitive 'I', accessFlags := 0x411 }
/-- [I -/
def k8 : Class := { plain "[I" (some 0) with kind := .array 7 .int, interfaces := #[3, 4], accessFlags := 1041 }

def heap : Heap := #[]
def classes : Array Class := #[k0, k1, k2, k3, k4, k5, k6, k7, k8]
def interned : List (Array UInt16 × Addr) := []
def slotsUsed : Nat := 0
def theMethod : MethodId := ⟨1, 1⟩
def args0 : Array Value := #[.long 7, .long 7]
def aboutOver (below : List Frame) : State where
  vm := { classes := classes, interned := interned.toArray }
  heap := heap
  slotsUsed := slotsUsed
  threads := #[{ frames := .invoking theMethod args0 :: below }]
def below0 : List Frame := [.native { method := ⟨0, 0⟩, args := #[] }]
def about1 : State := aboutOver below0
def p0 : Program := .bare "" "" ""
def e0 : Env := launch0.env 0 0 0
theorem w_frames : about1.frames = Frame.invoking theMethod args0 :: below0 := rfl
set_option maxRecDepth 65536 in
theorem w_args : argsFit about1.vm theMethod args0 = true := by decide +kernel
set_option maxRecDepth 65536 in
theorem w_heap : heapFits about1 = true := by decide +kernel
set_option maxRecDepth 65536 in
theorem w_runnable : about1.curStatus? = some .runnable := by decide +kernel
set_option maxRecDepth 65536 in
theorem w_alone : about1.alone = true := by decide +kernel
set_option maxRecDepth 65536 in
theorem w_named : about1.methodNamed? x = some theMethod := by decide +kernel
set_option maxRecDepth 65536 in
theorem w_hears : about1.hears theMethod below0 = true := by decide +kernel
set_option maxRecDepth 65536 in
theorem w_ripe : about1.ripe theMethod args0 below0 = true := by decide +kernel
theorem w_running : about1.status = .running := rfl
set_option maxRecDepth 65536 in
theorem w_room : about1.hasRoom e0.platform room_1 = true :=
  launch0.hasRoom_least _ room_1 (by decide +kernel) (by decide +kernel) (by decide +kernel) (by decide +kernel) (by decide +kernel) (by decide +kernel)
theorem allAtoms_all (ts : List Jvm.Cond) (a : Array Jvm.Value) (st : Jvm.State) : (allAtoms ts).before a st = ts.all (fun c => c.before a st) := by
  induction ts with
  | nil => rfl
  | cons c t ih =>
    show (Jvm.Cond.and c (allAtoms t)).before a st = _
    rw [Jvm.Cond.before_and, ih, List.all_cons]
def words1 : List Jvm.Cond := Jvm.Cond.code x code maxLocals ret :: tables_1
/-- a 'code' word, met by the world's own term for the bytes: nothing is compared byte by byte -/
theorem code_word {y : MethodName} {bytes : ByteArray} {mx : Nat} {rt : Option FieldType} {a : Array Value} {s : State} {m : MethodId} {meth : Method} {c : Code} (h1 : s.methodNamed? y = some m) (h2 : s.vm.method? m = some meth) (h3 : meth.code = some c) (h4 : c.code = bytes)
    (h5 : (c.maxLocals == mx && c.exceptionTable.isEmpty && decide (c.maxStack ≤ mostOperands) && decide (meth.sig.returnType = rt) && !meth.locks && decide (parseMethodDescriptor y.desc = some meth.sig)) = true) : (Jvm.Cond.code y bytes mx rt).before a s = true := by
  simp only [Bool.and_eq_true, beq_iff_eq, Bool.not_eq_true', decide_eq_true_eq] at h5
  obtain ⟨⟨⟨⟨⟨g1, g2⟩, g3⟩, g4⟩, g5⟩, g6⟩ := h5
  simp [Cond.before, Cond.holds, Cond.value, h1, h2, h3, h4, g1, g2, g3, g4, g5, g6]
def isCode : Jvm.Cond → Bool
  | .code _ _ _ _ => true
  | _ => false
theorem all_split {L : List Jvm.Cond} {P : Jvm.Cond → Bool} (h1 : L.all (fun c => isCode c || P c) = true) (h2 : ∀ c ∈ L.filter isCode, P c = true) : L.all P = true := by
  refine List.all_eq_true.mpr fun c hc => ?_
  have h := List.all_eq_true.mp h1 c hc
  rcases Bool.eq_false_or_eq_true (isCode c) with hi | hi
  · exact h2 c (List.mem_filter.mpr ⟨hc, hi⟩)
  · simpa [hi] using h
set_option maxRecDepth 65536 in
theorem w_c0 : (Jvm.Cond.code x code maxLocals ret).before args0 about1 = true := code_word (m := ⟨1, 1⟩) (meth := k1m1) (c := k1c1) (by decide +kernel) rfl rfl rfl (by decide +kernel)
set_option maxRecDepth 65536 in
theorem w_c1 : (Jvm.Cond.code ({ cls := "com/example/farthing/farthing/model/Compact", name := "add", desc := "(JJ)J" } : Jvm.MethodName) prog_9_method_3_code (6 : Nat) (Option.some Jvm.ClassFile.FieldType.long)).before args0 about1 = true := code_word (m := ⟨2, 1⟩) (meth := k2m1) (c := k2c1) (by decide +kernel) rfl rfl rfl (by decide +kernel)
def codes1 : List Jvm.Cond := [Jvm.Cond.code x code maxLocals ret, Jvm.Cond.code ({ cls := "com/example/farthing/farthing/model/Compact", name := "add", desc := "(JJ)J" } : Jvm.MethodName) prog_9_method_3_code (6 : Nat) (Option.some Jvm.ClassFile.FieldType.long)]
set_option maxRecDepth 65536 in
theorem codes_eq : words1.filter isCode = codes1 := rfl
theorem w_codes : ∀ c ∈ words1.filter isCode, c.before args0 about1 = true := by
  rw [codes_eq]
  intro c hc
  simp only [codes1, List.mem_cons, List.not_mem_nil, or_false] at hc
  rcases hc with rfl | rfl
  · exact w_c0
  · exact w_c1
set_option maxRecDepth 65536 in
theorem w_t1 : words1.all (fun c => isCode c || c.before args0 about1) = true := by decide +kernel
theorem w_tables : (allAtoms (Jvm.Cond.code x code maxLocals ret :: tables_1)).before args0 about1 = true := by
  rw [allAtoms_all]
  show words1.all (fun c => c.before args0 about1) = true
  refine all_split ?_ w_codes
  rw [w_t1]
set_option maxRecDepth 65536 in
theorem w_case : (Jvm.Cond.and given_1 narrow_1).before args0 about1 = true := by decide +kernel
theorem w_applies : (headSpec (Jvm.Cond.code x code maxLocals ret :: tables_1) room_1).applies x e0.platform about1 = true :=
  (Spec.applies_iff w_frames).mpr ⟨w_running, w_runnable, w_alone, w_named, w_hears, w_ripe, w_room, w_tables⟩
theorem atStart : AtStart classFile x code maxLocals ret World_1 tables_1 room_1 Calls_1 rest_1 Pre_1 launch0 p0 e0 about1 theMethod args0 below0 :=
  ⟨lists_1, trivial, launch0.admits_env _ _ _, launch0.least_env, fairChoices_fair.cas, fairChoices_fair.clock, w_frames, w_args, w_heap, w_applies, trivial, trivial, w_case⟩
end start1
theorem witness_1 : WitnessClaimed_1 := ⟨start1.p0, start1.e0, start1.about1, start1.theMethod, start1.args0, start1.below0, start1.atStart⟩
end Jvm.Pilot.@@N@@
