import JvmDerived
import JvmDerived.Pilot.@@N@@Statement
import JvmDerived.Pilot.@@N@@Code
set_option linter.unusedVariables false
set_option linter.unusedSimpArgs false
set_option maxHeartbeats 4000000
namespace Jvm.Pilot.@@N@@
open Jvm Jvm.ClassFile Sem Op Lib Jvm.Free Jvm.Stand Jvm.LawKit Jvm.RoadKit Bundle Jvm.Pilot.@@N@@.Jvm.D
/-! own kit: a walk read backwards: G T g says that from the state T with g on top the body comes to a good end -/
section OwnKit
variable {p : Program} {l : Launch} {e : Env} {R : Room} {s : State} {m : MethodId} {args : Array Value} {below : List Frame} {meth : Method} {c : Code} {T : State} {cells slots : Nat} {Z : State} {a0 : Array Value} {h : Heap} {n0 : Nat} {G : State → JFrame → Prop} {Q : Option Value → Heap → Prop}
def Clo (p : Program) (e : Env) (below : List Frame) (G : State → JFrame → Prop) : Prop := ∀ (T T' : State) (g g' : JFrame), (∀ t, Steps p.tables e below (T'.setTop g') t → Steps p.tables e below (T.setTop g) t) → G T' g' → G T g
theorem Clo.go (hs : Clo p e below G) {T T' : State} {g g' : JFrame} (st : ∀ t, Steps p.tables e below (T'.setTop g') t → Steps p.tables e below (T.setTop g) t) (k : G T' g') : G T g := hs T T' g g' st k
def Sd (p : Program) (l : Launch) (e : Env) (R : Room) (s : State) (m : MethodId) (args : Array Value) (below : List Frame) (meth : Method) (c : Code) (n0 : Nat) (T : State) (h : Heap) (cells slots : Nat) : Prop := ∃ locs, Stand p l e R s m args below meth c T locs cells slots ∧ Fr n0 locs ∧ T.heap = h
theorem Sd.here (X : Sd p l e R s m args below meth c n0 T h cells slots) : At T m c below := by obtain ⟨_, X, _⟩ := X; exact X.here
theorem Sd.more (X : Sd p l e R s m args below meth c n0 T h cells slots) {k n : Nat} (hk : cells ≤ k) (hn : slots ≤ n) : Sd p l e R s m args below meth c n0 T h k n := by obtain ⟨L, X, N⟩ := X; exact ⟨L, X.more hk hn, N⟩
/-- how a body ends -/
def Fnl (p : Program) (l : Launch) (e : Env) (R : Room) (s : State) (m : MethodId) (args : Array Value) (below : List Frame) (meth : Method) (c : Code) (n0 : Nat) (Q : Option Value → Heap → Prop) (G : State → JFrame → Prop) : Prop :=
  ∀ (T : State) (h : Heap) (k n : Nat) (g : JFrame) (v : Option Value), Sd p l e R s m args below meth c n0 T h k n → k ≤ R.cells → n ≤ R.slots → (meth.sig.returnType = none → v = none) →
    (∀ fs, (∀ (f : JFrame) (acts : List Action), f.method = m → f.locked = none → f.entered = [] → (doReturn e (T.setTop f) acts v).1 = T.setFrames fs) → Steps p.tables e below (T.setTop g) (T.setFrames fs)) → Q v h → G T g
/-- a body's contract -/
def Con (l : Launch) (Z : State) (y : MethodName) (bytes : ByteArray) (maxL : Nat) (ret : Option FieldType) (ws : List Jvm.Cond) (rm : Room) (as' : Array Value) (h : Heap) (n0 : Nat) (Q : Option Value → Heap → Prop) : Prop :=
  MetFree l y (head1 (Jvm.Cond.code y bytes maxL ret :: ws) rm) (fun a U => a = as' ∧ Z.Warmed39 U.vm ∧ U.heap = h) (fun _ _ _ _ _ => True)
    (fun _ U o U' => ∃ v L, o = .returned v ∧ (Q v U'.heap ∧ Fr n0 L) ∧ FrameEnd U o U' L rm.cells rm.slots)
theorem Con.of {y : MethodName} {bytes : ByteArray} {maxL : Nat} {ret : Option FieldType} {ws : List Jvm.Cond} {rm : Room} {as' : Array Value} (hp : plainFor y = true)
    (body : ∀ (G : State → JFrame → Prop) (p : Program) (e : Env) (s : State) (m : MethodId) (below : List Frame) (meth : Method) (c : Code) (s₁ : State),
      Clo p e below G → p.tables.exec = Jvm.exec → c.code = bytes → c.maxLocals = maxL → s.vm.findClass y.cls = some m.cls → meth.name = y.name → meth.sig.returnType = ret → Z.Warmed39 s.vm →
      Sd p l e rm s m as' below meth c n0 s₁ h 0 0 → Fnl p l e rm s m as' below meth c n0 Q G → G s₁ (entryFrame m as' maxL)) : Con l Z y bytes maxL ret ws rm as' h n0 Q := by
  refine MetFree.of_bodySF hp hisR ?_
  intro p e s m args below meth c s₁ Bd hml hP hK
  obtain ⟨ha, hZ, hh⟩ := hP
  subst ha
  refine body (fun T g => ∃ s₂ o, Steps p.tables e below (T.setTop g) s₂ ∧ s₂.status = .running ∧ Ended s₂ below o ∧ ∃ v L, o = .returned v ∧ (Q v s₂.heap ∧ Fr n0 L) ∧ FrameEnd s o s₂ L rm.cells rm.slots) p e s m below meth c s₁ ?_ Bd.exec Bd.bytes hml (findClass_of_methodNamed Bd.named) (name_of_methodNamed Bd.named Bd.method).1 Bd.returns hZ ⟨[], Stand.of_body Bd, Fr.nil n0, by rw [← hh, Bd.state]; rfl⟩ ?_
  · intro T T' g g' st ⟨s₂, o, h1, r⟩
    exact ⟨s₂, o, st _ h1, r⟩
  · intro T h k n g v ⟨locs, X, N, eh⟩ hk hn hv st q
    obtain ⟨fs, hr, hrun, hended, hW, hsame⟩ := X.leave (v := v) hv Bd.notSynchronized
    exact ⟨_, _, st fs hr, hrun, hended, v, locs, rfl, ⟨by show Q v T.heap; rw [eh]; exact q, N⟩, ⟨_, rfl⟩, hW, hsame.mono hk hn⟩
theorem rRetI (fin : Fnl p l e R s m args below meth c n0 Q G) (X : Sd p l e R s m args below meth c n0 T h cells slots) (hx : p.tables.exec = Jvm.exec) (hk : cells ≤ R.cells) (hn : slots ≤ R.slots) (hret : meth.sig.returnType = some .int) {pc : Nat} {Ls : Array Slot} {z : Int32} {rest : List Value} (hd : decode c.code pc = .ok (.ireturn, 1)) (q : Q (some (.int z)) h) : G T (mkF m pc Ls (.int z :: rest)) :=
  fin T h cells slots _ (some (.int z)) X hk hn (fun h => by rw [hret] at h; cases h) (fun fs hr => by obtain ⟨_, X, _⟩ := X; exact retOut X hx hret rfl (Or.inl ⟨rfl, Or.inl rfl, _, rfl⟩) hd hr) q
theorem rRetN (fin : Fnl p l e R s m args below meth c n0 Q G) (X : Sd p l e R s m args below meth c n0 T h cells slots) (hx : p.tables.exec = Jvm.exec) (hk : cells ≤ R.cells) (hn : slots ≤ R.slots) {t : FieldType} (hret : meth.sig.returnType = some t) (ht : t = .boolean ∨ t = .byte ∨ t = .char ∨ t = .short) {pc : Nat} {Ls : Array Slot} {z z' : Int32} {rest : List Value} (hd : decode c.code pc = .ok (.ireturn, 1)) (hz : nar t z = z') (q : Q (some (.int z')) h) : G T (mkF m pc Ls (.int z :: rest)) :=
  fin T h cells slots _ (some (.int (nar t z))) X hk hn (fun h => by rw [hret] at h; cases h) (fun fs hr => by obtain ⟨_, X, _⟩ := X; exact retN X hx hret ht hd hr) (hz ▸ q)
theorem rRetL (fin : Fnl p l e R s m args below meth c n0 Q G) (X : Sd p l e R s m args below meth c n0 T h cells slots) (hx : p.tables.exec = Jvm.exec) (hk : cells ≤ R.cells) (hn : slots ≤ R.slots) (hret : meth.sig.returnType = some .long) {pc : Nat} {Ls : Array Slot} {z : Int64} {rest : List Value} (hd : decode c.code pc = .ok (.lreturn, 1)) (q : Q (some (.long z)) h) : G T (mkF m pc Ls (.long z :: rest)) :=
  fin T h cells slots _ (some (.long z)) X hk hn (fun h => by rw [hret] at h; cases h) (fun fs hr => by obtain ⟨_, X, _⟩ := X; exact retOut X hx hret rfl (Or.inr (Or.inl ⟨rfl, rfl, _, rfl⟩)) hd hr) q
theorem rRetA (fin : Fnl p l e R s m args below meth c n0 Q G) (X : Sd p l e R s m args below meth c n0 T h cells slots) (hx : p.tables.exec = Jvm.exec) (hk : cells ≤ R.cells) (hn : slots ≤ R.slots) {t : FieldType} (hret : meth.sig.returnType = some t) (ht : t.isReference = true) {pc : Nat} {Ls : Array Slot} {z : Value} (hz : z.isRef = true) (hw : narrow t z = z) {rest : List Value} (hd : decode c.code pc = .ok (.areturn, 1)) (q : Q (some z) h) : G T (mkF m pc Ls (z :: rest)) :=
  fin T h cells slots _ (some z) X hk hn (fun h => by rw [hret] at h; cases h) (fun fs hr => by obtain ⟨_, X, _⟩ := X; exact retOut X hx hret hw (Or.inr (Or.inr (Or.inr (Or.inr ⟨rfl, ht, hz⟩)))) hd hr) q
theorem rRetD (fin : Fnl p l e R s m args below meth c n0 Q G) (X : Sd p l e R s m args below meth c n0 T h cells slots) (hx : p.tables.exec = Jvm.exec) (hk : cells ≤ R.cells) (hn : slots ≤ R.slots) (hret : meth.sig.returnType = some .double) {pc : Nat} {Ls : Array Slot} {z : UInt64} {rest : List Value} (hd : decode c.code pc = .ok (.dreturn, 1)) (q : Q (some (.double z)) h) : G T (mkF m pc Ls (.double z :: rest)) :=
  fin T h cells slots _ (some (.double z)) X hk hn (fun h => by rw [hret] at h; cases h) (fun fs hr => by obtain ⟨_, X, _⟩ := X; exact retOut X hx hret rfl (Or.inr (Or.inr (Or.inl ⟨rfl, rfl, _, rfl⟩))) hd hr) q
theorem rRetV (fin : Fnl p l e R s m args below meth c n0 Q G) (X : Sd p l e R s m args below meth c n0 T h cells slots) (hx : p.tables.exec = Jvm.exec) (hk : cells ≤ R.cells) (hn : slots ≤ R.slots) (hret : meth.sig.returnType = none) {pc : Nat} {Ls : Array Slot} (hd : decode c.code pc = .ok (.return_, 1)) (q : Q none h) : G T (mkF m pc Ls []) :=
  fin T h cells slots _ none X hk hn (fun _ => rfl) (fun fs hr => by obtain ⟨_, X, _⟩ := X; exact X.returnOut hx hret hd hr) q
theorem rLdcI (hs : Clo p e below G) (X : Sd p l e R s m args below meth c n0 T h cells slots) (hx : p.tables.exec = Jvm.exec) (hZ : Z.Warmed39 s.vm) {own : String} {index : Nat} {v : Int32} (hown : s.vm.findClass own = some m.cls) (w : (Jvm.Cond.constant own index v).before a0 Z = true) {g : JFrame} (hg : g.method = m) (hd : decode c.code g.pc = .ok (.ldc index, 2)) (k : G T { g with pc := g.pc + 2, stack := .int v :: g.stack }) : G T g := by
  obtain ⟨_, X, _⟩ := X
  exact hs.go (X.ldcInt hx hown (mvT hZ w) hg hd) k
theorem rLdcL (hs : Clo p e below G) (X : Sd p l e R s m args below meth c n0 T h cells slots) (hx : p.tables.exec = Jvm.exec) (hZ : Z.Warmed39 s.vm) {own : String} {index : Nat} {v : Int64} (hown : s.vm.findClass own = some m.cls) (w : (Jvm.Cond.constantLong own index v).before a0 Z = true) {g : JFrame} (hg : g.method = m) (hd : decode c.code g.pc = .ok (.ldc2_w index, 3)) (k : G T { g with pc := g.pc + 3, stack := .long v :: g.stack }) : G T g := by
  obtain ⟨_, X, _⟩ := X
  exact hs.go (X.ldc2Long hx hown (mvT hZ w) hg hd) k
theorem rLdcD (hs : Clo p e below G) (X : Sd p l e R s m args below meth c n0 T h cells slots) (hx : p.tables.exec = Jvm.exec) (hZ : Z.Warmed39 s.vm) {own : String} {index : Nat} {v : UInt64} (hown : s.vm.findClass own = some m.cls) (w : (Jvm.Cond.constantDouble own index v).before a0 Z = true) {g : JFrame} (hg : g.method = m) (hd : decode c.code g.pc = .ok (.ldc2_w index, 3)) (k : G T { g with pc := g.pc + 3, stack := .double v :: g.stack }) : G T g := by
  obtain ⟨_, X, _⟩ := X
  exact hs.go (X.ldc2DoubleC hx hown (mvT hZ w) hg hd) k
theorem rIrem (hs : Clo p e below G) (X : Sd p l e R s m args below meth c n0 T h cells slots) (hx : p.tables.exec = Jvm.exec) {g : JFrame} (hg : g.method = m) {x y : Int32} {rest : List Value} (hd : decode c.code g.pc = .ok (.irem, 1)) (hst : g.stack = .int y :: .int x :: rest) (hy : y ≠ 0) (k : G T { g with pc := g.pc + 1, stack := .int (x % y) :: rest }) : G T g := by
  obtain ⟨_, X, _⟩ := X
  exact hs.go (fun _ q => iremM X hx hg hd hst hy q) k
theorem rLrem (hs : Clo p e below G) (X : Sd p l e R s m args below meth c n0 T h cells slots) (hx : p.tables.exec = Jvm.exec) {g : JFrame} (hg : g.method = m) {x y : Int64} {rest : List Value} (hd : decode c.code g.pc = .ok (.lrem, 1)) (hst : g.stack = .long y :: .long x :: rest) (hy : y ≠ 0) (k : G T { g with pc := g.pc + 1, stack := .long (x % y) :: rest }) : G T g :=
  hs.go (fun _ q => XS.lrem X.here hx hg hd hst hy q) (by rw [lrem_mod]; exact k)
/-! arrays -/
theorem rNewP (hs : Clo p e below G) (X : Sd p l e R s m args below meth c n0 T h cells slots) (hx : p.tables.exec = Jvm.exec) (hZ : Z.Warmed39 s.vm) {aty : ArrayType} (w : (Jvm.Cond.arrayClass (newarray.typeOf aty)).before a0 Z = true) {g : JFrame} (hg : g.method = m) (hd : decode c.code g.pc = .ok (.newarray aty, 2)) {n : Int32} {rest : List Value} (hst : g.stack = .int n :: rest)
    (hn : ¬ n < 0) (cap len : Nat) (hcap : n.toNatClampNeg ≤ cap) (hb : cap * 8 ≤ 536870912) (hc : cells + 1 ≤ R.cells) (hl : slots + cap ≤ R.slots)
    (k : ∀ (T' : State) (h' : Heap) (cA : ClassId) (b : Addr), b = h.size → Sd p l e R s m args below meth c n0 T' h' (cells + 1) (slots + cap) → Ext h h' → Arv Z h' b cA (newarray.typeOf aty) n (List.replicate len (defaultValue (newarray.typeOf aty))) (defaultValue (newarray.typeOf aty)) → G T' { g with pc := g.pc + 2, stack := .ref b :: rest }) : G T g := by
  obtain ⟨L, X, N, eh⟩ := X
  obtain ⟨T', h', cA, X', e', E, A, st⟩ := newP X hx hZ w eh hg hd hst hn hcap hb hc hl
  exact hs.go st (k T' h' cA h.size rfl ⟨L, X', N, e'⟩ E ((Arv.new A hn).pad (pad_rep [] _ len)))
theorem rStI (hs : Clo p e below G) (X : Sd p l e R s m args below meth c n0 T h cells slots) (hx : p.tables.exec = Jvm.exec) (hZ : Z.Warmed39 s.vm) {a : Addr} {kc : ClassId} {z : Int32} {vs : List Value} {dv : Value} (V : Arv Z h a kc .int z vs dv) (ga : n0 ≤ a) {j x : Int32} (hj : ¬ j < 0 ∧ j < z) (i : Nat) (hi : j.toNatClampNeg = i) (hl : i < vs.length)
    {g : JFrame} (hg : g.method = m) {rest : List Value} (hst : g.stack = .int x :: .int j :: .ref a :: rest) (hd : decode c.code g.pc = .ok (.iastore, 1))
    (k : ∀ (T' : State) (h' : Heap), Sd p l e R s m args below meth c n0 T' h' cells slots → Wr h h' a i (.int x) → Arv Z h' a kc .int z (vs.set i (.int x)) dv → G T' { g with pc := g.pc + 1, stack := rest }) : G T g := by
  obtain ⟨L, X, N, eh⟩ := X
  obtain ⟨cl, A, q1, S, q3, H, F⟩ := V
  obtain ⟨T', h', X', e', W, st⟩ := stI X hx hZ eh A (j := j) (inb_of S hj) hg hst hd
  exact hs.go st (k T' h' ⟨_, X', Fr.snoc X' N ga, e'⟩ (hi ▸ W) (Arv.set A q1 S q3 H F rfl W i hi hl))
theorem rStB (hs : Clo p e below G) (X : Sd p l e R s m args below meth c n0 T h cells slots) (hx : p.tables.exec = Jvm.exec) (hZ : Z.Warmed39 s.vm) {a : Addr} {kc : ClassId} {z : Int32} {vs : List Value} {dv : Value} (V : Arv Z h a kc .byte z vs dv) (ga : n0 ≤ a) {j x x' : Int32} (hj : ¬ j < 0 ∧ j < z) (i : Nat) (hi : j.toNatClampNeg = i) (hl : i < vs.length) (hnx : x.toInt8.toInt32 = x')
    {g : JFrame} (hg : g.method = m) {rest : List Value} (hst : g.stack = .int x :: .int j :: .ref a :: rest) (hd : decode c.code g.pc = .ok (.bastore, 1))
    (k : ∀ (T' : State) (h' : Heap), Sd p l e R s m args below meth c n0 T' h' cells slots → Wr h h' a i (.int x') → Arv Z h' a kc .byte z (vs.set i (.int x')) dv → G T' { g with pc := g.pc + 1, stack := rest }) : G T g := by
  obtain ⟨L, X, N, eh⟩ := X
  obtain ⟨cl, A, q1, S, q3, H, F⟩ := V
  obtain ⟨T', h', X', e', W, st⟩ := stB X hx hZ eh A (j := j) (inb_of S hj) hg hst hd
  subst hnx
  exact hs.go st (k T' h' ⟨_, X', Fr.snoc X' N ga, e'⟩ (hi ▸ W) (Arv.set A q1 S q3 H F (fits_nar_byte _) W i hi hl))
theorem rStC (hs : Clo p e below G) (X : Sd p l e R s m args below meth c n0 T h cells slots) (hx : p.tables.exec = Jvm.exec) (hZ : Z.Warmed39 s.vm) {a : Addr} {kc : ClassId} {z : Int32} {vs : List Value} {dv : Value} (V : Arv Z h a kc .char z vs dv) (ga : n0 ≤ a) {j x x' : Int32} (hj : ¬ j < 0 ∧ j < z) (i : Nat) (hi : j.toNatClampNeg = i) (hl : i < vs.length) (hnx : nar .char x = x')
    {g : JFrame} (hg : g.method = m) {rest : List Value} (hst : g.stack = .int x :: .int j :: .ref a :: rest) (hd : decode c.code g.pc = .ok (.castore, 1))
    (k : ∀ (T' : State) (h' : Heap), Sd p l e R s m args below meth c n0 T' h' cells slots → Wr h h' a i (.int x') → Arv Z h' a kc .char z (vs.set i (.int x')) dv → G T' { g with pc := g.pc + 1, stack := rest }) : G T g := by
  obtain ⟨L, X, N, eh⟩ := X
  obtain ⟨cl, A, q1, S, q3, H, F⟩ := V
  obtain ⟨T', h', X', e', W, st⟩ := stC X hx hZ eh A (j := j) (inb_of S hj) hg hst hd
  subst hnx
  exact hs.go st (k T' h' ⟨_, X', Fr.snoc X' N ga, e'⟩ (hi ▸ W) (Arv.set A q1 S q3 H F (fits_nar_char _) W i hi hl))
theorem rLdI (hs : Clo p e below G) (X : Sd p l e R s m args below meth c n0 T h cells slots) (hx : p.tables.exec = Jvm.exec) (hZ : Z.Warmed39 s.vm) {a : Addr} {kc : ClassId} {z : Int32} {vs : List Value} {dv : Value} (V : Arv Z h a kc .int z vs dv) {j : Int32} (hj : ¬ j < 0 ∧ j < z) {v : Value} (hv : vs.getD j.toNatClampNeg dv = v)
    {g : JFrame} (hg : g.method = m) {rest : List Value} (hst : g.stack = .int j :: .ref a :: rest) (hd : decode c.code g.pc = .ok (.iaload, 1)) (k : G T { g with pc := g.pc + 1, stack := v :: rest }) : G T g := by
  obtain ⟨L, X, N, eh⟩ := X
  obtain ⟨cl, A, q1, S, q3, H, F⟩ := V
  exact hs.go (X.iaload hx (j := j) (v := v) (by rw [eh]; exact A.1) (State.isArrayOf_alike hZ.alike A.2.1) A.2.2 (inb_of S hj) (H.at (inb_of S hj) hv) hg hst hd) k
theorem rLdB (hs : Clo p e below G) (X : Sd p l e R s m args below meth c n0 T h cells slots) (hx : p.tables.exec = Jvm.exec) (hZ : Z.Warmed39 s.vm) {a : Addr} {kc : ClassId} {z : Int32} {vs : List Value} {dv : Value} (V : Arv Z h a kc .byte z vs dv) {j : Int32} (hj : ¬ j < 0 ∧ j < z) {v : Value} (hv : vs.getD j.toNatClampNeg dv = v)
    {g : JFrame} (hg : g.method = m) {rest : List Value} (hst : g.stack = .int j :: .ref a :: rest) (hd : decode c.code g.pc = .ok (.baload, 1)) (k : G T { g with pc := g.pc + 1, stack := v :: rest }) : G T g := by
  obtain ⟨L, X, N, eh⟩ := X
  obtain ⟨cl, A, q1, S, q3, H, F⟩ := V
  exact hs.go (X.baloadBytes hx (j := j) (v := v) (by rw [eh]; exact A.1) (State.isArrayOf_alike hZ.alike A.2.1) A.2.2 (inb_of S hj) (H.at (inb_of S hj) hv) hg hst hd) k
theorem rLdC (hs : Clo p e below G) (X : Sd p l e R s m args below meth c n0 T h cells slots) (hx : p.tables.exec = Jvm.exec) (hZ : Z.Warmed39 s.vm) {a : Addr} {kc : ClassId} {z : Int32} {vs : List Value} {dv : Value} (V : Arv Z h a kc .char z vs dv) {j : Int32} (hj : ¬ j < 0 ∧ j < z) {v : Value} (hv : vs.getD j.toNatClampNeg dv = v)
    {g : JFrame} (hg : g.method = m) {rest : List Value} (hst : g.stack = .int j :: .ref a :: rest) (hd : decode c.code g.pc = .ok (.caload, 1)) (k : G T { g with pc := g.pc + 1, stack := v :: rest }) : G T g := by
  obtain ⟨L, X, N, eh⟩ := X
  obtain ⟨cl, A, q1, S, q3, H, F⟩ := V
  exact hs.go (X.caload hx (j := j) (v := v) (by rw [eh]; exact A.1) (State.isArrayOf_alike hZ.alike A.2.1) A.2.2 (inb_of S hj) (H.at (inb_of S hj) hv) hg hst hd) k
theorem rLdR (hs : Clo p e below G) (X : Sd p l e R s m args below meth c n0 T h cells slots) (hx : p.tables.exec = Jvm.exec) (hZ : Z.Warmed39 s.vm) {a : Addr} {kc : ClassId} {ty : FieldType} {z : Int32} {vs : List Value} {dv : Value} (V : Arv Z h a kc ty z vs dv) (hty : ty.isReference = true) {j : Int32} (hj : ¬ j < 0 ∧ j < z) {v : Value} (hv : vs.getD j.toNatClampNeg dv = v)
    {g : JFrame} (hg : g.method = m) {rest : List Value} (hst : g.stack = .int j :: .ref a :: rest) (hd : decode c.code g.pc = .ok (.aaload, 1)) (k : G T { g with pc := g.pc + 1, stack := v :: rest }) : G T g := by
  obtain ⟨L, X, N, eh⟩ := X
  obtain ⟨cl, A, q1, S, q3, H, F⟩ := V
  exact hs.go (X.aaload hx (j := j) (v := v) (by rw [eh]; exact A.1) (State.isArrayOf_alike hZ.alike A.2.1) hty A.2.2 (inb_of S hj) (H.at (inb_of S hj) hv) hg hst hd) k
theorem rLen (hs : Clo p e below G) (X : Sd p l e R s m args below meth c n0 T h cells slots) (hx : p.tables.exec = Jvm.exec) (hZ : Z.Warmed39 s.vm) {a : Addr} {kc : ClassId} {ty : FieldType} {z : Int32} {vs : List Value} {dv : Value} (V : Arv Z h a kc ty z vs dv)
    {g : JFrame} (hg : g.method = m) {rest : List Value} (hst : g.stack = .ref a :: rest) (hd : decode c.code g.pc = .ok (.arraylength, 1)) (k : G T { g with pc := g.pc + 1, stack := .int z :: rest }) : G T g := by
  obtain ⟨L, X, N, eh⟩ := X
  obtain ⟨cl, A, q1, S, q3, H, F⟩ := V
  exact hs.go (X.arraylength hx (by rw [eh]; exact A.1) (State.isArrayOf_alike hZ.alike A.2.1) hg hst hd) (by rw [len_of S q3]; exact k)
theorem rNewR (hs : Clo p e below G) (X : Sd p l e R s m args below meth c n0 T h cells slots) (hx : p.tables.exec = Jvm.exec) (hZ : Z.Warmed39 s.vm) {own C : String} {index : Nat} (hown : s.vm.findClass own = some m.cls) (w1 : (Jvm.Cond.classLink own index C).before a0 Z = true) (w2 : (Jvm.Cond.arrayOver (.object C)).before a0 Z = true) {g : JFrame} (hg : g.method = m) (hd : decode c.code g.pc = .ok (.anewarray index, 3)) {n : Int32} {rest : List Value} (hst : g.stack = .int n :: rest)
    (hn : ¬ n < 0) (cap len : Nat) (hcap : n.toNatClampNeg ≤ cap) (hb : cap * 8 ≤ 536870912) (hc : cells + 1 ≤ R.cells) (hl : slots + cap ≤ R.slots)
    (k : ∀ (T' : State) (h' : Heap) (cA : ClassId) (b : Addr), b = h.size → Sd p l e R s m args below meth c n0 T' h' (cells + 1) (slots + cap) → Ext h h' → Arv Z h' b cA (.object C) n (List.replicate len .null) .null → Ovr Z cA C → G T' { g with pc := g.pc + 3, stack := .ref b :: rest }) : G T g := by
  obtain ⟨L, X, N, eh⟩ := X
  obtain ⟨T', h', cA, X', e', E, A, O, st⟩ := newR X hx hZ hown w1 w2 eh hg hd hst hn hcap hb hc hl
  exact hs.go st (k T' h' cA h.size rfl ⟨L, X', N, e'⟩ E ((Arv.new A hn).pad (pad_rep [] _ len)) O)
theorem rStR (hs : Clo p e below G) (X : Sd p l e R s m args below meth c n0 T h cells slots) (hx : p.tables.exec = Jvm.exec) (hZ : Z.Warmed39 s.vm) {a : Addr} {kc : ClassId} {C : String} {z : Int32} {vs : List Value} {dv : Value} (V : Arv Z h a kc (.object C) z vs dv) (O : Ovr Z kc C) (ga : n0 ≤ a) {j : Int32} {y : Addr} (I : Ins Z h y C true) (hj : ¬ j < 0 ∧ j < z) (i : Nat) (hi : j.toNatClampNeg = i) (hl : i < vs.length)
    {g : JFrame} (hg : g.method = m) {rest : List Value} (hst : g.stack = .ref y :: .int j :: .ref a :: rest) (hd : decode c.code g.pc = .ok (.aastore, 1))
    (k : ∀ (T' : State) (h' : Heap), Sd p l e R s m args below meth c n0 T' h' cells slots → Wr h h' a i (.ref y) → Arv Z h' a kc (.object C) z (vs.set i (.ref y)) dv → G T' { g with pc := g.pc + 1, stack := rest }) : G T g := by
  obtain ⟨L, X, N, eh⟩ := X
  obtain ⟨cl, A, q1, S, q3, H, F⟩ := V
  obtain ⟨T', h', X', e', W, st⟩ := stR X hx hZ eh A (j := j) (v := .ref y) (inb_of S hj) rfl (Sto.ofV A q1 O I) hg hst hd
  exact hs.go st (k T' h' ⟨_, X', Fr.snoc X' N ga, e'⟩ (hi ▸ W) (Arv.set A q1 S q3 H F rfl W i hi hl))
/-! objects -/
theorem rNewO (hs : Clo p e below G) (X : Sd p l e R s m args below meth c n0 T h cells slots) (hx : p.tables.exec = Jvm.exec) (hZ : Z.Warmed39 s.vm) {own C : String} {index n : Nat} (hown : s.vm.findClass own = some m.cls) (w : (Jvm.Cond.classLink own index C).before a0 Z = true) (wi : (Jvm.Cond.instantiable C n).before a0 Z = true) (wz : (Jvm.Cond.initialized C).before a0 Z = true)
    {g : JFrame} (hg : g.method = m) (hd : decode c.code g.pc = .ok (.new index, 3)) (hc : cells + 1 ≤ R.cells) (hl : slots + n ≤ R.slots)
    (k : ∀ (T' : State) (h' : Heap) (b : Addr), b = h.size → Sd p l e R s m args below meth c n0 T' h' (cells + 1) (slots + n) → Ext h h' → Exa Z h' b C → (∀ {O nm d : String} {ty : FieldType}, Laid Z a0 C O nm d → parseFieldDescriptor d = some ty → Fld Z h' b O nm d (defaultValue ty)) → G T' { g with pc := g.pc + 3, stack := .ref b :: g.stack }) : G T g := by
  obtain ⟨L, X, N, eh⟩ := X
  obtain ⟨T', h', X', e', E, A, D, -, st⟩ := newO X hx hZ hown w wi wz eh hg hd hc hl
  exact hs.go st (k T' h' h.size rfl ⟨L, X', N, e'⟩ E A D)
theorem rInitO (hs : Clo p e below G) (X : Sd p l e R s m args below meth c n0 T h cells slots) (hx : p.tables.exec = Jvm.exec) (hZ : Z.Warmed39 s.vm) {own : String} {idx : Nat} (hown : s.vm.findClass own = some m.cls) (w1 : (Jvm.Cond.methodLink own idx Lib.objectInit).before a0 Z = true) (w2 : (Jvm.Cond.instanceMethod Lib.objectInit).before a0 Z = true)
    (w3 : (Jvm.Cond.code Lib.objectInit ⟨#[0xb1]⟩ 1 none).before a0 Z = true) {g : JFrame} (hg : g.method = m) (hsize : g.locals.size = c.maxLocals) {a : Addr} {rest : List Value} (hst : g.stack = .ref a :: rest) (hd : decode c.code g.pc = .ok (.invokespecial idx, 3))
    (hf : 1 ≤ R.frames) {W : Nat} (hW : 2 * g.monitorRoom + (rest.map fun v => v.category).sum ≤ W) (hl : W + 12 ≤ R.locals)
    (k : ∀ T' : State, Sd p l e R s m args below meth c n0 T' h cells slots → G T' { g with pc := g.pc + 3, stack := rest }) : G T g := by
  obtain ⟨L, X, N, eh⟩ := X
  obtain ⟨T', X', e', st⟩ := initO X hx hZ hown w1 w2 w3 eh hg hsize hst hd hf hW hl
  exact hs.go st (k T' ⟨L, X', N, e'⟩)
theorem rGetF (hs : Clo p e below G) (X : Sd p l e R s m args below meth c n0 T h cells slots) (hx : p.tables.exec = Jvm.exec) (hZ : Z.Warmed39 s.vm) {own R0 O n d host : String} {index : Nat} (hown : s.vm.findClass own = some m.cls) (w : (Jvm.Cond.fieldLink own index R0 n d).before a0 Z = true ∨ (Jvm.Cond.fieldLinkNest own index R0 n d host).before a0 Z = true) (via : Via Z R0 O n d)
    {a : Addr} {v : Value} (F : Fld Z h a O n d v) {g : JFrame} (hg : g.method = m) {rest : List Value} (hst : g.stack = .ref a :: rest) (hd : decode c.code g.pc = .ok (.getfield index, 3))
    (k : ∀ T' : State, Sd p l e R s m args below meth c n0 T' h cells slots → G T' { g with pc := g.pc + 3, stack := v :: rest }) : G T g := by
  obtain ⟨L, X, N, eh⟩ := X
  obtain ⟨T', X', e', st⟩ := getF X hx hZ hown w via eh F hg hst hd
  exact hs.go st (k T' ⟨L, X', N, e'⟩)
theorem rGetS (hs : Clo p e below G) (X : Sd p l e R s m args below meth c n0 T h cells slots) (hx : p.tables.exec = Jvm.exec) (hZ : Z.Warmed39 s.vm) {own R0 O n d host : String} {index : Nat} (hown : s.vm.findClass own = some m.cls) (w : (Jvm.Cond.fieldLink own index R0 n d).before a0 Z = true ∨ (Jvm.Cond.fieldLinkNest own index R0 n d host).before a0 Z = true) (via : Via Z R0 O n d)
    {v : Value} (F : Sta Z h O n d v) {g : JFrame} (hg : g.method = m) (hd : decode c.code g.pc = .ok (.getstatic index, 3))
    (k : ∀ T' : State, Sd p l e R s m args below meth c n0 T' h cells slots → G T' { g with pc := g.pc + 3, stack := v :: g.stack }) : G T g := by
  obtain ⟨L, X, N, eh⟩ := X
  obtain ⟨T', X', e', st⟩ := getS2 X hx hZ hown w via eh F hg hd
  exact hs.go st (k T' ⟨L, X', N, e'⟩)
theorem rPutF (hs : Clo p e below G) (X : Sd p l e R s m args below meth c n0 T h cells slots) (hx : p.tables.exec = Jvm.exec) (hZ : Z.Warmed39 s.vm) {own R0 O n d host C : String} {index kk : Nat} (ty : FieldType) (hown : s.vm.findClass own = some m.cls) (w : (Jvm.Cond.fieldLink own index R0 n d).before a0 Z = true ∨ (Jvm.Cond.fieldLinkNest own index R0 n d host).before a0 Z = true) (via : Via Z R0 O n d)
    {a : Addr} {v old : Value} (F : Fld Z h a O n d old) (E : Exa Z h a C) (ga : n0 ≤ a) (L : (Jvm.Cond.lays C O n d).before a0 Z = true ∨ ((Jvm.Cond.laysFinal C O n d).before a0 Z = true ∧ own = O ∧ meth.name = "<init>")) (wi : (Jvm.Cond.instantiable C kk).before a0 Z = true)
    (hty : parseFieldDescriptor d = some ty) (hn : narrow ty v = v) (hf : fits ty v = true) {g : JFrame} (hg : g.method = m) {rest : List Value} (hst : g.stack = v :: .ref a :: rest) (hd : decode c.code g.pc = .ok (.putfield index, 3))
    (k : ∀ (T' : State) (h' : Heap), Sd p l e R s m args below meth c n0 T' h' cells slots → Wr h h' a (Jvm.RoadKit.slotOf Z O n d) v → Fld Z h' a O n d v → G T' { g with pc := g.pc + 3, stack := rest }) : G T g := by
  obtain ⟨L0, X, N, eh⟩ := X
  obtain ⟨T', h', X', e', W, st⟩ := putF X hx hZ hown w via eh F E L wi hty hn hf hg hst hd
  exact hs.go st (k T' h' ⟨_, X', Fr.snoc X' N ga, e'⟩ W (F.same W))
/-! calls -/
theorem rCallS (hs : Clo p e below G) (X : Sd p l e R s m args below meth c n0 T h cells slots) (hx : p.tables.exec = Jvm.exec) (hZ : Z.Warmed39 s.vm) {own : String} {index : Nat} {y : MethodName} {bytes : ByteArray} {maxL : Nat} {ret : Option FieldType} {rm : Room} {as' : List Value} {Q' : Option Value → Heap → Prop}
    (hM : Con l Z y bytes maxL ret [] rm as'.toArray h n0 Q') (hown : s.vm.findClass own = some m.cls) (w1 : (Jvm.Cond.methodLink own index y).before a0 Z = true) (w2 : (Jvm.Cond.static y).before a0 Z = true) (w3 : (Jvm.Cond.initialized y.cls).before a0 Z = true) (w4 : (Jvm.Cond.code y bytes maxL ret).before a0 Z = true)
    (hy : y.cls ≠ "java/lang/invoke/MethodHandle" ∧ y.cls ≠ "java/lang/invoke/VarHandle") {g : JFrame} (hg : g.method = m) (hsize : g.locals.size = c.maxLocals) (rest : List Value) (hlen : ∀ sig, parseMethodDescriptor y.desc = some sig → as'.length = sig.parameters.length)
    (hst : g.stack = as'.reverse ++ rest) (W : Nat) (hW : 2 * g.monitorRoom + (rest.map fun v => v.category).sum ≤ W) (hd : decode c.code g.pc = .ok (.invokestatic index, 3))
    (hf : rm.frames + 1 ≤ R.frames) (hl : W + (maxL + 11) + rm.locals ≤ R.locals) (hc : cells + rm.cells ≤ R.cells) (hsl : slots + rm.slots ≤ R.slots)
    (k : ∀ (v : Option Value) (T' : State) (h' : Heap), Sd p l e R s m args below meth c n0 T' h' (cells + rm.cells) (slots + rm.slots) → Q' v h' → G T' { g with pc := g.pc + 3, stack := v.toList ++ rest }) : G T g := by
  obtain ⟨L, X, N, eh⟩ := X
  obtain ⟨v, vm₁, ⟨T', L', k', n'⟩, -, X', ⟨Lc, ⟨hQ, hN⟩, l', y', z'⟩, st⟩ := Jvm.LawKit.callS X hx (y := y) hown (mvT hZ w1) (mvT hZ w2) (mvT hZ w3) (mvT hZ w4) hy (backOf (Q := fun v h L => Q' v h ∧ Fr n0 L) (W := W) hM hZ w4 w3 hf hl) hg hsize (argsL := as') (rest := rest) hlen hst hW hd (fun _ _ => ⟨rfl, eh, hc, hsl⟩)
  dsimp only [Pt.U, Pt.locs, Pt.cells, Pt.slots] at X' l' y' z' st hQ
  subst l' y' z'
  exact hs.go st (k v T' T'.heap ⟨_, X', Fr.app N hN, rfl⟩ hQ)
theorem rCallI (hs : Clo p e below G) (X : Sd p l e R s m args below meth c n0 T h cells slots) (hx : p.tables.exec = Jvm.exec) (hZ : Z.Warmed39 s.vm) {own : String} {index : Nat} {y : MethodName} {bytes : ByteArray} {maxL : Nat} {rm : Room} {a : Addr} {as' : List Value} {Q' : Option Value → Heap → Prop}
    (hM : Con l Z y bytes maxL none [] rm (Value.ref a :: as').toArray h n0 Q') (hyn : y.name = "<init>") (hown : s.vm.findClass own = some m.cls) (w1 : (Jvm.Cond.methodLink own index y).before a0 Z = true) (w2 : (Jvm.Cond.instanceMethod y).before a0 Z = true) (w3 : (Jvm.Cond.initialized y.cls).before a0 Z = true) (w4 : (Jvm.Cond.code y bytes maxL none).before a0 Z = true)
    (hy : y.cls ≠ "java/lang/invoke/MethodHandle" ∧ y.cls ≠ "java/lang/invoke/VarHandle") {g : JFrame} (hg : g.method = m) (hsize : g.locals.size = c.maxLocals) (rest : List Value) (hlen : ∀ sig, parseMethodDescriptor y.desc = some sig → as'.length = sig.parameters.length)
    (hst : g.stack = as'.reverse ++ .ref a :: rest) (W : Nat) (hW : 2 * g.monitorRoom + (rest.map fun v => v.category).sum ≤ W) (hd : decode c.code g.pc = .ok (.invokespecial index, 3))
    (hf : rm.frames + 1 ≤ R.frames) (hl : W + (maxL + 11) + rm.locals ≤ R.locals) (hc : cells + rm.cells ≤ R.cells) (hsl : slots + rm.slots ≤ R.slots)
    (k : ∀ (v : Option Value) (T' : State) (h' : Heap), Sd p l e R s m args below meth c n0 T' h' (cells + rm.cells) (slots + rm.slots) → Q' v h' → G T' { g with pc := g.pc + 3, stack := v.toList ++ rest }) : G T g := by
  obtain ⟨L, X, N, eh⟩ := X
  obtain ⟨v, vm₁, ⟨T', L', k', n'⟩, -, X', ⟨Lc, ⟨hQ, hN⟩, l', y', z'⟩, st⟩ := X.specialBack hx (y := y) hyn hown (mvT hZ w1) (mvT hZ w2) (mvT hZ w4) hy (backOf (Q := fun v h L => Q' v h ∧ Fr n0 L) (W := W) hM hZ w4 w3 hf hl) hg hsize (Steps.refl _) (a := a) (argsL := as') (rest := rest) hlen hst hW hd (fun _ _ => ⟨rfl, eh, hc, hsl⟩)
  dsimp only [Pt.U, Pt.locs, Pt.cells, Pt.slots] at X' l' y' z' st hQ
  subst l' y' z'
  exact hs.go (fun _ q => st.trans q) (k v T' T'.heap ⟨_, X', Fr.app N hN, rfl⟩ hQ)
theorem rCallV (hs : Clo p e below G) (X : Sd p l e R s m args below meth c n0 T h cells slots) (hx : p.tables.exec = Jvm.exec) (hZ : Z.Warmed39 s.vm) {own C : String} {index : Nat} {y : MethodName} {bytes : ByteArray} {maxL : Nat} {ret : Option FieldType} {rm : Room} {a : Addr} {as' : List Value} {Q' : Option Value → Heap → Prop}
    (hM : Con l Z y bytes maxL ret [] rm (Value.ref a :: as').toArray h n0 Q') (E : Exa Z h a C) (hown : s.vm.findClass own = some m.cls) (w1 : (Jvm.Cond.methodLink own index y).before a0 Z = true) (w5 : (Jvm.Cond.declares y).before a0 Z = true) (w6 : (Jvm.Cond.selects C y y).before a0 Z = true) (w2 : (Jvm.Cond.instanceMethod y).before a0 Z = true) (w3 : (Jvm.Cond.initialized y.cls).before a0 Z = true) (w4 : (Jvm.Cond.code y bytes maxL ret).before a0 Z = true)
    (hy : y.cls ≠ "java/lang/invoke/MethodHandle" ∧ y.cls ≠ "java/lang/invoke/VarHandle") {g : JFrame} (hg : g.method = m) (hsize : g.locals.size = c.maxLocals) (rest : List Value) (hlen : ∀ sig, parseMethodDescriptor y.desc = some sig → as'.length = sig.parameters.length)
    (hst : g.stack = as'.reverse ++ .ref a :: rest) (W : Nat) (hW : 2 * g.monitorRoom + (rest.map fun v => v.category).sum ≤ W) (hd : decode c.code g.pc = .ok (.invokevirtual index, 3))
    (hf : rm.frames + 1 ≤ R.frames) (hl : W + (maxL + 11) + rm.locals ≤ R.locals) (hc : cells + rm.cells ≤ R.cells) (hsl : slots + rm.slots ≤ R.slots)
    (k : ∀ (v : Option Value) (T' : State) (h' : Heap), Sd p l e R s m args below meth c n0 T' h' (cells + rm.cells) (slots + rm.slots) → Q' v h' → G T' { g with pc := g.pc + 3, stack := v.toList ++ rest }) : G T g := by
  obtain ⟨L, X, N, eh⟩ := X
  obtain ⟨cB, kB, qa, qb, qc⟩ := isOf (T := T) hZ eh E
  obtain ⟨v, vm₁, ⟨T', L', k', n'⟩, -, X', ⟨Lc, ⟨hQ, hN⟩, l', y', z'⟩, st⟩ := X.virtualBack hx (y := y) (z := y) hown (mvT hZ w1) (mvT hZ w5) (notFace_of_selects (args := #[]) (mvT hZ w6)) (mvT hZ w6) (mvT hZ w2) hy (backOf (Q := fun v h L => Q' v h ∧ Fr n0 L) (W := W) hM hZ w4 w3 hf hl) qa qc hg hsize (Steps.refl _) (argsL := as') (rest := rest) hlen hst hW hd (fun _ _ => ⟨rfl, eh, hc, hsl⟩)
  dsimp only [Pt.U, Pt.locs, Pt.cells, Pt.slots] at X' l' y' z' st hQ
  subst l' y' z'
  exact hs.go (fun _ q => st.trans q) (k v T' T'.heap ⟨_, X', Fr.app N hN, rfl⟩ hQ)
/-! branches -/
theorem ltL {x y : Int64} (h : x < y) : if_icmp.holds .lt (lcmpW x y) 0 = true ∧ if_icmp.holds .ge (lcmpW x y) 0 = false := have q := tlt ((lw_lt x y).mpr h); ⟨q.1, q.2.1⟩
theorem nltL {x y : Int64} (h : ¬ x < y) : if_icmp.holds .lt (lcmpW x y) 0 = false ∧ if_icmp.holds .ge (lcmpW x y) 0 = true := have q := flt (fun z => h ((lw_lt x y).mp z)); ⟨q.1, q.2.1⟩
theorem gtL {x y : Int64} (h : y < x) : if_icmp.holds .gt (lcmpW x y) 0 = true ∧ if_icmp.holds .le (lcmpW x y) 0 = false := have q := tlt ((lw_gt x y).mpr h); ⟨q.2.2.1, q.2.2.2⟩
theorem ngtL {x y : Int64} (h : ¬ y < x) : if_icmp.holds .gt (lcmpW x y) 0 = false ∧ if_icmp.holds .le (lcmpW x y) 0 = true := have q := flt (fun z => h ((lw_gt x y).mp z)); ⟨q.2.2.1, q.2.2.2⟩
theorem eqL {x y : Int64} (h : x = y) : if_icmp.holds .eq (lcmpW x y) 0 = true ∧ if_icmp.holds .ne (lcmpW x y) 0 = false := teq ((lw_eq x y).mpr h)
theorem neqL {x y : Int64} (h : ¬ x = y) : if_icmp.holds .eq (lcmpW x y) 0 = false ∧ if_icmp.holds .ne (lcmpW x y) 0 = true := feq (fun z => h ((lw_eq x y).mp z))
theorem nameIt {α : Type} {P : α → Prop} (x : α) (k : ∀ z, z = x → P z) : P x := k x rfl
theorem eq64 {x y : Int64} (h : x.toInt = y.toInt) : x = y := Int64.toInt_inj.mp h
theorem eq32 {x y : Int32} (h : x.toInt = y.toInt) : x = y := Int32.toInt_inj.mp h
theorem lt64 {x y : Int64} : x < y ↔ x.toInt < y.toInt := Int64.lt_iff_toInt_lt
theorem lt32 {x y : Int32} : x < y ↔ x.toInt < y.toInt := Int32.lt_iff_toInt_lt
theorem e64 {x y : Int64} : x = y ↔ x.toInt = y.toInt := Int64.toInt_inj.symm
theorem e32 {x y : Int32} : x = y ↔ x.toInt = y.toInt := Int32.toInt_inj.symm
theorem c_lremM (x y : Int64) (d : Int) (hy : y.toInt = d) : (0 ≤ x.toInt → (x % y).toInt = x.toInt % d) ∧ (x.toInt < 0 → (x % y).toInt = -((-x.toInt) % d)) := by rw [Int64.toInt_mod, hy]; exact tr _ _
theorem nar_byte (x : Int32) : x.toInt8.toInt32.toInt8.toInt32 = x.toInt8.toInt32 := by simp
end OwnKit

def f1 (a : Int64) (b : Int64) : Int32 := (if (0 : Int64) < b then (if a < ((-9223372036854775808 : Int64) + b) then (1 : Int32) else (0 : Int32)) else (if b < (0 : Int64) then (if ((9223372036854775807 : Int64) + b) < a then (1 : Int32) else (0 : Int32)) else (0 : Int32)))
theorem d1_0 : decode method_2_code 0 = .ok (.lload_n 2, 1) := by decide +kernel
theorem d1_1 : decode method_2_code 1 = .ok (.lconst 0, 1) := by decide +kernel
theorem d1_2 : decode method_2_code 2 = .ok (.lcmp, 1) := by decide +kernel
theorem d1_3 : decode method_2_code 3 = .ok (.ifCond .le 19, 3) := by decide +kernel
theorem d1_6 : decode method_2_code 6 = .ok (.lload_n 0, 1) := by decide +kernel
theorem d1_7 : decode method_2_code 7 = .ok (.ldc2_w 9, 3) := by decide +kernel
theorem d1_10 : decode method_2_code 10 = .ok (.lload_n 2, 1) := by decide +kernel
theorem d1_11 : decode method_2_code 11 = .ok (.ladd, 1) := by decide +kernel
theorem d1_12 : decode method_2_code 12 = .ok (.lcmp, 1) := by decide +kernel
theorem d1_13 : decode method_2_code 13 = .ok (.ifCond .ge 7, 3) := by decide +kernel
theorem d1_16 : decode method_2_code 16 = .ok (.iconst 1, 1) := by decide +kernel
theorem d1_17 : decode method_2_code 17 = .ok (.goto 4, 3) := by decide +kernel
theorem d1_20 : decode method_2_code 20 = .ok (.iconst 0, 1) := by decide +kernel
theorem d1_21 : decode method_2_code 21 = .ok (.ireturn, 1) := by decide +kernel
theorem d1_22 : decode method_2_code 22 = .ok (.lload_n 2, 1) := by decide +kernel
theorem d1_23 : decode method_2_code 23 = .ok (.lconst 0, 1) := by decide +kernel
theorem d1_24 : decode method_2_code 24 = .ok (.lcmp, 1) := by decide +kernel
theorem d1_25 : decode method_2_code 25 = .ok (.ifCond .ge 19, 3) := by decide +kernel
theorem d1_28 : decode method_2_code 28 = .ok (.lload_n 0, 1) := by decide +kernel
theorem d1_29 : decode method_2_code 29 = .ok (.ldc2_w 11, 3) := by decide +kernel
theorem d1_32 : decode method_2_code 32 = .ok (.lload_n 2, 1) := by decide +kernel
theorem d1_33 : decode method_2_code 33 = .ok (.ladd, 1) := by decide +kernel
theorem d1_34 : decode method_2_code 34 = .ok (.lcmp, 1) := by decide +kernel
theorem d1_35 : decode method_2_code 35 = .ok (.ifCond .le 7, 3) := by decide +kernel
theorem d1_38 : decode method_2_code 38 = .ok (.iconst 1, 1) := by decide +kernel
theorem d1_39 : decode method_2_code 39 = .ok (.goto 4, 3) := by decide +kernel
theorem d1_42 : decode method_2_code 42 = .ok (.iconst 0, 1) := by decide +kernel
theorem d1_43 : decode method_2_code 43 = .ok (.ireturn, 1) := by decide +kernel
theorem d1_44 : decode method_2_code 44 = .ok (.iconst 0, 1) := by decide +kernel
theorem d1_45 : decode method_2_code 45 = .ok (.ireturn, 1) := by decide +kernel
theorem pn_1 : plainFor (⟨"com/example/farthing/farthing/model/CompactSubtractPinLaw", "overflows", "(JJ)Z"⟩ : MethodName) = true := plainFor_of_name (by first | (simp [plainName, overriddenIn]; done) | decide +kernel)
theorem ef_1 (m : MethodId) (x0 : Int64) (x1 : Int64) : entryFrame m #[(.long x0), (.long x1)] 4 = mkF m 0 #[.val (.long x0), .second, .val (.long x1), .second] [] := by first | (simp [entryFrame, mkF, argsToLocals, Value.category]; done) | rfl
theorem hy_1 : ((⟨"com/example/farthing/farthing/model/CompactSubtractPinLaw", "overflows", "(JJ)Z"⟩ : MethodName)).cls ≠ "java/lang/invoke/MethodHandle" ∧ ((⟨"com/example/farthing/farthing/model/CompactSubtractPinLaw", "overflows", "(JJ)Z"⟩ : MethodName)).cls ≠ "java/lang/invoke/VarHandle" := by decide
set_option maxRecDepth 65536 in
set_option maxHeartbeats 40000000 in
theorem rm1 (l : Launch) (Z : State) (a0 : Array Value) (hw : ∀ d ∈ tables_1, d.before a0 Z = true) (ws : List Jvm.Cond) (a : Int64) (b : Int64) (h0 : Heap) (n0 : Nat) (Z0 : n0 ≤ h0.size)  :
    Con l Z (⟨"com/example/farthing/farthing/model/CompactSubtractPinLaw", "overflows", "(JJ)Z"⟩ : MethodName) method_2_code 4 (some .boolean) ws ({ frames := 0, cells := 0, slots := 0, locals := 0 } : Room) #[(.long a), (.long b)] h0 n0 (fun v h => v = some (.int (f1 a b)) ∧ h = h0) := by
  refine Con.of pn_1 ?_
  intro G p e s m below meth c s₁ hs hx hby hml hown hnm hret hZ X0 fin
  have hml : c.maxLocals = 4 := hml
  have hown : s.vm.findClass "com/example/farthing/farthing/model/CompactSubtractPinLaw" = some m.cls := hown
  rw [ef_1]
  show G s₁ (mkF m 0 #[.val (.long a), .second, .val (.long b), .second] [])
  refine hs.go (fun _ kk_ => XS.lloadN X0.here hx rfl (hb hby d1_0) rfl  kk_) ?_
  show G s₁ (mkF m 1 #[.val (.long a), .second, .val (.long b), .second] [(.long b)])
  refine hs.go (fun _ kk_ => XS.lconst X0.here hx rfl (hb hby d1_1) kk_) ?_
  show G s₁ (mkF m 2 #[.val (.long a), .second, .val (.long b), .second] [(.long (0 : Int64)), (.long b)])
  refine hs.go (fun _ kk_ => XS.lcmp X0.here hx rfl (hb hby d1_2) rfl kk_) ?_
  show G s₁ (mkF m 3 #[.val (.long a), .second, .val (.long b), .second] [(.int (lcmpW b (0 : Int64)))])
  by_cases c3 : (0 : Int64) < b
  · refine hs.go (fun _ kk_ => XS.ifNo X0.here hx rfl (hb hby d1_3) rfl ((if0 _ _).trans (gtL c3).2) kk_) ?_
    show G s₁ (mkF m 6 #[.val (.long a), .second, .val (.long b), .second] [])
    refine hs.go (fun _ kk_ => XS.lloadN X0.here hx rfl (hb hby d1_6) rfl  kk_) ?_
    show G s₁ (mkF m 7 #[.val (.long a), .second, .val (.long b), .second] [(.long a)])
    refine rLdcL hs X0 hx hZ hown (hw _ (List.mem_of_getElem? (i := 0) rfl)) rfl (hb hby d1_7) ?_
    show G s₁ (mkF m 10 #[.val (.long a), .second, .val (.long b), .second] [(.long (-9223372036854775808 : Int64)), (.long a)])
    refine hs.go (fun _ kk_ => XS.lloadN X0.here hx rfl (hb hby d1_10) rfl  kk_) ?_
    show G s₁ (mkF m 11 #[.val (.long a), .second, .val (.long b), .second] [(.long b), (.long (-9223372036854775808 : Int64)), (.long a)])
    refine hs.go (fun _ kk_ => XS.ladd X0.here hx rfl (hb hby d1_11) rfl kk_) ?_
    show G s₁ (mkF m 12 #[.val (.long a), .second, .val (.long b), .second] [(.long ((-9223372036854775808 : Int64) + b)), (.long a)])
    refine hs.go (fun _ kk_ => XS.lcmp X0.here hx rfl (hb hby d1_12) rfl kk_) ?_
    show G s₁ (mkF m 13 #[.val (.long a), .second, .val (.long b), .second] [(.int (lcmpW a ((-9223372036854775808 : Int64) + b)))])
    by_cases c13 : a < ((-9223372036854775808 : Int64) + b)
    · refine hs.go (fun _ kk_ => XS.ifNo X0.here hx rfl (hb hby d1_13) rfl ((if0 _ _).trans (ltL c13).2) kk_) ?_
      show G s₁ (mkF m 16 #[.val (.long a), .second, .val (.long b), .second] [])
      refine hs.go (fun _ kk_ => XS.iconst X0.here hx rfl (hb hby d1_16) kk_) ?_
      show G s₁ (mkF m 17 #[.val (.long a), .second, .val (.long b), .second] [(.int (1 : Int32))])
      refine hs.go (fun _ kk_ => XS.goto X0.here hx rfl (pc0 := 17) (pc' := 21) rfl (hb hby d1_17) (by decide) (by decide) kk_) ?_
      show G s₁ (mkF m 21 #[.val (.long a), .second, .val (.long b), .second] [(.int (1 : Int32))])
      exact rRetN fin X0 hx (by decide) (by decide) hret (by simp) (hb hby d1_21) (z' := (1 : Int32)) (by decide) ⟨by rw [f1, if_pos c3, if_pos c13], rfl⟩
    · refine hs.go (fun _ kk_ => XS.ifYes X0.here hx rfl (pc0 := 13) (pc' := 20) rfl (hb hby d1_13) rfl ((if0 _ _).trans (nltL c13).2) (by decide) (by decide) kk_) ?_
      show G s₁ (mkF m 20 #[.val (.long a), .second, .val (.long b), .second] [])
      refine hs.go (fun _ kk_ => XS.iconst X0.here hx rfl (hb hby d1_20) kk_) ?_
      show G s₁ (mkF m 21 #[.val (.long a), .second, .val (.long b), .second] [(.int (0 : Int32))])
      exact rRetN fin X0 hx (by decide) (by decide) hret (by simp) (hb hby d1_21) (z' := (0 : Int32)) (by decide) ⟨by rw [f1, if_pos c3, if_neg c13], rfl⟩
  · refine hs.go (fun _ kk_ => XS.ifYes X0.here hx rfl (pc0 := 3) (pc' := 22) rfl (hb hby d1_3) rfl ((if0 _ _).trans (ngtL c3).2) (by decide) (by decide) kk_) ?_
    show G s₁ (mkF m 22 #[.val (.long a), .second, .val (.long b), .second] [])
    refine hs.go (fun _ kk_ => XS.lloadN X0.here hx rfl (hb hby d1_22) rfl  kk_) ?_
    show G s₁ (mkF m 23 #[.val (.long a), .second, .val (.long b), .second] [(.long b)])
    refine hs.go (fun _ kk_ => XS.lconst X0.here hx rfl (hb hby d1_23) kk_) ?_
    show G s₁ (mkF m 24 #[.val (.long a), .second, .val (.long b), .second] [(.long (0 : Int64)), (.long b)])
    refine hs.go (fun _ kk_ => XS.lcmp X0.here hx rfl (hb hby d1_24) rfl kk_) ?_
    show G s₁ (mkF m 25 #[.val (.long a), .second, .val (.long b), .second] [(.int (lcmpW b (0 : Int64)))])
    by_cases c25 : b < (0 : Int64)
    · refine hs.go (fun _ kk_ => XS.ifNo X0.here hx rfl (hb hby d1_25) rfl ((if0 _ _).trans (ltL c25).2) kk_) ?_
      show G s₁ (mkF m 28 #[.val (.long a), .second, .val (.long b), .second] [])
      refine hs.go (fun _ kk_ => XS.lloadN X0.here hx rfl (hb hby d1_28) rfl  kk_) ?_
      show G s₁ (mkF m 29 #[.val (.long a), .second, .val (.long b), .second] [(.long a)])
      refine rLdcL hs X0 hx hZ hown (hw _ (List.mem_of_getElem? (i := 10) rfl)) rfl (hb hby d1_29) ?_
      show G s₁ (mkF m 32 #[.val (.long a), .second, .val (.long b), .second] [(.long (9223372036854775807 : Int64)), (.long a)])
      refine hs.go (fun _ kk_ => XS.lloadN X0.here hx rfl (hb hby d1_32) rfl  kk_) ?_
      show G s₁ (mkF m 33 #[.val (.long a), .second, .val (.long b), .second] [(.long b), (.long (9223372036854775807 : Int64)), (.long a)])
      refine hs.go (fun _ kk_ => XS.ladd X0.here hx rfl (hb hby d1_33) rfl kk_) ?_
      show G s₁ (mkF m 34 #[.val (.long a), .second, .val (.long b), .second] [(.long ((9223372036854775807 : Int64) + b)), (.long a)])
      refine hs.go (fun _ kk_ => XS.lcmp X0.here hx rfl (hb hby d1_34) rfl kk_) ?_
      show G s₁ (mkF m 35 #[.val (.long a), .second, .val (.long b), .second] [(.int (lcmpW a ((9223372036854775807 : Int64) + b)))])
      by_cases c35 : ((9223372036854775807 : Int64) + b) < a
      · refine hs.go (fun _ kk_ => XS.ifNo X0.here hx rfl (hb hby d1_35) rfl ((if0 _ _).trans (gtL c35).2) kk_) ?_
        show G s₁ (mkF m 38 #[.val (.long a), .second, .val (.long b), .second] [])
        refine hs.go (fun _ kk_ => XS.iconst X0.here hx rfl (hb hby d1_38) kk_) ?_
        show G s₁ (mkF m 39 #[.val (.long a), .second, .val (.long b), .second] [(.int (1 : Int32))])
        refine hs.go (fun _ kk_ => XS.goto X0.here hx rfl (pc0 := 39) (pc' := 43) rfl (hb hby d1_39) (by decide) (by decide) kk_) ?_
        show G s₁ (mkF m 43 #[.val (.long a), .second, .val (.long b), .second] [(.int (1 : Int32))])
        exact rRetN fin X0 hx (by decide) (by decide) hret (by simp) (hb hby d1_43) (z' := (1 : Int32)) (by decide) ⟨by rw [f1, if_neg c3, if_pos c25, if_pos c35], rfl⟩
      · refine hs.go (fun _ kk_ => XS.ifYes X0.here hx rfl (pc0 := 35) (pc' := 42) rfl (hb hby d1_35) rfl ((if0 _ _).trans (ngtL c35).2) (by decide) (by decide) kk_) ?_
        show G s₁ (mkF m 42 #[.val (.long a), .second, .val (.long b), .second] [])
        refine hs.go (fun _ kk_ => XS.iconst X0.here hx rfl (hb hby d1_42) kk_) ?_
        show G s₁ (mkF m 43 #[.val (.long a), .second, .val (.long b), .second] [(.int (0 : Int32))])
        exact rRetN fin X0 hx (by decide) (by decide) hret (by simp) (hb hby d1_43) (z' := (0 : Int32)) (by decide) ⟨by rw [f1, if_neg c3, if_pos c25, if_neg c35], rfl⟩
    · refine hs.go (fun _ kk_ => XS.ifYes X0.here hx rfl (pc0 := 25) (pc' := 44) rfl (hb hby d1_25) rfl ((if0 _ _).trans (nltL c25).2) (by decide) (by decide) kk_) ?_
      show G s₁ (mkF m 44 #[.val (.long a), .second, .val (.long b), .second] [])
      refine hs.go (fun _ kk_ => XS.iconst X0.here hx rfl (hb hby d1_44) kk_) ?_
      show G s₁ (mkF m 45 #[.val (.long a), .second, .val (.long b), .second] [(.int (0 : Int32))])
      exact rRetN fin X0 hx (by decide) (by decide) hret (by simp) (hb hby d1_45) (z' := (0 : Int32)) (by decide) ⟨by rw [f1, if_neg c3, if_neg c25], rfl⟩
def f2 (a : Int64) (b : Int64) : Int64 := (if a = (-9223372036854775808 : Int64) then (-9223372036854775808 : Int64) else (if b = (-9223372036854775808 : Int64) then (-9223372036854775808 : Int64) else (if ((a ^^^ b) &&& (a ^^^ (a - b))) < (0 : Int64) then (-9223372036854775808 : Int64) else (a - b))))
theorem d2_0 : decode prog_9_method_4_code 0 = .ok (.lload_n 0, 1) := by decide +kernel
theorem d2_1 : decode prog_9_method_4_code 1 = .ok (.lload_n 2, 1) := by decide +kernel
theorem d2_2 : decode prog_9_method_4_code 2 = .ok (.lsub, 1) := by decide +kernel
theorem d2_3 : decode prog_9_method_4_code 3 = .ok (.lstore 4, 2) := by decide +kernel
theorem d2_5 : decode prog_9_method_4_code 5 = .ok (.lload_n 0, 1) := by decide +kernel
theorem d2_6 : decode prog_9_method_4_code 6 = .ok (.ldc2_w 42, 3) := by decide +kernel
theorem d2_9 : decode prog_9_method_4_code 9 = .ok (.lcmp, 1) := by decide +kernel
theorem d2_10 : decode prog_9_method_4_code 10 = .ok (.ifCond .eq 24, 3) := by decide +kernel
theorem d2_13 : decode prog_9_method_4_code 13 = .ok (.lload_n 2, 1) := by decide +kernel
theorem d2_14 : decode prog_9_method_4_code 14 = .ok (.ldc2_w 42, 3) := by decide +kernel
theorem d2_17 : decode prog_9_method_4_code 17 = .ok (.lcmp, 1) := by decide +kernel
theorem d2_18 : decode prog_9_method_4_code 18 = .ok (.ifCond .eq 16, 3) := by decide +kernel
theorem d2_21 : decode prog_9_method_4_code 21 = .ok (.lload_n 0, 1) := by decide +kernel
theorem d2_22 : decode prog_9_method_4_code 22 = .ok (.lload_n 2, 1) := by decide +kernel
theorem d2_23 : decode prog_9_method_4_code 23 = .ok (.lxor, 1) := by decide +kernel
theorem d2_24 : decode prog_9_method_4_code 24 = .ok (.lload_n 0, 1) := by decide +kernel
theorem d2_25 : decode prog_9_method_4_code 25 = .ok (.lload 4, 2) := by decide +kernel
theorem d2_27 : decode prog_9_method_4_code 27 = .ok (.lxor, 1) := by decide +kernel
theorem d2_28 : decode prog_9_method_4_code 28 = .ok (.land, 1) := by decide +kernel
theorem d2_29 : decode prog_9_method_4_code 29 = .ok (.lconst 0, 1) := by decide +kernel
theorem d2_30 : decode prog_9_method_4_code 30 = .ok (.lcmp, 1) := by decide +kernel
theorem d2_31 : decode prog_9_method_4_code 31 = .ok (.ifCond .ge 9, 3) := by decide +kernel
theorem d2_34 : decode prog_9_method_4_code 34 = .ok (.ldc2_w 42, 3) := by decide +kernel
theorem d2_37 : decode prog_9_method_4_code 37 = .ok (.goto 5, 3) := by decide +kernel
theorem d2_40 : decode prog_9_method_4_code 40 = .ok (.lload 4, 2) := by decide +kernel
theorem d2_42 : decode prog_9_method_4_code 42 = .ok (.lreturn, 1) := by decide +kernel
theorem pn_2 : plainFor (⟨"com/example/farthing/farthing/model/Compact", "subtract", "(JJ)J"⟩ : MethodName) = true := plainFor_of_name (by first | (simp [plainName, overriddenIn]; done) | decide +kernel)
theorem ef_2 (m : MethodId) (x0 : Int64) (x1 : Int64) : entryFrame m #[(.long x0), (.long x1)] 6 = mkF m 0 #[.val (.long x0), .second, .val (.long x1), .second, .unset, .unset] [] := by first | (simp [entryFrame, mkF, argsToLocals, Value.category]; done) | rfl
theorem hy_2 : ((⟨"com/example/farthing/farthing/model/Compact", "subtract", "(JJ)J"⟩ : MethodName)).cls ≠ "java/lang/invoke/MethodHandle" ∧ ((⟨"com/example/farthing/farthing/model/Compact", "subtract", "(JJ)J"⟩ : MethodName)).cls ≠ "java/lang/invoke/VarHandle" := by decide
set_option maxRecDepth 65536 in
set_option maxHeartbeats 40000000 in
theorem rm2 (l : Launch) (Z : State) (a0 : Array Value) (hw : ∀ d ∈ tables_1, d.before a0 Z = true) (ws : List Jvm.Cond) (a : Int64) (b : Int64) (h0 : Heap) (n0 : Nat) (Z0 : n0 ≤ h0.size)  :
    Con l Z (⟨"com/example/farthing/farthing/model/Compact", "subtract", "(JJ)J"⟩ : MethodName) prog_9_method_4_code 6 (some .long) ws ({ frames := 0, cells := 0, slots := 0, locals := 0 } : Room) #[(.long a), (.long b)] h0 n0 (fun v h => v = some (.long (f2 a b)) ∧ h = h0) := by
  refine Con.of pn_2 ?_
  intro G p e s m below meth c s₁ hs hx hby hml hown hnm hret hZ X0 fin
  have hml : c.maxLocals = 6 := hml
  have hown : s.vm.findClass "com/example/farthing/farthing/model/Compact" = some m.cls := hown
  rw [ef_2]
  show G s₁ (mkF m 0 #[.val (.long a), .second, .val (.long b), .second, .unset, .unset] [])
  refine hs.go (fun _ kk_ => XS.lloadN X0.here hx rfl (hb hby d2_0) rfl  kk_) ?_
  show G s₁ (mkF m 1 #[.val (.long a), .second, .val (.long b), .second, .unset, .unset] [(.long a)])
  refine hs.go (fun _ kk_ => XS.lloadN X0.here hx rfl (hb hby d2_1) rfl  kk_) ?_
  show G s₁ (mkF m 2 #[.val (.long a), .second, .val (.long b), .second, .unset, .unset] [(.long b), (.long a)])
  refine hs.go (fun _ kk_ => XS.lsub X0.here hx rfl (hb hby d2_2) rfl kk_) ?_
  show G s₁ (mkF m 3 #[.val (.long a), .second, .val (.long b), .second, .unset, .unset] [(.long (a - b))])
  refine nameIt (P := fun zz_ : Int64 => G s₁ (mkF m 3 #[.val (.long a), .second, .val (.long b), .second, .unset, .unset] [(.long zz_)])) (a - b) (fun df hdf => ?_)
  show G s₁ (mkF m 3 #[.val (.long a), .second, .val (.long b), .second, .unset, .unset] [(.long df)])
  refine hs.go (fun _ kk_ => XS.lstore X0.here hx rfl (hb hby d2_3) rfl (l' := #[.val (.long a), .second, .val (.long b), .second, .val (.long df), .second]) rfl kk_) ?_
  show G s₁ (mkF m 5 #[.val (.long a), .second, .val (.long b), .second, .val (.long df), .second] [])
  refine hs.go (fun _ kk_ => XS.lloadN X0.here hx rfl (hb hby d2_5) rfl  kk_) ?_
  show G s₁ (mkF m 6 #[.val (.long a), .second, .val (.long b), .second, .val (.long df), .second] [(.long a)])
  refine rLdcL hs X0 hx hZ hown (hw _ (List.mem_of_getElem? (i := 9) rfl)) rfl (hb hby d2_6) ?_
  show G s₁ (mkF m 9 #[.val (.long a), .second, .val (.long b), .second, .val (.long df), .second] [(.long (-9223372036854775808 : Int64)), (.long a)])
  refine hs.go (fun _ kk_ => XS.lcmp X0.here hx rfl (hb hby d2_9) rfl kk_) ?_
  show G s₁ (mkF m 10 #[.val (.long a), .second, .val (.long b), .second, .val (.long df), .second] [(.int (lcmpW a (-9223372036854775808 : Int64)))])
  by_cases c10 : a = (-9223372036854775808 : Int64)
  · refine hs.go (fun _ kk_ => XS.ifYes X0.here hx rfl (pc0 := 10) (pc' := 34) rfl (hb hby d2_10) rfl ((if0 _ _).trans (eqL c10).1) (by decide) (by decide) kk_) ?_
    show G s₁ (mkF m 34 #[.val (.long a), .second, .val (.long b), .second, .val (.long df), .second] [])
    refine rLdcL hs X0 hx hZ hown (hw _ (List.mem_of_getElem? (i := 9) rfl)) rfl (hb hby d2_34) ?_
    show G s₁ (mkF m 37 #[.val (.long a), .second, .val (.long b), .second, .val (.long df), .second] [(.long (-9223372036854775808 : Int64))])
    refine hs.go (fun _ kk_ => XS.goto X0.here hx rfl (pc0 := 37) (pc' := 42) rfl (hb hby d2_37) (by decide) (by decide) kk_) ?_
    show G s₁ (mkF m 42 #[.val (.long a), .second, .val (.long b), .second, .val (.long df), .second] [(.long (-9223372036854775808 : Int64))])
    exact rRetL fin X0 hx (by decide) (by decide) hret (hb hby d2_42) ⟨by subst hdf; rw [f2, if_pos c10], rfl⟩
  · refine hs.go (fun _ kk_ => XS.ifNo X0.here hx rfl (hb hby d2_10) rfl ((if0 _ _).trans (neqL c10).1) kk_) ?_
    show G s₁ (mkF m 13 #[.val (.long a), .second, .val (.long b), .second, .val (.long df), .second] [])
    refine hs.go (fun _ kk_ => XS.lloadN X0.here hx rfl (hb hby d2_13) rfl  kk_) ?_
    show G s₁ (mkF m 14 #[.val (.long a), .second, .val (.long b), .second, .val (.long df), .second] [(.long b)])
    refine rLdcL hs X0 hx hZ hown (hw _ (List.mem_of_getElem? (i := 9) rfl)) rfl (hb hby d2_14) ?_
    show G s₁ (mkF m 17 #[.val (.long a), .second, .val (.long b), .second, .val (.long df), .second] [(.long (-9223372036854775808 : Int64)), (.long b)])
    refine hs.go (fun _ kk_ => XS.lcmp X0.here hx rfl (hb hby d2_17) rfl kk_) ?_
    show G s₁ (mkF m 18 #[.val (.long a), .second, .val (.long b), .second, .val (.long df), .second] [(.int (lcmpW b (-9223372036854775808 : Int64)))])
    by_cases c18 : b = (-9223372036854775808 : Int64)
    · refine hs.go (fun _ kk_ => XS.ifYes X0.here hx rfl (pc0 := 18) (pc' := 34) rfl (hb hby d2_18) rfl ((if0 _ _).trans (eqL c18).1) (by decide) (by decide) kk_) ?_
      show G s₁ (mkF m 34 #[.val (.long a), .second, .val (.long b), .second, .val (.long df), .second] [])
      refine rLdcL hs X0 hx hZ hown (hw _ (List.mem_of_getElem? (i := 9) rfl)) rfl (hb hby d2_34) ?_
      show G s₁ (mkF m 37 #[.val (.long a), .second, .val (.long b), .second, .val (.long df), .second] [(.long (-9223372036854775808 : Int64))])
      refine hs.go (fun _ kk_ => XS.goto X0.here hx rfl (pc0 := 37) (pc' := 42) rfl (hb hby d2_37) (by decide) (by decide) kk_) ?_
      show G s₁ (mkF m 42 #[.val (.long a), .second, .val (.long b), .second, .val (.long df), .second] [(.long (-9223372036854775808 : Int64))])
      exact rRetL fin X0 hx (by decide) (by decide) hret (hb hby d2_42) ⟨by subst hdf; rw [f2, if_neg c10, if_pos c18], rfl⟩
    · refine hs.go (fun _ kk_ => XS.ifNo X0.here hx rfl (hb hby d2_18) rfl ((if0 _ _).trans (neqL c18).1) kk_) ?_
      show G s₁ (mkF m 21 #[.val (.long a), .second, .val (.long b), .second, .val (.long df), .second] [])
      refine hs.go (fun _ kk_ => XS.lloadN X0.here hx rfl (hb hby d2_21) rfl  kk_) ?_
      show G s₁ (mkF m 22 #[.val (.long a), .second, .val (.long b), .second, .val (.long df), .second] [(.long a)])
      refine hs.go (fun _ kk_ => XS.lloadN X0.here hx rfl (hb hby d2_22) rfl  kk_) ?_
      show G s₁ (mkF m 23 #[.val (.long a), .second, .val (.long b), .second, .val (.long df), .second] [(.long b), (.long a)])
      refine hs.go (fun _ kk_ => XS.lxor X0.here hx rfl (hb hby d2_23) rfl kk_) ?_
      show G s₁ (mkF m 24 #[.val (.long a), .second, .val (.long b), .second, .val (.long df), .second] [(.long (a ^^^ b))])
      refine hs.go (fun _ kk_ => XS.lloadN X0.here hx rfl (hb hby d2_24) rfl  kk_) ?_
      show G s₁ (mkF m 25 #[.val (.long a), .second, .val (.long b), .second, .val (.long df), .second] [(.long a), (.long (a ^^^ b))])
      refine hs.go (fun _ kk_ => XS.lload X0.here hx rfl (hb hby d2_25) rfl  kk_) ?_
      show G s₁ (mkF m 27 #[.val (.long a), .second, .val (.long b), .second, .val (.long df), .second] [(.long df), (.long a), (.long (a ^^^ b))])
      refine hs.go (fun _ kk_ => XS.lxor X0.here hx rfl (hb hby d2_27) rfl kk_) ?_
      show G s₁ (mkF m 28 #[.val (.long a), .second, .val (.long b), .second, .val (.long df), .second] [(.long (a ^^^ df)), (.long (a ^^^ b))])
      refine hs.go (fun _ kk_ => XS.land X0.here hx rfl (hb hby d2_28) rfl kk_) ?_
      show G s₁ (mkF m 29 #[.val (.long a), .second, .val (.long b), .second, .val (.long df), .second] [(.long ((a ^^^ b) &&& (a ^^^ df)))])
      refine hs.go (fun _ kk_ => XS.lconst X0.here hx rfl (hb hby d2_29) kk_) ?_
      show G s₁ (mkF m 30 #[.val (.long a), .second, .val (.long b), .second, .val (.long df), .second] [(.long (0 : Int64)), (.long ((a ^^^ b) &&& (a ^^^ df)))])
      refine hs.go (fun _ kk_ => XS.lcmp X0.here hx rfl (hb hby d2_30) rfl kk_) ?_
      show G s₁ (mkF m 31 #[.val (.long a), .second, .val (.long b), .second, .val (.long df), .second] [(.int (lcmpW ((a ^^^ b) &&& (a ^^^ df)) (0 : Int64)))])
      by_cases c31 : ((a ^^^ b) &&& (a ^^^ df)) < (0 : Int64)
      · refine hs.go (fun _ kk_ => XS.ifNo X0.here hx rfl (hb hby d2_31) rfl ((if0 _ _).trans (ltL c31).2) kk_) ?_
        show G s₁ (mkF m 34 #[.val (.long a), .second, .val (.long b), .second, .val (.long df), .second] [])
        refine rLdcL hs X0 hx hZ hown (hw _ (List.mem_of_getElem? (i := 9) rfl)) rfl (hb hby d2_34) ?_
        show G s₁ (mkF m 37 #[.val (.long a), .second, .val (.long b), .second, .val (.long df), .second] [(.long (-9223372036854775808 : Int64))])
        refine hs.go (fun _ kk_ => XS.goto X0.here hx rfl (pc0 := 37) (pc' := 42) rfl (hb hby d2_37) (by decide) (by decide) kk_) ?_
        show G s₁ (mkF m 42 #[.val (.long a), .second, .val (.long b), .second, .val (.long df), .second] [(.long (-9223372036854775808 : Int64))])
        exact rRetL fin X0 hx (by decide) (by decide) hret (hb hby d2_42) ⟨by subst hdf; rw [f2, if_neg c10, if_neg c18, if_pos c31], rfl⟩
      · refine hs.go (fun _ kk_ => XS.ifYes X0.here hx rfl (pc0 := 31) (pc' := 40) rfl (hb hby d2_31) rfl ((if0 _ _).trans (nltL c31).2) (by decide) (by decide) kk_) ?_
        show G s₁ (mkF m 40 #[.val (.long a), .second, .val (.long b), .second, .val (.long df), .second] [])
        refine hs.go (fun _ kk_ => XS.lload X0.here hx rfl (hb hby d2_40) rfl  kk_) ?_
        show G s₁ (mkF m 42 #[.val (.long a), .second, .val (.long b), .second, .val (.long df), .second] [(.long df)])
        exact rRetL fin X0 hx (by decide) (by decide) hret (hb hby d2_42) ⟨by subst hdf; rw [f2, if_neg c10, if_neg c18, if_neg c31], rfl⟩

theorem own_law (a b : Int64) {j : Int64}
    (K : (a = (-9223372036854775808 : Int64) ∧ j = (-9223372036854775808 : Int64)) ∨ (¬ (a = (-9223372036854775808 : Int64)) ∧ b = (-9223372036854775808 : Int64) ∧ j = (-9223372036854775808 : Int64)) ∨ (¬ (a = (-9223372036854775808 : Int64)) ∧ ¬ (b = (-9223372036854775808 : Int64)) ∧ f1 a b = (0 : Int32) ∧ j = (a - b)) ∨ (¬ (a = (-9223372036854775808 : Int64)) ∧ ¬ (b = (-9223372036854775808 : Int64)) ∧ ¬ (f1 a b = (0 : Int32)) ∧ j = (-9223372036854775808 : Int64))) : f2 a b = j := by
  have ra := rng64 a
  have rb := rng64 b
  have a1 := c_lsub a b
  have a2 := rng64 (a - b)
  have a3 := c_ladd (-9223372036854775808 : Int64) b
  have a4 := rng64 ((-9223372036854775808 : Int64) + b)
  have a5 := c_ladd (9223372036854775807 : Int64) b
  have a6 := rng64 ((9223372036854775807 : Int64) + b)
  have kz : (0 : Int64).toInt = 0 := rfl
  have kmin : (-9223372036854775808 : Int64).toInt = -9223372036854775808 := rfl
  have kmax : (9223372036854775807 : Int64).toInt = 9223372036854775807 := rfl
  have k3 : (0 : Int32).toInt = 0 := rfl
  have k4 : (1 : Int32).toInt = 1 := rfl
  rw [kmin] at a3
  rw [kmax] at a5
  have F : ((0 < b.toInt ∧ a.toInt - b.toInt < -9223372036854775808 ∨ b.toInt < 0 ∧ 9223372036854775807 < a.toInt - b.toInt) ∧ (f1 a b).toInt = 1) ∨ (-9223372036854775808 ≤ a.toInt - b.toInt ∧ a.toInt - b.toInt ≤ 9223372036854775807 ∧ (f1 a b).toInt = 0) := by
    unfold f1
    simp only [lt64, kz]
    repeat' split
    all_goals (first | rw [k3] | rw [k4])
    all_goals omega
  have x1 := c_xorSL a b
  have x2 := c_xorSL a (a - b)
  have x3 := c_andSL (a ^^^ b) (a ^^^ (a - b))
  simp only [e64, e32, kmin, k3] at K
  simp only [f2]
  by_cases c1 : a = (-9223372036854775808 : Int64)
  · rw [if_pos c1]; apply eq64; rw [e64, kmin] at c1; rw [kmin]; omega
  rw [if_neg c1]; rw [e64, kmin] at c1
  by_cases c2 : b = (-9223372036854775808 : Int64)
  · rw [if_pos c2]; apply eq64; rw [e64, kmin] at c2; rw [kmin]; omega
  rw [if_neg c2]; rw [e64, kmin] at c2
  generalize (f1 a b).toInt = fv at *
  generalize hs : a - b = s at *
  by_cases c3 : ((a ^^^ b) &&& (a ^^^ s)) < (0 : Int64)
  · rw [if_pos c3]; apply eq64; rw [lt64, kz] at c3; rw [kmin]
    generalize ((a ^^^ b) &&& (a ^^^ s)).toInt = q at *
    generalize (a ^^^ b).toInt = q1 at *
    generalize (a ^^^ s).toInt = q2 at *
    rcases Int.lt_or_le s.toInt 0 with u | u <;> omega
  · rw [if_neg c3]; apply eq64; rw [lt64, kz] at c3
    generalize ((a ^^^ b) &&& (a ^^^ s)).toInt = q at *
    generalize (a ^^^ b).toInt = q1 at *
    generalize (a ^^^ s).toInt = q2 at *
    rcases Int.lt_or_le s.toInt 0 with u | u <;> omega

theorem pd_0 : parseMethodDescriptor "(JJ)Z" = some ⟨[.long, .long], some .boolean⟩ := by decide +kernel
theorem pd_1 : parseMethodDescriptor "(JJ)J" = some ⟨[.long, .long], some .long⟩ := by decide +kernel
theorem pn_0 : plainFor x = true := plainFor_of_name (show plainName "com/example/farthing/farthing/model/CompactSubtractPinLaw" = true by first | (simp [plainName, overriddenIn]; done) | decide +kernel)
theorem ef_0 (m : MethodId) (x0 : Int64) (x1 : Int64) : entryFrame m #[(.long x0), (.long x1)] maxLocals = mkF m 0 #[.val (.long x0), .second, .val (.long x1), .second, .unset, .unset, .unset, .unset, .unset, .unset] [] := by first | (simp [entryFrame, mkF, argsToLocals, Value.category, maxLocals]; done) | rfl
set_option maxRecDepth 65536 in
set_option maxHeartbeats 40000000 in
theorem rm0 (l : Launch) (Z : State) (a0 : Array Value) (hw : ∀ d ∈ tables_1, d.before a0 Z = true) (ws : List Jvm.Cond) (a b : Int64) (h0 : Heap) (n0 : Nat) (Z0 : n0 ≤ h0.size)  :
    Con l Z x code maxLocals ret ws room_1 #[(.long a), (.long b)] h0 n0 (fun v h => v = some (.int 1)) := by
  refine Con.of pn_0 ?_
  intro G p e s m below meth c s₁ hs hx hby hml hown hnm hret hZ X0 fin
  have hml : c.maxLocals = 10 := hml
  have hown : s.vm.findClass "com/example/farthing/farthing/model/CompactSubtractPinLaw" = some m.cls := hown
  rw [ef_0]
  show G s₁ (mkF m 0 #[.val (.long a), .second, .val (.long b), .second, .unset, .unset, .unset, .unset, .unset, .unset] [])
  refine rLdcL hs X0 hx hZ hown (hw _ (List.mem_of_getElem? (i := 0) rfl)) rfl (hb hby at_0) ?_
  show G s₁ (mkF m 3 #[.val (.long a), .second, .val (.long b), .second, .unset, .unset, .unset, .unset, .unset, .unset] [(.long (-9223372036854775808 : Int64))])
  refine hs.go (fun _ kk_ => XS.lstore X0.here hx rfl (hb hby at_3) rfl (l' := #[.val (.long a), .second, .val (.long b), .second, .val (.long (-9223372036854775808 : Int64)), .second, .unset, .unset, .unset, .unset]) rfl kk_) ?_
  show G s₁ (mkF m 5 #[.val (.long a), .second, .val (.long b), .second, .val (.long (-9223372036854775808 : Int64)), .second, .unset, .unset, .unset, .unset] [])
  have J46 : ∀ (Tj1 : State) (j : Int64), Sd p l e room_1 s m #[(.long a), (.long b)] below meth c n0 Tj1 h0 0 0 → ((a = (-9223372036854775808 : Int64) ∧ j = (-9223372036854775808 : Int64)) ∨ (¬ (a = (-9223372036854775808 : Int64)) ∧ b = (-9223372036854775808 : Int64) ∧ j = (-9223372036854775808 : Int64)) ∨ (¬ (a = (-9223372036854775808 : Int64)) ∧ ¬ (b = (-9223372036854775808 : Int64)) ∧ (f1 a b) = (0 : Int32) ∧ j = (a - b)) ∨ (¬ (a = (-9223372036854775808 : Int64)) ∧ ¬ (b = (-9223372036854775808 : Int64)) ∧ ¬ ((f1 a b) = (0 : Int32)) ∧ j = (-9223372036854775808 : Int64))) → G Tj1 (mkF m 46 #[.val (.long a), .second, .val (.long b), .second, .val (.long (-9223372036854775808 : Int64)), .second, .val (.long j), .second, .unset, .unset] []) := by
    intro Tj1 j XTj1 hJ46
    show G Tj1 (mkF m 46 #[.val (.long a), .second, .val (.long b), .second, .val (.long (-9223372036854775808 : Int64)), .second, .val (.long j), .second, .unset, .unset] [])
    refine hs.go (fun _ kk_ => XS.lloadN XTj1.here hx rfl (hb hby at_46) rfl  kk_) ?_
    show G Tj1 (mkF m 47 #[.val (.long a), .second, .val (.long b), .second, .val (.long (-9223372036854775808 : Int64)), .second, .val (.long j), .second, .unset, .unset] [(.long a)])
    refine hs.go (fun _ kk_ => XS.lloadN XTj1.here hx rfl (hb hby at_47) rfl  kk_) ?_
    show G Tj1 (mkF m 48 #[.val (.long a), .second, .val (.long b), .second, .val (.long (-9223372036854775808 : Int64)), .second, .val (.long j), .second, .unset, .unset] [(.long b), (.long a)])
    refine rCallS hs XTj1 hx hZ (as' := [(.long a), (.long b)]) (rm2 l Z a0 hw [] a b h0 n0 Z0) hown (hw _ (List.mem_of_getElem? (i := 5) rfl)) (hw _ (List.mem_of_getElem? (i := 6) rfl)) (hw _ (List.mem_of_getElem? (i := 7) rfl)) (hw _ (List.mem_of_getElem? (i := 8) rfl)) hy_2 rfl (by rw [hml]; rfl) [] (lenOf pd_1 rfl) rfl 0 (by show 2 * 0 + _ ≤ _; exact Nat.le_of_eq rfl) (hb hby at_48) (by decide) (by decide) (by decide) (by decide) (fun r2 T2 h2 X2 q2 => ?_)
    obtain ⟨rfl, qh2⟩ := q2
    rw [qh2] at X2
    show G T2 (mkF m 51 #[.val (.long a), .second, .val (.long b), .second, .val (.long (-9223372036854775808 : Int64)), .second, .val (.long j), .second, .unset, .unset] [(.long (f2 a b))])
    refine nameIt (P := fun zz_ : Int64 => G T2 (mkF m 51 #[.val (.long a), .second, .val (.long b), .second, .val (.long (-9223372036854775808 : Int64)), .second, .val (.long j), .second, .unset, .unset] [(.long zz_)])) (f2 a b) (fun ac hac => ?_)
    show G T2 (mkF m 51 #[.val (.long a), .second, .val (.long b), .second, .val (.long (-9223372036854775808 : Int64)), .second, .val (.long j), .second, .unset, .unset] [(.long ac)])
    refine hs.go (fun _ kk_ => XS.lstore X2.here hx rfl (hb hby at_51) rfl (l' := #[.val (.long a), .second, .val (.long b), .second, .val (.long (-9223372036854775808 : Int64)), .second, .val (.long j), .second, .val (.long ac), .second]) rfl kk_) ?_
    show G T2 (mkF m 53 #[.val (.long a), .second, .val (.long b), .second, .val (.long (-9223372036854775808 : Int64)), .second, .val (.long j), .second, .val (.long ac), .second] [])
    refine hs.go (fun _ kk_ => XS.lload X2.here hx rfl (hb hby at_53) rfl  kk_) ?_
    show G T2 (mkF m 55 #[.val (.long a), .second, .val (.long b), .second, .val (.long (-9223372036854775808 : Int64)), .second, .val (.long j), .second, .val (.long ac), .second] [(.long ac)])
    refine hs.go (fun _ kk_ => XS.lload X2.here hx rfl (hb hby at_55) rfl  kk_) ?_
    show G T2 (mkF m 57 #[.val (.long a), .second, .val (.long b), .second, .val (.long (-9223372036854775808 : Int64)), .second, .val (.long j), .second, .val (.long ac), .second] [(.long j), (.long ac)])
    refine hs.go (fun _ kk_ => XS.lcmp X2.here hx rfl (hb hby at_57) rfl kk_) ?_
    show G T2 (mkF m 58 #[.val (.long a), .second, .val (.long b), .second, .val (.long (-9223372036854775808 : Int64)), .second, .val (.long j), .second, .val (.long ac), .second] [(.int (lcmpW ac j))])
    refine hs.go (fun _ kk_ => XS.ifNo X2.here hx rfl (hb hby at_58) rfl ((if0 _ _).trans (eqL (hac.trans (own_law a b hJ46) : ac = j)).2) kk_) ?_
    show G T2 (mkF m 61 #[.val (.long a), .second, .val (.long b), .second, .val (.long (-9223372036854775808 : Int64)), .second, .val (.long j), .second, .val (.long ac), .second] [])
    refine hs.go (fun _ kk_ => XS.iconst X2.here hx rfl (hb hby at_61) kk_) ?_
    show G T2 (mkF m 62 #[.val (.long a), .second, .val (.long b), .second, .val (.long (-9223372036854775808 : Int64)), .second, .val (.long j), .second, .val (.long ac), .second] [(.int (1 : Int32))])
    refine hs.go (fun _ kk_ => XS.goto X2.here hx rfl (pc0 := 62) (pc' := 66) rfl (hb hby at_62) (by decide) (by decide) kk_) ?_
    show G T2 (mkF m 66 #[.val (.long a), .second, .val (.long b), .second, .val (.long (-9223372036854775808 : Int64)), .second, .val (.long j), .second, .val (.long ac), .second] [(.int (1 : Int32))])
    exact rRetN fin X2 hx (by decide) (by decide) hret (by simp) (hb hby at_66) (z' := (1 : Int32)) (by decide) rfl
  refine hs.go (fun _ kk_ => XS.lloadN X0.here hx rfl (hb hby at_5) rfl  kk_) ?_
  show G s₁ (mkF m 6 #[.val (.long a), .second, .val (.long b), .second, .val (.long (-9223372036854775808 : Int64)), .second, .unset, .unset, .unset, .unset] [(.long a)])
  refine hs.go (fun _ kk_ => XS.lload X0.here hx rfl (hb hby at_6) rfl  kk_) ?_
  show G s₁ (mkF m 8 #[.val (.long a), .second, .val (.long b), .second, .val (.long (-9223372036854775808 : Int64)), .second, .unset, .unset, .unset, .unset] [(.long (-9223372036854775808 : Int64)), (.long a)])
  refine hs.go (fun _ kk_ => XS.lcmp X0.here hx rfl (hb hby at_8) rfl kk_) ?_
  show G s₁ (mkF m 9 #[.val (.long a), .second, .val (.long b), .second, .val (.long (-9223372036854775808 : Int64)), .second, .unset, .unset, .unset, .unset] [(.int (lcmpW a (-9223372036854775808 : Int64)))])
  by_cases c9 : a = (-9223372036854775808 : Int64)
  · refine hs.go (fun _ kk_ => XS.ifYes X0.here hx rfl (pc0 := 9) (pc' := 19) rfl (hb hby at_9) rfl ((if0 _ _).trans (eqL c9).1) (by decide) (by decide) kk_) ?_
    show G s₁ (mkF m 19 #[.val (.long a), .second, .val (.long b), .second, .val (.long (-9223372036854775808 : Int64)), .second, .unset, .unset, .unset, .unset] [])
    refine hs.go (fun _ kk_ => XS.lload X0.here hx rfl (hb hby at_19) rfl  kk_) ?_
    show G s₁ (mkF m 21 #[.val (.long a), .second, .val (.long b), .second, .val (.long (-9223372036854775808 : Int64)), .second, .unset, .unset, .unset, .unset] [(.long (-9223372036854775808 : Int64))])
    refine hs.go (fun _ kk_ => XS.lstore X0.here hx rfl (hb hby at_21) rfl (l' := #[.val (.long a), .second, .val (.long b), .second, .val (.long (-9223372036854775808 : Int64)), .second, .val (.long (-9223372036854775808 : Int64)), .second, .unset, .unset]) rfl kk_) ?_
    show G s₁ (mkF m 23 #[.val (.long a), .second, .val (.long b), .second, .val (.long (-9223372036854775808 : Int64)), .second, .val (.long (-9223372036854775808 : Int64)), .second, .unset, .unset] [])
    refine hs.go (fun _ kk_ => XS.goto X0.here hx rfl (pc0 := 23) (pc' := 46) rfl (hb hby at_23) (by decide) (by decide) kk_) ?_
    show G s₁ (mkF m 46 #[.val (.long a), .second, .val (.long b), .second, .val (.long (-9223372036854775808 : Int64)), .second, .val (.long (-9223372036854775808 : Int64)), .second, .unset, .unset] [])
    exact J46 _ _ (X0.more (by decide) (by decide)) (Or.inl (⟨c9, rfl⟩))
  · refine hs.go (fun _ kk_ => XS.ifNo X0.here hx rfl (hb hby at_9) rfl ((if0 _ _).trans (neqL c9).1) kk_) ?_
    show G s₁ (mkF m 12 #[.val (.long a), .second, .val (.long b), .second, .val (.long (-9223372036854775808 : Int64)), .second, .unset, .unset, .unset, .unset] [])
    refine hs.go (fun _ kk_ => XS.lloadN X0.here hx rfl (hb hby at_12) rfl  kk_) ?_
    show G s₁ (mkF m 13 #[.val (.long a), .second, .val (.long b), .second, .val (.long (-9223372036854775808 : Int64)), .second, .unset, .unset, .unset, .unset] [(.long b)])
    refine hs.go (fun _ kk_ => XS.lload X0.here hx rfl (hb hby at_13) rfl  kk_) ?_
    show G s₁ (mkF m 15 #[.val (.long a), .second, .val (.long b), .second, .val (.long (-9223372036854775808 : Int64)), .second, .unset, .unset, .unset, .unset] [(.long (-9223372036854775808 : Int64)), (.long b)])
    refine hs.go (fun _ kk_ => XS.lcmp X0.here hx rfl (hb hby at_15) rfl kk_) ?_
    show G s₁ (mkF m 16 #[.val (.long a), .second, .val (.long b), .second, .val (.long (-9223372036854775808 : Int64)), .second, .unset, .unset, .unset, .unset] [(.int (lcmpW b (-9223372036854775808 : Int64)))])
    by_cases c16 : b = (-9223372036854775808 : Int64)
    · refine hs.go (fun _ kk_ => XS.ifNo X0.here hx rfl (hb hby at_16) rfl ((if0 _ _).trans (eqL c16).2) kk_) ?_
      show G s₁ (mkF m 19 #[.val (.long a), .second, .val (.long b), .second, .val (.long (-9223372036854775808 : Int64)), .second, .unset, .unset, .unset, .unset] [])
      refine hs.go (fun _ kk_ => XS.lload X0.here hx rfl (hb hby at_19) rfl  kk_) ?_
      show G s₁ (mkF m 21 #[.val (.long a), .second, .val (.long b), .second, .val (.long (-9223372036854775808 : Int64)), .second, .unset, .unset, .unset, .unset] [(.long (-9223372036854775808 : Int64))])
      refine hs.go (fun _ kk_ => XS.lstore X0.here hx rfl (hb hby at_21) rfl (l' := #[.val (.long a), .second, .val (.long b), .second, .val (.long (-9223372036854775808 : Int64)), .second, .val (.long (-9223372036854775808 : Int64)), .second, .unset, .unset]) rfl kk_) ?_
      show G s₁ (mkF m 23 #[.val (.long a), .second, .val (.long b), .second, .val (.long (-9223372036854775808 : Int64)), .second, .val (.long (-9223372036854775808 : Int64)), .second, .unset, .unset] [])
      refine hs.go (fun _ kk_ => XS.goto X0.here hx rfl (pc0 := 23) (pc' := 46) rfl (hb hby at_23) (by decide) (by decide) kk_) ?_
      show G s₁ (mkF m 46 #[.val (.long a), .second, .val (.long b), .second, .val (.long (-9223372036854775808 : Int64)), .second, .val (.long (-9223372036854775808 : Int64)), .second, .unset, .unset] [])
      exact J46 _ _ (X0.more (by decide) (by decide)) (Or.inr (Or.inl (⟨c9, c16, rfl⟩)))
    · refine hs.go (fun _ kk_ => XS.ifYes X0.here hx rfl (pc0 := 16) (pc' := 26) rfl (hb hby at_16) rfl ((if0 _ _).trans (neqL c16).2) (by decide) (by decide) kk_) ?_
      show G s₁ (mkF m 26 #[.val (.long a), .second, .val (.long b), .second, .val (.long (-9223372036854775808 : Int64)), .second, .unset, .unset, .unset, .unset] [])
      refine hs.go (fun _ kk_ => XS.lloadN X0.here hx rfl (hb hby at_26) rfl  kk_) ?_
      show G s₁ (mkF m 27 #[.val (.long a), .second, .val (.long b), .second, .val (.long (-9223372036854775808 : Int64)), .second, .unset, .unset, .unset, .unset] [(.long a)])
      refine hs.go (fun _ kk_ => XS.lloadN X0.here hx rfl (hb hby at_27) rfl  kk_) ?_
      show G s₁ (mkF m 28 #[.val (.long a), .second, .val (.long b), .second, .val (.long (-9223372036854775808 : Int64)), .second, .unset, .unset, .unset, .unset] [(.long b), (.long a)])
      refine rCallS hs X0 hx hZ (as' := [(.long a), (.long b)]) (rm1 l Z a0 hw [] a b h0 n0 Z0) hown (hw _ (List.mem_of_getElem? (i := 1) rfl)) (hw _ (List.mem_of_getElem? (i := 2) rfl)) (hw _ (List.mem_of_getElem? (i := 3) rfl)) (hw _ (List.mem_of_getElem? (i := 4) rfl)) hy_1 rfl (by rw [hml]; rfl) [] (lenOf pd_0 rfl) rfl 0 (by show 2 * 0 + _ ≤ _; exact Nat.le_of_eq rfl) (hb hby at_28) (by decide) (by decide) (by decide) (by decide) (fun r3 T3 h3 X3 q3 => ?_)
      obtain ⟨rfl, qh3⟩ := q3
      rw [qh3] at X3
      show G T3 (mkF m 31 #[.val (.long a), .second, .val (.long b), .second, .val (.long (-9223372036854775808 : Int64)), .second, .unset, .unset, .unset, .unset] [(.int (f1 a b))])
      by_cases c31 : (f1 a b) = (0 : Int32)
      · refine hs.go (fun _ kk_ => XS.ifYes X3.here hx rfl (pc0 := 31) (pc' := 41) rfl (hb hby at_31) rfl ((if0 _ _).trans (teq c31).1) (by decide) (by decide) kk_) ?_
        show G T3 (mkF m 41 #[.val (.long a), .second, .val (.long b), .second, .val (.long (-9223372036854775808 : Int64)), .second, .unset, .unset, .unset, .unset] [])
        refine hs.go (fun _ kk_ => XS.lloadN X3.here hx rfl (hb hby at_41) rfl  kk_) ?_
        show G T3 (mkF m 42 #[.val (.long a), .second, .val (.long b), .second, .val (.long (-9223372036854775808 : Int64)), .second, .unset, .unset, .unset, .unset] [(.long a)])
        refine hs.go (fun _ kk_ => XS.lloadN X3.here hx rfl (hb hby at_42) rfl  kk_) ?_
        show G T3 (mkF m 43 #[.val (.long a), .second, .val (.long b), .second, .val (.long (-9223372036854775808 : Int64)), .second, .unset, .unset, .unset, .unset] [(.long b), (.long a)])
        refine hs.go (fun _ kk_ => XS.lsub X3.here hx rfl (hb hby at_43) rfl kk_) ?_
        show G T3 (mkF m 44 #[.val (.long a), .second, .val (.long b), .second, .val (.long (-9223372036854775808 : Int64)), .second, .unset, .unset, .unset, .unset] [(.long (a - b))])
        refine nameIt (P := fun zz_ : Int64 => G T3 (mkF m 44 #[.val (.long a), .second, .val (.long b), .second, .val (.long (-9223372036854775808 : Int64)), .second, .unset, .unset, .unset, .unset] [(.long zz_)])) (a - b) (fun df hdf => ?_)
        show G T3 (mkF m 44 #[.val (.long a), .second, .val (.long b), .second, .val (.long (-9223372036854775808 : Int64)), .second, .unset, .unset, .unset, .unset] [(.long df)])
        refine hs.go (fun _ kk_ => XS.lstore X3.here hx rfl (hb hby at_44) rfl (l' := #[.val (.long a), .second, .val (.long b), .second, .val (.long (-9223372036854775808 : Int64)), .second, .val (.long df), .second, .unset, .unset]) rfl kk_) ?_
        show G T3 (mkF m 46 #[.val (.long a), .second, .val (.long b), .second, .val (.long (-9223372036854775808 : Int64)), .second, .val (.long df), .second, .unset, .unset] [])
        subst hdf
        exact J46 _ _ (X3.more (by decide) (by decide)) (Or.inr (Or.inr (Or.inl (⟨c9, c16, c31, rfl⟩))))
      · refine hs.go (fun _ kk_ => XS.ifNo X3.here hx rfl (hb hby at_31) rfl ((if0 _ _).trans (feq c31).1) kk_) ?_
        show G T3 (mkF m 34 #[.val (.long a), .second, .val (.long b), .second, .val (.long (-9223372036854775808 : Int64)), .second, .unset, .unset, .unset, .unset] [])
        refine hs.go (fun _ kk_ => XS.lload X3.here hx rfl (hb hby at_34) rfl  kk_) ?_
        show G T3 (mkF m 36 #[.val (.long a), .second, .val (.long b), .second, .val (.long (-9223372036854775808 : Int64)), .second, .unset, .unset, .unset, .unset] [(.long (-9223372036854775808 : Int64))])
        refine hs.go (fun _ kk_ => XS.lstore X3.here hx rfl (hb hby at_36) rfl (l' := #[.val (.long a), .second, .val (.long b), .second, .val (.long (-9223372036854775808 : Int64)), .second, .val (.long (-9223372036854775808 : Int64)), .second, .unset, .unset]) rfl kk_) ?_
        show G T3 (mkF m 38 #[.val (.long a), .second, .val (.long b), .second, .val (.long (-9223372036854775808 : Int64)), .second, .val (.long (-9223372036854775808 : Int64)), .second, .unset, .unset] [])
        refine hs.go (fun _ kk_ => XS.goto X3.here hx rfl (pc0 := 38) (pc' := 46) rfl (hb hby at_38) (by decide) (by decide) kk_) ?_
        show G T3 (mkF m 46 #[.val (.long a), .second, .val (.long b), .second, .val (.long (-9223372036854775808 : Int64)), .second, .val (.long (-9223372036854775808 : Int64)), .second, .unset, .unset] [])
        exact J46 _ _ (X3.more (by decide) (by decide)) (Or.inr (Or.inr (Or.inr (⟨c9, c16, c31, rfl⟩))))
set_option maxRecDepth 65536 in
set_option maxHeartbeats 40000000 in
theorem comes_1 {Post : Tables → Env → Array Value → State → Outcome → State → Prop} (hpost : ∀ tb e args s v u, (limb_1_1.after args s (.returned v) u = true ∧ limb_1_2.after args s (.returned v) u = true ∧ True) → FrameEnd s (.returned v) u (Jvm.fieldLocs frame_1_writes args s ++ Jvm.arrayLocs frame_1_arrays args s ++ Jvm.staticLocs frame_1_statics s) 0 0 → Post tb e args s (.returned v) u) :
    ArmFor flags0 classFile x code maxLocals ret World_1 tables_1 room_1 Calls_1 rest_1 Pre_1 Post := by
  intro l hfl _ _ p e ha hc hk s m args below hf hA hF happ hP
  obtain ⟨hcalls, hrest, hpre⟩ := hP
  obtain ⟨-, -, -, hnamed, -, -, -, hat⟩ := (Spec.applies_iff hf).mp happ
  obtain ⟨hg, hn⟩ := and_e (Cond.before_iff.mp (show (Jvm.Cond.and given_1 narrow_1).before args s = true from hpre))
  obtain ⟨hcnt, hg0⟩ := and_e hg
  obtain ⟨t0, hg1⟩ := and_e hg0
  have t1 := hg1
  obtain ⟨w0, w1, rfl⟩ : ∃ w0 w1 : Value, args = #[w0, w1] := by
    have hs : args.size = 2 := by simpa [Cond.value, given_1] using hcnt
    obtain ⟨L⟩ := args
    match L, hs with
    | [w0, w1], _ => exact ⟨w0, w1, rfl⟩
  have hw := fun d (hd : d ∈ tables_1) => atoms_spec (ws := Jvm.Cond.code x code maxLocals ret :: tables_1) hat d (List.mem_cons_of_mem _ hd)
  have hfit : Fit s := fun {y c} hc i hi => by
    obtain ⟨ha, rfl⟩ := Array.getElem?_eq_some_iff.mp hc
    have q := List.all_eq_true.mp ((Array.all_eq_true_iff_forall_mem.mp hF) _ (Array.getElem_mem ha)) i (List.mem_range.mpr hi)
    simpa [Array.getElem?_eq_getElem hi] using q
  obtain ⟨i0, ei0⟩ := isL_v t0
  obtain rfl : w0 = (.long i0) := Option.some.inj ei0
  obtain ⟨i1, ei1⟩ := isL_v t1
  obtain rfl : w1 = (.long i1) := Option.some.inj ei1
  obtain ⟨n, o, h1, h2, h3, _, L, rfl, ⟨rfl, N⟩, hq⟩ := rm0 l s _ hw tables_1 i0 i1  s.heap s.heap.size (Nat.le_refl _)  p e ha hc hk s m _ below hf ((Spec.applies_iff_loose hf).mp happ).1 ⟨rfl, State.Warmed39.refl s, rfl⟩ trivial
  refine ⟨n, _, h1, h2, h3, hpost _ _ _ _ _ _ ⟨Cond.after_iff.mpr rfl, Cond.after_iff.mpr (eq_i res_at (Term.int_eval (1)) rfl), trivial⟩ ⟨hq.1, hq.2.1, (hq.2.2.sift fun y hy => Or.inr (N y hy)).mono (by decide) (by decide)⟩⟩
theorem main_1_1 : Claimed_1_1 := comes_1 fun _ _ _ _ _ _ h hF => ⟨h.1, hF⟩
theorem main_1_2 : Claimed_1_2 := comes_1 fun _ _ _ _ _ _ h hF => ⟨h.2.1, hF⟩
end Jvm.Pilot.@@N@@
namespace Jvm.Pilot.@@N@@
open Jvm Jvm.ClassFile Sem Op Lib Jvm.Free Jvm.Stand Jvm.Pilot.@@N@@.Jvm.D
/-! MADE BY PROGRAM (witnessworld.py) out of the Statement's table words and the real class files: 9 classes; the members and pool entries that the words name. The judged class is class 1, her method 2. -/
namespace start1
open Jvm.ClassFile
def u (s : String) : CpInfo := .utf8 (stringToUtf16 s)
/-- a pool by its gaps: so many unusable entries, then the entry; so many at the end -/
def gap : Nat → List CpInfo → List CpInfo
  | 0, r => r
  | n + 1, r => .unusable :: gap n r
def poolList (es : List (Nat × CpInfo)) (last : Nat) : List CpInfo := es.foldr (fun e r => gap e.1 (e.2 :: r)) (gap last [])
def pool (es : List (Nat × CpInfo)) (last : Nat) : Array CpInfo := ⟨poolList es last⟩
def fileOf (pool : Array CpInfo) (this : Nat) (attrs : Array Attribute := #[]) (ms : Array MethodInfo := #[]) (fl : Nat := 33) (sup : Nat := 0) (ifs : Array Nat := #[]) (fds : Array FieldInfo := #[]) : ClassFile where
  minorVersion := 0
  majorVersion := 65
  constantPool := pool
  accessFlags := fl
  thisClass := this
  superClass := sup
  interfaces := ifs
  fields := fds
  methods := ms
  attributes := attrs
def plain (name : String) (sup : Option ClassId) : Class where
  name := name
  kind := .ordinary
  loader := none
  accessFlags := 33
  super := sup
  interfaces := #[]
  cf := none
  fields := #[]
  methods := #[]
  instanceTypes := #[]
  staticTypes := #[]
  resolved := #[]
  callSites := []
  init := .initialized
  statics := none
  mirror := none

def pool0 : Array CpInfo := pool [(5, u "<init>"), (0, u "()V"), (1, .class_ 10), (1, u "java/lang/Object")] 113

def k0m0 : Method := { name := "<init>", desc := "()V", sig := { parameters := [], returnType := none }, accessFlags := 1, code := none }
/-- java/lang/Object -/
def k0 : Class := { plain "java/lang/Object" none with
  accessFlags := 33
  interfaces := #[]
  cf := some (fileOf pool0 8 #[] #[{ accessFlags := 1, nameIndex := 5, descriptorIndex := 6, attributes := #[] }] 33 0 #[] #[])
  fields := #[]
  methods := #[k0m0]
  instanceTypes := #[]
  staticTypes := #[]
  resolved := Array.replicate 124 none
  statics := none }

def pool1 : Array CpInfo := pool [(2, .class_ 4), (1, u "java/lang/Object"), (0, u "<init>"), (0, u "()V"), (2, .long 9223372036854775808), (1, .long 9223372036854775807), (1, .methodref 14 15), (0, .class_ 16), (0, .nameAndType 17 18), (0, u "com/example/farthing/farthing/model/CompactSubtractPinLaw"), (0, u "overflows"), (0, u "(JJ)Z"), (0, .methodref 20 21), (0, .class_ 22), (0, .nameAndType 23 24), (0, u "com/example/farthing/farthing/model/Compact"), (0, u "subtract"), (0, u "(JJ)J"), (3, u "law")] 2

def k1m0 : Method := { name := "<init>", desc := "()V", sig := { parameters := [], returnType := none }, accessFlags := 2, code := none }
def k1c1 : Code := { maxStack := 6, maxLocals := 4, code := method_2_code, exceptionTable := #[], attributes := #[] }
def k1m1 : Method := { name := "overflows", desc := "(JJ)Z", sig := { parameters := [.long, .long], returnType := some .boolean }, accessFlags := 10, code := some k1c1 }
def k1c2 : Code := { maxStack := 4, maxLocals := 10, code := code, exceptionTable := #[], attributes := #[] }
def k1m2 : Method := { name := "law", desc := "(JJ)Z", sig := { parameters := [.long, .long], returnType := some .boolean }, accessFlags := 9, code := some k1c2 }
/-- com/example/farthing/farthing/model/CompactSubtractPinLaw -/
def k1 : Class := { plain "com/example/farthing/farthing/model/CompactSubtractPinLaw" (some 0) with
  accessFlags := 49
  interfaces := #[]
  cf := some (fileOf pool1 14 #[] #[{ accessFlags := 2, nameIndex := 5, descriptorIndex := 6, attributes := #[] }, { accessFlags := 10, nameIndex := 17, descriptorIndex := 18, attributes := #[] }, { accessFlags := 9, nameIndex := 28, descriptorIndex := 18, attributes := #[] }] 49 2 #[] #[])
  fields := #[]
  methods := #[k1m0, k1m1, k1m2]
  instanceTypes := #[]
  staticTypes := #[]
  resolved := Array.replicate 31 none
  statics := none }

def pool2 : Array CpInfo := pool [(4, .class_ 6), (1, u "java/lang/Object"), (0, u "<init>"), (0, u "()V"), (7, .class_ 18), (1, u "com/example/farthing/farthing/model/Compact"), (0, u "POWERS_OF_TEN"), (0, u "[J"), (21, .long 9223372036854775808), (6, u "(JJ)J"), (20, .class_ 72), (1, u "com/example/farthing/farthing/model/Compact$1"), (25, u "NONE"), (0, u "J"), (7, u "subtract")] 9

def k2m0 : Method := { name := "<init>", desc := "()V", sig := { parameters := [], returnType := none }, accessFlags := 2, code := none }
def k2c1 : Code := { maxStack := 6, maxLocals := 6, code := prog_9_method_4_code, exceptionTable := #[], attributes := #[] }
def k2m1 : Method := { name := "subtract", desc := "(JJ)J", sig := { parameters := [.long, .long], returnType := some .long }, accessFlags := 8, code := some k2c1 }
/-- com/example/farthing/farthing/model/Compact -/
def k2 : Class := { plain "com/example/farthing/farthing/model/Compact" (some 0) with
  accessFlags := 48
  interfaces := #[]
  cf := some (fileOf pool2 16 #[.nestMembers #[70]] #[{ accessFlags := 2, nameIndex := 7, descriptorIndex := 8, attributes := #[] }, { accessFlags := 8, nameIndex := 107, descriptorIndex := 49, attributes := #[] }] 48 4 #[] #[{ accessFlags := 24, nameIndex := 98, descriptorIndex := 99, attributes := #[] }, { accessFlags := 26, nameIndex := 19, descriptorIndex := 20, attributes := #[] }])
  fields := #[{ name := "NONE", type := .long, accessFlags := 24, slot := 0, constantValue := 0 }, { name := "POWERS_OF_TEN", type := (.array .long), accessFlags := 26, slot := 1, constantValue := 0 }]
  methods := #[k2m0, k2m1]
  instanceTypes := #[]
  staticTypes := #[.long, (.array .long)]
  resolved := Array.replicate 117 none
  statics := none }

def pool3 : Array CpInfo := pool [(1, u "java/lang/Cloneable"), (0, .class_ 1), (0, u "java/lang/Object"), (0, .class_ 3)] 3

/-- java/lang/Cloneable -/
def k3 : Class := { plain "java/lang/Cloneable" (some 0) with
  accessFlags := 1537
  interfaces := #[]
  cf := some (fileOf pool3 2 #[] #[] 1537 4 #[] #[])
  fields := #[]
  methods := #[]
  instanceTypes := #[]
  staticTypes := #[]
  resolved := Array.replicate 8 none
  statics := none }

def pool4 : Array CpInfo := pool [(1, u "java/io/Serializable"), (0, .class_ 1), (0, u "java/lang/Object"), (0, .class_ 3)] 3

/-- java/io/Serializable -/
def k4 : Class := { plain "java/io/Serializable" (some 0) with
  accessFlags := 1537
  interfaces := #[]
  cf := some (fileOf pool4 2 #[] #[] 1537 4 #[] #[])
  fields := #[]
  methods := #[]
  instanceTypes := #[]
  staticTypes := #[]
  resolved := Array.replicate 8 none
  statics := none }

/-- the primitive byte -/
def k5 : Class := { plain "byte" none with kind := .primitive 'B', accessFlags := 0x411 }
/-- [B -/
def k6 : Class := { plain "[B" (some 0) with kind := .array 5 .byte, interfaces := #[3, 4], accessFlags := 1041 }

/-- the primitive int -/
def k7 : Class := { plain "int" none with kind := .primitive 'I', accessFlags := 0x411 }
/-- [I -/
def k8 : Class := { plain "[I" (some 0) with kind := .array 7 .int, interfaces := #[3, 4], accessFlags := 1041 }

def heap : Heap := #[]
def classes : Array Class := #[k0, k1, k2, k3, k4, k5, k6, k7, k8]
def interned : List (Array UInt16 × Addr) := []
def slotsUsed : Nat := 0
def theMethod : MethodId := ⟨1, 2⟩
def args0 : Array Value := #[.long 7, .long 7]
def aboutOver (below : List Frame) : State where
  vm := { classes := classes, interned := interned.toArray }
  heap := heap
  slotsUsed := slotsUsed
  threads := #[{ frames := .invoking theMethod args0 :: below }]
def below0 : List Frame := [.native { method := ⟨0, 0⟩, args := #[] }]
def about1 : State := aboutOver below0
def p0 : Program := .bare "" "" ""
def e0 : Env := launch0.env 0 0 0
theorem w_frames : about1.frames = Frame.invoking theMethod args0 :: below0 := rfl
set_option maxRecDepth 65536 in
theorem w_args : argsFit about1.vm theMethod args0 = true := by decide +kernel
set_option maxRecDepth 65536 in
theorem w_heap : heapFits about1 = true := by decide +kernel
set_option maxRecDepth 65536 in
theorem w_runnable : about1.curStatus? = some .runnable := by decide +kernel
set_option maxRecDepth 65536 in
theorem w_alone : about1.alone = true := by decide +kernel
set_option maxRecDepth 65536 in
theorem w_named : about1.methodNamed? x = some theMethod := by decide +kernel
set_option maxRecDepth 65536 in
theorem w_hears : about1.hears theMethod below0 = true := by decide +kernel
set_option maxRecDepth 65536 in
theorem w_ripe : about1.ripe theMethod args0 below0 = true := by decide +kernel
theorem w_running : about1.status = .running := rfl
set_option maxRecDepth 65536 in
theorem w_room : about1.hasRoom e0.platform room_1 = true :=
  launch0.hasRoom_least _ room_1 (by decide +kernel) (by decide +kernel) (by decide +kernel) (by decide +kernel) (by decide +kernel) (by decide +kernel)
theorem allAtoms_all (ts : List Jvm.Cond) (a : Array Jvm.Value) (st : Jvm.State) : (allAtoms ts).before a st = ts.all (fun c => c.before a st) := by
  induction ts with
  | nil => rfl
  | cons c t ih =>
    show (Jvm.Cond.and c (allAtoms t)).before a st = _
    rw [Jvm.Cond.before_and, ih, List.all_cons]
def words1 : List Jvm.Cond := Jvm.Cond.code x code maxLocals ret :: tables_1
/-- a 'code' word, met by the world's own term for the bytes: nothing is compared byte by byte -/
theorem code_word {y : MethodName} {bytes : ByteArray} {mx : Nat} {rt : Option FieldType} {a : Array Value} {s : State} {m : MethodId} {meth : Method} {c : Code} (h1 : s.methodNamed? y = some m) (h2 : s.vm.method? m = some meth) (h3 : meth.code = some c) (h4 : c.code = bytes)
    (h5 : (c.maxLocals == mx && c.exceptionTable.isEmpty && decide (c.maxStack ≤ mostOperands) && decide (meth.sig.returnType = rt) && !meth.locks && decide (parseMethodDescriptor y.desc = some meth.sig)) = true) : (Jvm.Cond.code y bytes mx rt).before a s = true := by
  simp only [Bool.and_eq_true, beq_iff_eq, Bool.not_eq_true', decide_eq_true_eq] at h5
  obtain ⟨⟨⟨⟨⟨g1, g2⟩, g3⟩, g4⟩, g5⟩, g6⟩ := h5
  simp [Cond.before, Cond.holds, Cond.value, h1, h2, h3, h4, g1, g2, g3, g4, g5, g6]
def isCode : Jvm.Cond → Bool
  | .code _ _ _ _ => true
  | _ => false
theorem all_split {L : List Jvm.Cond} {P : Jvm.Cond → Bool} (h1 : L.all (fun c => isCode c || P c) = true) (h2 : ∀ c ∈ L.filter isCode, P c = true) : L.all P = true := by
  refine List.all_eq_true.mpr fun c hc => ?_
  have h := List.all_eq_true.mp h1 c hc
  rcases Bool.eq_false_or_eq_true (isCode c) with hi | hi
  · exact h2 c (List.mem_filter.mpr ⟨hc, hi⟩)
  · simpa [hi] using h
set_option maxRecDepth 65536 in
theorem w_c0 : (Jvm.Cond.code x code maxLocals ret).before args0 about1 = true := code_word (m := ⟨1, 2⟩) (meth := k1m2) (c := k1c2) (by decide +kernel) rfl rfl rfl (by decide +kernel)
set_option maxRecDepth 65536 in
theorem w_c1 : (Jvm.Cond.code ({ cls := "com/example/farthing/farthing/model/CompactSubtractPinLaw", name := "overflows", desc := "(JJ)Z" } : Jvm.MethodName) method_2_code (4 : Nat) (Option.some Jvm.ClassFile.FieldType.boolean)).before args0 about1 = true := code_word (m := ⟨1, 1⟩) (meth := k1m1) (c := k1c1) (by decide +kernel) rfl rfl rfl (by decide +kernel)
set_option maxRecDepth 65536 in
theorem w_c2 : (Jvm.Cond.code ({ cls := "com/example/farthing/farthing/model/Compact", name := "subtract", desc := "(JJ)J" } : Jvm.MethodName) prog_9_method_4_code (6 : Nat) (Option.some Jvm.ClassFile.FieldType.long)).before args0 about1 = true := code_word (m := ⟨2, 1⟩) (meth := k2m1) (c := k2c1) (by decide +kernel) rfl rfl rfl (by decide +kernel)
def codes1 : List Jvm.Cond := [Jvm.Cond.code x code maxLocals ret, Jvm.Cond.code ({ cls := "com/example/farthing/farthing/model/CompactSubtractPinLaw", name := "overflows", desc := "(JJ)Z" } : Jvm.MethodName) method_2_code (4 : Nat) (Option.some Jvm.ClassFile.FieldType.boolean), Jvm.Cond.code ({ cls := "com/example/farthing/farthing/model/Compact", name := "subtract", desc := "(JJ)J" } : Jvm.MethodName) prog_9_method_4_code (6 : Nat) (Option.some Jvm.ClassFile.FieldType.long)]
set_option maxRecDepth 65536 in
theorem codes_eq : words1.filter isCode = codes1 := rfl
theorem w_codes : ∀ c ∈ words1.filter isCode, c.before args0 about1 = true := by
  rw [codes_eq]
  intro c hc
  simp only [codes1, List.mem_cons, List.not_mem_nil, or_false] at hc
  rcases hc with rfl | rfl | rfl
  · exact w_c0
  · exact w_c1
  · exact w_c2
set_option maxRecDepth 65536 in
theorem w_t1 : words1.all (fun c => isCode c || c.before args0 about1) = true := by decide +kernel
theorem w_tables : (allAtoms (Jvm.Cond.code x code maxLocals ret :: tables_1)).before args0 about1 = true := by
  rw [allAtoms_all]
  show words1.all (fun c => c.before args0 about1) = true
  refine all_split ?_ w_codes
  rw [w_t1]
set_option maxRecDepth 65536 in
theorem w_case : (Jvm.Cond.and given_1 narrow_1).before args0 about1 = true := by decide +kernel
theorem w_applies : (headSpec (Jvm.Cond.code x code maxLocals ret :: tables_1) room_1).applies x e0.platform about1 = true :=
  (Spec.applies_iff w_frames).mpr ⟨w_running, w_runnable, w_alone, w_named, w_hears, w_ripe, w_room, w_tables⟩
theorem atStart : AtStart classFile x code maxLocals ret World_1 tables_1 room_1 Calls_1 rest_1 Pre_1 launch0 p0 e0 about1 theMethod args0 below0 :=
  ⟨lists_1, trivial, launch0.admits_env _ _ _, launch0.least_env, fairChoices_fair.cas, fairChoices_fair.clock, w_frames, w_args, w_heap, w_applies, trivial, trivial, w_case⟩
end start1
theorem witness_1 : WitnessClaimed_1 := ⟨start1.p0, start1.e0, start1.about1, start1.theMethod, start1.args0, start1.below0, start1.atStart⟩
end Jvm.Pilot.@@N@@
