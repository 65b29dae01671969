import JvmDerived
import JvmDerived.Pilot.@@N@@Statement
import JvmDerived.Pilot.@@N@@Code
set_option linter.unusedVariables false
set_option linter.unusedSimpArgs false
set_option maxHeartbeats 4000000
namespace Jvm.Pilot.@@N@@
open Jvm Jvm.ClassFile Sem Op Lib Jvm.Free Jvm.Stand Jvm.LawKit Jvm.RoadKit Bundle Jvm.Pilot.@@N@@.Jvm.D
/-! own kit: a walk read backwards: G T g says that from the state T with g on top the body comes to a good end -/
section OwnKit
variable {p : Program} {l : Launch} {e : Env} {R : Room} {s : State} {m : MethodId} {args : Array Value} {below : List Frame} {meth : Method} {c : Code} {T : State} {cells slots : Nat} {Z : State} {a0 : Array Value} {h : Heap} {n0 : Nat} {G : State → JFrame → Prop} {Q : Option Value → Heap → Prop}
def Clo (p : Program) (e : Env) (below : List Frame) (G : State → JFrame → Prop) : Prop := ∀ (T T' : State) (g g' : JFrame), (∀ t, Steps p.tables e below (T'.setTop g') t → Steps p.tables e below (T.setTop g) t) → G T' g' → G T g
theorem Clo.go (hs : Clo p e below G) {T T' : State} {g g' : JFrame} (st : ∀ t, Steps p.tables e below (T'.setTop g') t → Steps p.tables e below (T.setTop g) t) (k : G T' g') : G T g := hs T T' g g' st k
def Sd (p : Program) (l : Launch) (e : Env) (R : Room) (s : State) (m : MethodId) (args : Array Value) (below : List Frame) (meth : Method) (c : Code) (n0 : Nat) (T : State) (h : Heap) (cells slots : Nat) : Prop := ∃ locs, Stand p l e R s m args below meth c T locs cells slots ∧ Fr n0 locs ∧ T.heap = h
theorem Sd.here (X : Sd p l e R s m args below meth c n0 T h cells slots) : At T m c below := by obtain ⟨_, X, _⟩ := X; exact X.here
theorem Sd.more (X : Sd p l e R s m args below meth c n0 T h cells slots) {k n : Nat} (hk : cells ≤ k) (hn : slots ≤ n) : Sd p l e R s m args below meth c n0 T h k n := by obtain ⟨L, X, N⟩ := X; exact ⟨L, X.more hk hn, N⟩
/-- how a body ends -/
def Fnl (p : Program) (l : Launch) (e : Env) (R : Room) (s : State) (m : MethodId) (args : Array Value) (below : List Frame) (meth : Method) (c : Code) (n0 : Nat) (Q : Option Value → Heap → Prop) (G : State → JFrame → Prop) : Prop :=
  ∀ (T : State) (h : Heap) (k n : Nat) (g : JFrame) (v : Option Value), Sd p l e R s m args below meth c n0 T h k n → k ≤ R.cells → n ≤ R.slots → (meth.sig.returnType = none → v = none) →
    (∀ fs, (∀ (f : JFrame) (acts : List Action), f.method = m → f.locked = none → f.entered = [] → (doReturn e (T.setTop f) acts v).1 = T.setFrames fs) → Steps p.tables e below (T.setTop g) (T.setFrames fs)) → Q v h → G T g
/-- a body's contract -/
def Con (l : Launch) (Z : State) (y : MethodName) (bytes : ByteArray) (maxL : Nat) (ret : Option FieldType) (ws : List Jvm.Cond) (rm : Room) (as' : Array Value) (h : Heap) (n0 : Nat) (Q : Option Value → Heap → Prop) : Prop :=
  MetFree l y (head1 (Jvm.Cond.code y bytes maxL ret :: ws) rm) (fun a U => a = as' ∧ Z.Warmed39 U.vm ∧ U.heap = h) (fun _ _ _ _ _ => True)
    (fun _ U o U' => ∃ v L, o = .returned v ∧ (Q v U'.heap ∧ Fr n0 L) ∧ FrameEnd U o U' L rm.cells rm.slots)
theorem Con.of {y : MethodName} {bytes : ByteArray} {maxL : Nat} {ret : Option FieldType} {ws : List Jvm.Cond} {rm : Room} {as' : Array Value} (hp : plainFor y = true)
    (body : ∀ (G : State → JFrame → Prop) (p : Program) (e : Env) (s : State) (m : MethodId) (below : List Frame) (meth : Method) (c : Code) (s₁ : State),
      Clo p e below G → p.tables.exec = Jvm.exec → c.code = bytes → c.maxLocals = maxL → s.vm.findClass y.cls = some m.cls → meth.name = y.name → meth.sig.returnType = ret → Z.Warmed39 s.vm →
      Sd p l e rm s m as' below meth c n0 s₁ h 0 0 → Fnl p l e rm s m as' below meth c n0 Q G → G s₁ (entryFrame m as' maxL)) : Con l Z y bytes maxL ret ws rm as' h n0 Q := by
  refine MetFree.of_bodySF hp hisR ?_
  intro p e s m args below meth c s₁ Bd hml hP hK
  obtain ⟨ha, hZ, hh⟩ := hP
  subst ha
  refine body (fun T g => ∃ s₂ o, Steps p.tables e below (T.setTop g) s₂ ∧ s₂.status = .running ∧ Ended s₂ below o ∧ ∃ v L, o = .returned v ∧ (Q v s₂.heap ∧ Fr n0 L) ∧ FrameEnd s o s₂ L rm.cells rm.slots) p e s m below meth c s₁ ?_ Bd.exec Bd.bytes hml (findClass_of_methodNamed Bd.named) (name_of_methodNamed Bd.named Bd.method).1 Bd.returns hZ ⟨[], Stand.of_body Bd, Fr.nil n0, by rw [← hh, Bd.state]; rfl⟩ ?_
  · intro T T' g g' st ⟨s₂, o, h1, r⟩
    exact ⟨s₂, o, st _ h1, r⟩
  · intro T h k n g v ⟨locs, X, N, eh⟩ hk hn hv st q
    obtain ⟨fs, hr, hrun, hended, hW, hsame⟩ := X.leave (v := v) hv Bd.notSynchronized
    exact ⟨_, _, st fs hr, hrun, hended, v, locs, rfl, ⟨by show Q v T.heap; rw [eh]; exact q, N⟩, ⟨_, rfl⟩, hW, hsame.mono hk hn⟩
theorem rRetI (fin : Fnl p l e R s m args below meth c n0 Q G) (X : Sd p l e R s m args below meth c n0 T h cells slots) (hx : p.tables.exec = Jvm.exec) (hk : cells ≤ R.cells) (hn : slots ≤ R.slots) (hret : meth.sig.returnType = some .int) {pc : Nat} {Ls : Array Slot} {z : Int32} {rest : List Value} (hd : decode c.code pc = .ok (.ireturn, 1)) (q : Q (some (.int z)) h) : G T (mkF m pc Ls (.int z :: rest)) :=
  fin T h cells slots _ (some (.int z)) X hk hn (fun h => by rw [hret] at h; cases h) (fun fs hr => by obtain ⟨_, X, _⟩ := X; exact retOut X hx hret rfl (Or.inl ⟨rfl, Or.inl rfl, _, rfl⟩) hd hr) q
theorem rRetN (fin : Fnl p l e R s m args below meth c n0 Q G) (X : Sd p l e R s m args below meth c n0 T h cells slots) (hx : p.tables.exec = Jvm.exec) (hk : cells ≤ R.cells) (hn : slots ≤ R.slots) {t : FieldType} (hret : meth.sig.returnType = some t) (ht : t = .boolean ∨ t = .byte ∨ t = .char ∨ t = .short) {pc : Nat} {Ls : Array Slot} {z z' : Int32} {rest : List Value} (hd : decode c.code pc = .ok (.ireturn, 1)) (hz : nar t z = z') (q : Q (some (.int z')) h) : G T (mkF m pc Ls (.int z :: rest)) :=
  fin T h cells slots _ (some (.int (nar t z))) X hk hn (fun h => by rw [hret] at h; cases h) (fun fs hr => by obtain ⟨_, X, _⟩ := X; exact retN X hx hret ht hd hr) (hz ▸ q)
theorem rRetL (fin : Fnl p l e R s m args below meth c n0 Q G) (X : Sd p l e R s m args below meth c n0 T h cells slots) (hx : p.tables.exec = Jvm.exec) (hk : cells ≤ R.cells) (hn : slots ≤ R.slots) (hret : meth.sig.returnType = some .long) {pc : Nat} {Ls : Array Slot} {z : Int64} {rest : List Value} (hd : decode c.code pc = .ok (.lreturn, 1)) (q : Q (some (.long z)) h) : G T (mkF m pc Ls (.long z :: rest)) :=
  fin T h cells slots _ (some (.long z)) X hk hn (fun h => by rw [hret] at h; cases h) (fun fs hr => by obtain ⟨_, X, _⟩ := X; exact retOut X hx hret rfl (Or.inr (Or.inl ⟨rfl, rfl, _, rfl⟩)) hd hr) q
theorem rRetA (fin : Fnl p l e R s m args below meth c n0 Q G) (X : Sd p l e R s m args below meth c n0 T h cells slots) (hx : p.tables.exec = Jvm.exec) (hk : cells ≤ R.cells) (hn : slots ≤ R.slots) {t : FieldType} (hret : meth.sig.returnType = some t) (ht : t.isReference = true) {pc : Nat} {Ls : Array Slot} {z : Value} (hz : z.isRef = true) (hw : narrow t z = z) {rest : List Value} (hd : decode c.code pc = .ok (.areturn, 1)) (q : Q (some z) h) : G T (mkF m pc Ls (z :: rest)) :=
  fin T h cells slots _ (some z) X hk hn (fun h => by rw [hret] at h; cases h) (fun fs hr => by obtain ⟨_, X, _⟩ := X; exact retOut X hx hret hw (Or.inr (Or.inr (Or.inr (Or.inr ⟨rfl, ht, hz⟩)))) hd hr) q
theorem rRetD (fin : Fnl p l e R s m args below meth c n0 Q G) (X : Sd p l e R s m args below meth c n0 T h cells slots) (hx : p.tables.exec = Jvm.exec) (hk : cells ≤ R.cells) (hn : slots ≤ R.slots) (hret : meth.sig.returnType = some .double) {pc : Nat} {Ls : Array Slot} {z : UInt64} {rest : List Value} (hd : decode c.code pc = .ok (.dreturn, 1)) (q : Q (some (.double z)) h) : G T (mkF m pc Ls (.double z :: rest)) :=
  fin T h cells slots _ (some (.double z)) X hk hn (fun h => by rw [hret] at h; cases h) (fun fs hr => by obtain ⟨_, X, _⟩ := X; exact retOut X hx hret rfl (Or.inr (Or.inr (Or.inl ⟨rfl, rfl, _, rfl⟩))) hd hr) q
theorem rRetV (fin : Fnl p l e R s m args below meth c n0 Q G) (X : Sd p l e R s m args below meth c n0 T h cells slots) (hx : p.tables.exec = Jvm.exec) (hk : cells ≤ R.cells) (hn : slots ≤ R.slots) (hret : meth.sig.returnType = none) {pc : Nat} {Ls : Array Slot} (hd : decode c.code pc = .ok (.return_, 1)) (q : Q none h) : G T (mkF m pc Ls []) :=
  fin T h cells slots _ none X hk hn (fun _ => rfl) (fun fs hr => by obtain ⟨_, X, _⟩ := X; exact X.returnOut hx hret hd hr) q
theorem rLdcI (hs : Clo p e below G) (X : Sd p l e R s m args below meth c n0 T h cells slots) (hx : p.tables.exec = Jvm.exec) (hZ : Z.Warmed39 s.vm) {own : String} {index : Nat} {v : Int32} (hown : s.vm.findClass own = some m.cls) (w : (Jvm.Cond.constant own index v).before a0 Z = true) {g : JFrame} (hg : g.method = m) (hd : decode c.code g.pc = .ok (.ldc index, 2)) (k : G T { g with pc := g.pc + 2, stack := .int v :: g.stack }) : G T g := by
  obtain ⟨_, X, _⟩ := X
  exact hs.go (X.ldcInt hx hown (mvT hZ w) hg hd) k
theorem rLdcL (hs : Clo p e below G) (X : Sd p l e R s m args below meth c n0 T h cells slots) (hx : p.tables.exec = Jvm.exec) (hZ : Z.Warmed39 s.vm) {own : String} {index : Nat} {v : Int64} (hown : s.vm.findClass own = some m.cls) (w : (Jvm.Cond.constantLong own index v).before a0 Z = true) {g : JFrame} (hg : g.method = m) (hd : decode c.code g.pc = .ok (.ldc2_w index, 3)) (k : G T { g with pc := g.pc + 3, stack := .long v :: g.stack }) : G T g := by
  obtain ⟨_, X, _⟩ := X
  exact hs.go (X.ldc2Long hx hown (mvT hZ w) hg hd) k
theorem rLdcD (hs : Clo p e below G) (X : Sd p l e R s m args below meth c n0 T h cells slots) (hx : p.tables.exec = Jvm.exec) (hZ : Z.Warmed39 s.vm) {own : String} {index : Nat} {v : UInt64} (hown : s.vm.findClass own = some m.cls) (w : (Jvm.Cond.constantDouble own index v).before a0 Z = true) {g : JFrame} (hg : g.method = m) (hd : decode c.code g.pc = .ok (.ldc2_w index, 3)) (k : G T { g with pc := g.pc + 3, stack := .double v :: g.stack }) : G T g := by
  obtain ⟨_, X, _⟩ := X
  exact hs.go (X.ldc2DoubleC hx hown (mvT hZ w) hg hd) k
theorem rIrem (hs : Clo p e below G) (X : Sd p l e R s m args below meth c n0 T h cells slots) (hx : p.tables.exec = Jvm.exec) {g : JFrame} (hg : g.method = m) {x y : Int32} {rest : List Value} (hd : decode c.code g.pc = .ok (.irem, 1)) (hst : g.stack = .int y :: .int x :: rest) (hy : y ≠ 0) (k : G T { g with pc := g.pc + 1, stack := .int (x % y) :: rest }) : G T g := by
  obtain ⟨_, X, _⟩ := X
  exact hs.go (fun _ q => iremM X hx hg hd hst hy q) k
theorem rLrem (hs : Clo p e below G) (X : Sd p l e R s m args below meth c n0 T h cells slots) (hx : p.tables.exec = Jvm.exec) {g : JFrame} (hg : g.method = m) {x y : Int64} {rest : List Value} (hd : decode c.code g.pc = .ok (.lrem, 1)) (hst : g.stack = .long y :: .long x :: rest) (hy : y ≠ 0) (k : G T { g with pc := g.pc + 1, stack := .long (x % y) :: rest }) : G T g :=
  hs.go (fun _ q => XS.lrem X.here hx hg hd hst hy q) (by rw [lrem_mod]; exact k)
/-! arrays -/
theorem rNewP (hs : Clo p e below G) (X : Sd p l e R s m args below meth c n0 T h cells slots) (hx : p.tables.exec = Jvm.exec) (hZ : Z.Warmed39 s.vm) {aty : ArrayType} (w : (Jvm.Cond.arrayClass (newarray.typeOf aty)).before a0 Z = true) {g : JFrame} (hg : g.method = m) (hd : decode c.code g.pc = .ok (.newarray aty, 2)) {n : Int32} {rest : List Value} (hst : g.stack = .int n :: rest)
    (hn : ¬ n < 0) (cap len : Nat) (hcap : n.toNatClampNeg ≤ cap) (hb : cap * 8 ≤ 536870912) (hc : cells + 1 ≤ R.cells) (hl : slots + cap ≤ R.slots)
    (k : ∀ (T' : State) (h' : Heap) (cA : ClassId) (b : Addr), b = h.size → Sd p l e R s m args below meth c n0 T' h' (cells + 1) (slots + cap) → Ext h h' → Arv Z h' b cA (newarray.typeOf aty) n (List.replicate len (defaultValue (newarray.typeOf aty))) (defaultValue (newarray.typeOf aty)) → G T' { g with pc := g.pc + 2, stack := .ref b :: rest }) : G T g := by
  obtain ⟨L, X, N, eh⟩ := X
  obtain ⟨T', h', cA, X', e', E, A, st⟩ := newP X hx hZ w eh hg hd hst hn hcap hb hc hl
  exact hs.go st (k T' h' cA h.size rfl ⟨L, X', N, e'⟩ E ((Arv.new A hn).pad (pad_rep [] _ len)))
theorem rStI (hs : Clo p e below G) (X : Sd p l e R s m args below meth c n0 T h cells slots) (hx : p.tables.exec = Jvm.exec) (hZ : Z.Warmed39 s.vm) {a : Addr} {kc : ClassId} {z : Int32} {vs : List Value} {dv : Value} (V : Arv Z h a kc .int z vs dv) (ga : n0 ≤ a) {j x : Int32} (hj : ¬ j < 0 ∧ j < z) (i : Nat) (hi : j.toNatClampNeg = i) (hl : i < vs.length)
    {g : JFrame} (hg : g.method = m) {rest : List Value} (hst : g.stack = .int x :: .int j :: .ref a :: rest) (hd : decode c.code g.pc = .ok (.iastore, 1))
    (k : ∀ (T' : State) (h' : Heap), Sd p l e R s m args below meth c n0 T' h' cells slots → Wr h h' a i (.int x) → Arv Z h' a kc .int z (vs.set i (.int x)) dv → G T' { g with pc := g.pc + 1, stack := rest }) : G T g := by
  obtain ⟨L, X, N, eh⟩ := X
  obtain ⟨cl, A, q1, S, q3, H, F⟩ := V
  obtain ⟨T', h', X', e', W, st⟩ := stI X hx hZ eh A (j := j) (inb_of S hj) hg hst hd
  exact hs.go st (k T' h' ⟨_, X', Fr.snoc X' N ga, e'⟩ (hi ▸ W) (Arv.set A q1 S q3 H F rfl W i hi hl))
theorem rStB (hs : Clo p e below G) (X : Sd p l e R s m args below meth c n0 T h cells slots) (hx : p.tables.exec = Jvm.exec) (hZ : Z.Warmed39 s.vm) {a : Addr} {kc : ClassId} {z : Int32} {vs : List Value} {dv : Value} (V : Arv Z h a kc .byte z vs dv) (ga : n0 ≤ a) {j x x' : Int32} (hj : ¬ j < 0 ∧ j < z) (i : Nat) (hi : j.toNatClampNeg = i) (hl : i < vs.length) (hnx : x.toInt8.toInt32 = x')
    {g : JFrame} (hg : g.method = m) {rest : List Value} (hst : g.stack = .int x :: .int j :: .ref a :: rest) (hd : decode c.code g.pc = .ok (.bastore, 1))
    (k : ∀ (T' : State) (h' : Heap), Sd p l e R s m args below meth c n0 T' h' cells slots → Wr h h' a i (.int x') → Arv Z h' a kc .byte z (vs.set i (.int x')) dv → G T' { g with pc := g.pc + 1, stack := rest }) : G T g := by
  obtain ⟨L, X, N, eh⟩ := X
  obtain ⟨cl, A, q1, S, q3, H, F⟩ := V
  obtain ⟨T', h', X', e', W, st⟩ := stB X hx hZ eh A (j := j) (inb_of S hj) hg hst hd
  subst hnx
  exact hs.go st (k T' h' ⟨_, X', Fr.snoc X' N ga, e'⟩ (hi ▸ W) (Arv.set A q1 S q3 H F (fits_nar_byte _) W i hi hl))
theorem rStC (hs : Clo p e below G) (X : Sd p l e R s m args below meth c n0 T h cells slots) (hx : p.tables.exec = Jvm.exec) (hZ : Z.Warmed39 s.vm) {a : Addr} {kc : ClassId} {z : Int32} {vs : List Value} {dv : Value} (V : Arv Z h a kc .char z vs dv) (ga : n0 ≤ a) {j x x' : Int32} (hj : ¬ j < 0 ∧ j < z) (i : Nat) (hi : j.toNatClampNeg = i) (hl : i < vs.length) (hnx : nar .char x = x')
    {g : JFrame} (hg : g.method = m) {rest : List Value} (hst : g.stack = .int x :: .int j :: .ref a :: rest) (hd : decode c.code g.pc = .ok (.castore, 1))
    (k : ∀ (T' : State) (h' : Heap), Sd p l e R s m args below meth c n0 T' h' cells slots → Wr h h' a i (.int x') → Arv Z h' a kc .char z (vs.set i (.int x')) dv → G T' { g with pc := g.pc + 1, stack := rest }) : G T g := by
  obtain ⟨L, X, N, eh⟩ := X
  obtain ⟨cl, A, q1, S, q3, H, F⟩ := V
  obtain ⟨T', h', X', e', W, st⟩ := stC X hx hZ eh A (j := j) (inb_of S hj) hg hst hd
  subst hnx
  exact hs.go st (k T' h' ⟨_, X', Fr.snoc X' N ga, e'⟩ (hi ▸ W) (Arv.set A q1 S q3 H F (fits_nar_char _) W i hi hl))
theorem rLdI (hs : Clo p e below G) (X : Sd p l e R s m args below meth c n0 T h cells slots) (hx : p.tables.exec = Jvm.exec) (hZ : Z.Warmed39 s.vm) {a : Addr} {kc : ClassId} {z : Int32} {vs : List Value} {dv : Value} (V : Arv Z h a kc .int z vs dv) {j : Int32} (hj : ¬ j < 0 ∧ j < z) {v : Value} (hv : vs.getD j.toNatClampNeg dv = v)
    {g : JFrame} (hg : g.method = m) {rest : List Value} (hst : g.stack = .int j :: .ref a :: rest) (hd : decode c.code g.pc = .ok (.iaload, 1)) (k : G T { g with pc := g.pc + 1, stack := v :: rest }) : G T g := by
  obtain ⟨L, X, N, eh⟩ := X
  obtain ⟨cl, A, q1, S, q3, H, F⟩ := V
  exact hs.go (X.iaload hx (j := j) (v := v) (by rw [eh]; exact A.1) (State.isArrayOf_alike hZ.alike A.2.1) A.2.2 (inb_of S hj) (H.at (inb_of S hj) hv) hg hst hd) k
theorem rLdB (hs : Clo p e below G) (X : Sd p l e R s m args below meth c n0 T h cells slots) (hx : p.tables.exec = Jvm.exec) (hZ : Z.Warmed39 s.vm) {a : Addr} {kc : ClassId} {z : Int32} {vs : List Value} {dv : Value} (V : Arv Z h a kc .byte z vs dv) {j : Int32} (hj : ¬ j < 0 ∧ j < z) {v : Value} (hv : vs.getD j.toNatClampNeg dv = v)
    {g : JFrame} (hg : g.method = m) {rest : List Value} (hst : g.stack = .int j :: .ref a :: rest) (hd : decode c.code g.pc = .ok (.baload, 1)) (k : G T { g with pc := g.pc + 1, stack := v :: rest }) : G T g := by
  obtain ⟨L, X, N, eh⟩ := X
  obtain ⟨cl, A, q1, S, q3, H, F⟩ := V
  exact hs.go (X.baloadBytes hx (j := j) (v := v) (by rw [eh]; exact A.1) (State.isArrayOf_alike hZ.alike A.2.1) A.2.2 (inb_of S hj) (H.at (inb_of S hj) hv) hg hst hd) k
theorem rLdC (hs : Clo p e below G) (X : Sd p l e R s m args below meth c n0 T h cells slots) (hx : p.tables.exec = Jvm.exec) (hZ : Z.Warmed39 s.vm) {a : Addr} {kc : ClassId} {z : Int32} {vs : List Value} {dv : Value} (V : Arv Z h a kc .char z vs dv) {j : Int32} (hj : ¬ j < 0 ∧ j < z) {v : Value} (hv : vs.getD j.toNatClampNeg dv = v)
    {g : JFrame} (hg : g.method = m) {rest : List Value} (hst : g.stack = .int j :: .ref a :: rest) (hd : decode c.code g.pc = .ok (.caload, 1)) (k : G T { g with pc := g.pc + 1, stack := v :: rest }) : G T g := by
  obtain ⟨L, X, N, eh⟩ := X
  obtain ⟨cl, A, q1, S, q3, H, F⟩ := V
  exact hs.go (X.caload hx (j := j) (v := v) (by rw [eh]; exact A.1) (State.isArrayOf_alike hZ.alike A.2.1) A.2.2 (inb_of S hj) (H.at (inb_of S hj) hv) hg hst hd) k
theorem rLdR (hs : Clo p e below G) (X : Sd p l e R s m args below meth c n0 T h cells slots) (hx : p.tables.exec = Jvm.exec) (hZ : Z.Warmed39 s.vm) {a : Addr} {kc : ClassId} {ty : FieldType} {z : Int32} {vs : List Value} {dv : Value} (V : Arv Z h a kc ty z vs dv) (hty : ty.isReference = true) {j : Int32} (hj : ¬ j < 0 ∧ j < z) {v : Value} (hv : vs.getD j.toNatClampNeg dv = v)
    {g : JFrame} (hg : g.method = m) {rest : List Value} (hst : g.stack = .int j :: .ref a :: rest) (hd : decode c.code g.pc = .ok (.aaload, 1)) (k : G T { g with pc := g.pc + 1, stack := v :: rest }) : G T g := by
  obtain ⟨L, X, N, eh⟩ := X
  obtain ⟨cl, A, q1, S, q3, H, F⟩ := V
  exact hs.go (X.aaload hx (j := j) (v := v) (by rw [eh]; exact A.1) (State.isArrayOf_alike hZ.alike A.2.1) hty A.2.2 (inb_of S hj) (H.at (inb_of S hj) hv) hg hst hd) k
theorem rLen (hs : Clo p e below G) (X : Sd p l e R s m args below meth c n0 T h cells slots) (hx : p.tables.exec = Jvm.exec) (hZ : Z.Warmed39 s.vm) {a : Addr} {kc : ClassId} {ty : FieldType} {z : Int32} {vs : List Value} {dv : Value} (V : Arv Z h a kc ty z vs dv)
    {g : JFrame} (hg : g.method = m) {rest : List Value} (hst : g.stack = .ref a :: rest) (hd : decode c.code g.pc = .ok (.arraylength, 1)) (k : G T { g with pc := g.pc + 1, stack := .int z :: rest }) : G T g := by
  obtain ⟨L, X, N, eh⟩ := X
  obtain ⟨cl, A, q1, S, q3, H, F⟩ := V
  exact hs.go (X.arraylength hx (by rw [eh]; exact A.1) (State.isArrayOf_alike hZ.alike A.2.1) hg hst hd) (by rw [len_of S q3]; exact k)
theorem rNewR (hs : Clo p e below G) (X : Sd p l e R s m args below meth c n0 T h cells slots) (hx : p.tables.exec = Jvm.exec) (hZ : Z.Warmed39 s.vm) {own C : String} {index : Nat} (hown : s.vm.findClass own = some m.cls) (w1 : (Jvm.Cond.classLink own index C).before a0 Z = true) (w2 : (Jvm.Cond.arrayOver (.object C)).before a0 Z = true) {g : JFrame} (hg : g.method = m) (hd : decode c.code g.pc = .ok (.anewarray index, 3)) {n : Int32} {rest : List Value} (hst : g.stack = .int n :: rest)
    (hn : ¬ n < 0) (cap len : Nat) (hcap : n.toNatClampNeg ≤ cap) (hb : cap * 8 ≤ 536870912) (hc : cells + 1 ≤ R.cells) (hl : slots + cap ≤ R.slots)
    (k : ∀ (T' : State) (h' : Heap) (cA : ClassId) (b : Addr), b = h.size → Sd p l e R s m args below meth c n0 T' h' (cells + 1) (slots + cap) → Ext h h' → Arv Z h' b cA (.object C) n (List.replicate len .null) .null → Ovr Z cA C → G T' { g with pc := g.pc + 3, stack := .ref b :: rest }) : G T g := by
  obtain ⟨L, X, N, eh⟩ := X
  obtain ⟨T', h', cA, X', e', E, A, O, st⟩ := newR X hx hZ hown w1 w2 eh hg hd hst hn hcap hb hc hl
  exact hs.go st (k T' h' cA h.size rfl ⟨L, X', N, e'⟩ E ((Arv.new A hn).pad (pad_rep [] _ len)) O)
theorem rStR (hs : Clo p e below G) (X : Sd p l e R s m args below meth c n0 T h cells slots) (hx : p.tables.exec = Jvm.exec) (hZ : Z.Warmed39 s.vm) {a : Addr} {kc : ClassId} {C : String} {z : Int32} {vs : List Value} {dv : Value} (V : Arv Z h a kc (.object C) z vs dv) (O : Ovr Z kc C) (ga : n0 ≤ a) {j : Int32} {y : Addr} (I : Ins Z h y C true) (hj : ¬ j < 0 ∧ j < z) (i : Nat) (hi : j.toNatClampNeg = i) (hl : i < vs.length)
    {g : JFrame} (hg : g.method = m) {rest : List Value} (hst : g.stack = .ref y :: .int j :: .ref a :: rest) (hd : decode c.code g.pc = .ok (.aastore, 1))
    (k : ∀ (T' : State) (h' : Heap), Sd p l e R s m args below meth c n0 T' h' cells slots → Wr h h' a i (.ref y) → Arv Z h' a kc (.object C) z (vs.set i (.ref y)) dv → G T' { g with pc := g.pc + 1, stack := rest }) : G T g := by
  obtain ⟨L, X, N, eh⟩ := X
  obtain ⟨cl, A, q1, S, q3, H, F⟩ := V
  obtain ⟨T', h', X', e', W, st⟩ := stR X hx hZ eh A (j := j) (v := .ref y) (inb_of S hj) rfl (Sto.ofV A q1 O I) hg hst hd
  exact hs.go st (k T' h' ⟨_, X', Fr.snoc X' N ga, e'⟩ (hi ▸ W) (Arv.set A q1 S q3 H F rfl W i hi hl))
/-! objects -/
theorem rNewO (hs : Clo p e below G) (X : Sd p l e R s m args below meth c n0 T h cells slots) (hx : p.tables.exec = Jvm.exec) (hZ : Z.Warmed39 s.vm) {own C : String} {index n : Nat} (hown : s.vm.findClass own = some m.cls) (w : (Jvm.Cond.classLink own index C).before a0 Z = true) (wi : (Jvm.Cond.instantiable C n).before a0 Z = true) (wz : (Jvm.Cond.initialized C).before a0 Z = true)
    {g : JFrame} (hg : g.method = m) (hd : decode c.code g.pc = .ok (.new index, 3)) (hc : cells + 1 ≤ R.cells) (hl : slots + n ≤ R.slots)
    (k : ∀ (T' : State) (h' : Heap) (b : Addr), b = h.size → Sd p l e R s m args below meth c n0 T' h' (cells + 1) (slots + n) → Ext h h' → Exa Z h' b C → (∀ {O nm d : String} {ty : FieldType}, Laid Z a0 C O nm d → parseFieldDescriptor d = some ty → Fld Z h' b O nm d (defaultValue ty)) → G T' { g with pc := g.pc + 3, stack := .ref b :: g.stack }) : G T g := by
  obtain ⟨L, X, N, eh⟩ := X
  obtain ⟨T', h', X', e', E, A, D, -, st⟩ := newO X hx hZ hown w wi wz eh hg hd hc hl
  exact hs.go st (k T' h' h.size rfl ⟨L, X', N, e'⟩ E A D)
theorem rInitO (hs : Clo p e below G) (X : Sd p l e R s m args below meth c n0 T h cells slots) (hx : p.tables.exec = Jvm.exec) (hZ : Z.Warmed39 s.vm) {own : String} {idx : Nat} (hown : s.vm.findClass own = some m.cls) (w1 : (Jvm.Cond.methodLink own idx Lib.objectInit).before a0 Z = true) (w2 : (Jvm.Cond.instanceMethod Lib.objectInit).before a0 Z = true)
    (w3 : (Jvm.Cond.code Lib.objectInit ⟨#[0xb1]⟩ 1 none).before a0 Z = true) {g : JFrame} (hg : g.method = m) (hsize : g.locals.size = c.maxLocals) {a : Addr} {rest : List Value} (hst : g.stack = .ref a :: rest) (hd : decode c.code g.pc = .ok (.invokespecial idx, 3))
    (hf : 1 ≤ R.frames) {W : Nat} (hW : 2 * g.monitorRoom + (rest.map fun v => v.category).sum ≤ W) (hl : W + 12 ≤ R.locals)
    (k : ∀ T' : State, Sd p l e R s m args below meth c n0 T' h cells slots → G T' { g with pc := g.pc + 3, stack := rest }) : G T g := by
  obtain ⟨L, X, N, eh⟩ := X
  obtain ⟨T', X', e', st⟩ := initO X hx hZ hown w1 w2 w3 eh hg hsize hst hd hf hW hl
  exact hs.go st (k T' ⟨L, X', N, e'⟩)
theorem rGetF (hs : Clo p e below G) (X : Sd p l e R s m args below meth c n0 T h cells slots) (hx : p.tables.exec = Jvm.exec) (hZ : Z.Warmed39 s.vm) {own R0 O n d host : String} {index : Nat} (hown : s.vm.findClass own = some m.cls) (w : (Jvm.Cond.fieldLink own index R0 n d).before a0 Z = true ∨ (Jvm.Cond.fieldLinkNest own index R0 n d host).before a0 Z = true) (via : Via Z R0 O n d)
    {a : Addr} {v : Value} (F : Fld Z h a O n d v) {g : JFrame} (hg : g.method = m) {rest : List Value} (hst : g.stack = .ref a :: rest) (hd : decode c.code g.pc = .ok (.getfield index, 3))
    (k : ∀ T' : State, Sd p l e R s m args below meth c n0 T' h cells slots → G T' { g with pc := g.pc + 3, stack := v :: rest }) : G T g := by
  obtain ⟨L, X, N, eh⟩ := X
  obtain ⟨T', X', e', st⟩ := getF X hx hZ hown w via eh F hg hst hd
  exact hs.go st (k T' ⟨L, X', N, e'⟩)
theorem rGetS (hs : Clo p e below G) (X : Sd p l e R s m args below meth c n0 T h cells slots) (hx : p.tables.exec = Jvm.exec) (hZ : Z.Warmed39 s.vm) {own R0 O n d host : String} {index : Nat} (hown : s.vm.findClass own = some m.cls) (w : (Jvm.Cond.fieldLink own index R0 n d).before a0 Z = true ∨ (Jvm.Cond.fieldLinkNest own index R0 n d host).before a0 Z = true) (via : Via Z R0 O n d)
    {v : Value} (F : Sta Z h O n d v) {g : JFrame} (hg : g.method = m) (hd : decode c.code g.pc = .ok (.getstatic index, 3))
    (k : ∀ T' : State, Sd p l e R s m args below meth c n0 T' h cells slots → G T' { g with pc := g.pc + 3, stack := v :: g.stack }) : G T g := by
  obtain ⟨L, X, N, eh⟩ := X
  obtain ⟨T', X', e', st⟩ := getS2 X hx hZ hown w via eh F hg hd
  exact hs.go st (k T' ⟨L, X', N, e'⟩)
theorem rPutF (hs : Clo p e below G) (X : Sd p l e R s m args below meth c n0 T h cells slots) (hx : p.tables.exec = Jvm.exec) (hZ : Z.Warmed39 s.vm) {own R0 O n d host C : String} {index kk : Nat} (ty : FieldType) (hown : s.vm.findClass own = some m.cls) (w : (Jvm.Cond.fieldLink own index R0 n d).before a0 Z = true ∨ (Jvm.Cond.fieldLinkNest own index R0 n d host).before a0 Z = true) (via : Via Z R0 O n d)
    {a : Addr} {v old : Value} (F : Fld Z h a O n d old) (E : Exa Z h a C) (ga : n0 ≤ a) (L : (Jvm.Cond.lays C O n d).before a0 Z = true ∨ ((Jvm.Cond.laysFinal C O n d).before a0 Z = true ∧ own = O ∧ meth.name = "<init>")) (wi : (Jvm.Cond.instantiable C kk).before a0 Z = true)
    (hty : parseFieldDescriptor d = some ty) (hn : narrow ty v = v) (hf : fits ty v = true) {g : JFrame} (hg : g.method = m) {rest : List Value} (hst : g.stack = v :: .ref a :: rest) (hd : decode c.code g.pc = .ok (.putfield index, 3))
    (k : ∀ (T' : State) (h' : Heap), Sd p l e R s m args below meth c n0 T' h' cells slots → Wr h h' a (Jvm.RoadKit.slotOf Z O n d) v → Fld Z h' a O n d v → G T' { g with pc := g.pc + 3, stack := rest }) : G T g := by
  obtain ⟨L0, X, N, eh⟩ := X
  obtain ⟨T', h', X', e', W, st⟩ := putF X hx hZ hown w via eh F E L wi hty hn hf hg hst hd
  exact hs.go st (k T' h' ⟨_, X', Fr.snoc X' N ga, e'⟩ W (F.same W))
/-! calls -/
theorem rCallS (hs : Clo p e below G) (X : Sd p l e R s m args below meth c n0 T h cells slots) (hx : p.tables.exec = Jvm.exec) (hZ : Z.Warmed39 s.vm) {own : String} {index : Nat} {y : MethodName} {bytes : ByteArray} {maxL : Nat} {ret : Option FieldType} {rm : Room} {as' : List Value} {Q' : Option Value → Heap → Prop}
    (hM : Con l Z y bytes maxL ret [] rm as'.toArray h n0 Q') (hown : s.vm.findClass own = some m.cls) (w1 : (Jvm.Cond.methodLink own index y).before a0 Z = true) (w2 : (Jvm.Cond.static y).before a0 Z = true) (w3 : (Jvm.Cond.initialized y.cls).before a0 Z = true) (w4 : (Jvm.Cond.code y bytes maxL ret).before a0 Z = true)
    (hy : y.cls ≠ "java/lang/invoke/MethodHandle" ∧ y.cls ≠ "java/lang/invoke/VarHandle") {g : JFrame} (hg : g.method = m) (hsize : g.locals.size = c.maxLocals) (rest : List Value) (hlen : ∀ sig, parseMethodDescriptor y.desc = some sig → as'.length = sig.parameters.length)
    (hst : g.stack = as'.reverse ++ rest) (W : Nat) (hW : 2 * g.monitorRoom + (rest.map fun v => v.category).sum ≤ W) (hd : decode c.code g.pc = .ok (.invokestatic index, 3))
    (hf : rm.frames + 1 ≤ R.frames) (hl : W + (maxL + 11) + rm.locals ≤ R.locals) (hc : cells + rm.cells ≤ R.cells) (hsl : slots + rm.slots ≤ R.slots)
    (k : ∀ (v : Option Value) (T' : State) (h' : Heap), Sd p l e R s m args below meth c n0 T' h' (cells + rm.cells) (slots + rm.slots) → Q' v h' → G T' { g with pc := g.pc + 3, stack := v.toList ++ rest }) : G T g := by
  obtain ⟨L, X, N, eh⟩ := X
  obtain ⟨v, vm₁, ⟨T', L', k', n'⟩, -, X', ⟨Lc, ⟨hQ, hN⟩, l', y', z'⟩, st⟩ := Jvm.LawKit.callS X hx (y := y) hown (mvT hZ w1) (mvT hZ w2) (mvT hZ w3) (mvT hZ w4) hy (backOf (Q := fun v h L => Q' v h ∧ Fr n0 L) (W := W) hM hZ w4 w3 hf hl) hg hsize (argsL := as') (rest := rest) hlen hst hW hd (fun _ _ => ⟨rfl, eh, hc, hsl⟩)
  dsimp only [Pt.U, Pt.locs, Pt.cells, Pt.slots] at X' l' y' z' st hQ
  subst l' y' z'
  exact hs.go st (k v T' T'.heap ⟨_, X', Fr.app N hN, rfl⟩ hQ)
theorem rCallI (hs : Clo p e below G) (X : Sd p l e R s m args below meth c n0 T h cells slots) (hx : p.tables.exec = Jvm.exec) (hZ : Z.Warmed39 s.vm) {own : String} {index : Nat} {y : MethodName} {bytes : ByteArray} {maxL : Nat} {rm : Room} {a : Addr} {as' : List Value} {Q' : Option Value → Heap → Prop}
    (hM : Con l Z y bytes maxL none [] rm (Value.ref a :: as').toArray h n0 Q') (hyn : y.name = "<init>") (hown : s.vm.findClass own = some m.cls) (w1 : (Jvm.Cond.methodLink own index y).before a0 Z = true) (w2 : (Jvm.Cond.instanceMethod y).before a0 Z = true) (w3 : (Jvm.Cond.initialized y.cls).before a0 Z = true) (w4 : (Jvm.Cond.code y bytes maxL none).before a0 Z = true)
    (hy : y.cls ≠ "java/lang/invoke/MethodHandle" ∧ y.cls ≠ "java/lang/invoke/VarHandle") {g : JFrame} (hg : g.method = m) (hsize : g.locals.size = c.maxLocals) (rest : List Value) (hlen : ∀ sig, parseMethodDescriptor y.desc = some sig → as'.length = sig.parameters.length)
    (hst : g.stack = as'.reverse ++ .ref a :: rest) (W : Nat) (hW : 2 * g.monitorRoom + (rest.map fun v => v.category).sum ≤ W) (hd : decode c.code g.pc = .ok (.invokespecial index, 3))
    (hf : rm.frames + 1 ≤ R.frames) (hl : W + (maxL + 11) + rm.locals ≤ R.locals) (hc : cells + rm.cells ≤ R.cells) (hsl : slots + rm.slots ≤ R.slots)
    (k : ∀ (v : Option Value) (T' : State) (h' : Heap), Sd p l e R s m args below meth c n0 T' h' (cells + rm.cells) (slots + rm.slots) → Q' v h' → G T' { g with pc := g.pc + 3, stack := v.toList ++ rest }) : G T g := by
  obtain ⟨L, X, N, eh⟩ := X
  obtain ⟨v, vm₁, ⟨T', L', k', n'⟩, -, X', ⟨Lc, ⟨hQ, hN⟩, l', y', z'⟩, st⟩ := X.specialBack hx (y := y) hyn hown (mvT hZ w1) (mvT hZ w2) (mvT hZ w4) hy (backOf (Q := fun v h L => Q' v h ∧ Fr n0 L) (W := W) hM hZ w4 w3 hf hl) hg hsize (Steps.refl _) (a := a) (argsL := as') (rest := rest) hlen hst hW hd (fun _ _ => ⟨rfl, eh, hc, hsl⟩)
  dsimp only [Pt.U, Pt.locs, Pt.cells, Pt.slots] at X' l' y' z' st hQ
  subst l' y' z'
  exact hs.go (fun _ q => st.trans q) (k v T' T'.heap ⟨_, X', Fr.app N hN, rfl⟩ hQ)
theorem rCallV (hs : Clo p e below G) (X : Sd p l e R s m args below meth c n0 T h cells slots) (hx : p.tables.exec = Jvm.exec) (hZ : Z.Warmed39 s.vm) {own C : String} {index : Nat} {y : MethodName} {bytes : ByteArray} {maxL : Nat} {ret : Option FieldType} {rm : Room} {a : Addr} {as' : List Value} {Q' : Option Value → Heap → Prop}
    (hM : Con l Z y bytes maxL ret [] rm (Value.ref a :: as').toArray h n0 Q') (E : Exa Z h a C) (hown : s.vm.findClass own = some m.cls) (w1 : (Jvm.Cond.methodLink own index y).before a0 Z = true) (w5 : (Jvm.Cond.declares y).before a0 Z = true) (w6 : (Jvm.Cond.selects C y y).before a0 Z = true) (w2 : (Jvm.Cond.instanceMethod y).before a0 Z = true) (w3 : (Jvm.Cond.initialized y.cls).before a0 Z = true) (w4 : (Jvm.Cond.code y bytes maxL ret).before a0 Z = true)
    (hy : y.cls ≠ "java/lang/invoke/MethodHandle" ∧ y.cls ≠ "java/lang/invoke/VarHandle") {g : JFrame} (hg : g.method = m) (hsize : g.locals.size = c.maxLocals) (rest : List Value) (hlen : ∀ sig, parseMethodDescriptor y.desc = some sig → as'.length = sig.parameters.length)
    (hst : g.stack = as'.reverse ++ .ref a :: rest) (W : Nat) (hW : 2 * g.monitorRoom + (rest.map fun v => v.category).sum ≤ W) (hd : decode c.code g.pc = .ok (.invokevirtual index, 3))
    (hf : rm.frames + 1 ≤ R.frames) (hl : W + (maxL + 11) + rm.locals ≤ R.locals) (hc : cells + rm.cells ≤ R.cells) (hsl : slots + rm.slots ≤ R.slots)
    (k : ∀ (v : Option Value) (T' : State) (h' : Heap), Sd p l e R s m args below meth c n0 T' h' (cells + rm.cells) (slots + rm.slots) → Q' v h' → G T' { g with pc := g.pc + 3, stack := v.toList ++ rest }) : G T g := by
  obtain ⟨L, X, N, eh⟩ := X
  obtain ⟨cB, kB, qa, qb, qc⟩ := isOf (T := T) hZ eh E
  obtain ⟨v, vm₁, ⟨T', L', k', n'⟩, -, X', ⟨Lc, ⟨hQ, hN⟩, l', y', z'⟩, st⟩ := X.virtualBack hx (y := y) (z := y) hown (mvT hZ w1) (mvT hZ w5) (notFace_of_selects (args := #[]) (mvT hZ w6)) (mvT hZ w6) (mvT hZ w2) hy (backOf (Q := fun v h L => Q' v h ∧ Fr n0 L) (W := W) hM hZ w4 w3 hf hl) qa qc hg hsize (Steps.refl _) (argsL := as') (rest := rest) hlen hst hW hd (fun _ _ => ⟨rfl, eh, hc, hsl⟩)
  dsimp only [Pt.U, Pt.locs, Pt.cells, Pt.slots] at X' l' y' z' st hQ
  subst l' y' z'
  exact hs.go (fun _ q => st.trans q) (k v T' T'.heap ⟨_, X', Fr.app N hN, rfl⟩ hQ)
/-! branches -/
theorem ltL {x y : Int64} (h : x < y) : if_icmp.holds .lt (lcmpW x y) 0 = true ∧ if_icmp.holds .ge (lcmpW x y) 0 = false := have q := tlt ((lw_lt x y).mpr h); ⟨q.1, q.2.1⟩
theorem nltL {x y : Int64} (h : ¬ x < y) : if_icmp.holds .lt (lcmpW x y) 0 = false ∧ if_icmp.holds .ge (lcmpW x y) 0 = true := have q := flt (fun z => h ((lw_lt x y).mp z)); ⟨q.1, q.2.1⟩
theorem gtL {x y : Int64} (h : y < x) : if_icmp.holds .gt (lcmpW x y) 0 = true ∧ if_icmp.holds .le (lcmpW x y) 0 = false := have q := tlt ((lw_gt x y).mpr h); ⟨q.2.2.1, q.2.2.2⟩
theorem ngtL {x y : Int64} (h : ¬ y < x) : if_icmp.holds .gt (lcmpW x y) 0 = false ∧ if_icmp.holds .le (lcmpW x y) 0 = true := have q := flt (fun z => h ((lw_gt x y).mp z)); ⟨q.2.2.1, q.2.2.2⟩
theorem eqL {x y : Int64} (h : x = y) : if_icmp.holds .eq (lcmpW x y) 0 = true ∧ if_icmp.holds .ne (lcmpW x y) 0 = false := teq ((lw_eq x y).mpr h)
theorem neqL {x y : Int64} (h : ¬ x = y) : if_icmp.holds .eq (lcmpW x y) 0 = false ∧ if_icmp.holds .ne (lcmpW x y) 0 = true := feq (fun z => h ((lw_eq x y).mp z))
theorem nameIt {α : Type} {P : α → Prop} (x : α) (k : ∀ z, z = x → P z) : P x := k x rfl
theorem eq64 {x y : Int64} (h : x.toInt = y.toInt) : x = y := Int64.toInt_inj.mp h
theorem eq32 {x y : Int32} (h : x.toInt = y.toInt) : x = y := Int32.toInt_inj.mp h
theorem lt64 {x y : Int64} : x < y ↔ x.toInt < y.toInt := Int64.lt_iff_toInt_lt
theorem lt32 {x y : Int32} : x < y ↔ x.toInt < y.toInt := Int32.lt_iff_toInt_lt
theorem e64 {x y : Int64} : x = y ↔ x.toInt = y.toInt := Int64.toInt_inj.symm
theorem e32 {x y : Int32} : x = y ↔ x.toInt = y.toInt := Int32.toInt_inj.symm
theorem c_lremM (x y : Int64) (d : Int) (hy : y.toInt = d) : (0 ≤ x.toInt → (x % y).toInt = x.toInt % d) ∧ (x.toInt < 0 → (x % y).toInt = -((-x.toInt) % d)) := by rw [Int64.toInt_mod, hy]; exact tr _ _
theorem nar_byte (x : Int32) : x.toInt8.toInt32.toInt8.toInt32 = x.toInt8.toInt32 := by simp
end OwnKit

def ftk (p fe mo : Int32) : Int32 := if p < fe then (0 : Int32) else (if mo < p then (0 : Int32) else (1 : Int32))
theorem d1_0 : decode prog_106_method_8_code 0 = .ok (.iload_n 1, 1) := by decide +kernel
theorem d1_1 : decode prog_106_method_8_code 1 = .ok (.aload_n 0, 1) := by decide +kernel
theorem d1_2 : decode prog_106_method_8_code 2 = .ok (.getfield 71, 3) := by decide +kernel
theorem d1_5 : decode prog_106_method_8_code 5 = .ok (.if_icmp .lt 15, 3) := by decide +kernel
theorem d1_8 : decode prog_106_method_8_code 8 = .ok (.iload_n 1, 1) := by decide +kernel
theorem d1_9 : decode prog_106_method_8_code 9 = .ok (.aload_n 0, 1) := by decide +kernel
theorem d1_10 : decode prog_106_method_8_code 10 = .ok (.getfield 75, 3) := by decide +kernel
theorem d1_13 : decode prog_106_method_8_code 13 = .ok (.if_icmp .gt 7, 3) := by decide +kernel
theorem d1_16 : decode prog_106_method_8_code 16 = .ok (.iconst 1, 1) := by decide +kernel
theorem d1_17 : decode prog_106_method_8_code 17 = .ok (.goto 4, 3) := by decide +kernel
theorem d1_20 : decode prog_106_method_8_code 20 = .ok (.iconst 0, 1) := by decide +kernel
theorem d1_21 : decode prog_106_method_8_code 21 = .ok (.ireturn, 1) := by decide +kernel
theorem pn_1 : plainFor (⟨"tabeliao/server/Command", "takes", "(I)Z"⟩ : MethodName) = true := plainFor_of_name (by first | (simp [plainName, overriddenIn]; done) | decide +kernel)
theorem ef_1 (m : MethodId) (x0 : Addr) (x1 : Int32) : entryFrame m #[(.ref x0), (.int x1)] 2 = mkF m 0 #[.val (.ref x0), .val (.int x1)] [] := by first | (simp [entryFrame, mkF, argsToLocals, Value.category]; done) | rfl
theorem hy_1 : ((⟨"tabeliao/server/Command", "takes", "(I)Z"⟩ : MethodName)).cls ≠ "java/lang/invoke/MethodHandle" ∧ ((⟨"tabeliao/server/Command", "takes", "(I)Z"⟩ : MethodName)).cls ≠ "java/lang/invoke/VarHandle" := by decide
set_option maxRecDepth 65536 in
set_option maxHeartbeats 40000000 in
theorem rm1 (l : Launch) (Z : State) (a0 : Array Value) (hw : ∀ d ∈ tables_1, d.before a0 Z = true) (ws : List Jvm.Cond) (a : Addr) (pp fe mo : Int32) (h0 : Heap) (n0 : Nat) (Z0 : n0 ≤ h0.size) (F_fewest_a : Fld Z h0 a "tabeliao/server/Command" "fewest" "I" (.int fe)) (F_most_a : Fld Z h0 a "tabeliao/server/Command" "most" "I" (.int mo)) :
    Con l Z (⟨"tabeliao/server/Command", "takes", "(I)Z"⟩ : MethodName) prog_106_method_8_code 2 (some .boolean) ws ({ frames := 0, cells := 0, slots := 0, locals := 0 } : Room) #[(.ref a), (.int pp)] h0 n0 (fun v h => v = some (.int (ftk pp fe mo)) ∧ h = h0) := by
  refine Con.of pn_1 ?_
  intro G p e s m below meth c s₁ hs hx hby hml hown hnm hret hZ X0 fin
  have hml : c.maxLocals = 2 := hml
  have hown : s.vm.findClass "tabeliao/server/Command" = some m.cls := hown
  rw [ef_1]
  show G s₁ (mkF m 0 #[.val (.ref a), .val (.int pp)] [])
  refine hs.go (fun _ kk_ => XS.iloadN X0.here hx rfl (hb hby d1_0) rfl  kk_) ?_
  show G s₁ (mkF m 1 #[.val (.ref a), .val (.int pp)] [(.int pp)])
  refine hs.go (fun _ kk_ => XS.aloadN X0.here hx rfl (hb hby d1_1) rfl rfl kk_) ?_
  show G s₁ (mkF m 2 #[.val (.ref a), .val (.int pp)] [(.ref a), (.int pp)])
  refine rGetF hs X0 hx hZ hown (host := "") (Or.inl (hw _ (List.mem_of_getElem? (i := 36) rfl))) Via.refl F_fewest_a rfl rfl (hb hby d1_2) (fun T1 X1 => ?_)
  show G T1 (mkF m 5 #[.val (.ref a), .val (.int pp)] [(.int fe), (.int pp)])
  by_cases c5 : pp < fe
  · refine hs.go (fun _ kk_ => XS.icmpYes X1.here hx rfl (pc0 := 5) (pc' := 20) rfl (hb hby d1_5) rfl (tlt c5).1 (by decide) (by decide) kk_) ?_
    show G T1 (mkF m 20 #[.val (.ref a), .val (.int pp)] [])
    refine hs.go (fun _ kk_ => XS.iconst X1.here hx rfl (hb hby d1_20) kk_) ?_
    show G T1 (mkF m 21 #[.val (.ref a), .val (.int pp)] [(.int (0 : Int32))])
    exact rRetN fin X1 hx (by decide) (by decide) hret (by simp) (hb hby d1_21) (z' := (0 : Int32)) (by decide) ⟨by rw [ftk, if_pos c5], rfl⟩
  · refine hs.go (fun _ kk_ => XS.icmpNo X1.here hx rfl (hb hby d1_5) rfl (flt c5).1 kk_) ?_
    show G T1 (mkF m 8 #[.val (.ref a), .val (.int pp)] [])
    refine hs.go (fun _ kk_ => XS.iloadN X1.here hx rfl (hb hby d1_8) rfl  kk_) ?_
    show G T1 (mkF m 9 #[.val (.ref a), .val (.int pp)] [(.int pp)])
    refine hs.go (fun _ kk_ => XS.aloadN X1.here hx rfl (hb hby d1_9) rfl rfl kk_) ?_
    show G T1 (mkF m 10 #[.val (.ref a), .val (.int pp)] [(.ref a), (.int pp)])
    refine rGetF hs X1 hx hZ hown (host := "") (Or.inl (hw _ (List.mem_of_getElem? (i := 38) rfl))) Via.refl F_most_a rfl rfl (hb hby d1_10) (fun T2 X2 => ?_)
    show G T2 (mkF m 13 #[.val (.ref a), .val (.int pp)] [(.int mo), (.int pp)])
    by_cases c13 : mo < pp
    · refine hs.go (fun _ kk_ => XS.icmpYes X2.here hx rfl (pc0 := 13) (pc' := 20) rfl (hb hby d1_13) rfl (tlt c13).2.2.1 (by decide) (by decide) kk_) ?_
      show G T2 (mkF m 20 #[.val (.ref a), .val (.int pp)] [])
      refine hs.go (fun _ kk_ => XS.iconst X2.here hx rfl (hb hby d1_20) kk_) ?_
      show G T2 (mkF m 21 #[.val (.ref a), .val (.int pp)] [(.int (0 : Int32))])
      exact rRetN fin X2 hx (by decide) (by decide) hret (by simp) (hb hby d1_21) (z' := (0 : Int32)) (by decide) ⟨by rw [ftk, if_neg c5, if_pos c13], rfl⟩
    · refine hs.go (fun _ kk_ => XS.icmpNo X2.here hx rfl (hb hby d1_13) rfl (flt c13).2.2.1 kk_) ?_
      show G T2 (mkF m 16 #[.val (.ref a), .val (.int pp)] [])
      refine hs.go (fun _ kk_ => XS.iconst X2.here hx rfl (hb hby d1_16) kk_) ?_
      show G T2 (mkF m 17 #[.val (.ref a), .val (.int pp)] [(.int (1 : Int32))])
      refine hs.go (fun _ kk_ => XS.goto X2.here hx rfl (pc0 := 17) (pc' := 21) rfl (hb hby d1_17) (by decide) (by decide) kk_) ?_
      show G T2 (mkF m 21 #[.val (.ref a), .val (.int pp)] [(.int (1 : Int32))])
      exact rRetN fin X2 hx (by decide) (by decide) hret (by simp) (hb hby d1_21) (z' := (1 : Int32)) (by decide) ⟨by rw [ftk, if_neg c5, if_neg c13], rfl⟩
def f2 (kk : Int32) (ct : Int32) : Int32 := (if kk = (1 : Int32) then (if ct < (0 : Int32) then (0 : Int32) else (1 : Int32)) else (if kk = (4 : Int32) then (if ct < (1 : Int32) then (0 : Int32) else (1 : Int32)) else (if kk = (2 : Int32) then (if ct = (1 : Int32) then (1 : Int32) else (0 : Int32)) else (if kk = (3 : Int32) then (if ct = (2 : Int32) then (1 : Int32) else (0 : Int32)) else (if kk = (5 : Int32) then (if ct = (2 : Int32) then (1 : Int32) else (0 : Int32)) else (if kk = (6 : Int32) then (if ct = (2 : Int32) then (1 : Int32) else (0 : Int32)) else (if ct = (0 : Int32) then (1 : Int32) else (0 : Int32))))))))
theorem d2_0 : decode method_2_code 0 = .ok (.iload_n 0, 1) := by decide +kernel
theorem d2_1 : decode method_2_code 1 = .ok (.iconst 1, 1) := by decide +kernel
theorem d2_2 : decode method_2_code 2 = .ok (.if_icmp .ne 13, 3) := by decide +kernel
theorem d2_5 : decode method_2_code 5 = .ok (.iload_n 1, 1) := by decide +kernel
theorem d2_6 : decode method_2_code 6 = .ok (.ifCond .lt 7, 3) := by decide +kernel
theorem d2_9 : decode method_2_code 9 = .ok (.iconst 1, 1) := by decide +kernel
theorem d2_10 : decode method_2_code 10 = .ok (.goto 4, 3) := by decide +kernel
theorem d2_13 : decode method_2_code 13 = .ok (.iconst 0, 1) := by decide +kernel
theorem d2_14 : decode method_2_code 14 = .ok (.ireturn, 1) := by decide +kernel
theorem d2_15 : decode method_2_code 15 = .ok (.iload_n 0, 1) := by decide +kernel
theorem d2_16 : decode method_2_code 16 = .ok (.iconst 4, 1) := by decide +kernel
theorem d2_17 : decode method_2_code 17 = .ok (.if_icmp .ne 14, 3) := by decide +kernel
theorem d2_20 : decode method_2_code 20 = .ok (.iload_n 1, 1) := by decide +kernel
theorem d2_21 : decode method_2_code 21 = .ok (.iconst 1, 1) := by decide +kernel
theorem d2_22 : decode method_2_code 22 = .ok (.if_icmp .lt 7, 3) := by decide +kernel
theorem d2_25 : decode method_2_code 25 = .ok (.iconst 1, 1) := by decide +kernel
theorem d2_26 : decode method_2_code 26 = .ok (.goto 4, 3) := by decide +kernel
theorem d2_29 : decode method_2_code 29 = .ok (.iconst 0, 1) := by decide +kernel
theorem d2_30 : decode method_2_code 30 = .ok (.ireturn, 1) := by decide +kernel
theorem d2_31 : decode method_2_code 31 = .ok (.iload_n 0, 1) := by decide +kernel
theorem d2_32 : decode method_2_code 32 = .ok (.iconst 2, 1) := by decide +kernel
theorem d2_33 : decode method_2_code 33 = .ok (.if_icmp .ne 14, 3) := by decide +kernel
theorem d2_36 : decode method_2_code 36 = .ok (.iload_n 1, 1) := by decide +kernel
theorem d2_37 : decode method_2_code 37 = .ok (.iconst 1, 1) := by decide +kernel
theorem d2_38 : decode method_2_code 38 = .ok (.if_icmp .ne 7, 3) := by decide +kernel
theorem d2_41 : decode method_2_code 41 = .ok (.iconst 1, 1) := by decide +kernel
theorem d2_42 : decode method_2_code 42 = .ok (.goto 4, 3) := by decide +kernel
theorem d2_45 : decode method_2_code 45 = .ok (.iconst 0, 1) := by decide +kernel
theorem d2_46 : decode method_2_code 46 = .ok (.ireturn, 1) := by decide +kernel
theorem d2_47 : decode method_2_code 47 = .ok (.iload_n 0, 1) := by decide +kernel
theorem d2_48 : decode method_2_code 48 = .ok (.iconst 3, 1) := by decide +kernel
theorem d2_49 : decode method_2_code 49 = .ok (.if_icmp .eq 14, 3) := by decide +kernel
theorem d2_52 : decode method_2_code 52 = .ok (.iload_n 0, 1) := by decide +kernel
theorem d2_53 : decode method_2_code 53 = .ok (.iconst 5, 1) := by decide +kernel
theorem d2_54 : decode method_2_code 54 = .ok (.if_icmp .eq 9, 3) := by decide +kernel
theorem d2_57 : decode method_2_code 57 = .ok (.iload_n 0, 1) := by decide +kernel
theorem d2_58 : decode method_2_code 58 = .ok (.bipush 6, 2) := by decide +kernel
theorem d2_60 : decode method_2_code 60 = .ok (.if_icmp .ne 14, 3) := by decide +kernel
theorem d2_63 : decode method_2_code 63 = .ok (.iload_n 1, 1) := by decide +kernel
theorem d2_64 : decode method_2_code 64 = .ok (.iconst 2, 1) := by decide +kernel
theorem d2_65 : decode method_2_code 65 = .ok (.if_icmp .ne 7, 3) := by decide +kernel
theorem d2_68 : decode method_2_code 68 = .ok (.iconst 1, 1) := by decide +kernel
theorem d2_69 : decode method_2_code 69 = .ok (.goto 4, 3) := by decide +kernel
theorem d2_72 : decode method_2_code 72 = .ok (.iconst 0, 1) := by decide +kernel
theorem d2_73 : decode method_2_code 73 = .ok (.ireturn, 1) := by decide +kernel
theorem d2_74 : decode method_2_code 74 = .ok (.iload_n 1, 1) := by decide +kernel
theorem d2_75 : decode method_2_code 75 = .ok (.ifCond .ne 7, 3) := by decide +kernel
theorem d2_78 : decode method_2_code 78 = .ok (.iconst 1, 1) := by decide +kernel
theorem d2_79 : decode method_2_code 79 = .ok (.goto 4, 3) := by decide +kernel
theorem d2_82 : decode method_2_code 82 = .ok (.iconst 0, 1) := by decide +kernel
theorem d2_83 : decode method_2_code 83 = .ok (.ireturn, 1) := by decide +kernel
theorem pn_2 : plainFor (⟨"tabeliao/server/CommandTakesPinLaw", "expected", "(II)Z"⟩ : MethodName) = true := plainFor_of_name (by first | (simp [plainName, overriddenIn]; done) | decide +kernel)
theorem ef_2 (m : MethodId) (x0 : Int32) (x1 : Int32) : entryFrame m #[(.int x0), (.int x1)] 2 = mkF m 0 #[.val (.int x0), .val (.int x1)] [] := by first | (simp [entryFrame, mkF, argsToLocals, Value.category]; done) | rfl
theorem hy_2 : ((⟨"tabeliao/server/CommandTakesPinLaw", "expected", "(II)Z"⟩ : MethodName)).cls ≠ "java/lang/invoke/MethodHandle" ∧ ((⟨"tabeliao/server/CommandTakesPinLaw", "expected", "(II)Z"⟩ : MethodName)).cls ≠ "java/lang/invoke/VarHandle" := by decide
set_option maxRecDepth 65536 in
set_option maxHeartbeats 40000000 in
theorem rm2 (l : Launch) (Z : State) (a0 : Array Value) (hw : ∀ d ∈ tables_1, d.before a0 Z = true) (ws : List Jvm.Cond) (kk : Int32) (ct : Int32) (h0 : Heap) (n0 : Nat) (Z0 : n0 ≤ h0.size)  :
    Con l Z (⟨"tabeliao/server/CommandTakesPinLaw", "expected", "(II)Z"⟩ : MethodName) method_2_code 2 (some .boolean) ws ({ frames := 0, cells := 0, slots := 0, locals := 0 } : Room) #[(.int kk), (.int ct)] h0 n0 (fun v h => v = some (.int (f2 kk ct)) ∧ h = h0) := by
  refine Con.of pn_2 ?_
  intro G p e s m below meth c s₁ hs hx hby hml hown hnm hret hZ X0 fin
  have hml : c.maxLocals = 2 := hml
  have hown : s.vm.findClass "tabeliao/server/CommandTakesPinLaw" = some m.cls := hown
  rw [ef_2]
  show G s₁ (mkF m 0 #[.val (.int kk), .val (.int ct)] [])
  refine hs.go (fun _ kk_ => XS.iloadN X0.here hx rfl (hb hby d2_0) rfl  kk_) ?_
  show G s₁ (mkF m 1 #[.val (.int kk), .val (.int ct)] [(.int kk)])
  refine hs.go (fun _ kk_ => XS.iconst X0.here hx rfl (hb hby d2_1) kk_) ?_
  show G s₁ (mkF m 2 #[.val (.int kk), .val (.int ct)] [(.int (1 : Int32)), (.int kk)])
  by_cases c2 : kk = (1 : Int32)
  · refine hs.go (fun _ kk_ => XS.icmpNo X0.here hx rfl (hb hby d2_2) rfl (teq c2).2 kk_) ?_
    show G s₁ (mkF m 5 #[.val (.int kk), .val (.int ct)] [])
    refine hs.go (fun _ kk_ => XS.iloadN X0.here hx rfl (hb hby d2_5) rfl  kk_) ?_
    show G s₁ (mkF m 6 #[.val (.int kk), .val (.int ct)] [(.int ct)])
    by_cases c6 : ct < (0 : Int32)
    · refine hs.go (fun _ kk_ => XS.ifYes X0.here hx rfl (pc0 := 6) (pc' := 13) rfl (hb hby d2_6) rfl ((if0 _ _).trans (tlt c6).1) (by decide) (by decide) kk_) ?_
      show G s₁ (mkF m 13 #[.val (.int kk), .val (.int ct)] [])
      refine hs.go (fun _ kk_ => XS.iconst X0.here hx rfl (hb hby d2_13) kk_) ?_
      show G s₁ (mkF m 14 #[.val (.int kk), .val (.int ct)] [(.int (0 : Int32))])
      exact rRetN fin X0 hx (by decide) (by decide) hret (by simp) (hb hby d2_14) (z' := (0 : Int32)) (by decide) ⟨by rw [f2, if_pos c2, if_pos c6], rfl⟩
    · refine hs.go (fun _ kk_ => XS.ifNo X0.here hx rfl (hb hby d2_6) rfl ((if0 _ _).trans (flt c6).1) kk_) ?_
      show G s₁ (mkF m 9 #[.val (.int kk), .val (.int ct)] [])
      refine hs.go (fun _ kk_ => XS.iconst X0.here hx rfl (hb hby d2_9) kk_) ?_
      show G s₁ (mkF m 10 #[.val (.int kk), .val (.int ct)] [(.int (1 : Int32))])
      refine hs.go (fun _ kk_ => XS.goto X0.here hx rfl (pc0 := 10) (pc' := 14) rfl (hb hby d2_10) (by decide) (by decide) kk_) ?_
      show G s₁ (mkF m 14 #[.val (.int kk), .val (.int ct)] [(.int (1 : Int32))])
      exact rRetN fin X0 hx (by decide) (by decide) hret (by simp) (hb hby d2_14) (z' := (1 : Int32)) (by decide) ⟨by rw [f2, if_pos c2, if_neg c6], rfl⟩
  · refine hs.go (fun _ kk_ => XS.icmpYes X0.here hx rfl (pc0 := 2) (pc' := 15) rfl (hb hby d2_2) rfl (feq c2).2 (by decide) (by decide) kk_) ?_
    show G s₁ (mkF m 15 #[.val (.int kk), .val (.int ct)] [])
    refine hs.go (fun _ kk_ => XS.iloadN X0.here hx rfl (hb hby d2_15) rfl  kk_) ?_
    show G s₁ (mkF m 16 #[.val (.int kk), .val (.int ct)] [(.int kk)])
    refine hs.go (fun _ kk_ => XS.iconst X0.here hx rfl (hb hby d2_16) kk_) ?_
    show G s₁ (mkF m 17 #[.val (.int kk), .val (.int ct)] [(.int (4 : Int32)), (.int kk)])
    by_cases c17 : kk = (4 : Int32)
    · refine hs.go (fun _ kk_ => XS.icmpNo X0.here hx rfl (hb hby d2_17) rfl (teq c17).2 kk_) ?_
      show G s₁ (mkF m 20 #[.val (.int kk), .val (.int ct)] [])
      refine hs.go (fun _ kk_ => XS.iloadN X0.here hx rfl (hb hby d2_20) rfl  kk_) ?_
      show G s₁ (mkF m 21 #[.val (.int kk), .val (.int ct)] [(.int ct)])
      refine hs.go (fun _ kk_ => XS.iconst X0.here hx rfl (hb hby d2_21) kk_) ?_
      show G s₁ (mkF m 22 #[.val (.int kk), .val (.int ct)] [(.int (1 : Int32)), (.int ct)])
      by_cases c22 : ct < (1 : Int32)
      · refine hs.go (fun _ kk_ => XS.icmpYes X0.here hx rfl (pc0 := 22) (pc' := 29) rfl (hb hby d2_22) rfl (tlt c22).1 (by decide) (by decide) kk_) ?_
        show G s₁ (mkF m 29 #[.val (.int kk), .val (.int ct)] [])
        refine hs.go (fun _ kk_ => XS.iconst X0.here hx rfl (hb hby d2_29) kk_) ?_
        show G s₁ (mkF m 30 #[.val (.int kk), .val (.int ct)] [(.int (0 : Int32))])
        exact rRetN fin X0 hx (by decide) (by decide) hret (by simp) (hb hby d2_30) (z' := (0 : Int32)) (by decide) ⟨by rw [f2, if_neg c2, if_pos c17, if_pos c22], rfl⟩
      · refine hs.go (fun _ kk_ => XS.icmpNo X0.here hx rfl (hb hby d2_22) rfl (flt c22).1 kk_) ?_
        show G s₁ (mkF m 25 #[.val (.int kk), .val (.int ct)] [])
        refine hs.go (fun _ kk_ => XS.iconst X0.here hx rfl (hb hby d2_25) kk_) ?_
        show G s₁ (mkF m 26 #[.val (.int kk), .val (.int ct)] [(.int (1 : Int32))])
        refine hs.go (fun _ kk_ => XS.goto X0.here hx rfl (pc0 := 26) (pc' := 30) rfl (hb hby d2_26) (by decide) (by decide) kk_) ?_
        show G s₁ (mkF m 30 #[.val (.int kk), .val (.int ct)] [(.int (1 : Int32))])
        exact rRetN fin X0 hx (by decide) (by decide) hret (by simp) (hb hby d2_30) (z' := (1 : Int32)) (by decide) ⟨by rw [f2, if_neg c2, if_pos c17, if_neg c22], rfl⟩
    · refine hs.go (fun _ kk_ => XS.icmpYes X0.here hx rfl (pc0 := 17) (pc' := 31) rfl (hb hby d2_17) rfl (feq c17).2 (by decide) (by decide) kk_) ?_
      show G s₁ (mkF m 31 #[.val (.int kk), .val (.int ct)] [])
      refine hs.go (fun _ kk_ => XS.iloadN X0.here hx rfl (hb hby d2_31) rfl  kk_) ?_
      show G s₁ (mkF m 32 #[.val (.int kk), .val (.int ct)] [(.int kk)])
      refine hs.go (fun _ kk_ => XS.iconst X0.here hx rfl (hb hby d2_32) kk_) ?_
      show G s₁ (mkF m 33 #[.val (.int kk), .val (.int ct)] [(.int (2 : Int32)), (.int kk)])
      by_cases c33 : kk = (2 : Int32)
      · refine hs.go (fun _ kk_ => XS.icmpNo X0.here hx rfl (hb hby d2_33) rfl (teq c33).2 kk_) ?_
        show G s₁ (mkF m 36 #[.val (.int kk), .val (.int ct)] [])
        refine hs.go (fun _ kk_ => XS.iloadN X0.here hx rfl (hb hby d2_36) rfl  kk_) ?_
        show G s₁ (mkF m 37 #[.val (.int kk), .val (.int ct)] [(.int ct)])
        refine hs.go (fun _ kk_ => XS.iconst X0.here hx rfl (hb hby d2_37) kk_) ?_
        show G s₁ (mkF m 38 #[.val (.int kk), .val (.int ct)] [(.int (1 : Int32)), (.int ct)])
        by_cases c38 : ct = (1 : Int32)
        · refine hs.go (fun _ kk_ => XS.icmpNo X0.here hx rfl (hb hby d2_38) rfl (teq c38).2 kk_) ?_
          show G s₁ (mkF m 41 #[.val (.int kk), .val (.int ct)] [])
          refine hs.go (fun _ kk_ => XS.iconst X0.here hx rfl (hb hby d2_41) kk_) ?_
          show G s₁ (mkF m 42 #[.val (.int kk), .val (.int ct)] [(.int (1 : Int32))])
          refine hs.go (fun _ kk_ => XS.goto X0.here hx rfl (pc0 := 42) (pc' := 46) rfl (hb hby d2_42) (by decide) (by decide) kk_) ?_
          show G s₁ (mkF m 46 #[.val (.int kk), .val (.int ct)] [(.int (1 : Int32))])
          exact rRetN fin X0 hx (by decide) (by decide) hret (by simp) (hb hby d2_46) (z' := (1 : Int32)) (by decide) ⟨by rw [f2, if_neg c2, if_neg c17, if_pos c33, if_pos c38], rfl⟩
        · refine hs.go (fun _ kk_ => XS.icmpYes X0.here hx rfl (pc0 := 38) (pc' := 45) rfl (hb hby d2_38) rfl (feq c38).2 (by decide) (by decide) kk_) ?_
          show G s₁ (mkF m 45 #[.val (.int kk), .val (.int ct)] [])
          refine hs.go (fun _ kk_ => XS.iconst X0.here hx rfl (hb hby d2_45) kk_) ?_
          show G s₁ (mkF m 46 #[.val (.int kk), .val (.int ct)] [(.int (0 : Int32))])
          exact rRetN fin X0 hx (by decide) (by decide) hret (by simp) (hb hby d2_46) (z' := (0 : Int32)) (by decide) ⟨by rw [f2, if_neg c2, if_neg c17, if_pos c33, if_neg c38], rfl⟩
      · refine hs.go (fun _ kk_ => XS.icmpYes X0.here hx rfl (pc0 := 33) (pc' := 47) rfl (hb hby d2_33) rfl (feq c33).2 (by decide) (by decide) kk_) ?_
        show G s₁ (mkF m 47 #[.val (.int kk), .val (.int ct)] [])
        refine hs.go (fun _ kk_ => XS.iloadN X0.here hx rfl (hb hby d2_47) rfl  kk_) ?_
        show G s₁ (mkF m 48 #[.val (.int kk), .val (.int ct)] [(.int kk)])
        refine hs.go (fun _ kk_ => XS.iconst X0.here hx rfl (hb hby d2_48) kk_) ?_
        show G s₁ (mkF m 49 #[.val (.int kk), .val (.int ct)] [(.int (3 : Int32)), (.int kk)])
        by_cases c49 : kk = (3 : Int32)
        · refine hs.go (fun _ kk_ => XS.icmpYes X0.here hx rfl (pc0 := 49) (pc' := 63) rfl (hb hby d2_49) rfl (teq c49).1 (by decide) (by decide) kk_) ?_
          show G s₁ (mkF m 63 #[.val (.int kk), .val (.int ct)] [])
          refine hs.go (fun _ kk_ => XS.iloadN X0.here hx rfl (hb hby d2_63) rfl  kk_) ?_
          show G s₁ (mkF m 64 #[.val (.int kk), .val (.int ct)] [(.int ct)])
          refine hs.go (fun _ kk_ => XS.iconst X0.here hx rfl (hb hby d2_64) kk_) ?_
          show G s₁ (mkF m 65 #[.val (.int kk), .val (.int ct)] [(.int (2 : Int32)), (.int ct)])
          by_cases c65 : ct = (2 : Int32)
          · refine hs.go (fun _ kk_ => XS.icmpNo X0.here hx rfl (hb hby d2_65) rfl (teq c65).2 kk_) ?_
            show G s₁ (mkF m 68 #[.val (.int kk), .val (.int ct)] [])
            refine hs.go (fun _ kk_ => XS.iconst X0.here hx rfl (hb hby d2_68) kk_) ?_
            show G s₁ (mkF m 69 #[.val (.int kk), .val (.int ct)] [(.int (1 : Int32))])
            refine hs.go (fun _ kk_ => XS.goto X0.here hx rfl (pc0 := 69) (pc' := 73) rfl (hb hby d2_69) (by decide) (by decide) kk_) ?_
            show G s₁ (mkF m 73 #[.val (.int kk), .val (.int ct)] [(.int (1 : Int32))])
            exact rRetN fin X0 hx (by decide) (by decide) hret (by simp) (hb hby d2_73) (z' := (1 : Int32)) (by decide) ⟨by rw [f2, if_neg c2, if_neg c17, if_neg c33, if_pos c49, if_pos c65], rfl⟩
          · refine hs.go (fun _ kk_ => XS.icmpYes X0.here hx rfl (pc0 := 65) (pc' := 72) rfl (hb hby d2_65) rfl (feq c65).2 (by decide) (by decide) kk_) ?_
            show G s₁ (mkF m 72 #[.val (.int kk), .val (.int ct)] [])
            refine hs.go (fun _ kk_ => XS.iconst X0.here hx rfl (hb hby d2_72) kk_) ?_
            show G s₁ (mkF m 73 #[.val (.int kk), .val (.int ct)] [(.int (0 : Int32))])
            exact rRetN fin X0 hx (by decide) (by decide) hret (by simp) (hb hby d2_73) (z' := (0 : Int32)) (by decide) ⟨by rw [f2, if_neg c2, if_neg c17, if_neg c33, if_pos c49, if_neg c65], rfl⟩
        · refine hs.go (fun _ kk_ => XS.icmpNo X0.here hx rfl (hb hby d2_49) rfl (feq c49).1 kk_) ?_
          show G s₁ (mkF m 52 #[.val (.int kk), .val (.int ct)] [])
          refine hs.go (fun _ kk_ => XS.iloadN X0.here hx rfl (hb hby d2_52) rfl  kk_) ?_
          show G s₁ (mkF m 53 #[.val (.int kk), .val (.int ct)] [(.int kk)])
          refine hs.go (fun _ kk_ => XS.iconst X0.here hx rfl (hb hby d2_53) kk_) ?_
          show G s₁ (mkF m 54 #[.val (.int kk), .val (.int ct)] [(.int (5 : Int32)), (.int kk)])
          by_cases c54 : kk = (5 : Int32)
          · refine hs.go (fun _ kk_ => XS.icmpYes X0.here hx rfl (pc0 := 54) (pc' := 63) rfl (hb hby d2_54) rfl (teq c54).1 (by decide) (by decide) kk_) ?_
            show G s₁ (mkF m 63 #[.val (.int kk), .val (.int ct)] [])
            refine hs.go (fun _ kk_ => XS.iloadN X0.here hx rfl (hb hby d2_63) rfl  kk_) ?_
            show G s₁ (mkF m 64 #[.val (.int kk), .val (.int ct)] [(.int ct)])
            refine hs.go (fun _ kk_ => XS.iconst X0.here hx rfl (hb hby d2_64) kk_) ?_
            show G s₁ (mkF m 65 #[.val (.int kk), .val (.int ct)] [(.int (2 : Int32)), (.int ct)])
            by_cases c65 : ct = (2 : Int32)
            · refine hs.go (fun _ kk_ => XS.icmpNo X0.here hx rfl (hb hby d2_65) rfl (teq c65).2 kk_) ?_
              show G s₁ (mkF m 68 #[.val (.int kk), .val (.int ct)] [])
              refine hs.go (fun _ kk_ => XS.iconst X0.here hx rfl (hb hby d2_68) kk_) ?_
              show G s₁ (mkF m 69 #[.val (.int kk), .val (.int ct)] [(.int (1 : Int32))])
              refine hs.go (fun _ kk_ => XS.goto X0.here hx rfl (pc0 := 69) (pc' := 73) rfl (hb hby d2_69) (by decide) (by decide) kk_) ?_
              show G s₁ (mkF m 73 #[.val (.int kk), .val (.int ct)] [(.int (1 : Int32))])
              exact rRetN fin X0 hx (by decide) (by decide) hret (by simp) (hb hby d2_73) (z' := (1 : Int32)) (by decide) ⟨by rw [f2, if_neg c2, if_neg c17, if_neg c33, if_neg c49, if_pos c54, if_pos c65], rfl⟩
            · refine hs.go (fun _ kk_ => XS.icmpYes X0.here hx rfl (pc0 := 65) (pc' := 72) rfl (hb hby d2_65) rfl (feq c65).2 (by decide) (by decide) kk_) ?_
              show G s₁ (mkF m 72 #[.val (.int kk), .val (.int ct)] [])
              refine hs.go (fun _ kk_ => XS.iconst X0.here hx rfl (hb hby d2_72) kk_) ?_
              show G s₁ (mkF m 73 #[.val (.int kk), .val (.int ct)] [(.int (0 : Int32))])
              exact rRetN fin X0 hx (by decide) (by decide) hret (by simp) (hb hby d2_73) (z' := (0 : Int32)) (by decide) ⟨by rw [f2, if_neg c2, if_neg c17, if_neg c33, if_neg c49, if_pos c54, if_neg c65], rfl⟩
          · refine hs.go (fun _ kk_ => XS.icmpNo X0.here hx rfl (hb hby d2_54) rfl (feq c54).1 kk_) ?_
            show G s₁ (mkF m 57 #[.val (.int kk), .val (.int ct)] [])
            refine hs.go (fun _ kk_ => XS.iloadN X0.here hx rfl (hb hby d2_57) rfl  kk_) ?_
            show G s₁ (mkF m 58 #[.val (.int kk), .val (.int ct)] [(.int kk)])
            refine hs.go (fun _ kk_ => XS.bipush X0.here hx rfl (hb hby d2_58) kk_) ?_
            show G s₁ (mkF m 60 #[.val (.int kk), .val (.int ct)] [(.int (6 : Int32)), (.int kk)])
            by_cases c60 : kk = (6 : Int32)
            · refine hs.go (fun _ kk_ => XS.icmpNo X0.here hx rfl (hb hby d2_60) rfl (teq c60).2 kk_) ?_
              show G s₁ (mkF m 63 #[.val (.int kk), .val (.int ct)] [])
              refine hs.go (fun _ kk_ => XS.iloadN X0.here hx rfl (hb hby d2_63) rfl  kk_) ?_
              show G s₁ (mkF m 64 #[.val (.int kk), .val (.int ct)] [(.int ct)])
              refine hs.go (fun _ kk_ => XS.iconst X0.here hx rfl (hb hby d2_64) kk_) ?_
              show G s₁ (mkF m 65 #[.val (.int kk), .val (.int ct)] [(.int (2 : Int32)), (.int ct)])
              by_cases c65 : ct = (2 : Int32)
              · refine hs.go (fun _ kk_ => XS.icmpNo X0.here hx rfl (hb hby d2_65) rfl (teq c65).2 kk_) ?_
                show G s₁ (mkF m 68 #[.val (.int kk), .val (.int ct)] [])
                refine hs.go (fun _ kk_ => XS.iconst X0.here hx rfl (hb hby d2_68) kk_) ?_
                show G s₁ (mkF m 69 #[.val (.int kk), .val (.int ct)] [(.int (1 : Int32))])
                refine hs.go (fun _ kk_ => XS.goto X0.here hx rfl (pc0 := 69) (pc' := 73) rfl (hb hby d2_69) (by decide) (by decide) kk_) ?_
                show G s₁ (mkF m 73 #[.val (.int kk), .val (.int ct)] [(.int (1 : Int32))])
                exact rRetN fin X0 hx (by decide) (by decide) hret (by simp) (hb hby d2_73) (z' := (1 : Int32)) (by decide) ⟨by rw [f2, if_neg c2, if_neg c17, if_neg c33, if_neg c49, if_neg c54, if_pos c60, if_pos c65], rfl⟩
              · refine hs.go (fun _ kk_ => XS.icmpYes X0.here hx rfl (pc0 := 65) (pc' := 72) rfl (hb hby d2_65) rfl (feq c65).2 (by decide) (by decide) kk_) ?_
                show G s₁ (mkF m 72 #[.val (.int kk), .val (.int ct)] [])
                refine hs.go (fun _ kk_ => XS.iconst X0.here hx rfl (hb hby d2_72) kk_) ?_
                show G s₁ (mkF m 73 #[.val (.int kk), .val (.int ct)] [(.int (0 : Int32))])
                exact rRetN fin X0 hx (by decide) (by decide) hret (by simp) (hb hby d2_73) (z' := (0 : Int32)) (by decide) ⟨by rw [f2, if_neg c2, if_neg c17, if_neg c33, if_neg c49, if_neg c54, if_pos c60, if_neg c65], rfl⟩
            · refine hs.go (fun _ kk_ => XS.icmpYes X0.here hx rfl (pc0 := 60) (pc' := 74) rfl (hb hby d2_60) rfl (feq c60).2 (by decide) (by decide) kk_) ?_
              show G s₁ (mkF m 74 #[.val (.int kk), .val (.int ct)] [])
              refine hs.go (fun _ kk_ => XS.iloadN X0.here hx rfl (hb hby d2_74) rfl  kk_) ?_
              show G s₁ (mkF m 75 #[.val (.int kk), .val (.int ct)] [(.int ct)])
              by_cases c75 : ct = (0 : Int32)
              · refine hs.go (fun _ kk_ => XS.ifNo X0.here hx rfl (hb hby d2_75) rfl ((if0 _ _).trans (teq c75).2) kk_) ?_
                show G s₁ (mkF m 78 #[.val (.int kk), .val (.int ct)] [])
                refine hs.go (fun _ kk_ => XS.iconst X0.here hx rfl (hb hby d2_78) kk_) ?_
                show G s₁ (mkF m 79 #[.val (.int kk), .val (.int ct)] [(.int (1 : Int32))])
                refine hs.go (fun _ kk_ => XS.goto X0.here hx rfl (pc0 := 79) (pc' := 83) rfl (hb hby d2_79) (by decide) (by decide) kk_) ?_
                show G s₁ (mkF m 83 #[.val (.int kk), .val (.int ct)] [(.int (1 : Int32))])
                exact rRetN fin X0 hx (by decide) (by decide) hret (by simp) (hb hby d2_83) (z' := (1 : Int32)) (by decide) ⟨by rw [f2, if_neg c2, if_neg c17, if_neg c33, if_neg c49, if_neg c54, if_neg c60, if_pos c75], rfl⟩
              · refine hs.go (fun _ kk_ => XS.ifYes X0.here hx rfl (pc0 := 75) (pc' := 82) rfl (hb hby d2_75) rfl ((if0 _ _).trans (feq c75).2) (by decide) (by decide) kk_) ?_
                show G s₁ (mkF m 82 #[.val (.int kk), .val (.int ct)] [])
                refine hs.go (fun _ kk_ => XS.iconst X0.here hx rfl (hb hby d2_82) kk_) ?_
                show G s₁ (mkF m 83 #[.val (.int kk), .val (.int ct)] [(.int (0 : Int32))])
                exact rRetN fin X0 hx (by decide) (by decide) hret (by simp) (hb hby d2_83) (z' := (0 : Int32)) (by decide) ⟨by rw [f2, if_neg c2, if_neg c17, if_neg c33, if_neg c49, if_neg c54, if_neg c60, if_neg c75], rfl⟩
theorem own_i0 (ct : Int32) : ftk ct (0 : Int32) (0 : Int32) = f2 (0 : Int32) ct := by
  have k0 : (0 : Int32).toInt = 0 := rfl
  have k1 : (1 : Int32).toInt = 1 := rfl
  have k2 : (2 : Int32).toInt = 2 := rfl
  have km : (2147483647 : Int32).toInt = 2147483647 := rfl
  have r := rng32 ct
  rw [f2, if_neg (show ¬ ((0 : Int32) = (1 : Int32)) by decide), if_neg (show ¬ ((0 : Int32) = (4 : Int32)) by decide), if_neg (show ¬ ((0 : Int32) = (2 : Int32)) by decide), if_neg (show ¬ ((0 : Int32) = (3 : Int32)) by decide), if_neg (show ¬ ((0 : Int32) = (5 : Int32)) by decide), if_neg (show ¬ ((0 : Int32) = (6 : Int32)) by decide), ftk]
  simp only [lt32, e32 (x := ct), k0, k1, k2, km]
  repeat' split
  all_goals first | rfl | (exfalso; omega)
theorem own_i1 (ct : Int32) : ftk ct (0 : Int32) (2147483647 : Int32) = f2 (1 : Int32) ct := by
  have k0 : (0 : Int32).toInt = 0 := rfl
  have k1 : (1 : Int32).toInt = 1 := rfl
  have k2 : (2 : Int32).toInt = 2 := rfl
  have km : (2147483647 : Int32).toInt = 2147483647 := rfl
  have r := rng32 ct
  rw [f2, if_pos rfl, ftk]
  simp only [lt32, e32 (x := ct), k0, k1, k2, km]
  repeat' split
  all_goals first | rfl | (exfalso; omega)
theorem own_i2 (ct : Int32) : ftk ct (1 : Int32) (1 : Int32) = f2 (2 : Int32) ct := by
  have k0 : (0 : Int32).toInt = 0 := rfl
  have k1 : (1 : Int32).toInt = 1 := rfl
  have k2 : (2 : Int32).toInt = 2 := rfl
  have km : (2147483647 : Int32).toInt = 2147483647 := rfl
  have r := rng32 ct
  rw [f2, if_neg (show ¬ ((2 : Int32) = (1 : Int32)) by decide), if_neg (show ¬ ((2 : Int32) = (4 : Int32)) by decide), if_pos rfl, ftk]
  simp only [lt32, e32 (x := ct), k0, k1, k2, km]
  repeat' split
  all_goals first | rfl | (exfalso; omega)
theorem own_i3 (ct : Int32) : ftk ct (2 : Int32) (2 : Int32) = f2 (3 : Int32) ct := by
  have k0 : (0 : Int32).toInt = 0 := rfl
  have k1 : (1 : Int32).toInt = 1 := rfl
  have k2 : (2 : Int32).toInt = 2 := rfl
  have km : (2147483647 : Int32).toInt = 2147483647 := rfl
  have r := rng32 ct
  rw [f2, if_neg (show ¬ ((3 : Int32) = (1 : Int32)) by decide), if_neg (show ¬ ((3 : Int32) = (4 : Int32)) by decide), if_neg (show ¬ ((3 : Int32) = (2 : Int32)) by decide), if_pos rfl, ftk]
  simp only [lt32, e32 (x := ct), k0, k1, k2, km]
  repeat' split
  all_goals first | rfl | (exfalso; omega)
theorem own_i4 (ct : Int32) : ftk ct (1 : Int32) (2147483647 : Int32) = f2 (4 : Int32) ct := by
  have k0 : (0 : Int32).toInt = 0 := rfl
  have k1 : (1 : Int32).toInt = 1 := rfl
  have k2 : (2 : Int32).toInt = 2 := rfl
  have km : (2147483647 : Int32).toInt = 2147483647 := rfl
  have r := rng32 ct
  rw [f2, if_neg (show ¬ ((4 : Int32) = (1 : Int32)) by decide), if_pos rfl, ftk]
  simp only [lt32, e32 (x := ct), k0, k1, k2, km]
  repeat' split
  all_goals first | rfl | (exfalso; omega)
theorem own_i5 (ct : Int32) : ftk ct (2 : Int32) (2 : Int32) = f2 (5 : Int32) ct := by
  have k0 : (0 : Int32).toInt = 0 := rfl
  have k1 : (1 : Int32).toInt = 1 := rfl
  have k2 : (2 : Int32).toInt = 2 := rfl
  have km : (2147483647 : Int32).toInt = 2147483647 := rfl
  have r := rng32 ct
  rw [f2, if_neg (show ¬ ((5 : Int32) = (1 : Int32)) by decide), if_neg (show ¬ ((5 : Int32) = (4 : Int32)) by decide), if_neg (show ¬ ((5 : Int32) = (2 : Int32)) by decide), if_neg (show ¬ ((5 : Int32) = (3 : Int32)) by decide), if_pos rfl, ftk]
  simp only [lt32, e32 (x := ct), k0, k1, k2, km]
  repeat' split
  all_goals first | rfl | (exfalso; omega)
theorem own_i6 (ct : Int32) : ftk ct (2 : Int32) (2 : Int32) = f2 (6 : Int32) ct := by
  have k0 : (0 : Int32).toInt = 0 := rfl
  have k1 : (1 : Int32).toInt = 1 := rfl
  have k2 : (2 : Int32).toInt = 2 := rfl
  have km : (2147483647 : Int32).toInt = 2147483647 := rfl
  have r := rng32 ct
  rw [f2, if_neg (show ¬ ((6 : Int32) = (1 : Int32)) by decide), if_neg (show ¬ ((6 : Int32) = (4 : Int32)) by decide), if_neg (show ¬ ((6 : Int32) = (2 : Int32)) by decide), if_neg (show ¬ ((6 : Int32) = (3 : Int32)) by decide), if_neg (show ¬ ((6 : Int32) = (5 : Int32)) by decide), if_pos rfl, ftk]
  simp only [lt32, e32 (x := ct), k0, k1, k2, km]
  repeat' split
  all_goals first | rfl | (exfalso; omega)
theorem own_i7 (ct : Int32) : ftk ct (0 : Int32) (0 : Int32) = f2 (7 : Int32) ct := by
  have k0 : (0 : Int32).toInt = 0 := rfl
  have k1 : (1 : Int32).toInt = 1 := rfl
  have k2 : (2 : Int32).toInt = 2 := rfl
  have km : (2147483647 : Int32).toInt = 2147483647 := rfl
  have r := rng32 ct
  rw [f2, if_neg (show ¬ ((7 : Int32) = (1 : Int32)) by decide), if_neg (show ¬ ((7 : Int32) = (4 : Int32)) by decide), if_neg (show ¬ ((7 : Int32) = (2 : Int32)) by decide), if_neg (show ¬ ((7 : Int32) = (3 : Int32)) by decide), if_neg (show ¬ ((7 : Int32) = (5 : Int32)) by decide), if_neg (show ¬ ((7 : Int32) = (6 : Int32)) by decide), ftk]
  simp only [lt32, e32 (x := ct), k0, k1, k2, km]
  repeat' split
  all_goals first | rfl | (exfalso; omega)
theorem own_i8 (ct : Int32) : ftk ct (0 : Int32) (0 : Int32) = f2 (8 : Int32) ct := by
  have k0 : (0 : Int32).toInt = 0 := rfl
  have k1 : (1 : Int32).toInt = 1 := rfl
  have k2 : (2 : Int32).toInt = 2 := rfl
  have km : (2147483647 : Int32).toInt = 2147483647 := rfl
  have r := rng32 ct
  rw [f2, if_neg (show ¬ ((8 : Int32) = (1 : Int32)) by decide), if_neg (show ¬ ((8 : Int32) = (4 : Int32)) by decide), if_neg (show ¬ ((8 : Int32) = (2 : Int32)) by decide), if_neg (show ¬ ((8 : Int32) = (3 : Int32)) by decide), if_neg (show ¬ ((8 : Int32) = (5 : Int32)) by decide), if_neg (show ¬ ((8 : Int32) = (6 : Int32)) by decide), ftk]
  simp only [lt32, e32 (x := ct), k0, k1, k2, km]
  repeat' split
  all_goals first | rfl | (exfalso; omega)
theorem own_i9 (ct : Int32) : ftk ct (0 : Int32) (0 : Int32) = f2 (9 : Int32) ct := by
  have k0 : (0 : Int32).toInt = 0 := rfl
  have k1 : (1 : Int32).toInt = 1 := rfl
  have k2 : (2 : Int32).toInt = 2 := rfl
  have km : (2147483647 : Int32).toInt = 2147483647 := rfl
  have r := rng32 ct
  rw [f2, if_neg (show ¬ ((9 : Int32) = (1 : Int32)) by decide), if_neg (show ¬ ((9 : Int32) = (4 : Int32)) by decide), if_neg (show ¬ ((9 : Int32) = (2 : Int32)) by decide), if_neg (show ¬ ((9 : Int32) = (3 : Int32)) by decide), if_neg (show ¬ ((9 : Int32) = (5 : Int32)) by decide), if_neg (show ¬ ((9 : Int32) = (6 : Int32)) by decide), ftk]
  simp only [lt32, e32 (x := ct), k0, k1, k2, km]
  repeat' split
  all_goals first | rfl | (exfalso; omega)
theorem own_i10 (ct : Int32) : ftk ct (0 : Int32) (0 : Int32) = f2 (10 : Int32) ct := by
  have k0 : (0 : Int32).toInt = 0 := rfl
  have k1 : (1 : Int32).toInt = 1 := rfl
  have k2 : (2 : Int32).toInt = 2 := rfl
  have km : (2147483647 : Int32).toInt = 2147483647 := rfl
  have r := rng32 ct
  rw [f2, if_neg (show ¬ ((10 : Int32) = (1 : Int32)) by decide), if_neg (show ¬ ((10 : Int32) = (4 : Int32)) by decide), if_neg (show ¬ ((10 : Int32) = (2 : Int32)) by decide), if_neg (show ¬ ((10 : Int32) = (3 : Int32)) by decide), if_neg (show ¬ ((10 : Int32) = (5 : Int32)) by decide), if_neg (show ¬ ((10 : Int32) = (6 : Int32)) by decide), ftk]
  simp only [lt32, e32 (x := ct), k0, k1, k2, km]
  repeat' split
  all_goals first | rfl | (exfalso; omega)
theorem own_i11 (ct : Int32) : ftk ct (0 : Int32) (0 : Int32) = f2 (11 : Int32) ct := by
  have k0 : (0 : Int32).toInt = 0 := rfl
  have k1 : (1 : Int32).toInt = 1 := rfl
  have k2 : (2 : Int32).toInt = 2 := rfl
  have km : (2147483647 : Int32).toInt = 2147483647 := rfl
  have r := rng32 ct
  rw [f2, if_neg (show ¬ ((11 : Int32) = (1 : Int32)) by decide), if_neg (show ¬ ((11 : Int32) = (4 : Int32)) by decide), if_neg (show ¬ ((11 : Int32) = (2 : Int32)) by decide), if_neg (show ¬ ((11 : Int32) = (3 : Int32)) by decide), if_neg (show ¬ ((11 : Int32) = (5 : Int32)) by decide), if_neg (show ¬ ((11 : Int32) = (6 : Int32)) by decide), ftk]
  simp only [lt32, e32 (x := ct), k0, k1, k2, km]
  repeat' split
  all_goals first | rfl | (exfalso; omega)
theorem own_i12 (ct : Int32) : ftk ct (0 : Int32) (0 : Int32) = f2 (12 : Int32) ct := by
  have k0 : (0 : Int32).toInt = 0 := rfl
  have k1 : (1 : Int32).toInt = 1 := rfl
  have k2 : (2 : Int32).toInt = 2 := rfl
  have km : (2147483647 : Int32).toInt = 2147483647 := rfl
  have r := rng32 ct
  rw [f2, if_neg (show ¬ ((12 : Int32) = (1 : Int32)) by decide), if_neg (show ¬ ((12 : Int32) = (4 : Int32)) by decide), if_neg (show ¬ ((12 : Int32) = (2 : Int32)) by decide), if_neg (show ¬ ((12 : Int32) = (3 : Int32)) by decide), if_neg (show ¬ ((12 : Int32) = (5 : Int32)) by decide), if_neg (show ¬ ((12 : Int32) = (6 : Int32)) by decide), ftk]
  simp only [lt32, e32 (x := ct), k0, k1, k2, km]
  repeat' split
  all_goals first | rfl | (exfalso; omega)
theorem own_k {x f : Int32} (h : f = ((x &&& (2147483647 : Int32)) % (13 : Int32))) : f = (0 : Int32) ∨ f = (1 : Int32) ∨ f = (2 : Int32) ∨ f = (3 : Int32) ∨ f = (4 : Int32) ∨ f = (5 : Int32) ∨ f = (6 : Int32) ∨ f = (7 : Int32) ∨ f = (8 : Int32) ∨ f = (9 : Int32) ∨ f = (10 : Int32) ∨ f = (11 : Int32) ∨ f = (12 : Int32) := by
  have a := (c_and x 2147483647 (by decide)).1
  have b := (c_irem (x &&& (2147483647 : Int32)) 13 13 rfl).1 a
  rw [← h] at b
  have k0 : (0 : Int32).toInt = 0 := rfl
  have k1 : (1 : Int32).toInt = 1 := rfl
  have k2 : (2 : Int32).toInt = 2 := rfl
  have k3 : (3 : Int32).toInt = 3 := rfl
  have k4 : (4 : Int32).toInt = 4 := rfl
  have k5 : (5 : Int32).toInt = 5 := rfl
  have k6 : (6 : Int32).toInt = 6 := rfl
  have k7 : (7 : Int32).toInt = 7 := rfl
  have k8 : (8 : Int32).toInt = 8 := rfl
  have k9 : (9 : Int32).toInt = 9 := rfl
  have k10 : (10 : Int32).toInt = 10 := rfl
  have k11 : (11 : Int32).toInt = 11 := rfl
  have k12 : (12 : Int32).toInt = 12 := rfl
  simp only [e32 (x := f), k0, k1, k2, k3, k4, k5, k6, k7, k8, k9, k10, k11, k12]
  omega
theorem pd_0 : parseMethodDescriptor "(I)Z" = some ⟨[.int], some .boolean⟩ := by decide +kernel
theorem pd_1 : parseMethodDescriptor "(II)Z" = some ⟨[.int, .int], some .boolean⟩ := by decide +kernel
theorem pn_0 : plainFor x = true := plainFor_of_name (show plainName "tabeliao/server/CommandTakesPinLaw" = true by first | (simp [plainName, overriddenIn]; done) | decide +kernel)
theorem ef_0 (m : MethodId) (x0 : Int32) (x1 : Int32) : entryFrame m #[(.int x0), (.int x1)] maxLocals = mkF m 0 #[.val (.int x0), .val (.int x1), .unset, .unset, .unset] [] := by first | (simp [entryFrame, mkF, argsToLocals, Value.category, maxLocals]; done) | rfl
set_option maxRecDepth 65536 in
set_option maxHeartbeats 40000000 in
theorem rm0 (l : Launch) (Z : State) (a0 : Array Value) (hw : ∀ d ∈ tables_1, d.before a0 Z = true) (ws : List Jvm.Cond) (p0 p1 : Int32) (cm0 cm1 cm2 cm3 cm4 cm5 cm6 cm7 cm8 cm9 cm10 cm11 cm12 : Addr) (h0 : Heap) (n0 : Nat) (Z0 : n0 ≤ h0.size) (O : Old Z n0 h0) (S0 : Sta Z Z.heap "tabeliao/server/Command" "PING" "Ltabeliao/server/Command;" (.ref cm0)) (Ex0 : Exa Z Z.heap cm0 "tabeliao/server/Command") (Ff0 : Fld Z Z.heap cm0 "tabeliao/server/Command" "fewest" "I" (.int (0 : Int32))) (Fm0 : Fld Z Z.heap cm0 "tabeliao/server/Command" "most" "I" (.int (0 : Int32))) (S1 : Sta Z Z.heap "tabeliao/server/Command" "COMMAND" "Ltabeliao/server/Command;" (.ref cm1)) (Ex1 : Exa Z Z.heap cm1 "tabeliao/server/Command") (Ff1 : Fld Z Z.heap cm1 "tabeliao/server/Command" "fewest" "I" (.int (0 : Int32))) (Fm1 : Fld Z Z.heap cm1 "tabeliao/server/Command" "most" "I" (.int (2147483647 : Int32))) (S2 : Sta Z Z.heap "tabeliao/server/Command" "GET" "Ltabeliao/server/Command;" (.ref cm2)) (Ex2 : Exa Z Z.heap cm2 "tabeliao/server/Command") (Ff2 : Fld Z Z.heap cm2 "tabeliao/server/Command" "fewest" "I" (.int (1 : Int32))) (Fm2 : Fld Z Z.heap cm2 "tabeliao/server/Command" "most" "I" (.int (1 : Int32))) (S3 : Sta Z Z.heap "tabeliao/server/Command" "SET" "Ltabeliao/server/Command;" (.ref cm3)) (Ex3 : Exa Z Z.heap cm3 "tabeliao/server/Command") (Ff3 : Fld Z Z.heap cm3 "tabeliao/server/Command" "fewest" "I" (.int (2 : Int32))) (Fm3 : Fld Z Z.heap cm3 "tabeliao/server/Command" "most" "I" (.int (2 : Int32))) (S4 : Sta Z Z.heap "tabeliao/server/Command" "DEL" "Ltabeliao/server/Command;" (.ref cm4)) (Ex4 : Exa Z Z.heap cm4 "tabeliao/server/Command") (Ff4 : Fld Z Z.heap cm4 "tabeliao/server/Command" "fewest" "I" (.int (1 : Int32))) (Fm4 : Fld Z Z.heap cm4 "tabeliao/server/Command" "most" "I" (.int (2147483647 : Int32))) (S5 : Sta Z Z.heap "tabeliao/server/Command" "INCRBY" "Ltabeliao/server/Command;" (.ref cm5)) (Ex5 : Exa Z Z.heap cm5 "tabeliao/server/Command") (Ff5 : Fld Z Z.heap cm5 "tabeliao/server/Command" "fewest" "I" (.int (2 : Int32))) (Fm5 : Fld Z Z.heap cm5 "tabeliao/server/Command" "most" "I" (.int (2 : Int32))) (S6 : Sta Z Z.heap "tabeliao/server/Command" "RANGE" "Ltabeliao/server/Command;" (.ref cm6)) (Ex6 : Exa Z Z.heap cm6 "tabeliao/server/Command") (Ff6 : Fld Z Z.heap cm6 "tabeliao/server/Command" "fewest" "I" (.int (2 : Int32))) (Fm6 : Fld Z Z.heap cm6 "tabeliao/server/Command" "most" "I" (.int (2 : Int32))) (S7 : Sta Z Z.heap "tabeliao/server/Command" "BEGIN" "Ltabeliao/server/Command;" (.ref cm7)) (Ex7 : Exa Z Z.heap cm7 "tabeliao/server/Command") (Ff7 : Fld Z Z.heap cm7 "tabeliao/server/Command" "fewest" "I" (.int (0 : Int32))) (Fm7 : Fld Z Z.heap cm7 "tabeliao/server/Command" "most" "I" (.int (0 : Int32))) (S8 : Sta Z Z.heap "tabeliao/server/Command" "COMMIT" "Ltabeliao/server/Command;" (.ref cm8)) (Ex8 : Exa Z Z.heap cm8 "tabeliao/server/Command") (Ff8 : Fld Z Z.heap cm8 "tabeliao/server/Command" "fewest" "I" (.int (0 : Int32))) (Fm8 : Fld Z Z.heap cm8 "tabeliao/server/Command" "most" "I" (.int (0 : Int32))) (S9 : Sta Z Z.heap "tabeliao/server/Command" "ROLLBACK" "Ltabeliao/server/Command;" (.ref cm9)) (Ex9 : Exa Z Z.heap cm9 "tabeliao/server/Command") (Ff9 : Fld Z Z.heap cm9 "tabeliao/server/Command" "fewest" "I" (.int (0 : Int32))) (Fm9 : Fld Z Z.heap cm9 "tabeliao/server/Command" "most" "I" (.int (0 : Int32))) (S10 : Sta Z Z.heap "tabeliao/server/Command" "MULTI" "Ltabeliao/server/Command;" (.ref cm10)) (Ex10 : Exa Z Z.heap cm10 "tabeliao/server/Command") (Ff10 : Fld Z Z.heap cm10 "tabeliao/server/Command" "fewest" "I" (.int (0 : Int32))) (Fm10 : Fld Z Z.heap cm10 "tabeliao/server/Command" "most" "I" (.int (0 : Int32))) (S11 : Sta Z Z.heap "tabeliao/server/Command" "EXEC" "Ltabeliao/server/Command;" (.ref cm11)) (Ex11 : Exa Z Z.heap cm11 "tabeliao/server/Command") (Ff11 : Fld Z Z.heap cm11 "tabeliao/server/Command" "fewest" "I" (.int (0 : Int32))) (Fm11 : Fld Z Z.heap cm11 "tabeliao/server/Command" "most" "I" (.int (0 : Int32))) (S12 : Sta Z Z.heap "tabeliao/server/Command" "DISCARD" "Ltabeliao/server/Command;" (.ref cm12)) (Ex12 : Exa Z Z.heap cm12 "tabeliao/server/Command") (Ff12 : Fld Z Z.heap cm12 "tabeliao/server/Command" "fewest" "I" (.int (0 : Int32))) (Fm12 : Fld Z Z.heap cm12 "tabeliao/server/Command" "most" "I" (.int (0 : Int32))) :
    Con l Z x code maxLocals ret ws room_1 #[(.int p0), (.int p1)] h0 n0 (fun v h => v = some (.int 1)) := by
  refine Con.of pn_0 ?_
  intro G p e s m below meth c s₁ hs hx hby hml hown hnm hret hZ X0 fin
  have hml : c.maxLocals = 5 := hml
  have hown : s.vm.findClass "tabeliao/server/CommandTakesPinLaw" = some m.cls := hown
  rw [ef_0]
  show G s₁ (mkF m 0 #[.val (.int p0), .val (.int p1), .unset, .unset, .unset] [])
  refine hs.go (fun _ kk_ => XS.iloadN X0.here hx rfl (hb hby at_0) rfl  kk_) ?_
  show G s₁ (mkF m 1 #[.val (.int p0), .val (.int p1), .unset, .unset, .unset] [(.int p0)])
  refine rLdcI hs X0 hx hZ hown (hw _ (List.mem_of_getElem? (i := 0) rfl)) rfl (hb hby at_1) ?_
  show G s₁ (mkF m 3 #[.val (.int p0), .val (.int p1), .unset, .unset, .unset] [(.int (2147483647 : Int32)), (.int p0)])
  refine hs.go (fun _ kk_ => XS.iand X0.here hx rfl (hb hby at_3) rfl kk_) ?_
  show G s₁ (mkF m 4 #[.val (.int p0), .val (.int p1), .unset, .unset, .unset] [(.int (p0 &&& (2147483647 : Int32)))])
  refine hs.go (fun _ kk_ => XS.bipush X0.here hx rfl (hb hby at_4) kk_) ?_
  show G s₁ (mkF m 6 #[.val (.int p0), .val (.int p1), .unset, .unset, .unset] [(.int (13 : Int32)), (.int (p0 &&& (2147483647 : Int32)))])
  refine rIrem hs X0 hx rfl (hb hby at_6) rfl (by decide) ?_
  show G s₁ (mkF m 7 #[.val (.int p0), .val (.int p1), .unset, .unset, .unset] [(.int ((p0 &&& (2147483647 : Int32)) % (13 : Int32)))])
  refine nameIt (P := fun zz_ : Int32 => G s₁ (mkF m 7 #[.val (.int p0), .val (.int p1), .unset, .unset, .unset] [(.int zz_)])) ((p0 &&& (2147483647 : Int32)) % (13 : Int32)) (fun kx hkx => ?_)
  show G s₁ (mkF m 7 #[.val (.int p0), .val (.int p1), .unset, .unset, .unset] [(.int kx)])
  refine hs.go (fun _ kk_ => XS.istoreN X0.here hx rfl (hb hby at_7) rfl (l' := #[.val (.int p0), .val (.int p1), .val (.int kx), .unset, .unset]) rfl kk_) ?_
  show G s₁ (mkF m 8 #[.val (.int p0), .val (.int p1), .val (.int kx), .unset, .unset] [])
  refine hs.go (fun _ kk_ => XS.bipush X0.here hx rfl (hb hby at_8) kk_) ?_
  show G s₁ (mkF m 10 #[.val (.int p0), .val (.int p1), .val (.int kx), .unset, .unset] [(.int (13 : Int32))])
  refine rNewR hs X0 hx hZ hown (hw _ (List.mem_of_getElem? (i := 1) rfl)) (hw _ (List.mem_of_getElem? (i := 2) rfl)) rfl (hb hby at_10) rfl (by decide) 13 13 (by decide) (by decide) (by decide) (by decide) (fun T1 h1 k1 al g1 X1 E1 V_al O_al => ?_)
  have V_al : Arv Z h1 al k1 (.object "tabeliao/server/Command") (13 : Int32) [.null, .null, .null, .null, .null, .null, .null, .null, .null, .null, .null, .null, .null] .null := V_al
  have g_al : n0 ≤ al := by rw [g1]; exact Z0
  have Z0 := Nat.le_trans Z0 E1.1
  have O := O.ext E1
  show G T1 (mkF m 13 #[.val (.int p0), .val (.int p1), .val (.int kx), .unset, .unset] [(.ref al)])
  refine hs.go (fun _ kk_ => XS.dup X1.here hx rfl (hb hby at_13) rfl rfl kk_) ?_
  show G T1 (mkF m 14 #[.val (.int p0), .val (.int p1), .val (.int kx), .unset, .unset] [(.ref al), (.ref al)])
  refine hs.go (fun _ kk_ => XS.iconst X1.here hx rfl (hb hby at_14) kk_) ?_
  show G T1 (mkF m 15 #[.val (.int p0), .val (.int p1), .val (.int kx), .unset, .unset] [(.int (0 : Int32)), (.ref al), (.ref al)])
  refine rGetS hs X1 hx hZ hown (host := "") (Or.inl (hw _ (List.mem_of_getElem? (i := 3) rfl))) Via.refl (S0.ext O.2) rfl (hb hby at_15) (fun T2 X2 => ?_)
  show G T2 (mkF m 18 #[.val (.int p0), .val (.int p1), .val (.int kx), .unset, .unset] [(.ref cm0), (.int (0 : Int32)), (.ref al), (.ref al)])
  refine rStR hs X2 hx hZ V_al O_al g_al (Ins.self (Ex0.ext O.2)) ⟨by decide, by decide⟩ 0 (by decide) (by simp) rfl rfl (hb hby at_18) (fun T3 h3 X3 W3 V_al => ?_)
  have V_al : Arv Z h3 al k1 (.object "tabeliao/server/Command") (13 : Int32) [(.ref cm0), .null, .null, .null, .null, .null, .null, .null, .null, .null, .null, .null, .null] .null := V_al
  have O := O.wr W3 g_al
  have Z0 := Nat.le_trans Z0 (Keep.of_wr W3).1
  show G T3 (mkF m 19 #[.val (.int p0), .val (.int p1), .val (.int kx), .unset, .unset] [(.ref al)])
  refine hs.go (fun _ kk_ => XS.dup X3.here hx rfl (hb hby at_19) rfl rfl kk_) ?_
  show G T3 (mkF m 20 #[.val (.int p0), .val (.int p1), .val (.int kx), .unset, .unset] [(.ref al), (.ref al)])
  refine hs.go (fun _ kk_ => XS.iconst X3.here hx rfl (hb hby at_20) kk_) ?_
  show G T3 (mkF m 21 #[.val (.int p0), .val (.int p1), .val (.int kx), .unset, .unset] [(.int (1 : Int32)), (.ref al), (.ref al)])
  refine rGetS hs X3 hx hZ hown (host := "") (Or.inl (hw _ (List.mem_of_getElem? (i := 7) rfl))) Via.refl (S1.ext O.2) rfl (hb hby at_21) (fun T4 X4 => ?_)
  show G T4 (mkF m 24 #[.val (.int p0), .val (.int p1), .val (.int kx), .unset, .unset] [(.ref cm1), (.int (1 : Int32)), (.ref al), (.ref al)])
  refine rStR hs X4 hx hZ V_al O_al g_al (Ins.self (Ex1.ext O.2)) ⟨by decide, by decide⟩ 1 (by decide) (by simp) rfl rfl (hb hby at_24) (fun T5 h5 X5 W5 V_al => ?_)
  have V_al : Arv Z h5 al k1 (.object "tabeliao/server/Command") (13 : Int32) [(.ref cm0), (.ref cm1), .null, .null, .null, .null, .null, .null, .null, .null, .null, .null, .null] .null := V_al
  have O := O.wr W5 g_al
  have Z0 := Nat.le_trans Z0 (Keep.of_wr W5).1
  show G T5 (mkF m 25 #[.val (.int p0), .val (.int p1), .val (.int kx), .unset, .unset] [(.ref al)])
  refine hs.go (fun _ kk_ => XS.dup X5.here hx rfl (hb hby at_25) rfl rfl kk_) ?_
  show G T5 (mkF m 26 #[.val (.int p0), .val (.int p1), .val (.int kx), .unset, .unset] [(.ref al), (.ref al)])
  refine hs.go (fun _ kk_ => XS.iconst X5.here hx rfl (hb hby at_26) kk_) ?_
  show G T5 (mkF m 27 #[.val (.int p0), .val (.int p1), .val (.int kx), .unset, .unset] [(.int (2 : Int32)), (.ref al), (.ref al)])
  refine rGetS hs X5 hx hZ hown (host := "") (Or.inl (hw _ (List.mem_of_getElem? (i := 9) rfl))) Via.refl (S2.ext O.2) rfl (hb hby at_27) (fun T6 X6 => ?_)
  show G T6 (mkF m 30 #[.val (.int p0), .val (.int p1), .val (.int kx), .unset, .unset] [(.ref cm2), (.int (2 : Int32)), (.ref al), (.ref al)])
  refine rStR hs X6 hx hZ V_al O_al g_al (Ins.self (Ex2.ext O.2)) ⟨by decide, by decide⟩ 2 (by decide) (by simp) rfl rfl (hb hby at_30) (fun T7 h7 X7 W7 V_al => ?_)
  have V_al : Arv Z h7 al k1 (.object "tabeliao/server/Command") (13 : Int32) [(.ref cm0), (.ref cm1), (.ref cm2), .null, .null, .null, .null, .null, .null, .null, .null, .null, .null] .null := V_al
  have O := O.wr W7 g_al
  have Z0 := Nat.le_trans Z0 (Keep.of_wr W7).1
  show G T7 (mkF m 31 #[.val (.int p0), .val (.int p1), .val (.int kx), .unset, .unset] [(.ref al)])
  refine hs.go (fun _ kk_ => XS.dup X7.here hx rfl (hb hby at_31) rfl rfl kk_) ?_
  show G T7 (mkF m 32 #[.val (.int p0), .val (.int p1), .val (.int kx), .unset, .unset] [(.ref al), (.ref al)])
  refine hs.go (fun _ kk_ => XS.iconst X7.here hx rfl (hb hby at_32) kk_) ?_
  show G T7 (mkF m 33 #[.val (.int p0), .val (.int p1), .val (.int kx), .unset, .unset] [(.int (3 : Int32)), (.ref al), (.ref al)])
  refine rGetS hs X7 hx hZ hown (host := "") (Or.inl (hw _ (List.mem_of_getElem? (i := 11) rfl))) Via.refl (S3.ext O.2) rfl (hb hby at_33) (fun T8 X8 => ?_)
  show G T8 (mkF m 36 #[.val (.int p0), .val (.int p1), .val (.int kx), .unset, .unset] [(.ref cm3), (.int (3 : Int32)), (.ref al), (.ref al)])
  refine rStR hs X8 hx hZ V_al O_al g_al (Ins.self (Ex3.ext O.2)) ⟨by decide, by decide⟩ 3 (by decide) (by simp) rfl rfl (hb hby at_36) (fun T9 h9 X9 W9 V_al => ?_)
  have V_al : Arv Z h9 al k1 (.object "tabeliao/server/Command") (13 : Int32) [(.ref cm0), (.ref cm1), (.ref cm2), (.ref cm3), .null, .null, .null, .null, .null, .null, .null, .null, .null] .null := V_al
  have O := O.wr W9 g_al
  have Z0 := Nat.le_trans Z0 (Keep.of_wr W9).1
  show G T9 (mkF m 37 #[.val (.int p0), .val (.int p1), .val (.int kx), .unset, .unset] [(.ref al)])
  refine hs.go (fun _ kk_ => XS.dup X9.here hx rfl (hb hby at_37) rfl rfl kk_) ?_
  show G T9 (mkF m 38 #[.val (.int p0), .val (.int p1), .val (.int kx), .unset, .unset] [(.ref al), (.ref al)])
  refine hs.go (fun _ kk_ => XS.iconst X9.here hx rfl (hb hby at_38) kk_) ?_
  show G T9 (mkF m 39 #[.val (.int p0), .val (.int p1), .val (.int kx), .unset, .unset] [(.int (4 : Int32)), (.ref al), (.ref al)])
  refine rGetS hs X9 hx hZ hown (host := "") (Or.inl (hw _ (List.mem_of_getElem? (i := 13) rfl))) Via.refl (S4.ext O.2) rfl (hb hby at_39) (fun T10 X10 => ?_)
  show G T10 (mkF m 42 #[.val (.int p0), .val (.int p1), .val (.int kx), .unset, .unset] [(.ref cm4), (.int (4 : Int32)), (.ref al), (.ref al)])
  refine rStR hs X10 hx hZ V_al O_al g_al (Ins.self (Ex4.ext O.2)) ⟨by decide, by decide⟩ 4 (by decide) (by simp) rfl rfl (hb hby at_42) (fun T11 h11 X11 W11 V_al => ?_)
  have V_al : Arv Z h11 al k1 (.object "tabeliao/server/Command") (13 : Int32) [(.ref cm0), (.ref cm1), (.ref cm2), (.ref cm3), (.ref cm4), .null, .null, .null, .null, .null, .null, .null, .null] .null := V_al
  have O := O.wr W11 g_al
  have Z0 := Nat.le_trans Z0 (Keep.of_wr W11).1
  show G T11 (mkF m 43 #[.val (.int p0), .val (.int p1), .val (.int kx), .unset, .unset] [(.ref al)])
  refine hs.go (fun _ kk_ => XS.dup X11.here hx rfl (hb hby at_43) rfl rfl kk_) ?_
  show G T11 (mkF m 44 #[.val (.int p0), .val (.int p1), .val (.int kx), .unset, .unset] [(.ref al), (.ref al)])
  refine hs.go (fun _ kk_ => XS.iconst X11.here hx rfl (hb hby at_44) kk_) ?_
  show G T11 (mkF m 45 #[.val (.int p0), .val (.int p1), .val (.int kx), .unset, .unset] [(.int (5 : Int32)), (.ref al), (.ref al)])
  refine rGetS hs X11 hx hZ hown (host := "") (Or.inl (hw _ (List.mem_of_getElem? (i := 15) rfl))) Via.refl (S5.ext O.2) rfl (hb hby at_45) (fun T12 X12 => ?_)
  show G T12 (mkF m 48 #[.val (.int p0), .val (.int p1), .val (.int kx), .unset, .unset] [(.ref cm5), (.int (5 : Int32)), (.ref al), (.ref al)])
  refine rStR hs X12 hx hZ V_al O_al g_al (Ins.self (Ex5.ext O.2)) ⟨by decide, by decide⟩ 5 (by decide) (by simp) rfl rfl (hb hby at_48) (fun T13 h13 X13 W13 V_al => ?_)
  have V_al : Arv Z h13 al k1 (.object "tabeliao/server/Command") (13 : Int32) [(.ref cm0), (.ref cm1), (.ref cm2), (.ref cm3), (.ref cm4), (.ref cm5), .null, .null, .null, .null, .null, .null, .null] .null := V_al
  have O := O.wr W13 g_al
  have Z0 := Nat.le_trans Z0 (Keep.of_wr W13).1
  show G T13 (mkF m 49 #[.val (.int p0), .val (.int p1), .val (.int kx), .unset, .unset] [(.ref al)])
  refine hs.go (fun _ kk_ => XS.dup X13.here hx rfl (hb hby at_49) rfl rfl kk_) ?_
  show G T13 (mkF m 50 #[.val (.int p0), .val (.int p1), .val (.int kx), .unset, .unset] [(.ref al), (.ref al)])
  refine hs.go (fun _ kk_ => XS.bipush X13.here hx rfl (hb hby at_50) kk_) ?_
  show G T13 (mkF m 52 #[.val (.int p0), .val (.int p1), .val (.int kx), .unset, .unset] [(.int (6 : Int32)), (.ref al), (.ref al)])
  refine rGetS hs X13 hx hZ hown (host := "") (Or.inl (hw _ (List.mem_of_getElem? (i := 17) rfl))) Via.refl (S6.ext O.2) rfl (hb hby at_52) (fun T14 X14 => ?_)
  show G T14 (mkF m 55 #[.val (.int p0), .val (.int p1), .val (.int kx), .unset, .unset] [(.ref cm6), (.int (6 : Int32)), (.ref al), (.ref al)])
  refine rStR hs X14 hx hZ V_al O_al g_al (Ins.self (Ex6.ext O.2)) ⟨by decide, by decide⟩ 6 (by decide) (by simp) rfl rfl (hb hby at_55) (fun T15 h15 X15 W15 V_al => ?_)
  have V_al : Arv Z h15 al k1 (.object "tabeliao/server/Command") (13 : Int32) [(.ref cm0), (.ref cm1), (.ref cm2), (.ref cm3), (.ref cm4), (.ref cm5), (.ref cm6), .null, .null, .null, .null, .null, .null] .null := V_al
  have O := O.wr W15 g_al
  have Z0 := Nat.le_trans Z0 (Keep.of_wr W15).1
  show G T15 (mkF m 56 #[.val (.int p0), .val (.int p1), .val (.int kx), .unset, .unset] [(.ref al)])
  refine hs.go (fun _ kk_ => XS.dup X15.here hx rfl (hb hby at_56) rfl rfl kk_) ?_
  show G T15 (mkF m 57 #[.val (.int p0), .val (.int p1), .val (.int kx), .unset, .unset] [(.ref al), (.ref al)])
  refine hs.go (fun _ kk_ => XS.bipush X15.here hx rfl (hb hby at_57) kk_) ?_
  show G T15 (mkF m 59 #[.val (.int p0), .val (.int p1), .val (.int kx), .unset, .unset] [(.int (7 : Int32)), (.ref al), (.ref al)])
  refine rGetS hs X15 hx hZ hown (host := "") (Or.inl (hw _ (List.mem_of_getElem? (i := 19) rfl))) Via.refl (S7.ext O.2) rfl (hb hby at_59) (fun T16 X16 => ?_)
  show G T16 (mkF m 62 #[.val (.int p0), .val (.int p1), .val (.int kx), .unset, .unset] [(.ref cm7), (.int (7 : Int32)), (.ref al), (.ref al)])
  refine rStR hs X16 hx hZ V_al O_al g_al (Ins.self (Ex7.ext O.2)) ⟨by decide, by decide⟩ 7 (by decide) (by simp) rfl rfl (hb hby at_62) (fun T17 h17 X17 W17 V_al => ?_)
  have V_al : Arv Z h17 al k1 (.object "tabeliao/server/Command") (13 : Int32) [(.ref cm0), (.ref cm1), (.ref cm2), (.ref cm3), (.ref cm4), (.ref cm5), (.ref cm6), (.ref cm7), .null, .null, .null, .null, .null] .null := V_al
  have O := O.wr W17 g_al
  have Z0 := Nat.le_trans Z0 (Keep.of_wr W17).1
  show G T17 (mkF m 63 #[.val (.int p0), .val (.int p1), .val (.int kx), .unset, .unset] [(.ref al)])
  refine hs.go (fun _ kk_ => XS.dup X17.here hx rfl (hb hby at_63) rfl rfl kk_) ?_
  show G T17 (mkF m 64 #[.val (.int p0), .val (.int p1), .val (.int kx), .unset, .unset] [(.ref al), (.ref al)])
  refine hs.go (fun _ kk_ => XS.bipush X17.here hx rfl (hb hby at_64) kk_) ?_
  show G T17 (mkF m 66 #[.val (.int p0), .val (.int p1), .val (.int kx), .unset, .unset] [(.int (8 : Int32)), (.ref al), (.ref al)])
  refine rGetS hs X17 hx hZ hown (host := "") (Or.inl (hw _ (List.mem_of_getElem? (i := 21) rfl))) Via.refl (S8.ext O.2) rfl (hb hby at_66) (fun T18 X18 => ?_)
  show G T18 (mkF m 69 #[.val (.int p0), .val (.int p1), .val (.int kx), .unset, .unset] [(.ref cm8), (.int (8 : Int32)), (.ref al), (.ref al)])
  refine rStR hs X18 hx hZ V_al O_al g_al (Ins.self (Ex8.ext O.2)) ⟨by decide, by decide⟩ 8 (by decide) (by simp) rfl rfl (hb hby at_69) (fun T19 h19 X19 W19 V_al => ?_)
  have V_al : Arv Z h19 al k1 (.object "tabeliao/server/Command") (13 : Int32) [(.ref cm0), (.ref cm1), (.ref cm2), (.ref cm3), (.ref cm4), (.ref cm5), (.ref cm6), (.ref cm7), (.ref cm8), .null, .null, .null, .null] .null := V_al
  have O := O.wr W19 g_al
  have Z0 := Nat.le_trans Z0 (Keep.of_wr W19).1
  show G T19 (mkF m 70 #[.val (.int p0), .val (.int p1), .val (.int kx), .unset, .unset] [(.ref al)])
  refine hs.go (fun _ kk_ => XS.dup X19.here hx rfl (hb hby at_70) rfl rfl kk_) ?_
  show G T19 (mkF m 71 #[.val (.int p0), .val (.int p1), .val (.int kx), .unset, .unset] [(.ref al), (.ref al)])
  refine hs.go (fun _ kk_ => XS.bipush X19.here hx rfl (hb hby at_71) kk_) ?_
  show G T19 (mkF m 73 #[.val (.int p0), .val (.int p1), .val (.int kx), .unset, .unset] [(.int (9 : Int32)), (.ref al), (.ref al)])
  refine rGetS hs X19 hx hZ hown (host := "") (Or.inl (hw _ (List.mem_of_getElem? (i := 23) rfl))) Via.refl (S9.ext O.2) rfl (hb hby at_73) (fun T20 X20 => ?_)
  show G T20 (mkF m 76 #[.val (.int p0), .val (.int p1), .val (.int kx), .unset, .unset] [(.ref cm9), (.int (9 : Int32)), (.ref al), (.ref al)])
  refine rStR hs X20 hx hZ V_al O_al g_al (Ins.self (Ex9.ext O.2)) ⟨by decide, by decide⟩ 9 (by decide) (by simp) rfl rfl (hb hby at_76) (fun T21 h21 X21 W21 V_al => ?_)
  have V_al : Arv Z h21 al k1 (.object "tabeliao/server/Command") (13 : Int32) [(.ref cm0), (.ref cm1), (.ref cm2), (.ref cm3), (.ref cm4), (.ref cm5), (.ref cm6), (.ref cm7), (.ref cm8), (.ref cm9), .null, .null, .null] .null := V_al
  have O := O.wr W21 g_al
  have Z0 := Nat.le_trans Z0 (Keep.of_wr W21).1
  show G T21 (mkF m 77 #[.val (.int p0), .val (.int p1), .val (.int kx), .unset, .unset] [(.ref al)])
  refine hs.go (fun _ kk_ => XS.dup X21.here hx rfl (hb hby at_77) rfl rfl kk_) ?_
  show G T21 (mkF m 78 #[.val (.int p0), .val (.int p1), .val (.int kx), .unset, .unset] [(.ref al), (.ref al)])
  refine hs.go (fun _ kk_ => XS.bipush X21.here hx rfl (hb hby at_78) kk_) ?_
  show G T21 (mkF m 80 #[.val (.int p0), .val (.int p1), .val (.int kx), .unset, .unset] [(.int (10 : Int32)), (.ref al), (.ref al)])
  refine rGetS hs X21 hx hZ hown (host := "") (Or.inl (hw _ (List.mem_of_getElem? (i := 25) rfl))) Via.refl (S10.ext O.2) rfl (hb hby at_80) (fun T22 X22 => ?_)
  show G T22 (mkF m 83 #[.val (.int p0), .val (.int p1), .val (.int kx), .unset, .unset] [(.ref cm10), (.int (10 : Int32)), (.ref al), (.ref al)])
  refine rStR hs X22 hx hZ V_al O_al g_al (Ins.self (Ex10.ext O.2)) ⟨by decide, by decide⟩ 10 (by decide) (by simp) rfl rfl (hb hby at_83) (fun T23 h23 X23 W23 V_al => ?_)
  have V_al : Arv Z h23 al k1 (.object "tabeliao/server/Command") (13 : Int32) [(.ref cm0), (.ref cm1), (.ref cm2), (.ref cm3), (.ref cm4), (.ref cm5), (.ref cm6), (.ref cm7), (.ref cm8), (.ref cm9), (.ref cm10), .null, .null] .null := V_al
  have O := O.wr W23 g_al
  have Z0 := Nat.le_trans Z0 (Keep.of_wr W23).1
  show G T23 (mkF m 84 #[.val (.int p0), .val (.int p1), .val (.int kx), .unset, .unset] [(.ref al)])
  refine hs.go (fun _ kk_ => XS.dup X23.here hx rfl (hb hby at_84) rfl rfl kk_) ?_
  show G T23 (mkF m 85 #[.val (.int p0), .val (.int p1), .val (.int kx), .unset, .unset] [(.ref al), (.ref al)])
  refine hs.go (fun _ kk_ => XS.bipush X23.here hx rfl (hb hby at_85) kk_) ?_
  show G T23 (mkF m 87 #[.val (.int p0), .val (.int p1), .val (.int kx), .unset, .unset] [(.int (11 : Int32)), (.ref al), (.ref al)])
  refine rGetS hs X23 hx hZ hown (host := "") (Or.inl (hw _ (List.mem_of_getElem? (i := 27) rfl))) Via.refl (S11.ext O.2) rfl (hb hby at_87) (fun T24 X24 => ?_)
  show G T24 (mkF m 90 #[.val (.int p0), .val (.int p1), .val (.int kx), .unset, .unset] [(.ref cm11), (.int (11 : Int32)), (.ref al), (.ref al)])
  refine rStR hs X24 hx hZ V_al O_al g_al (Ins.self (Ex11.ext O.2)) ⟨by decide, by decide⟩ 11 (by decide) (by simp) rfl rfl (hb hby at_90) (fun T25 h25 X25 W25 V_al => ?_)
  have V_al : Arv Z h25 al k1 (.object "tabeliao/server/Command") (13 : Int32) [(.ref cm0), (.ref cm1), (.ref cm2), (.ref cm3), (.ref cm4), (.ref cm5), (.ref cm6), (.ref cm7), (.ref cm8), (.ref cm9), (.ref cm10), (.ref cm11), .null] .null := V_al
  have O := O.wr W25 g_al
  have Z0 := Nat.le_trans Z0 (Keep.of_wr W25).1
  show G T25 (mkF m 91 #[.val (.int p0), .val (.int p1), .val (.int kx), .unset, .unset] [(.ref al)])
  refine hs.go (fun _ kk_ => XS.dup X25.here hx rfl (hb hby at_91) rfl rfl kk_) ?_
  show G T25 (mkF m 92 #[.val (.int p0), .val (.int p1), .val (.int kx), .unset, .unset] [(.ref al), (.ref al)])
  refine hs.go (fun _ kk_ => XS.bipush X25.here hx rfl (hb hby at_92) kk_) ?_
  show G T25 (mkF m 94 #[.val (.int p0), .val (.int p1), .val (.int kx), .unset, .unset] [(.int (12 : Int32)), (.ref al), (.ref al)])
  refine rGetS hs X25 hx hZ hown (host := "") (Or.inl (hw _ (List.mem_of_getElem? (i := 29) rfl))) Via.refl (S12.ext O.2) rfl (hb hby at_94) (fun T26 X26 => ?_)
  show G T26 (mkF m 97 #[.val (.int p0), .val (.int p1), .val (.int kx), .unset, .unset] [(.ref cm12), (.int (12 : Int32)), (.ref al), (.ref al)])
  refine rStR hs X26 hx hZ V_al O_al g_al (Ins.self (Ex12.ext O.2)) ⟨by decide, by decide⟩ 12 (by decide) (by simp) rfl rfl (hb hby at_97) (fun T27 h27 X27 W27 V_al => ?_)
  have V_al : Arv Z h27 al k1 (.object "tabeliao/server/Command") (13 : Int32) [(.ref cm0), (.ref cm1), (.ref cm2), (.ref cm3), (.ref cm4), (.ref cm5), (.ref cm6), (.ref cm7), (.ref cm8), (.ref cm9), (.ref cm10), (.ref cm11), (.ref cm12)] .null := V_al
  have O := O.wr W27 g_al
  have Z0 := Nat.le_trans Z0 (Keep.of_wr W27).1
  show G T27 (mkF m 98 #[.val (.int p0), .val (.int p1), .val (.int kx), .unset, .unset] [(.ref al)])
  refine hs.go (fun _ kk_ => XS.astoreN X27.here hx rfl (hb hby at_98) rfl rfl (l' := #[.val (.int p0), .val (.int p1), .val (.int kx), .val (.ref al), .unset]) rfl kk_) ?_
  show G T27 (mkF m 99 #[.val (.int p0), .val (.int p1), .val (.int kx), .val (.ref al), .unset] [])
  rcases own_k hkx with rfl | rfl | rfl | rfl | rfl | rfl | rfl | rfl | rfl | rfl | rfl | rfl | rfl
  · show G T27 (mkF m 99 #[.val (.int p0), .val (.int p1), .val (.int (0 : Int32)), .val (.ref al), .unset] [])
    refine hs.go (fun _ kk_ => XS.aloadN X27.here hx rfl (hb hby at_99) rfl rfl kk_) ?_
    show G T27 (mkF m 100 #[.val (.int p0), .val (.int p1), .val (.int (0 : Int32)), .val (.ref al), .unset] [(.ref al)])
    refine hs.go (fun _ kk_ => XS.iloadN X27.here hx rfl (hb hby at_100) rfl  kk_) ?_
    show G T27 (mkF m 101 #[.val (.int p0), .val (.int p1), .val (.int (0 : Int32)), .val (.ref al), .unset] [(.int (0 : Int32)), (.ref al)])
    refine rLdR hs X27 hx hZ V_al rfl ⟨by decide, by decide⟩ (v := (.ref cm0)) rfl rfl rfl (hb hby at_101) ?_
    show G T27 (mkF m 102 #[.val (.int p0), .val (.int p1), .val (.int (0 : Int32)), .val (.ref al), .unset] [(.ref cm0)])
    refine hs.go (fun _ kk_ => XS.astore X27.here hx rfl (hb hby at_102) rfl rfl (l' := #[.val (.int p0), .val (.int p1), .val (.int (0 : Int32)), .val (.ref al), .val (.ref cm0)]) rfl kk_) ?_
    show G T27 (mkF m 104 #[.val (.int p0), .val (.int p1), .val (.int (0 : Int32)), .val (.ref al), .val (.ref cm0)] [])
    refine hs.go (fun _ kk_ => XS.aload X27.here hx rfl (hb hby at_104) rfl rfl kk_) ?_
    show G T27 (mkF m 106 #[.val (.int p0), .val (.int p1), .val (.int (0 : Int32)), .val (.ref al), .val (.ref cm0)] [(.ref cm0)])
    refine hs.go (fun _ kk_ => XS.iloadN X27.here hx rfl (hb hby at_106) rfl  kk_) ?_
    show G T27 (mkF m 107 #[.val (.int p0), .val (.int p1), .val (.int (0 : Int32)), .val (.ref al), .val (.ref cm0)] [(.int p1), (.ref cm0)])
    refine rCallV hs X27 hx hZ (as' := [(.int p1)]) (rm1 l Z a0 hw [] cm0 p1 (0 : Int32) (0 : Int32) h27 n0 Z0 (Ff0.ext O.2) (Fm0.ext O.2)) (Ex0.ext O.2) hown (hw _ (List.mem_of_getElem? (i := 31) rfl)) (hw _ (List.mem_of_getElem? (i := 32) rfl)) (hw _ (List.mem_of_getElem? (i := 34) rfl)) (hw _ (List.mem_of_getElem? (i := 33) rfl)) (hw _ (List.mem_of_getElem? (i := 4) rfl)) (hw _ (List.mem_of_getElem? (i := 35) rfl)) hy_1 rfl (by rw [hml]; rfl) [] (lenOf pd_0 rfl) rfl 0 (by show 2 * 0 + _ ≤ _; exact Nat.le_of_eq rfl) (hb hby at_107) (by decide) (by decide) (by decide) (by decide) (fun r28 T28 h28 X28 q28 => ?_)
    obtain ⟨rfl, qh28⟩ := q28
    rw [qh28] at X28
    show G T28 (mkF m 110 #[.val (.int p0), .val (.int p1), .val (.int (0 : Int32)), .val (.ref al), .val (.ref cm0)] [(.int (ftk p1 (0 : Int32) (0 : Int32)))])
    refine hs.go (fun _ kk_ => XS.iloadN X28.here hx rfl (hb hby at_110) rfl  kk_) ?_
    show G T28 (mkF m 111 #[.val (.int p0), .val (.int p1), .val (.int (0 : Int32)), .val (.ref al), .val (.ref cm0)] [(.int (0 : Int32)), (.int (ftk p1 (0 : Int32) (0 : Int32)))])
    refine hs.go (fun _ kk_ => XS.iloadN X28.here hx rfl (hb hby at_111) rfl  kk_) ?_
    show G T28 (mkF m 112 #[.val (.int p0), .val (.int p1), .val (.int (0 : Int32)), .val (.ref al), .val (.ref cm0)] [(.int p1), (.int (0 : Int32)), (.int (ftk p1 (0 : Int32) (0 : Int32)))])
    refine rCallS hs X28 hx hZ (as' := [(.int (0 : Int32)), (.int p1)]) (rm2 l Z a0 hw [] (0 : Int32) p1 h27 n0 Z0) hown (hw _ (List.mem_of_getElem? (i := 40) rfl)) (hw _ (List.mem_of_getElem? (i := 41) rfl)) (hw _ (List.mem_of_getElem? (i := 42) rfl)) (hw _ (List.mem_of_getElem? (i := 43) rfl)) hy_2 rfl (by rw [hml]; rfl) [(.int (ftk p1 (0 : Int32) (0 : Int32)))] (lenOf pd_1 rfl) rfl 1 (by show 2 * 0 + _ ≤ _; exact Nat.le_of_eq rfl) (hb hby at_112) (by decide) (by decide) (by decide) (by decide) (fun r29 T29 h29 X29 q29 => ?_)
    obtain ⟨rfl, qh29⟩ := q29
    rw [qh29] at X29
    show G T29 (mkF m 115 #[.val (.int p0), .val (.int p1), .val (.int (0 : Int32)), .val (.ref al), .val (.ref cm0)] [(.int (f2 (0 : Int32) p1)), (.int (ftk p1 (0 : Int32) (0 : Int32)))])
    refine hs.go (fun _ kk_ => XS.icmpNo X29.here hx rfl (hb hby at_115) rfl (teq (own_i0 p1 : (ftk p1 (0 : Int32) (0 : Int32)) = (f2 (0 : Int32) p1))).2 kk_) ?_
    show G T29 (mkF m 118 #[.val (.int p0), .val (.int p1), .val (.int (0 : Int32)), .val (.ref al), .val (.ref cm0)] [])
    refine hs.go (fun _ kk_ => XS.iconst X29.here hx rfl (hb hby at_118) kk_) ?_
    show G T29 (mkF m 119 #[.val (.int p0), .val (.int p1), .val (.int (0 : Int32)), .val (.ref al), .val (.ref cm0)] [(.int (1 : Int32))])
    refine hs.go (fun _ kk_ => XS.goto X29.here hx rfl (pc0 := 119) (pc' := 123) rfl (hb hby at_119) (by decide) (by decide) kk_) ?_
    show G T29 (mkF m 123 #[.val (.int p0), .val (.int p1), .val (.int (0 : Int32)), .val (.ref al), .val (.ref cm0)] [(.int (1 : Int32))])
    exact rRetN fin X29 hx (by decide) (by decide) hret (by simp) (hb hby at_123) (z' := (1 : Int32)) (by decide) rfl
  · show G T27 (mkF m 99 #[.val (.int p0), .val (.int p1), .val (.int (1 : Int32)), .val (.ref al), .unset] [])
    refine hs.go (fun _ kk_ => XS.aloadN X27.here hx rfl (hb hby at_99) rfl rfl kk_) ?_
    show G T27 (mkF m 100 #[.val (.int p0), .val (.int p1), .val (.int (1 : Int32)), .val (.ref al), .unset] [(.ref al)])
    refine hs.go (fun _ kk_ => XS.iloadN X27.here hx rfl (hb hby at_100) rfl  kk_) ?_
    show G T27 (mkF m 101 #[.val (.int p0), .val (.int p1), .val (.int (1 : Int32)), .val (.ref al), .unset] [(.int (1 : Int32)), (.ref al)])
    refine rLdR hs X27 hx hZ V_al rfl ⟨by decide, by decide⟩ (v := (.ref cm1)) rfl rfl rfl (hb hby at_101) ?_
    show G T27 (mkF m 102 #[.val (.int p0), .val (.int p1), .val (.int (1 : Int32)), .val (.ref al), .unset] [(.ref cm1)])
    refine hs.go (fun _ kk_ => XS.astore X27.here hx rfl (hb hby at_102) rfl rfl (l' := #[.val (.int p0), .val (.int p1), .val (.int (1 : Int32)), .val (.ref al), .val (.ref cm1)]) rfl kk_) ?_
    show G T27 (mkF m 104 #[.val (.int p0), .val (.int p1), .val (.int (1 : Int32)), .val (.ref al), .val (.ref cm1)] [])
    refine hs.go (fun _ kk_ => XS.aload X27.here hx rfl (hb hby at_104) rfl rfl kk_) ?_
    show G T27 (mkF m 106 #[.val (.int p0), .val (.int p1), .val (.int (1 : Int32)), .val (.ref al), .val (.ref cm1)] [(.ref cm1)])
    refine hs.go (fun _ kk_ => XS.iloadN X27.here hx rfl (hb hby at_106) rfl  kk_) ?_
    show G T27 (mkF m 107 #[.val (.int p0), .val (.int p1), .val (.int (1 : Int32)), .val (.ref al), .val (.ref cm1)] [(.int p1), (.ref cm1)])
    refine rCallV hs X27 hx hZ (as' := [(.int p1)]) (rm1 l Z a0 hw [] cm1 p1 (0 : Int32) (2147483647 : Int32) h27 n0 Z0 (Ff1.ext O.2) (Fm1.ext O.2)) (Ex1.ext O.2) hown (hw _ (List.mem_of_getElem? (i := 31) rfl)) (hw _ (List.mem_of_getElem? (i := 32) rfl)) (hw _ (List.mem_of_getElem? (i := 34) rfl)) (hw _ (List.mem_of_getElem? (i := 33) rfl)) (hw _ (List.mem_of_getElem? (i := 4) rfl)) (hw _ (List.mem_of_getElem? (i := 35) rfl)) hy_1 rfl (by rw [hml]; rfl) [] (lenOf pd_0 rfl) rfl 0 (by show 2 * 0 + _ ≤ _; exact Nat.le_of_eq rfl) (hb hby at_107) (by decide) (by decide) (by decide) (by decide) (fun r30 T30 h30 X30 q30 => ?_)
    obtain ⟨rfl, qh30⟩ := q30
    rw [qh30] at X30
    show G T30 (mkF m 110 #[.val (.int p0), .val (.int p1), .val (.int (1 : Int32)), .val (.ref al), .val (.ref cm1)] [(.int (ftk p1 (0 : Int32) (2147483647 : Int32)))])
    refine hs.go (fun _ kk_ => XS.iloadN X30.here hx rfl (hb hby at_110) rfl  kk_) ?_
    show G T30 (mkF m 111 #[.val (.int p0), .val (.int p1), .val (.int (1 : Int32)), .val (.ref al), .val (.ref cm1)] [(.int (1 : Int32)), (.int (ftk p1 (0 : Int32) (2147483647 : Int32)))])
    refine hs.go (fun _ kk_ => XS.iloadN X30.here hx rfl (hb hby at_111) rfl  kk_) ?_
    show G T30 (mkF m 112 #[.val (.int p0), .val (.int p1), .val (.int (1 : Int32)), .val (.ref al), .val (.ref cm1)] [(.int p1), (.int (1 : Int32)), (.int (ftk p1 (0 : Int32) (2147483647 : Int32)))])
    refine rCallS hs X30 hx hZ (as' := [(.int (1 : Int32)), (.int p1)]) (rm2 l Z a0 hw [] (1 : Int32) p1 h27 n0 Z0) hown (hw _ (List.mem_of_getElem? (i := 40) rfl)) (hw _ (List.mem_of_getElem? (i := 41) rfl)) (hw _ (List.mem_of_getElem? (i := 42) rfl)) (hw _ (List.mem_of_getElem? (i := 43) rfl)) hy_2 rfl (by rw [hml]; rfl) [(.int (ftk p1 (0 : Int32) (2147483647 : Int32)))] (lenOf pd_1 rfl) rfl 1 (by show 2 * 0 + _ ≤ _; exact Nat.le_of_eq rfl) (hb hby at_112) (by decide) (by decide) (by decide) (by decide) (fun r31 T31 h31 X31 q31 => ?_)
    obtain ⟨rfl, qh31⟩ := q31
    rw [qh31] at X31
    show G T31 (mkF m 115 #[.val (.int p0), .val (.int p1), .val (.int (1 : Int32)), .val (.ref al), .val (.ref cm1)] [(.int (f2 (1 : Int32) p1)), (.int (ftk p1 (0 : Int32) (2147483647 : Int32)))])
    refine hs.go (fun _ kk_ => XS.icmpNo X31.here hx rfl (hb hby at_115) rfl (teq (own_i1 p1 : (ftk p1 (0 : Int32) (2147483647 : Int32)) = (f2 (1 : Int32) p1))).2 kk_) ?_
    show G T31 (mkF m 118 #[.val (.int p0), .val (.int p1), .val (.int (1 : Int32)), .val (.ref al), .val (.ref cm1)] [])
    refine hs.go (fun _ kk_ => XS.iconst X31.here hx rfl (hb hby at_118) kk_) ?_
    show G T31 (mkF m 119 #[.val (.int p0), .val (.int p1), .val (.int (1 : Int32)), .val (.ref al), .val (.ref cm1)] [(.int (1 : Int32))])
    refine hs.go (fun _ kk_ => XS.goto X31.here hx rfl (pc0 := 119) (pc' := 123) rfl (hb hby at_119) (by decide) (by decide) kk_) ?_
    show G T31 (mkF m 123 #[.val (.int p0), .val (.int p1), .val (.int (1 : Int32)), .val (.ref al), .val (.ref cm1)] [(.int (1 : Int32))])
    exact rRetN fin X31 hx (by decide) (by decide) hret (by simp) (hb hby at_123) (z' := (1 : Int32)) (by decide) rfl
  · show G T27 (mkF m 99 #[.val (.int p0), .val (.int p1), .val (.int (2 : Int32)), .val (.ref al), .unset] [])
    refine hs.go (fun _ kk_ => XS.aloadN X27.here hx rfl (hb hby at_99) rfl rfl kk_) ?_
    show G T27 (mkF m 100 #[.val (.int p0), .val (.int p1), .val (.int (2 : Int32)), .val (.ref al), .unset] [(.ref al)])
    refine hs.go (fun _ kk_ => XS.iloadN X27.here hx rfl (hb hby at_100) rfl  kk_) ?_
    show G T27 (mkF m 101 #[.val (.int p0), .val (.int p1), .val (.int (2 : Int32)), .val (.ref al), .unset] [(.int (2 : Int32)), (.ref al)])
    refine rLdR hs X27 hx hZ V_al rfl ⟨by decide, by decide⟩ (v := (.ref cm2)) rfl rfl rfl (hb hby at_101) ?_
    show G T27 (mkF m 102 #[.val (.int p0), .val (.int p1), .val (.int (2 : Int32)), .val (.ref al), .unset] [(.ref cm2)])
    refine hs.go (fun _ kk_ => XS.astore X27.here hx rfl (hb hby at_102) rfl rfl (l' := #[.val (.int p0), .val (.int p1), .val (.int (2 : Int32)), .val (.ref al), .val (.ref cm2)]) rfl kk_) ?_
    show G T27 (mkF m 104 #[.val (.int p0), .val (.int p1), .val (.int (2 : Int32)), .val (.ref al), .val (.ref cm2)] [])
    refine hs.go (fun _ kk_ => XS.aload X27.here hx rfl (hb hby at_104) rfl rfl kk_) ?_
    show G T27 (mkF m 106 #[.val (.int p0), .val (.int p1), .val (.int (2 : Int32)), .val (.ref al), .val (.ref cm2)] [(.ref cm2)])
    refine hs.go (fun _ kk_ => XS.iloadN X27.here hx rfl (hb hby at_106) rfl  kk_) ?_
    show G T27 (mkF m 107 #[.val (.int p0), .val (.int p1), .val (.int (2 : Int32)), .val (.ref al), .val (.ref cm2)] [(.int p1), (.ref cm2)])
    refine rCallV hs X27 hx hZ (as' := [(.int p1)]) (rm1 l Z a0 hw [] cm2 p1 (1 : Int32) (1 : Int32) h27 n0 Z0 (Ff2.ext O.2) (Fm2.ext O.2)) (Ex2.ext O.2) hown (hw _ (List.mem_of_getElem? (i := 31) rfl)) (hw _ (List.mem_of_getElem? (i := 32) rfl)) (hw _ (List.mem_of_getElem? (i := 34) rfl)) (hw _ (List.mem_of_getElem? (i := 33) rfl)) (hw _ (List.mem_of_getElem? (i := 4) rfl)) (hw _ (List.mem_of_getElem? (i := 35) rfl)) hy_1 rfl (by rw [hml]; rfl) [] (lenOf pd_0 rfl) rfl 0 (by show 2 * 0 + _ ≤ _; exact Nat.le_of_eq rfl) (hb hby at_107) (by decide) (by decide) (by decide) (by decide) (fun r32 T32 h32 X32 q32 => ?_)
    obtain ⟨rfl, qh32⟩ := q32
    rw [qh32] at X32
    show G T32 (mkF m 110 #[.val (.int p0), .val (.int p1), .val (.int (2 : Int32)), .val (.ref al), .val (.ref cm2)] [(.int (ftk p1 (1 : Int32) (1 : Int32)))])
    refine hs.go (fun _ kk_ => XS.iloadN X32.here hx rfl (hb hby at_110) rfl  kk_) ?_
    show G T32 (mkF m 111 #[.val (.int p0), .val (.int p1), .val (.int (2 : Int32)), .val (.ref al), .val (.ref cm2)] [(.int (2 : Int32)), (.int (ftk p1 (1 : Int32) (1 : Int32)))])
    refine hs.go (fun _ kk_ => XS.iloadN X32.here hx rfl (hb hby at_111) rfl  kk_) ?_
    show G T32 (mkF m 112 #[.val (.int p0), .val (.int p1), .val (.int (2 : Int32)), .val (.ref al), .val (.ref cm2)] [(.int p1), (.int (2 : Int32)), (.int (ftk p1 (1 : Int32) (1 : Int32)))])
    refine rCallS hs X32 hx hZ (as' := [(.int (2 : Int32)), (.int p1)]) (rm2 l Z a0 hw [] (2 : Int32) p1 h27 n0 Z0) hown (hw _ (List.mem_of_getElem? (i := 40) rfl)) (hw _ (List.mem_of_getElem? (i := 41) rfl)) (hw _ (List.mem_of_getElem? (i := 42) rfl)) (hw _ (List.mem_of_getElem? (i := 43) rfl)) hy_2 rfl (by rw [hml]; rfl) [(.int (ftk p1 (1 : Int32) (1 : Int32)))] (lenOf pd_1 rfl) rfl 1 (by show 2 * 0 + _ ≤ _; exact Nat.le_of_eq rfl) (hb hby at_112) (by decide) (by decide) (by decide) (by decide) (fun r33 T33 h33 X33 q33 => ?_)
    obtain ⟨rfl, qh33⟩ := q33
    rw [qh33] at X33
    show G T33 (mkF m 115 #[.val (.int p0), .val (.int p1), .val (.int (2 : Int32)), .val (.ref al), .val (.ref cm2)] [(.int (f2 (2 : Int32) p1)), (.int (ftk p1 (1 : Int32) (1 : Int32)))])
    refine hs.go (fun _ kk_ => XS.icmpNo X33.here hx rfl (hb hby at_115) rfl (teq (own_i2 p1 : (ftk p1 (1 : Int32) (1 : Int32)) = (f2 (2 : Int32) p1))).2 kk_) ?_
    show G T33 (mkF m 118 #[.val (.int p0), .val (.int p1), .val (.int (2 : Int32)), .val (.ref al), .val (.ref cm2)] [])
    refine hs.go (fun _ kk_ => XS.iconst X33.here hx rfl (hb hby at_118) kk_) ?_
    show G T33 (mkF m 119 #[.val (.int p0), .val (.int p1), .val (.int (2 : Int32)), .val (.ref al), .val (.ref cm2)] [(.int (1 : Int32))])
    refine hs.go (fun _ kk_ => XS.goto X33.here hx rfl (pc0 := 119) (pc' := 123) rfl (hb hby at_119) (by decide) (by decide) kk_) ?_
    show G T33 (mkF m 123 #[.val (.int p0), .val (.int p1), .val (.int (2 : Int32)), .val (.ref al), .val (.ref cm2)] [(.int (1 : Int32))])
    exact rRetN fin X33 hx (by decide) (by decide) hret (by simp) (hb hby at_123) (z' := (1 : Int32)) (by decide) rfl
  · show G T27 (mkF m 99 #[.val (.int p0), .val (.int p1), .val (.int (3 : Int32)), .val (.ref al), .unset] [])
    refine hs.go (fun _ kk_ => XS.aloadN X27.here hx rfl (hb hby at_99) rfl rfl kk_) ?_
    show G T27 (mkF m 100 #[.val (.int p0), .val (.int p1), .val (.int (3 : Int32)), .val (.ref al), .unset] [(.ref al)])
    refine hs.go (fun _ kk_ => XS.iloadN X27.here hx rfl (hb hby at_100) rfl  kk_) ?_
    show G T27 (mkF m 101 #[.val (.int p0), .val (.int p1), .val (.int (3 : Int32)), .val (.ref al), .unset] [(.int (3 : Int32)), (.ref al)])
    refine rLdR hs X27 hx hZ V_al rfl ⟨by decide, by decide⟩ (v := (.ref cm3)) rfl rfl rfl (hb hby at_101) ?_
    show G T27 (mkF m 102 #[.val (.int p0), .val (.int p1), .val (.int (3 : Int32)), .val (.ref al), .unset] [(.ref cm3)])
    refine hs.go (fun _ kk_ => XS.astore X27.here hx rfl (hb hby at_102) rfl rfl (l' := #[.val (.int p0), .val (.int p1), .val (.int (3 : Int32)), .val (.ref al), .val (.ref cm3)]) rfl kk_) ?_
    show G T27 (mkF m 104 #[.val (.int p0), .val (.int p1), .val (.int (3 : Int32)), .val (.ref al), .val (.ref cm3)] [])
    refine hs.go (fun _ kk_ => XS.aload X27.here hx rfl (hb hby at_104) rfl rfl kk_) ?_
    show G T27 (mkF m 106 #[.val (.int p0), .val (.int p1), .val (.int (3 : Int32)), .val (.ref al), .val (.ref cm3)] [(.ref cm3)])
    refine hs.go (fun _ kk_ => XS.iloadN X27.here hx rfl (hb hby at_106) rfl  kk_) ?_
    show G T27 (mkF m 107 #[.val (.int p0), .val (.int p1), .val (.int (3 : Int32)), .val (.ref al), .val (.ref cm3)] [(.int p1), (.ref cm3)])
    refine rCallV hs X27 hx hZ (as' := [(.int p1)]) (rm1 l Z a0 hw [] cm3 p1 (2 : Int32) (2 : Int32) h27 n0 Z0 (Ff3.ext O.2) (Fm3.ext O.2)) (Ex3.ext O.2) hown (hw _ (List.mem_of_getElem? (i := 31) rfl)) (hw _ (List.mem_of_getElem? (i := 32) rfl)) (hw _ (List.mem_of_getElem? (i := 34) rfl)) (hw _ (List.mem_of_getElem? (i := 33) rfl)) (hw _ (List.mem_of_getElem? (i := 4) rfl)) (hw _ (List.mem_of_getElem? (i := 35) rfl)) hy_1 rfl (by rw [hml]; rfl) [] (lenOf pd_0 rfl) rfl 0 (by show 2 * 0 + _ ≤ _; exact Nat.le_of_eq rfl) (hb hby at_107) (by decide) (by decide) (by decide) (by decide) (fun r34 T34 h34 X34 q34 => ?_)
    obtain ⟨rfl, qh34⟩ := q34
    rw [qh34] at X34
    show G T34 (mkF m 110 #[.val (.int p0), .val (.int p1), .val (.int (3 : Int32)), .val (.ref al), .val (.ref cm3)] [(.int (ftk p1 (2 : Int32) (2 : Int32)))])
    refine hs.go (fun _ kk_ => XS.iloadN X34.here hx rfl (hb hby at_110) rfl  kk_) ?_
    show G T34 (mkF m 111 #[.val (.int p0), .val (.int p1), .val (.int (3 : Int32)), .val (.ref al), .val (.ref cm3)] [(.int (3 : Int32)), (.int (ftk p1 (2 : Int32) (2 : Int32)))])
    refine hs.go (fun _ kk_ => XS.iloadN X34.here hx rfl (hb hby at_111) rfl  kk_) ?_
    show G T34 (mkF m 112 #[.val (.int p0), .val (.int p1), .val (.int (3 : Int32)), .val (.ref al), .val (.ref cm3)] [(.int p1), (.int (3 : Int32)), (.int (ftk p1 (2 : Int32) (2 : Int32)))])
    refine rCallS hs X34 hx hZ (as' := [(.int (3 : Int32)), (.int p1)]) (rm2 l Z a0 hw [] (3 : Int32) p1 h27 n0 Z0) hown (hw _ (List.mem_of_getElem? (i := 40) rfl)) (hw _ (List.mem_of_getElem? (i := 41) rfl)) (hw _ (List.mem_of_getElem? (i := 42) rfl)) (hw _ (List.mem_of_getElem? (i := 43) rfl)) hy_2 rfl (by rw [hml]; rfl) [(.int (ftk p1 (2 : Int32) (2 : Int32)))] (lenOf pd_1 rfl) rfl 1 (by show 2 * 0 + _ ≤ _; exact Nat.le_of_eq rfl) (hb hby at_112) (by decide) (by decide) (by decide) (by decide) (fun r35 T35 h35 X35 q35 => ?_)
    obtain ⟨rfl, qh35⟩ := q35
    rw [qh35] at X35
    show G T35 (mkF m 115 #[.val (.int p0), .val (.int p1), .val (.int (3 : Int32)), .val (.ref al), .val (.ref cm3)] [(.int (f2 (3 : Int32) p1)), (.int (ftk p1 (2 : Int32) (2 : Int32)))])
    refine hs.go (fun _ kk_ => XS.icmpNo X35.here hx rfl (hb hby at_115) rfl (teq (own_i3 p1 : (ftk p1 (2 : Int32) (2 : Int32)) = (f2 (3 : Int32) p1))).2 kk_) ?_
    show G T35 (mkF m 118 #[.val (.int p0), .val (.int p1), .val (.int (3 : Int32)), .val (.ref al), .val (.ref cm3)] [])
    refine hs.go (fun _ kk_ => XS.iconst X35.here hx rfl (hb hby at_118) kk_) ?_
    show G T35 (mkF m 119 #[.val (.int p0), .val (.int p1), .val (.int (3 : Int32)), .val (.ref al), .val (.ref cm3)] [(.int (1 : Int32))])
    refine hs.go (fun _ kk_ => XS.goto X35.here hx rfl (pc0 := 119) (pc' := 123) rfl (hb hby at_119) (by decide) (by decide) kk_) ?_
    show G T35 (mkF m 123 #[.val (.int p0), .val (.int p1), .val (.int (3 : Int32)), .val (.ref al), .val (.ref cm3)] [(.int (1 : Int32))])
    exact rRetN fin X35 hx (by decide) (by decide) hret (by simp) (hb hby at_123) (z' := (1 : Int32)) (by decide) rfl
  · show G T27 (mkF m 99 #[.val (.int p0), .val (.int p1), .val (.int (4 : Int32)), .val (.ref al), .unset] [])
    refine hs.go (fun _ kk_ => XS.aloadN X27.here hx rfl (hb hby at_99) rfl rfl kk_) ?_
    show G T27 (mkF m 100 #[.val (.int p0), .val (.int p1), .val (.int (4 : Int32)), .val (.ref al), .unset] [(.ref al)])
    refine hs.go (fun _ kk_ => XS.iloadN X27.here hx rfl (hb hby at_100) rfl  kk_) ?_
    show G T27 (mkF m 101 #[.val (.int p0), .val (.int p1), .val (.int (4 : Int32)), .val (.ref al), .unset] [(.int (4 : Int32)), (.ref al)])
    refine rLdR hs X27 hx hZ V_al rfl ⟨by decide, by decide⟩ (v := (.ref cm4)) rfl rfl rfl (hb hby at_101) ?_
    show G T27 (mkF m 102 #[.val (.int p0), .val (.int p1), .val (.int (4 : Int32)), .val (.ref al), .unset] [(.ref cm4)])
    refine hs.go (fun _ kk_ => XS.astore X27.here hx rfl (hb hby at_102) rfl rfl (l' := #[.val (.int p0), .val (.int p1), .val (.int (4 : Int32)), .val (.ref al), .val (.ref cm4)]) rfl kk_) ?_
    show G T27 (mkF m 104 #[.val (.int p0), .val (.int p1), .val (.int (4 : Int32)), .val (.ref al), .val (.ref cm4)] [])
    refine hs.go (fun _ kk_ => XS.aload X27.here hx rfl (hb hby at_104) rfl rfl kk_) ?_
    show G T27 (mkF m 106 #[.val (.int p0), .val (.int p1), .val (.int (4 : Int32)), .val (.ref al), .val (.ref cm4)] [(.ref cm4)])
    refine hs.go (fun _ kk_ => XS.iloadN X27.here hx rfl (hb hby at_106) rfl  kk_) ?_
    show G T27 (mkF m 107 #[.val (.int p0), .val (.int p1), .val (.int (4 : Int32)), .val (.ref al), .val (.ref cm4)] [(.int p1), (.ref cm4)])
    refine rCallV hs X27 hx hZ (as' := [(.int p1)]) (rm1 l Z a0 hw [] cm4 p1 (1 : Int32) (2147483647 : Int32) h27 n0 Z0 (Ff4.ext O.2) (Fm4.ext O.2)) (Ex4.ext O.2) hown (hw _ (List.mem_of_getElem? (i := 31) rfl)) (hw _ (List.mem_of_getElem? (i := 32) rfl)) (hw _ (List.mem_of_getElem? (i := 34) rfl)) (hw _ (List.mem_of_getElem? (i := 33) rfl)) (hw _ (List.mem_of_getElem? (i := 4) rfl)) (hw _ (List.mem_of_getElem? (i := 35) rfl)) hy_1 rfl (by rw [hml]; rfl) [] (lenOf pd_0 rfl) rfl 0 (by show 2 * 0 + _ ≤ _; exact Nat.le_of_eq rfl) (hb hby at_107) (by decide) (by decide) (by decide) (by decide) (fun r36 T36 h36 X36 q36 => ?_)
    obtain ⟨rfl, qh36⟩ := q36
    rw [qh36] at X36
    show G T36 (mkF m 110 #[.val (.int p0), .val (.int p1), .val (.int (4 : Int32)), .val (.ref al), .val (.ref cm4)] [(.int (ftk p1 (1 : Int32) (2147483647 : Int32)))])
    refine hs.go (fun _ kk_ => XS.iloadN X36.here hx rfl (hb hby at_110) rfl  kk_) ?_
    show G T36 (mkF m 111 #[.val (.int p0), .val (.int p1), .val (.int (4 : Int32)), .val (.ref al), .val (.ref cm4)] [(.int (4 : Int32)), (.int (ftk p1 (1 : Int32) (2147483647 : Int32)))])
    refine hs.go (fun _ kk_ => XS.iloadN X36.here hx rfl (hb hby at_111) rfl  kk_) ?_
    show G T36 (mkF m 112 #[.val (.int p0), .val (.int p1), .val (.int (4 : Int32)), .val (.ref al), .val (.ref cm4)] [(.int p1), (.int (4 : Int32)), (.int (ftk p1 (1 : Int32) (2147483647 : Int32)))])
    refine rCallS hs X36 hx hZ (as' := [(.int (4 : Int32)), (.int p1)]) (rm2 l Z a0 hw [] (4 : Int32) p1 h27 n0 Z0) hown (hw _ (List.mem_of_getElem? (i := 40) rfl)) (hw _ (List.mem_of_getElem? (i := 41) rfl)) (hw _ (List.mem_of_getElem? (i := 42) rfl)) (hw _ (List.mem_of_getElem? (i := 43) rfl)) hy_2 rfl (by rw [hml]; rfl) [(.int (ftk p1 (1 : Int32) (2147483647 : Int32)))] (lenOf pd_1 rfl) rfl 1 (by show 2 * 0 + _ ≤ _; exact Nat.le_of_eq rfl) (hb hby at_112) (by decide) (by decide) (by decide) (by decide) (fun r37 T37 h37 X37 q37 => ?_)
    obtain ⟨rfl, qh37⟩ := q37
    rw [qh37] at X37
    show G T37 (mkF m 115 #[.val (.int p0), .val (.int p1), .val (.int (4 : Int32)), .val (.ref al), .val (.ref cm4)] [(.int (f2 (4 : Int32) p1)), (.int (ftk p1 (1 : Int32) (2147483647 : Int32)))])
    refine hs.go (fun _ kk_ => XS.icmpNo X37.here hx rfl (hb hby at_115) rfl (teq (own_i4 p1 : (ftk p1 (1 : Int32) (2147483647 : Int32)) = (f2 (4 : Int32) p1))).2 kk_) ?_
    show G T37 (mkF m 118 #[.val (.int p0), .val (.int p1), .val (.int (4 : Int32)), .val (.ref al), .val (.ref cm4)] [])
    refine hs.go (fun _ kk_ => XS.iconst X37.here hx rfl (hb hby at_118) kk_) ?_
    show G T37 (mkF m 119 #[.val (.int p0), .val (.int p1), .val (.int (4 : Int32)), .val (.ref al), .val (.ref cm4)] [(.int (1 : Int32))])
    refine hs.go (fun _ kk_ => XS.goto X37.here hx rfl (pc0 := 119) (pc' := 123) rfl (hb hby at_119) (by decide) (by decide) kk_) ?_
    show G T37 (mkF m 123 #[.val (.int p0), .val (.int p1), .val (.int (4 : Int32)), .val (.ref al), .val (.ref cm4)] [(.int (1 : Int32))])
    exact rRetN fin X37 hx (by decide) (by decide) hret (by simp) (hb hby at_123) (z' := (1 : Int32)) (by decide) rfl
  · show G T27 (mkF m 99 #[.val (.int p0), .val (.int p1), .val (.int (5 : Int32)), .val (.ref al), .unset] [])
    refine hs.go (fun _ kk_ => XS.aloadN X27.here hx rfl (hb hby at_99) rfl rfl kk_) ?_
    show G T27 (mkF m 100 #[.val (.int p0), .val (.int p1), .val (.int (5 : Int32)), .val (.ref al), .unset] [(.ref al)])
    refine hs.go (fun _ kk_ => XS.iloadN X27.here hx rfl (hb hby at_100) rfl  kk_) ?_
    show G T27 (mkF m 101 #[.val (.int p0), .val (.int p1), .val (.int (5 : Int32)), .val (.ref al), .unset] [(.int (5 : Int32)), (.ref al)])
    refine rLdR hs X27 hx hZ V_al rfl ⟨by decide, by decide⟩ (v := (.ref cm5)) rfl rfl rfl (hb hby at_101) ?_
    show G T27 (mkF m 102 #[.val (.int p0), .val (.int p1), .val (.int (5 : Int32)), .val (.ref al), .unset] [(.ref cm5)])
    refine hs.go (fun _ kk_ => XS.astore X27.here hx rfl (hb hby at_102) rfl rfl (l' := #[.val (.int p0), .val (.int p1), .val (.int (5 : Int32)), .val (.ref al), .val (.ref cm5)]) rfl kk_) ?_
    show G T27 (mkF m 104 #[.val (.int p0), .val (.int p1), .val (.int (5 : Int32)), .val (.ref al), .val (.ref cm5)] [])
    refine hs.go (fun _ kk_ => XS.aload X27.here hx rfl (hb hby at_104) rfl rfl kk_) ?_
    show G T27 (mkF m 106 #[.val (.int p0), .val (.int p1), .val (.int (5 : Int32)), .val (.ref al), .val (.ref cm5)] [(.ref cm5)])
    refine hs.go (fun _ kk_ => XS.iloadN X27.here hx rfl (hb hby at_106) rfl  kk_) ?_
    show G T27 (mkF m 107 #[.val (.int p0), .val (.int p1), .val (.int (5 : Int32)), .val (.ref al), .val (.ref cm5)] [(.int p1), (.ref cm5)])
    refine rCallV hs X27 hx hZ (as' := [(.int p1)]) (rm1 l Z a0 hw [] cm5 p1 (2 : Int32) (2 : Int32) h27 n0 Z0 (Ff5.ext O.2) (Fm5.ext O.2)) (Ex5.ext O.2) hown (hw _ (List.mem_of_getElem? (i := 31) rfl)) (hw _ (List.mem_of_getElem? (i := 32) rfl)) (hw _ (List.mem_of_getElem? (i := 34) rfl)) (hw _ (List.mem_of_getElem? (i := 33) rfl)) (hw _ (List.mem_of_getElem? (i := 4) rfl)) (hw _ (List.mem_of_getElem? (i := 35) rfl)) hy_1 rfl (by rw [hml]; rfl) [] (lenOf pd_0 rfl) rfl 0 (by show 2 * 0 + _ ≤ _; exact Nat.le_of_eq rfl) (hb hby at_107) (by decide) (by decide) (by decide) (by decide) (fun r38 T38 h38 X38 q38 => ?_)
    obtain ⟨rfl, qh38⟩ := q38
    rw [qh38] at X38
    show G T38 (mkF m 110 #[.val (.int p0), .val (.int p1), .val (.int (5 : Int32)), .val (.ref al), .val (.ref cm5)] [(.int (ftk p1 (2 : Int32) (2 : Int32)))])
    refine hs.go (fun _ kk_ => XS.iloadN X38.here hx rfl (hb hby at_110) rfl  kk_) ?_
    show G T38 (mkF m 111 #[.val (.int p0), .val (.int p1), .val (.int (5 : Int32)), .val (.ref al), .val (.ref cm5)] [(.int (5 : Int32)), (.int (ftk p1 (2 : Int32) (2 : Int32)))])
    refine hs.go (fun _ kk_ => XS.iloadN X38.here hx rfl (hb hby at_111) rfl  kk_) ?_
    show G T38 (mkF m 112 #[.val (.int p0), .val (.int p1), .val (.int (5 : Int32)), .val (.ref al), .val (.ref cm5)] [(.int p1), (.int (5 : Int32)), (.int (ftk p1 (2 : Int32) (2 : Int32)))])
    refine rCallS hs X38 hx hZ (as' := [(.int (5 : Int32)), (.int p1)]) (rm2 l Z a0 hw [] (5 : Int32) p1 h27 n0 Z0) hown (hw _ (List.mem_of_getElem? (i := 40) rfl)) (hw _ (List.mem_of_getElem? (i := 41) rfl)) (hw _ (List.mem_of_getElem? (i := 42) rfl)) (hw _ (List.mem_of_getElem? (i := 43) rfl)) hy_2 rfl (by rw [hml]; rfl) [(.int (ftk p1 (2 : Int32) (2 : Int32)))] (lenOf pd_1 rfl) rfl 1 (by show 2 * 0 + _ ≤ _; exact Nat.le_of_eq rfl) (hb hby at_112) (by decide) (by decide) (by decide) (by decide) (fun r39 T39 h39 X39 q39 => ?_)
    obtain ⟨rfl, qh39⟩ := q39
    rw [qh39] at X39
    show G T39 (mkF m 115 #[.val (.int p0), .val (.int p1), .val (.int (5 : Int32)), .val (.ref al), .val (.ref cm5)] [(.int (f2 (5 : Int32) p1)), (.int (ftk p1 (2 : Int32) (2 : Int32)))])
    refine hs.go (fun _ kk_ => XS.icmpNo X39.here hx rfl (hb hby at_115) rfl (teq (own_i5 p1 : (ftk p1 (2 : Int32) (2 : Int32)) = (f2 (5 : Int32) p1))).2 kk_) ?_
    show G T39 (mkF m 118 #[.val (.int p0), .val (.int p1), .val (.int (5 : Int32)), .val (.ref al), .val (.ref cm5)] [])
    refine hs.go (fun _ kk_ => XS.iconst X39.here hx rfl (hb hby at_118) kk_) ?_
    show G T39 (mkF m 119 #[.val (.int p0), .val (.int p1), .val (.int (5 : Int32)), .val (.ref al), .val (.ref cm5)] [(.int (1 : Int32))])
    refine hs.go (fun _ kk_ => XS.goto X39.here hx rfl (pc0 := 119) (pc' := 123) rfl (hb hby at_119) (by decide) (by decide) kk_) ?_
    show G T39 (mkF m 123 #[.val (.int p0), .val (.int p1), .val (.int (5 : Int32)), .val (.ref al), .val (.ref cm5)] [(.int (1 : Int32))])
    exact rRetN fin X39 hx (by decide) (by decide) hret (by simp) (hb hby at_123) (z' := (1 : Int32)) (by decide) rfl
  · show G T27 (mkF m 99 #[.val (.int p0), .val (.int p1), .val (.int (6 : Int32)), .val (.ref al), .unset] [])
    refine hs.go (fun _ kk_ => XS.aloadN X27.here hx rfl (hb hby at_99) rfl rfl kk_) ?_
    show G T27 (mkF m 100 #[.val (.int p0), .val (.int p1), .val (.int (6 : Int32)), .val (.ref al), .unset] [(.ref al)])
    refine hs.go (fun _ kk_ => XS.iloadN X27.here hx rfl (hb hby at_100) rfl  kk_) ?_
    show G T27 (mkF m 101 #[.val (.int p0), .val (.int p1), .val (.int (6 : Int32)), .val (.ref al), .unset] [(.int (6 : Int32)), (.ref al)])
    refine rLdR hs X27 hx hZ V_al rfl ⟨by decide, by decide⟩ (v := (.ref cm6)) rfl rfl rfl (hb hby at_101) ?_
    show G T27 (mkF m 102 #[.val (.int p0), .val (.int p1), .val (.int (6 : Int32)), .val (.ref al), .unset] [(.ref cm6)])
    refine hs.go (fun _ kk_ => XS.astore X27.here hx rfl (hb hby at_102) rfl rfl (l' := #[.val (.int p0), .val (.int p1), .val (.int (6 : Int32)), .val (.ref al), .val (.ref cm6)]) rfl kk_) ?_
    show G T27 (mkF m 104 #[.val (.int p0), .val (.int p1), .val (.int (6 : Int32)), .val (.ref al), .val (.ref cm6)] [])
    refine hs.go (fun _ kk_ => XS.aload X27.here hx rfl (hb hby at_104) rfl rfl kk_) ?_
    show G T27 (mkF m 106 #[.val (.int p0), .val (.int p1), .val (.int (6 : Int32)), .val (.ref al), .val (.ref cm6)] [(.ref cm6)])
    refine hs.go (fun _ kk_ => XS.iloadN X27.here hx rfl (hb hby at_106) rfl  kk_) ?_
    show G T27 (mkF m 107 #[.val (.int p0), .val (.int p1), .val (.int (6 : Int32)), .val (.ref al), .val (.ref cm6)] [(.int p1), (.ref cm6)])
    refine rCallV hs X27 hx hZ (as' := [(.int p1)]) (rm1 l Z a0 hw [] cm6 p1 (2 : Int32) (2 : Int32) h27 n0 Z0 (Ff6.ext O.2) (Fm6.ext O.2)) (Ex6.ext O.2) hown (hw _ (List.mem_of_getElem? (i := 31) rfl)) (hw _ (List.mem_of_getElem? (i := 32) rfl)) (hw _ (List.mem_of_getElem? (i := 34) rfl)) (hw _ (List.mem_of_getElem? (i := 33) rfl)) (hw _ (List.mem_of_getElem? (i := 4) rfl)) (hw _ (List.mem_of_getElem? (i := 35) rfl)) hy_1 rfl (by rw [hml]; rfl) [] (lenOf pd_0 rfl) rfl 0 (by show 2 * 0 + _ ≤ _; exact Nat.le_of_eq rfl) (hb hby at_107) (by decide) (by decide) (by decide) (by decide) (fun r40 T40 h40 X40 q40 => ?_)
    obtain ⟨rfl, qh40⟩ := q40
    rw [qh40] at X40
    show G T40 (mkF m 110 #[.val (.int p0), .val (.int p1), .val (.int (6 : Int32)), .val (.ref al), .val (.ref cm6)] [(.int (ftk p1 (2 : Int32) (2 : Int32)))])
    refine hs.go (fun _ kk_ => XS.iloadN X40.here hx rfl (hb hby at_110) rfl  kk_) ?_
    show G T40 (mkF m 111 #[.val (.int p0), .val (.int p1), .val (.int (6 : Int32)), .val (.ref al), .val (.ref cm6)] [(.int (6 : Int32)), (.int (ftk p1 (2 : Int32) (2 : Int32)))])
    refine hs.go (fun _ kk_ => XS.iloadN X40.here hx rfl (hb hby at_111) rfl  kk_) ?_
    show G T40 (mkF m 112 #[.val (.int p0), .val (.int p1), .val (.int (6 : Int32)), .val (.ref al), .val (.ref cm6)] [(.int p1), (.int (6 : Int32)), (.int (ftk p1 (2 : Int32) (2 : Int32)))])
    refine rCallS hs X40 hx hZ (as' := [(.int (6 : Int32)), (.int p1)]) (rm2 l Z a0 hw [] (6 : Int32) p1 h27 n0 Z0) hown (hw _ (List.mem_of_getElem? (i := 40) rfl)) (hw _ (List.mem_of_getElem? (i := 41) rfl)) (hw _ (List.mem_of_getElem? (i := 42) rfl)) (hw _ (List.mem_of_getElem? (i := 43) rfl)) hy_2 rfl (by rw [hml]; rfl) [(.int (ftk p1 (2 : Int32) (2 : Int32)))] (lenOf pd_1 rfl) rfl 1 (by show 2 * 0 + _ ≤ _; exact Nat.le_of_eq rfl) (hb hby at_112) (by decide) (by decide) (by decide) (by decide) (fun r41 T41 h41 X41 q41 => ?_)
    obtain ⟨rfl, qh41⟩ := q41
    rw [qh41] at X41
    show G T41 (mkF m 115 #[.val (.int p0), .val (.int p1), .val (.int (6 : Int32)), .val (.ref al), .val (.ref cm6)] [(.int (f2 (6 : Int32) p1)), (.int (ftk p1 (2 : Int32) (2 : Int32)))])
    refine hs.go (fun _ kk_ => XS.icmpNo X41.here hx rfl (hb hby at_115) rfl (teq (own_i6 p1 : (ftk p1 (2 : Int32) (2 : Int32)) = (f2 (6 : Int32) p1))).2 kk_) ?_
    show G T41 (mkF m 118 #[.val (.int p0), .val (.int p1), .val (.int (6 : Int32)), .val (.ref al), .val (.ref cm6)] [])
    refine hs.go (fun _ kk_ => XS.iconst X41.here hx rfl (hb hby at_118) kk_) ?_
    show G T41 (mkF m 119 #[.val (.int p0), .val (.int p1), .val (.int (6 : Int32)), .val (.ref al), .val (.ref cm6)] [(.int (1 : Int32))])
    refine hs.go (fun _ kk_ => XS.goto X41.here hx rfl (pc0 := 119) (pc' := 123) rfl (hb hby at_119) (by decide) (by decide) kk_) ?_
    show G T41 (mkF m 123 #[.val (.int p0), .val (.int p1), .val (.int (6 : Int32)), .val (.ref al), .val (.ref cm6)] [(.int (1 : Int32))])
    exact rRetN fin X41 hx (by decide) (by decide) hret (by simp) (hb hby at_123) (z' := (1 : Int32)) (by decide) rfl
  · show G T27 (mkF m 99 #[.val (.int p0), .val (.int p1), .val (.int (7 : Int32)), .val (.ref al), .unset] [])
    refine hs.go (fun _ kk_ => XS.aloadN X27.here hx rfl (hb hby at_99) rfl rfl kk_) ?_
    show G T27 (mkF m 100 #[.val (.int p0), .val (.int p1), .val (.int (7 : Int32)), .val (.ref al), .unset] [(.ref al)])
    refine hs.go (fun _ kk_ => XS.iloadN X27.here hx rfl (hb hby at_100) rfl  kk_) ?_
    show G T27 (mkF m 101 #[.val (.int p0), .val (.int p1), .val (.int (7 : Int32)), .val (.ref al), .unset] [(.int (7 : Int32)), (.ref al)])
    refine rLdR hs X27 hx hZ V_al rfl ⟨by decide, by decide⟩ (v := (.ref cm7)) rfl rfl rfl (hb hby at_101) ?_
    show G T27 (mkF m 102 #[.val (.int p0), .val (.int p1), .val (.int (7 : Int32)), .val (.ref al), .unset] [(.ref cm7)])
    refine hs.go (fun _ kk_ => XS.astore X27.here hx rfl (hb hby at_102) rfl rfl (l' := #[.val (.int p0), .val (.int p1), .val (.int (7 : Int32)), .val (.ref al), .val (.ref cm7)]) rfl kk_) ?_
    show G T27 (mkF m 104 #[.val (.int p0), .val (.int p1), .val (.int (7 : Int32)), .val (.ref al), .val (.ref cm7)] [])
    refine hs.go (fun _ kk_ => XS.aload X27.here hx rfl (hb hby at_104) rfl rfl kk_) ?_
    show G T27 (mkF m 106 #[.val (.int p0), .val (.int p1), .val (.int (7 : Int32)), .val (.ref al), .val (.ref cm7)] [(.ref cm7)])
    refine hs.go (fun _ kk_ => XS.iloadN X27.here hx rfl (hb hby at_106) rfl  kk_) ?_
    show G T27 (mkF m 107 #[.val (.int p0), .val (.int p1), .val (.int (7 : Int32)), .val (.ref al), .val (.ref cm7)] [(.int p1), (.ref cm7)])
    refine rCallV hs X27 hx hZ (as' := [(.int p1)]) (rm1 l Z a0 hw [] cm7 p1 (0 : Int32) (0 : Int32) h27 n0 Z0 (Ff7.ext O.2) (Fm7.ext O.2)) (Ex7.ext O.2) hown (hw _ (List.mem_of_getElem? (i := 31) rfl)) (hw _ (List.mem_of_getElem? (i := 32) rfl)) (hw _ (List.mem_of_getElem? (i := 34) rfl)) (hw _ (List.mem_of_getElem? (i := 33) rfl)) (hw _ (List.mem_of_getElem? (i := 4) rfl)) (hw _ (List.mem_of_getElem? (i := 35) rfl)) hy_1 rfl (by rw [hml]; rfl) [] (lenOf pd_0 rfl) rfl 0 (by show 2 * 0 + _ ≤ _; exact Nat.le_of_eq rfl) (hb hby at_107) (by decide) (by decide) (by decide) (by decide) (fun r42 T42 h42 X42 q42 => ?_)
    obtain ⟨rfl, qh42⟩ := q42
    rw [qh42] at X42
    show G T42 (mkF m 110 #[.val (.int p0), .val (.int p1), .val (.int (7 : Int32)), .val (.ref al), .val (.ref cm7)] [(.int (ftk p1 (0 : Int32) (0 : Int32)))])
    refine hs.go (fun _ kk_ => XS.iloadN X42.here hx rfl (hb hby at_110) rfl  kk_) ?_
    show G T42 (mkF m 111 #[.val (.int p0), .val (.int p1), .val (.int (7 : Int32)), .val (.ref al), .val (.ref cm7)] [(.int (7 : Int32)), (.int (ftk p1 (0 : Int32) (0 : Int32)))])
    refine hs.go (fun _ kk_ => XS.iloadN X42.here hx rfl (hb hby at_111) rfl  kk_) ?_
    show G T42 (mkF m 112 #[.val (.int p0), .val (.int p1), .val (.int (7 : Int32)), .val (.ref al), .val (.ref cm7)] [(.int p1), (.int (7 : Int32)), (.int (ftk p1 (0 : Int32) (0 : Int32)))])
    refine rCallS hs X42 hx hZ (as' := [(.int (7 : Int32)), (.int p1)]) (rm2 l Z a0 hw [] (7 : Int32) p1 h27 n0 Z0) hown (hw _ (List.mem_of_getElem? (i := 40) rfl)) (hw _ (List.mem_of_getElem? (i := 41) rfl)) (hw _ (List.mem_of_getElem? (i := 42) rfl)) (hw _ (List.mem_of_getElem? (i := 43) rfl)) hy_2 rfl (by rw [hml]; rfl) [(.int (ftk p1 (0 : Int32) (0 : Int32)))] (lenOf pd_1 rfl) rfl 1 (by show 2 * 0 + _ ≤ _; exact Nat.le_of_eq rfl) (hb hby at_112) (by decide) (by decide) (by decide) (by decide) (fun r43 T43 h43 X43 q43 => ?_)
    obtain ⟨rfl, qh43⟩ := q43
    rw [qh43] at X43
    show G T43 (mkF m 115 #[.val (.int p0), .val (.int p1), .val (.int (7 : Int32)), .val (.ref al), .val (.ref cm7)] [(.int (f2 (7 : Int32) p1)), (.int (ftk p1 (0 : Int32) (0 : Int32)))])
    refine hs.go (fun _ kk_ => XS.icmpNo X43.here hx rfl (hb hby at_115) rfl (teq (own_i7 p1 : (ftk p1 (0 : Int32) (0 : Int32)) = (f2 (7 : Int32) p1))).2 kk_) ?_
    show G T43 (mkF m 118 #[.val (.int p0), .val (.int p1), .val (.int (7 : Int32)), .val (.ref al), .val (.ref cm7)] [])
    refine hs.go (fun _ kk_ => XS.iconst X43.here hx rfl (hb hby at_118) kk_) ?_
    show G T43 (mkF m 119 #[.val (.int p0), .val (.int p1), .val (.int (7 : Int32)), .val (.ref al), .val (.ref cm7)] [(.int (1 : Int32))])
    refine hs.go (fun _ kk_ => XS.goto X43.here hx rfl (pc0 := 119) (pc' := 123) rfl (hb hby at_119) (by decide) (by decide) kk_) ?_
    show G T43 (mkF m 123 #[.val (.int p0), .val (.int p1), .val (.int (7 : Int32)), .val (.ref al), .val (.ref cm7)] [(.int (1 : Int32))])
    exact rRetN fin X43 hx (by decide) (by decide) hret (by simp) (hb hby at_123) (z' := (1 : Int32)) (by decide) rfl
  · show G T27 (mkF m 99 #[.val (.int p0), .val (.int p1), .val (.int (8 : Int32)), .val (.ref al), .unset] [])
    refine hs.go (fun _ kk_ => XS.aloadN X27.here hx rfl (hb hby at_99) rfl rfl kk_) ?_
    show G T27 (mkF m 100 #[.val (.int p0), .val (.int p1), .val (.int (8 : Int32)), .val (.ref al), .unset] [(.ref al)])
    refine hs.go (fun _ kk_ => XS.iloadN X27.here hx rfl (hb hby at_100) rfl  kk_) ?_
    show G T27 (mkF m 101 #[.val (.int p0), .val (.int p1), .val (.int (8 : Int32)), .val (.ref al), .unset] [(.int (8 : Int32)), (.ref al)])
    refine rLdR hs X27 hx hZ V_al rfl ⟨by decide, by decide⟩ (v := (.ref cm8)) rfl rfl rfl (hb hby at_101) ?_
    show G T27 (mkF m 102 #[.val (.int p0), .val (.int p1), .val (.int (8 : Int32)), .val (.ref al), .unset] [(.ref cm8)])
    refine hs.go (fun _ kk_ => XS.astore X27.here hx rfl (hb hby at_102) rfl rfl (l' := #[.val (.int p0), .val (.int p1), .val (.int (8 : Int32)), .val (.ref al), .val (.ref cm8)]) rfl kk_) ?_
    show G T27 (mkF m 104 #[.val (.int p0), .val (.int p1), .val (.int (8 : Int32)), .val (.ref al), .val (.ref cm8)] [])
    refine hs.go (fun _ kk_ => XS.aload X27.here hx rfl (hb hby at_104) rfl rfl kk_) ?_
    show G T27 (mkF m 106 #[.val (.int p0), .val (.int p1), .val (.int (8 : Int32)), .val (.ref al), .val (.ref cm8)] [(.ref cm8)])
    refine hs.go (fun _ kk_ => XS.iloadN X27.here hx rfl (hb hby at_106) rfl  kk_) ?_
    show G T27 (mkF m 107 #[.val (.int p0), .val (.int p1), .val (.int (8 : Int32)), .val (.ref al), .val (.ref cm8)] [(.int p1), (.ref cm8)])
    refine rCallV hs X27 hx hZ (as' := [(.int p1)]) (rm1 l Z a0 hw [] cm8 p1 (0 : Int32) (0 : Int32) h27 n0 Z0 (Ff8.ext O.2) (Fm8.ext O.2)) (Ex8.ext O.2) hown (hw _ (List.mem_of_getElem? (i := 31) rfl)) (hw _ (List.mem_of_getElem? (i := 32) rfl)) (hw _ (List.mem_of_getElem? (i := 34) rfl)) (hw _ (List.mem_of_getElem? (i := 33) rfl)) (hw _ (List.mem_of_getElem? (i := 4) rfl)) (hw _ (List.mem_of_getElem? (i := 35) rfl)) hy_1 rfl (by rw [hml]; rfl) [] (lenOf pd_0 rfl) rfl 0 (by show 2 * 0 + _ ≤ _; exact Nat.le_of_eq rfl) (hb hby at_107) (by decide) (by decide) (by decide) (by decide) (fun r44 T44 h44 X44 q44 => ?_)
    obtain ⟨rfl, qh44⟩ := q44
    rw [qh44] at X44
    show G T44 (mkF m 110 #[.val (.int p0), .val (.int p1), .val (.int (8 : Int32)), .val (.ref al), .val (.ref cm8)] [(.int (ftk p1 (0 : Int32) (0 : Int32)))])
    refine hs.go (fun _ kk_ => XS.iloadN X44.here hx rfl (hb hby at_110) rfl  kk_) ?_
    show G T44 (mkF m 111 #[.val (.int p0), .val (.int p1), .val (.int (8 : Int32)), .val (.ref al), .val (.ref cm8)] [(.int (8 : Int32)), (.int (ftk p1 (0 : Int32) (0 : Int32)))])
    refine hs.go (fun _ kk_ => XS.iloadN X44.here hx rfl (hb hby at_111) rfl  kk_) ?_
    show G T44 (mkF m 112 #[.val (.int p0), .val (.int p1), .val (.int (8 : Int32)), .val (.ref al), .val (.ref cm8)] [(.int p1), (.int (8 : Int32)), (.int (ftk p1 (0 : Int32) (0 : Int32)))])
    refine rCallS hs X44 hx hZ (as' := [(.int (8 : Int32)), (.int p1)]) (rm2 l Z a0 hw [] (8 : Int32) p1 h27 n0 Z0) hown (hw _ (List.mem_of_getElem? (i := 40) rfl)) (hw _ (List.mem_of_getElem? (i := 41) rfl)) (hw _ (List.mem_of_getElem? (i := 42) rfl)) (hw _ (List.mem_of_getElem? (i := 43) rfl)) hy_2 rfl (by rw [hml]; rfl) [(.int (ftk p1 (0 : Int32) (0 : Int32)))] (lenOf pd_1 rfl) rfl 1 (by show 2 * 0 + _ ≤ _; exact Nat.le_of_eq rfl) (hb hby at_112) (by decide) (by decide) (by decide) (by decide) (fun r45 T45 h45 X45 q45 => ?_)
    obtain ⟨rfl, qh45⟩ := q45
    rw [qh45] at X45
    show G T45 (mkF m 115 #[.val (.int p0), .val (.int p1), .val (.int (8 : Int32)), .val (.ref al), .val (.ref cm8)] [(.int (f2 (8 : Int32) p1)), (.int (ftk p1 (0 : Int32) (0 : Int32)))])
    refine hs.go (fun _ kk_ => XS.icmpNo X45.here hx rfl (hb hby at_115) rfl (teq (own_i8 p1 : (ftk p1 (0 : Int32) (0 : Int32)) = (f2 (8 : Int32) p1))).2 kk_) ?_
    show G T45 (mkF m 118 #[.val (.int p0), .val (.int p1), .val (.int (8 : Int32)), .val (.ref al), .val (.ref cm8)] [])
    refine hs.go (fun _ kk_ => XS.iconst X45.here hx rfl (hb hby at_118) kk_) ?_
    show G T45 (mkF m 119 #[.val (.int p0), .val (.int p1), .val (.int (8 : Int32)), .val (.ref al), .val (.ref cm8)] [(.int (1 : Int32))])
    refine hs.go (fun _ kk_ => XS.goto X45.here hx rfl (pc0 := 119) (pc' := 123) rfl (hb hby at_119) (by decide) (by decide) kk_) ?_
    show G T45 (mkF m 123 #[.val (.int p0), .val (.int p1), .val (.int (8 : Int32)), .val (.ref al), .val (.ref cm8)] [(.int (1 : Int32))])
    exact rRetN fin X45 hx (by decide) (by decide) hret (by simp) (hb hby at_123) (z' := (1 : Int32)) (by decide) rfl
  · show G T27 (mkF m 99 #[.val (.int p0), .val (.int p1), .val (.int (9 : Int32)), .val (.ref al), .unset] [])
    refine hs.go (fun _ kk_ => XS.aloadN X27.here hx rfl (hb hby at_99) rfl rfl kk_) ?_
    show G T27 (mkF m 100 #[.val (.int p0), .val (.int p1), .val (.int (9 : Int32)), .val (.ref al), .unset] [(.ref al)])
    refine hs.go (fun _ kk_ => XS.iloadN X27.here hx rfl (hb hby at_100) rfl  kk_) ?_
    show G T27 (mkF m 101 #[.val (.int p0), .val (.int p1), .val (.int (9 : Int32)), .val (.ref al), .unset] [(.int (9 : Int32)), (.ref al)])
    refine rLdR hs X27 hx hZ V_al rfl ⟨by decide, by decide⟩ (v := (.ref cm9)) rfl rfl rfl (hb hby at_101) ?_
    show G T27 (mkF m 102 #[.val (.int p0), .val (.int p1), .val (.int (9 : Int32)), .val (.ref al), .unset] [(.ref cm9)])
    refine hs.go (fun _ kk_ => XS.astore X27.here hx rfl (hb hby at_102) rfl rfl (l' := #[.val (.int p0), .val (.int p1), .val (.int (9 : Int32)), .val (.ref al), .val (.ref cm9)]) rfl kk_) ?_
    show G T27 (mkF m 104 #[.val (.int p0), .val (.int p1), .val (.int (9 : Int32)), .val (.ref al), .val (.ref cm9)] [])
    refine hs.go (fun _ kk_ => XS.aload X27.here hx rfl (hb hby at_104) rfl rfl kk_) ?_
    show G T27 (mkF m 106 #[.val (.int p0), .val (.int p1), .val (.int (9 : Int32)), .val (.ref al), .val (.ref cm9)] [(.ref cm9)])
    refine hs.go (fun _ kk_ => XS.iloadN X27.here hx rfl (hb hby at_106) rfl  kk_) ?_
    show G T27 (mkF m 107 #[.val (.int p0), .val (.int p1), .val (.int (9 : Int32)), .val (.ref al), .val (.ref cm9)] [(.int p1), (.ref cm9)])
    refine rCallV hs X27 hx hZ (as' := [(.int p1)]) (rm1 l Z a0 hw [] cm9 p1 (0 : Int32) (0 : Int32) h27 n0 Z0 (Ff9.ext O.2) (Fm9.ext O.2)) (Ex9.ext O.2) hown (hw _ (List.mem_of_getElem? (i := 31) rfl)) (hw _ (List.mem_of_getElem? (i := 32) rfl)) (hw _ (List.mem_of_getElem? (i := 34) rfl)) (hw _ (List.mem_of_getElem? (i := 33) rfl)) (hw _ (List.mem_of_getElem? (i := 4) rfl)) (hw _ (List.mem_of_getElem? (i := 35) rfl)) hy_1 rfl (by rw [hml]; rfl) [] (lenOf pd_0 rfl) rfl 0 (by show 2 * 0 + _ ≤ _; exact Nat.le_of_eq rfl) (hb hby at_107) (by decide) (by decide) (by decide) (by decide) (fun r46 T46 h46 X46 q46 => ?_)
    obtain ⟨rfl, qh46⟩ := q46
    rw [qh46] at X46
    show G T46 (mkF m 110 #[.val (.int p0), .val (.int p1), .val (.int (9 : Int32)), .val (.ref al), .val (.ref cm9)] [(.int (ftk p1 (0 : Int32) (0 : Int32)))])
    refine hs.go (fun _ kk_ => XS.iloadN X46.here hx rfl (hb hby at_110) rfl  kk_) ?_
    show G T46 (mkF m 111 #[.val (.int p0), .val (.int p1), .val (.int (9 : Int32)), .val (.ref al), .val (.ref cm9)] [(.int (9 : Int32)), (.int (ftk p1 (0 : Int32) (0 : Int32)))])
    refine hs.go (fun _ kk_ => XS.iloadN X46.here hx rfl (hb hby at_111) rfl  kk_) ?_
    show G T46 (mkF m 112 #[.val (.int p0), .val (.int p1), .val (.int (9 : Int32)), .val (.ref al), .val (.ref cm9)] [(.int p1), (.int (9 : Int32)), (.int (ftk p1 (0 : Int32) (0 : Int32)))])
    refine rCallS hs X46 hx hZ (as' := [(.int (9 : Int32)), (.int p1)]) (rm2 l Z a0 hw [] (9 : Int32) p1 h27 n0 Z0) hown (hw _ (List.mem_of_getElem? (i := 40) rfl)) (hw _ (List.mem_of_getElem? (i := 41) rfl)) (hw _ (List.mem_of_getElem? (i := 42) rfl)) (hw _ (List.mem_of_getElem? (i := 43) rfl)) hy_2 rfl (by rw [hml]; rfl) [(.int (ftk p1 (0 : Int32) (0 : Int32)))] (lenOf pd_1 rfl) rfl 1 (by show 2 * 0 + _ ≤ _; exact Nat.le_of_eq rfl) (hb hby at_112) (by decide) (by decide) (by decide) (by decide) (fun r47 T47 h47 X47 q47 => ?_)
    obtain ⟨rfl, qh47⟩ := q47
    rw [qh47] at X47
    show G T47 (mkF m 115 #[.val (.int p0), .val (.int p1), .val (.int (9 : Int32)), .val (.ref al), .val (.ref cm9)] [(.int (f2 (9 : Int32) p1)), (.int (ftk p1 (0 : Int32) (0 : Int32)))])
    refine hs.go (fun _ kk_ => XS.icmpNo X47.here hx rfl (hb hby at_115) rfl (teq (own_i9 p1 : (ftk p1 (0 : Int32) (0 : Int32)) = (f2 (9 : Int32) p1))).2 kk_) ?_
    show G T47 (mkF m 118 #[.val (.int p0), .val (.int p1), .val (.int (9 : Int32)), .val (.ref al), .val (.ref cm9)] [])
    refine hs.go (fun _ kk_ => XS.iconst X47.here hx rfl (hb hby at_118) kk_) ?_
    show G T47 (mkF m 119 #[.val (.int p0), .val (.int p1), .val (.int (9 : Int32)), .val (.ref al), .val (.ref cm9)] [(.int (1 : Int32))])
    refine hs.go (fun _ kk_ => XS.goto X47.here hx rfl (pc0 := 119) (pc' := 123) rfl (hb hby at_119) (by decide) (by decide) kk_) ?_
    show G T47 (mkF m 123 #[.val (.int p0), .val (.int p1), .val (.int (9 : Int32)), .val (.ref al), .val (.ref cm9)] [(.int (1 : Int32))])
    exact rRetN fin X47 hx (by decide) (by decide) hret (by simp) (hb hby at_123) (z' := (1 : Int32)) (by decide) rfl
  · show G T27 (mkF m 99 #[.val (.int p0), .val (.int p1), .val (.int (10 : Int32)), .val (.ref al), .unset] [])
    refine hs.go (fun _ kk_ => XS.aloadN X27.here hx rfl (hb hby at_99) rfl rfl kk_) ?_
    show G T27 (mkF m 100 #[.val (.int p0), .val (.int p1), .val (.int (10 : Int32)), .val (.ref al), .unset] [(.ref al)])
    refine hs.go (fun _ kk_ => XS.iloadN X27.here hx rfl (hb hby at_100) rfl  kk_) ?_
    show G T27 (mkF m 101 #[.val (.int p0), .val (.int p1), .val (.int (10 : Int32)), .val (.ref al), .unset] [(.int (10 : Int32)), (.ref al)])
    refine rLdR hs X27 hx hZ V_al rfl ⟨by decide, by decide⟩ (v := (.ref cm10)) rfl rfl rfl (hb hby at_101) ?_
    show G T27 (mkF m 102 #[.val (.int p0), .val (.int p1), .val (.int (10 : Int32)), .val (.ref al), .unset] [(.ref cm10)])
    refine hs.go (fun _ kk_ => XS.astore X27.here hx rfl (hb hby at_102) rfl rfl (l' := #[.val (.int p0), .val (.int p1), .val (.int (10 : Int32)), .val (.ref al), .val (.ref cm10)]) rfl kk_) ?_
    show G T27 (mkF m 104 #[.val (.int p0), .val (.int p1), .val (.int (10 : Int32)), .val (.ref al), .val (.ref cm10)] [])
    refine hs.go (fun _ kk_ => XS.aload X27.here hx rfl (hb hby at_104) rfl rfl kk_) ?_
    show G T27 (mkF m 106 #[.val (.int p0), .val (.int p1), .val (.int (10 : Int32)), .val (.ref al), .val (.ref cm10)] [(.ref cm10)])
    refine hs.go (fun _ kk_ => XS.iloadN X27.here hx rfl (hb hby at_106) rfl  kk_) ?_
    show G T27 (mkF m 107 #[.val (.int p0), .val (.int p1), .val (.int (10 : Int32)), .val (.ref al), .val (.ref cm10)] [(.int p1), (.ref cm10)])
    refine rCallV hs X27 hx hZ (as' := [(.int p1)]) (rm1 l Z a0 hw [] cm10 p1 (0 : Int32) (0 : Int32) h27 n0 Z0 (Ff10.ext O.2) (Fm10.ext O.2)) (Ex10.ext O.2) hown (hw _ (List.mem_of_getElem? (i := 31) rfl)) (hw _ (List.mem_of_getElem? (i := 32) rfl)) (hw _ (List.mem_of_getElem? (i := 34) rfl)) (hw _ (List.mem_of_getElem? (i := 33) rfl)) (hw _ (List.mem_of_getElem? (i := 4) rfl)) (hw _ (List.mem_of_getElem? (i := 35) rfl)) hy_1 rfl (by rw [hml]; rfl) [] (lenOf pd_0 rfl) rfl 0 (by show 2 * 0 + _ ≤ _; exact Nat.le_of_eq rfl) (hb hby at_107) (by decide) (by decide) (by decide) (by decide) (fun r48 T48 h48 X48 q48 => ?_)
    obtain ⟨rfl, qh48⟩ := q48
    rw [qh48] at X48
    show G T48 (mkF m 110 #[.val (.int p0), .val (.int p1), .val (.int (10 : Int32)), .val (.ref al), .val (.ref cm10)] [(.int (ftk p1 (0 : Int32) (0 : Int32)))])
    refine hs.go (fun _ kk_ => XS.iloadN X48.here hx rfl (hb hby at_110) rfl  kk_) ?_
    show G T48 (mkF m 111 #[.val (.int p0), .val (.int p1), .val (.int (10 : Int32)), .val (.ref al), .val (.ref cm10)] [(.int (10 : Int32)), (.int (ftk p1 (0 : Int32) (0 : Int32)))])
    refine hs.go (fun _ kk_ => XS.iloadN X48.here hx rfl (hb hby at_111) rfl  kk_) ?_
    show G T48 (mkF m 112 #[.val (.int p0), .val (.int p1), .val (.int (10 : Int32)), .val (.ref al), .val (.ref cm10)] [(.int p1), (.int (10 : Int32)), (.int (ftk p1 (0 : Int32) (0 : Int32)))])
    refine rCallS hs X48 hx hZ (as' := [(.int (10 : Int32)), (.int p1)]) (rm2 l Z a0 hw [] (10 : Int32) p1 h27 n0 Z0) hown (hw _ (List.mem_of_getElem? (i := 40) rfl)) (hw _ (List.mem_of_getElem? (i := 41) rfl)) (hw _ (List.mem_of_getElem? (i := 42) rfl)) (hw _ (List.mem_of_getElem? (i := 43) rfl)) hy_2 rfl (by rw [hml]; rfl) [(.int (ftk p1 (0 : Int32) (0 : Int32)))] (lenOf pd_1 rfl) rfl 1 (by show 2 * 0 + _ ≤ _; exact Nat.le_of_eq rfl) (hb hby at_112) (by decide) (by decide) (by decide) (by decide) (fun r49 T49 h49 X49 q49 => ?_)
    obtain ⟨rfl, qh49⟩ := q49
    rw [qh49] at X49
    show G T49 (mkF m 115 #[.val (.int p0), .val (.int p1), .val (.int (10 : Int32)), .val (.ref al), .val (.ref cm10)] [(.int (f2 (10 : Int32) p1)), (.int (ftk p1 (0 : Int32) (0 : Int32)))])
    refine hs.go (fun _ kk_ => XS.icmpNo X49.here hx rfl (hb hby at_115) rfl (teq (own_i10 p1 : (ftk p1 (0 : Int32) (0 : Int32)) = (f2 (10 : Int32) p1))).2 kk_) ?_
    show G T49 (mkF m 118 #[.val (.int p0), .val (.int p1), .val (.int (10 : Int32)), .val (.ref al), .val (.ref cm10)] [])
    refine hs.go (fun _ kk_ => XS.iconst X49.here hx rfl (hb hby at_118) kk_) ?_
    show G T49 (mkF m 119 #[.val (.int p0), .val (.int p1), .val (.int (10 : Int32)), .val (.ref al), .val (.ref cm10)] [(.int (1 : Int32))])
    refine hs.go (fun _ kk_ => XS.goto X49.here hx rfl (pc0 := 119) (pc' := 123) rfl (hb hby at_119) (by decide) (by decide) kk_) ?_
    show G T49 (mkF m 123 #[.val (.int p0), .val (.int p1), .val (.int (10 : Int32)), .val (.ref al), .val (.ref cm10)] [(.int (1 : Int32))])
    exact rRetN fin X49 hx (by decide) (by decide) hret (by simp) (hb hby at_123) (z' := (1 : Int32)) (by decide) rfl
  · show G T27 (mkF m 99 #[.val (.int p0), .val (.int p1), .val (.int (11 : Int32)), .val (.ref al), .unset] [])
    refine hs.go (fun _ kk_ => XS.aloadN X27.here hx rfl (hb hby at_99) rfl rfl kk_) ?_
    show G T27 (mkF m 100 #[.val (.int p0), .val (.int p1), .val (.int (11 : Int32)), .val (.ref al), .unset] [(.ref al)])
    refine hs.go (fun _ kk_ => XS.iloadN X27.here hx rfl (hb hby at_100) rfl  kk_) ?_
    show G T27 (mkF m 101 #[.val (.int p0), .val (.int p1), .val (.int (11 : Int32)), .val (.ref al), .unset] [(.int (11 : Int32)), (.ref al)])
    refine rLdR hs X27 hx hZ V_al rfl ⟨by decide, by decide⟩ (v := (.ref cm11)) rfl rfl rfl (hb hby at_101) ?_
    show G T27 (mkF m 102 #[.val (.int p0), .val (.int p1), .val (.int (11 : Int32)), .val (.ref al), .unset] [(.ref cm11)])
    refine hs.go (fun _ kk_ => XS.astore X27.here hx rfl (hb hby at_102) rfl rfl (l' := #[.val (.int p0), .val (.int p1), .val (.int (11 : Int32)), .val (.ref al), .val (.ref cm11)]) rfl kk_) ?_
    show G T27 (mkF m 104 #[.val (.int p0), .val (.int p1), .val (.int (11 : Int32)), .val (.ref al), .val (.ref cm11)] [])
    refine hs.go (fun _ kk_ => XS.aload X27.here hx rfl (hb hby at_104) rfl rfl kk_) ?_
    show G T27 (mkF m 106 #[.val (.int p0), .val (.int p1), .val (.int (11 : Int32)), .val (.ref al), .val (.ref cm11)] [(.ref cm11)])
    refine hs.go (fun _ kk_ => XS.iloadN X27.here hx rfl (hb hby at_106) rfl  kk_) ?_
    show G T27 (mkF m 107 #[.val (.int p0), .val (.int p1), .val (.int (11 : Int32)), .val (.ref al), .val (.ref cm11)] [(.int p1), (.ref cm11)])
    refine rCallV hs X27 hx hZ (as' := [(.int p1)]) (rm1 l Z a0 hw [] cm11 p1 (0 : Int32) (0 : Int32) h27 n0 Z0 (Ff11.ext O.2) (Fm11.ext O.2)) (Ex11.ext O.2) hown (hw _ (List.mem_of_getElem? (i := 31) rfl)) (hw _ (List.mem_of_getElem? (i := 32) rfl)) (hw _ (List.mem_of_getElem? (i := 34) rfl)) (hw _ (List.mem_of_getElem? (i := 33) rfl)) (hw _ (List.mem_of_getElem? (i := 4) rfl)) (hw _ (List.mem_of_getElem? (i := 35) rfl)) hy_1 rfl (by rw [hml]; rfl) [] (lenOf pd_0 rfl) rfl 0 (by show 2 * 0 + _ ≤ _; exact Nat.le_of_eq rfl) (hb hby at_107) (by decide) (by decide) (by decide) (by decide) (fun r50 T50 h50 X50 q50 => ?_)
    obtain ⟨rfl, qh50⟩ := q50
    rw [qh50] at X50
    show G T50 (mkF m 110 #[.val (.int p0), .val (.int p1), .val (.int (11 : Int32)), .val (.ref al), .val (.ref cm11)] [(.int (ftk p1 (0 : Int32) (0 : Int32)))])
    refine hs.go (fun _ kk_ => XS.iloadN X50.here hx rfl (hb hby at_110) rfl  kk_) ?_
    show G T50 (mkF m 111 #[.val (.int p0), .val (.int p1), .val (.int (11 : Int32)), .val (.ref al), .val (.ref cm11)] [(.int (11 : Int32)), (.int (ftk p1 (0 : Int32) (0 : Int32)))])
    refine hs.go (fun _ kk_ => XS.iloadN X50.here hx rfl (hb hby at_111) rfl  kk_) ?_
    show G T50 (mkF m 112 #[.val (.int p0), .val (.int p1), .val (.int (11 : Int32)), .val (.ref al), .val (.ref cm11)] [(.int p1), (.int (11 : Int32)), (.int (ftk p1 (0 : Int32) (0 : Int32)))])
    refine rCallS hs X50 hx hZ (as' := [(.int (11 : Int32)), (.int p1)]) (rm2 l Z a0 hw [] (11 : Int32) p1 h27 n0 Z0) hown (hw _ (List.mem_of_getElem? (i := 40) rfl)) (hw _ (List.mem_of_getElem? (i := 41) rfl)) (hw _ (List.mem_of_getElem? (i := 42) rfl)) (hw _ (List.mem_of_getElem? (i := 43) rfl)) hy_2 rfl (by rw [hml]; rfl) [(.int (ftk p1 (0 : Int32) (0 : Int32)))] (lenOf pd_1 rfl) rfl 1 (by show 2 * 0 + _ ≤ _; exact Nat.le_of_eq rfl) (hb hby at_112) (by decide) (by decide) (by decide) (by decide) (fun r51 T51 h51 X51 q51 => ?_)
    obtain ⟨rfl, qh51⟩ := q51
    rw [qh51] at X51
    show G T51 (mkF m 115 #[.val (.int p0), .val (.int p1), .val (.int (11 : Int32)), .val (.ref al), .val (.ref cm11)] [(.int (f2 (11 : Int32) p1)), (.int (ftk p1 (0 : Int32) (0 : Int32)))])
    refine hs.go (fun _ kk_ => XS.icmpNo X51.here hx rfl (hb hby at_115) rfl (teq (own_i11 p1 : (ftk p1 (0 : Int32) (0 : Int32)) = (f2 (11 : Int32) p1))).2 kk_) ?_
    show G T51 (mkF m 118 #[.val (.int p0), .val (.int p1), .val (.int (11 : Int32)), .val (.ref al), .val (.ref cm11)] [])
    refine hs.go (fun _ kk_ => XS.iconst X51.here hx rfl (hb hby at_118) kk_) ?_
    show G T51 (mkF m 119 #[.val (.int p0), .val (.int p1), .val (.int (11 : Int32)), .val (.ref al), .val (.ref cm11)] [(.int (1 : Int32))])
    refine hs.go (fun _ kk_ => XS.goto X51.here hx rfl (pc0 := 119) (pc' := 123) rfl (hb hby at_119) (by decide) (by decide) kk_) ?_
    show G T51 (mkF m 123 #[.val (.int p0), .val (.int p1), .val (.int (11 : Int32)), .val (.ref al), .val (.ref cm11)] [(.int (1 : Int32))])
    exact rRetN fin X51 hx (by decide) (by decide) hret (by simp) (hb hby at_123) (z' := (1 : Int32)) (by decide) rfl
  · show G T27 (mkF m 99 #[.val (.int p0), .val (.int p1), .val (.int (12 : Int32)), .val (.ref al), .unset] [])
    refine hs.go (fun _ kk_ => XS.aloadN X27.here hx rfl (hb hby at_99) rfl rfl kk_) ?_
    show G T27 (mkF m 100 #[.val (.int p0), .val (.int p1), .val (.int (12 : Int32)), .val (.ref al), .unset] [(.ref al)])
    refine hs.go (fun _ kk_ => XS.iloadN X27.here hx rfl (hb hby at_100) rfl  kk_) ?_
    show G T27 (mkF m 101 #[.val (.int p0), .val (.int p1), .val (.int (12 : Int32)), .val (.ref al), .unset] [(.int (12 : Int32)), (.ref al)])
    refine rLdR hs X27 hx hZ V_al rfl ⟨by decide, by decide⟩ (v := (.ref cm12)) rfl rfl rfl (hb hby at_101) ?_
    show G T27 (mkF m 102 #[.val (.int p0), .val (.int p1), .val (.int (12 : Int32)), .val (.ref al), .unset] [(.ref cm12)])
    refine hs.go (fun _ kk_ => XS.astore X27.here hx rfl (hb hby at_102) rfl rfl (l' := #[.val (.int p0), .val (.int p1), .val (.int (12 : Int32)), .val (.ref al), .val (.ref cm12)]) rfl kk_) ?_
    show G T27 (mkF m 104 #[.val (.int p0), .val (.int p1), .val (.int (12 : Int32)), .val (.ref al), .val (.ref cm12)] [])
    refine hs.go (fun _ kk_ => XS.aload X27.here hx rfl (hb hby at_104) rfl rfl kk_) ?_
    show G T27 (mkF m 106 #[.val (.int p0), .val (.int p1), .val (.int (12 : Int32)), .val (.ref al), .val (.ref cm12)] [(.ref cm12)])
    refine hs.go (fun _ kk_ => XS.iloadN X27.here hx rfl (hb hby at_106) rfl  kk_) ?_
    show G T27 (mkF m 107 #[.val (.int p0), .val (.int p1), .val (.int (12 : Int32)), .val (.ref al), .val (.ref cm12)] [(.int p1), (.ref cm12)])
    refine rCallV hs X27 hx hZ (as' := [(.int p1)]) (rm1 l Z a0 hw [] cm12 p1 (0 : Int32) (0 : Int32) h27 n0 Z0 (Ff12.ext O.2) (Fm12.ext O.2)) (Ex12.ext O.2) hown (hw _ (List.mem_of_getElem? (i := 31) rfl)) (hw _ (List.mem_of_getElem? (i := 32) rfl)) (hw _ (List.mem_of_getElem? (i := 34) rfl)) (hw _ (List.mem_of_getElem? (i := 33) rfl)) (hw _ (List.mem_of_getElem? (i := 4) rfl)) (hw _ (List.mem_of_getElem? (i := 35) rfl)) hy_1 rfl (by rw [hml]; rfl) [] (lenOf pd_0 rfl) rfl 0 (by show 2 * 0 + _ ≤ _; exact Nat.le_of_eq rfl) (hb hby at_107) (by decide) (by decide) (by decide) (by decide) (fun r52 T52 h52 X52 q52 => ?_)
    obtain ⟨rfl, qh52⟩ := q52
    rw [qh52] at X52
    show G T52 (mkF m 110 #[.val (.int p0), .val (.int p1), .val (.int (12 : Int32)), .val (.ref al), .val (.ref cm12)] [(.int (ftk p1 (0 : Int32) (0 : Int32)))])
    refine hs.go (fun _ kk_ => XS.iloadN X52.here hx rfl (hb hby at_110) rfl  kk_) ?_
    show G T52 (mkF m 111 #[.val (.int p0), .val (.int p1), .val (.int (12 : Int32)), .val (.ref al), .val (.ref cm12)] [(.int (12 : Int32)), (.int (ftk p1 (0 : Int32) (0 : Int32)))])
    refine hs.go (fun _ kk_ => XS.iloadN X52.here hx rfl (hb hby at_111) rfl  kk_) ?_
    show G T52 (mkF m 112 #[.val (.int p0), .val (.int p1), .val (.int (12 : Int32)), .val (.ref al), .val (.ref cm12)] [(.int p1), (.int (12 : Int32)), (.int (ftk p1 (0 : Int32) (0 : Int32)))])
    refine rCallS hs X52 hx hZ (as' := [(.int (12 : Int32)), (.int p1)]) (rm2 l Z a0 hw [] (12 : Int32) p1 h27 n0 Z0) hown (hw _ (List.mem_of_getElem? (i := 40) rfl)) (hw _ (List.mem_of_getElem? (i := 41) rfl)) (hw _ (List.mem_of_getElem? (i := 42) rfl)) (hw _ (List.mem_of_getElem? (i := 43) rfl)) hy_2 rfl (by rw [hml]; rfl) [(.int (ftk p1 (0 : Int32) (0 : Int32)))] (lenOf pd_1 rfl) rfl 1 (by show 2 * 0 + _ ≤ _; exact Nat.le_of_eq rfl) (hb hby at_112) (by decide) (by decide) (by decide) (by decide) (fun r53 T53 h53 X53 q53 => ?_)
    obtain ⟨rfl, qh53⟩ := q53
    rw [qh53] at X53
    show G T53 (mkF m 115 #[.val (.int p0), .val (.int p1), .val (.int (12 : Int32)), .val (.ref al), .val (.ref cm12)] [(.int (f2 (12 : Int32) p1)), (.int (ftk p1 (0 : Int32) (0 : Int32)))])
    refine hs.go (fun _ kk_ => XS.icmpNo X53.here hx rfl (hb hby at_115) rfl (teq (own_i12 p1 : (ftk p1 (0 : Int32) (0 : Int32)) = (f2 (12 : Int32) p1))).2 kk_) ?_
    show G T53 (mkF m 118 #[.val (.int p0), .val (.int p1), .val (.int (12 : Int32)), .val (.ref al), .val (.ref cm12)] [])
    refine hs.go (fun _ kk_ => XS.iconst X53.here hx rfl (hb hby at_118) kk_) ?_
    show G T53 (mkF m 119 #[.val (.int p0), .val (.int p1), .val (.int (12 : Int32)), .val (.ref al), .val (.ref cm12)] [(.int (1 : Int32))])
    refine hs.go (fun _ kk_ => XS.goto X53.here hx rfl (pc0 := 119) (pc' := 123) rfl (hb hby at_119) (by decide) (by decide) kk_) ?_
    show G T53 (mkF m 123 #[.val (.int p0), .val (.int p1), .val (.int (12 : Int32)), .val (.ref al), .val (.ref cm12)] [(.int (1 : Int32))])
    exact rRetN fin X53 hx (by decide) (by decide) hret (by simp) (hb hby at_123) (z' := (1 : Int32)) (by decide) rfl
set_option maxRecDepth 65536 in
set_option maxHeartbeats 40000000 in
theorem comes_1 {Post : Tables → Env → Array Value → State → Outcome → State → Prop} (hpost : ∀ tb e args s v u, (limb_1_1.after args s (.returned v) u = true ∧ limb_1_2.after args s (.returned v) u = true ∧ True) → FrameEnd s (.returned v) u (Jvm.fieldLocs frame_1_writes args s ++ Jvm.arrayLocs frame_1_arrays args s ++ Jvm.staticLocs frame_1_statics s) 16 128 → Post tb e args s (.returned v) u) :
    ArmFor flags0 classFile x code maxLocals ret World_1 tables_1 room_1 Calls_1 rest_1 Pre_1 Post := by
  intro l hfl _ _ p e ha hc hk s m args below hf hA hF happ hP
  obtain ⟨hcalls, hrest, hpre⟩ := hP
  obtain ⟨-, -, -, hnamed, -, -, -, hat⟩ := (Spec.applies_iff hf).mp happ
  obtain ⟨hg, hn⟩ := and_e (Cond.before_iff.mp (show (Jvm.Cond.and given_1 narrow_1).before args s = true from hpre))
  obtain ⟨hcnt, hg0⟩ := and_e hg
  obtain ⟨t0, hg1⟩ := and_e hg0
  have t1 := hg1
  obtain ⟨w0, w1, rfl⟩ : ∃ w0 w1 : Value, args = #[w0, w1] := by
    have hs : args.size = 2 := by simpa [Cond.value, given_1] using hcnt
    obtain ⟨L⟩ := args
    match L, hs with
    | [w0, w1], _ => exact ⟨w0, w1, rfl⟩
  have hw := fun d (hd : d ∈ tables_1) => atoms_spec (ws := Jvm.Cond.code x code maxLocals ret :: tables_1) hat d (List.mem_cons_of_mem _ hd)
  have hfit : Fit s := fun {y c} hc i hi => by
    obtain ⟨ha, rfl⟩ := Array.getElem?_eq_some_iff.mp hc
    have q := List.all_eq_true.mp ((Array.all_eq_true_iff_forall_mem.mp hF) _ (Array.getElem_mem ha)) i (List.mem_range.mpr hi)
    simpa [Array.getElem?_eq_getElem hi] using q
  obtain ⟨i0, ei0⟩ := is_v t0
  obtain rfl : w0 = (.int i0) := Option.some.inj ei0
  obtain ⟨i1, ei1⟩ := is_v t1
  obtain rfl : w1 = (.int i1) := Option.some.inj ei1
  obtain ⟨u0, hn1⟩ := and_e hn
  obtain ⟨u1, hn2⟩ := and_e hn1
  obtain ⟨u2, hn3⟩ := and_e hn2
  obtain ⟨u3, hn4⟩ := and_e hn3
  obtain ⟨u4, hn5⟩ := and_e hn4
  obtain ⟨u5, hn6⟩ := and_e hn5
  obtain ⟨u6, hn7⟩ := and_e hn6
  obtain ⟨u7, hn8⟩ := and_e hn7
  obtain ⟨u8, hn9⟩ := and_e hn8
  obtain ⟨u9, hn10⟩ := and_e hn9
  obtain ⟨u10, hn11⟩ := and_e hn10
  obtain ⟨u11, hn12⟩ := and_e hn11
  obtain ⟨u12, hn13⟩ := and_e hn12
  obtain ⟨u13, hn14⟩ := and_e hn13
  obtain ⟨u14, hn15⟩ := and_e hn14
  obtain ⟨u15, hn16⟩ := and_e hn15
  obtain ⟨u16, hn17⟩ := and_e hn16
  obtain ⟨u17, hn18⟩ := and_e hn17
  obtain ⟨u18, hn19⟩ := and_e hn18
  obtain ⟨u19, hn20⟩ := and_e hn19
  obtain ⟨u20, hn21⟩ := and_e hn20
  obtain ⟨u21, hn22⟩ := and_e hn21
  obtain ⟨u22, hn23⟩ := and_e hn22
  obtain ⟨u23, hn24⟩ := and_e hn23
  obtain ⟨u24, hn25⟩ := and_e hn24
  obtain ⟨u25, hn26⟩ := and_e hn25
  obtain ⟨u26, hn27⟩ := and_e hn26
  obtain ⟨u27, hn28⟩ := and_e hn27
  obtain ⟨u28, hn29⟩ := and_e hn28
  obtain ⟨u29, hn30⟩ := and_e hn29
  obtain ⟨u30, hn31⟩ := and_e hn30
  obtain ⟨u31, hn32⟩ := and_e hn31
  obtain ⟨u32, hn33⟩ := and_e hn32
  obtain ⟨u33, hn34⟩ := and_e hn33
  obtain ⟨u34, hn35⟩ := and_e hn34
  obtain ⟨u35, hn36⟩ := and_e hn35
  obtain ⟨u36, hn37⟩ := and_e hn36
  obtain ⟨u37, hn38⟩ := and_e hn37
  have u38 := hn38
  obtain ⟨cm0, ec0⟩ := exa_v u0
  have S0 := Sta.start ec0 (Or.inr ⟨(hw _ (List.mem_of_getElem? (i := 4) rfl)), (hw _ (List.mem_of_getElem? (i := 5) rfl))⟩)
  have Ex0 := Exa.start ec0 u0
  have Ff0 := Fld.start ((fld_at ec0).symm.trans (eqv_i (Term.int_eval (0 : Int32)) u13))
  have Fm0 := Fld.start ((fld_at ec0).symm.trans (eqv_i (Term.int_eval (0 : Int32)) u14))
  obtain ⟨cm1, ec1⟩ := exa_v u1
  have S1 := Sta.start ec1 (Or.inr ⟨(hw _ (List.mem_of_getElem? (i := 4) rfl)), (hw _ (List.mem_of_getElem? (i := 8) rfl))⟩)
  have Ex1 := Exa.start ec1 u1
  have Ff1 := Fld.start ((fld_at ec1).symm.trans (eqv_i (Term.int_eval (0 : Int32)) u15))
  have Fm1 := Fld.start ((fld_at ec1).symm.trans (eqv_i (Term.int_eval (2147483647 : Int32)) u16))
  obtain ⟨cm2, ec2⟩ := exa_v u2
  have S2 := Sta.start ec2 (Or.inr ⟨(hw _ (List.mem_of_getElem? (i := 4) rfl)), (hw _ (List.mem_of_getElem? (i := 10) rfl))⟩)
  have Ex2 := Exa.start ec2 u2
  have Ff2 := Fld.start ((fld_at ec2).symm.trans (eqv_i (Term.int_eval (1 : Int32)) u28))
  have Fm2 := Fld.start ((fld_at ec2).symm.trans (eqv_i (Term.int_eval (1 : Int32)) u29))
  obtain ⟨cm3, ec3⟩ := exa_v u3
  have S3 := Sta.start ec3 (Or.inr ⟨(hw _ (List.mem_of_getElem? (i := 4) rfl)), (hw _ (List.mem_of_getElem? (i := 12) rfl))⟩)
  have Ex3 := Exa.start ec3 u3
  have Ff3 := Fld.start ((fld_at ec3).symm.trans (eqv_i (Term.int_eval (2 : Int32)) u19))
  have Fm3 := Fld.start ((fld_at ec3).symm.trans (eqv_i (Term.int_eval (2 : Int32)) u36))
  obtain ⟨cm4, ec4⟩ := exa_v u4
  have S4 := Sta.start ec4 (Or.inr ⟨(hw _ (List.mem_of_getElem? (i := 4) rfl)), (hw _ (List.mem_of_getElem? (i := 14) rfl))⟩)
  have Ex4 := Exa.start ec4 u4
  have Ff4 := Fld.start ((fld_at ec4).symm.trans (eqv_i (Term.int_eval (1 : Int32)) u17))
  have Fm4 := Fld.start ((fld_at ec4).symm.trans (eqv_i (Term.int_eval (2147483647 : Int32)) u18))
  obtain ⟨cm5, ec5⟩ := exa_v u5
  have S5 := Sta.start ec5 (Or.inr ⟨(hw _ (List.mem_of_getElem? (i := 4) rfl)), (hw _ (List.mem_of_getElem? (i := 16) rfl))⟩)
  have Ex5 := Exa.start ec5 u5
  have Ff5 := Fld.start ((fld_at ec5).symm.trans (eqv_i (Term.int_eval (2 : Int32)) u21))
  have Fm5 := Fld.start ((fld_at ec5).symm.trans (eqv_i (Term.int_eval (2 : Int32)) u22))
  obtain ⟨cm6, ec6⟩ := exa_v u6
  have S6 := Sta.start ec6 (Or.inr ⟨(hw _ (List.mem_of_getElem? (i := 4) rfl)), (hw _ (List.mem_of_getElem? (i := 18) rfl))⟩)
  have Ex6 := Exa.start ec6 u6
  have Ff6 := Fld.start ((fld_at ec6).symm.trans (eqv_i (Term.int_eval (2 : Int32)) u23))
  have Fm6 := Fld.start ((fld_at ec6).symm.trans (eqv_i (Term.int_eval (2 : Int32)) u33))
  obtain ⟨cm7, ec7⟩ := exa_v u7
  have S7 := Sta.start ec7 (Or.inr ⟨(hw _ (List.mem_of_getElem? (i := 4) rfl)), (hw _ (List.mem_of_getElem? (i := 20) rfl))⟩)
  have Ex7 := Exa.start ec7 u7
  have Ff7 := Fld.start ((fld_at ec7).symm.trans (eqv_i (Term.int_eval (0 : Int32)) u37))
  have Fm7 := Fld.start ((fld_at ec7).symm.trans (eqv_i (Term.int_eval (0 : Int32)) u38))
  obtain ⟨cm8, ec8⟩ := exa_v u8
  have S8 := Sta.start ec8 (Or.inr ⟨(hw _ (List.mem_of_getElem? (i := 4) rfl)), (hw _ (List.mem_of_getElem? (i := 22) rfl))⟩)
  have Ex8 := Exa.start ec8 u8
  have Ff8 := Fld.start ((fld_at ec8).symm.trans (eqv_i (Term.int_eval (0 : Int32)) u24))
  have Fm8 := Fld.start ((fld_at ec8).symm.trans (eqv_i (Term.int_eval (0 : Int32)) u25))
  obtain ⟨cm9, ec9⟩ := exa_v u9
  have S9 := Sta.start ec9 (Or.inr ⟨(hw _ (List.mem_of_getElem? (i := 4) rfl)), (hw _ (List.mem_of_getElem? (i := 24) rfl))⟩)
  have Ex9 := Exa.start ec9 u9
  have Ff9 := Fld.start ((fld_at ec9).symm.trans (eqv_i (Term.int_eval (0 : Int32)) u20))
  have Fm9 := Fld.start ((fld_at ec9).symm.trans (eqv_i (Term.int_eval (0 : Int32)) u30))
  obtain ⟨cm10, ec10⟩ := exa_v u10
  have S10 := Sta.start ec10 (Or.inr ⟨(hw _ (List.mem_of_getElem? (i := 4) rfl)), (hw _ (List.mem_of_getElem? (i := 26) rfl))⟩)
  have Ex10 := Exa.start ec10 u10
  have Ff10 := Fld.start ((fld_at ec10).symm.trans (eqv_i (Term.int_eval (0 : Int32)) u31))
  have Fm10 := Fld.start ((fld_at ec10).symm.trans (eqv_i (Term.int_eval (0 : Int32)) u32))
  obtain ⟨cm11, ec11⟩ := exa_v u11
  have S11 := Sta.start ec11 (Or.inr ⟨(hw _ (List.mem_of_getElem? (i := 4) rfl)), (hw _ (List.mem_of_getElem? (i := 28) rfl))⟩)
  have Ex11 := Exa.start ec11 u11
  have Ff11 := Fld.start ((fld_at ec11).symm.trans (eqv_i (Term.int_eval (0 : Int32)) u34))
  have Fm11 := Fld.start ((fld_at ec11).symm.trans (eqv_i (Term.int_eval (0 : Int32)) u35))
  obtain ⟨cm12, ec12⟩ := exa_v u12
  have S12 := Sta.start ec12 (Or.inr ⟨(hw _ (List.mem_of_getElem? (i := 4) rfl)), (hw _ (List.mem_of_getElem? (i := 30) rfl))⟩)
  have Ex12 := Exa.start ec12 u12
  have Ff12 := Fld.start ((fld_at ec12).symm.trans (eqv_i (Term.int_eval (0 : Int32)) u26))
  have Fm12 := Fld.start ((fld_at ec12).symm.trans (eqv_i (Term.int_eval (0 : Int32)) u27))
  obtain ⟨n, o, h1, h2, h3, _, L, rfl, ⟨rfl, N⟩, hq⟩ := rm0 l s _ hw tables_1 i0 i1 cm0 cm1 cm2 cm3 cm4 cm5 cm6 cm7 cm8 cm9 cm10 cm11 cm12 s.heap s.heap.size (Nat.le_refl _) (Old.start s) S0 Ex0 Ff0 Fm0 S1 Ex1 Ff1 Fm1 S2 Ex2 Ff2 Fm2 S3 Ex3 Ff3 Fm3 S4 Ex4 Ff4 Fm4 S5 Ex5 Ff5 Fm5 S6 Ex6 Ff6 Fm6 S7 Ex7 Ff7 Fm7 S8 Ex8 Ff8 Fm8 S9 Ex9 Ff9 Fm9 S10 Ex10 Ff10 Fm10 S11 Ex11 Ff11 Fm11 S12 Ex12 Ff12 Fm12 p e ha hc hk s m _ below hf ((Spec.applies_iff_loose hf).mp happ).1 ⟨rfl, State.Warmed39.refl s, rfl⟩ trivial
  refine ⟨n, _, h1, h2, h3, hpost _ _ _ _ _ _ ⟨Cond.after_iff.mpr rfl, Cond.after_iff.mpr (eq_i res_at (Term.int_eval (1)) rfl), trivial⟩ ⟨hq.1, hq.2.1, (hq.2.2.sift fun y hy => Or.inr (N y hy)).mono (by decide) (by decide)⟩⟩
theorem main_1_1 : Claimed_1_1 := comes_1 fun _ _ _ _ _ _ h hF => ⟨h.1, hF⟩
theorem main_1_2 : Claimed_1_2 := comes_1 fun _ _ _ _ _ _ h hF => ⟨h.2.1, hF⟩
end Jvm.Pilot.@@N@@
namespace Jvm.Pilot.@@N@@
open Jvm Jvm.ClassFile Sem Op Lib Jvm.Free Jvm.Stand Jvm.Pilot.@@N@@.Jvm.D
/-! MADE BY PROGRAM (witnessworld.py) out of the Statement's table words and the real class files: 13 classes; the members and pool entries that the words name. The judged class is class 1, her method 2. -/
namespace start1
open Jvm.ClassFile
def u (s : String) : CpInfo := .utf8 (stringToUtf16 s)
/-- a pool by its gaps: so many unusable entries, then the entry; so many at the end -/
def gap : Nat → List CpInfo → List CpInfo
  | 0, r => r
  | n + 1, r => .unusable :: gap n r
def poolList (es : List (Nat × CpInfo)) (last : Nat) : List CpInfo := es.foldr (fun e r => gap e.1 (e.2 :: r)) (gap last [])
def pool (es : List (Nat × CpInfo)) (last : Nat) : Array CpInfo := ⟨poolList es last⟩
def fileOf (pool : Array CpInfo) (this : Nat) (attrs : Array Attribute := #[]) (ms : Array MethodInfo := #[]) (fl : Nat := 33) (sup : Nat := 0) (ifs : Array Nat := #[]) (fds : Array FieldInfo := #[]) : ClassFile where
  minorVersion := 0
  majorVersion := 65
  constantPool := pool
  accessFlags := fl
  thisClass := this
  superClass := sup
  interfaces := ifs
  fields := fds
  methods := ms
  attributes := attrs
def plain (name : String) (sup : Option ClassId) : Class where
  name := name
  kind := .ordinary
  loader := none
  accessFlags := 33
  super := sup
  interfaces := #[]
  cf := none
  fields := #[]
  methods := #[]
  instanceTypes := #[]
  staticTypes := #[]
  resolved := #[]
  callSites := []
  init := .initialized
  statics := none
  mirror := none

def pool0 : Array CpInfo := pool [(5, u "<init>"), (0, u "()V"), (1, .class_ 10), (1, u "java/lang/Object")] 113

def k0m0 : Method := { name := "<init>", desc := "()V", sig := { parameters := [], returnType := none }, accessFlags := 1, code := none }
/-- java/lang/Object -/
def k0 : Class := { plain "java/lang/Object" none with
  accessFlags := 33
  interfaces := #[]
  cf := some (fileOf pool0 8 #[] #[{ accessFlags := 1, nameIndex := 5, descriptorIndex := 6, attributes := #[] }] 33 0 #[] #[])
  fields := #[]
  methods := #[k0m0]
  instanceTypes := #[]
  staticTypes := #[]
  resolved := Array.replicate 124 none
  statics := none }

def pool1 : Array CpInfo := pool [(2, .class_ 4), (1, u "java/lang/Object"), (0, u "<init>"), (0, u "()V"), (0, .integer 2147483647), (0, .class_ 9), (0, u "tabeliao/server/Command"), (0, .fieldref 8 11), (0, .nameAndType 12 13), (0, u "PING"), (0, u "Ltabeliao/server/Command;"), (0, .fieldref 8 15), (0, .nameAndType 16 13), (0, u "COMMAND"), (0, .fieldref 8 18), (0, .nameAndType 19 13), (0, u "GET"), (0, .fieldref 8 21), (0, .nameAndType 22 13), (0, u "SET"), (0, .fieldref 8 24), (0, .nameAndType 25 13), (0, u "DEL"), (0, .fieldref 8 27), (0, .nameAndType 28 13), (0, u "INCRBY"), (0, .fieldref 8 30), (0, .nameAndType 31 13), (0, u "RANGE"), (0, .fieldref 8 33), (0, .nameAndType 34 13), (0, u "BEGIN"), (0, .fieldref 8 36), (0, .nameAndType 37 13), (0, u "COMMIT"), (0, .fieldref 8 39), (0, .nameAndType 40 13), (0, u "ROLLBACK"), (0, .fieldref 8 42), (0, .nameAndType 43 13), (0, u "MULTI"), (0, .fieldref 8 45), (0, .nameAndType 46 13), (0, u "EXEC"), (0, .fieldref 8 48), (0, .nameAndType 49 13), (0, u "DISCARD"), (0, .methodref 8 51), (0, .nameAndType 52 53), (0, u "takes"), (0, u "(I)Z"), (0, .methodref 55 56), (0, .class_ 57), (0, .nameAndType 58 59), (0, u "tabeliao/server/CommandTakesPinLaw"), (0, u "expected"), (0, u "(II)Z"), (3, u "law")] 4

def k1m0 : Method := { name := "<init>", desc := "()V", sig := { parameters := [], returnType := none }, accessFlags := 2, code := none }
def k1c1 : Code := { maxStack := 2, maxLocals := 2, code := method_2_code, exceptionTable := #[], attributes := #[] }
def k1m1 : Method := { name := "expected", desc := "(II)Z", sig := { parameters := [.int, .int], returnType := some .boolean }, accessFlags := 10, code := some k1c1 }
def k1c2 : Code := { maxStack := 4, maxLocals := 5, code := code, exceptionTable := #[], attributes := #[] }
def k1m2 : Method := { name := "law", desc := "(II)Z", sig := { parameters := [.int, .int], returnType := some .boolean }, accessFlags := 9, code := some k1c2 }
/-- tabeliao/server/CommandTakesPinLaw -/
def k1 : Class := { plain "tabeliao/server/CommandTakesPinLaw" (some 0) with
  accessFlags := 49
  interfaces := #[]
  cf := some (fileOf pool1 55 #[] #[{ accessFlags := 2, nameIndex := 5, descriptorIndex := 6, attributes := #[] }, { accessFlags := 10, nameIndex := 58, descriptorIndex := 59, attributes := #[] }, { accessFlags := 9, nameIndex := 63, descriptorIndex := 59, attributes := #[] }] 49 2 #[] #[])
  fields := #[]
  methods := #[k1m0, k1m1, k1m2]
  instanceTypes := #[]
  staticTypes := #[]
  resolved := Array.replicate 68 none
  statics := none }

def pool2 : Array CpInfo := pool [(1, .class_ 2), (0, u "java/lang/constant/Constable"), (0, .class_ 4), (0, u "java/lang/Object")] 6

/-- java/lang/constant/Constable -/
def k2 : Class := { plain "java/lang/constant/Constable" (some 0) with
  accessFlags := 1537
  interfaces := #[]
  cf := some (fileOf pool2 1 #[] #[] 1537 3 #[] #[])
  fields := #[]
  methods := #[]
  instanceTypes := #[]
  staticTypes := #[]
  resolved := Array.replicate 11 none
  statics := none }

def pool3 : Array CpInfo := pool [(1, .class_ 2), (0, u "java/lang/Comparable"), (0, .class_ 4), (0, u "java/lang/Object")] 7

/-- java/lang/Comparable -/
def k3 : Class := { plain "java/lang/Comparable" (some 0) with
  accessFlags := 1537
  interfaces := #[]
  cf := some (fileOf pool3 1 #[] #[] 1537 3 #[] #[])
  fields := #[]
  methods := #[]
  instanceTypes := #[]
  staticTypes := #[]
  resolved := Array.replicate 12 none
  statics := none }

def pool4 : Array CpInfo := pool [(1, .class_ 2), (0, u "java/io/Serializable"), (0, .class_ 4), (0, u "java/lang/Object")] 2

/-- java/io/Serializable -/
def k4 : Class := { plain "java/io/Serializable" (some 0) with
  accessFlags := 1537
  interfaces := #[]
  cf := some (fileOf pool4 1 #[] #[] 1537 3 #[] #[])
  fields := #[]
  methods := #[]
  instanceTypes := #[]
  staticTypes := #[]
  resolved := Array.replicate 7 none
  statics := none }

def pool5 : Array CpInfo := pool [(2, .class_ 4), (1, u "java/lang/Enum"), (0, u "name"), (0, u "Ljava/lang/String;"), (2, u "ordinal"), (0, u "I"), (1, .class_ 14), (1, u "java/lang/Object"), (4, u "hash"), (86, .class_ 108), (1, u "java/lang/Enum$EnumDesc"), (2, .class_ 112), (0, u "java/lang/constant/Constable"), (0, .class_ 114), (0, u "java/lang/Comparable"), (0, .class_ 116), (0, u "java/io/Serializable")] 87

/-- java/lang/Enum -/
def k5 : Class := { plain "java/lang/Enum" (some 0) with
  accessFlags := 1057
  interfaces := #[2, 3, 4]
  cf := some (fileOf pool5 2 #[.nestMembers #[106]] #[] 1057 12 #[111, 113, 115] #[{ accessFlags := 18, nameIndex := 5, descriptorIndex := 6, attributes := #[] }, { accessFlags := 18, nameIndex := 9, descriptorIndex := 10, attributes := #[] }, { accessFlags := 2, nameIndex := 19, descriptorIndex := 10, attributes := #[] }])
  fields := #[{ name := "name", type := (.object "java/lang/String"), accessFlags := 18, slot := 0, constantValue := 0 }, { name := "ordinal", type := .int, accessFlags := 18, slot := 1, constantValue := 0 }, { name := "hash", type := .int, accessFlags := 2, slot := 2, constantValue := 0 }]
  methods := #[]
  instanceTypes := #[(.object "java/lang/String"), .int, .int]
  staticTypes := #[]
  resolved := Array.replicate 204 none
  statics := none }

def pool6 : Array CpInfo := pool [(1, .class_ 2), (0, u "tabeliao/server/Command"), (2, u "PING"), (0, u "Ltabeliao/server/Command;"), (2, u "COMMAND"), (2, u "GET"), (2, u "SET"), (2, u "DEL"), (2, u "INCRBY"), (2, u "RANGE"), (2, u "BEGIN"), (2, u "COMMIT"), (2, u "ROLLBACK"), (2, u "MULTI"), (2, u "EXEC"), (2, u "DISCARD"), (2, u "$VALUES"), (0, u "[Ltabeliao/server/Command;"), (6, .class_ 55), (1, u "java/lang/Enum"), (3, .class_ 61), (1, u "tabeliao/server/Command$Use"), (1, u "Ltabeliao/server/Command$Use;"), (7, .fieldref 1 72), (0, .nameAndType 73 74), (0, u "fewest"), (0, u "I"), (0, .fieldref 1 76), (0, .nameAndType 77 74), (0, u "most"), (2, u "use"), (2, u "action"), (0, u "Ltabeliao/server/Command$Action;"), (2, u "ALL"), (220, u "INTEGER"), (0, u "Ljava/lang/String;"), (12, u "takes"), (0, u "(I)Z"), (22, .class_ 347), (0, u "tabeliao/server/Command$Action")] 56

def k6c0 : Code := { maxStack := 2, maxLocals := 2, code := prog_106_method_8_code, exceptionTable := #[], attributes := #[] }
def k6m0 : Method := { name := "takes", desc := "(I)Z", sig := { parameters := [.int], returnType := some .boolean }, accessFlags := 0, code := some k6c0 }
/-- tabeliao/server/Command -/
def k6 : Class := { plain "tabeliao/server/Command" (some 5) with
  accessFlags := 16432
  interfaces := #[]
  cf := some (fileOf pool6 1 #[.nestMembers #[346, 59]] #[{ accessFlags := 0, nameIndex := 322, descriptorIndex := 323, attributes := #[] }] 16432 53 #[] #[{ accessFlags := 16409, nameIndex := 5, descriptorIndex := 6, attributes := #[] }, { accessFlags := 16409, nameIndex := 9, descriptorIndex := 6, attributes := #[] }, { accessFlags := 16409, nameIndex := 12, descriptorIndex := 6, attributes := #[] }, { accessFlags := 16409, nameIndex := 15, descriptorIndex := 6, attributes := #[] }, { accessFlags := 16409, nameIndex := 18, descriptorIndex := 6, attributes := #[] }, { accessFlags := 16409, nameIndex := 21, descriptorIndex := 6, attributes := #[] }, { accessFlags := 16409, nameIndex := 24, descriptorIndex := 6, attributes := #[] }, { accessFlags := 16409, nameIndex := 27, descriptorIndex := 6, attributes := #[] }, { accessFlags := 16409, nameIndex := 30, descriptorIndex := 6, attributes := #[] }, { accessFlags := 16409, nameIndex := 33, descriptorIndex := 6, attributes := #[] }, { accessFlags := 16409, nameIndex := 36, descriptorIndex := 6, attributes := #[] }, { accessFlags := 16409, nameIndex := 39, descriptorIndex := 6, attributes := #[] }, { accessFlags := 16409, nameIndex := 42, descriptorIndex := 6, attributes := #[] }, { accessFlags := 26, nameIndex := 87, descriptorIndex := 46, attributes := #[] }, { accessFlags := 26, nameIndex := 308, descriptorIndex := 309, attributes := #[] }, { accessFlags := 18, nameIndex := 73, descriptorIndex := 74, attributes := #[] }, { accessFlags := 18, nameIndex := 77, descriptorIndex := 74, attributes := #[] }, { accessFlags := 18, nameIndex := 80, descriptorIndex := 63, attributes := #[] }, { accessFlags := 18, nameIndex := 83, descriptorIndex := 84, attributes := #[] }, { accessFlags := 4122, nameIndex := 45, descriptorIndex := 46, attributes := #[] }])
  fields := #[{ name := "PING", type := (.object "tabeliao/server/Command"), accessFlags := 16409, slot := 0, constantValue := 0 }, { name := "COMMAND", type := (.object "tabeliao/server/Command"), accessFlags := 16409, slot := 1, constantValue := 0 }, { name := "GET", type := (.object "tabeliao/server/Command"), accessFlags := 16409, slot := 2, constantValue := 0 }, { name := "SET", type := (.object "tabeliao/server/Command"), accessFlags := 16409, slot := 3, constantValue := 0 }, { name := "DEL", type := (.object "tabeliao/server/Command"), accessFlags := 16409, slot := 4, constantValue := 0 }, { name := "INCRBY", type := (.object "tabeliao/server/Command"), accessFlags := 16409, slot := 5, constantValue := 0 }, { name := "RANGE", type := (.object "tabeliao/server/Command"), accessFlags := 16409, slot := 6, constantValue := 0 }, { name := "BEGIN", type := (.object "tabeliao/server/Command"), accessFlags := 16409, slot := 7, constantValue := 0 }, { name := "COMMIT", type := (.object "tabeliao/server/Command"), accessFlags := 16409, slot := 8, constantValue := 0 }, { name := "ROLLBACK", type := (.object "tabeliao/server/Command"), accessFlags := 16409, slot := 9, constantValue := 0 }, { name := "MULTI", type := (.object "tabeliao/server/Command"), accessFlags := 16409, slot := 10, constantValue := 0 }, { name := "EXEC", type := (.object "tabeliao/server/Command"), accessFlags := 16409, slot := 11, constantValue := 0 }, { name := "DISCARD", type := (.object "tabeliao/server/Command"), accessFlags := 16409, slot := 12, constantValue := 0 }, { name := "ALL", type := (.array (.object "tabeliao/server/Command")), accessFlags := 26, slot := 13, constantValue := 0 }, { name := "INTEGER", type := (.object "java/lang/String"), accessFlags := 26, slot := 14, constantValue := 0 }, { name := "fewest", type := .int, accessFlags := 18, slot := 3, constantValue := 0 }, { name := "most", type := .int, accessFlags := 18, slot := 4, constantValue := 0 }, { name := "use", type := (.object "tabeliao/server/Command$Use"), accessFlags := 18, slot := 5, constantValue := 0 }, { name := "action", type := (.object "tabeliao/server/Command$Action"), accessFlags := 18, slot := 6, constantValue := 0 }, { name := "$VALUES", type := (.array (.object "tabeliao/server/Command")), accessFlags := 4122, slot := 15, constantValue := 0 }]
  methods := #[k6m0]
  instanceTypes := #[(.object "java/lang/String"), .int, .int, .int, .int, (.object "tabeliao/server/Command$Use"), (.object "tabeliao/server/Command$Action")]
  staticTypes := #[(.object "tabeliao/server/Command"), (.object "tabeliao/server/Command"), (.object "tabeliao/server/Command"), (.object "tabeliao/server/Command"), (.object "tabeliao/server/Command"), (.object "tabeliao/server/Command"), (.object "tabeliao/server/Command"), (.object "tabeliao/server/Command"), (.object "tabeliao/server/Command"), (.object "tabeliao/server/Command"), (.object "tabeliao/server/Command"), (.object "tabeliao/server/Command"), (.object "tabeliao/server/Command"), (.array (.object "tabeliao/server/Command")), (.object "java/lang/String"), (.array (.object "tabeliao/server/Command"))]
  resolved := Array.replicate 404 none
  statics := some 0 }

def pool7 : Array CpInfo := pool [(1, u "java/lang/Cloneable"), (0, .class_ 1), (0, u "java/lang/Object"), (0, .class_ 3)] 3

/-- java/lang/Cloneable -/
def k7 : Class := { plain "java/lang/Cloneable" (some 0) with
  accessFlags := 1537
  interfaces := #[]
  cf := some (fileOf pool7 2 #[] #[] 1537 4 #[] #[])
  fields := #[]
  methods := #[]
  instanceTypes := #[]
  staticTypes := #[]
  resolved := Array.replicate 8 none
  statics := none }

/-- the primitive byte -/
def k8 : Class := { plain "byte" none with kind := .primitive 'B', accessFlags := 0x411 }
/-- [B -/
def k9 : Class := { plain "[B" (some 0) with kind := .array 8 .byte, interfaces := #[7, 4], accessFlags := 1041 }

/-- the primitive int -/
def k10 : Class := { plain "int" none with kind := .primitive 'I', accessFlags := 0x411 }
/-- [I -/
def k11 : Class := { plain "[I" (some 0) with kind := .array 10 .int, interfaces := #[7, 4], accessFlags := 1041 }

/-- [Ltabeliao/server/Command; -/
def k12 : Class := { plain "[Ltabeliao/server/Command;" (some 0) with kind := .array 6 (.object "tabeliao/server/Command"), interfaces := #[7, 4], accessFlags := 1041 }

def heap : Heap := #[{ cls := 6, slots := #[.ref 1, .ref 2, .ref 3, .ref 4, .ref 5, .ref 6, .ref 7, .ref 8, .ref 9, .ref 10, .ref 11, .ref 12, .ref 13, .null, .null, .null], vm := .statics 6 },
  { cls := 6, slots := #[.null, .int 0, .int 0, .int 0, .int 0, .null, .null], vm := .none },
  { cls := 6, slots := #[.null, .int 0, .int 0, .int 0, .int 2147483647, .null, .null], vm := .none },
  { cls := 6, slots := #[.null, .int 0, .int 0, .int 1, .int 1, .null, .null], vm := .none },
  { cls := 6, slots := #[.null, .int 0, .int 0, .int 2, .int 2, .null, .null], vm := .none },
  { cls := 6, slots := #[.null, .int 0, .int 0, .int 1, .int 2147483647, .null, .null], vm := .none },
  { cls := 6, slots := #[.null, .int 0, .int 0, .int 2, .int 2, .null, .null], vm := .none },
  { cls := 6, slots := #[.null, .int 0, .int 0, .int 2, .int 2, .null, .null], vm := .none },
  { cls := 6, slots := #[.null, .int 0, .int 0, .int 0, .int 0, .null, .null], vm := .none },
  { cls := 6, slots := #[.null, .int 0, .int 0, .int 0, .int 0, .null, .null], vm := .none },
  { cls := 6, slots := #[.null, .int 0, .int 0, .int 0, .int 0, .null, .null], vm := .none },
  { cls := 6, slots := #[.null, .int 0, .int 0, .int 0, .int 0, .null, .null], vm := .none },
  { cls := 6, slots := #[.null, .int 0, .int 0, .int 0, .int 0, .null, .null], vm := .none },
  { cls := 6, slots := #[.null, .int 0, .int 0, .int 0, .int 0, .null, .null], vm := .none }]
def classes : Array Class := #[k0, k1, k2, k3, k4, k5, k6, k7, k8, k9, k10, k11, k12]
def interned : List (Array UInt16 × Addr) := []
def slotsUsed : Nat := 107
def theMethod : MethodId := ⟨1, 2⟩
def args0 : Array Value := #[.int 5, .int 5]
def aboutOver (below : List Frame) : State where
  vm := { classes := classes, interned := interned.toArray }
  heap := heap
  slotsUsed := slotsUsed
  threads := #[{ frames := .invoking theMethod args0 :: below }]
def below0 : List Frame := [.native { method := ⟨0, 0⟩, args := #[] }]
def about1 : State := aboutOver below0
def p0 : Program := .bare "" "" ""
def e0 : Env := launch0.env 0 0 0
theorem w_frames : about1.frames = Frame.invoking theMethod args0 :: below0 := rfl
set_option maxRecDepth 65536 in
theorem w_args : argsFit about1.vm theMethod args0 = true := by decide +kernel
set_option maxRecDepth 65536 in
theorem w_heap : heapFits about1 = true := by decide +kernel
set_option maxRecDepth 65536 in
theorem w_runnable : about1.curStatus? = some .runnable := by decide +kernel
set_option maxRecDepth 65536 in
theorem w_alone : about1.alone = true := by decide +kernel
set_option maxRecDepth 65536 in
theorem w_named : about1.methodNamed? x = some theMethod := by decide +kernel
set_option maxRecDepth 65536 in
theorem w_hears : about1.hears theMethod below0 = true := by decide +kernel
set_option maxRecDepth 65536 in
theorem w_ripe : about1.ripe theMethod args0 below0 = true := by decide +kernel
theorem w_running : about1.status = .running := rfl
set_option maxRecDepth 65536 in
theorem w_room : about1.hasRoom e0.platform room_1 = true :=
  launch0.hasRoom_least _ room_1 (by decide +kernel) (by decide +kernel) (by decide +kernel) (by decide +kernel) (by decide +kernel) (by decide +kernel)
theorem allAtoms_all (ts : List Jvm.Cond) (a : Array Jvm.Value) (st : Jvm.State) : (allAtoms ts).before a st = ts.all (fun c => c.before a st) := by
  induction ts with
  | nil => rfl
  | cons c t ih =>
    show (Jvm.Cond.and c (allAtoms t)).before a st = _
    rw [Jvm.Cond.before_and, ih, List.all_cons]
def words1 : List Jvm.Cond := Jvm.Cond.code x code maxLocals ret :: tables_1
/-- a 'code' word, met by the world's own term for the bytes: nothing is compared byte by byte -/
theorem code_word {y : MethodName} {bytes : ByteArray} {mx : Nat} {rt : Option FieldType} {a : Array Value} {s : State} {m : MethodId} {meth : Method} {c : Code} (h1 : s.methodNamed? y = some m) (h2 : s.vm.method? m = some meth) (h3 : meth.code = some c) (h4 : c.code = bytes)
    (h5 : (c.maxLocals == mx && c.exceptionTable.isEmpty && decide (c.maxStack ≤ mostOperands) && decide (meth.sig.returnType = rt) && !meth.locks && decide (parseMethodDescriptor y.desc = some meth.sig)) = true) : (Jvm.Cond.code y bytes mx rt).before a s = true := by
  simp only [Bool.and_eq_true, beq_iff_eq, Bool.not_eq_true', decide_eq_true_eq] at h5
  obtain ⟨⟨⟨⟨⟨g1, g2⟩, g3⟩, g4⟩, g5⟩, g6⟩ := h5
  simp [Cond.before, Cond.holds, Cond.value, h1, h2, h3, h4, g1, g2, g3, g4, g5, g6]
def isCode : Jvm.Cond → Bool
  | .code _ _ _ _ => true
  | _ => false
theorem all_split {L : List Jvm.Cond} {P : Jvm.Cond → Bool} (h1 : L.all (fun c => isCode c || P c) = true) (h2 : ∀ c ∈ L.filter isCode, P c = true) : L.all P = true := by
  refine List.all_eq_true.mpr fun c hc => ?_
  have h := List.all_eq_true.mp h1 c hc
  rcases Bool.eq_false_or_eq_true (isCode c) with hi | hi
  · exact h2 c (List.mem_filter.mpr ⟨hc, hi⟩)
  · simpa [hi] using h
set_option maxRecDepth 65536 in
theorem w_c0 : (Jvm.Cond.code x code maxLocals ret).before args0 about1 = true := code_word (m := ⟨1, 2⟩) (meth := k1m2) (c := k1c2) (by decide +kernel) rfl rfl rfl (by decide +kernel)
set_option maxRecDepth 65536 in
theorem w_c1 : (Jvm.Cond.code ({ cls := "tabeliao/server/Command", name := "takes", desc := "(I)Z" } : Jvm.MethodName) prog_106_method_8_code (2 : Nat) (Option.some Jvm.ClassFile.FieldType.boolean)).before args0 about1 = true := code_word (m := ⟨6, 0⟩) (meth := k6m0) (c := k6c0) (by decide +kernel) rfl rfl rfl (by decide +kernel)
set_option maxRecDepth 65536 in
theorem w_c2 : (Jvm.Cond.code ({ cls := "tabeliao/server/CommandTakesPinLaw", name := "expected", desc := "(II)Z" } : Jvm.MethodName) method_2_code (2 : Nat) (Option.some Jvm.ClassFile.FieldType.boolean)).before args0 about1 = true := code_word (m := ⟨1, 1⟩) (meth := k1m1) (c := k1c1) (by decide +kernel) rfl rfl rfl (by decide +kernel)
def codes1 : List Jvm.Cond := [Jvm.Cond.code x code maxLocals ret, Jvm.Cond.code ({ cls := "tabeliao/server/Command", name := "takes", desc := "(I)Z" } : Jvm.MethodName) prog_106_method_8_code (2 : Nat) (Option.some Jvm.ClassFile.FieldType.boolean), Jvm.Cond.code ({ cls := "tabeliao/server/CommandTakesPinLaw", name := "expected", desc := "(II)Z" } : Jvm.MethodName) method_2_code (2 : Nat) (Option.some Jvm.ClassFile.FieldType.boolean)]
set_option maxRecDepth 65536 in
theorem codes_eq : words1.filter isCode = codes1 := rfl
theorem w_codes : ∀ c ∈ words1.filter isCode, c.before args0 about1 = true := by
  rw [codes_eq]
  intro c hc
  simp only [codes1, List.mem_cons, List.not_mem_nil, or_false] at hc
  rcases hc with rfl | rfl | rfl
  · exact w_c0
  · exact w_c1
  · exact w_c2
set_option maxRecDepth 65536 in
theorem w_t1 : (words1.take 24).all (fun c => isCode c || c.before args0 about1) = true := by decide +kernel
set_option maxRecDepth 65536 in
theorem w_t2 : (words1.drop 24).all (fun c => isCode c || c.before args0 about1) = true := by decide +kernel
theorem w_tables : (allAtoms (Jvm.Cond.code x code maxLocals ret :: tables_1)).before args0 about1 = true := by
  rw [allAtoms_all]
  show words1.all (fun c => c.before args0 about1) = true
  refine all_split ?_ w_codes
  rw [← List.take_append_drop 24 words1, List.all_append, w_t1, w_t2]
  rfl
set_option maxRecDepth 65536 in
theorem w_case : (Jvm.Cond.and given_1 narrow_1).before args0 about1 = true := by decide +kernel
theorem w_applies : (headSpec (Jvm.Cond.code x code maxLocals ret :: tables_1) room_1).applies x e0.platform about1 = true :=
  (Spec.applies_iff w_frames).mpr ⟨w_running, w_runnable, w_alone, w_named, w_hears, w_ripe, w_room, w_tables⟩
theorem atStart : AtStart classFile x code maxLocals ret World_1 tables_1 room_1 Calls_1 rest_1 Pre_1 launch0 p0 e0 about1 theMethod args0 below0 :=
  ⟨lists_1, trivial, launch0.admits_env _ _ _, launch0.least_env, fairChoices_fair.cas, fairChoices_fair.clock, w_frames, w_args, w_heap, w_applies, trivial, trivial, w_case⟩
end start1
theorem witness_1 : WitnessClaimed_1 := ⟨start1.p0, start1.e0, start1.about1, start1.theMethod, start1.args0, start1.below0, start1.atStart⟩
end Jvm.Pilot.@@N@@
