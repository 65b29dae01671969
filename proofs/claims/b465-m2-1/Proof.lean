import JvmDerived
import JvmDerived.Pilot.@@N@@Statement
import JvmDerived.Pilot.@@N@@Code
set_option linter.unusedVariables false
set_option linter.unusedSimpArgs false
set_option maxHeartbeats 4000000
namespace Jvm.Pilot.@@N@@
open Jvm Jvm.ClassFile Sem Op Lib Jvm.Free Jvm.Stand Jvm.LawKit Jvm.RoadKit Bundle Jvm.Pilot.@@N@@.Jvm.D
/-! own kit: a walk read backwards: G T g says that from the state T with g on top the body comes to a good end -/
section OwnKit
variable {p : Program} {l : Launch} {e : Env} {R : Room} {s : State} {m : MethodId} {args : Array Value} {below : List Frame} {meth : Method} {c : Code} {T : State} {cells slots : Nat} {Z : State} {a0 : Array Value} {h : Heap} {n0 : Nat} {G : State → JFrame → Prop} {Q : Option Value → Heap → Prop}
def Clo (p : Program) (e : Env) (below : List Frame) (G : State → JFrame → Prop) : Prop := ∀ (T T' : State) (g g' : JFrame), (∀ t, Steps p.tables e below (T'.setTop g') t → Steps p.tables e below (T.setTop g) t) → G T' g' → G T g
theorem Clo.go (hs : Clo p e below G) {T T' : State} {g g' : JFrame} (st : ∀ t, Steps p.tables e below (T'.setTop g') t → Steps p.tables e below (T.setTop g) t) (k : G T' g') : G T g := hs T T' g g' st k
def Sd (p : Program) (l : Launch) (e : Env) (R : Room) (s : State) (m : MethodId) (args : Array Value) (below : List Frame) (meth : Method) (c : Code) (n0 : Nat) (T : State) (h : Heap) (cells slots : Nat) : Prop := ∃ locs, Stand p l e R s m args below meth c T locs cells slots ∧ Fr n0 locs ∧ T.heap = h
theorem Sd.here (X : Sd p l e R s m args below meth c n0 T h cells slots) : At T m c below := by obtain ⟨_, X, _⟩ := X; exact X.here
theorem Sd.more (X : Sd p l e R s m args below meth c n0 T h cells slots) {k n : Nat} (hk : cells ≤ k) (hn : slots ≤ n) : Sd p l e R s m args below meth c n0 T h k n := by obtain ⟨L, X, N⟩ := X; exact ⟨L, X.more hk hn, N⟩
/-- how a body ends -/
def Fnl (p : Program) (l : Launch) (e : Env) (R : Room) (s : State) (m : MethodId) (args : Array Value) (below : List Frame) (meth : Method) (c : Code) (n0 : Nat) (Q : Option Value → Heap → Prop) (G : State → JFrame → Prop) : Prop :=
  ∀ (T : State) (h : Heap) (k n : Nat) (g : JFrame) (v : Option Value), Sd p l e R s m args below meth c n0 T h k n → k ≤ R.cells → n ≤ R.slots → (meth.sig.returnType = none → v = none) →
    (∀ fs, (∀ (f : JFrame) (acts : List Action), f.method = m → f.locked = none → f.entered = [] → (doReturn e (T.setTop f) acts v).1 = T.setFrames fs) → Steps p.tables e below (T.setTop g) (T.setFrames fs)) → Q v h → G T g
/-- a body's contract -/
def Con (l : Launch) (Z : State) (y : MethodName) (bytes : ByteArray) (maxL : Nat) (ret : Option FieldType) (ws : List Jvm.Cond) (rm : Room) (as' : Array Value) (h : Heap) (n0 : Nat) (Q : Option Value → Heap → Prop) : Prop :=
  MetFree l y (head1 (Jvm.Cond.code y bytes maxL ret :: ws) rm) (fun a U => a = as' ∧ Z.Warmed39 U.vm ∧ U.heap = h) (fun _ _ _ _ _ => True)
    (fun _ U o U' => ∃ v L, o = .returned v ∧ (Q v U'.heap ∧ Fr n0 L) ∧ FrameEnd U o U' L rm.cells rm.slots)
theorem Con.of {y : MethodName} {bytes : ByteArray} {maxL : Nat} {ret : Option FieldType} {ws : List Jvm.Cond} {rm : Room} {as' : Array Value} (hp : plainFor y = true)
    (body : ∀ (G : State → JFrame → Prop) (p : Program) (e : Env) (s : State) (m : MethodId) (below : List Frame) (meth : Method) (c : Code) (s₁ : State),
      Clo p e below G → p.tables.exec = Jvm.exec → c.code = bytes → c.maxLocals = maxL → s.vm.findClass y.cls = some m.cls → meth.name = y.name → meth.sig.returnType = ret → Z.Warmed39 s.vm →
      Sd p l e rm s m as' below meth c n0 s₁ h 0 0 → Fnl p l e rm s m as' below meth c n0 Q G → G s₁ (entryFrame m as' maxL)) : Con l Z y bytes maxL ret ws rm as' h n0 Q := by
  refine MetFree.of_bodySF hp hisR ?_
  intro p e s m args below meth c s₁ Bd hml hP hK
  obtain ⟨ha, hZ, hh⟩ := hP
  subst ha
  refine body (fun T g => ∃ s₂ o, Steps p.tables e below (T.setTop g) s₂ ∧ s₂.status = .running ∧ Ended s₂ below o ∧ ∃ v L, o = .returned v ∧ (Q v s₂.heap ∧ Fr n0 L) ∧ FrameEnd s o s₂ L rm.cells rm.slots) p e s m below meth c s₁ ?_ Bd.exec Bd.bytes hml (findClass_of_methodNamed Bd.named) (name_of_methodNamed Bd.named Bd.method).1 Bd.returns hZ ⟨[], Stand.of_body Bd, Fr.nil n0, by rw [← hh, Bd.state]; rfl⟩ ?_
  · intro T T' g g' st ⟨s₂, o, h1, r⟩
    exact ⟨s₂, o, st _ h1, r⟩
  · intro T h k n g v ⟨locs, X, N, eh⟩ hk hn hv st q
    obtain ⟨fs, hr, hrun, hended, hW, hsame⟩ := X.leave (v := v) hv Bd.notSynchronized
    exact ⟨_, _, st fs hr, hrun, hended, v, locs, rfl, ⟨by show Q v T.heap; rw [eh]; exact q, N⟩, ⟨_, rfl⟩, hW, hsame.mono hk hn⟩
theorem rRetI (fin : Fnl p l e R s m args below meth c n0 Q G) (X : Sd p l e R s m args below meth c n0 T h cells slots) (hx : p.tables.exec = Jvm.exec) (hk : cells ≤ R.cells) (hn : slots ≤ R.slots) (hret : meth.sig.returnType = some .int) {pc : Nat} {Ls : Array Slot} {z : Int32} {rest : List Value} (hd : decode c.code pc = .ok (.ireturn, 1)) (q : Q (some (.int z)) h) : G T (mkF m pc Ls (.int z :: rest)) :=
  fin T h cells slots _ (some (.int z)) X hk hn (fun h => by rw [hret] at h; cases h) (fun fs hr => by obtain ⟨_, X, _⟩ := X; exact retOut X hx hret rfl (Or.inl ⟨rfl, Or.inl rfl, _, rfl⟩) hd hr) q
theorem rRetN (fin : Fnl p l e R s m args below meth c n0 Q G) (X : Sd p l e R s m args below meth c n0 T h cells slots) (hx : p.tables.exec = Jvm.exec) (hk : cells ≤ R.cells) (hn : slots ≤ R.slots) {t : FieldType} (hret : meth.sig.returnType = some t) (ht : t = .boolean ∨ t = .byte ∨ t = .char ∨ t = .short) {pc : Nat} {Ls : Array Slot} {z z' : Int32} {rest : List Value} (hd : decode c.code pc = .ok (.ireturn, 1)) (hz : nar t z = z') (q : Q (some (.int z')) h) : G T (mkF m pc Ls (.int z :: rest)) :=
  fin T h cells slots _ (some (.int (nar t z))) X hk hn (fun h => by rw [hret] at h; cases h) (fun fs hr => by obtain ⟨_, X, _⟩ := X; exact retN X hx hret ht hd hr) (hz ▸ q)
theorem rRetL (fin : Fnl p l e R s m args below meth c n0 Q G) (X : Sd p l e R s m args below meth c n0 T h cells slots) (hx : p.tables.exec = Jvm.exec) (hk : cells ≤ R.cells) (hn : slots ≤ R.slots) (hret : meth.sig.returnType = some .long) {pc : Nat} {Ls : Array Slot} {z : Int64} {rest : List Value} (hd : decode c.code pc = .ok (.lreturn, 1)) (q : Q (some (.long z)) h) : G T (mkF m pc Ls (.long z :: rest)) :=
  fin T h cells slots _ (some (.long z)) X hk hn (fun h => by rw [hret] at h; cases h) (fun fs hr => by obtain ⟨_, X, _⟩ := X; exact retOut X hx hret rfl (Or.inr (Or.inl ⟨rfl, rfl, _, rfl⟩)) hd hr) q
theorem rRetA (fin : Fnl p l e R s m args below meth c n0 Q G) (X : Sd p l e R s m args below meth c n0 T h cells slots) (hx : p.tables.exec = Jvm.exec) (hk : cells ≤ R.cells) (hn : slots ≤ R.slots) {t : FieldType} (hret : meth.sig.returnType = some t) (ht : t.isReference = true) {pc : Nat} {Ls : Array Slot} {z : Value} (hz : z.isRef = true) (hw : narrow t z = z) {rest : List Value} (hd : decode c.code pc = .ok (.areturn, 1)) (q : Q (some z) h) : G T (mkF m pc Ls (z :: rest)) :=
  fin T h cells slots _ (some z) X hk hn (fun h => by rw [hret] at h; cases h) (fun fs hr => by obtain ⟨_, X, _⟩ := X; exact retOut X hx hret hw (Or.inr (Or.inr (Or.inr (Or.inr ⟨rfl, ht, hz⟩)))) hd hr) q
theorem rRetD (fin : Fnl p l e R s m args below meth c n0 Q G) (X : Sd p l e R s m args below meth c n0 T h cells slots) (hx : p.tables.exec = Jvm.exec) (hk : cells ≤ R.cells) (hn : slots ≤ R.slots) (hret : meth.sig.returnType = some .double) {pc : Nat} {Ls : Array Slot} {z : UInt64} {rest : List Value} (hd : decode c.code pc = .ok (.dreturn, 1)) (q : Q (some (.double z)) h) : G T (mkF m pc Ls (.double z :: rest)) :=
  fin T h cells slots _ (some (.double z)) X hk hn (fun h => by rw [hret] at h; cases h) (fun fs hr => by obtain ⟨_, X, _⟩ := X; exact retOut X hx hret rfl (Or.inr (Or.inr (Or.inl ⟨rfl, rfl, _, rfl⟩))) hd hr) q
theorem rRetV (fin : Fnl p l e R s m args below meth c n0 Q G) (X : Sd p l e R s m args below meth c n0 T h cells slots) (hx : p.tables.exec = Jvm.exec) (hk : cells ≤ R.cells) (hn : slots ≤ R.slots) (hret : meth.sig.returnType = none) {pc : Nat} {Ls : Array Slot} (hd : decode c.code pc = .ok (.return_, 1)) (q : Q none h) : G T (mkF m pc Ls []) :=
  fin T h cells slots _ none X hk hn (fun _ => rfl) (fun fs hr => by obtain ⟨_, X, _⟩ := X; exact X.returnOut hx hret hd hr) q
theorem rLdcI (hs : Clo p e below G) (X : Sd p l e R s m args below meth c n0 T h cells slots) (hx : p.tables.exec = Jvm.exec) (hZ : Z.Warmed39 s.vm) {own : String} {index : Nat} {v : Int32} (hown : s.vm.findClass own = some m.cls) (w : (Jvm.Cond.constant own index v).before a0 Z = true) {g : JFrame} (hg : g.method = m) (hd : decode c.code g.pc = .ok (.ldc index, 2)) (k : G T { g with pc := g.pc + 2, stack := .int v :: g.stack }) : G T g := by
  obtain ⟨_, X, _⟩ := X
  exact hs.go (X.ldcInt hx hown (mvT hZ w) hg hd) k
theorem rLdcL (hs : Clo p e below G) (X : Sd p l e R s m args below meth c n0 T h cells slots) (hx : p.tables.exec = Jvm.exec) (hZ : Z.Warmed39 s.vm) {own : String} {index : Nat} {v : Int64} (hown : s.vm.findClass own = some m.cls) (w : (Jvm.Cond.constantLong own index v).before a0 Z = true) {g : JFrame} (hg : g.method = m) (hd : decode c.code g.pc = .ok (.ldc2_w index, 3)) (k : G T { g with pc := g.pc + 3, stack := .long v :: g.stack }) : G T g := by
  obtain ⟨_, X, _⟩ := X
  exact hs.go (X.ldc2Long hx hown (mvT hZ w) hg hd) k
theorem rLdcD (hs : Clo p e below G) (X : Sd p l e R s m args below meth c n0 T h cells slots) (hx : p.tables.exec = Jvm.exec) (hZ : Z.Warmed39 s.vm) {own : String} {index : Nat} {v : UInt64} (hown : s.vm.findClass own = some m.cls) (w : (Jvm.Cond.constantDouble own index v).before a0 Z = true) {g : JFrame} (hg : g.method = m) (hd : decode c.code g.pc = .ok (.ldc2_w index, 3)) (k : G T { g with pc := g.pc + 3, stack := .double v :: g.stack }) : G T g := by
  obtain ⟨_, X, _⟩ := X
  exact hs.go (X.ldc2DoubleC hx hown (mvT hZ w) hg hd) k
theorem rIrem (hs : Clo p e below G) (X : Sd p l e R s m args below meth c n0 T h cells slots) (hx : p.tables.exec = Jvm.exec) {g : JFrame} (hg : g.method = m) {x y : Int32} {rest : List Value} (hd : decode c.code g.pc = .ok (.irem, 1)) (hst : g.stack = .int y :: .int x :: rest) (hy : y ≠ 0) (k : G T { g with pc := g.pc + 1, stack := .int (x % y) :: rest }) : G T g := by
  obtain ⟨_, X, _⟩ := X
  exact hs.go (fun _ q => iremM X hx hg hd hst hy q) k
theorem rLrem (hs : Clo p e below G) (X : Sd p l e R s m args below meth c n0 T h cells slots) (hx : p.tables.exec = Jvm.exec) {g : JFrame} (hg : g.method = m) {x y : Int64} {rest : List Value} (hd : decode c.code g.pc = .ok (.lrem, 1)) (hst : g.stack = .long y :: .long x :: rest) (hy : y ≠ 0) (k : G T { g with pc := g.pc + 1, stack := .long (x % y) :: rest }) : G T g :=
  hs.go (fun _ q => XS.lrem X.here hx hg hd hst hy q) (by rw [lrem_mod]; exact k)
/-! arrays -/
theorem rNewP (hs : Clo p e below G) (X : Sd p l e R s m args below meth c n0 T h cells slots) (hx : p.tables.exec = Jvm.exec) (hZ : Z.Warmed39 s.vm) {aty : ArrayType} (w : (Jvm.Cond.arrayClass (newarray.typeOf aty)).before a0 Z = true) {g : JFrame} (hg : g.method = m) (hd : decode c.code g.pc = .ok (.newarray aty, 2)) {n : Int32} {rest : List Value} (hst : g.stack = .int n :: rest)
    (hn : ¬ n < 0) (cap len : Nat) (hcap : n.toNatClampNeg ≤ cap) (hb : cap * 8 ≤ 536870912) (hc : cells + 1 ≤ R.cells) (hl : slots + cap ≤ R.slots)
    (k : ∀ (T' : State) (h' : Heap) (cA : ClassId) (b : Addr), b = h.size → Sd p l e R s m args below meth c n0 T' h' (cells + 1) (slots + cap) → Ext h h' → Arv Z h' b cA (newarray.typeOf aty) n (List.replicate len (defaultValue (newarray.typeOf aty))) (defaultValue (newarray.typeOf aty)) → G T' { g with pc := g.pc + 2, stack := .ref b :: rest }) : G T g := by
  obtain ⟨L, X, N, eh⟩ := X
  obtain ⟨T', h', cA, X', e', E, A, st⟩ := newP X hx hZ w eh hg hd hst hn hcap hb hc hl
  exact hs.go st (k T' h' cA h.size rfl ⟨L, X', N, e'⟩ E ((Arv.new A hn).pad (pad_rep [] _ len)))
theorem rStI (hs : Clo p e below G) (X : Sd p l e R s m args below meth c n0 T h cells slots) (hx : p.tables.exec = Jvm.exec) (hZ : Z.Warmed39 s.vm) {a : Addr} {kc : ClassId} {z : Int32} {vs : List Value} {dv : Value} (V : Arv Z h a kc .int z vs dv) (ga : n0 ≤ a) {j x : Int32} (hj : ¬ j < 0 ∧ j < z) (i : Nat) (hi : j.toNatClampNeg = i) (hl : i < vs.length)
    {g : JFrame} (hg : g.method = m) {rest : List Value} (hst : g.stack = .int x :: .int j :: .ref a :: rest) (hd : decode c.code g.pc = .ok (.iastore, 1))
    (k : ∀ (T' : State) (h' : Heap), Sd p l e R s m args below meth c n0 T' h' cells slots → Wr h h' a i (.int x) → Arv Z h' a kc .int z (vs.set i (.int x)) dv → G T' { g with pc := g.pc + 1, stack := rest }) : G T g := by
  obtain ⟨L, X, N, eh⟩ := X
  obtain ⟨cl, A, q1, S, q3, H, F⟩ := V
  obtain ⟨T', h', X', e', W, st⟩ := stI X hx hZ eh A (j := j) (inb_of S hj) hg hst hd
  exact hs.go st (k T' h' ⟨_, X', Fr.snoc X' N ga, e'⟩ (hi ▸ W) (Arv.set A q1 S q3 H F rfl W i hi hl))
theorem rStB (hs : Clo p e below G) (X : Sd p l e R s m args below meth c n0 T h cells slots) (hx : p.tables.exec = Jvm.exec) (hZ : Z.Warmed39 s.vm) {a : Addr} {kc : ClassId} {z : Int32} {vs : List Value} {dv : Value} (V : Arv Z h a kc .byte z vs dv) (ga : n0 ≤ a) {j x x' : Int32} (hj : ¬ j < 0 ∧ j < z) (i : Nat) (hi : j.toNatClampNeg = i) (hl : i < vs.length) (hnx : x.toInt8.toInt32 = x')
    {g : JFrame} (hg : g.method = m) {rest : List Value} (hst : g.stack = .int x :: .int j :: .ref a :: rest) (hd : decode c.code g.pc = .ok (.bastore, 1))
    (k : ∀ (T' : State) (h' : Heap), Sd p l e R s m args below meth c n0 T' h' cells slots → Wr h h' a i (.int x') → Arv Z h' a kc .byte z (vs.set i (.int x')) dv → G T' { g with pc := g.pc + 1, stack := rest }) : G T g := by
  obtain ⟨L, X, N, eh⟩ := X
  obtain ⟨cl, A, q1, S, q3, H, F⟩ := V
  obtain ⟨T', h', X', e', W, st⟩ := stB X hx hZ eh A (j := j) (inb_of S hj) hg hst hd
  subst hnx
  exact hs.go st (k T' h' ⟨_, X', Fr.snoc X' N ga, e'⟩ (hi ▸ W) (Arv.set A q1 S q3 H F (fits_nar_byte _) W i hi hl))
theorem rStC (hs : Clo p e below G) (X : Sd p l e R s m args below meth c n0 T h cells slots) (hx : p.tables.exec = Jvm.exec) (hZ : Z.Warmed39 s.vm) {a : Addr} {kc : ClassId} {z : Int32} {vs : List Value} {dv : Value} (V : Arv Z h a kc .char z vs dv) (ga : n0 ≤ a) {j x x' : Int32} (hj : ¬ j < 0 ∧ j < z) (i : Nat) (hi : j.toNatClampNeg = i) (hl : i < vs.length) (hnx : nar .char x = x')
    {g : JFrame} (hg : g.method = m) {rest : List Value} (hst : g.stack = .int x :: .int j :: .ref a :: rest) (hd : decode c.code g.pc = .ok (.castore, 1))
    (k : ∀ (T' : State) (h' : Heap), Sd p l e R s m args below meth c n0 T' h' cells slots → Wr h h' a i (.int x') → Arv Z h' a kc .char z (vs.set i (.int x')) dv → G T' { g with pc := g.pc + 1, stack := rest }) : G T g := by
  obtain ⟨L, X, N, eh⟩ := X
  obtain ⟨cl, A, q1, S, q3, H, F⟩ := V
  obtain ⟨T', h', X', e', W, st⟩ := stC X hx hZ eh A (j := j) (inb_of S hj) hg hst hd
  subst hnx
  exact hs.go st (k T' h' ⟨_, X', Fr.snoc X' N ga, e'⟩ (hi ▸ W) (Arv.set A q1 S q3 H F (fits_nar_char _) W i hi hl))
theorem rLdI (hs : Clo p e below G) (X : Sd p l e R s m args below meth c n0 T h cells slots) (hx : p.tables.exec = Jvm.exec) (hZ : Z.Warmed39 s.vm) {a : Addr} {kc : ClassId} {z : Int32} {vs : List Value} {dv : Value} (V : Arv Z h a kc .int z vs dv) {j : Int32} (hj : ¬ j < 0 ∧ j < z) {v : Value} (hv : vs.getD j.toNatClampNeg dv = v)
    {g : JFrame} (hg : g.method = m) {rest : List Value} (hst : g.stack = .int j :: .ref a :: rest) (hd : decode c.code g.pc = .ok (.iaload, 1)) (k : G T { g with pc := g.pc + 1, stack := v :: rest }) : G T g := by
  obtain ⟨L, X, N, eh⟩ := X
  obtain ⟨cl, A, q1, S, q3, H, F⟩ := V
  exact hs.go (X.iaload hx (j := j) (v := v) (by rw [eh]; exact A.1) (State.isArrayOf_alike hZ.alike A.2.1) A.2.2 (inb_of S hj) (H.at (inb_of S hj) hv) hg hst hd) k
theorem rLdB (hs : Clo p e below G) (X : Sd p l e R s m args below meth c n0 T h cells slots) (hx : p.tables.exec = Jvm.exec) (hZ : Z.Warmed39 s.vm) {a : Addr} {kc : ClassId} {z : Int32} {vs : List Value} {dv : Value} (V : Arv Z h a kc .byte z vs dv) {j : Int32} (hj : ¬ j < 0 ∧ j < z) {v : Value} (hv : vs.getD j.toNatClampNeg dv = v)
    {g : JFrame} (hg : g.method = m) {rest : List Value} (hst : g.stack = .int j :: .ref a :: rest) (hd : decode c.code g.pc = .ok (.baload, 1)) (k : G T { g with pc := g.pc + 1, stack := v :: rest }) : G T g := by
  obtain ⟨L, X, N, eh⟩ := X
  obtain ⟨cl, A, q1, S, q3, H, F⟩ := V
  exact hs.go (X.baloadBytes hx (j := j) (v := v) (by rw [eh]; exact A.1) (State.isArrayOf_alike hZ.alike A.2.1) A.2.2 (inb_of S hj) (H.at (inb_of S hj) hv) hg hst hd) k
theorem rLdC (hs : Clo p e below G) (X : Sd p l e R s m args below meth c n0 T h cells slots) (hx : p.tables.exec = Jvm.exec) (hZ : Z.Warmed39 s.vm) {a : Addr} {kc : ClassId} {z : Int32} {vs : List Value} {dv : Value} (V : Arv Z h a kc .char z vs dv) {j : Int32} (hj : ¬ j < 0 ∧ j < z) {v : Value} (hv : vs.getD j.toNatClampNeg dv = v)
    {g : JFrame} (hg : g.method = m) {rest : List Value} (hst : g.stack = .int j :: .ref a :: rest) (hd : decode c.code g.pc = .ok (.caload, 1)) (k : G T { g with pc := g.pc + 1, stack := v :: rest }) : G T g := by
  obtain ⟨L, X, N, eh⟩ := X
  obtain ⟨cl, A, q1, S, q3, H, F⟩ := V
  exact hs.go (X.caload hx (j := j) (v := v) (by rw [eh]; exact A.1) (State.isArrayOf_alike hZ.alike A.2.1) A.2.2 (inb_of S hj) (H.at (inb_of S hj) hv) hg hst hd) k
theorem rLdR (hs : Clo p e below G) (X : Sd p l e R s m args below meth c n0 T h cells slots) (hx : p.tables.exec = Jvm.exec) (hZ : Z.Warmed39 s.vm) {a : Addr} {kc : ClassId} {ty : FieldType} {z : Int32} {vs : List Value} {dv : Value} (V : Arv Z h a kc ty z vs dv) (hty : ty.isReference = true) {j : Int32} (hj : ¬ j < 0 ∧ j < z) {v : Value} (hv : vs.getD j.toNatClampNeg dv = v)
    {g : JFrame} (hg : g.method = m) {rest : List Value} (hst : g.stack = .int j :: .ref a :: rest) (hd : decode c.code g.pc = .ok (.aaload, 1)) (k : G T { g with pc := g.pc + 1, stack := v :: rest }) : G T g := by
  obtain ⟨L, X, N, eh⟩ := X
  obtain ⟨cl, A, q1, S, q3, H, F⟩ := V
  exact hs.go (X.aaload hx (j := j) (v := v) (by rw [eh]; exact A.1) (State.isArrayOf_alike hZ.alike A.2.1) hty A.2.2 (inb_of S hj) (H.at (inb_of S hj) hv) hg hst hd) k
theorem rLen (hs : Clo p e below G) (X : Sd p l e R s m args below meth c n0 T h cells slots) (hx : p.tables.exec = Jvm.exec) (hZ : Z.Warmed39 s.vm) {a : Addr} {kc : ClassId} {ty : FieldType} {z : Int32} {vs : List Value} {dv : Value} (V : Arv Z h a kc ty z vs dv)
    {g : JFrame} (hg : g.method = m) {rest : List Value} (hst : g.stack = .ref a :: rest) (hd : decode c.code g.pc = .ok (.arraylength, 1)) (k : G T { g with pc := g.pc + 1, stack := .int z :: rest }) : G T g := by
  obtain ⟨L, X, N, eh⟩ := X
  obtain ⟨cl, A, q1, S, q3, H, F⟩ := V
  exact hs.go (X.arraylength hx (by rw [eh]; exact A.1) (State.isArrayOf_alike hZ.alike A.2.1) hg hst hd) (by rw [len_of S q3]; exact k)
theorem rNewR (hs : Clo p e below G) (X : Sd p l e R s m args below meth c n0 T h cells slots) (hx : p.tables.exec = Jvm.exec) (hZ : Z.Warmed39 s.vm) {own C : String} {index : Nat} (hown : s.vm.findClass own = some m.cls) (w1 : (Jvm.Cond.classLink own index C).before a0 Z = true) (w2 : (Jvm.Cond.arrayOver (.object C)).before a0 Z = true) {g : JFrame} (hg : g.method = m) (hd : decode c.code g.pc = .ok (.anewarray index, 3)) {n : Int32} {rest : List Value} (hst : g.stack = .int n :: rest)
    (hn : ¬ n < 0) (cap len : Nat) (hcap : n.toNatClampNeg ≤ cap) (hb : cap * 8 ≤ 536870912) (hc : cells + 1 ≤ R.cells) (hl : slots + cap ≤ R.slots)
    (k : ∀ (T' : State) (h' : Heap) (cA : ClassId) (b : Addr), b = h.size → Sd p l e R s m args below meth c n0 T' h' (cells + 1) (slots + cap) → Ext h h' → Arv Z h' b cA (.object C) n (List.replicate len .null) .null → Ovr Z cA C → G T' { g with pc := g.pc + 3, stack := .ref b :: rest }) : G T g := by
  obtain ⟨L, X, N, eh⟩ := X
  obtain ⟨T', h', cA, X', e', E, A, O, st⟩ := newR X hx hZ hown w1 w2 eh hg hd hst hn hcap hb hc hl
  exact hs.go st (k T' h' cA h.size rfl ⟨L, X', N, e'⟩ E ((Arv.new A hn).pad (pad_rep [] _ len)) O)
theorem rStR (hs : Clo p e below G) (X : Sd p l e R s m args below meth c n0 T h cells slots) (hx : p.tables.exec = Jvm.exec) (hZ : Z.Warmed39 s.vm) {a : Addr} {kc : ClassId} {C : String} {z : Int32} {vs : List Value} {dv : Value} (V : Arv Z h a kc (.object C) z vs dv) (O : Ovr Z kc C) (ga : n0 ≤ a) {j : Int32} {y : Addr} (I : Ins Z h y C true) (hj : ¬ j < 0 ∧ j < z) (i : Nat) (hi : j.toNatClampNeg = i) (hl : i < vs.length)
    {g : JFrame} (hg : g.method = m) {rest : List Value} (hst : g.stack = .ref y :: .int j :: .ref a :: rest) (hd : decode c.code g.pc = .ok (.aastore, 1))
    (k : ∀ (T' : State) (h' : Heap), Sd p l e R s m args below meth c n0 T' h' cells slots → Wr h h' a i (.ref y) → Arv Z h' a kc (.object C) z (vs.set i (.ref y)) dv → G T' { g with pc := g.pc + 1, stack := rest }) : G T g := by
  obtain ⟨L, X, N, eh⟩ := X
  obtain ⟨cl, A, q1, S, q3, H, F⟩ := V
  obtain ⟨T', h', X', e', W, st⟩ := stR X hx hZ eh A (j := j) (v := .ref y) (inb_of S hj) rfl (Sto.ofV A q1 O I) hg hst hd
  exact hs.go st (k T' h' ⟨_, X', Fr.snoc X' N ga, e'⟩ (hi ▸ W) (Arv.set A q1 S q3 H F rfl W i hi hl))
/-! objects -/
theorem rNewO (hs : Clo p e below G) (X : Sd p l e R s m args below meth c n0 T h cells slots) (hx : p.tables.exec = Jvm.exec) (hZ : Z.Warmed39 s.vm) {own C : String} {index n : Nat} (hown : s.vm.findClass own = some m.cls) (w : (Jvm.Cond.classLink own index C).before a0 Z = true) (wi : (Jvm.Cond.instantiable C n).before a0 Z = true) (wz : (Jvm.Cond.initialized C).before a0 Z = true)
    {g : JFrame} (hg : g.method = m) (hd : decode c.code g.pc = .ok (.new index, 3)) (hc : cells + 1 ≤ R.cells) (hl : slots + n ≤ R.slots)
    (k : ∀ (T' : State) (h' : Heap) (b : Addr), b = h.size → Sd p l e R s m args below meth c n0 T' h' (cells + 1) (slots + n) → Ext h h' → Exa Z h' b C → (∀ {O nm d : String} {ty : FieldType}, Laid Z a0 C O nm d → parseFieldDescriptor d = some ty → Fld Z h' b O nm d (defaultValue ty)) → G T' { g with pc := g.pc + 3, stack := .ref b :: g.stack }) : G T g := by
  obtain ⟨L, X, N, eh⟩ := X
  obtain ⟨T', h', X', e', E, A, D, -, st⟩ := newO X hx hZ hown w wi wz eh hg hd hc hl
  exact hs.go st (k T' h' h.size rfl ⟨L, X', N, e'⟩ E A D)
theorem rInitO (hs : Clo p e below G) (X : Sd p l e R s m args below meth c n0 T h cells slots) (hx : p.tables.exec = Jvm.exec) (hZ : Z.Warmed39 s.vm) {own : String} {idx : Nat} (hown : s.vm.findClass own = some m.cls) (w1 : (Jvm.Cond.methodLink own idx Lib.objectInit).before a0 Z = true) (w2 : (Jvm.Cond.instanceMethod Lib.objectInit).before a0 Z = true)
    (w3 : (Jvm.Cond.code Lib.objectInit ⟨#[0xb1]⟩ 1 none).before a0 Z = true) {g : JFrame} (hg : g.method = m) (hsize : g.locals.size = c.maxLocals) {a : Addr} {rest : List Value} (hst : g.stack = .ref a :: rest) (hd : decode c.code g.pc = .ok (.invokespecial idx, 3))
    (hf : 1 ≤ R.frames) {W : Nat} (hW : 2 * g.monitorRoom + (rest.map fun v => v.category).sum ≤ W) (hl : W + 12 ≤ R.locals)
    (k : ∀ T' : State, Sd p l e R s m args below meth c n0 T' h cells slots → G T' { g with pc := g.pc + 3, stack := rest }) : G T g := by
  obtain ⟨L, X, N, eh⟩ := X
  obtain ⟨T', X', e', st⟩ := initO X hx hZ hown w1 w2 w3 eh hg hsize hst hd hf hW hl
  exact hs.go st (k T' ⟨L, X', N, e'⟩)
theorem rGetF (hs : Clo p e below G) (X : Sd p l e R s m args below meth c n0 T h cells slots) (hx : p.tables.exec = Jvm.exec) (hZ : Z.Warmed39 s.vm) {own R0 O n d host : String} {index : Nat} (hown : s.vm.findClass own = some m.cls) (w : (Jvm.Cond.fieldLink own index R0 n d).before a0 Z = true ∨ (Jvm.Cond.fieldLinkNest own index R0 n d host).before a0 Z = true) (via : Via Z R0 O n d)
    {a : Addr} {v : Value} (F : Fld Z h a O n d v) {g : JFrame} (hg : g.method = m) {rest : List Value} (hst : g.stack = .ref a :: rest) (hd : decode c.code g.pc = .ok (.getfield index, 3))
    (k : ∀ T' : State, Sd p l e R s m args below meth c n0 T' h cells slots → G T' { g with pc := g.pc + 3, stack := v :: rest }) : G T g := by
  obtain ⟨L, X, N, eh⟩ := X
  obtain ⟨T', X', e', st⟩ := getF X hx hZ hown w via eh F hg hst hd
  exact hs.go st (k T' ⟨L, X', N, e'⟩)
theorem rGetS (hs : Clo p e below G) (X : Sd p l e R s m args below meth c n0 T h cells slots) (hx : p.tables.exec = Jvm.exec) (hZ : Z.Warmed39 s.vm) {own R0 O n d host : String} {index : Nat} (hown : s.vm.findClass own = some m.cls) (w : (Jvm.Cond.fieldLink own index R0 n d).before a0 Z = true ∨ (Jvm.Cond.fieldLinkNest own index R0 n d host).before a0 Z = true) (via : Via Z R0 O n d)
    {v : Value} (F : Sta Z h O n d v) {g : JFrame} (hg : g.method = m) (hd : decode c.code g.pc = .ok (.getstatic index, 3))
    (k : ∀ T' : State, Sd p l e R s m args below meth c n0 T' h cells slots → G T' { g with pc := g.pc + 3, stack := v :: g.stack }) : G T g := by
  obtain ⟨L, X, N, eh⟩ := X
  obtain ⟨T', X', e', st⟩ := getS2 X hx hZ hown w via eh F hg hd
  exact hs.go st (k T' ⟨L, X', N, e'⟩)
theorem rPutF (hs : Clo p e below G) (X : Sd p l e R s m args below meth c n0 T h cells slots) (hx : p.tables.exec = Jvm.exec) (hZ : Z.Warmed39 s.vm) {own R0 O n d host C : String} {index kk : Nat} (ty : FieldType) (hown : s.vm.findClass own = some m.cls) (w : (Jvm.Cond.fieldLink own index R0 n d).before a0 Z = true ∨ (Jvm.Cond.fieldLinkNest own index R0 n d host).before a0 Z = true) (via : Via Z R0 O n d)
    {a : Addr} {v old : Value} (F : Fld Z h a O n d old) (E : Exa Z h a C) (ga : n0 ≤ a) (L : (Jvm.Cond.lays C O n d).before a0 Z = true ∨ ((Jvm.Cond.laysFinal C O n d).before a0 Z = true ∧ own = O ∧ meth.name = "<init>")) (wi : (Jvm.Cond.instantiable C kk).before a0 Z = true)
    (hty : parseFieldDescriptor d = some ty) (hn : narrow ty v = v) (hf : fits ty v = true) {g : JFrame} (hg : g.method = m) {rest : List Value} (hst : g.stack = v :: .ref a :: rest) (hd : decode c.code g.pc = .ok (.putfield index, 3))
    (k : ∀ (T' : State) (h' : Heap), Sd p l e R s m args below meth c n0 T' h' cells slots → Wr h h' a (Jvm.RoadKit.slotOf Z O n d) v → Fld Z h' a O n d v → G T' { g with pc := g.pc + 3, stack := rest }) : G T g := by
  obtain ⟨L0, X, N, eh⟩ := X
  obtain ⟨T', h', X', e', W, st⟩ := putF X hx hZ hown w via eh F E L wi hty hn hf hg hst hd
  exact hs.go st (k T' h' ⟨_, X', Fr.snoc X' N ga, e'⟩ W (F.same W))
/-! calls -/
theorem rCallS (hs : Clo p e below G) (X : Sd p l e R s m args below meth c n0 T h cells slots) (hx : p.tables.exec = Jvm.exec) (hZ : Z.Warmed39 s.vm) {own : String} {index : Nat} {y : MethodName} {bytes : ByteArray} {maxL : Nat} {ret : Option FieldType} {rm : Room} {as' : List Value} {Q' : Option Value → Heap → Prop}
    (hM : Con l Z y bytes maxL ret [] rm as'.toArray h n0 Q') (hown : s.vm.findClass own = some m.cls) (w1 : (Jvm.Cond.methodLink own index y).before a0 Z = true) (w2 : (Jvm.Cond.static y).before a0 Z = true) (w3 : (Jvm.Cond.initialized y.cls).before a0 Z = true) (w4 : (Jvm.Cond.code y bytes maxL ret).before a0 Z = true)
    (hy : y.cls ≠ "java/lang/invoke/MethodHandle" ∧ y.cls ≠ "java/lang/invoke/VarHandle") {g : JFrame} (hg : g.method = m) (hsize : g.locals.size = c.maxLocals) (rest : List Value) (hlen : ∀ sig, parseMethodDescriptor y.desc = some sig → as'.length = sig.parameters.length)
    (hst : g.stack = as'.reverse ++ rest) (W : Nat) (hW : 2 * g.monitorRoom + (rest.map fun v => v.category).sum ≤ W) (hd : decode c.code g.pc = .ok (.invokestatic index, 3))
    (hf : rm.frames + 1 ≤ R.frames) (hl : W + (maxL + 11) + rm.locals ≤ R.locals) (hc : cells + rm.cells ≤ R.cells) (hsl : slots + rm.slots ≤ R.slots)
    (k : ∀ (v : Option Value) (T' : State) (h' : Heap), Sd p l e R s m args below meth c n0 T' h' (cells + rm.cells) (slots + rm.slots) → Q' v h' → G T' { g with pc := g.pc + 3, stack := v.toList ++ rest }) : G T g := by
  obtain ⟨L, X, N, eh⟩ := X
  obtain ⟨v, vm₁, ⟨T', L', k', n'⟩, -, X', ⟨Lc, ⟨hQ, hN⟩, l', y', z'⟩, st⟩ := Jvm.LawKit.callS X hx (y := y) hown (mvT hZ w1) (mvT hZ w2) (mvT hZ w3) (mvT hZ w4) hy (backOf (Q := fun v h L => Q' v h ∧ Fr n0 L) (W := W) hM hZ w4 w3 hf hl) hg hsize (argsL := as') (rest := rest) hlen hst hW hd (fun _ _ => ⟨rfl, eh, hc, hsl⟩)
  dsimp only [Pt.U, Pt.locs, Pt.cells, Pt.slots] at X' l' y' z' st hQ
  subst l' y' z'
  exact hs.go st (k v T' T'.heap ⟨_, X', Fr.app N hN, rfl⟩ hQ)
theorem rCallI (hs : Clo p e below G) (X : Sd p l e R s m args below meth c n0 T h cells slots) (hx : p.tables.exec = Jvm.exec) (hZ : Z.Warmed39 s.vm) {own : String} {index : Nat} {y : MethodName} {bytes : ByteArray} {maxL : Nat} {rm : Room} {a : Addr} {as' : List Value} {Q' : Option Value → Heap → Prop}
    (hM : Con l Z y bytes maxL none [] rm (Value.ref a :: as').toArray h n0 Q') (hyn : y.name = "<init>") (hown : s.vm.findClass own = some m.cls) (w1 : (Jvm.Cond.methodLink own index y).before a0 Z = true) (w2 : (Jvm.Cond.instanceMethod y).before a0 Z = true) (w3 : (Jvm.Cond.initialized y.cls).before a0 Z = true) (w4 : (Jvm.Cond.code y bytes maxL none).before a0 Z = true)
    (hy : y.cls ≠ "java/lang/invoke/MethodHandle" ∧ y.cls ≠ "java/lang/invoke/VarHandle") {g : JFrame} (hg : g.method = m) (hsize : g.locals.size = c.maxLocals) (rest : List Value) (hlen : ∀ sig, parseMethodDescriptor y.desc = some sig → as'.length = sig.parameters.length)
    (hst : g.stack = as'.reverse ++ .ref a :: rest) (W : Nat) (hW : 2 * g.monitorRoom + (rest.map fun v => v.category).sum ≤ W) (hd : decode c.code g.pc = .ok (.invokespecial index, 3))
    (hf : rm.frames + 1 ≤ R.frames) (hl : W + (maxL + 11) + rm.locals ≤ R.locals) (hc : cells + rm.cells ≤ R.cells) (hsl : slots + rm.slots ≤ R.slots)
    (k : ∀ (v : Option Value) (T' : State) (h' : Heap), Sd p l e R s m args below meth c n0 T' h' (cells + rm.cells) (slots + rm.slots) → Q' v h' → G T' { g with pc := g.pc + 3, stack := v.toList ++ rest }) : G T g := by
  obtain ⟨L, X, N, eh⟩ := X
  obtain ⟨v, vm₁, ⟨T', L', k', n'⟩, -, X', ⟨Lc, ⟨hQ, hN⟩, l', y', z'⟩, st⟩ := X.specialBack hx (y := y) hyn hown (mvT hZ w1) (mvT hZ w2) (mvT hZ w4) hy (backOf (Q := fun v h L => Q' v h ∧ Fr n0 L) (W := W) hM hZ w4 w3 hf hl) hg hsize (Steps.refl _) (a := a) (argsL := as') (rest := rest) hlen hst hW hd (fun _ _ => ⟨rfl, eh, hc, hsl⟩)
  dsimp only [Pt.U, Pt.locs, Pt.cells, Pt.slots] at X' l' y' z' st hQ
  subst l' y' z'
  exact hs.go (fun _ q => st.trans q) (k v T' T'.heap ⟨_, X', Fr.app N hN, rfl⟩ hQ)
theorem rCallV (hs : Clo p e below G) (X : Sd p l e R s m args below meth c n0 T h cells slots) (hx : p.tables.exec = Jvm.exec) (hZ : Z.Warmed39 s.vm) {own C : String} {index : Nat} {y : MethodName} {bytes : ByteArray} {maxL : Nat} {ret : Option FieldType} {rm : Room} {a : Addr} {as' : List Value} {Q' : Option Value → Heap → Prop}
    (hM : Con l Z y bytes maxL ret [] rm (Value.ref a :: as').toArray h n0 Q') (E : Exa Z h a C) (hown : s.vm.findClass own = some m.cls) (w1 : (Jvm.Cond.methodLink own index y).before a0 Z = true) (w5 : (Jvm.Cond.declares y).before a0 Z = true) (w6 : (Jvm.Cond.selects C y y).before a0 Z = true) (w2 : (Jvm.Cond.instanceMethod y).before a0 Z = true) (w3 : (Jvm.Cond.initialized y.cls).before a0 Z = true) (w4 : (Jvm.Cond.code y bytes maxL ret).before a0 Z = true)
    (hy : y.cls ≠ "java/lang/invoke/MethodHandle" ∧ y.cls ≠ "java/lang/invoke/VarHandle") {g : JFrame} (hg : g.method = m) (hsize : g.locals.size = c.maxLocals) (rest : List Value) (hlen : ∀ sig, parseMethodDescriptor y.desc = some sig → as'.length = sig.parameters.length)
    (hst : g.stack = as'.reverse ++ .ref a :: rest) (W : Nat) (hW : 2 * g.monitorRoom + (rest.map fun v => v.category).sum ≤ W) (hd : decode c.code g.pc = .ok (.invokevirtual index, 3))
    (hf : rm.frames + 1 ≤ R.frames) (hl : W + (maxL + 11) + rm.locals ≤ R.locals) (hc : cells + rm.cells ≤ R.cells) (hsl : slots + rm.slots ≤ R.slots)
    (k : ∀ (v : Option Value) (T' : State) (h' : Heap), Sd p l e R s m args below meth c n0 T' h' (cells + rm.cells) (slots + rm.slots) → Q' v h' → G T' { g with pc := g.pc + 3, stack := v.toList ++ rest }) : G T g := by
  obtain ⟨L, X, N, eh⟩ := X
  obtain ⟨cB, kB, qa, qb, qc⟩ := isOf (T := T) hZ eh E
  obtain ⟨v, vm₁, ⟨T', L', k', n'⟩, -, X', ⟨Lc, ⟨hQ, hN⟩, l', y', z'⟩, st⟩ := X.virtualBack hx (y := y) (z := y) hown (mvT hZ w1) (mvT hZ w5) (notFace_of_selects (args := #[]) (mvT hZ w6)) (mvT hZ w6) (mvT hZ w2) hy (backOf (Q := fun v h L => Q' v h ∧ Fr n0 L) (W := W) hM hZ w4 w3 hf hl) qa qc hg hsize (Steps.refl _) (argsL := as') (rest := rest) hlen hst hW hd (fun _ _ => ⟨rfl, eh, hc, hsl⟩)
  dsimp only [Pt.U, Pt.locs, Pt.cells, Pt.slots] at X' l' y' z' st hQ
  subst l' y' z'
  exact hs.go (fun _ q => st.trans q) (k v T' T'.heap ⟨_, X', Fr.app N hN, rfl⟩ hQ)
/-! branches -/
theorem ltL {x y : Int64} (h : x < y) : if_icmp.holds .lt (lcmpW x y) 0 = true ∧ if_icmp.holds .ge (lcmpW x y) 0 = false := have q := tlt ((lw_lt x y).mpr h); ⟨q.1, q.2.1⟩
theorem nltL {x y : Int64} (h : ¬ x < y) : if_icmp.holds .lt (lcmpW x y) 0 = false ∧ if_icmp.holds .ge (lcmpW x y) 0 = true := have q := flt (fun z => h ((lw_lt x y).mp z)); ⟨q.1, q.2.1⟩
theorem gtL {x y : Int64} (h : y < x) : if_icmp.holds .gt (lcmpW x y) 0 = true ∧ if_icmp.holds .le (lcmpW x y) 0 = false := have q := tlt ((lw_gt x y).mpr h); ⟨q.2.2.1, q.2.2.2⟩
theorem ngtL {x y : Int64} (h : ¬ y < x) : if_icmp.holds .gt (lcmpW x y) 0 = false ∧ if_icmp.holds .le (lcmpW x y) 0 = true := have q := flt (fun z => h ((lw_gt x y).mp z)); ⟨q.2.2.1, q.2.2.2⟩
theorem eqL {x y : Int64} (h : x = y) : if_icmp.holds .eq (lcmpW x y) 0 = true ∧ if_icmp.holds .ne (lcmpW x y) 0 = false := teq ((lw_eq x y).mpr h)
theorem neqL {x y : Int64} (h : ¬ x = y) : if_icmp.holds .eq (lcmpW x y) 0 = false ∧ if_icmp.holds .ne (lcmpW x y) 0 = true := feq (fun z => h ((lw_eq x y).mp z))
theorem nameIt {α : Type} {P : α → Prop} (x : α) (k : ∀ z, z = x → P z) : P x := k x rfl
theorem eq64 {x y : Int64} (h : x.toInt = y.toInt) : x = y := Int64.toInt_inj.mp h
theorem eq32 {x y : Int32} (h : x.toInt = y.toInt) : x = y := Int32.toInt_inj.mp h
theorem lt64 {x y : Int64} : x < y ↔ x.toInt < y.toInt := Int64.lt_iff_toInt_lt
theorem lt32 {x y : Int32} : x < y ↔ x.toInt < y.toInt := Int32.lt_iff_toInt_lt
theorem e64 {x y : Int64} : x = y ↔ x.toInt = y.toInt := Int64.toInt_inj.symm
theorem e32 {x y : Int32} : x = y ↔ x.toInt = y.toInt := Int32.toInt_inj.symm
theorem c_lremM (x y : Int64) (d : Int) (hy : y.toInt = d) : (0 ≤ x.toInt → (x % y).toInt = x.toInt % d) ∧ (x.toInt < 0 → (x % y).toInt = -((-x.toInt) % d)) := by rw [Int64.toInt_mod, hy]; exact tr _ _
theorem nar_byte (x : Int32) : x.toInt8.toInt32.toInt8.toInt32 = x.toInt8.toInt32 := by simp
end OwnKit

theorem d1_0 : decode prog_14_method_1_code 0 = .ok (.aload_n 0, 1) := by decide +kernel
theorem d1_1 : decode prog_14_method_1_code 1 = .ok (.invokespecial 3, 3) := by decide +kernel
theorem d1_4 : decode prog_14_method_1_code 4 = .ok (.aload_n 0, 1) := by decide +kernel
theorem d1_5 : decode prog_14_method_1_code 5 = .ok (.aload_n 1, 1) := by decide +kernel
theorem d1_6 : decode prog_14_method_1_code 6 = .ok (.putfield 9, 3) := by decide +kernel
theorem d1_9 : decode prog_14_method_1_code 9 = .ok (.aload_n 0, 1) := by decide +kernel
theorem d1_10 : decode prog_14_method_1_code 10 = .ok (.aload_n 2, 1) := by decide +kernel
theorem d1_11 : decode prog_14_method_1_code 11 = .ok (.putfield 15, 3) := by decide +kernel
theorem d1_14 : decode prog_14_method_1_code 14 = .ok (.aload_n 0, 1) := by decide +kernel
theorem d1_15 : decode prog_14_method_1_code 15 = .ok (.aload_n 3, 1) := by decide +kernel
theorem d1_16 : decode prog_14_method_1_code 16 = .ok (.putfield 19, 3) := by decide +kernel
theorem d1_19 : decode prog_14_method_1_code 19 = .ok (.aload_n 0, 1) := by decide +kernel
theorem d1_20 : decode prog_14_method_1_code 20 = .ok (.aload 4, 2) := by decide +kernel
theorem d1_22 : decode prog_14_method_1_code 22 = .ok (.putfield 23, 3) := by decide +kernel
theorem d1_25 : decode prog_14_method_1_code 25 = .ok (.aload_n 0, 1) := by decide +kernel
theorem d1_26 : decode prog_14_method_1_code 26 = .ok (.aload 5, 2) := by decide +kernel
theorem d1_28 : decode prog_14_method_1_code 28 = .ok (.putfield 26, 3) := by decide +kernel
theorem d1_31 : decode prog_14_method_1_code 31 = .ok (.aload_n 0, 1) := by decide +kernel
theorem d1_32 : decode prog_14_method_1_code 32 = .ok (.aload 6, 2) := by decide +kernel
theorem d1_34 : decode prog_14_method_1_code 34 = .ok (.putfield 29, 3) := by decide +kernel
theorem d1_37 : decode prog_14_method_1_code 37 = .ok (.aload_n 0, 1) := by decide +kernel
theorem d1_38 : decode prog_14_method_1_code 38 = .ok (.aload 7, 2) := by decide +kernel
theorem d1_40 : decode prog_14_method_1_code 40 = .ok (.putfield 32, 3) := by decide +kernel
theorem d1_43 : decode prog_14_method_1_code 43 = .ok (.aload_n 0, 1) := by decide +kernel
theorem d1_44 : decode prog_14_method_1_code 44 = .ok (.lload 8, 2) := by decide +kernel
theorem d1_46 : decode prog_14_method_1_code 46 = .ok (.putfield 35, 3) := by decide +kernel
theorem d1_49 : decode prog_14_method_1_code 49 = .ok (.return_, 1) := by decide +kernel
theorem pn_1 : plainFor (⟨"com/example/vector_space_ranker/vectorspaceranker/Index", "<init>", "(Lcom/example/vector_space_ranker/vectorspaceranker/Analysis;[Ljava/lang/String;[I[Ljava/lang/String;[I[I[IJ)V"⟩ : MethodName) = true := plainFor_of_name (by first | (simp [plainName, overriddenIn]; done) | decide +kernel)
theorem ef_1_xnxxxxxxx (m : MethodId) (x0 : Addr) (x2 : Addr) (x3 : Addr) (x4 : Addr) (x5 : Addr) (x6 : Addr) (x7 : Addr) (x8 : Int64) : entryFrame m #[(.ref x0), .null, (.ref x2), (.ref x3), (.ref x4), (.ref x5), (.ref x6), (.ref x7), (.long x8)] 10 = mkF m 0 #[.val (.ref x0), .val .null, .val (.ref x2), .val (.ref x3), .val (.ref x4), .val (.ref x5), .val (.ref x6), .val (.ref x7), .val (.long x8), .second] [] := by first | (simp [entryFrame, mkF, argsToLocals, Value.category]; done) | rfl
theorem hy_1 : ((⟨"com/example/vector_space_ranker/vectorspaceranker/Index", "<init>", "(Lcom/example/vector_space_ranker/vectorspaceranker/Analysis;[Ljava/lang/String;[I[Ljava/lang/String;[I[I[IJ)V"⟩ : MethodName)).cls ≠ "java/lang/invoke/MethodHandle" ∧ ((⟨"com/example/vector_space_ranker/vectorspaceranker/Index", "<init>", "(Lcom/example/vector_space_ranker/vectorspaceranker/Analysis;[Ljava/lang/String;[I[Ljava/lang/String;[I[I[IJ)V"⟩ : MethodName)).cls ≠ "java/lang/invoke/VarHandle" := by decide
set_option maxRecDepth 65536 in
set_option maxHeartbeats 40000000 in
theorem rm1 (l : Launch) (Z : State) (a0 : Array Value) (hw : ∀ d ∈ tables_1, d.before a0 Z = true) (ws : List Jvm.Cond) (a : Addr) (a2 : Addr) (a3 : Addr) (a4 : Addr) (a5 : Addr) (a6 : Addr) (a7 : Addr) (q8 : Int64) (h0 : Heap) (n0 : Nat) (Z0 : n0 ≤ h0.size) (E_a : Exa Z h0 a "com/example/vector_space_ranker/vectorspaceranker/Index") (g_a : n0 ≤ a) (F_analysis_a : Fld Z h0 a "com/example/vector_space_ranker/vectorspaceranker/Index" "analysis" "Lcom/example/vector_space_ranker/vectorspaceranker/Analysis;" .null) (F_docnos_a : Fld Z h0 a "com/example/vector_space_ranker/vectorspaceranker/Index" "docnos" "[Ljava/lang/String;" .null) (F_characterLengths_a : Fld Z h0 a "com/example/vector_space_ranker/vectorspaceranker/Index" "characterLengths" "[I" .null) (F_terms_a : Fld Z h0 a "com/example/vector_space_ranker/vectorspaceranker/Index" "terms" "[Ljava/lang/String;" .null) (F_postingStarts_a : Fld Z h0 a "com/example/vector_space_ranker/vectorspaceranker/Index" "postingStarts" "[I" .null) (F_postingDocuments_a : Fld Z h0 a "com/example/vector_space_ranker/vectorspaceranker/Index" "postingDocuments" "[I" .null) (F_postingFrequencies_a : Fld Z h0 a "com/example/vector_space_ranker/vectorspaceranker/Index" "postingFrequencies" "[I" .null) (F_tokenCount_a : Fld Z h0 a "com/example/vector_space_ranker/vectorspaceranker/Index" "tokenCount" "J" (.long (0 : Int64))) :
    Con l Z (⟨"com/example/vector_space_ranker/vectorspaceranker/Index", "<init>", "(Lcom/example/vector_space_ranker/vectorspaceranker/Analysis;[Ljava/lang/String;[I[Ljava/lang/String;[I[I[IJ)V"⟩ : MethodName) prog_14_method_1_code 10 none ws ({ frames := 1, cells := 0, slots := 0, locals := 12 } : Room) #[(.ref a), .null, (.ref a2), (.ref a3), (.ref a4), (.ref a5), (.ref a6), (.ref a7), (.long q8)] h0 n0 (fun v h => v = none ∧ Keep h0 h [a] ∧ Exa Z h a "com/example/vector_space_ranker/vectorspaceranker/Index" ∧ Fld Z h a "com/example/vector_space_ranker/vectorspaceranker/Index" "postingStarts" "[I" (.ref a5) ∧ Fld Z h a "com/example/vector_space_ranker/vectorspaceranker/Index" "postingFrequencies" "[I" (.ref a7)) := by
  refine Con.of pn_1 ?_
  intro G p e s m below meth c s₁ hs hx hby hml hown hnm hret hZ X0 fin
  have hml : c.maxLocals = 10 := hml
  have hown : s.vm.findClass "com/example/vector_space_ranker/vectorspaceranker/Index" = some m.cls := hown
  rw [ef_1_xnxxxxxxx]
  have K := Keep.refl h0 ([a] : List Addr)
  have Ksz := K.1
  show G s₁ (mkF m 0 #[.val (.ref a), .val .null, .val (.ref a2), .val (.ref a3), .val (.ref a4), .val (.ref a5), .val (.ref a6), .val (.ref a7), .val (.long q8), .second] [])
  refine hs.go (fun _ kk_ => XS.aloadN X0.here hx rfl (hb hby d1_0) rfl rfl kk_) ?_
  show G s₁ (mkF m 1 #[.val (.ref a), .val .null, .val (.ref a2), .val (.ref a3), .val (.ref a4), .val (.ref a5), .val (.ref a6), .val (.ref a7), .val (.long q8), .second] [(.ref a)])
  refine rInitO hs X0 hx hZ hown (hw _ (List.mem_of_getElem? (i := 10) rfl)) (hw _ (List.mem_of_getElem? (i := 11) rfl)) (hw _ (List.mem_of_getElem? (i := 12) rfl)) rfl (by rw [hml]; rfl) rfl (hb hby d1_1) (by decide) (W := 0) (by show 2 * 0 + _ ≤ _; exact Nat.le_of_eq rfl) (by decide) (fun T1 X1 => ?_)
  show G T1 (mkF m 4 #[.val (.ref a), .val .null, .val (.ref a2), .val (.ref a3), .val (.ref a4), .val (.ref a5), .val (.ref a6), .val (.ref a7), .val (.long q8), .second] [])
  refine hs.go (fun _ kk_ => XS.aloadN X1.here hx rfl (hb hby d1_4) rfl rfl kk_) ?_
  show G T1 (mkF m 5 #[.val (.ref a), .val .null, .val (.ref a2), .val (.ref a3), .val (.ref a4), .val (.ref a5), .val (.ref a6), .val (.ref a7), .val (.long q8), .second] [(.ref a)])
  refine hs.go (fun _ kk_ => XS.aloadN X1.here hx rfl (hb hby d1_5) rfl rfl kk_) ?_
  show G T1 (mkF m 6 #[.val (.ref a), .val .null, .val (.ref a2), .val (.ref a3), .val (.ref a4), .val (.ref a5), .val (.ref a6), .val (.ref a7), .val (.long q8), .second] [.null, (.ref a)])
  refine rPutF hs X1 hx hZ (.object "com/example/vector_space_ranker/vectorspaceranker/Analysis") hown (host := "") (Or.inl (hw _ (List.mem_of_getElem? (i := 13) rfl))) Via.refl F_analysis_a E_a g_a (Or.inr ⟨(hw _ (List.mem_of_getElem? (i := 14) rfl)), rfl, hnm⟩) (hw _ (List.mem_of_getElem? (i := 3) rfl)) (by decide) rfl rfl rfl rfl (hb hby d1_6) (fun T2 h2 X2 W2 F_analysis_a => ?_)
  have E_a := E_a.wr W2
  have F_docnos_a := F_docnos_a.other W2 (Or.inr (slot_ne (Or.inr (hw _ (List.mem_of_getElem? (i := 16) rfl))) (Or.inr (hw _ (List.mem_of_getElem? (i := 14) rfl))) (by decide) (t := (.array (.object "java/lang/String"))) (t' := (.object "com/example/vector_space_ranker/vectorspaceranker/Analysis")) (by decide) (by decide)))
  have F_characterLengths_a := F_characterLengths_a.other W2 (Or.inr (slot_ne (Or.inr (hw _ (List.mem_of_getElem? (i := 18) rfl))) (Or.inr (hw _ (List.mem_of_getElem? (i := 14) rfl))) (by decide) (t := (.array .int)) (t' := (.object "com/example/vector_space_ranker/vectorspaceranker/Analysis")) (by decide) (by decide)))
  have F_terms_a := F_terms_a.other W2 (Or.inr (slot_ne (Or.inr (hw _ (List.mem_of_getElem? (i := 20) rfl))) (Or.inr (hw _ (List.mem_of_getElem? (i := 14) rfl))) (by decide) (t := (.array (.object "java/lang/String"))) (t' := (.object "com/example/vector_space_ranker/vectorspaceranker/Analysis")) (by decide) (by decide)))
  have F_postingStarts_a := F_postingStarts_a.other W2 (Or.inr (slot_ne (Or.inr (hw _ (List.mem_of_getElem? (i := 22) rfl))) (Or.inr (hw _ (List.mem_of_getElem? (i := 14) rfl))) (by decide) (t := (.array .int)) (t' := (.object "com/example/vector_space_ranker/vectorspaceranker/Analysis")) (by decide) (by decide)))
  have F_postingDocuments_a := F_postingDocuments_a.other W2 (Or.inr (slot_ne (Or.inr (hw _ (List.mem_of_getElem? (i := 24) rfl))) (Or.inr (hw _ (List.mem_of_getElem? (i := 14) rfl))) (by decide) (t := (.array .int)) (t' := (.object "com/example/vector_space_ranker/vectorspaceranker/Analysis")) (by decide) (by decide)))
  have F_postingFrequencies_a := F_postingFrequencies_a.other W2 (Or.inr (slot_ne (Or.inr (hw _ (List.mem_of_getElem? (i := 26) rfl))) (Or.inr (hw _ (List.mem_of_getElem? (i := 14) rfl))) (by decide) (t := (.array .int)) (t' := (.object "com/example/vector_space_ranker/vectorspaceranker/Analysis")) (by decide) (by decide)))
  have F_tokenCount_a := F_tokenCount_a.other W2 (Or.inr (slot_ne (Or.inr (hw _ (List.mem_of_getElem? (i := 28) rfl))) (Or.inr (hw _ (List.mem_of_getElem? (i := 14) rfl))) (by decide) (t := .long) (t' := (.object "com/example/vector_space_ranker/vectorspaceranker/Analysis")) (by decide) (by decide)))
  have K := K.wr W2 (Or.inl (by simp))
  have Ksz := K.1
  have Z0 := Nat.le_trans Z0 (Keep.of_wr W2).1
  show G T2 (mkF m 9 #[.val (.ref a), .val .null, .val (.ref a2), .val (.ref a3), .val (.ref a4), .val (.ref a5), .val (.ref a6), .val (.ref a7), .val (.long q8), .second] [])
  refine hs.go (fun _ kk_ => XS.aloadN X2.here hx rfl (hb hby d1_9) rfl rfl kk_) ?_
  show G T2 (mkF m 10 #[.val (.ref a), .val .null, .val (.ref a2), .val (.ref a3), .val (.ref a4), .val (.ref a5), .val (.ref a6), .val (.ref a7), .val (.long q8), .second] [(.ref a)])
  refine hs.go (fun _ kk_ => XS.aloadN X2.here hx rfl (hb hby d1_10) rfl rfl kk_) ?_
  show G T2 (mkF m 11 #[.val (.ref a), .val .null, .val (.ref a2), .val (.ref a3), .val (.ref a4), .val (.ref a5), .val (.ref a6), .val (.ref a7), .val (.long q8), .second] [(.ref a2), (.ref a)])
  refine rPutF hs X2 hx hZ (.array (.object "java/lang/String")) hown (host := "") (Or.inl (hw _ (List.mem_of_getElem? (i := 15) rfl))) Via.refl F_docnos_a E_a g_a (Or.inr ⟨(hw _ (List.mem_of_getElem? (i := 16) rfl)), rfl, hnm⟩) (hw _ (List.mem_of_getElem? (i := 3) rfl)) (by decide) rfl rfl rfl rfl (hb hby d1_11) (fun T3 h3 X3 W3 F_docnos_a => ?_)
  have E_a := E_a.wr W3
  have F_characterLengths_a := F_characterLengths_a.other W3 (Or.inr (slot_ne (Or.inr (hw _ (List.mem_of_getElem? (i := 18) rfl))) (Or.inr (hw _ (List.mem_of_getElem? (i := 16) rfl))) (by decide) (t := (.array .int)) (t' := (.array (.object "java/lang/String"))) (by decide) (by decide)))
  have F_terms_a := F_terms_a.other W3 (Or.inr (slot_ne (Or.inr (hw _ (List.mem_of_getElem? (i := 20) rfl))) (Or.inr (hw _ (List.mem_of_getElem? (i := 16) rfl))) (by decide) (t := (.array (.object "java/lang/String"))) (t' := (.array (.object "java/lang/String"))) (by decide) (by decide)))
  have F_postingStarts_a := F_postingStarts_a.other W3 (Or.inr (slot_ne (Or.inr (hw _ (List.mem_of_getElem? (i := 22) rfl))) (Or.inr (hw _ (List.mem_of_getElem? (i := 16) rfl))) (by decide) (t := (.array .int)) (t' := (.array (.object "java/lang/String"))) (by decide) (by decide)))
  have F_postingDocuments_a := F_postingDocuments_a.other W3 (Or.inr (slot_ne (Or.inr (hw _ (List.mem_of_getElem? (i := 24) rfl))) (Or.inr (hw _ (List.mem_of_getElem? (i := 16) rfl))) (by decide) (t := (.array .int)) (t' := (.array (.object "java/lang/String"))) (by decide) (by decide)))
  have F_postingFrequencies_a := F_postingFrequencies_a.other W3 (Or.inr (slot_ne (Or.inr (hw _ (List.mem_of_getElem? (i := 26) rfl))) (Or.inr (hw _ (List.mem_of_getElem? (i := 16) rfl))) (by decide) (t := (.array .int)) (t' := (.array (.object "java/lang/String"))) (by decide) (by decide)))
  have F_tokenCount_a := F_tokenCount_a.other W3 (Or.inr (slot_ne (Or.inr (hw _ (List.mem_of_getElem? (i := 28) rfl))) (Or.inr (hw _ (List.mem_of_getElem? (i := 16) rfl))) (by decide) (t := .long) (t' := (.array (.object "java/lang/String"))) (by decide) (by decide)))
  have K := K.wr W3 (Or.inl (by simp))
  have Ksz := K.1
  have Z0 := Nat.le_trans Z0 (Keep.of_wr W3).1
  show G T3 (mkF m 14 #[.val (.ref a), .val .null, .val (.ref a2), .val (.ref a3), .val (.ref a4), .val (.ref a5), .val (.ref a6), .val (.ref a7), .val (.long q8), .second] [])
  refine hs.go (fun _ kk_ => XS.aloadN X3.here hx rfl (hb hby d1_14) rfl rfl kk_) ?_
  show G T3 (mkF m 15 #[.val (.ref a), .val .null, .val (.ref a2), .val (.ref a3), .val (.ref a4), .val (.ref a5), .val (.ref a6), .val (.ref a7), .val (.long q8), .second] [(.ref a)])
  refine hs.go (fun _ kk_ => XS.aloadN X3.here hx rfl (hb hby d1_15) rfl rfl kk_) ?_
  show G T3 (mkF m 16 #[.val (.ref a), .val .null, .val (.ref a2), .val (.ref a3), .val (.ref a4), .val (.ref a5), .val (.ref a6), .val (.ref a7), .val (.long q8), .second] [(.ref a3), (.ref a)])
  refine rPutF hs X3 hx hZ (.array .int) hown (host := "") (Or.inl (hw _ (List.mem_of_getElem? (i := 17) rfl))) Via.refl F_characterLengths_a E_a g_a (Or.inr ⟨(hw _ (List.mem_of_getElem? (i := 18) rfl)), rfl, hnm⟩) (hw _ (List.mem_of_getElem? (i := 3) rfl)) (by decide) rfl rfl rfl rfl (hb hby d1_16) (fun T4 h4 X4 W4 F_characterLengths_a => ?_)
  have E_a := E_a.wr W4
  have F_terms_a := F_terms_a.other W4 (Or.inr (slot_ne (Or.inr (hw _ (List.mem_of_getElem? (i := 20) rfl))) (Or.inr (hw _ (List.mem_of_getElem? (i := 18) rfl))) (by decide) (t := (.array (.object "java/lang/String"))) (t' := (.array .int)) (by decide) (by decide)))
  have F_postingStarts_a := F_postingStarts_a.other W4 (Or.inr (slot_ne (Or.inr (hw _ (List.mem_of_getElem? (i := 22) rfl))) (Or.inr (hw _ (List.mem_of_getElem? (i := 18) rfl))) (by decide) (t := (.array .int)) (t' := (.array .int)) (by decide) (by decide)))
  have F_postingDocuments_a := F_postingDocuments_a.other W4 (Or.inr (slot_ne (Or.inr (hw _ (List.mem_of_getElem? (i := 24) rfl))) (Or.inr (hw _ (List.mem_of_getElem? (i := 18) rfl))) (by decide) (t := (.array .int)) (t' := (.array .int)) (by decide) (by decide)))
  have F_postingFrequencies_a := F_postingFrequencies_a.other W4 (Or.inr (slot_ne (Or.inr (hw _ (List.mem_of_getElem? (i := 26) rfl))) (Or.inr (hw _ (List.mem_of_getElem? (i := 18) rfl))) (by decide) (t := (.array .int)) (t' := (.array .int)) (by decide) (by decide)))
  have F_tokenCount_a := F_tokenCount_a.other W4 (Or.inr (slot_ne (Or.inr (hw _ (List.mem_of_getElem? (i := 28) rfl))) (Or.inr (hw _ (List.mem_of_getElem? (i := 18) rfl))) (by decide) (t := .long) (t' := (.array .int)) (by decide) (by decide)))
  have K := K.wr W4 (Or.inl (by simp))
  have Ksz := K.1
  have Z0 := Nat.le_trans Z0 (Keep.of_wr W4).1
  show G T4 (mkF m 19 #[.val (.ref a), .val .null, .val (.ref a2), .val (.ref a3), .val (.ref a4), .val (.ref a5), .val (.ref a6), .val (.ref a7), .val (.long q8), .second] [])
  refine hs.go (fun _ kk_ => XS.aloadN X4.here hx rfl (hb hby d1_19) rfl rfl kk_) ?_
  show G T4 (mkF m 20 #[.val (.ref a), .val .null, .val (.ref a2), .val (.ref a3), .val (.ref a4), .val (.ref a5), .val (.ref a6), .val (.ref a7), .val (.long q8), .second] [(.ref a)])
  refine hs.go (fun _ kk_ => XS.aload X4.here hx rfl (hb hby d1_20) rfl rfl kk_) ?_
  show G T4 (mkF m 22 #[.val (.ref a), .val .null, .val (.ref a2), .val (.ref a3), .val (.ref a4), .val (.ref a5), .val (.ref a6), .val (.ref a7), .val (.long q8), .second] [(.ref a4), (.ref a)])
  refine rPutF hs X4 hx hZ (.array (.object "java/lang/String")) hown (host := "") (Or.inl (hw _ (List.mem_of_getElem? (i := 19) rfl))) Via.refl F_terms_a E_a g_a (Or.inr ⟨(hw _ (List.mem_of_getElem? (i := 20) rfl)), rfl, hnm⟩) (hw _ (List.mem_of_getElem? (i := 3) rfl)) (by decide) rfl rfl rfl rfl (hb hby d1_22) (fun T5 h5 X5 W5 F_terms_a => ?_)
  have E_a := E_a.wr W5
  have F_postingStarts_a := F_postingStarts_a.other W5 (Or.inr (slot_ne (Or.inr (hw _ (List.mem_of_getElem? (i := 22) rfl))) (Or.inr (hw _ (List.mem_of_getElem? (i := 20) rfl))) (by decide) (t := (.array .int)) (t' := (.array (.object "java/lang/String"))) (by decide) (by decide)))
  have F_postingDocuments_a := F_postingDocuments_a.other W5 (Or.inr (slot_ne (Or.inr (hw _ (List.mem_of_getElem? (i := 24) rfl))) (Or.inr (hw _ (List.mem_of_getElem? (i := 20) rfl))) (by decide) (t := (.array .int)) (t' := (.array (.object "java/lang/String"))) (by decide) (by decide)))
  have F_postingFrequencies_a := F_postingFrequencies_a.other W5 (Or.inr (slot_ne (Or.inr (hw _ (List.mem_of_getElem? (i := 26) rfl))) (Or.inr (hw _ (List.mem_of_getElem? (i := 20) rfl))) (by decide) (t := (.array .int)) (t' := (.array (.object "java/lang/String"))) (by decide) (by decide)))
  have F_tokenCount_a := F_tokenCount_a.other W5 (Or.inr (slot_ne (Or.inr (hw _ (List.mem_of_getElem? (i := 28) rfl))) (Or.inr (hw _ (List.mem_of_getElem? (i := 20) rfl))) (by decide) (t := .long) (t' := (.array (.object "java/lang/String"))) (by decide) (by decide)))
  have K := K.wr W5 (Or.inl (by simp))
  have Ksz := K.1
  have Z0 := Nat.le_trans Z0 (Keep.of_wr W5).1
  show G T5 (mkF m 25 #[.val (.ref a), .val .null, .val (.ref a2), .val (.ref a3), .val (.ref a4), .val (.ref a5), .val (.ref a6), .val (.ref a7), .val (.long q8), .second] [])
  refine hs.go (fun _ kk_ => XS.aloadN X5.here hx rfl (hb hby d1_25) rfl rfl kk_) ?_
  show G T5 (mkF m 26 #[.val (.ref a), .val .null, .val (.ref a2), .val (.ref a3), .val (.ref a4), .val (.ref a5), .val (.ref a6), .val (.ref a7), .val (.long q8), .second] [(.ref a)])
  refine hs.go (fun _ kk_ => XS.aload X5.here hx rfl (hb hby d1_26) rfl rfl kk_) ?_
  show G T5 (mkF m 28 #[.val (.ref a), .val .null, .val (.ref a2), .val (.ref a3), .val (.ref a4), .val (.ref a5), .val (.ref a6), .val (.ref a7), .val (.long q8), .second] [(.ref a5), (.ref a)])
  refine rPutF hs X5 hx hZ (.array .int) hown (host := "") (Or.inl (hw _ (List.mem_of_getElem? (i := 21) rfl))) Via.refl F_postingStarts_a E_a g_a (Or.inr ⟨(hw _ (List.mem_of_getElem? (i := 22) rfl)), rfl, hnm⟩) (hw _ (List.mem_of_getElem? (i := 3) rfl)) (by decide) rfl rfl rfl rfl (hb hby d1_28) (fun T6 h6 X6 W6 F_postingStarts_a => ?_)
  have E_a := E_a.wr W6
  have F_postingDocuments_a := F_postingDocuments_a.other W6 (Or.inr (slot_ne (Or.inr (hw _ (List.mem_of_getElem? (i := 24) rfl))) (Or.inr (hw _ (List.mem_of_getElem? (i := 22) rfl))) (by decide) (t := (.array .int)) (t' := (.array .int)) (by decide) (by decide)))
  have F_postingFrequencies_a := F_postingFrequencies_a.other W6 (Or.inr (slot_ne (Or.inr (hw _ (List.mem_of_getElem? (i := 26) rfl))) (Or.inr (hw _ (List.mem_of_getElem? (i := 22) rfl))) (by decide) (t := (.array .int)) (t' := (.array .int)) (by decide) (by decide)))
  have F_tokenCount_a := F_tokenCount_a.other W6 (Or.inr (slot_ne (Or.inr (hw _ (List.mem_of_getElem? (i := 28) rfl))) (Or.inr (hw _ (List.mem_of_getElem? (i := 22) rfl))) (by decide) (t := .long) (t' := (.array .int)) (by decide) (by decide)))
  have K := K.wr W6 (Or.inl (by simp))
  have Ksz := K.1
  have Z0 := Nat.le_trans Z0 (Keep.of_wr W6).1
  show G T6 (mkF m 31 #[.val (.ref a), .val .null, .val (.ref a2), .val (.ref a3), .val (.ref a4), .val (.ref a5), .val (.ref a6), .val (.ref a7), .val (.long q8), .second] [])
  refine hs.go (fun _ kk_ => XS.aloadN X6.here hx rfl (hb hby d1_31) rfl rfl kk_) ?_
  show G T6 (mkF m 32 #[.val (.ref a), .val .null, .val (.ref a2), .val (.ref a3), .val (.ref a4), .val (.ref a5), .val (.ref a6), .val (.ref a7), .val (.long q8), .second] [(.ref a)])
  refine hs.go (fun _ kk_ => XS.aload X6.here hx rfl (hb hby d1_32) rfl rfl kk_) ?_
  show G T6 (mkF m 34 #[.val (.ref a), .val .null, .val (.ref a2), .val (.ref a3), .val (.ref a4), .val (.ref a5), .val (.ref a6), .val (.ref a7), .val (.long q8), .second] [(.ref a6), (.ref a)])
  refine rPutF hs X6 hx hZ (.array .int) hown (host := "") (Or.inl (hw _ (List.mem_of_getElem? (i := 23) rfl))) Via.refl F_postingDocuments_a E_a g_a (Or.inr ⟨(hw _ (List.mem_of_getElem? (i := 24) rfl)), rfl, hnm⟩) (hw _ (List.mem_of_getElem? (i := 3) rfl)) (by decide) rfl rfl rfl rfl (hb hby d1_34) (fun T7 h7 X7 W7 F_postingDocuments_a => ?_)
  have E_a := E_a.wr W7
  have F_postingStarts_a := F_postingStarts_a.other W7 (Or.inr (slot_ne (Or.inr (hw _ (List.mem_of_getElem? (i := 22) rfl))) (Or.inr (hw _ (List.mem_of_getElem? (i := 24) rfl))) (by decide) (t := (.array .int)) (t' := (.array .int)) (by decide) (by decide)))
  have F_postingFrequencies_a := F_postingFrequencies_a.other W7 (Or.inr (slot_ne (Or.inr (hw _ (List.mem_of_getElem? (i := 26) rfl))) (Or.inr (hw _ (List.mem_of_getElem? (i := 24) rfl))) (by decide) (t := (.array .int)) (t' := (.array .int)) (by decide) (by decide)))
  have F_tokenCount_a := F_tokenCount_a.other W7 (Or.inr (slot_ne (Or.inr (hw _ (List.mem_of_getElem? (i := 28) rfl))) (Or.inr (hw _ (List.mem_of_getElem? (i := 24) rfl))) (by decide) (t := .long) (t' := (.array .int)) (by decide) (by decide)))
  have K := K.wr W7 (Or.inl (by simp))
  have Ksz := K.1
  have Z0 := Nat.le_trans Z0 (Keep.of_wr W7).1
  show G T7 (mkF m 37 #[.val (.ref a), .val .null, .val (.ref a2), .val (.ref a3), .val (.ref a4), .val (.ref a5), .val (.ref a6), .val (.ref a7), .val (.long q8), .second] [])
  refine hs.go (fun _ kk_ => XS.aloadN X7.here hx rfl (hb hby d1_37) rfl rfl kk_) ?_
  show G T7 (mkF m 38 #[.val (.ref a), .val .null, .val (.ref a2), .val (.ref a3), .val (.ref a4), .val (.ref a5), .val (.ref a6), .val (.ref a7), .val (.long q8), .second] [(.ref a)])
  refine hs.go (fun _ kk_ => XS.aload X7.here hx rfl (hb hby d1_38) rfl rfl kk_) ?_
  show G T7 (mkF m 40 #[.val (.ref a), .val .null, .val (.ref a2), .val (.ref a3), .val (.ref a4), .val (.ref a5), .val (.ref a6), .val (.ref a7), .val (.long q8), .second] [(.ref a7), (.ref a)])
  refine rPutF hs X7 hx hZ (.array .int) hown (host := "") (Or.inl (hw _ (List.mem_of_getElem? (i := 25) rfl))) Via.refl F_postingFrequencies_a E_a g_a (Or.inr ⟨(hw _ (List.mem_of_getElem? (i := 26) rfl)), rfl, hnm⟩) (hw _ (List.mem_of_getElem? (i := 3) rfl)) (by decide) rfl rfl rfl rfl (hb hby d1_40) (fun T8 h8 X8 W8 F_postingFrequencies_a => ?_)
  have E_a := E_a.wr W8
  have F_postingStarts_a := F_postingStarts_a.other W8 (Or.inr (slot_ne (Or.inr (hw _ (List.mem_of_getElem? (i := 22) rfl))) (Or.inr (hw _ (List.mem_of_getElem? (i := 26) rfl))) (by decide) (t := (.array .int)) (t' := (.array .int)) (by decide) (by decide)))
  have F_tokenCount_a := F_tokenCount_a.other W8 (Or.inr (slot_ne (Or.inr (hw _ (List.mem_of_getElem? (i := 28) rfl))) (Or.inr (hw _ (List.mem_of_getElem? (i := 26) rfl))) (by decide) (t := .long) (t' := (.array .int)) (by decide) (by decide)))
  have K := K.wr W8 (Or.inl (by simp))
  have Ksz := K.1
  have Z0 := Nat.le_trans Z0 (Keep.of_wr W8).1
  show G T8 (mkF m 43 #[.val (.ref a), .val .null, .val (.ref a2), .val (.ref a3), .val (.ref a4), .val (.ref a5), .val (.ref a6), .val (.ref a7), .val (.long q8), .second] [])
  refine hs.go (fun _ kk_ => XS.aloadN X8.here hx rfl (hb hby d1_43) rfl rfl kk_) ?_
  show G T8 (mkF m 44 #[.val (.ref a), .val .null, .val (.ref a2), .val (.ref a3), .val (.ref a4), .val (.ref a5), .val (.ref a6), .val (.ref a7), .val (.long q8), .second] [(.ref a)])
  refine hs.go (fun _ kk_ => XS.lload X8.here hx rfl (hb hby d1_44) rfl  kk_) ?_
  show G T8 (mkF m 46 #[.val (.ref a), .val .null, .val (.ref a2), .val (.ref a3), .val (.ref a4), .val (.ref a5), .val (.ref a6), .val (.ref a7), .val (.long q8), .second] [(.long q8), (.ref a)])
  refine rPutF hs X8 hx hZ .long hown (host := "") (Or.inl (hw _ (List.mem_of_getElem? (i := 27) rfl))) Via.refl F_tokenCount_a E_a g_a (Or.inr ⟨(hw _ (List.mem_of_getElem? (i := 28) rfl)), rfl, hnm⟩) (hw _ (List.mem_of_getElem? (i := 3) rfl)) (by decide) rfl rfl rfl rfl (hb hby d1_46) (fun T9 h9 X9 W9 F_tokenCount_a => ?_)
  have E_a := E_a.wr W9
  have F_postingStarts_a := F_postingStarts_a.other W9 (Or.inr (slot_ne (Or.inr (hw _ (List.mem_of_getElem? (i := 22) rfl))) (Or.inr (hw _ (List.mem_of_getElem? (i := 28) rfl))) (by decide) (t := (.array .int)) (t' := .long) (by decide) (by decide)))
  have F_postingFrequencies_a := F_postingFrequencies_a.other W9 (Or.inr (slot_ne (Or.inr (hw _ (List.mem_of_getElem? (i := 26) rfl))) (Or.inr (hw _ (List.mem_of_getElem? (i := 28) rfl))) (by decide) (t := (.array .int)) (t' := .long) (by decide) (by decide)))
  have K := K.wr W9 (Or.inl (by simp))
  have Ksz := K.1
  have Z0 := Nat.le_trans Z0 (Keep.of_wr W9).1
  show G T9 (mkF m 49 #[.val (.ref a), .val .null, .val (.ref a2), .val (.ref a3), .val (.ref a4), .val (.ref a5), .val (.ref a6), .val (.ref a7), .val (.long q8), .second] [])
  exact rRetV fin X9 hx (by decide) (by decide) hret (hb hby d1_49) ⟨rfl, K, E_a, F_postingStarts_a, F_postingFrequencies_a⟩
theorem d4_0 : decode prog_14_method_16_code 0 = .ok (.aload_n 0, 1) := by decide +kernel
theorem d4_1 : decode prog_14_method_16_code 1 = .ok (.getfield 26, 3) := by decide +kernel
theorem d4_4 : decode prog_14_method_16_code 4 = .ok (.iload_n 1, 1) := by decide +kernel
theorem d4_5 : decode prog_14_method_16_code 5 = .ok (.iaload, 1) := by decide +kernel
theorem d4_6 : decode prog_14_method_16_code 6 = .ok (.ireturn, 1) := by decide +kernel
theorem pn_4 : plainFor (⟨"com/example/vector_space_ranker/vectorspaceranker/Index", "postingsStart", "(I)I"⟩ : MethodName) = true := plainFor_of_name (by first | (simp [plainName, overriddenIn]; done) | decide +kernel)
theorem ef_4 (m : MethodId) (x0 : Addr) (x1 : Int32) : entryFrame m #[(.ref x0), (.int x1)] 2 = mkF m 0 #[.val (.ref x0), .val (.int x1)] [] := by first | (simp [entryFrame, mkF, argsToLocals, Value.category]; done) | rfl
theorem hy_4 : ((⟨"com/example/vector_space_ranker/vectorspaceranker/Index", "postingsStart", "(I)I"⟩ : MethodName)).cls ≠ "java/lang/invoke/MethodHandle" ∧ ((⟨"com/example/vector_space_ranker/vectorspaceranker/Index", "postingsStart", "(I)I"⟩ : MethodName)).cls ≠ "java/lang/invoke/VarHandle" := by decide
set_option maxRecDepth 65536 in
set_option maxHeartbeats 40000000 in
theorem rm4 (l : Launch) (Z : State) (a0 : Array Value) (hw : ∀ d ∈ tables_1, d.before a0 Z = true) (ws : List Jvm.Cond) (a sa : Addr) (pp x z : Int32) (vs : List Value) (dv : Value) (kc : ClassId) (h0 : Heap) (n0 : Nat) (Z0 : n0 ≤ h0.size) (F_postingStarts_a : Fld Z h0 a "com/example/vector_space_ranker/vectorspaceranker/Index" "postingStarts" "[I" (.ref sa)) (V_sa : Arv Z h0 sa kc .int z vs dv) (hj : ¬ pp < 0 ∧ pp < z) (hv : vs.getD pp.toNatClampNeg dv = .int x) :
    Con l Z (⟨"com/example/vector_space_ranker/vectorspaceranker/Index", "postingsStart", "(I)I"⟩ : MethodName) prog_14_method_16_code 2 (some .int) ws ({ frames := 0, cells := 0, slots := 0, locals := 0 } : Room) #[(.ref a), (.int pp)] h0 n0 (fun v h => v = some (.int x) ∧ h = h0) := by
  refine Con.of pn_4 ?_
  intro G p e s m below meth c s₁ hs hx hby hml hown hnm hret hZ X0 fin
  have hml : c.maxLocals = 2 := hml
  have hown : s.vm.findClass "com/example/vector_space_ranker/vectorspaceranker/Index" = some m.cls := hown
  rw [ef_4]
  show G s₁ (mkF m 0 #[.val (.ref a), .val (.int pp)] [])
  refine hs.go (fun _ kk_ => XS.aloadN X0.here hx rfl (hb hby d4_0) rfl rfl kk_) ?_
  show G s₁ (mkF m 1 #[.val (.ref a), .val (.int pp)] [(.ref a)])
  refine rGetF hs X0 hx hZ hown (host := "") (Or.inl (hw _ (List.mem_of_getElem? (i := 21) rfl))) Via.refl F_postingStarts_a rfl rfl (hb hby d4_1) (fun T1 X1 => ?_)
  show G T1 (mkF m 4 #[.val (.ref a), .val (.int pp)] [(.ref sa)])
  refine hs.go (fun _ kk_ => XS.iloadN X1.here hx rfl (hb hby d4_4) rfl  kk_) ?_
  show G T1 (mkF m 5 #[.val (.ref a), .val (.int pp)] [(.int pp), (.ref sa)])
  refine rLdI hs X1 hx hZ V_sa hj (v := (.int x)) hv rfl rfl (hb hby d4_5) ?_
  show G T1 (mkF m 6 #[.val (.ref a), .val (.int pp)] [(.int x)])
  exact rRetI fin X1 hx (by decide) (by decide) hret (hb hby d4_6) ⟨rfl, rfl⟩
theorem d5_0 : decode prog_14_method_17_code 0 = .ok (.aload_n 0, 1) := by decide +kernel
theorem d5_1 : decode prog_14_method_17_code 1 = .ok (.getfield 26, 3) := by decide +kernel
theorem d5_4 : decode prog_14_method_17_code 4 = .ok (.iload_n 1, 1) := by decide +kernel
theorem d5_5 : decode prog_14_method_17_code 5 = .ok (.iconst 1, 1) := by decide +kernel
theorem d5_6 : decode prog_14_method_17_code 6 = .ok (.iadd, 1) := by decide +kernel
theorem d5_7 : decode prog_14_method_17_code 7 = .ok (.iaload, 1) := by decide +kernel
theorem d5_8 : decode prog_14_method_17_code 8 = .ok (.ireturn, 1) := by decide +kernel
theorem pn_5 : plainFor (⟨"com/example/vector_space_ranker/vectorspaceranker/Index", "postingsEnd", "(I)I"⟩ : MethodName) = true := plainFor_of_name (by first | (simp [plainName, overriddenIn]; done) | decide +kernel)
theorem ef_5 (m : MethodId) (x0 : Addr) (x1 : Int32) : entryFrame m #[(.ref x0), (.int x1)] 2 = mkF m 0 #[.val (.ref x0), .val (.int x1)] [] := by first | (simp [entryFrame, mkF, argsToLocals, Value.category]; done) | rfl
theorem hy_5 : ((⟨"com/example/vector_space_ranker/vectorspaceranker/Index", "postingsEnd", "(I)I"⟩ : MethodName)).cls ≠ "java/lang/invoke/MethodHandle" ∧ ((⟨"com/example/vector_space_ranker/vectorspaceranker/Index", "postingsEnd", "(I)I"⟩ : MethodName)).cls ≠ "java/lang/invoke/VarHandle" := by decide
set_option maxRecDepth 65536 in
set_option maxHeartbeats 40000000 in
theorem rm5 (l : Launch) (Z : State) (a0 : Array Value) (hw : ∀ d ∈ tables_1, d.before a0 Z = true) (ws : List Jvm.Cond) (a sa : Addr) (pp x z : Int32) (vs : List Value) (dv : Value) (kc : ClassId) (h0 : Heap) (n0 : Nat) (Z0 : n0 ≤ h0.size) (F_postingStarts_a : Fld Z h0 a "com/example/vector_space_ranker/vectorspaceranker/Index" "postingStarts" "[I" (.ref sa)) (V_sa : Arv Z h0 sa kc .int z vs dv) (hj : ¬ (pp + (1 : Int32)) < 0 ∧ (pp + (1 : Int32)) < z) (hv : vs.getD (pp + (1 : Int32)).toNatClampNeg dv = .int x) :
    Con l Z (⟨"com/example/vector_space_ranker/vectorspaceranker/Index", "postingsEnd", "(I)I"⟩ : MethodName) prog_14_method_17_code 2 (some .int) ws ({ frames := 0, cells := 0, slots := 0, locals := 0 } : Room) #[(.ref a), (.int pp)] h0 n0 (fun v h => v = some (.int x) ∧ h = h0) := by
  refine Con.of pn_5 ?_
  intro G p e s m below meth c s₁ hs hx hby hml hown hnm hret hZ X0 fin
  have hml : c.maxLocals = 2 := hml
  have hown : s.vm.findClass "com/example/vector_space_ranker/vectorspaceranker/Index" = some m.cls := hown
  rw [ef_5]
  show G s₁ (mkF m 0 #[.val (.ref a), .val (.int pp)] [])
  refine hs.go (fun _ kk_ => XS.aloadN X0.here hx rfl (hb hby d5_0) rfl rfl kk_) ?_
  show G s₁ (mkF m 1 #[.val (.ref a), .val (.int pp)] [(.ref a)])
  refine rGetF hs X0 hx hZ hown (host := "") (Or.inl (hw _ (List.mem_of_getElem? (i := 21) rfl))) Via.refl F_postingStarts_a rfl rfl (hb hby d5_1) (fun T1 X1 => ?_)
  show G T1 (mkF m 4 #[.val (.ref a), .val (.int pp)] [(.ref sa)])
  refine hs.go (fun _ kk_ => XS.iloadN X1.here hx rfl (hb hby d5_4) rfl  kk_) ?_
  show G T1 (mkF m 5 #[.val (.ref a), .val (.int pp)] [(.int pp), (.ref sa)])
  refine hs.go (fun _ kk_ => XS.iconst X1.here hx rfl (hb hby d5_5) kk_) ?_
  show G T1 (mkF m 6 #[.val (.ref a), .val (.int pp)] [(.int (1 : Int32)), (.int pp), (.ref sa)])
  refine hs.go (fun _ kk_ => XS.iadd X1.here hx rfl (hb hby d5_6) rfl kk_) ?_
  show G T1 (mkF m 7 #[.val (.ref a), .val (.int pp)] [(.int (pp + (1 : Int32))), (.ref sa)])
  refine rLdI hs X1 hx hZ V_sa hj (v := (.int x)) hv rfl rfl (hb hby d5_7) ?_
  show G T1 (mkF m 8 #[.val (.ref a), .val (.int pp)] [(.int x)])
  exact rRetI fin X1 hx (by decide) (by decide) hret (hb hby d5_8) ⟨rfl, rfl⟩
def f4 (f : Int32) (ps : Int32) (lo : Int32) (hi : Int32) : Int64 := (if ps < lo then (0 : Int64) else (if ps < hi then (f.toInt64) else (0 : Int64)))
theorem d6_0 : decode method_3_code 0 = .ok (.iload_n 2, 1) := by decide +kernel
theorem d6_1 : decode method_3_code 1 = .ok (.iload_n 1, 1) := by decide +kernel
theorem d6_2 : decode method_3_code 2 = .ok (.if_icmp .gt 11, 3) := by decide +kernel
theorem d6_5 : decode method_3_code 5 = .ok (.iload_n 1, 1) := by decide +kernel
theorem d6_6 : decode method_3_code 6 = .ok (.iload_n 3, 1) := by decide +kernel
theorem d6_7 : decode method_3_code 7 = .ok (.if_icmp .ge 6, 3) := by decide +kernel
theorem d6_10 : decode method_3_code 10 = .ok (.iload_n 0, 1) := by decide +kernel
theorem d6_11 : decode method_3_code 11 = .ok (.i2l, 1) := by decide +kernel
theorem d6_12 : decode method_3_code 12 = .ok (.lreturn, 1) := by decide +kernel
theorem d6_13 : decode method_3_code 13 = .ok (.lconst 0, 1) := by decide +kernel
theorem d6_14 : decode method_3_code 14 = .ok (.lreturn, 1) := by decide +kernel
theorem pn_6 : plainFor (⟨"com/example/vector_space_ranker/vectorspaceranker/IndexCollectionFrequencyPinLaw", "part", "(IIII)J"⟩ : MethodName) = true := plainFor_of_name (by first | (simp [plainName, overriddenIn]; done) | decide +kernel)
theorem ef_6 (m : MethodId) (x0 : Int32) (x1 : Int32) (x2 : Int32) (x3 : Int32) : entryFrame m #[(.int x0), (.int x1), (.int x2), (.int x3)] 4 = mkF m 0 #[.val (.int x0), .val (.int x1), .val (.int x2), .val (.int x3)] [] := by first | (simp [entryFrame, mkF, argsToLocals, Value.category]; done) | rfl
theorem hy_6 : ((⟨"com/example/vector_space_ranker/vectorspaceranker/IndexCollectionFrequencyPinLaw", "part", "(IIII)J"⟩ : MethodName)).cls ≠ "java/lang/invoke/MethodHandle" ∧ ((⟨"com/example/vector_space_ranker/vectorspaceranker/IndexCollectionFrequencyPinLaw", "part", "(IIII)J"⟩ : MethodName)).cls ≠ "java/lang/invoke/VarHandle" := by decide
set_option maxRecDepth 65536 in
set_option maxHeartbeats 40000000 in
theorem rm6 (l : Launch) (Z : State) (a0 : Array Value) (hw : ∀ d ∈ tables_1, d.before a0 Z = true) (ws : List Jvm.Cond) (f : Int32) (ps : Int32) (lo : Int32) (hi : Int32) (h0 : Heap) (n0 : Nat) (Z0 : n0 ≤ h0.size)  :
    Con l Z (⟨"com/example/vector_space_ranker/vectorspaceranker/IndexCollectionFrequencyPinLaw", "part", "(IIII)J"⟩ : MethodName) method_3_code 4 (some .long) ws ({ frames := 0, cells := 0, slots := 0, locals := 0 } : Room) #[(.int f), (.int ps), (.int lo), (.int hi)] h0 n0 (fun v h => v = some (.long (f4 f ps lo hi)) ∧ h = h0) := by
  refine Con.of pn_6 ?_
  intro G p e s m below meth c s₁ hs hx hby hml hown hnm hret hZ X0 fin
  have hml : c.maxLocals = 4 := hml
  have hown : s.vm.findClass "com/example/vector_space_ranker/vectorspaceranker/IndexCollectionFrequencyPinLaw" = some m.cls := hown
  rw [ef_6]
  show G s₁ (mkF m 0 #[.val (.int f), .val (.int ps), .val (.int lo), .val (.int hi)] [])
  refine hs.go (fun _ kk_ => XS.iloadN X0.here hx rfl (hb hby d6_0) rfl  kk_) ?_
  show G s₁ (mkF m 1 #[.val (.int f), .val (.int ps), .val (.int lo), .val (.int hi)] [(.int lo)])
  refine hs.go (fun _ kk_ => XS.iloadN X0.here hx rfl (hb hby d6_1) rfl  kk_) ?_
  show G s₁ (mkF m 2 #[.val (.int f), .val (.int ps), .val (.int lo), .val (.int hi)] [(.int ps), (.int lo)])
  by_cases c2 : ps < lo
  · refine hs.go (fun _ kk_ => XS.icmpYes X0.here hx rfl (pc0 := 2) (pc' := 13) rfl (hb hby d6_2) rfl (tlt c2).2.2.1 (by decide) (by decide) kk_) ?_
    show G s₁ (mkF m 13 #[.val (.int f), .val (.int ps), .val (.int lo), .val (.int hi)] [])
    refine hs.go (fun _ kk_ => XS.lconst X0.here hx rfl (hb hby d6_13) kk_) ?_
    show G s₁ (mkF m 14 #[.val (.int f), .val (.int ps), .val (.int lo), .val (.int hi)] [(.long (0 : Int64))])
    exact rRetL fin X0 hx (by decide) (by decide) hret (hb hby d6_14) ⟨by rw [f4, if_pos c2], rfl⟩
  · refine hs.go (fun _ kk_ => XS.icmpNo X0.here hx rfl (hb hby d6_2) rfl (flt c2).2.2.1 kk_) ?_
    show G s₁ (mkF m 5 #[.val (.int f), .val (.int ps), .val (.int lo), .val (.int hi)] [])
    refine hs.go (fun _ kk_ => XS.iloadN X0.here hx rfl (hb hby d6_5) rfl  kk_) ?_
    show G s₁ (mkF m 6 #[.val (.int f), .val (.int ps), .val (.int lo), .val (.int hi)] [(.int ps)])
    refine hs.go (fun _ kk_ => XS.iloadN X0.here hx rfl (hb hby d6_6) rfl  kk_) ?_
    show G s₁ (mkF m 7 #[.val (.int f), .val (.int ps), .val (.int lo), .val (.int hi)] [(.int hi), (.int ps)])
    by_cases c7 : ps < hi
    · refine hs.go (fun _ kk_ => XS.icmpNo X0.here hx rfl (hb hby d6_7) rfl (tlt c7).2.1 kk_) ?_
      show G s₁ (mkF m 10 #[.val (.int f), .val (.int ps), .val (.int lo), .val (.int hi)] [])
      refine hs.go (fun _ kk_ => XS.iloadN X0.here hx rfl (hb hby d6_10) rfl  kk_) ?_
      show G s₁ (mkF m 11 #[.val (.int f), .val (.int ps), .val (.int lo), .val (.int hi)] [(.int f)])
      refine hs.go (fun _ kk_ => XS.i2l X0.here hx rfl (hb hby d6_11) rfl kk_) ?_
      show G s₁ (mkF m 12 #[.val (.int f), .val (.int ps), .val (.int lo), .val (.int hi)] [(.long (f.toInt64))])
      exact rRetL fin X0 hx (by decide) (by decide) hret (hb hby d6_12) ⟨by rw [f4, if_neg c2, if_pos c7], rfl⟩
    · refine hs.go (fun _ kk_ => XS.icmpYes X0.here hx rfl (pc0 := 7) (pc' := 13) rfl (hb hby d6_7) rfl (flt c7).2.1 (by decide) (by decide) kk_) ?_
      show G s₁ (mkF m 13 #[.val (.int f), .val (.int ps), .val (.int lo), .val (.int hi)] [])
      refine hs.go (fun _ kk_ => XS.lconst X0.here hx rfl (hb hby d6_13) kk_) ?_
      show G s₁ (mkF m 14 #[.val (.int f), .val (.int ps), .val (.int lo), .val (.int hi)] [(.long (0 : Int64))])
      exact rRetL fin X0 hx (by decide) (by decide) hret (hb hby d6_14) ⟨by rw [f4, if_neg c2, if_neg c7], rfl⟩

def sml (gs : List Int32) (n : Nat) : Nat → Int64 → Int64
  | 0, acc => acc
  | k + 1, acc => sml gs (n + 1) k (acc + (gs.getD n 0).toInt64)
theorem own_at (b0 b1 b2 b3 i : Int32) (n : Nat) (h : i.toInt = n) (h4 : n < 4) : List.getD [Value.int b0, .int b1, .int b2, .int b3] i.toNatClampNeg (.int (0 : Int32)) = .int (List.getD [b0, b1, b2, b3] n 0) := by
  have e : i.toNatClampNeg = n := by simp only [Int32.toNatClampNeg, h]; rfl
  rw [e]
  rcases n with _ | _ | _ | _ | n
  · rfl
  · rfl
  · rfl
  · rfl
  · omega

theorem pd_0 : parseMethodDescriptor "(I)I" = some ⟨[.int], some .int⟩ := by decide +kernel
theorem d3_0 : decode prog_14_method_14_code 0 = .ok (.lconst 0, 1) := by decide +kernel
theorem d3_1 : decode prog_14_method_14_code 1 = .ok (.lstore_n 2, 1) := by decide +kernel
theorem d3_2 : decode prog_14_method_14_code 2 = .ok (.aload_n 0, 1) := by decide +kernel
theorem d3_3 : decode prog_14_method_14_code 3 = .ok (.iload_n 1, 1) := by decide +kernel
theorem d3_4 : decode prog_14_method_14_code 4 = .ok (.invokevirtual 69, 3) := by decide +kernel
theorem d3_7 : decode prog_14_method_14_code 7 = .ok (.istore 4, 2) := by decide +kernel
theorem d3_9 : decode prog_14_method_14_code 9 = .ok (.iload 4, 2) := by decide +kernel
theorem d3_11 : decode prog_14_method_14_code 11 = .ok (.aload_n 0, 1) := by decide +kernel
theorem d3_12 : decode prog_14_method_14_code 12 = .ok (.iload_n 1, 1) := by decide +kernel
theorem d3_13 : decode prog_14_method_14_code 13 = .ok (.invokevirtual 73, 3) := by decide +kernel
theorem d3_16 : decode prog_14_method_14_code 16 = .ok (.if_icmp .ge 20, 3) := by decide +kernel
theorem d3_19 : decode prog_14_method_14_code 19 = .ok (.lload_n 2, 1) := by decide +kernel
theorem d3_20 : decode prog_14_method_14_code 20 = .ok (.aload_n 0, 1) := by decide +kernel
theorem d3_21 : decode prog_14_method_14_code 21 = .ok (.getfield 32, 3) := by decide +kernel
theorem d3_24 : decode prog_14_method_14_code 24 = .ok (.iload 4, 2) := by decide +kernel
theorem d3_26 : decode prog_14_method_14_code 26 = .ok (.iaload, 1) := by decide +kernel
theorem d3_27 : decode prog_14_method_14_code 27 = .ok (.i2l, 1) := by decide +kernel
theorem d3_28 : decode prog_14_method_14_code 28 = .ok (.ladd, 1) := by decide +kernel
theorem d3_29 : decode prog_14_method_14_code 29 = .ok (.lstore_n 2, 1) := by decide +kernel
theorem d3_30 : decode prog_14_method_14_code 30 = .ok (.iinc 4 1, 3) := by decide +kernel
theorem d3_33 : decode prog_14_method_14_code 33 = .ok (.goto (-24), 3) := by decide +kernel
theorem d3_36 : decode prog_14_method_14_code 36 = .ok (.lload_n 2, 1) := by decide +kernel
theorem d3_37 : decode prog_14_method_14_code 37 = .ok (.lreturn, 1) := by decide +kernel
theorem pn_3 : plainFor (⟨"com/example/vector_space_ranker/vectorspaceranker/Index", "collectionFrequency", "(I)J"⟩ : MethodName) = true := plainFor_of_name (by first | (simp [plainName, overriddenIn]; done) | decide +kernel)
theorem ef_3 (m : MethodId) (x0 : Addr) (x1 : Int32) : entryFrame m #[(.ref x0), (.int x1)] 5 = mkF m 0 #[.val (.ref x0), .val (.int x1), .unset, .unset, .unset] [] := by first | (simp [entryFrame, mkF, argsToLocals, Value.category]; done) | rfl
theorem hy_3 : ((⟨"com/example/vector_space_ranker/vectorspaceranker/Index", "collectionFrequency", "(I)J"⟩ : MethodName)).cls ≠ "java/lang/invoke/MethodHandle" ∧ ((⟨"com/example/vector_space_ranker/vectorspaceranker/Index", "collectionFrequency", "(I)J"⟩ : MethodName)).cls ≠ "java/lang/invoke/VarHandle" := by decide
set_option maxRecDepth 65536 in
set_option maxHeartbeats 40000000 in
theorem rm3 (l : Launch) (Z : State) (a0 : Array Value) (hw : ∀ d ∈ tables_1, d.before a0 Z = true) (ws : List Jvm.Cond) (a sa fa : Addr) (pt lo hi z g0 g1 g2 g3 : Int32) (vs : List Value) (dv : Value) (kc kf : ClassId) (n1 k1 : Nat) (h0 : Heap) (n0 : Nat) (Z0 : n0 ≤ h0.size) (E_a : Exa Z h0 a "com/example/vector_space_ranker/vectorspaceranker/Index") (F_postingStarts_a : Fld Z h0 a "com/example/vector_space_ranker/vectorspaceranker/Index" "postingStarts" "[I" (.ref sa)) (F_postingFrequencies_a : Fld Z h0 a "com/example/vector_space_ranker/vectorspaceranker/Index" "postingFrequencies" "[I" (.ref fa)) (V_sa : Arv Z h0 sa kc .int z vs dv) (V_fa : Arv Z h0 fa kf .int (4 : Int32) [.int g0, .int g1, .int g2, .int g3] (.int (0 : Int32))) (hjl : ¬ pt < 0 ∧ pt < z) (hvl : vs.getD pt.toNatClampNeg dv = .int lo) (hjh : ¬ (pt + (1 : Int32)) < 0 ∧ (pt + (1 : Int32)) < z) (hvh : vs.getD (pt + (1 : Int32)).toNatClampNeg dv = .int hi) (hn1 : lo.toInt = n1) (hk1 : hi.toInt = (n1 + k1 : Nat)) (h14 : n1 + k1 ≤ 4) :
    Con l Z (⟨"com/example/vector_space_ranker/vectorspaceranker/Index", "collectionFrequency", "(I)J"⟩ : MethodName) prog_14_method_14_code 5 (some .long) ws ({ frames := 1, cells := 0, slots := 0, locals := 14 } : Room) #[(.ref a), (.int pt)] h0 n0 (fun v h => v = some (.long (sml [g0, g1, g2, g3] n1 k1 0)) ∧ h = h0) := by
  refine Con.of pn_3 ?_
  intro G p e s m below meth c s₁ hs hx hby hml hown hnm hret hZ X0 fin
  have hml : c.maxLocals = 5 := hml
  have hown : s.vm.findClass "com/example/vector_space_ranker/vectorspaceranker/Index" = some m.cls := hown
  rw [ef_3]
  show G s₁ (mkF m 0 #[.val (.ref a), .val (.int pt), .unset, .unset, .unset] [])
  refine hs.go (fun _ kk_ => XS.lconst X0.here hx rfl (hb hby d3_0) kk_) ?_
  show G s₁ (mkF m 1 #[.val (.ref a), .val (.int pt), .unset, .unset, .unset] [(.long (0 : Int64))])
  refine hs.go (fun _ kk_ => XS.lstoreN X0.here hx rfl (hb hby d3_1) rfl (l' := #[.val (.ref a), .val (.int pt), .val (.long (0 : Int64)), .second, .unset]) rfl kk_) ?_
  show G s₁ (mkF m 2 #[.val (.ref a), .val (.int pt), .val (.long (0 : Int64)), .second, .unset] [])
  refine hs.go (fun _ kk_ => XS.aloadN X0.here hx rfl (hb hby d3_2) rfl rfl kk_) ?_
  show G s₁ (mkF m 3 #[.val (.ref a), .val (.int pt), .val (.long (0 : Int64)), .second, .unset] [(.ref a)])
  refine hs.go (fun _ kk_ => XS.iloadN X0.here hx rfl (hb hby d3_3) rfl  kk_) ?_
  show G s₁ (mkF m 4 #[.val (.ref a), .val (.int pt), .val (.long (0 : Int64)), .second, .unset] [(.int pt), (.ref a)])
  refine rCallV hs X0 hx hZ (as' := [(.int pt)]) (rm4 l Z a0 hw [] a sa pt lo z vs dv kc h0 n0 Z0 F_postingStarts_a V_sa hjl hvl) E_a hown (hw _ (List.mem_of_getElem? (i := 34) rfl)) (hw _ (List.mem_of_getElem? (i := 35) rfl)) (hw _ (List.mem_of_getElem? (i := 37) rfl)) (hw _ (List.mem_of_getElem? (i := 36) rfl)) (hw _ (List.mem_of_getElem? (i := 4) rfl)) (hw _ (List.mem_of_getElem? (i := 38) rfl)) hy_4 rfl (by rw [hml]; rfl) [] (lenOf pd_0 rfl) rfl 0 (by show 2 * 0 + _ ≤ _; exact Nat.le_of_eq rfl) (hb hby d3_4) (by decide) (by decide) (by decide) (by decide) (fun r1 T1 h1 X1 q1 => ?_)
  obtain ⟨rfl, qh1⟩ := q1
  rw [qh1] at X1
  show G T1 (mkF m 7 #[.val (.ref a), .val (.int pt), .val (.long (0 : Int64)), .second, .unset] [(.int lo)])
  refine hs.go (fun _ kk_ => XS.istore X1.here hx rfl (hb hby d3_7) rfl (l' := #[.val (.ref a), .val (.int pt), .val (.long (0 : Int64)), .second, .val (.int lo)]) rfl kk_) ?_
  show G T1 (mkF m 9 #[.val (.ref a), .val (.int pt), .val (.long (0 : Int64)), .second, .val (.int lo)] [])
  have loop : ∀ (k : Nat) (i : Int32) (n : Nat) (acc : Int64) (TL : State), Sd p l e ({ frames := 1, cells := 0, slots := 0, locals := 14 } : Room) s m #[(.ref a), (.int pt)] below meth c n0 TL h0 0 0 → i.toInt = n → hi.toInt = (n + k : Nat) → n + k ≤ 4 → sml [g0, g1, g2, g3] n k acc = sml [g0, g1, g2, g3] n1 k1 0 → G TL (mkF m 9 #[.val (.ref a), .val (.int pt), .val (.long acc), .second, .val (.int i)] []) := by
    intro k
    induction k with
    | zero =>
      intro i n acc TL XL hi1 hi2 hi3 hr
      show G TL (mkF m 9 #[.val (.ref a), .val (.int pt), .val (.long acc), .second, .val (.int i)] [])
      refine hs.go (fun _ kk_ => XS.iload XL.here hx rfl (hb hby d3_9) rfl  kk_) ?_
      show G TL (mkF m 11 #[.val (.ref a), .val (.int pt), .val (.long acc), .second, .val (.int i)] [(.int i)])
      refine hs.go (fun _ kk_ => XS.aloadN XL.here hx rfl (hb hby d3_11) rfl rfl kk_) ?_
      show G TL (mkF m 12 #[.val (.ref a), .val (.int pt), .val (.long acc), .second, .val (.int i)] [(.ref a), (.int i)])
      refine hs.go (fun _ kk_ => XS.iloadN XL.here hx rfl (hb hby d3_12) rfl  kk_) ?_
      show G TL (mkF m 13 #[.val (.ref a), .val (.int pt), .val (.long acc), .second, .val (.int i)] [(.int pt), (.ref a), (.int i)])
      refine rCallV hs XL hx hZ (as' := [(.int pt)]) (rm5 l Z a0 hw [] a sa pt hi z vs dv kc h0 n0 Z0 F_postingStarts_a V_sa hjh hvh) E_a hown (hw _ (List.mem_of_getElem? (i := 39) rfl)) (hw _ (List.mem_of_getElem? (i := 40) rfl)) (hw _ (List.mem_of_getElem? (i := 42) rfl)) (hw _ (List.mem_of_getElem? (i := 41) rfl)) (hw _ (List.mem_of_getElem? (i := 4) rfl)) (hw _ (List.mem_of_getElem? (i := 43) rfl)) hy_5 rfl (by rw [hml]; rfl) [(.int i)] (lenOf pd_0 rfl) rfl 1 (by show 2 * 0 + _ ≤ _; exact Nat.le_of_eq rfl) (hb hby d3_13) (by decide) (by decide) (by decide) (by decide) (fun r2 T2 h2 X2 q2 => ?_)
      obtain ⟨rfl, qh2⟩ := q2
      rw [qh2] at X2
      show G T2 (mkF m 16 #[.val (.ref a), .val (.int pt), .val (.long acc), .second, .val (.int i)] [(.int hi), (.int i)])
      refine hs.go (fun _ kk_ => XS.icmpYes X2.here hx rfl (pc0 := 16) (pc' := 36) rfl (hb hby d3_16) rfl (flt ((by rw [lt32]; omega) : ¬ (i < hi))).2.1 (by decide) (by decide) kk_) ?_
      show G T2 (mkF m 36 #[.val (.ref a), .val (.int pt), .val (.long acc), .second, .val (.int i)] [])
      refine hs.go (fun _ kk_ => XS.lloadN X2.here hx rfl (hb hby d3_36) rfl  kk_) ?_
      show G T2 (mkF m 37 #[.val (.ref a), .val (.int pt), .val (.long acc), .second, .val (.int i)] [(.long acc)])
      exact rRetL fin X2 hx (by decide) (by decide) hret (hb hby d3_37) ⟨by rw [← hr]; rfl, rfl⟩
    | succ k ih =>
      intro i n acc TL XL hi1 hi2 hi3 hr
      show G TL (mkF m 9 #[.val (.ref a), .val (.int pt), .val (.long acc), .second, .val (.int i)] [])
      refine hs.go (fun _ kk_ => XS.iload XL.here hx rfl (hb hby d3_9) rfl  kk_) ?_
      show G TL (mkF m 11 #[.val (.ref a), .val (.int pt), .val (.long acc), .second, .val (.int i)] [(.int i)])
      refine hs.go (fun _ kk_ => XS.aloadN XL.here hx rfl (hb hby d3_11) rfl rfl kk_) ?_
      show G TL (mkF m 12 #[.val (.ref a), .val (.int pt), .val (.long acc), .second, .val (.int i)] [(.ref a), (.int i)])
      refine hs.go (fun _ kk_ => XS.iloadN XL.here hx rfl (hb hby d3_12) rfl  kk_) ?_
      show G TL (mkF m 13 #[.val (.ref a), .val (.int pt), .val (.long acc), .second, .val (.int i)] [(.int pt), (.ref a), (.int i)])
      refine rCallV hs XL hx hZ (as' := [(.int pt)]) (rm5 l Z a0 hw [] a sa pt hi z vs dv kc h0 n0 Z0 F_postingStarts_a V_sa hjh hvh) E_a hown (hw _ (List.mem_of_getElem? (i := 39) rfl)) (hw _ (List.mem_of_getElem? (i := 40) rfl)) (hw _ (List.mem_of_getElem? (i := 42) rfl)) (hw _ (List.mem_of_getElem? (i := 41) rfl)) (hw _ (List.mem_of_getElem? (i := 4) rfl)) (hw _ (List.mem_of_getElem? (i := 43) rfl)) hy_5 rfl (by rw [hml]; rfl) [(.int i)] (lenOf pd_0 rfl) rfl 1 (by show 2 * 0 + _ ≤ _; exact Nat.le_of_eq rfl) (hb hby d3_13) (by decide) (by decide) (by decide) (by decide) (fun r3 T3 h3 X3 q3 => ?_)
      obtain ⟨rfl, qh3⟩ := q3
      rw [qh3] at X3
      show G T3 (mkF m 16 #[.val (.ref a), .val (.int pt), .val (.long acc), .second, .val (.int i)] [(.int hi), (.int i)])
      refine hs.go (fun _ kk_ => XS.icmpNo X3.here hx rfl (hb hby d3_16) rfl (tlt ((by rw [lt32]; omega) : i < hi)).2.1 kk_) ?_
      show G T3 (mkF m 19 #[.val (.ref a), .val (.int pt), .val (.long acc), .second, .val (.int i)] [])
      refine hs.go (fun _ kk_ => XS.lloadN X3.here hx rfl (hb hby d3_19) rfl  kk_) ?_
      show G T3 (mkF m 20 #[.val (.ref a), .val (.int pt), .val (.long acc), .second, .val (.int i)] [(.long acc)])
      refine hs.go (fun _ kk_ => XS.aloadN X3.here hx rfl (hb hby d3_20) rfl rfl kk_) ?_
      show G T3 (mkF m 21 #[.val (.ref a), .val (.int pt), .val (.long acc), .second, .val (.int i)] [(.ref a), (.long acc)])
      refine rGetF hs X3 hx hZ hown (host := "") (Or.inl (hw _ (List.mem_of_getElem? (i := 25) rfl))) Via.refl F_postingFrequencies_a rfl rfl (hb hby d3_21) (fun T4 X4 => ?_)
      show G T4 (mkF m 24 #[.val (.ref a), .val (.int pt), .val (.long acc), .second, .val (.int i)] [(.ref fa), (.long acc)])
      refine hs.go (fun _ kk_ => XS.iload X4.here hx rfl (hb hby d3_24) rfl  kk_) ?_
      show G T4 (mkF m 26 #[.val (.ref a), .val (.int pt), .val (.long acc), .second, .val (.int i)] [(.int i), (.ref fa), (.long acc)])
      refine rLdI hs X4 hx hZ V_fa ⟨by rw [lt32]; have k0 : (0 : Int32).toInt = 0 := rfl; omega, by rw [lt32]; have k4 : (4 : Int32).toInt = 4 := rfl; omega⟩ (v := (.int (List.getD [g0, g1, g2, g3] n 0))) (own_at g0 g1 g2 g3 i n hi1 (by omega)) rfl rfl (hb hby d3_26) ?_
      show G T4 (mkF m 27 #[.val (.ref a), .val (.int pt), .val (.long acc), .second, .val (.int i)] [(.int (List.getD [g0, g1, g2, g3] n 0)), (.long acc)])
      refine hs.go (fun _ kk_ => XS.i2l X4.here hx rfl (hb hby d3_27) rfl kk_) ?_
      show G T4 (mkF m 28 #[.val (.ref a), .val (.int pt), .val (.long acc), .second, .val (.int i)] [(.long ((List.getD [g0, g1, g2, g3] n 0).toInt64)), (.long acc)])
      refine hs.go (fun _ kk_ => XS.ladd X4.here hx rfl (hb hby d3_28) rfl kk_) ?_
      show G T4 (mkF m 29 #[.val (.ref a), .val (.int pt), .val (.long acc), .second, .val (.int i)] [(.long (acc + ((List.getD [g0, g1, g2, g3] n 0).toInt64)))])
      refine hs.go (fun _ kk_ => XS.lstoreN X4.here hx rfl (hb hby d3_29) rfl (l' := #[.val (.ref a), .val (.int pt), .val (.long (acc + ((List.getD [g0, g1, g2, g3] n 0).toInt64))), .second, .val (.int i)]) rfl kk_) ?_
      show G T4 (mkF m 30 #[.val (.ref a), .val (.int pt), .val (.long (acc + ((List.getD [g0, g1, g2, g3] n 0).toInt64))), .second, .val (.int i)] [])
      refine hs.go (fun _ kk_ => XS.iinc X4.here hx rfl (hb hby d3_30) rfl (l' := #[.val (.ref a), .val (.int pt), .val (.long (acc + ((List.getD [g0, g1, g2, g3] n 0).toInt64))), .second, .val (.int (i + (1 : Int32)))]) rfl kk_) ?_
      show G T4 (mkF m 33 #[.val (.ref a), .val (.int pt), .val (.long (acc + ((List.getD [g0, g1, g2, g3] n 0).toInt64))), .second, .val (.int (i + (1 : Int32)))] [])
      refine hs.go (fun _ kk_ => XS.goto X4.here hx rfl (pc0 := 33) (pc' := 9) rfl (hb hby d3_33) (by decide) (by decide) kk_) ?_
      show G T4 (mkF m 9 #[.val (.ref a), .val (.int pt), .val (.long (acc + ((List.getD [g0, g1, g2, g3] n 0).toInt64))), .second, .val (.int (i + (1 : Int32)))] [])
      exact ih _ (n + 1) _ _ (X4.more (by decide) (by decide)) (by have q := c_iadd i 1; have r := rng32 (i + 1); have k1 : (1 : Int32).toInt = 1 := rfl; omega) (by omega) (by omega) (by rw [← hr]; rfl)
  exact loop k1 lo n1 0 _ (X1.more (by decide) (by decide)) hn1 hk1 h14 rfl

theorem own_m5 {x f : Int32} (h : f = ((x &&& (2147483647 : Int32)) % (5 : Int32))) : 0 ≤ f.toInt ∧ f.toInt ≤ 4 := by
  have a := (c_and x 2147483647 (by decide)).1
  have b := (c_irem (x &&& (2147483647 : Int32)) 5 5 rfl).1 a
  rw [h]; omega
theorem own_nz {s : Int32} (h : 0 ≤ s.toInt ∧ s.toInt ≤ 4) : ((5 : Int32) - s) ≠ 0 := by
  intro q
  have a := c_isub 5 s
  have k5 : (5 : Int32).toInt = 5 := rfl
  have k0 : (0 : Int32).toInt = 0 := rfl
  rw [q] at a
  omega
theorem own_s2 {x s t : Int32} (h : 0 ≤ s.toInt ∧ s.toInt ≤ 4) (ht : t = (s + (((x.toUInt32 >>> ((8 : Int32) &&& 31).toUInt32).toInt32) % ((5 : Int32) - s)))) : s.toInt ≤ t.toInt ∧ t.toInt ≤ 4 := by
  have a := c_isub 5 s
  have r := rng32 ((5 : Int32) - s)
  have k5 : (5 : Int32).toInt = 5 := rfl
  have u : ((x.toUInt32 >>> ((8 : Int32) &&& 31).toUInt32).toInt32).toInt = (x.toInt % 4294967296) / 256 := c_iushr x 8 8 (by decide) (by decide)
  have v := (c_iremV ((x.toUInt32 >>> ((8 : Int32) &&& 31).toUInt32).toInt32) ((5 : Int32) - s)).1 (by omega) (by omega)
  have w := c_iadd s (((x.toUInt32 >>> ((8 : Int32) &&& 31).toUInt32).toInt32) % ((5 : Int32) - s))
  rw [← ht] at w
  have r2 := rng32 t
  omega
theorem own_tm {x f : Int32} (h : f = ((x &&& (2147483647 : Int32)) % (3 : Int32))) : f = (0 : Int32) ∨ f = (1 : Int32) ∨ f = (2 : Int32) := by
  have a := (c_and x 2147483647 (by decide)).1
  have b := (c_irem (x &&& (2147483647 : Int32)) 3 3 rfl).1 a
  rw [← h] at b
  have k0 : (0 : Int32).toInt = 0 := rfl
  have k1 : (1 : Int32).toInt = 1 := rfl
  have k2 : (2 : Int32).toInt = 2 := rfl
  simp only [e32 (x := f), k0, k1, k2]
  omega
theorem own_lit {s : Int32} (h : 0 ≤ s.toInt ∧ s.toInt ≤ 4) : s = 0 ∨ s = 1 ∨ s = 2 ∨ s = 3 ∨ s = 4 := by
  have k0 : (0 : Int32).toInt = 0 := rfl
  have k1 : (1 : Int32).toInt = 1 := rfl
  have k2 : (2 : Int32).toInt = 2 := rfl
  have k3 : (3 : Int32).toInt = 3 := rfl
  have k4 : (4 : Int32).toInt = 4 := rfl
  simp only [e32 (x := s), k0, k1, k2, k3, k4]
  omega
theorem own_law (g0 g1 g2 g3 lo hi : Int32) (H : 0 ≤ lo.toInt ∧ lo.toInt ≤ hi.toInt ∧ hi.toInt ≤ 4) : sml [g0, g1, g2, g3] lo.toInt.toNat (hi.toInt - lo.toInt).toNat 0 = ((((f4 g0 (0 : Int32) lo hi) + (f4 g1 (1 : Int32) lo hi)) + (f4 g2 (2 : Int32) lo hi)) + (f4 g3 (3 : Int32) lo hi)) := by
  rcases own_lit (s := lo) (by omega) with rfl | rfl | rfl | rfl | rfl <;> rcases own_lit (s := hi) (by omega) with rfl | rfl | rfl | rfl | rfl <;> first
    | (exfalso; revert H; decide)
    | (simp only [f4]; simp +decide [sml])

theorem pd_1 : parseMethodDescriptor "(Lcom/example/vector_space_ranker/vectorspaceranker/Analysis;[Ljava/lang/String;[I[Ljava/lang/String;[I[I[IJ)V" = some ⟨[(.object "com/example/vector_space_ranker/vectorspaceranker/Analysis"), (.array (.object "java/lang/String")), (.array .int), (.array (.object "java/lang/String")), (.array .int), (.array .int), (.array .int), .long], none⟩ := by decide +kernel
theorem pd_2 : parseMethodDescriptor "(I)J" = some ⟨[.int], some .long⟩ := by decide +kernel
theorem pd_3 : parseMethodDescriptor "(IIII)J" = some ⟨[.int, .int, .int, .int], some .long⟩ := by decide +kernel
theorem pn_0 : plainFor x = true := plainFor_of_name (show plainName "com/example/vector_space_ranker/vectorspaceranker/IndexCollectionFrequencyPinLaw" = true by first | (simp [plainName, overriddenIn]; done) | decide +kernel)
theorem ef_0 (m : MethodId) (x0 : Int32) (x1 : Int32) (x2 : Int32) (x3 : Int32) (x4 : Int32) (x5 : Int32) : entryFrame m #[(.int x0), (.int x1), (.int x2), (.int x3), (.int x4), (.int x5)] maxLocals = mkF m 0 #[.val (.int x0), .val (.int x1), .val (.int x2), .val (.int x3), .val (.int x4), .val (.int x5), .unset, .unset, .unset, .unset, .unset, .unset, .unset, .unset, .unset, .unset, .unset, .unset, .unset, .unset] [] := by first | (simp [entryFrame, mkF, argsToLocals, Value.category, maxLocals]; done) | rfl
set_option maxRecDepth 65536 in
set_option maxHeartbeats 40000000 in
theorem rm0 (l : Launch) (Z : State) (a0 : Array Value) (hw : ∀ d ∈ tables_1, d.before a0 Z = true) (ws : List Jvm.Cond) (f0 f1 f2 f3 ly wh : Int32) (h0 : Heap) (n0 : Nat) (Z0 : n0 ≤ h0.size)  :
    Con l Z x code maxLocals ret ws room_1 #[(.int f0), (.int f1), (.int f2), (.int f3), (.int ly), (.int wh)] h0 n0 (fun v h => v = some (.int 1)) := by
  refine Con.of pn_0 ?_
  intro G p e s m below meth c s₁ hs hx hby hml hown hnm hret hZ X0 fin
  have hml : c.maxLocals = 20 := hml
  have hown : s.vm.findClass "com/example/vector_space_ranker/vectorspaceranker/IndexCollectionFrequencyPinLaw" = some m.cls := hown
  rw [ef_0]
  show G s₁ (mkF m 0 #[.val (.int f0), .val (.int f1), .val (.int f2), .val (.int f3), .val (.int ly), .val (.int wh), .unset, .unset, .unset, .unset, .unset, .unset, .unset, .unset, .unset, .unset, .unset, .unset, .unset, .unset] [])
  refine hs.go (fun _ kk_ => XS.iconst X0.here hx rfl (hb hby at_0) kk_) ?_
  show G s₁ (mkF m 1 #[.val (.int f0), .val (.int f1), .val (.int f2), .val (.int f3), .val (.int ly), .val (.int wh), .unset, .unset, .unset, .unset, .unset, .unset, .unset, .unset, .unset, .unset, .unset, .unset, .unset, .unset] [(.int (4 : Int32))])
  refine rNewP hs X0 hx hZ (hw _ (List.mem_of_getElem? (i := 0) rfl)) rfl (hb hby at_1) rfl (by decide) 4 4 (by decide) (by decide) (by decide) (by decide) (fun T1 h1 k1 frq g1 X1 E1 V_frq => ?_)
  have V_frq : Arv Z h1 frq k1 .int (4 : Int32) [(.int (0 : Int32)), (.int (0 : Int32)), (.int (0 : Int32)), (.int (0 : Int32))] (.int (0 : Int32)) := V_frq
  have g_frq : n0 ≤ frq := by rw [g1]; exact Z0
  have Z0 := Nat.le_trans Z0 E1.1
  show G T1 (mkF m 3 #[.val (.int f0), .val (.int f1), .val (.int f2), .val (.int f3), .val (.int ly), .val (.int wh), .unset, .unset, .unset, .unset, .unset, .unset, .unset, .unset, .unset, .unset, .unset, .unset, .unset, .unset] [(.ref frq)])
  refine hs.go (fun _ kk_ => XS.dup X1.here hx rfl (hb hby at_3) rfl rfl kk_) ?_
  show G T1 (mkF m 4 #[.val (.int f0), .val (.int f1), .val (.int f2), .val (.int f3), .val (.int ly), .val (.int wh), .unset, .unset, .unset, .unset, .unset, .unset, .unset, .unset, .unset, .unset, .unset, .unset, .unset, .unset] [(.ref frq), (.ref frq)])
  refine hs.go (fun _ kk_ => XS.iconst X1.here hx rfl (hb hby at_4) kk_) ?_
  show G T1 (mkF m 5 #[.val (.int f0), .val (.int f1), .val (.int f2), .val (.int f3), .val (.int ly), .val (.int wh), .unset, .unset, .unset, .unset, .unset, .unset, .unset, .unset, .unset, .unset, .unset, .unset, .unset, .unset] [(.int (0 : Int32)), (.ref frq), (.ref frq)])
  refine hs.go (fun _ kk_ => XS.iloadN X1.here hx rfl (hb hby at_5) rfl  kk_) ?_
  show G T1 (mkF m 6 #[.val (.int f0), .val (.int f1), .val (.int f2), .val (.int f3), .val (.int ly), .val (.int wh), .unset, .unset, .unset, .unset, .unset, .unset, .unset, .unset, .unset, .unset, .unset, .unset, .unset, .unset] [(.int f0), (.int (0 : Int32)), (.ref frq), (.ref frq)])
  refine rLdcI hs X1 hx hZ hown (hw _ (List.mem_of_getElem? (i := 1) rfl)) rfl (hb hby at_6) ?_
  show G T1 (mkF m 8 #[.val (.int f0), .val (.int f1), .val (.int f2), .val (.int f3), .val (.int ly), .val (.int wh), .unset, .unset, .unset, .unset, .unset, .unset, .unset, .unset, .unset, .unset, .unset, .unset, .unset, .unset] [(.int (2147483647 : Int32)), (.int f0), (.int (0 : Int32)), (.ref frq), (.ref frq)])
  refine hs.go (fun _ kk_ => XS.iand X1.here hx rfl (hb hby at_8) rfl kk_) ?_
  show G T1 (mkF m 9 #[.val (.int f0), .val (.int f1), .val (.int f2), .val (.int f3), .val (.int ly), .val (.int wh), .unset, .unset, .unset, .unset, .unset, .unset, .unset, .unset, .unset, .unset, .unset, .unset, .unset, .unset] [(.int (f0 &&& (2147483647 : Int32))), (.int (0 : Int32)), (.ref frq), (.ref frq)])
  refine nameIt (P := fun zz_ : Int32 => G T1 (mkF m 9 #[.val (.int f0), .val (.int f1), .val (.int f2), .val (.int f3), .val (.int ly), .val (.int wh), .unset, .unset, .unset, .unset, .unset, .unset, .unset, .unset, .unset, .unset, .unset, .unset, .unset, .unset] [(.int zz_), (.int (0 : Int32)), (.ref frq), (.ref frq)])) (f0 &&& (2147483647 : Int32)) (fun g0 hg0 => ?_)
  show G T1 (mkF m 9 #[.val (.int f0), .val (.int f1), .val (.int f2), .val (.int f3), .val (.int ly), .val (.int wh), .unset, .unset, .unset, .unset, .unset, .unset, .unset, .unset, .unset, .unset, .unset, .unset, .unset, .unset] [(.int g0), (.int (0 : Int32)), (.ref frq), (.ref frq)])
  refine rStI hs X1 hx hZ V_frq g_frq ⟨by decide, by decide⟩ 0 (by decide) (by simp) rfl rfl (hb hby at_9) (fun T2 h2 X2 W2 V_frq => ?_)
  have V_frq : Arv Z h2 frq k1 .int (4 : Int32) [(.int g0), (.int (0 : Int32)), (.int (0 : Int32)), (.int (0 : Int32))] (.int (0 : Int32)) := V_frq
  have Z0 := Nat.le_trans Z0 (Keep.of_wr W2).1
  show G T2 (mkF m 10 #[.val (.int f0), .val (.int f1), .val (.int f2), .val (.int f3), .val (.int ly), .val (.int wh), .unset, .unset, .unset, .unset, .unset, .unset, .unset, .unset, .unset, .unset, .unset, .unset, .unset, .unset] [(.ref frq)])
  refine hs.go (fun _ kk_ => XS.dup X2.here hx rfl (hb hby at_10) rfl rfl kk_) ?_
  show G T2 (mkF m 11 #[.val (.int f0), .val (.int f1), .val (.int f2), .val (.int f3), .val (.int ly), .val (.int wh), .unset, .unset, .unset, .unset, .unset, .unset, .unset, .unset, .unset, .unset, .unset, .unset, .unset, .unset] [(.ref frq), (.ref frq)])
  refine hs.go (fun _ kk_ => XS.iconst X2.here hx rfl (hb hby at_11) kk_) ?_
  show G T2 (mkF m 12 #[.val (.int f0), .val (.int f1), .val (.int f2), .val (.int f3), .val (.int ly), .val (.int wh), .unset, .unset, .unset, .unset, .unset, .unset, .unset, .unset, .unset, .unset, .unset, .unset, .unset, .unset] [(.int (1 : Int32)), (.ref frq), (.ref frq)])
  refine hs.go (fun _ kk_ => XS.iloadN X2.here hx rfl (hb hby at_12) rfl  kk_) ?_
  show G T2 (mkF m 13 #[.val (.int f0), .val (.int f1), .val (.int f2), .val (.int f3), .val (.int ly), .val (.int wh), .unset, .unset, .unset, .unset, .unset, .unset, .unset, .unset, .unset, .unset, .unset, .unset, .unset, .unset] [(.int f1), (.int (1 : Int32)), (.ref frq), (.ref frq)])
  refine rLdcI hs X2 hx hZ hown (hw _ (List.mem_of_getElem? (i := 1) rfl)) rfl (hb hby at_13) ?_
  show G T2 (mkF m 15 #[.val (.int f0), .val (.int f1), .val (.int f2), .val (.int f3), .val (.int ly), .val (.int wh), .unset, .unset, .unset, .unset, .unset, .unset, .unset, .unset, .unset, .unset, .unset, .unset, .unset, .unset] [(.int (2147483647 : Int32)), (.int f1), (.int (1 : Int32)), (.ref frq), (.ref frq)])
  refine hs.go (fun _ kk_ => XS.iand X2.here hx rfl (hb hby at_15) rfl kk_) ?_
  show G T2 (mkF m 16 #[.val (.int f0), .val (.int f1), .val (.int f2), .val (.int f3), .val (.int ly), .val (.int wh), .unset, .unset, .unset, .unset, .unset, .unset, .unset, .unset, .unset, .unset, .unset, .unset, .unset, .unset] [(.int (f1 &&& (2147483647 : Int32))), (.int (1 : Int32)), (.ref frq), (.ref frq)])
  refine nameIt (P := fun zz_ : Int32 => G T2 (mkF m 16 #[.val (.int f0), .val (.int f1), .val (.int f2), .val (.int f3), .val (.int ly), .val (.int wh), .unset, .unset, .unset, .unset, .unset, .unset, .unset, .unset, .unset, .unset, .unset, .unset, .unset, .unset] [(.int zz_), (.int (1 : Int32)), (.ref frq), (.ref frq)])) (f1 &&& (2147483647 : Int32)) (fun g1 hg1 => ?_)
  show G T2 (mkF m 16 #[.val (.int f0), .val (.int f1), .val (.int f2), .val (.int f3), .val (.int ly), .val (.int wh), .unset, .unset, .unset, .unset, .unset, .unset, .unset, .unset, .unset, .unset, .unset, .unset, .unset, .unset] [(.int g1), (.int (1 : Int32)), (.ref frq), (.ref frq)])
  refine rStI hs X2 hx hZ V_frq g_frq ⟨by decide, by decide⟩ 1 (by decide) (by simp) rfl rfl (hb hby at_16) (fun T3 h3 X3 W3 V_frq => ?_)
  have V_frq : Arv Z h3 frq k1 .int (4 : Int32) [(.int g0), (.int g1), (.int (0 : Int32)), (.int (0 : Int32))] (.int (0 : Int32)) := V_frq
  have Z0 := Nat.le_trans Z0 (Keep.of_wr W3).1
  show G T3 (mkF m 17 #[.val (.int f0), .val (.int f1), .val (.int f2), .val (.int f3), .val (.int ly), .val (.int wh), .unset, .unset, .unset, .unset, .unset, .unset, .unset, .unset, .unset, .unset, .unset, .unset, .unset, .unset] [(.ref frq)])
  refine hs.go (fun _ kk_ => XS.dup X3.here hx rfl (hb hby at_17) rfl rfl kk_) ?_
  show G T3 (mkF m 18 #[.val (.int f0), .val (.int f1), .val (.int f2), .val (.int f3), .val (.int ly), .val (.int wh), .unset, .unset, .unset, .unset, .unset, .unset, .unset, .unset, .unset, .unset, .unset, .unset, .unset, .unset] [(.ref frq), (.ref frq)])
  refine hs.go (fun _ kk_ => XS.iconst X3.here hx rfl (hb hby at_18) kk_) ?_
  show G T3 (mkF m 19 #[.val (.int f0), .val (.int f1), .val (.int f2), .val (.int f3), .val (.int ly), .val (.int wh), .unset, .unset, .unset, .unset, .unset, .unset, .unset, .unset, .unset, .unset, .unset, .unset, .unset, .unset] [(.int (2 : Int32)), (.ref frq), (.ref frq)])
  refine hs.go (fun _ kk_ => XS.iloadN X3.here hx rfl (hb hby at_19) rfl  kk_) ?_
  show G T3 (mkF m 20 #[.val (.int f0), .val (.int f1), .val (.int f2), .val (.int f3), .val (.int ly), .val (.int wh), .unset, .unset, .unset, .unset, .unset, .unset, .unset, .unset, .unset, .unset, .unset, .unset, .unset, .unset] [(.int f2), (.int (2 : Int32)), (.ref frq), (.ref frq)])
  refine rLdcI hs X3 hx hZ hown (hw _ (List.mem_of_getElem? (i := 1) rfl)) rfl (hb hby at_20) ?_
  show G T3 (mkF m 22 #[.val (.int f0), .val (.int f1), .val (.int f2), .val (.int f3), .val (.int ly), .val (.int wh), .unset, .unset, .unset, .unset, .unset, .unset, .unset, .unset, .unset, .unset, .unset, .unset, .unset, .unset] [(.int (2147483647 : Int32)), (.int f2), (.int (2 : Int32)), (.ref frq), (.ref frq)])
  refine hs.go (fun _ kk_ => XS.iand X3.here hx rfl (hb hby at_22) rfl kk_) ?_
  show G T3 (mkF m 23 #[.val (.int f0), .val (.int f1), .val (.int f2), .val (.int f3), .val (.int ly), .val (.int wh), .unset, .unset, .unset, .unset, .unset, .unset, .unset, .unset, .unset, .unset, .unset, .unset, .unset, .unset] [(.int (f2 &&& (2147483647 : Int32))), (.int (2 : Int32)), (.ref frq), (.ref frq)])
  refine nameIt (P := fun zz_ : Int32 => G T3 (mkF m 23 #[.val (.int f0), .val (.int f1), .val (.int f2), .val (.int f3), .val (.int ly), .val (.int wh), .unset, .unset, .unset, .unset, .unset, .unset, .unset, .unset, .unset, .unset, .unset, .unset, .unset, .unset] [(.int zz_), (.int (2 : Int32)), (.ref frq), (.ref frq)])) (f2 &&& (2147483647 : Int32)) (fun g2 hg2 => ?_)
  show G T3 (mkF m 23 #[.val (.int f0), .val (.int f1), .val (.int f2), .val (.int f3), .val (.int ly), .val (.int wh), .unset, .unset, .unset, .unset, .unset, .unset, .unset, .unset, .unset, .unset, .unset, .unset, .unset, .unset] [(.int g2), (.int (2 : Int32)), (.ref frq), (.ref frq)])
  refine rStI hs X3 hx hZ V_frq g_frq ⟨by decide, by decide⟩ 2 (by decide) (by simp) rfl rfl (hb hby at_23) (fun T4 h4 X4 W4 V_frq => ?_)
  have V_frq : Arv Z h4 frq k1 .int (4 : Int32) [(.int g0), (.int g1), (.int g2), (.int (0 : Int32))] (.int (0 : Int32)) := V_frq
  have Z0 := Nat.le_trans Z0 (Keep.of_wr W4).1
  show G T4 (mkF m 24 #[.val (.int f0), .val (.int f1), .val (.int f2), .val (.int f3), .val (.int ly), .val (.int wh), .unset, .unset, .unset, .unset, .unset, .unset, .unset, .unset, .unset, .unset, .unset, .unset, .unset, .unset] [(.ref frq)])
  refine hs.go (fun _ kk_ => XS.dup X4.here hx rfl (hb hby at_24) rfl rfl kk_) ?_
  show G T4 (mkF m 25 #[.val (.int f0), .val (.int f1), .val (.int f2), .val (.int f3), .val (.int ly), .val (.int wh), .unset, .unset, .unset, .unset, .unset, .unset, .unset, .unset, .unset, .unset, .unset, .unset, .unset, .unset] [(.ref frq), (.ref frq)])
  refine hs.go (fun _ kk_ => XS.iconst X4.here hx rfl (hb hby at_25) kk_) ?_
  show G T4 (mkF m 26 #[.val (.int f0), .val (.int f1), .val (.int f2), .val (.int f3), .val (.int ly), .val (.int wh), .unset, .unset, .unset, .unset, .unset, .unset, .unset, .unset, .unset, .unset, .unset, .unset, .unset, .unset] [(.int (3 : Int32)), (.ref frq), (.ref frq)])
  refine hs.go (fun _ kk_ => XS.iloadN X4.here hx rfl (hb hby at_26) rfl  kk_) ?_
  show G T4 (mkF m 27 #[.val (.int f0), .val (.int f1), .val (.int f2), .val (.int f3), .val (.int ly), .val (.int wh), .unset, .unset, .unset, .unset, .unset, .unset, .unset, .unset, .unset, .unset, .unset, .unset, .unset, .unset] [(.int f3), (.int (3 : Int32)), (.ref frq), (.ref frq)])
  refine rLdcI hs X4 hx hZ hown (hw _ (List.mem_of_getElem? (i := 1) rfl)) rfl (hb hby at_27) ?_
  show G T4 (mkF m 29 #[.val (.int f0), .val (.int f1), .val (.int f2), .val (.int f3), .val (.int ly), .val (.int wh), .unset, .unset, .unset, .unset, .unset, .unset, .unset, .unset, .unset, .unset, .unset, .unset, .unset, .unset] [(.int (2147483647 : Int32)), (.int f3), (.int (3 : Int32)), (.ref frq), (.ref frq)])
  refine hs.go (fun _ kk_ => XS.iand X4.here hx rfl (hb hby at_29) rfl kk_) ?_
  show G T4 (mkF m 30 #[.val (.int f0), .val (.int f1), .val (.int f2), .val (.int f3), .val (.int ly), .val (.int wh), .unset, .unset, .unset, .unset, .unset, .unset, .unset, .unset, .unset, .unset, .unset, .unset, .unset, .unset] [(.int (f3 &&& (2147483647 : Int32))), (.int (3 : Int32)), (.ref frq), (.ref frq)])
  refine nameIt (P := fun zz_ : Int32 => G T4 (mkF m 30 #[.val (.int f0), .val (.int f1), .val (.int f2), .val (.int f3), .val (.int ly), .val (.int wh), .unset, .unset, .unset, .unset, .unset, .unset, .unset, .unset, .unset, .unset, .unset, .unset, .unset, .unset] [(.int zz_), (.int (3 : Int32)), (.ref frq), (.ref frq)])) (f3 &&& (2147483647 : Int32)) (fun g3 hg3 => ?_)
  show G T4 (mkF m 30 #[.val (.int f0), .val (.int f1), .val (.int f2), .val (.int f3), .val (.int ly), .val (.int wh), .unset, .unset, .unset, .unset, .unset, .unset, .unset, .unset, .unset, .unset, .unset, .unset, .unset, .unset] [(.int g3), (.int (3 : Int32)), (.ref frq), (.ref frq)])
  refine rStI hs X4 hx hZ V_frq g_frq ⟨by decide, by decide⟩ 3 (by decide) (by simp) rfl rfl (hb hby at_30) (fun T5 h5 X5 W5 V_frq => ?_)
  have V_frq : Arv Z h5 frq k1 .int (4 : Int32) [(.int g0), (.int g1), (.int g2), (.int g3)] (.int (0 : Int32)) := V_frq
  have Z0 := Nat.le_trans Z0 (Keep.of_wr W5).1
  show G T5 (mkF m 31 #[.val (.int f0), .val (.int f1), .val (.int f2), .val (.int f3), .val (.int ly), .val (.int wh), .unset, .unset, .unset, .unset, .unset, .unset, .unset, .unset, .unset, .unset, .unset, .unset, .unset, .unset] [(.ref frq)])
  refine hs.go (fun _ kk_ => XS.astore X5.here hx rfl (hb hby at_31) rfl rfl (l' := #[.val (.int f0), .val (.int f1), .val (.int f2), .val (.int f3), .val (.int ly), .val (.int wh), .val (.ref frq), .unset, .unset, .unset, .unset, .unset, .unset, .unset, .unset, .unset, .unset, .unset, .unset, .unset]) rfl kk_) ?_
  show G T5 (mkF m 33 #[.val (.int f0), .val (.int f1), .val (.int f2), .val (.int f3), .val (.int ly), .val (.int wh), .val (.ref frq), .unset, .unset, .unset, .unset, .unset, .unset, .unset, .unset, .unset, .unset, .unset, .unset, .unset] [])
  refine hs.go (fun _ kk_ => XS.iload X5.here hx rfl (hb hby at_33) rfl  kk_) ?_
  show G T5 (mkF m 35 #[.val (.int f0), .val (.int f1), .val (.int f2), .val (.int f3), .val (.int ly), .val (.int wh), .val (.ref frq), .unset, .unset, .unset, .unset, .unset, .unset, .unset, .unset, .unset, .unset, .unset, .unset, .unset] [(.int ly)])
  refine rLdcI hs X5 hx hZ hown (hw _ (List.mem_of_getElem? (i := 1) rfl)) rfl (hb hby at_35) ?_
  show G T5 (mkF m 37 #[.val (.int f0), .val (.int f1), .val (.int f2), .val (.int f3), .val (.int ly), .val (.int wh), .val (.ref frq), .unset, .unset, .unset, .unset, .unset, .unset, .unset, .unset, .unset, .unset, .unset, .unset, .unset] [(.int (2147483647 : Int32)), (.int ly)])
  refine hs.go (fun _ kk_ => XS.iand X5.here hx rfl (hb hby at_37) rfl kk_) ?_
  show G T5 (mkF m 38 #[.val (.int f0), .val (.int f1), .val (.int f2), .val (.int f3), .val (.int ly), .val (.int wh), .val (.ref frq), .unset, .unset, .unset, .unset, .unset, .unset, .unset, .unset, .unset, .unset, .unset, .unset, .unset] [(.int (ly &&& (2147483647 : Int32)))])
  refine hs.go (fun _ kk_ => XS.iconst X5.here hx rfl (hb hby at_38) kk_) ?_
  show G T5 (mkF m 39 #[.val (.int f0), .val (.int f1), .val (.int f2), .val (.int f3), .val (.int ly), .val (.int wh), .val (.ref frq), .unset, .unset, .unset, .unset, .unset, .unset, .unset, .unset, .unset, .unset, .unset, .unset, .unset] [(.int (5 : Int32)), (.int (ly &&& (2147483647 : Int32)))])
  refine rIrem hs X5 hx rfl (hb hby at_39) rfl (by decide) ?_
  show G T5 (mkF m 40 #[.val (.int f0), .val (.int f1), .val (.int f2), .val (.int f3), .val (.int ly), .val (.int wh), .val (.ref frq), .unset, .unset, .unset, .unset, .unset, .unset, .unset, .unset, .unset, .unset, .unset, .unset, .unset] [(.int ((ly &&& (2147483647 : Int32)) % (5 : Int32)))])
  refine nameIt (P := fun zz_ : Int32 => G T5 (mkF m 40 #[.val (.int f0), .val (.int f1), .val (.int f2), .val (.int f3), .val (.int ly), .val (.int wh), .val (.ref frq), .unset, .unset, .unset, .unset, .unset, .unset, .unset, .unset, .unset, .unset, .unset, .unset, .unset] [(.int zz_)])) ((ly &&& (2147483647 : Int32)) % (5 : Int32)) (fun s1 hs1 => ?_)
  show G T5 (mkF m 40 #[.val (.int f0), .val (.int f1), .val (.int f2), .val (.int f3), .val (.int ly), .val (.int wh), .val (.ref frq), .unset, .unset, .unset, .unset, .unset, .unset, .unset, .unset, .unset, .unset, .unset, .unset, .unset] [(.int s1)])
  refine hs.go (fun _ kk_ => XS.istore X5.here hx rfl (hb hby at_40) rfl (l' := #[.val (.int f0), .val (.int f1), .val (.int f2), .val (.int f3), .val (.int ly), .val (.int wh), .val (.ref frq), .val (.int s1), .unset, .unset, .unset, .unset, .unset, .unset, .unset, .unset, .unset, .unset, .unset, .unset]) rfl kk_) ?_
  show G T5 (mkF m 42 #[.val (.int f0), .val (.int f1), .val (.int f2), .val (.int f3), .val (.int ly), .val (.int wh), .val (.ref frq), .val (.int s1), .unset, .unset, .unset, .unset, .unset, .unset, .unset, .unset, .unset, .unset, .unset, .unset] [])
  refine hs.go (fun _ kk_ => XS.iload X5.here hx rfl (hb hby at_42) rfl  kk_) ?_
  show G T5 (mkF m 44 #[.val (.int f0), .val (.int f1), .val (.int f2), .val (.int f3), .val (.int ly), .val (.int wh), .val (.ref frq), .val (.int s1), .unset, .unset, .unset, .unset, .unset, .unset, .unset, .unset, .unset, .unset, .unset, .unset] [(.int s1)])
  refine hs.go (fun _ kk_ => XS.iload X5.here hx rfl (hb hby at_44) rfl  kk_) ?_
  show G T5 (mkF m 46 #[.val (.int f0), .val (.int f1), .val (.int f2), .val (.int f3), .val (.int ly), .val (.int wh), .val (.ref frq), .val (.int s1), .unset, .unset, .unset, .unset, .unset, .unset, .unset, .unset, .unset, .unset, .unset, .unset] [(.int ly), (.int s1)])
  refine hs.go (fun _ kk_ => XS.bipush X5.here hx rfl (hb hby at_46) kk_) ?_
  show G T5 (mkF m 48 #[.val (.int f0), .val (.int f1), .val (.int f2), .val (.int f3), .val (.int ly), .val (.int wh), .val (.ref frq), .val (.int s1), .unset, .unset, .unset, .unset, .unset, .unset, .unset, .unset, .unset, .unset, .unset, .unset] [(.int (8 : Int32)), (.int ly), (.int s1)])
  refine hs.go (fun _ kk_ => XS.iushr X5.here hx rfl (hb hby at_48) rfl kk_) ?_
  show G T5 (mkF m 49 #[.val (.int f0), .val (.int f1), .val (.int f2), .val (.int f3), .val (.int ly), .val (.int wh), .val (.ref frq), .val (.int s1), .unset, .unset, .unset, .unset, .unset, .unset, .unset, .unset, .unset, .unset, .unset, .unset] [(.int ((ly.toUInt32 >>> ((8 : Int32) &&& 31).toUInt32).toInt32)), (.int s1)])
  refine hs.go (fun _ kk_ => XS.iconst X5.here hx rfl (hb hby at_49) kk_) ?_
  show G T5 (mkF m 50 #[.val (.int f0), .val (.int f1), .val (.int f2), .val (.int f3), .val (.int ly), .val (.int wh), .val (.ref frq), .val (.int s1), .unset, .unset, .unset, .unset, .unset, .unset, .unset, .unset, .unset, .unset, .unset, .unset] [(.int (5 : Int32)), (.int ((ly.toUInt32 >>> ((8 : Int32) &&& 31).toUInt32).toInt32)), (.int s1)])
  refine hs.go (fun _ kk_ => XS.iload X5.here hx rfl (hb hby at_50) rfl  kk_) ?_
  show G T5 (mkF m 52 #[.val (.int f0), .val (.int f1), .val (.int f2), .val (.int f3), .val (.int ly), .val (.int wh), .val (.ref frq), .val (.int s1), .unset, .unset, .unset, .unset, .unset, .unset, .unset, .unset, .unset, .unset, .unset, .unset] [(.int s1), (.int (5 : Int32)), (.int ((ly.toUInt32 >>> ((8 : Int32) &&& 31).toUInt32).toInt32)), (.int s1)])
  refine hs.go (fun _ kk_ => XS.isub X5.here hx rfl (hb hby at_52) rfl kk_) ?_
  show G T5 (mkF m 53 #[.val (.int f0), .val (.int f1), .val (.int f2), .val (.int f3), .val (.int ly), .val (.int wh), .val (.ref frq), .val (.int s1), .unset, .unset, .unset, .unset, .unset, .unset, .unset, .unset, .unset, .unset, .unset, .unset] [(.int ((5 : Int32) - s1)), (.int ((ly.toUInt32 >>> ((8 : Int32) &&& 31).toUInt32).toInt32)), (.int s1)])
  refine rIrem hs X5 hx rfl (hb hby at_53) rfl (own_nz (own_m5 hs1)) ?_
  show G T5 (mkF m 54 #[.val (.int f0), .val (.int f1), .val (.int f2), .val (.int f3), .val (.int ly), .val (.int wh), .val (.ref frq), .val (.int s1), .unset, .unset, .unset, .unset, .unset, .unset, .unset, .unset, .unset, .unset, .unset, .unset] [(.int (((ly.toUInt32 >>> ((8 : Int32) &&& 31).toUInt32).toInt32) % ((5 : Int32) - s1))), (.int s1)])
  refine hs.go (fun _ kk_ => XS.iadd X5.here hx rfl (hb hby at_54) rfl kk_) ?_
  show G T5 (mkF m 55 #[.val (.int f0), .val (.int f1), .val (.int f2), .val (.int f3), .val (.int ly), .val (.int wh), .val (.ref frq), .val (.int s1), .unset, .unset, .unset, .unset, .unset, .unset, .unset, .unset, .unset, .unset, .unset, .unset] [(.int (s1 + (((ly.toUInt32 >>> ((8 : Int32) &&& 31).toUInt32).toInt32) % ((5 : Int32) - s1))))])
  refine nameIt (P := fun zz_ : Int32 => G T5 (mkF m 55 #[.val (.int f0), .val (.int f1), .val (.int f2), .val (.int f3), .val (.int ly), .val (.int wh), .val (.ref frq), .val (.int s1), .unset, .unset, .unset, .unset, .unset, .unset, .unset, .unset, .unset, .unset, .unset, .unset] [(.int zz_)])) (s1 + (((ly.toUInt32 >>> ((8 : Int32) &&& 31).toUInt32).toInt32) % ((5 : Int32) - s1))) (fun s2 hs2 => ?_)
  show G T5 (mkF m 55 #[.val (.int f0), .val (.int f1), .val (.int f2), .val (.int f3), .val (.int ly), .val (.int wh), .val (.ref frq), .val (.int s1), .unset, .unset, .unset, .unset, .unset, .unset, .unset, .unset, .unset, .unset, .unset, .unset] [(.int s2)])
  refine hs.go (fun _ kk_ => XS.istore X5.here hx rfl (hb hby at_55) rfl (l' := #[.val (.int f0), .val (.int f1), .val (.int f2), .val (.int f3), .val (.int ly), .val (.int wh), .val (.ref frq), .val (.int s1), .val (.int s2), .unset, .unset, .unset, .unset, .unset, .unset, .unset, .unset, .unset, .unset, .unset]) rfl kk_) ?_
  show G T5 (mkF m 57 #[.val (.int f0), .val (.int f1), .val (.int f2), .val (.int f3), .val (.int ly), .val (.int wh), .val (.ref frq), .val (.int s1), .val (.int s2), .unset, .unset, .unset, .unset, .unset, .unset, .unset, .unset, .unset, .unset, .unset] [])
  refine hs.go (fun _ kk_ => XS.iconst X5.here hx rfl (hb hby at_57) kk_) ?_
  show G T5 (mkF m 58 #[.val (.int f0), .val (.int f1), .val (.int f2), .val (.int f3), .val (.int ly), .val (.int wh), .val (.ref frq), .val (.int s1), .val (.int s2), .unset, .unset, .unset, .unset, .unset, .unset, .unset, .unset, .unset, .unset, .unset] [(.int (4 : Int32))])
  refine rNewP hs X5 hx hZ (hw _ (List.mem_of_getElem? (i := 0) rfl)) rfl (hb hby at_58) rfl (by decide) 4 4 (by decide) (by decide) (by decide) (by decide) (fun T6 h6 k6 sts g6 X6 E6 V_sts => ?_)
  have V_sts : Arv Z h6 sts k6 .int (4 : Int32) [(.int (0 : Int32)), (.int (0 : Int32)), (.int (0 : Int32)), (.int (0 : Int32))] (.int (0 : Int32)) := V_sts
  have g_sts : n0 ≤ sts := by rw [g6]; exact Z0
  have Z0 := Nat.le_trans Z0 E6.1
  have ne_frq_sts : frq ≠ sts := Nat.ne_of_lt (Nat.lt_of_lt_of_le V_frq.lt (Nat.le_of_eq g6.symm))
  have V_frq := V_frq.ext E6
  show G T6 (mkF m 60 #[.val (.int f0), .val (.int f1), .val (.int f2), .val (.int f3), .val (.int ly), .val (.int wh), .val (.ref frq), .val (.int s1), .val (.int s2), .unset, .unset, .unset, .unset, .unset, .unset, .unset, .unset, .unset, .unset, .unset] [(.ref sts)])
  refine hs.go (fun _ kk_ => XS.dup X6.here hx rfl (hb hby at_60) rfl rfl kk_) ?_
  show G T6 (mkF m 61 #[.val (.int f0), .val (.int f1), .val (.int f2), .val (.int f3), .val (.int ly), .val (.int wh), .val (.ref frq), .val (.int s1), .val (.int s2), .unset, .unset, .unset, .unset, .unset, .unset, .unset, .unset, .unset, .unset, .unset] [(.ref sts), (.ref sts)])
  refine hs.go (fun _ kk_ => XS.iconst X6.here hx rfl (hb hby at_61) kk_) ?_
  show G T6 (mkF m 62 #[.val (.int f0), .val (.int f1), .val (.int f2), .val (.int f3), .val (.int ly), .val (.int wh), .val (.ref frq), .val (.int s1), .val (.int s2), .unset, .unset, .unset, .unset, .unset, .unset, .unset, .unset, .unset, .unset, .unset] [(.int (0 : Int32)), (.ref sts), (.ref sts)])
  refine hs.go (fun _ kk_ => XS.iconst X6.here hx rfl (hb hby at_62) kk_) ?_
  show G T6 (mkF m 63 #[.val (.int f0), .val (.int f1), .val (.int f2), .val (.int f3), .val (.int ly), .val (.int wh), .val (.ref frq), .val (.int s1), .val (.int s2), .unset, .unset, .unset, .unset, .unset, .unset, .unset, .unset, .unset, .unset, .unset] [(.int (0 : Int32)), (.int (0 : Int32)), (.ref sts), (.ref sts)])
  refine rStI hs X6 hx hZ V_sts g_sts ⟨by decide, by decide⟩ 0 (by decide) (by simp) rfl rfl (hb hby at_63) (fun T7 h7 X7 W7 V_sts => ?_)
  have V_sts : Arv Z h7 sts k6 .int (4 : Int32) [(.int (0 : Int32)), (.int (0 : Int32)), (.int (0 : Int32)), (.int (0 : Int32))] (.int (0 : Int32)) := V_sts
  have V_frq := V_frq.other W7 ne_frq_sts
  have Z0 := Nat.le_trans Z0 (Keep.of_wr W7).1
  show G T7 (mkF m 64 #[.val (.int f0), .val (.int f1), .val (.int f2), .val (.int f3), .val (.int ly), .val (.int wh), .val (.ref frq), .val (.int s1), .val (.int s2), .unset, .unset, .unset, .unset, .unset, .unset, .unset, .unset, .unset, .unset, .unset] [(.ref sts)])
  refine hs.go (fun _ kk_ => XS.dup X7.here hx rfl (hb hby at_64) rfl rfl kk_) ?_
  show G T7 (mkF m 65 #[.val (.int f0), .val (.int f1), .val (.int f2), .val (.int f3), .val (.int ly), .val (.int wh), .val (.ref frq), .val (.int s1), .val (.int s2), .unset, .unset, .unset, .unset, .unset, .unset, .unset, .unset, .unset, .unset, .unset] [(.ref sts), (.ref sts)])
  refine hs.go (fun _ kk_ => XS.iconst X7.here hx rfl (hb hby at_65) kk_) ?_
  show G T7 (mkF m 66 #[.val (.int f0), .val (.int f1), .val (.int f2), .val (.int f3), .val (.int ly), .val (.int wh), .val (.ref frq), .val (.int s1), .val (.int s2), .unset, .unset, .unset, .unset, .unset, .unset, .unset, .unset, .unset, .unset, .unset] [(.int (1 : Int32)), (.ref sts), (.ref sts)])
  refine hs.go (fun _ kk_ => XS.iload X7.here hx rfl (hb hby at_66) rfl  kk_) ?_
  show G T7 (mkF m 68 #[.val (.int f0), .val (.int f1), .val (.int f2), .val (.int f3), .val (.int ly), .val (.int wh), .val (.ref frq), .val (.int s1), .val (.int s2), .unset, .unset, .unset, .unset, .unset, .unset, .unset, .unset, .unset, .unset, .unset] [(.int s1), (.int (1 : Int32)), (.ref sts), (.ref sts)])
  refine rStI hs X7 hx hZ V_sts g_sts ⟨by decide, by decide⟩ 1 (by decide) (by simp) rfl rfl (hb hby at_68) (fun T8 h8 X8 W8 V_sts => ?_)
  have V_sts : Arv Z h8 sts k6 .int (4 : Int32) [(.int (0 : Int32)), (.int s1), (.int (0 : Int32)), (.int (0 : Int32))] (.int (0 : Int32)) := V_sts
  have V_frq := V_frq.other W8 ne_frq_sts
  have Z0 := Nat.le_trans Z0 (Keep.of_wr W8).1
  show G T8 (mkF m 69 #[.val (.int f0), .val (.int f1), .val (.int f2), .val (.int f3), .val (.int ly), .val (.int wh), .val (.ref frq), .val (.int s1), .val (.int s2), .unset, .unset, .unset, .unset, .unset, .unset, .unset, .unset, .unset, .unset, .unset] [(.ref sts)])
  refine hs.go (fun _ kk_ => XS.dup X8.here hx rfl (hb hby at_69) rfl rfl kk_) ?_
  show G T8 (mkF m 70 #[.val (.int f0), .val (.int f1), .val (.int f2), .val (.int f3), .val (.int ly), .val (.int wh), .val (.ref frq), .val (.int s1), .val (.int s2), .unset, .unset, .unset, .unset, .unset, .unset, .unset, .unset, .unset, .unset, .unset] [(.ref sts), (.ref sts)])
  refine hs.go (fun _ kk_ => XS.iconst X8.here hx rfl (hb hby at_70) kk_) ?_
  show G T8 (mkF m 71 #[.val (.int f0), .val (.int f1), .val (.int f2), .val (.int f3), .val (.int ly), .val (.int wh), .val (.ref frq), .val (.int s1), .val (.int s2), .unset, .unset, .unset, .unset, .unset, .unset, .unset, .unset, .unset, .unset, .unset] [(.int (2 : Int32)), (.ref sts), (.ref sts)])
  refine hs.go (fun _ kk_ => XS.iload X8.here hx rfl (hb hby at_71) rfl  kk_) ?_
  show G T8 (mkF m 73 #[.val (.int f0), .val (.int f1), .val (.int f2), .val (.int f3), .val (.int ly), .val (.int wh), .val (.ref frq), .val (.int s1), .val (.int s2), .unset, .unset, .unset, .unset, .unset, .unset, .unset, .unset, .unset, .unset, .unset] [(.int s2), (.int (2 : Int32)), (.ref sts), (.ref sts)])
  refine rStI hs X8 hx hZ V_sts g_sts ⟨by decide, by decide⟩ 2 (by decide) (by simp) rfl rfl (hb hby at_73) (fun T9 h9 X9 W9 V_sts => ?_)
  have V_sts : Arv Z h9 sts k6 .int (4 : Int32) [(.int (0 : Int32)), (.int s1), (.int s2), (.int (0 : Int32))] (.int (0 : Int32)) := V_sts
  have V_frq := V_frq.other W9 ne_frq_sts
  have Z0 := Nat.le_trans Z0 (Keep.of_wr W9).1
  show G T9 (mkF m 74 #[.val (.int f0), .val (.int f1), .val (.int f2), .val (.int f3), .val (.int ly), .val (.int wh), .val (.ref frq), .val (.int s1), .val (.int s2), .unset, .unset, .unset, .unset, .unset, .unset, .unset, .unset, .unset, .unset, .unset] [(.ref sts)])
  refine hs.go (fun _ kk_ => XS.dup X9.here hx rfl (hb hby at_74) rfl rfl kk_) ?_
  show G T9 (mkF m 75 #[.val (.int f0), .val (.int f1), .val (.int f2), .val (.int f3), .val (.int ly), .val (.int wh), .val (.ref frq), .val (.int s1), .val (.int s2), .unset, .unset, .unset, .unset, .unset, .unset, .unset, .unset, .unset, .unset, .unset] [(.ref sts), (.ref sts)])
  refine hs.go (fun _ kk_ => XS.iconst X9.here hx rfl (hb hby at_75) kk_) ?_
  show G T9 (mkF m 76 #[.val (.int f0), .val (.int f1), .val (.int f2), .val (.int f3), .val (.int ly), .val (.int wh), .val (.ref frq), .val (.int s1), .val (.int s2), .unset, .unset, .unset, .unset, .unset, .unset, .unset, .unset, .unset, .unset, .unset] [(.int (3 : Int32)), (.ref sts), (.ref sts)])
  refine hs.go (fun _ kk_ => XS.iconst X9.here hx rfl (hb hby at_76) kk_) ?_
  show G T9 (mkF m 77 #[.val (.int f0), .val (.int f1), .val (.int f2), .val (.int f3), .val (.int ly), .val (.int wh), .val (.ref frq), .val (.int s1), .val (.int s2), .unset, .unset, .unset, .unset, .unset, .unset, .unset, .unset, .unset, .unset, .unset] [(.int (4 : Int32)), (.int (3 : Int32)), (.ref sts), (.ref sts)])
  refine rStI hs X9 hx hZ V_sts g_sts ⟨by decide, by decide⟩ 3 (by decide) (by simp) rfl rfl (hb hby at_77) (fun T10 h10 X10 W10 V_sts => ?_)
  have V_sts : Arv Z h10 sts k6 .int (4 : Int32) [(.int (0 : Int32)), (.int s1), (.int s2), (.int (4 : Int32))] (.int (0 : Int32)) := V_sts
  have V_frq := V_frq.other W10 ne_frq_sts
  have Z0 := Nat.le_trans Z0 (Keep.of_wr W10).1
  show G T10 (mkF m 78 #[.val (.int f0), .val (.int f1), .val (.int f2), .val (.int f3), .val (.int ly), .val (.int wh), .val (.ref frq), .val (.int s1), .val (.int s2), .unset, .unset, .unset, .unset, .unset, .unset, .unset, .unset, .unset, .unset, .unset] [(.ref sts)])
  refine hs.go (fun _ kk_ => XS.astore X10.here hx rfl (hb hby at_78) rfl rfl (l' := #[.val (.int f0), .val (.int f1), .val (.int f2), .val (.int f3), .val (.int ly), .val (.int wh), .val (.ref frq), .val (.int s1), .val (.int s2), .val (.ref sts), .unset, .unset, .unset, .unset, .unset, .unset, .unset, .unset, .unset, .unset]) rfl kk_) ?_
  show G T10 (mkF m 80 #[.val (.int f0), .val (.int f1), .val (.int f2), .val (.int f3), .val (.int ly), .val (.int wh), .val (.ref frq), .val (.int s1), .val (.int s2), .val (.ref sts), .unset, .unset, .unset, .unset, .unset, .unset, .unset, .unset, .unset, .unset] [])
  refine hs.go (fun _ kk_ => XS.iload X10.here hx rfl (hb hby at_80) rfl  kk_) ?_
  show G T10 (mkF m 82 #[.val (.int f0), .val (.int f1), .val (.int f2), .val (.int f3), .val (.int ly), .val (.int wh), .val (.ref frq), .val (.int s1), .val (.int s2), .val (.ref sts), .unset, .unset, .unset, .unset, .unset, .unset, .unset, .unset, .unset, .unset] [(.int wh)])
  refine rLdcI hs X10 hx hZ hown (hw _ (List.mem_of_getElem? (i := 1) rfl)) rfl (hb hby at_82) ?_
  show G T10 (mkF m 84 #[.val (.int f0), .val (.int f1), .val (.int f2), .val (.int f3), .val (.int ly), .val (.int wh), .val (.ref frq), .val (.int s1), .val (.int s2), .val (.ref sts), .unset, .unset, .unset, .unset, .unset, .unset, .unset, .unset, .unset, .unset] [(.int (2147483647 : Int32)), (.int wh)])
  refine hs.go (fun _ kk_ => XS.iand X10.here hx rfl (hb hby at_84) rfl kk_) ?_
  show G T10 (mkF m 85 #[.val (.int f0), .val (.int f1), .val (.int f2), .val (.int f3), .val (.int ly), .val (.int wh), .val (.ref frq), .val (.int s1), .val (.int s2), .val (.ref sts), .unset, .unset, .unset, .unset, .unset, .unset, .unset, .unset, .unset, .unset] [(.int (wh &&& (2147483647 : Int32)))])
  refine hs.go (fun _ kk_ => XS.iconst X10.here hx rfl (hb hby at_85) kk_) ?_
  show G T10 (mkF m 86 #[.val (.int f0), .val (.int f1), .val (.int f2), .val (.int f3), .val (.int ly), .val (.int wh), .val (.ref frq), .val (.int s1), .val (.int s2), .val (.ref sts), .unset, .unset, .unset, .unset, .unset, .unset, .unset, .unset, .unset, .unset] [(.int (3 : Int32)), (.int (wh &&& (2147483647 : Int32)))])
  refine rIrem hs X10 hx rfl (hb hby at_86) rfl (by decide) ?_
  show G T10 (mkF m 87 #[.val (.int f0), .val (.int f1), .val (.int f2), .val (.int f3), .val (.int ly), .val (.int wh), .val (.ref frq), .val (.int s1), .val (.int s2), .val (.ref sts), .unset, .unset, .unset, .unset, .unset, .unset, .unset, .unset, .unset, .unset] [(.int ((wh &&& (2147483647 : Int32)) % (3 : Int32)))])
  refine nameIt (P := fun zz_ : Int32 => G T10 (mkF m 87 #[.val (.int f0), .val (.int f1), .val (.int f2), .val (.int f3), .val (.int ly), .val (.int wh), .val (.ref frq), .val (.int s1), .val (.int s2), .val (.ref sts), .unset, .unset, .unset, .unset, .unset, .unset, .unset, .unset, .unset, .unset] [(.int zz_)])) ((wh &&& (2147483647 : Int32)) % (3 : Int32)) (fun tm htm => ?_)
  show G T10 (mkF m 87 #[.val (.int f0), .val (.int f1), .val (.int f2), .val (.int f3), .val (.int ly), .val (.int wh), .val (.ref frq), .val (.int s1), .val (.int s2), .val (.ref sts), .unset, .unset, .unset, .unset, .unset, .unset, .unset, .unset, .unset, .unset] [(.int tm)])
  refine hs.go (fun _ kk_ => XS.istore X10.here hx rfl (hb hby at_87) rfl (l' := #[.val (.int f0), .val (.int f1), .val (.int f2), .val (.int f3), .val (.int ly), .val (.int wh), .val (.ref frq), .val (.int s1), .val (.int s2), .val (.ref sts), .val (.int tm), .unset, .unset, .unset, .unset, .unset, .unset, .unset, .unset, .unset]) rfl kk_) ?_
  show G T10 (mkF m 89 #[.val (.int f0), .val (.int f1), .val (.int f2), .val (.int f3), .val (.int ly), .val (.int wh), .val (.ref frq), .val (.int s1), .val (.int s2), .val (.ref sts), .val (.int tm), .unset, .unset, .unset, .unset, .unset, .unset, .unset, .unset, .unset] [])
  rcases own_tm htm with rfl | rfl | rfl
  · have HL : 0 ≤ ((0 : Int32)).toInt ∧ ((0 : Int32)).toInt ≤ (s1).toInt ∧ (s1).toInt ≤ 4 := by
      have q1 := own_m5 hs1
      have q2 := own_s2 q1 hs2
      have k0 : (0 : Int32).toInt = 0 := rfl
      have k4 : (4 : Int32).toInt = 4 := rfl
      omega
    show G T10 (mkF m 89 #[.val (.int f0), .val (.int f1), .val (.int f2), .val (.int f3), .val (.int ly), .val (.int wh), .val (.ref frq), .val (.int s1), .val (.int s2), .val (.ref sts), .val (.int (0 : Int32)), .unset, .unset, .unset, .unset, .unset, .unset, .unset, .unset, .unset] [])
    refine hs.go (fun _ kk_ => XS.aload X10.here hx rfl (hb hby at_89) rfl rfl kk_) ?_
    show G T10 (mkF m 91 #[.val (.int f0), .val (.int f1), .val (.int f2), .val (.int f3), .val (.int ly), .val (.int wh), .val (.ref frq), .val (.int s1), .val (.int s2), .val (.ref sts), .val (.int (0 : Int32)), .unset, .unset, .unset, .unset, .unset, .unset, .unset, .unset, .unset] [(.ref frq)])
    refine hs.go (fun _ kk_ => XS.iconst X10.here hx rfl (hb hby at_91) kk_) ?_
    show G T10 (mkF m 92 #[.val (.int f0), .val (.int f1), .val (.int f2), .val (.int f3), .val (.int ly), .val (.int wh), .val (.ref frq), .val (.int s1), .val (.int s2), .val (.ref sts), .val (.int (0 : Int32)), .unset, .unset, .unset, .unset, .unset, .unset, .unset, .unset, .unset] [(.int (0 : Int32)), (.ref frq)])
    refine rLdI hs X10 hx hZ V_frq ⟨by decide, by decide⟩ (v := (.int g0)) rfl rfl rfl (hb hby at_92) ?_
    show G T10 (mkF m 93 #[.val (.int f0), .val (.int f1), .val (.int f2), .val (.int f3), .val (.int ly), .val (.int wh), .val (.ref frq), .val (.int s1), .val (.int s2), .val (.ref sts), .val (.int (0 : Int32)), .unset, .unset, .unset, .unset, .unset, .unset, .unset, .unset, .unset] [(.int g0)])
    refine hs.go (fun _ kk_ => XS.i2l X10.here hx rfl (hb hby at_93) rfl kk_) ?_
    show G T10 (mkF m 94 #[.val (.int f0), .val (.int f1), .val (.int f2), .val (.int f3), .val (.int ly), .val (.int wh), .val (.ref frq), .val (.int s1), .val (.int s2), .val (.ref sts), .val (.int (0 : Int32)), .unset, .unset, .unset, .unset, .unset, .unset, .unset, .unset, .unset] [(.long (g0.toInt64))])
    refine hs.go (fun _ kk_ => XS.aload X10.here hx rfl (hb hby at_94) rfl rfl kk_) ?_
    show G T10 (mkF m 96 #[.val (.int f0), .val (.int f1), .val (.int f2), .val (.int f3), .val (.int ly), .val (.int wh), .val (.ref frq), .val (.int s1), .val (.int s2), .val (.ref sts), .val (.int (0 : Int32)), .unset, .unset, .unset, .unset, .unset, .unset, .unset, .unset, .unset] [(.ref frq), (.long (g0.toInt64))])
    refine hs.go (fun _ kk_ => XS.iconst X10.here hx rfl (hb hby at_96) kk_) ?_
    show G T10 (mkF m 97 #[.val (.int f0), .val (.int f1), .val (.int f2), .val (.int f3), .val (.int ly), .val (.int wh), .val (.ref frq), .val (.int s1), .val (.int s2), .val (.ref sts), .val (.int (0 : Int32)), .unset, .unset, .unset, .unset, .unset, .unset, .unset, .unset, .unset] [(.int (1 : Int32)), (.ref frq), (.long (g0.toInt64))])
    refine rLdI hs X10 hx hZ V_frq ⟨by decide, by decide⟩ (v := (.int g1)) rfl rfl rfl (hb hby at_97) ?_
    show G T10 (mkF m 98 #[.val (.int f0), .val (.int f1), .val (.int f2), .val (.int f3), .val (.int ly), .val (.int wh), .val (.ref frq), .val (.int s1), .val (.int s2), .val (.ref sts), .val (.int (0 : Int32)), .unset, .unset, .unset, .unset, .unset, .unset, .unset, .unset, .unset] [(.int g1), (.long (g0.toInt64))])
    refine hs.go (fun _ kk_ => XS.i2l X10.here hx rfl (hb hby at_98) rfl kk_) ?_
    show G T10 (mkF m 99 #[.val (.int f0), .val (.int f1), .val (.int f2), .val (.int f3), .val (.int ly), .val (.int wh), .val (.ref frq), .val (.int s1), .val (.int s2), .val (.ref sts), .val (.int (0 : Int32)), .unset, .unset, .unset, .unset, .unset, .unset, .unset, .unset, .unset] [(.long (g1.toInt64)), (.long (g0.toInt64))])
    refine hs.go (fun _ kk_ => XS.ladd X10.here hx rfl (hb hby at_99) rfl kk_) ?_
    show G T10 (mkF m 100 #[.val (.int f0), .val (.int f1), .val (.int f2), .val (.int f3), .val (.int ly), .val (.int wh), .val (.ref frq), .val (.int s1), .val (.int s2), .val (.ref sts), .val (.int (0 : Int32)), .unset, .unset, .unset, .unset, .unset, .unset, .unset, .unset, .unset] [(.long ((g0.toInt64) + (g1.toInt64)))])
    refine hs.go (fun _ kk_ => XS.aload X10.here hx rfl (hb hby at_100) rfl rfl kk_) ?_
    show G T10 (mkF m 102 #[.val (.int f0), .val (.int f1), .val (.int f2), .val (.int f3), .val (.int ly), .val (.int wh), .val (.ref frq), .val (.int s1), .val (.int s2), .val (.ref sts), .val (.int (0 : Int32)), .unset, .unset, .unset, .unset, .unset, .unset, .unset, .unset, .unset] [(.ref frq), (.long ((g0.toInt64) + (g1.toInt64)))])
    refine hs.go (fun _ kk_ => XS.iconst X10.here hx rfl (hb hby at_102) kk_) ?_
    show G T10 (mkF m 103 #[.val (.int f0), .val (.int f1), .val (.int f2), .val (.int f3), .val (.int ly), .val (.int wh), .val (.ref frq), .val (.int s1), .val (.int s2), .val (.ref sts), .val (.int (0 : Int32)), .unset, .unset, .unset, .unset, .unset, .unset, .unset, .unset, .unset] [(.int (2 : Int32)), (.ref frq), (.long ((g0.toInt64) + (g1.toInt64)))])
    refine rLdI hs X10 hx hZ V_frq ⟨by decide, by decide⟩ (v := (.int g2)) rfl rfl rfl (hb hby at_103) ?_
    show G T10 (mkF m 104 #[.val (.int f0), .val (.int f1), .val (.int f2), .val (.int f3), .val (.int ly), .val (.int wh), .val (.ref frq), .val (.int s1), .val (.int s2), .val (.ref sts), .val (.int (0 : Int32)), .unset, .unset, .unset, .unset, .unset, .unset, .unset, .unset, .unset] [(.int g2), (.long ((g0.toInt64) + (g1.toInt64)))])
    refine hs.go (fun _ kk_ => XS.i2l X10.here hx rfl (hb hby at_104) rfl kk_) ?_
    show G T10 (mkF m 105 #[.val (.int f0), .val (.int f1), .val (.int f2), .val (.int f3), .val (.int ly), .val (.int wh), .val (.ref frq), .val (.int s1), .val (.int s2), .val (.ref sts), .val (.int (0 : Int32)), .unset, .unset, .unset, .unset, .unset, .unset, .unset, .unset, .unset] [(.long (g2.toInt64)), (.long ((g0.toInt64) + (g1.toInt64)))])
    refine hs.go (fun _ kk_ => XS.ladd X10.here hx rfl (hb hby at_105) rfl kk_) ?_
    show G T10 (mkF m 106 #[.val (.int f0), .val (.int f1), .val (.int f2), .val (.int f3), .val (.int ly), .val (.int wh), .val (.ref frq), .val (.int s1), .val (.int s2), .val (.ref sts), .val (.int (0 : Int32)), .unset, .unset, .unset, .unset, .unset, .unset, .unset, .unset, .unset] [(.long (((g0.toInt64) + (g1.toInt64)) + (g2.toInt64)))])
    refine hs.go (fun _ kk_ => XS.aload X10.here hx rfl (hb hby at_106) rfl rfl kk_) ?_
    show G T10 (mkF m 108 #[.val (.int f0), .val (.int f1), .val (.int f2), .val (.int f3), .val (.int ly), .val (.int wh), .val (.ref frq), .val (.int s1), .val (.int s2), .val (.ref sts), .val (.int (0 : Int32)), .unset, .unset, .unset, .unset, .unset, .unset, .unset, .unset, .unset] [(.ref frq), (.long (((g0.toInt64) + (g1.toInt64)) + (g2.toInt64)))])
    refine hs.go (fun _ kk_ => XS.iconst X10.here hx rfl (hb hby at_108) kk_) ?_
    show G T10 (mkF m 109 #[.val (.int f0), .val (.int f1), .val (.int f2), .val (.int f3), .val (.int ly), .val (.int wh), .val (.ref frq), .val (.int s1), .val (.int s2), .val (.ref sts), .val (.int (0 : Int32)), .unset, .unset, .unset, .unset, .unset, .unset, .unset, .unset, .unset] [(.int (3 : Int32)), (.ref frq), (.long (((g0.toInt64) + (g1.toInt64)) + (g2.toInt64)))])
    refine rLdI hs X10 hx hZ V_frq ⟨by decide, by decide⟩ (v := (.int g3)) rfl rfl rfl (hb hby at_109) ?_
    show G T10 (mkF m 110 #[.val (.int f0), .val (.int f1), .val (.int f2), .val (.int f3), .val (.int ly), .val (.int wh), .val (.ref frq), .val (.int s1), .val (.int s2), .val (.ref sts), .val (.int (0 : Int32)), .unset, .unset, .unset, .unset, .unset, .unset, .unset, .unset, .unset] [(.int g3), (.long (((g0.toInt64) + (g1.toInt64)) + (g2.toInt64)))])
    refine hs.go (fun _ kk_ => XS.i2l X10.here hx rfl (hb hby at_110) rfl kk_) ?_
    show G T10 (mkF m 111 #[.val (.int f0), .val (.int f1), .val (.int f2), .val (.int f3), .val (.int ly), .val (.int wh), .val (.ref frq), .val (.int s1), .val (.int s2), .val (.ref sts), .val (.int (0 : Int32)), .unset, .unset, .unset, .unset, .unset, .unset, .unset, .unset, .unset] [(.long (g3.toInt64)), (.long (((g0.toInt64) + (g1.toInt64)) + (g2.toInt64)))])
    refine hs.go (fun _ kk_ => XS.ladd X10.here hx rfl (hb hby at_111) rfl kk_) ?_
    show G T10 (mkF m 112 #[.val (.int f0), .val (.int f1), .val (.int f2), .val (.int f3), .val (.int ly), .val (.int wh), .val (.ref frq), .val (.int s1), .val (.int s2), .val (.ref sts), .val (.int (0 : Int32)), .unset, .unset, .unset, .unset, .unset, .unset, .unset, .unset, .unset] [(.long ((((g0.toInt64) + (g1.toInt64)) + (g2.toInt64)) + (g3.toInt64)))])
    refine nameIt (P := fun zz_ : Int64 => G T10 (mkF m 112 #[.val (.int f0), .val (.int f1), .val (.int f2), .val (.int f3), .val (.int ly), .val (.int wh), .val (.ref frq), .val (.int s1), .val (.int s2), .val (.ref sts), .val (.int (0 : Int32)), .unset, .unset, .unset, .unset, .unset, .unset, .unset, .unset, .unset] [(.long zz_)])) ((((g0.toInt64) + (g1.toInt64)) + (g2.toInt64)) + (g3.toInt64)) (fun tot htot => ?_)
    show G T10 (mkF m 112 #[.val (.int f0), .val (.int f1), .val (.int f2), .val (.int f3), .val (.int ly), .val (.int wh), .val (.ref frq), .val (.int s1), .val (.int s2), .val (.ref sts), .val (.int (0 : Int32)), .unset, .unset, .unset, .unset, .unset, .unset, .unset, .unset, .unset] [(.long tot)])
    refine hs.go (fun _ kk_ => XS.lstore X10.here hx rfl (hb hby at_112) rfl (l' := #[.val (.int f0), .val (.int f1), .val (.int f2), .val (.int f3), .val (.int ly), .val (.int wh), .val (.ref frq), .val (.int s1), .val (.int s2), .val (.ref sts), .val (.int (0 : Int32)), .val (.long tot), .second, .unset, .unset, .unset, .unset, .unset, .unset, .unset]) rfl kk_) ?_
    show G T10 (mkF m 114 #[.val (.int f0), .val (.int f1), .val (.int f2), .val (.int f3), .val (.int ly), .val (.int wh), .val (.ref frq), .val (.int s1), .val (.int s2), .val (.ref sts), .val (.int (0 : Int32)), .val (.long tot), .second, .unset, .unset, .unset, .unset, .unset, .unset, .unset] [])
    refine rNewO hs X10 hx hZ hown (hw _ (List.mem_of_getElem? (i := 2) rfl)) (hw _ (List.mem_of_getElem? (i := 3) rfl)) (hw _ (List.mem_of_getElem? (i := 4) rfl)) rfl (hb hby at_114) (by decide) (by decide) (fun T11 h11 ob g11 X11 E11 E_ob D11 => ?_)
    have g_ob : n0 ≤ ob := by rw [g11]; exact Z0
    have Z0 := Nat.le_trans Z0 E11.1
    have ne_frq_ob : frq ≠ ob := Nat.ne_of_lt (Nat.lt_of_lt_of_le V_frq.lt (Nat.le_of_eq g11.symm))
    have ne_sts_ob : sts ≠ ob := Nat.ne_of_lt (Nat.lt_of_lt_of_le V_sts.lt (Nat.le_of_eq g11.symm))
    have V_frq := V_frq.ext E11
    have V_sts := V_sts.ext E11
    have F_analysis_ob : Fld Z h11 ob "com/example/vector_space_ranker/vectorspaceranker/Index" "analysis" "Lcom/example/vector_space_ranker/vectorspaceranker/Analysis;" .null := D11 (Or.inr (hw _ (List.mem_of_getElem? (i := 14) rfl))) (ty := (.object "com/example/vector_space_ranker/vectorspaceranker/Analysis")) (by decide)
    have F_docnos_ob : Fld Z h11 ob "com/example/vector_space_ranker/vectorspaceranker/Index" "docnos" "[Ljava/lang/String;" .null := D11 (Or.inr (hw _ (List.mem_of_getElem? (i := 16) rfl))) (ty := (.array (.object "java/lang/String"))) (by decide)
    have F_characterLengths_ob : Fld Z h11 ob "com/example/vector_space_ranker/vectorspaceranker/Index" "characterLengths" "[I" .null := D11 (Or.inr (hw _ (List.mem_of_getElem? (i := 18) rfl))) (ty := (.array .int)) (by decide)
    have F_terms_ob : Fld Z h11 ob "com/example/vector_space_ranker/vectorspaceranker/Index" "terms" "[Ljava/lang/String;" .null := D11 (Or.inr (hw _ (List.mem_of_getElem? (i := 20) rfl))) (ty := (.array (.object "java/lang/String"))) (by decide)
    have F_postingStarts_ob : Fld Z h11 ob "com/example/vector_space_ranker/vectorspaceranker/Index" "postingStarts" "[I" .null := D11 (Or.inr (hw _ (List.mem_of_getElem? (i := 22) rfl))) (ty := (.array .int)) (by decide)
    have F_postingDocuments_ob : Fld Z h11 ob "com/example/vector_space_ranker/vectorspaceranker/Index" "postingDocuments" "[I" .null := D11 (Or.inr (hw _ (List.mem_of_getElem? (i := 24) rfl))) (ty := (.array .int)) (by decide)
    have F_postingFrequencies_ob : Fld Z h11 ob "com/example/vector_space_ranker/vectorspaceranker/Index" "postingFrequencies" "[I" .null := D11 (Or.inr (hw _ (List.mem_of_getElem? (i := 26) rfl))) (ty := (.array .int)) (by decide)
    have F_tokenCount_ob : Fld Z h11 ob "com/example/vector_space_ranker/vectorspaceranker/Index" "tokenCount" "J" (.long (0 : Int64)) := D11 (Or.inr (hw _ (List.mem_of_getElem? (i := 28) rfl))) (ty := .long) (by decide)
    show G T11 (mkF m 117 #[.val (.int f0), .val (.int f1), .val (.int f2), .val (.int f3), .val (.int ly), .val (.int wh), .val (.ref frq), .val (.int s1), .val (.int s2), .val (.ref sts), .val (.int (0 : Int32)), .val (.long tot), .second, .unset, .unset, .unset, .unset, .unset, .unset, .unset] [(.ref ob)])
    refine hs.go (fun _ kk_ => XS.dup X11.here hx rfl (hb hby at_117) rfl rfl kk_) ?_
    show G T11 (mkF m 118 #[.val (.int f0), .val (.int f1), .val (.int f2), .val (.int f3), .val (.int ly), .val (.int wh), .val (.ref frq), .val (.int s1), .val (.int s2), .val (.ref sts), .val (.int (0 : Int32)), .val (.long tot), .second, .unset, .unset, .unset, .unset, .unset, .unset, .unset] [(.ref ob), (.ref ob)])
    refine hs.go (fun _ kk_ => XS.aconstNull X11.here hx rfl (hb hby at_118) kk_) ?_
    show G T11 (mkF m 119 #[.val (.int f0), .val (.int f1), .val (.int f2), .val (.int f3), .val (.int ly), .val (.int wh), .val (.ref frq), .val (.int s1), .val (.int s2), .val (.ref sts), .val (.int (0 : Int32)), .val (.long tot), .second, .unset, .unset, .unset, .unset, .unset, .unset, .unset] [.null, (.ref ob), (.ref ob)])
    refine hs.go (fun _ kk_ => XS.iconst X11.here hx rfl (hb hby at_119) kk_) ?_
    show G T11 (mkF m 120 #[.val (.int f0), .val (.int f1), .val (.int f2), .val (.int f3), .val (.int ly), .val (.int wh), .val (.ref frq), .val (.int s1), .val (.int s2), .val (.ref sts), .val (.int (0 : Int32)), .val (.long tot), .second, .unset, .unset, .unset, .unset, .unset, .unset, .unset] [(.int (0 : Int32)), .null, (.ref ob), (.ref ob)])
    refine rNewR hs X11 hx hZ hown (hw _ (List.mem_of_getElem? (i := 5) rfl)) (hw _ (List.mem_of_getElem? (i := 6) rfl)) rfl (hb hby at_120) rfl (by decide) 0 0 (by decide) (by decide) (by decide) (by decide) (fun T12 h12 k12 dn g12 X12 E12 V_dn O_dn => ?_)
    have V_dn : Arv Z h12 dn k12 (.object "java/lang/String") (0 : Int32) [] .null := V_dn
    have g_dn : n0 ≤ dn := by rw [g12]; exact Z0
    have Z0 := Nat.le_trans Z0 E12.1
    have ne_frq_dn : frq ≠ dn := Nat.ne_of_lt (Nat.lt_of_lt_of_le V_frq.lt (Nat.le_of_eq g12.symm))
    have ne_sts_dn : sts ≠ dn := Nat.ne_of_lt (Nat.lt_of_lt_of_le V_sts.lt (Nat.le_of_eq g12.symm))
    have ne_ob_dn : ob ≠ dn := Nat.ne_of_lt (Nat.lt_of_lt_of_le E_ob.lt (Nat.le_of_eq g12.symm))
    have V_frq := V_frq.ext E12
    have V_sts := V_sts.ext E12
    have E_ob := E_ob.ext E12
    have F_analysis_ob := F_analysis_ob.ext E12
    have F_docnos_ob := F_docnos_ob.ext E12
    have F_characterLengths_ob := F_characterLengths_ob.ext E12
    have F_terms_ob := F_terms_ob.ext E12
    have F_postingStarts_ob := F_postingStarts_ob.ext E12
    have F_postingDocuments_ob := F_postingDocuments_ob.ext E12
    have F_postingFrequencies_ob := F_postingFrequencies_ob.ext E12
    have F_tokenCount_ob := F_tokenCount_ob.ext E12
    show G T12 (mkF m 123 #[.val (.int f0), .val (.int f1), .val (.int f2), .val (.int f3), .val (.int ly), .val (.int wh), .val (.ref frq), .val (.int s1), .val (.int s2), .val (.ref sts), .val (.int (0 : Int32)), .val (.long tot), .second, .unset, .unset, .unset, .unset, .unset, .unset, .unset] [(.ref dn), .null, (.ref ob), (.ref ob)])
    refine hs.go (fun _ kk_ => XS.iconst X12.here hx rfl (hb hby at_123) kk_) ?_
    show G T12 (mkF m 124 #[.val (.int f0), .val (.int f1), .val (.int f2), .val (.int f3), .val (.int ly), .val (.int wh), .val (.ref frq), .val (.int s1), .val (.int s2), .val (.ref sts), .val (.int (0 : Int32)), .val (.long tot), .second, .unset, .unset, .unset, .unset, .unset, .unset, .unset] [(.int (0 : Int32)), (.ref dn), .null, (.ref ob), (.ref ob)])
    refine rNewP hs X12 hx hZ (hw _ (List.mem_of_getElem? (i := 0) rfl)) rfl (hb hby at_124) rfl (by decide) 0 0 (by decide) (by decide) (by decide) (by decide) (fun T13 h13 k13 cl g13 X13 E13 V_cl => ?_)
    have V_cl : Arv Z h13 cl k13 .int (0 : Int32) [] (.int (0 : Int32)) := V_cl
    have g_cl : n0 ≤ cl := by rw [g13]; exact Z0
    have Z0 := Nat.le_trans Z0 E13.1
    have ne_frq_cl : frq ≠ cl := Nat.ne_of_lt (Nat.lt_of_lt_of_le V_frq.lt (Nat.le_of_eq g13.symm))
    have ne_sts_cl : sts ≠ cl := Nat.ne_of_lt (Nat.lt_of_lt_of_le V_sts.lt (Nat.le_of_eq g13.symm))
    have ne_ob_cl : ob ≠ cl := Nat.ne_of_lt (Nat.lt_of_lt_of_le E_ob.lt (Nat.le_of_eq g13.symm))
    have ne_dn_cl : dn ≠ cl := Nat.ne_of_lt (Nat.lt_of_lt_of_le V_dn.lt (Nat.le_of_eq g13.symm))
    have V_frq := V_frq.ext E13
    have V_sts := V_sts.ext E13
    have E_ob := E_ob.ext E13
    have F_analysis_ob := F_analysis_ob.ext E13
    have F_docnos_ob := F_docnos_ob.ext E13
    have F_characterLengths_ob := F_characterLengths_ob.ext E13
    have F_terms_ob := F_terms_ob.ext E13
    have F_postingStarts_ob := F_postingStarts_ob.ext E13
    have F_postingDocuments_ob := F_postingDocuments_ob.ext E13
    have F_postingFrequencies_ob := F_postingFrequencies_ob.ext E13
    have F_tokenCount_ob := F_tokenCount_ob.ext E13
    have V_dn := V_dn.ext E13
    show G T13 (mkF m 126 #[.val (.int f0), .val (.int f1), .val (.int f2), .val (.int f3), .val (.int ly), .val (.int wh), .val (.ref frq), .val (.int s1), .val (.int s2), .val (.ref sts), .val (.int (0 : Int32)), .val (.long tot), .second, .unset, .unset, .unset, .unset, .unset, .unset, .unset] [(.ref cl), (.ref dn), .null, (.ref ob), (.ref ob)])
    refine hs.go (fun _ kk_ => XS.iconst X13.here hx rfl (hb hby at_126) kk_) ?_
    show G T13 (mkF m 127 #[.val (.int f0), .val (.int f1), .val (.int f2), .val (.int f3), .val (.int ly), .val (.int wh), .val (.ref frq), .val (.int s1), .val (.int s2), .val (.ref sts), .val (.int (0 : Int32)), .val (.long tot), .second, .unset, .unset, .unset, .unset, .unset, .unset, .unset] [(.int (3 : Int32)), (.ref cl), (.ref dn), .null, (.ref ob), (.ref ob)])
    refine rNewR hs X13 hx hZ hown (hw _ (List.mem_of_getElem? (i := 5) rfl)) (hw _ (List.mem_of_getElem? (i := 6) rfl)) rfl (hb hby at_127) rfl (by decide) 3 3 (by decide) (by decide) (by decide) (by decide) (fun T14 h14 k14 te g14 X14 E14 V_te O_te => ?_)
    have V_te : Arv Z h14 te k14 (.object "java/lang/String") (3 : Int32) [.null, .null, .null] .null := V_te
    have g_te : n0 ≤ te := by rw [g14]; exact Z0
    have Z0 := Nat.le_trans Z0 E14.1
    have ne_frq_te : frq ≠ te := Nat.ne_of_lt (Nat.lt_of_lt_of_le V_frq.lt (Nat.le_of_eq g14.symm))
    have ne_sts_te : sts ≠ te := Nat.ne_of_lt (Nat.lt_of_lt_of_le V_sts.lt (Nat.le_of_eq g14.symm))
    have ne_ob_te : ob ≠ te := Nat.ne_of_lt (Nat.lt_of_lt_of_le E_ob.lt (Nat.le_of_eq g14.symm))
    have ne_dn_te : dn ≠ te := Nat.ne_of_lt (Nat.lt_of_lt_of_le V_dn.lt (Nat.le_of_eq g14.symm))
    have ne_cl_te : cl ≠ te := Nat.ne_of_lt (Nat.lt_of_lt_of_le V_cl.lt (Nat.le_of_eq g14.symm))
    have V_frq := V_frq.ext E14
    have V_sts := V_sts.ext E14
    have E_ob := E_ob.ext E14
    have F_analysis_ob := F_analysis_ob.ext E14
    have F_docnos_ob := F_docnos_ob.ext E14
    have F_characterLengths_ob := F_characterLengths_ob.ext E14
    have F_terms_ob := F_terms_ob.ext E14
    have F_postingStarts_ob := F_postingStarts_ob.ext E14
    have F_postingDocuments_ob := F_postingDocuments_ob.ext E14
    have F_postingFrequencies_ob := F_postingFrequencies_ob.ext E14
    have F_tokenCount_ob := F_tokenCount_ob.ext E14
    have V_dn := V_dn.ext E14
    have V_cl := V_cl.ext E14
    show G T14 (mkF m 130 #[.val (.int f0), .val (.int f1), .val (.int f2), .val (.int f3), .val (.int ly), .val (.int wh), .val (.ref frq), .val (.int s1), .val (.int s2), .val (.ref sts), .val (.int (0 : Int32)), .val (.long tot), .second, .unset, .unset, .unset, .unset, .unset, .unset, .unset] [(.ref te), (.ref cl), (.ref dn), .null, (.ref ob), (.ref ob)])
    refine hs.go (fun _ kk_ => XS.aload X14.here hx rfl (hb hby at_130) rfl rfl kk_) ?_
    show G T14 (mkF m 132 #[.val (.int f0), .val (.int f1), .val (.int f2), .val (.int f3), .val (.int ly), .val (.int wh), .val (.ref frq), .val (.int s1), .val (.int s2), .val (.ref sts), .val (.int (0 : Int32)), .val (.long tot), .second, .unset, .unset, .unset, .unset, .unset, .unset, .unset] [(.ref sts), (.ref te), (.ref cl), (.ref dn), .null, (.ref ob), (.ref ob)])
    refine hs.go (fun _ kk_ => XS.iconst X14.here hx rfl (hb hby at_132) kk_) ?_
    show G T14 (mkF m 133 #[.val (.int f0), .val (.int f1), .val (.int f2), .val (.int f3), .val (.int ly), .val (.int wh), .val (.ref frq), .val (.int s1), .val (.int s2), .val (.ref sts), .val (.int (0 : Int32)), .val (.long tot), .second, .unset, .unset, .unset, .unset, .unset, .unset, .unset] [(.int (4 : Int32)), (.ref sts), (.ref te), (.ref cl), (.ref dn), .null, (.ref ob), (.ref ob)])
    refine rNewP hs X14 hx hZ (hw _ (List.mem_of_getElem? (i := 0) rfl)) rfl (hb hby at_133) rfl (by decide) 4 4 (by decide) (by decide) (by decide) (by decide) (fun T15 h15 k15 dc g15 X15 E15 V_dc => ?_)
    have V_dc : Arv Z h15 dc k15 .int (4 : Int32) [(.int (0 : Int32)), (.int (0 : Int32)), (.int (0 : Int32)), (.int (0 : Int32))] (.int (0 : Int32)) := V_dc
    have g_dc : n0 ≤ dc := by rw [g15]; exact Z0
    have Z0 := Nat.le_trans Z0 E15.1
    have ne_frq_dc : frq ≠ dc := Nat.ne_of_lt (Nat.lt_of_lt_of_le V_frq.lt (Nat.le_of_eq g15.symm))
    have ne_sts_dc : sts ≠ dc := Nat.ne_of_lt (Nat.lt_of_lt_of_le V_sts.lt (Nat.le_of_eq g15.symm))
    have ne_ob_dc : ob ≠ dc := Nat.ne_of_lt (Nat.lt_of_lt_of_le E_ob.lt (Nat.le_of_eq g15.symm))
    have ne_dn_dc : dn ≠ dc := Nat.ne_of_lt (Nat.lt_of_lt_of_le V_dn.lt (Nat.le_of_eq g15.symm))
    have ne_cl_dc : cl ≠ dc := Nat.ne_of_lt (Nat.lt_of_lt_of_le V_cl.lt (Nat.le_of_eq g15.symm))
    have ne_te_dc : te ≠ dc := Nat.ne_of_lt (Nat.lt_of_lt_of_le V_te.lt (Nat.le_of_eq g15.symm))
    have V_frq := V_frq.ext E15
    have V_sts := V_sts.ext E15
    have E_ob := E_ob.ext E15
    have F_analysis_ob := F_analysis_ob.ext E15
    have F_docnos_ob := F_docnos_ob.ext E15
    have F_characterLengths_ob := F_characterLengths_ob.ext E15
    have F_terms_ob := F_terms_ob.ext E15
    have F_postingStarts_ob := F_postingStarts_ob.ext E15
    have F_postingDocuments_ob := F_postingDocuments_ob.ext E15
    have F_postingFrequencies_ob := F_postingFrequencies_ob.ext E15
    have F_tokenCount_ob := F_tokenCount_ob.ext E15
    have V_dn := V_dn.ext E15
    have V_cl := V_cl.ext E15
    have V_te := V_te.ext E15
    show G T15 (mkF m 135 #[.val (.int f0), .val (.int f1), .val (.int f2), .val (.int f3), .val (.int ly), .val (.int wh), .val (.ref frq), .val (.int s1), .val (.int s2), .val (.ref sts), .val (.int (0 : Int32)), .val (.long tot), .second, .unset, .unset, .unset, .unset, .unset, .unset, .unset] [(.ref dc), (.ref sts), (.ref te), (.ref cl), (.ref dn), .null, (.ref ob), (.ref ob)])
    refine hs.go (fun _ kk_ => XS.aload X15.here hx rfl (hb hby at_135) rfl rfl kk_) ?_
    show G T15 (mkF m 137 #[.val (.int f0), .val (.int f1), .val (.int f2), .val (.int f3), .val (.int ly), .val (.int wh), .val (.ref frq), .val (.int s1), .val (.int s2), .val (.ref sts), .val (.int (0 : Int32)), .val (.long tot), .second, .unset, .unset, .unset, .unset, .unset, .unset, .unset] [(.ref frq), (.ref dc), (.ref sts), (.ref te), (.ref cl), (.ref dn), .null, (.ref ob), (.ref ob)])
    refine hs.go (fun _ kk_ => XS.lload X15.here hx rfl (hb hby at_137) rfl  kk_) ?_
    show G T15 (mkF m 139 #[.val (.int f0), .val (.int f1), .val (.int f2), .val (.int f3), .val (.int ly), .val (.int wh), .val (.ref frq), .val (.int s1), .val (.int s2), .val (.ref sts), .val (.int (0 : Int32)), .val (.long tot), .second, .unset, .unset, .unset, .unset, .unset, .unset, .unset] [(.long tot), (.ref frq), (.ref dc), (.ref sts), (.ref te), (.ref cl), (.ref dn), .null, (.ref ob), (.ref ob)])
    refine rCallI hs X15 hx hZ (as' := [.null, (.ref dn), (.ref cl), (.ref te), (.ref sts), (.ref dc), (.ref frq), (.long tot)]) (rm1 l Z a0 hw [] ob dn cl te sts dc frq tot h15 n0 Z0 E_ob g_ob F_analysis_ob F_docnos_ob F_characterLengths_ob F_terms_ob F_postingStarts_ob F_postingDocuments_ob F_postingFrequencies_ob F_tokenCount_ob) rfl hown (hw _ (List.mem_of_getElem? (i := 7) rfl)) (hw _ (List.mem_of_getElem? (i := 8) rfl)) (hw _ (List.mem_of_getElem? (i := 4) rfl)) (hw _ (List.mem_of_getElem? (i := 9) rfl)) hy_1 rfl (by rw [hml]; rfl) [(.ref ob)] (lenOf pd_1 rfl) rfl 1 (by show 2 * 0 + _ ≤ _; exact Nat.le_of_eq rfl) (hb hby at_139) (by decide) (by decide) (by decide) (by decide) (fun r16 T16 h16 X16 q16 => ?_)
    obtain ⟨rfl, Kc16, E_ob, F_postingStarts_ob, F_postingFrequencies_ob⟩ := q16
    have Z0 := Nat.le_trans Z0 Kc16.1
    have V_frq := V_frq.keep Kc16 (ninS ne_frq_ob nin0)
    have V_sts := V_sts.keep Kc16 (ninS ne_sts_ob nin0)
    have V_dn := V_dn.keep Kc16 (ninS ne_ob_dn.symm nin0)
    have V_cl := V_cl.keep Kc16 (ninS ne_ob_cl.symm nin0)
    have V_te := V_te.keep Kc16 (ninS ne_ob_te.symm nin0)
    have V_dc := V_dc.keep Kc16 (ninS ne_ob_dc.symm nin0)
    show G T16 (mkF m 142 #[.val (.int f0), .val (.int f1), .val (.int f2), .val (.int f3), .val (.int ly), .val (.int wh), .val (.ref frq), .val (.int s1), .val (.int s2), .val (.ref sts), .val (.int (0 : Int32)), .val (.long tot), .second, .unset, .unset, .unset, .unset, .unset, .unset, .unset] [(.ref ob)])
    refine hs.go (fun _ kk_ => XS.astore X16.here hx rfl (hb hby at_142) rfl rfl (l' := #[.val (.int f0), .val (.int f1), .val (.int f2), .val (.int f3), .val (.int ly), .val (.int wh), .val (.ref frq), .val (.int s1), .val (.int s2), .val (.ref sts), .val (.int (0 : Int32)), .val (.long tot), .second, .val (.ref ob), .unset, .unset, .unset, .unset, .unset, .unset]) rfl kk_) ?_
    show G T16 (mkF m 144 #[.val (.int f0), .val (.int f1), .val (.int f2), .val (.int f3), .val (.int ly), .val (.int wh), .val (.ref frq), .val (.int s1), .val (.int s2), .val (.ref sts), .val (.int (0 : Int32)), .val (.long tot), .second, .val (.ref ob), .unset, .unset, .unset, .unset, .unset, .unset] [])
    refine hs.go (fun _ kk_ => XS.aload X16.here hx rfl (hb hby at_144) rfl rfl kk_) ?_
    show G T16 (mkF m 146 #[.val (.int f0), .val (.int f1), .val (.int f2), .val (.int f3), .val (.int ly), .val (.int wh), .val (.ref frq), .val (.int s1), .val (.int s2), .val (.ref sts), .val (.int (0 : Int32)), .val (.long tot), .second, .val (.ref ob), .unset, .unset, .unset, .unset, .unset, .unset] [(.ref ob)])
    refine hs.go (fun _ kk_ => XS.iload X16.here hx rfl (hb hby at_146) rfl  kk_) ?_
    show G T16 (mkF m 148 #[.val (.int f0), .val (.int f1), .val (.int f2), .val (.int f3), .val (.int ly), .val (.int wh), .val (.ref frq), .val (.int s1), .val (.int s2), .val (.ref sts), .val (.int (0 : Int32)), .val (.long tot), .second, .val (.ref ob), .unset, .unset, .unset, .unset, .unset, .unset] [(.int (0 : Int32)), (.ref ob)])
    refine rCallV hs X16 hx hZ (as' := [(.int (0 : Int32))]) (rm3 l Z a0 hw [] ob sts frq (0 : Int32) (0 : Int32) s1 (4 : Int32) g0 g1 g2 g3 [(.int (0 : Int32)), (.int s1), (.int s2), (.int (4 : Int32))] (.int (0 : Int32)) k6 k1 ((0 : Int32)).toInt.toNat ((s1).toInt - ((0 : Int32)).toInt).toNat h16 n0 Z0 E_ob F_postingStarts_ob F_postingFrequencies_ob V_sts V_frq ⟨by decide, by decide⟩ rfl ⟨by decide, by decide⟩ rfl (by have q := HL; omega) (by have q := HL; omega) (by have q := HL; omega)) E_ob hown (hw _ (List.mem_of_getElem? (i := 29) rfl)) (hw _ (List.mem_of_getElem? (i := 30) rfl)) (hw _ (List.mem_of_getElem? (i := 32) rfl)) (hw _ (List.mem_of_getElem? (i := 31) rfl)) (hw _ (List.mem_of_getElem? (i := 4) rfl)) (hw _ (List.mem_of_getElem? (i := 33) rfl)) hy_3 rfl (by rw [hml]; rfl) [] (lenOf pd_2 rfl) rfl 0 (by show 2 * 0 + _ ≤ _; exact Nat.le_of_eq rfl) (hb hby at_148) (by decide) (by decide) (by decide) (by decide) (fun r17 T17 h17 X17 q17 => ?_)
    obtain ⟨rfl, qh17⟩ := q17
    rw [qh17] at X17
    show G T17 (mkF m 151 #[.val (.int f0), .val (.int f1), .val (.int f2), .val (.int f3), .val (.int ly), .val (.int wh), .val (.ref frq), .val (.int s1), .val (.int s2), .val (.ref sts), .val (.int (0 : Int32)), .val (.long tot), .second, .val (.ref ob), .unset, .unset, .unset, .unset, .unset, .unset] [(.long (sml [g0, g1, g2, g3] ((0 : Int32)).toInt.toNat ((s1).toInt - ((0 : Int32)).toInt).toNat 0))])
    refine nameIt (P := fun zz_ : Int64 => G T17 (mkF m 151 #[.val (.int f0), .val (.int f1), .val (.int f2), .val (.int f3), .val (.int ly), .val (.int wh), .val (.ref frq), .val (.int s1), .val (.int s2), .val (.ref sts), .val (.int (0 : Int32)), .val (.long tot), .second, .val (.ref ob), .unset, .unset, .unset, .unset, .unset, .unset] [(.long zz_)])) (sml [g0, g1, g2, g3] ((0 : Int32)).toInt.toNat ((s1).toInt - ((0 : Int32)).toInt).toNat 0) (fun gt hgt => ?_)
    show G T17 (mkF m 151 #[.val (.int f0), .val (.int f1), .val (.int f2), .val (.int f3), .val (.int ly), .val (.int wh), .val (.ref frq), .val (.int s1), .val (.int s2), .val (.ref sts), .val (.int (0 : Int32)), .val (.long tot), .second, .val (.ref ob), .unset, .unset, .unset, .unset, .unset, .unset] [(.long gt)])
    refine hs.go (fun _ kk_ => XS.lstore X17.here hx rfl (hb hby at_151) rfl (l' := #[.val (.int f0), .val (.int f1), .val (.int f2), .val (.int f3), .val (.int ly), .val (.int wh), .val (.ref frq), .val (.int s1), .val (.int s2), .val (.ref sts), .val (.int (0 : Int32)), .val (.long tot), .second, .val (.ref ob), .val (.long gt), .second, .unset, .unset, .unset, .unset]) rfl kk_) ?_
    show G T17 (mkF m 153 #[.val (.int f0), .val (.int f1), .val (.int f2), .val (.int f3), .val (.int ly), .val (.int wh), .val (.ref frq), .val (.int s1), .val (.int s2), .val (.ref sts), .val (.int (0 : Int32)), .val (.long tot), .second, .val (.ref ob), .val (.long gt), .second, .unset, .unset, .unset, .unset] [])
    refine hs.go (fun _ kk_ => XS.aload X17.here hx rfl (hb hby at_153) rfl rfl kk_) ?_
    show G T17 (mkF m 155 #[.val (.int f0), .val (.int f1), .val (.int f2), .val (.int f3), .val (.int ly), .val (.int wh), .val (.ref frq), .val (.int s1), .val (.int s2), .val (.ref sts), .val (.int (0 : Int32)), .val (.long tot), .second, .val (.ref ob), .val (.long gt), .second, .unset, .unset, .unset, .unset] [(.ref sts)])
    refine hs.go (fun _ kk_ => XS.iload X17.here hx rfl (hb hby at_155) rfl  kk_) ?_
    show G T17 (mkF m 157 #[.val (.int f0), .val (.int f1), .val (.int f2), .val (.int f3), .val (.int ly), .val (.int wh), .val (.ref frq), .val (.int s1), .val (.int s2), .val (.ref sts), .val (.int (0 : Int32)), .val (.long tot), .second, .val (.ref ob), .val (.long gt), .second, .unset, .unset, .unset, .unset] [(.int (0 : Int32)), (.ref sts)])
    refine rLdI hs X17 hx hZ V_sts ⟨by decide, by decide⟩ (v := (.int (0 : Int32))) rfl rfl rfl (hb hby at_157) ?_
    show G T17 (mkF m 158 #[.val (.int f0), .val (.int f1), .val (.int f2), .val (.int f3), .val (.int ly), .val (.int wh), .val (.ref frq), .val (.int s1), .val (.int s2), .val (.ref sts), .val (.int (0 : Int32)), .val (.long tot), .second, .val (.ref ob), .val (.long gt), .second, .unset, .unset, .unset, .unset] [(.int (0 : Int32))])
    refine hs.go (fun _ kk_ => XS.istore X17.here hx rfl (hb hby at_158) rfl (l' := #[.val (.int f0), .val (.int f1), .val (.int f2), .val (.int f3), .val (.int ly), .val (.int wh), .val (.ref frq), .val (.int s1), .val (.int s2), .val (.ref sts), .val (.int (0 : Int32)), .val (.long tot), .second, .val (.ref ob), .val (.long gt), .second, .val (.int (0 : Int32)), .unset, .unset, .unset]) rfl kk_) ?_
    show G T17 (mkF m 160 #[.val (.int f0), .val (.int f1), .val (.int f2), .val (.int f3), .val (.int ly), .val (.int wh), .val (.ref frq), .val (.int s1), .val (.int s2), .val (.ref sts), .val (.int (0 : Int32)), .val (.long tot), .second, .val (.ref ob), .val (.long gt), .second, .val (.int (0 : Int32)), .unset, .unset, .unset] [])
    refine hs.go (fun _ kk_ => XS.aload X17.here hx rfl (hb hby at_160) rfl rfl kk_) ?_
    show G T17 (mkF m 162 #[.val (.int f0), .val (.int f1), .val (.int f2), .val (.int f3), .val (.int ly), .val (.int wh), .val (.ref frq), .val (.int s1), .val (.int s2), .val (.ref sts), .val (.int (0 : Int32)), .val (.long tot), .second, .val (.ref ob), .val (.long gt), .second, .val (.int (0 : Int32)), .unset, .unset, .unset] [(.ref sts)])
    refine hs.go (fun _ kk_ => XS.iload X17.here hx rfl (hb hby at_162) rfl  kk_) ?_
    show G T17 (mkF m 164 #[.val (.int f0), .val (.int f1), .val (.int f2), .val (.int f3), .val (.int ly), .val (.int wh), .val (.ref frq), .val (.int s1), .val (.int s2), .val (.ref sts), .val (.int (0 : Int32)), .val (.long tot), .second, .val (.ref ob), .val (.long gt), .second, .val (.int (0 : Int32)), .unset, .unset, .unset] [(.int (0 : Int32)), (.ref sts)])
    refine hs.go (fun _ kk_ => XS.iconst X17.here hx rfl (hb hby at_164) kk_) ?_
    show G T17 (mkF m 165 #[.val (.int f0), .val (.int f1), .val (.int f2), .val (.int f3), .val (.int ly), .val (.int wh), .val (.ref frq), .val (.int s1), .val (.int s2), .val (.ref sts), .val (.int (0 : Int32)), .val (.long tot), .second, .val (.ref ob), .val (.long gt), .second, .val (.int (0 : Int32)), .unset, .unset, .unset] [(.int (1 : Int32)), (.int (0 : Int32)), (.ref sts)])
    refine hs.go (fun _ kk_ => XS.iadd X17.here hx rfl (hb hby at_165) rfl kk_) ?_
    show G T17 (mkF m 166 #[.val (.int f0), .val (.int f1), .val (.int f2), .val (.int f3), .val (.int ly), .val (.int wh), .val (.ref frq), .val (.int s1), .val (.int s2), .val (.ref sts), .val (.int (0 : Int32)), .val (.long tot), .second, .val (.ref ob), .val (.long gt), .second, .val (.int (0 : Int32)), .unset, .unset, .unset] [(.int (1 : Int32)), (.ref sts)])
    refine rLdI hs X17 hx hZ V_sts ⟨by decide, by decide⟩ (v := (.int s1)) rfl rfl rfl (hb hby at_166) ?_
    show G T17 (mkF m 167 #[.val (.int f0), .val (.int f1), .val (.int f2), .val (.int f3), .val (.int ly), .val (.int wh), .val (.ref frq), .val (.int s1), .val (.int s2), .val (.ref sts), .val (.int (0 : Int32)), .val (.long tot), .second, .val (.ref ob), .val (.long gt), .second, .val (.int (0 : Int32)), .unset, .unset, .unset] [(.int s1)])
    refine hs.go (fun _ kk_ => XS.istore X17.here hx rfl (hb hby at_167) rfl (l' := #[.val (.int f0), .val (.int f1), .val (.int f2), .val (.int f3), .val (.int ly), .val (.int wh), .val (.ref frq), .val (.int s1), .val (.int s2), .val (.ref sts), .val (.int (0 : Int32)), .val (.long tot), .second, .val (.ref ob), .val (.long gt), .second, .val (.int (0 : Int32)), .val (.int s1), .unset, .unset]) rfl kk_) ?_
    show G T17 (mkF m 169 #[.val (.int f0), .val (.int f1), .val (.int f2), .val (.int f3), .val (.int ly), .val (.int wh), .val (.ref frq), .val (.int s1), .val (.int s2), .val (.ref sts), .val (.int (0 : Int32)), .val (.long tot), .second, .val (.ref ob), .val (.long gt), .second, .val (.int (0 : Int32)), .val (.int s1), .unset, .unset] [])
    refine hs.go (fun _ kk_ => XS.aload X17.here hx rfl (hb hby at_169) rfl rfl kk_) ?_
    show G T17 (mkF m 171 #[.val (.int f0), .val (.int f1), .val (.int f2), .val (.int f3), .val (.int ly), .val (.int wh), .val (.ref frq), .val (.int s1), .val (.int s2), .val (.ref sts), .val (.int (0 : Int32)), .val (.long tot), .second, .val (.ref ob), .val (.long gt), .second, .val (.int (0 : Int32)), .val (.int s1), .unset, .unset] [(.ref frq)])
    refine hs.go (fun _ kk_ => XS.iconst X17.here hx rfl (hb hby at_171) kk_) ?_
    show G T17 (mkF m 172 #[.val (.int f0), .val (.int f1), .val (.int f2), .val (.int f3), .val (.int ly), .val (.int wh), .val (.ref frq), .val (.int s1), .val (.int s2), .val (.ref sts), .val (.int (0 : Int32)), .val (.long tot), .second, .val (.ref ob), .val (.long gt), .second, .val (.int (0 : Int32)), .val (.int s1), .unset, .unset] [(.int (0 : Int32)), (.ref frq)])
    refine rLdI hs X17 hx hZ V_frq ⟨by decide, by decide⟩ (v := (.int g0)) rfl rfl rfl (hb hby at_172) ?_
    show G T17 (mkF m 173 #[.val (.int f0), .val (.int f1), .val (.int f2), .val (.int f3), .val (.int ly), .val (.int wh), .val (.ref frq), .val (.int s1), .val (.int s2), .val (.ref sts), .val (.int (0 : Int32)), .val (.long tot), .second, .val (.ref ob), .val (.long gt), .second, .val (.int (0 : Int32)), .val (.int s1), .unset, .unset] [(.int g0)])
    refine hs.go (fun _ kk_ => XS.iconst X17.here hx rfl (hb hby at_173) kk_) ?_
    show G T17 (mkF m 174 #[.val (.int f0), .val (.int f1), .val (.int f2), .val (.int f3), .val (.int ly), .val (.int wh), .val (.ref frq), .val (.int s1), .val (.int s2), .val (.ref sts), .val (.int (0 : Int32)), .val (.long tot), .second, .val (.ref ob), .val (.long gt), .second, .val (.int (0 : Int32)), .val (.int s1), .unset, .unset] [(.int (0 : Int32)), (.int g0)])
    refine hs.go (fun _ kk_ => XS.iload X17.here hx rfl (hb hby at_174) rfl  kk_) ?_
    show G T17 (mkF m 176 #[.val (.int f0), .val (.int f1), .val (.int f2), .val (.int f3), .val (.int ly), .val (.int wh), .val (.ref frq), .val (.int s1), .val (.int s2), .val (.ref sts), .val (.int (0 : Int32)), .val (.long tot), .second, .val (.ref ob), .val (.long gt), .second, .val (.int (0 : Int32)), .val (.int s1), .unset, .unset] [(.int (0 : Int32)), (.int (0 : Int32)), (.int g0)])
    refine hs.go (fun _ kk_ => XS.iload X17.here hx rfl (hb hby at_176) rfl  kk_) ?_
    show G T17 (mkF m 178 #[.val (.int f0), .val (.int f1), .val (.int f2), .val (.int f3), .val (.int ly), .val (.int wh), .val (.ref frq), .val (.int s1), .val (.int s2), .val (.ref sts), .val (.int (0 : Int32)), .val (.long tot), .second, .val (.ref ob), .val (.long gt), .second, .val (.int (0 : Int32)), .val (.int s1), .unset, .unset] [(.int s1), (.int (0 : Int32)), (.int (0 : Int32)), (.int g0)])
    refine rCallS hs X17 hx hZ (as' := [(.int g0), (.int (0 : Int32)), (.int (0 : Int32)), (.int s1)]) (rm6 l Z a0 hw [] g0 (0 : Int32) (0 : Int32) s1 h16 n0 Z0) hown (hw _ (List.mem_of_getElem? (i := 44) rfl)) (hw _ (List.mem_of_getElem? (i := 45) rfl)) (hw _ (List.mem_of_getElem? (i := 46) rfl)) (hw _ (List.mem_of_getElem? (i := 47) rfl)) hy_6 rfl (by rw [hml]; rfl) [] (lenOf pd_3 rfl) rfl 0 (by show 2 * 0 + _ ≤ _; exact Nat.le_of_eq rfl) (hb hby at_178) (by decide) (by decide) (by decide) (by decide) (fun r18 T18 h18 X18 q18 => ?_)
    obtain ⟨rfl, qh18⟩ := q18
    rw [qh18] at X18
    show G T18 (mkF m 181 #[.val (.int f0), .val (.int f1), .val (.int f2), .val (.int f3), .val (.int ly), .val (.int wh), .val (.ref frq), .val (.int s1), .val (.int s2), .val (.ref sts), .val (.int (0 : Int32)), .val (.long tot), .second, .val (.ref ob), .val (.long gt), .second, .val (.int (0 : Int32)), .val (.int s1), .unset, .unset] [(.long (f4 g0 (0 : Int32) (0 : Int32) s1))])
    refine hs.go (fun _ kk_ => XS.aload X18.here hx rfl (hb hby at_181) rfl rfl kk_) ?_
    show G T18 (mkF m 183 #[.val (.int f0), .val (.int f1), .val (.int f2), .val (.int f3), .val (.int ly), .val (.int wh), .val (.ref frq), .val (.int s1), .val (.int s2), .val (.ref sts), .val (.int (0 : Int32)), .val (.long tot), .second, .val (.ref ob), .val (.long gt), .second, .val (.int (0 : Int32)), .val (.int s1), .unset, .unset] [(.ref frq), (.long (f4 g0 (0 : Int32) (0 : Int32) s1))])
    refine hs.go (fun _ kk_ => XS.iconst X18.here hx rfl (hb hby at_183) kk_) ?_
    show G T18 (mkF m 184 #[.val (.int f0), .val (.int f1), .val (.int f2), .val (.int f3), .val (.int ly), .val (.int wh), .val (.ref frq), .val (.int s1), .val (.int s2), .val (.ref sts), .val (.int (0 : Int32)), .val (.long tot), .second, .val (.ref ob), .val (.long gt), .second, .val (.int (0 : Int32)), .val (.int s1), .unset, .unset] [(.int (1 : Int32)), (.ref frq), (.long (f4 g0 (0 : Int32) (0 : Int32) s1))])
    refine rLdI hs X18 hx hZ V_frq ⟨by decide, by decide⟩ (v := (.int g1)) rfl rfl rfl (hb hby at_184) ?_
    show G T18 (mkF m 185 #[.val (.int f0), .val (.int f1), .val (.int f2), .val (.int f3), .val (.int ly), .val (.int wh), .val (.ref frq), .val (.int s1), .val (.int s2), .val (.ref sts), .val (.int (0 : Int32)), .val (.long tot), .second, .val (.ref ob), .val (.long gt), .second, .val (.int (0 : Int32)), .val (.int s1), .unset, .unset] [(.int g1), (.long (f4 g0 (0 : Int32) (0 : Int32) s1))])
    refine hs.go (fun _ kk_ => XS.iconst X18.here hx rfl (hb hby at_185) kk_) ?_
    show G T18 (mkF m 186 #[.val (.int f0), .val (.int f1), .val (.int f2), .val (.int f3), .val (.int ly), .val (.int wh), .val (.ref frq), .val (.int s1), .val (.int s2), .val (.ref sts), .val (.int (0 : Int32)), .val (.long tot), .second, .val (.ref ob), .val (.long gt), .second, .val (.int (0 : Int32)), .val (.int s1), .unset, .unset] [(.int (1 : Int32)), (.int g1), (.long (f4 g0 (0 : Int32) (0 : Int32) s1))])
    refine hs.go (fun _ kk_ => XS.iload X18.here hx rfl (hb hby at_186) rfl  kk_) ?_
    show G T18 (mkF m 188 #[.val (.int f0), .val (.int f1), .val (.int f2), .val (.int f3), .val (.int ly), .val (.int wh), .val (.ref frq), .val (.int s1), .val (.int s2), .val (.ref sts), .val (.int (0 : Int32)), .val (.long tot), .second, .val (.ref ob), .val (.long gt), .second, .val (.int (0 : Int32)), .val (.int s1), .unset, .unset] [(.int (0 : Int32)), (.int (1 : Int32)), (.int g1), (.long (f4 g0 (0 : Int32) (0 : Int32) s1))])
    refine hs.go (fun _ kk_ => XS.iload X18.here hx rfl (hb hby at_188) rfl  kk_) ?_
    show G T18 (mkF m 190 #[.val (.int f0), .val (.int f1), .val (.int f2), .val (.int f3), .val (.int ly), .val (.int wh), .val (.ref frq), .val (.int s1), .val (.int s2), .val (.ref sts), .val (.int (0 : Int32)), .val (.long tot), .second, .val (.ref ob), .val (.long gt), .second, .val (.int (0 : Int32)), .val (.int s1), .unset, .unset] [(.int s1), (.int (0 : Int32)), (.int (1 : Int32)), (.int g1), (.long (f4 g0 (0 : Int32) (0 : Int32) s1))])
    refine rCallS hs X18 hx hZ (as' := [(.int g1), (.int (1 : Int32)), (.int (0 : Int32)), (.int s1)]) (rm6 l Z a0 hw [] g1 (1 : Int32) (0 : Int32) s1 h16 n0 Z0) hown (hw _ (List.mem_of_getElem? (i := 44) rfl)) (hw _ (List.mem_of_getElem? (i := 45) rfl)) (hw _ (List.mem_of_getElem? (i := 46) rfl)) (hw _ (List.mem_of_getElem? (i := 47) rfl)) hy_6 rfl (by rw [hml]; rfl) [(.long (f4 g0 (0 : Int32) (0 : Int32) s1))] (lenOf pd_3 rfl) rfl 2 (by show 2 * 0 + _ ≤ _; exact Nat.le_of_eq rfl) (hb hby at_190) (by decide) (by decide) (by decide) (by decide) (fun r19 T19 h19 X19 q19 => ?_)
    obtain ⟨rfl, qh19⟩ := q19
    rw [qh19] at X19
    show G T19 (mkF m 193 #[.val (.int f0), .val (.int f1), .val (.int f2), .val (.int f3), .val (.int ly), .val (.int wh), .val (.ref frq), .val (.int s1), .val (.int s2), .val (.ref sts), .val (.int (0 : Int32)), .val (.long tot), .second, .val (.ref ob), .val (.long gt), .second, .val (.int (0 : Int32)), .val (.int s1), .unset, .unset] [(.long (f4 g1 (1 : Int32) (0 : Int32) s1)), (.long (f4 g0 (0 : Int32) (0 : Int32) s1))])
    refine hs.go (fun _ kk_ => XS.ladd X19.here hx rfl (hb hby at_193) rfl kk_) ?_
    show G T19 (mkF m 194 #[.val (.int f0), .val (.int f1), .val (.int f2), .val (.int f3), .val (.int ly), .val (.int wh), .val (.ref frq), .val (.int s1), .val (.int s2), .val (.ref sts), .val (.int (0 : Int32)), .val (.long tot), .second, .val (.ref ob), .val (.long gt), .second, .val (.int (0 : Int32)), .val (.int s1), .unset, .unset] [(.long ((f4 g0 (0 : Int32) (0 : Int32) s1) + (f4 g1 (1 : Int32) (0 : Int32) s1)))])
    refine hs.go (fun _ kk_ => XS.aload X19.here hx rfl (hb hby at_194) rfl rfl kk_) ?_
    show G T19 (mkF m 196 #[.val (.int f0), .val (.int f1), .val (.int f2), .val (.int f3), .val (.int ly), .val (.int wh), .val (.ref frq), .val (.int s1), .val (.int s2), .val (.ref sts), .val (.int (0 : Int32)), .val (.long tot), .second, .val (.ref ob), .val (.long gt), .second, .val (.int (0 : Int32)), .val (.int s1), .unset, .unset] [(.ref frq), (.long ((f4 g0 (0 : Int32) (0 : Int32) s1) + (f4 g1 (1 : Int32) (0 : Int32) s1)))])
    refine hs.go (fun _ kk_ => XS.iconst X19.here hx rfl (hb hby at_196) kk_) ?_
    show G T19 (mkF m 197 #[.val (.int f0), .val (.int f1), .val (.int f2), .val (.int f3), .val (.int ly), .val (.int wh), .val (.ref frq), .val (.int s1), .val (.int s2), .val (.ref sts), .val (.int (0 : Int32)), .val (.long tot), .second, .val (.ref ob), .val (.long gt), .second, .val (.int (0 : Int32)), .val (.int s1), .unset, .unset] [(.int (2 : Int32)), (.ref frq), (.long ((f4 g0 (0 : Int32) (0 : Int32) s1) + (f4 g1 (1 : Int32) (0 : Int32) s1)))])
    refine rLdI hs X19 hx hZ V_frq ⟨by decide, by decide⟩ (v := (.int g2)) rfl rfl rfl (hb hby at_197) ?_
    show G T19 (mkF m 198 #[.val (.int f0), .val (.int f1), .val (.int f2), .val (.int f3), .val (.int ly), .val (.int wh), .val (.ref frq), .val (.int s1), .val (.int s2), .val (.ref sts), .val (.int (0 : Int32)), .val (.long tot), .second, .val (.ref ob), .val (.long gt), .second, .val (.int (0 : Int32)), .val (.int s1), .unset, .unset] [(.int g2), (.long ((f4 g0 (0 : Int32) (0 : Int32) s1) + (f4 g1 (1 : Int32) (0 : Int32) s1)))])
    refine hs.go (fun _ kk_ => XS.iconst X19.here hx rfl (hb hby at_198) kk_) ?_
    show G T19 (mkF m 199 #[.val (.int f0), .val (.int f1), .val (.int f2), .val (.int f3), .val (.int ly), .val (.int wh), .val (.ref frq), .val (.int s1), .val (.int s2), .val (.ref sts), .val (.int (0 : Int32)), .val (.long tot), .second, .val (.ref ob), .val (.long gt), .second, .val (.int (0 : Int32)), .val (.int s1), .unset, .unset] [(.int (2 : Int32)), (.int g2), (.long ((f4 g0 (0 : Int32) (0 : Int32) s1) + (f4 g1 (1 : Int32) (0 : Int32) s1)))])
    refine hs.go (fun _ kk_ => XS.iload X19.here hx rfl (hb hby at_199) rfl  kk_) ?_
    show G T19 (mkF m 201 #[.val (.int f0), .val (.int f1), .val (.int f2), .val (.int f3), .val (.int ly), .val (.int wh), .val (.ref frq), .val (.int s1), .val (.int s2), .val (.ref sts), .val (.int (0 : Int32)), .val (.long tot), .second, .val (.ref ob), .val (.long gt), .second, .val (.int (0 : Int32)), .val (.int s1), .unset, .unset] [(.int (0 : Int32)), (.int (2 : Int32)), (.int g2), (.long ((f4 g0 (0 : Int32) (0 : Int32) s1) + (f4 g1 (1 : Int32) (0 : Int32) s1)))])
    refine hs.go (fun _ kk_ => XS.iload X19.here hx rfl (hb hby at_201) rfl  kk_) ?_
    show G T19 (mkF m 203 #[.val (.int f0), .val (.int f1), .val (.int f2), .val (.int f3), .val (.int ly), .val (.int wh), .val (.ref frq), .val (.int s1), .val (.int s2), .val (.ref sts), .val (.int (0 : Int32)), .val (.long tot), .second, .val (.ref ob), .val (.long gt), .second, .val (.int (0 : Int32)), .val (.int s1), .unset, .unset] [(.int s1), (.int (0 : Int32)), (.int (2 : Int32)), (.int g2), (.long ((f4 g0 (0 : Int32) (0 : Int32) s1) + (f4 g1 (1 : Int32) (0 : Int32) s1)))])
    refine rCallS hs X19 hx hZ (as' := [(.int g2), (.int (2 : Int32)), (.int (0 : Int32)), (.int s1)]) (rm6 l Z a0 hw [] g2 (2 : Int32) (0 : Int32) s1 h16 n0 Z0) hown (hw _ (List.mem_of_getElem? (i := 44) rfl)) (hw _ (List.mem_of_getElem? (i := 45) rfl)) (hw _ (List.mem_of_getElem? (i := 46) rfl)) (hw _ (List.mem_of_getElem? (i := 47) rfl)) hy_6 rfl (by rw [hml]; rfl) [(.long ((f4 g0 (0 : Int32) (0 : Int32) s1) + (f4 g1 (1 : Int32) (0 : Int32) s1)))] (lenOf pd_3 rfl) rfl 2 (by show 2 * 0 + _ ≤ _; exact Nat.le_of_eq rfl) (hb hby at_203) (by decide) (by decide) (by decide) (by decide) (fun r20 T20 h20 X20 q20 => ?_)
    obtain ⟨rfl, qh20⟩ := q20
    rw [qh20] at X20
    show G T20 (mkF m 206 #[.val (.int f0), .val (.int f1), .val (.int f2), .val (.int f3), .val (.int ly), .val (.int wh), .val (.ref frq), .val (.int s1), .val (.int s2), .val (.ref sts), .val (.int (0 : Int32)), .val (.long tot), .second, .val (.ref ob), .val (.long gt), .second, .val (.int (0 : Int32)), .val (.int s1), .unset, .unset] [(.long (f4 g2 (2 : Int32) (0 : Int32) s1)), (.long ((f4 g0 (0 : Int32) (0 : Int32) s1) + (f4 g1 (1 : Int32) (0 : Int32) s1)))])
    refine hs.go (fun _ kk_ => XS.ladd X20.here hx rfl (hb hby at_206) rfl kk_) ?_
    show G T20 (mkF m 207 #[.val (.int f0), .val (.int f1), .val (.int f2), .val (.int f3), .val (.int ly), .val (.int wh), .val (.ref frq), .val (.int s1), .val (.int s2), .val (.ref sts), .val (.int (0 : Int32)), .val (.long tot), .second, .val (.ref ob), .val (.long gt), .second, .val (.int (0 : Int32)), .val (.int s1), .unset, .unset] [(.long (((f4 g0 (0 : Int32) (0 : Int32) s1) + (f4 g1 (1 : Int32) (0 : Int32) s1)) + (f4 g2 (2 : Int32) (0 : Int32) s1)))])
    refine hs.go (fun _ kk_ => XS.aload X20.here hx rfl (hb hby at_207) rfl rfl kk_) ?_
    show G T20 (mkF m 209 #[.val (.int f0), .val (.int f1), .val (.int f2), .val (.int f3), .val (.int ly), .val (.int wh), .val (.ref frq), .val (.int s1), .val (.int s2), .val (.ref sts), .val (.int (0 : Int32)), .val (.long tot), .second, .val (.ref ob), .val (.long gt), .second, .val (.int (0 : Int32)), .val (.int s1), .unset, .unset] [(.ref frq), (.long (((f4 g0 (0 : Int32) (0 : Int32) s1) + (f4 g1 (1 : Int32) (0 : Int32) s1)) + (f4 g2 (2 : Int32) (0 : Int32) s1)))])
    refine hs.go (fun _ kk_ => XS.iconst X20.here hx rfl (hb hby at_209) kk_) ?_
    show G T20 (mkF m 210 #[.val (.int f0), .val (.int f1), .val (.int f2), .val (.int f3), .val (.int ly), .val (.int wh), .val (.ref frq), .val (.int s1), .val (.int s2), .val (.ref sts), .val (.int (0 : Int32)), .val (.long tot), .second, .val (.ref ob), .val (.long gt), .second, .val (.int (0 : Int32)), .val (.int s1), .unset, .unset] [(.int (3 : Int32)), (.ref frq), (.long (((f4 g0 (0 : Int32) (0 : Int32) s1) + (f4 g1 (1 : Int32) (0 : Int32) s1)) + (f4 g2 (2 : Int32) (0 : Int32) s1)))])
    refine rLdI hs X20 hx hZ V_frq ⟨by decide, by decide⟩ (v := (.int g3)) rfl rfl rfl (hb hby at_210) ?_
    show G T20 (mkF m 211 #[.val (.int f0), .val (.int f1), .val (.int f2), .val (.int f3), .val (.int ly), .val (.int wh), .val (.ref frq), .val (.int s1), .val (.int s2), .val (.ref sts), .val (.int (0 : Int32)), .val (.long tot), .second, .val (.ref ob), .val (.long gt), .second, .val (.int (0 : Int32)), .val (.int s1), .unset, .unset] [(.int g3), (.long (((f4 g0 (0 : Int32) (0 : Int32) s1) + (f4 g1 (1 : Int32) (0 : Int32) s1)) + (f4 g2 (2 : Int32) (0 : Int32) s1)))])
    refine hs.go (fun _ kk_ => XS.iconst X20.here hx rfl (hb hby at_211) kk_) ?_
    show G T20 (mkF m 212 #[.val (.int f0), .val (.int f1), .val (.int f2), .val (.int f3), .val (.int ly), .val (.int wh), .val (.ref frq), .val (.int s1), .val (.int s2), .val (.ref sts), .val (.int (0 : Int32)), .val (.long tot), .second, .val (.ref ob), .val (.long gt), .second, .val (.int (0 : Int32)), .val (.int s1), .unset, .unset] [(.int (3 : Int32)), (.int g3), (.long (((f4 g0 (0 : Int32) (0 : Int32) s1) + (f4 g1 (1 : Int32) (0 : Int32) s1)) + (f4 g2 (2 : Int32) (0 : Int32) s1)))])
    refine hs.go (fun _ kk_ => XS.iload X20.here hx rfl (hb hby at_212) rfl  kk_) ?_
    show G T20 (mkF m 214 #[.val (.int f0), .val (.int f1), .val (.int f2), .val (.int f3), .val (.int ly), .val (.int wh), .val (.ref frq), .val (.int s1), .val (.int s2), .val (.ref sts), .val (.int (0 : Int32)), .val (.long tot), .second, .val (.ref ob), .val (.long gt), .second, .val (.int (0 : Int32)), .val (.int s1), .unset, .unset] [(.int (0 : Int32)), (.int (3 : Int32)), (.int g3), (.long (((f4 g0 (0 : Int32) (0 : Int32) s1) + (f4 g1 (1 : Int32) (0 : Int32) s1)) + (f4 g2 (2 : Int32) (0 : Int32) s1)))])
    refine hs.go (fun _ kk_ => XS.iload X20.here hx rfl (hb hby at_214) rfl  kk_) ?_
    show G T20 (mkF m 216 #[.val (.int f0), .val (.int f1), .val (.int f2), .val (.int f3), .val (.int ly), .val (.int wh), .val (.ref frq), .val (.int s1), .val (.int s2), .val (.ref sts), .val (.int (0 : Int32)), .val (.long tot), .second, .val (.ref ob), .val (.long gt), .second, .val (.int (0 : Int32)), .val (.int s1), .unset, .unset] [(.int s1), (.int (0 : Int32)), (.int (3 : Int32)), (.int g3), (.long (((f4 g0 (0 : Int32) (0 : Int32) s1) + (f4 g1 (1 : Int32) (0 : Int32) s1)) + (f4 g2 (2 : Int32) (0 : Int32) s1)))])
    refine rCallS hs X20 hx hZ (as' := [(.int g3), (.int (3 : Int32)), (.int (0 : Int32)), (.int s1)]) (rm6 l Z a0 hw [] g3 (3 : Int32) (0 : Int32) s1 h16 n0 Z0) hown (hw _ (List.mem_of_getElem? (i := 44) rfl)) (hw _ (List.mem_of_getElem? (i := 45) rfl)) (hw _ (List.mem_of_getElem? (i := 46) rfl)) (hw _ (List.mem_of_getElem? (i := 47) rfl)) hy_6 rfl (by rw [hml]; rfl) [(.long (((f4 g0 (0 : Int32) (0 : Int32) s1) + (f4 g1 (1 : Int32) (0 : Int32) s1)) + (f4 g2 (2 : Int32) (0 : Int32) s1)))] (lenOf pd_3 rfl) rfl 2 (by show 2 * 0 + _ ≤ _; exact Nat.le_of_eq rfl) (hb hby at_216) (by decide) (by decide) (by decide) (by decide) (fun r21 T21 h21 X21 q21 => ?_)
    obtain ⟨rfl, qh21⟩ := q21
    rw [qh21] at X21
    show G T21 (mkF m 219 #[.val (.int f0), .val (.int f1), .val (.int f2), .val (.int f3), .val (.int ly), .val (.int wh), .val (.ref frq), .val (.int s1), .val (.int s2), .val (.ref sts), .val (.int (0 : Int32)), .val (.long tot), .second, .val (.ref ob), .val (.long gt), .second, .val (.int (0 : Int32)), .val (.int s1), .unset, .unset] [(.long (f4 g3 (3 : Int32) (0 : Int32) s1)), (.long (((f4 g0 (0 : Int32) (0 : Int32) s1) + (f4 g1 (1 : Int32) (0 : Int32) s1)) + (f4 g2 (2 : Int32) (0 : Int32) s1)))])
    refine hs.go (fun _ kk_ => XS.ladd X21.here hx rfl (hb hby at_219) rfl kk_) ?_
    show G T21 (mkF m 220 #[.val (.int f0), .val (.int f1), .val (.int f2), .val (.int f3), .val (.int ly), .val (.int wh), .val (.ref frq), .val (.int s1), .val (.int s2), .val (.ref sts), .val (.int (0 : Int32)), .val (.long tot), .second, .val (.ref ob), .val (.long gt), .second, .val (.int (0 : Int32)), .val (.int s1), .unset, .unset] [(.long ((((f4 g0 (0 : Int32) (0 : Int32) s1) + (f4 g1 (1 : Int32) (0 : Int32) s1)) + (f4 g2 (2 : Int32) (0 : Int32) s1)) + (f4 g3 (3 : Int32) (0 : Int32) s1)))])
    refine nameIt (P := fun zz_ : Int64 => G T21 (mkF m 220 #[.val (.int f0), .val (.int f1), .val (.int f2), .val (.int f3), .val (.int ly), .val (.int wh), .val (.ref frq), .val (.int s1), .val (.int s2), .val (.ref sts), .val (.int (0 : Int32)), .val (.long tot), .second, .val (.ref ob), .val (.long gt), .second, .val (.int (0 : Int32)), .val (.int s1), .unset, .unset] [(.long zz_)])) ((((f4 g0 (0 : Int32) (0 : Int32) s1) + (f4 g1 (1 : Int32) (0 : Int32) s1)) + (f4 g2 (2 : Int32) (0 : Int32) s1)) + (f4 g3 (3 : Int32) (0 : Int32) s1)) (fun ex hex => ?_)
    show G T21 (mkF m 220 #[.val (.int f0), .val (.int f1), .val (.int f2), .val (.int f3), .val (.int ly), .val (.int wh), .val (.ref frq), .val (.int s1), .val (.int s2), .val (.ref sts), .val (.int (0 : Int32)), .val (.long tot), .second, .val (.ref ob), .val (.long gt), .second, .val (.int (0 : Int32)), .val (.int s1), .unset, .unset] [(.long ex)])
    refine hs.go (fun _ kk_ => XS.lstore X21.here hx rfl (hb hby at_220) rfl (l' := #[.val (.int f0), .val (.int f1), .val (.int f2), .val (.int f3), .val (.int ly), .val (.int wh), .val (.ref frq), .val (.int s1), .val (.int s2), .val (.ref sts), .val (.int (0 : Int32)), .val (.long tot), .second, .val (.ref ob), .val (.long gt), .second, .val (.int (0 : Int32)), .val (.int s1), .val (.long ex), .second]) rfl kk_) ?_
    show G T21 (mkF m 222 #[.val (.int f0), .val (.int f1), .val (.int f2), .val (.int f3), .val (.int ly), .val (.int wh), .val (.ref frq), .val (.int s1), .val (.int s2), .val (.ref sts), .val (.int (0 : Int32)), .val (.long tot), .second, .val (.ref ob), .val (.long gt), .second, .val (.int (0 : Int32)), .val (.int s1), .val (.long ex), .second] [])
    refine hs.go (fun _ kk_ => XS.lload X21.here hx rfl (hb hby at_222) rfl  kk_) ?_
    show G T21 (mkF m 224 #[.val (.int f0), .val (.int f1), .val (.int f2), .val (.int f3), .val (.int ly), .val (.int wh), .val (.ref frq), .val (.int s1), .val (.int s2), .val (.ref sts), .val (.int (0 : Int32)), .val (.long tot), .second, .val (.ref ob), .val (.long gt), .second, .val (.int (0 : Int32)), .val (.int s1), .val (.long ex), .second] [(.long gt)])
    refine hs.go (fun _ kk_ => XS.lload X21.here hx rfl (hb hby at_224) rfl  kk_) ?_
    show G T21 (mkF m 226 #[.val (.int f0), .val (.int f1), .val (.int f2), .val (.int f3), .val (.int ly), .val (.int wh), .val (.ref frq), .val (.int s1), .val (.int s2), .val (.ref sts), .val (.int (0 : Int32)), .val (.long tot), .second, .val (.ref ob), .val (.long gt), .second, .val (.int (0 : Int32)), .val (.int s1), .val (.long ex), .second] [(.long ex), (.long gt)])
    refine hs.go (fun _ kk_ => XS.lcmp X21.here hx rfl (hb hby at_226) rfl kk_) ?_
    show G T21 (mkF m 227 #[.val (.int f0), .val (.int f1), .val (.int f2), .val (.int f3), .val (.int ly), .val (.int wh), .val (.ref frq), .val (.int s1), .val (.int s2), .val (.ref sts), .val (.int (0 : Int32)), .val (.long tot), .second, .val (.ref ob), .val (.long gt), .second, .val (.int (0 : Int32)), .val (.int s1), .val (.long ex), .second] [(.int (lcmpW gt ex))])
    refine hs.go (fun _ kk_ => XS.ifNo X21.here hx rfl (hb hby at_227) rfl ((if0 _ _).trans (eqL (hgt.trans ((own_law g0 g1 g2 g3 (0 : Int32) s1 HL).trans hex.symm) : gt = ex)).2) kk_) ?_
    show G T21 (mkF m 230 #[.val (.int f0), .val (.int f1), .val (.int f2), .val (.int f3), .val (.int ly), .val (.int wh), .val (.ref frq), .val (.int s1), .val (.int s2), .val (.ref sts), .val (.int (0 : Int32)), .val (.long tot), .second, .val (.ref ob), .val (.long gt), .second, .val (.int (0 : Int32)), .val (.int s1), .val (.long ex), .second] [])
    refine hs.go (fun _ kk_ => XS.iconst X21.here hx rfl (hb hby at_230) kk_) ?_
    show G T21 (mkF m 231 #[.val (.int f0), .val (.int f1), .val (.int f2), .val (.int f3), .val (.int ly), .val (.int wh), .val (.ref frq), .val (.int s1), .val (.int s2), .val (.ref sts), .val (.int (0 : Int32)), .val (.long tot), .second, .val (.ref ob), .val (.long gt), .second, .val (.int (0 : Int32)), .val (.int s1), .val (.long ex), .second] [(.int (1 : Int32))])
    refine hs.go (fun _ kk_ => XS.goto X21.here hx rfl (pc0 := 231) (pc' := 235) rfl (hb hby at_231) (by decide) (by decide) kk_) ?_
    show G T21 (mkF m 235 #[.val (.int f0), .val (.int f1), .val (.int f2), .val (.int f3), .val (.int ly), .val (.int wh), .val (.ref frq), .val (.int s1), .val (.int s2), .val (.ref sts), .val (.int (0 : Int32)), .val (.long tot), .second, .val (.ref ob), .val (.long gt), .second, .val (.int (0 : Int32)), .val (.int s1), .val (.long ex), .second] [(.int (1 : Int32))])
    exact rRetN fin X21 hx (by decide) (by decide) hret (by simp) (hb hby at_235) (z' := (1 : Int32)) (by decide) rfl
  · have HL : 0 ≤ (s1).toInt ∧ (s1).toInt ≤ (s2).toInt ∧ (s2).toInt ≤ 4 := by
      have q1 := own_m5 hs1
      have q2 := own_s2 q1 hs2
      have k0 : (0 : Int32).toInt = 0 := rfl
      have k4 : (4 : Int32).toInt = 4 := rfl
      omega
    show G T10 (mkF m 89 #[.val (.int f0), .val (.int f1), .val (.int f2), .val (.int f3), .val (.int ly), .val (.int wh), .val (.ref frq), .val (.int s1), .val (.int s2), .val (.ref sts), .val (.int (1 : Int32)), .unset, .unset, .unset, .unset, .unset, .unset, .unset, .unset, .unset] [])
    refine hs.go (fun _ kk_ => XS.aload X10.here hx rfl (hb hby at_89) rfl rfl kk_) ?_
    show G T10 (mkF m 91 #[.val (.int f0), .val (.int f1), .val (.int f2), .val (.int f3), .val (.int ly), .val (.int wh), .val (.ref frq), .val (.int s1), .val (.int s2), .val (.ref sts), .val (.int (1 : Int32)), .unset, .unset, .unset, .unset, .unset, .unset, .unset, .unset, .unset] [(.ref frq)])
    refine hs.go (fun _ kk_ => XS.iconst X10.here hx rfl (hb hby at_91) kk_) ?_
    show G T10 (mkF m 92 #[.val (.int f0), .val (.int f1), .val (.int f2), .val (.int f3), .val (.int ly), .val (.int wh), .val (.ref frq), .val (.int s1), .val (.int s2), .val (.ref sts), .val (.int (1 : Int32)), .unset, .unset, .unset, .unset, .unset, .unset, .unset, .unset, .unset] [(.int (0 : Int32)), (.ref frq)])
    refine rLdI hs X10 hx hZ V_frq ⟨by decide, by decide⟩ (v := (.int g0)) rfl rfl rfl (hb hby at_92) ?_
    show G T10 (mkF m 93 #[.val (.int f0), .val (.int f1), .val (.int f2), .val (.int f3), .val (.int ly), .val (.int wh), .val (.ref frq), .val (.int s1), .val (.int s2), .val (.ref sts), .val (.int (1 : Int32)), .unset, .unset, .unset, .unset, .unset, .unset, .unset, .unset, .unset] [(.int g0)])
    refine hs.go (fun _ kk_ => XS.i2l X10.here hx rfl (hb hby at_93) rfl kk_) ?_
    show G T10 (mkF m 94 #[.val (.int f0), .val (.int f1), .val (.int f2), .val (.int f3), .val (.int ly), .val (.int wh), .val (.ref frq), .val (.int s1), .val (.int s2), .val (.ref sts), .val (.int (1 : Int32)), .unset, .unset, .unset, .unset, .unset, .unset, .unset, .unset, .unset] [(.long (g0.toInt64))])
    refine hs.go (fun _ kk_ => XS.aload X10.here hx rfl (hb hby at_94) rfl rfl kk_) ?_
    show G T10 (mkF m 96 #[.val (.int f0), .val (.int f1), .val (.int f2), .val (.int f3), .val (.int ly), .val (.int wh), .val (.ref frq), .val (.int s1), .val (.int s2), .val (.ref sts), .val (.int (1 : Int32)), .unset, .unset, .unset, .unset, .unset, .unset, .unset, .unset, .unset] [(.ref frq), (.long (g0.toInt64))])
    refine hs.go (fun _ kk_ => XS.iconst X10.here hx rfl (hb hby at_96) kk_) ?_
    show G T10 (mkF m 97 #[.val (.int f0), .val (.int f1), .val (.int f2), .val (.int f3), .val (.int ly), .val (.int wh), .val (.ref frq), .val (.int s1), .val (.int s2), .val (.ref sts), .val (.int (1 : Int32)), .unset, .unset, .unset, .unset, .unset, .unset, .unset, .unset, .unset] [(.int (1 : Int32)), (.ref frq), (.long (g0.toInt64))])
    refine rLdI hs X10 hx hZ V_frq ⟨by decide, by decide⟩ (v := (.int g1)) rfl rfl rfl (hb hby at_97) ?_
    show G T10 (mkF m 98 #[.val (.int f0), .val (.int f1), .val (.int f2), .val (.int f3), .val (.int ly), .val (.int wh), .val (.ref frq), .val (.int s1), .val (.int s2), .val (.ref sts), .val (.int (1 : Int32)), .unset, .unset, .unset, .unset, .unset, .unset, .unset, .unset, .unset] [(.int g1), (.long (g0.toInt64))])
    refine hs.go (fun _ kk_ => XS.i2l X10.here hx rfl (hb hby at_98) rfl kk_) ?_
    show G T10 (mkF m 99 #[.val (.int f0), .val (.int f1), .val (.int f2), .val (.int f3), .val (.int ly), .val (.int wh), .val (.ref frq), .val (.int s1), .val (.int s2), .val (.ref sts), .val (.int (1 : Int32)), .unset, .unset, .unset, .unset, .unset, .unset, .unset, .unset, .unset] [(.long (g1.toInt64)), (.long (g0.toInt64))])
    refine hs.go (fun _ kk_ => XS.ladd X10.here hx rfl (hb hby at_99) rfl kk_) ?_
    show G T10 (mkF m 100 #[.val (.int f0), .val (.int f1), .val (.int f2), .val (.int f3), .val (.int ly), .val (.int wh), .val (.ref frq), .val (.int s1), .val (.int s2), .val (.ref sts), .val (.int (1 : Int32)), .unset, .unset, .unset, .unset, .unset, .unset, .unset, .unset, .unset] [(.long ((g0.toInt64) + (g1.toInt64)))])
    refine hs.go (fun _ kk_ => XS.aload X10.here hx rfl (hb hby at_100) rfl rfl kk_) ?_
    show G T10 (mkF m 102 #[.val (.int f0), .val (.int f1), .val (.int f2), .val (.int f3), .val (.int ly), .val (.int wh), .val (.ref frq), .val (.int s1), .val (.int s2), .val (.ref sts), .val (.int (1 : Int32)), .unset, .unset, .unset, .unset, .unset, .unset, .unset, .unset, .unset] [(.ref frq), (.long ((g0.toInt64) + (g1.toInt64)))])
    refine hs.go (fun _ kk_ => XS.iconst X10.here hx rfl (hb hby at_102) kk_) ?_
    show G T10 (mkF m 103 #[.val (.int f0), .val (.int f1), .val (.int f2), .val (.int f3), .val (.int ly), .val (.int wh), .val (.ref frq), .val (.int s1), .val (.int s2), .val (.ref sts), .val (.int (1 : Int32)), .unset, .unset, .unset, .unset, .unset, .unset, .unset, .unset, .unset] [(.int (2 : Int32)), (.ref frq), (.long ((g0.toInt64) + (g1.toInt64)))])
    refine rLdI hs X10 hx hZ V_frq ⟨by decide, by decide⟩ (v := (.int g2)) rfl rfl rfl (hb hby at_103) ?_
    show G T10 (mkF m 104 #[.val (.int f0), .val (.int f1), .val (.int f2), .val (.int f3), .val (.int ly), .val (.int wh), .val (.ref frq), .val (.int s1), .val (.int s2), .val (.ref sts), .val (.int (1 : Int32)), .unset, .unset, .unset, .unset, .unset, .unset, .unset, .unset, .unset] [(.int g2), (.long ((g0.toInt64) + (g1.toInt64)))])
    refine hs.go (fun _ kk_ => XS.i2l X10.here hx rfl (hb hby at_104) rfl kk_) ?_
    show G T10 (mkF m 105 #[.val (.int f0), .val (.int f1), .val (.int f2), .val (.int f3), .val (.int ly), .val (.int wh), .val (.ref frq), .val (.int s1), .val (.int s2), .val (.ref sts), .val (.int (1 : Int32)), .unset, .unset, .unset, .unset, .unset, .unset, .unset, .unset, .unset] [(.long (g2.toInt64)), (.long ((g0.toInt64) + (g1.toInt64)))])
    refine hs.go (fun _ kk_ => XS.ladd X10.here hx rfl (hb hby at_105) rfl kk_) ?_
    show G T10 (mkF m 106 #[.val (.int f0), .val (.int f1), .val (.int f2), .val (.int f3), .val (.int ly), .val (.int wh), .val (.ref frq), .val (.int s1), .val (.int s2), .val (.ref sts), .val (.int (1 : Int32)), .unset, .unset, .unset, .unset, .unset, .unset, .unset, .unset, .unset] [(.long (((g0.toInt64) + (g1.toInt64)) + (g2.toInt64)))])
    refine hs.go (fun _ kk_ => XS.aload X10.here hx rfl (hb hby at_106) rfl rfl kk_) ?_
    show G T10 (mkF m 108 #[.val (.int f0), .val (.int f1), .val (.int f2), .val (.int f3), .val (.int ly), .val (.int wh), .val (.ref frq), .val (.int s1), .val (.int s2), .val (.ref sts), .val (.int (1 : Int32)), .unset, .unset, .unset, .unset, .unset, .unset, .unset, .unset, .unset] [(.ref frq), (.long (((g0.toInt64) + (g1.toInt64)) + (g2.toInt64)))])
    refine hs.go (fun _ kk_ => XS.iconst X10.here hx rfl (hb hby at_108) kk_) ?_
    show G T10 (mkF m 109 #[.val (.int f0), .val (.int f1), .val (.int f2), .val (.int f3), .val (.int ly), .val (.int wh), .val (.ref frq), .val (.int s1), .val (.int s2), .val (.ref sts), .val (.int (1 : Int32)), .unset, .unset, .unset, .unset, .unset, .unset, .unset, .unset, .unset] [(.int (3 : Int32)), (.ref frq), (.long (((g0.toInt64) + (g1.toInt64)) + (g2.toInt64)))])
    refine rLdI hs X10 hx hZ V_frq ⟨by decide, by decide⟩ (v := (.int g3)) rfl rfl rfl (hb hby at_109) ?_
    show G T10 (mkF m 110 #[.val (.int f0), .val (.int f1), .val (.int f2), .val (.int f3), .val (.int ly), .val (.int wh), .val (.ref frq), .val (.int s1), .val (.int s2), .val (.ref sts), .val (.int (1 : Int32)), .unset, .unset, .unset, .unset, .unset, .unset, .unset, .unset, .unset] [(.int g3), (.long (((g0.toInt64) + (g1.toInt64)) + (g2.toInt64)))])
    refine hs.go (fun _ kk_ => XS.i2l X10.here hx rfl (hb hby at_110) rfl kk_) ?_
    show G T10 (mkF m 111 #[.val (.int f0), .val (.int f1), .val (.int f2), .val (.int f3), .val (.int ly), .val (.int wh), .val (.ref frq), .val (.int s1), .val (.int s2), .val (.ref sts), .val (.int (1 : Int32)), .unset, .unset, .unset, .unset, .unset, .unset, .unset, .unset, .unset] [(.long (g3.toInt64)), (.long (((g0.toInt64) + (g1.toInt64)) + (g2.toInt64)))])
    refine hs.go (fun _ kk_ => XS.ladd X10.here hx rfl (hb hby at_111) rfl kk_) ?_
    show G T10 (mkF m 112 #[.val (.int f0), .val (.int f1), .val (.int f2), .val (.int f3), .val (.int ly), .val (.int wh), .val (.ref frq), .val (.int s1), .val (.int s2), .val (.ref sts), .val (.int (1 : Int32)), .unset, .unset, .unset, .unset, .unset, .unset, .unset, .unset, .unset] [(.long ((((g0.toInt64) + (g1.toInt64)) + (g2.toInt64)) + (g3.toInt64)))])
    refine nameIt (P := fun zz_ : Int64 => G T10 (mkF m 112 #[.val (.int f0), .val (.int f1), .val (.int f2), .val (.int f3), .val (.int ly), .val (.int wh), .val (.ref frq), .val (.int s1), .val (.int s2), .val (.ref sts), .val (.int (1 : Int32)), .unset, .unset, .unset, .unset, .unset, .unset, .unset, .unset, .unset] [(.long zz_)])) ((((g0.toInt64) + (g1.toInt64)) + (g2.toInt64)) + (g3.toInt64)) (fun tot htot => ?_)
    show G T10 (mkF m 112 #[.val (.int f0), .val (.int f1), .val (.int f2), .val (.int f3), .val (.int ly), .val (.int wh), .val (.ref frq), .val (.int s1), .val (.int s2), .val (.ref sts), .val (.int (1 : Int32)), .unset, .unset, .unset, .unset, .unset, .unset, .unset, .unset, .unset] [(.long tot)])
    refine hs.go (fun _ kk_ => XS.lstore X10.here hx rfl (hb hby at_112) rfl (l' := #[.val (.int f0), .val (.int f1), .val (.int f2), .val (.int f3), .val (.int ly), .val (.int wh), .val (.ref frq), .val (.int s1), .val (.int s2), .val (.ref sts), .val (.int (1 : Int32)), .val (.long tot), .second, .unset, .unset, .unset, .unset, .unset, .unset, .unset]) rfl kk_) ?_
    show G T10 (mkF m 114 #[.val (.int f0), .val (.int f1), .val (.int f2), .val (.int f3), .val (.int ly), .val (.int wh), .val (.ref frq), .val (.int s1), .val (.int s2), .val (.ref sts), .val (.int (1 : Int32)), .val (.long tot), .second, .unset, .unset, .unset, .unset, .unset, .unset, .unset] [])
    refine rNewO hs X10 hx hZ hown (hw _ (List.mem_of_getElem? (i := 2) rfl)) (hw _ (List.mem_of_getElem? (i := 3) rfl)) (hw _ (List.mem_of_getElem? (i := 4) rfl)) rfl (hb hby at_114) (by decide) (by decide) (fun T22 h22 ob g22 X22 E22 E_ob D22 => ?_)
    have g_ob : n0 ≤ ob := by rw [g22]; exact Z0
    have Z0 := Nat.le_trans Z0 E22.1
    have ne_frq_ob : frq ≠ ob := Nat.ne_of_lt (Nat.lt_of_lt_of_le V_frq.lt (Nat.le_of_eq g22.symm))
    have ne_sts_ob : sts ≠ ob := Nat.ne_of_lt (Nat.lt_of_lt_of_le V_sts.lt (Nat.le_of_eq g22.symm))
    have V_frq := V_frq.ext E22
    have V_sts := V_sts.ext E22
    have F_analysis_ob : Fld Z h22 ob "com/example/vector_space_ranker/vectorspaceranker/Index" "analysis" "Lcom/example/vector_space_ranker/vectorspaceranker/Analysis;" .null := D22 (Or.inr (hw _ (List.mem_of_getElem? (i := 14) rfl))) (ty := (.object "com/example/vector_space_ranker/vectorspaceranker/Analysis")) (by decide)
    have F_docnos_ob : Fld Z h22 ob "com/example/vector_space_ranker/vectorspaceranker/Index" "docnos" "[Ljava/lang/String;" .null := D22 (Or.inr (hw _ (List.mem_of_getElem? (i := 16) rfl))) (ty := (.array (.object "java/lang/String"))) (by decide)
    have F_characterLengths_ob : Fld Z h22 ob "com/example/vector_space_ranker/vectorspaceranker/Index" "characterLengths" "[I" .null := D22 (Or.inr (hw _ (List.mem_of_getElem? (i := 18) rfl))) (ty := (.array .int)) (by decide)
    have F_terms_ob : Fld Z h22 ob "com/example/vector_space_ranker/vectorspaceranker/Index" "terms" "[Ljava/lang/String;" .null := D22 (Or.inr (hw _ (List.mem_of_getElem? (i := 20) rfl))) (ty := (.array (.object "java/lang/String"))) (by decide)
    have F_postingStarts_ob : Fld Z h22 ob "com/example/vector_space_ranker/vectorspaceranker/Index" "postingStarts" "[I" .null := D22 (Or.inr (hw _ (List.mem_of_getElem? (i := 22) rfl))) (ty := (.array .int)) (by decide)
    have F_postingDocuments_ob : Fld Z h22 ob "com/example/vector_space_ranker/vectorspaceranker/Index" "postingDocuments" "[I" .null := D22 (Or.inr (hw _ (List.mem_of_getElem? (i := 24) rfl))) (ty := (.array .int)) (by decide)
    have F_postingFrequencies_ob : Fld Z h22 ob "com/example/vector_space_ranker/vectorspaceranker/Index" "postingFrequencies" "[I" .null := D22 (Or.inr (hw _ (List.mem_of_getElem? (i := 26) rfl))) (ty := (.array .int)) (by decide)
    have F_tokenCount_ob : Fld Z h22 ob "com/example/vector_space_ranker/vectorspaceranker/Index" "tokenCount" "J" (.long (0 : Int64)) := D22 (Or.inr (hw _ (List.mem_of_getElem? (i := 28) rfl))) (ty := .long) (by decide)
    show G T22 (mkF m 117 #[.val (.int f0), .val (.int f1), .val (.int f2), .val (.int f3), .val (.int ly), .val (.int wh), .val (.ref frq), .val (.int s1), .val (.int s2), .val (.ref sts), .val (.int (1 : Int32)), .val (.long tot), .second, .unset, .unset, .unset, .unset, .unset, .unset, .unset] [(.ref ob)])
    refine hs.go (fun _ kk_ => XS.dup X22.here hx rfl (hb hby at_117) rfl rfl kk_) ?_
    show G T22 (mkF m 118 #[.val (.int f0), .val (.int f1), .val (.int f2), .val (.int f3), .val (.int ly), .val (.int wh), .val (.ref frq), .val (.int s1), .val (.int s2), .val (.ref sts), .val (.int (1 : Int32)), .val (.long tot), .second, .unset, .unset, .unset, .unset, .unset, .unset, .unset] [(.ref ob), (.ref ob)])
    refine hs.go (fun _ kk_ => XS.aconstNull X22.here hx rfl (hb hby at_118) kk_) ?_
    show G T22 (mkF m 119 #[.val (.int f0), .val (.int f1), .val (.int f2), .val (.int f3), .val (.int ly), .val (.int wh), .val (.ref frq), .val (.int s1), .val (.int s2), .val (.ref sts), .val (.int (1 : Int32)), .val (.long tot), .second, .unset, .unset, .unset, .unset, .unset, .unset, .unset] [.null, (.ref ob), (.ref ob)])
    refine hs.go (fun _ kk_ => XS.iconst X22.here hx rfl (hb hby at_119) kk_) ?_
    show G T22 (mkF m 120 #[.val (.int f0), .val (.int f1), .val (.int f2), .val (.int f3), .val (.int ly), .val (.int wh), .val (.ref frq), .val (.int s1), .val (.int s2), .val (.ref sts), .val (.int (1 : Int32)), .val (.long tot), .second, .unset, .unset, .unset, .unset, .unset, .unset, .unset] [(.int (0 : Int32)), .null, (.ref ob), (.ref ob)])
    refine rNewR hs X22 hx hZ hown (hw _ (List.mem_of_getElem? (i := 5) rfl)) (hw _ (List.mem_of_getElem? (i := 6) rfl)) rfl (hb hby at_120) rfl (by decide) 0 0 (by decide) (by decide) (by decide) (by decide) (fun T23 h23 k23 dn g23 X23 E23 V_dn O_dn => ?_)
    have V_dn : Arv Z h23 dn k23 (.object "java/lang/String") (0 : Int32) [] .null := V_dn
    have g_dn : n0 ≤ dn := by rw [g23]; exact Z0
    have Z0 := Nat.le_trans Z0 E23.1
    have ne_frq_dn : frq ≠ dn := Nat.ne_of_lt (Nat.lt_of_lt_of_le V_frq.lt (Nat.le_of_eq g23.symm))
    have ne_sts_dn : sts ≠ dn := Nat.ne_of_lt (Nat.lt_of_lt_of_le V_sts.lt (Nat.le_of_eq g23.symm))
    have ne_ob_dn : ob ≠ dn := Nat.ne_of_lt (Nat.lt_of_lt_of_le E_ob.lt (Nat.le_of_eq g23.symm))
    have V_frq := V_frq.ext E23
    have V_sts := V_sts.ext E23
    have E_ob := E_ob.ext E23
    have F_analysis_ob := F_analysis_ob.ext E23
    have F_docnos_ob := F_docnos_ob.ext E23
    have F_characterLengths_ob := F_characterLengths_ob.ext E23
    have F_terms_ob := F_terms_ob.ext E23
    have F_postingStarts_ob := F_postingStarts_ob.ext E23
    have F_postingDocuments_ob := F_postingDocuments_ob.ext E23
    have F_postingFrequencies_ob := F_postingFrequencies_ob.ext E23
    have F_tokenCount_ob := F_tokenCount_ob.ext E23
    show G T23 (mkF m 123 #[.val (.int f0), .val (.int f1), .val (.int f2), .val (.int f3), .val (.int ly), .val (.int wh), .val (.ref frq), .val (.int s1), .val (.int s2), .val (.ref sts), .val (.int (1 : Int32)), .val (.long tot), .second, .unset, .unset, .unset, .unset, .unset, .unset, .unset] [(.ref dn), .null, (.ref ob), (.ref ob)])
    refine hs.go (fun _ kk_ => XS.iconst X23.here hx rfl (hb hby at_123) kk_) ?_
    show G T23 (mkF m 124 #[.val (.int f0), .val (.int f1), .val (.int f2), .val (.int f3), .val (.int ly), .val (.int wh), .val (.ref frq), .val (.int s1), .val (.int s2), .val (.ref sts), .val (.int (1 : Int32)), .val (.long tot), .second, .unset, .unset, .unset, .unset, .unset, .unset, .unset] [(.int (0 : Int32)), (.ref dn), .null, (.ref ob), (.ref ob)])
    refine rNewP hs X23 hx hZ (hw _ (List.mem_of_getElem? (i := 0) rfl)) rfl (hb hby at_124) rfl (by decide) 0 0 (by decide) (by decide) (by decide) (by decide) (fun T24 h24 k24 cl g24 X24 E24 V_cl => ?_)
    have V_cl : Arv Z h24 cl k24 .int (0 : Int32) [] (.int (0 : Int32)) := V_cl
    have g_cl : n0 ≤ cl := by rw [g24]; exact Z0
    have Z0 := Nat.le_trans Z0 E24.1
    have ne_frq_cl : frq ≠ cl := Nat.ne_of_lt (Nat.lt_of_lt_of_le V_frq.lt (Nat.le_of_eq g24.symm))
    have ne_sts_cl : sts ≠ cl := Nat.ne_of_lt (Nat.lt_of_lt_of_le V_sts.lt (Nat.le_of_eq g24.symm))
    have ne_ob_cl : ob ≠ cl := Nat.ne_of_lt (Nat.lt_of_lt_of_le E_ob.lt (Nat.le_of_eq g24.symm))
    have ne_dn_cl : dn ≠ cl := Nat.ne_of_lt (Nat.lt_of_lt_of_le V_dn.lt (Nat.le_of_eq g24.symm))
    have V_frq := V_frq.ext E24
    have V_sts := V_sts.ext E24
    have E_ob := E_ob.ext E24
    have F_analysis_ob := F_analysis_ob.ext E24
    have F_docnos_ob := F_docnos_ob.ext E24
    have F_characterLengths_ob := F_characterLengths_ob.ext E24
    have F_terms_ob := F_terms_ob.ext E24
    have F_postingStarts_ob := F_postingStarts_ob.ext E24
    have F_postingDocuments_ob := F_postingDocuments_ob.ext E24
    have F_postingFrequencies_ob := F_postingFrequencies_ob.ext E24
    have F_tokenCount_ob := F_tokenCount_ob.ext E24
    have V_dn := V_dn.ext E24
    show G T24 (mkF m 126 #[.val (.int f0), .val (.int f1), .val (.int f2), .val (.int f3), .val (.int ly), .val (.int wh), .val (.ref frq), .val (.int s1), .val (.int s2), .val (.ref sts), .val (.int (1 : Int32)), .val (.long tot), .second, .unset, .unset, .unset, .unset, .unset, .unset, .unset] [(.ref cl), (.ref dn), .null, (.ref ob), (.ref ob)])
    refine hs.go (fun _ kk_ => XS.iconst X24.here hx rfl (hb hby at_126) kk_) ?_
    show G T24 (mkF m 127 #[.val (.int f0), .val (.int f1), .val (.int f2), .val (.int f3), .val (.int ly), .val (.int wh), .val (.ref frq), .val (.int s1), .val (.int s2), .val (.ref sts), .val (.int (1 : Int32)), .val (.long tot), .second, .unset, .unset, .unset, .unset, .unset, .unset, .unset] [(.int (3 : Int32)), (.ref cl), (.ref dn), .null, (.ref ob), (.ref ob)])
    refine rNewR hs X24 hx hZ hown (hw _ (List.mem_of_getElem? (i := 5) rfl)) (hw _ (List.mem_of_getElem? (i := 6) rfl)) rfl (hb hby at_127) rfl (by decide) 3 3 (by decide) (by decide) (by decide) (by decide) (fun T25 h25 k25 te g25 X25 E25 V_te O_te => ?_)
    have V_te : Arv Z h25 te k25 (.object "java/lang/String") (3 : Int32) [.null, .null, .null] .null := V_te
    have g_te : n0 ≤ te := by rw [g25]; exact Z0
    have Z0 := Nat.le_trans Z0 E25.1
    have ne_frq_te : frq ≠ te := Nat.ne_of_lt (Nat.lt_of_lt_of_le V_frq.lt (Nat.le_of_eq g25.symm))
    have ne_sts_te : sts ≠ te := Nat.ne_of_lt (Nat.lt_of_lt_of_le V_sts.lt (Nat.le_of_eq g25.symm))
    have ne_ob_te : ob ≠ te := Nat.ne_of_lt (Nat.lt_of_lt_of_le E_ob.lt (Nat.le_of_eq g25.symm))
    have ne_dn_te : dn ≠ te := Nat.ne_of_lt (Nat.lt_of_lt_of_le V_dn.lt (Nat.le_of_eq g25.symm))
    have ne_cl_te : cl ≠ te := Nat.ne_of_lt (Nat.lt_of_lt_of_le V_cl.lt (Nat.le_of_eq g25.symm))
    have V_frq := V_frq.ext E25
    have V_sts := V_sts.ext E25
    have E_ob := E_ob.ext E25
    have F_analysis_ob := F_analysis_ob.ext E25
    have F_docnos_ob := F_docnos_ob.ext E25
    have F_characterLengths_ob := F_characterLengths_ob.ext E25
    have F_terms_ob := F_terms_ob.ext E25
    have F_postingStarts_ob := F_postingStarts_ob.ext E25
    have F_postingDocuments_ob := F_postingDocuments_ob.ext E25
    have F_postingFrequencies_ob := F_postingFrequencies_ob.ext E25
    have F_tokenCount_ob := F_tokenCount_ob.ext E25
    have V_dn := V_dn.ext E25
    have V_cl := V_cl.ext E25
    show G T25 (mkF m 130 #[.val (.int f0), .val (.int f1), .val (.int f2), .val (.int f3), .val (.int ly), .val (.int wh), .val (.ref frq), .val (.int s1), .val (.int s2), .val (.ref sts), .val (.int (1 : Int32)), .val (.long tot), .second, .unset, .unset, .unset, .unset, .unset, .unset, .unset] [(.ref te), (.ref cl), (.ref dn), .null, (.ref ob), (.ref ob)])
    refine hs.go (fun _ kk_ => XS.aload X25.here hx rfl (hb hby at_130) rfl rfl kk_) ?_
    show G T25 (mkF m 132 #[.val (.int f0), .val (.int f1), .val (.int f2), .val (.int f3), .val (.int ly), .val (.int wh), .val (.ref frq), .val (.int s1), .val (.int s2), .val (.ref sts), .val (.int (1 : Int32)), .val (.long tot), .second, .unset, .unset, .unset, .unset, .unset, .unset, .unset] [(.ref sts), (.ref te), (.ref cl), (.ref dn), .null, (.ref ob), (.ref ob)])
    refine hs.go (fun _ kk_ => XS.iconst X25.here hx rfl (hb hby at_132) kk_) ?_
    show G T25 (mkF m 133 #[.val (.int f0), .val (.int f1), .val (.int f2), .val (.int f3), .val (.int ly), .val (.int wh), .val (.ref frq), .val (.int s1), .val (.int s2), .val (.ref sts), .val (.int (1 : Int32)), .val (.long tot), .second, .unset, .unset, .unset, .unset, .unset, .unset, .unset] [(.int (4 : Int32)), (.ref sts), (.ref te), (.ref cl), (.ref dn), .null, (.ref ob), (.ref ob)])
    refine rNewP hs X25 hx hZ (hw _ (List.mem_of_getElem? (i := 0) rfl)) rfl (hb hby at_133) rfl (by decide) 4 4 (by decide) (by decide) (by decide) (by decide) (fun T26 h26 k26 dc g26 X26 E26 V_dc => ?_)
    have V_dc : Arv Z h26 dc k26 .int (4 : Int32) [(.int (0 : Int32)), (.int (0 : Int32)), (.int (0 : Int32)), (.int (0 : Int32))] (.int (0 : Int32)) := V_dc
    have g_dc : n0 ≤ dc := by rw [g26]; exact Z0
    have Z0 := Nat.le_trans Z0 E26.1
    have ne_frq_dc : frq ≠ dc := Nat.ne_of_lt (Nat.lt_of_lt_of_le V_frq.lt (Nat.le_of_eq g26.symm))
    have ne_sts_dc : sts ≠ dc := Nat.ne_of_lt (Nat.lt_of_lt_of_le V_sts.lt (Nat.le_of_eq g26.symm))
    have ne_ob_dc : ob ≠ dc := Nat.ne_of_lt (Nat.lt_of_lt_of_le E_ob.lt (Nat.le_of_eq g26.symm))
    have ne_dn_dc : dn ≠ dc := Nat.ne_of_lt (Nat.lt_of_lt_of_le V_dn.lt (Nat.le_of_eq g26.symm))
    have ne_cl_dc : cl ≠ dc := Nat.ne_of_lt (Nat.lt_of_lt_of_le V_cl.lt (Nat.le_of_eq g26.symm))
    have ne_te_dc : te ≠ dc := Nat.ne_of_lt (Nat.lt_of_lt_of_le V_te.lt (Nat.le_of_eq g26.symm))
    have V_frq := V_frq.ext E26
    have V_sts := V_sts.ext E26
    have E_ob := E_ob.ext E26
    have F_analysis_ob := F_analysis_ob.ext E26
    have F_docnos_ob := F_docnos_ob.ext E26
    have F_characterLengths_ob := F_characterLengths_ob.ext E26
    have F_terms_ob := F_terms_ob.ext E26
    have F_postingStarts_ob := F_postingStarts_ob.ext E26
    have F_postingDocuments_ob := F_postingDocuments_ob.ext E26
    have F_postingFrequencies_ob := F_postingFrequencies_ob.ext E26
    have F_tokenCount_ob := F_tokenCount_ob.ext E26
    have V_dn := V_dn.ext E26
    have V_cl := V_cl.ext E26
    have V_te := V_te.ext E26
    show G T26 (mkF m 135 #[.val (.int f0), .val (.int f1), .val (.int f2), .val (.int f3), .val (.int ly), .val (.int wh), .val (.ref frq), .val (.int s1), .val (.int s2), .val (.ref sts), .val (.int (1 : Int32)), .val (.long tot), .second, .unset, .unset, .unset, .unset, .unset, .unset, .unset] [(.ref dc), (.ref sts), (.ref te), (.ref cl), (.ref dn), .null, (.ref ob), (.ref ob)])
    refine hs.go (fun _ kk_ => XS.aload X26.here hx rfl (hb hby at_135) rfl rfl kk_) ?_
    show G T26 (mkF m 137 #[.val (.int f0), .val (.int f1), .val (.int f2), .val (.int f3), .val (.int ly), .val (.int wh), .val (.ref frq), .val (.int s1), .val (.int s2), .val (.ref sts), .val (.int (1 : Int32)), .val (.long tot), .second, .unset, .unset, .unset, .unset, .unset, .unset, .unset] [(.ref frq), (.ref dc), (.ref sts), (.ref te), (.ref cl), (.ref dn), .null, (.ref ob), (.ref ob)])
    refine hs.go (fun _ kk_ => XS.lload X26.here hx rfl (hb hby at_137) rfl  kk_) ?_
    show G T26 (mkF m 139 #[.val (.int f0), .val (.int f1), .val (.int f2), .val (.int f3), .val (.int ly), .val (.int wh), .val (.ref frq), .val (.int s1), .val (.int s2), .val (.ref sts), .val (.int (1 : Int32)), .val (.long tot), .second, .unset, .unset, .unset, .unset, .unset, .unset, .unset] [(.long tot), (.ref frq), (.ref dc), (.ref sts), (.ref te), (.ref cl), (.ref dn), .null, (.ref ob), (.ref ob)])
    refine rCallI hs X26 hx hZ (as' := [.null, (.ref dn), (.ref cl), (.ref te), (.ref sts), (.ref dc), (.ref frq), (.long tot)]) (rm1 l Z a0 hw [] ob dn cl te sts dc frq tot h26 n0 Z0 E_ob g_ob F_analysis_ob F_docnos_ob F_characterLengths_ob F_terms_ob F_postingStarts_ob F_postingDocuments_ob F_postingFrequencies_ob F_tokenCount_ob) rfl hown (hw _ (List.mem_of_getElem? (i := 7) rfl)) (hw _ (List.mem_of_getElem? (i := 8) rfl)) (hw _ (List.mem_of_getElem? (i := 4) rfl)) (hw _ (List.mem_of_getElem? (i := 9) rfl)) hy_1 rfl (by rw [hml]; rfl) [(.ref ob)] (lenOf pd_1 rfl) rfl 1 (by show 2 * 0 + _ ≤ _; exact Nat.le_of_eq rfl) (hb hby at_139) (by decide) (by decide) (by decide) (by decide) (fun r27 T27 h27 X27 q27 => ?_)
    obtain ⟨rfl, Kc27, E_ob, F_postingStarts_ob, F_postingFrequencies_ob⟩ := q27
    have Z0 := Nat.le_trans Z0 Kc27.1
    have V_frq := V_frq.keep Kc27 (ninS ne_frq_ob nin0)
    have V_sts := V_sts.keep Kc27 (ninS ne_sts_ob nin0)
    have V_dn := V_dn.keep Kc27 (ninS ne_ob_dn.symm nin0)
    have V_cl := V_cl.keep Kc27 (ninS ne_ob_cl.symm nin0)
    have V_te := V_te.keep Kc27 (ninS ne_ob_te.symm nin0)
    have V_dc := V_dc.keep Kc27 (ninS ne_ob_dc.symm nin0)
    show G T27 (mkF m 142 #[.val (.int f0), .val (.int f1), .val (.int f2), .val (.int f3), .val (.int ly), .val (.int wh), .val (.ref frq), .val (.int s1), .val (.int s2), .val (.ref sts), .val (.int (1 : Int32)), .val (.long tot), .second, .unset, .unset, .unset, .unset, .unset, .unset, .unset] [(.ref ob)])
    refine hs.go (fun _ kk_ => XS.astore X27.here hx rfl (hb hby at_142) rfl rfl (l' := #[.val (.int f0), .val (.int f1), .val (.int f2), .val (.int f3), .val (.int ly), .val (.int wh), .val (.ref frq), .val (.int s1), .val (.int s2), .val (.ref sts), .val (.int (1 : Int32)), .val (.long tot), .second, .val (.ref ob), .unset, .unset, .unset, .unset, .unset, .unset]) rfl kk_) ?_
    show G T27 (mkF m 144 #[.val (.int f0), .val (.int f1), .val (.int f2), .val (.int f3), .val (.int ly), .val (.int wh), .val (.ref frq), .val (.int s1), .val (.int s2), .val (.ref sts), .val (.int (1 : Int32)), .val (.long tot), .second, .val (.ref ob), .unset, .unset, .unset, .unset, .unset, .unset] [])
    refine hs.go (fun _ kk_ => XS.aload X27.here hx rfl (hb hby at_144) rfl rfl kk_) ?_
    show G T27 (mkF m 146 #[.val (.int f0), .val (.int f1), .val (.int f2), .val (.int f3), .val (.int ly), .val (.int wh), .val (.ref frq), .val (.int s1), .val (.int s2), .val (.ref sts), .val (.int (1 : Int32)), .val (.long tot), .second, .val (.ref ob), .unset, .unset, .unset, .unset, .unset, .unset] [(.ref ob)])
    refine hs.go (fun _ kk_ => XS.iload X27.here hx rfl (hb hby at_146) rfl  kk_) ?_
    show G T27 (mkF m 148 #[.val (.int f0), .val (.int f1), .val (.int f2), .val (.int f3), .val (.int ly), .val (.int wh), .val (.ref frq), .val (.int s1), .val (.int s2), .val (.ref sts), .val (.int (1 : Int32)), .val (.long tot), .second, .val (.ref ob), .unset, .unset, .unset, .unset, .unset, .unset] [(.int (1 : Int32)), (.ref ob)])
    refine rCallV hs X27 hx hZ (as' := [(.int (1 : Int32))]) (rm3 l Z a0 hw [] ob sts frq (1 : Int32) s1 s2 (4 : Int32) g0 g1 g2 g3 [(.int (0 : Int32)), (.int s1), (.int s2), (.int (4 : Int32))] (.int (0 : Int32)) k6 k1 (s1).toInt.toNat ((s2).toInt - (s1).toInt).toNat h27 n0 Z0 E_ob F_postingStarts_ob F_postingFrequencies_ob V_sts V_frq ⟨by decide, by decide⟩ rfl ⟨by decide, by decide⟩ rfl (by have q := HL; omega) (by have q := HL; omega) (by have q := HL; omega)) E_ob hown (hw _ (List.mem_of_getElem? (i := 29) rfl)) (hw _ (List.mem_of_getElem? (i := 30) rfl)) (hw _ (List.mem_of_getElem? (i := 32) rfl)) (hw _ (List.mem_of_getElem? (i := 31) rfl)) (hw _ (List.mem_of_getElem? (i := 4) rfl)) (hw _ (List.mem_of_getElem? (i := 33) rfl)) hy_3 rfl (by rw [hml]; rfl) [] (lenOf pd_2 rfl) rfl 0 (by show 2 * 0 + _ ≤ _; exact Nat.le_of_eq rfl) (hb hby at_148) (by decide) (by decide) (by decide) (by decide) (fun r28 T28 h28 X28 q28 => ?_)
    obtain ⟨rfl, qh28⟩ := q28
    rw [qh28] at X28
    show G T28 (mkF m 151 #[.val (.int f0), .val (.int f1), .val (.int f2), .val (.int f3), .val (.int ly), .val (.int wh), .val (.ref frq), .val (.int s1), .val (.int s2), .val (.ref sts), .val (.int (1 : Int32)), .val (.long tot), .second, .val (.ref ob), .unset, .unset, .unset, .unset, .unset, .unset] [(.long (sml [g0, g1, g2, g3] (s1).toInt.toNat ((s2).toInt - (s1).toInt).toNat 0))])
    refine nameIt (P := fun zz_ : Int64 => G T28 (mkF m 151 #[.val (.int f0), .val (.int f1), .val (.int f2), .val (.int f3), .val (.int ly), .val (.int wh), .val (.ref frq), .val (.int s1), .val (.int s2), .val (.ref sts), .val (.int (1 : Int32)), .val (.long tot), .second, .val (.ref ob), .unset, .unset, .unset, .unset, .unset, .unset] [(.long zz_)])) (sml [g0, g1, g2, g3] (s1).toInt.toNat ((s2).toInt - (s1).toInt).toNat 0) (fun gt hgt => ?_)
    show G T28 (mkF m 151 #[.val (.int f0), .val (.int f1), .val (.int f2), .val (.int f3), .val (.int ly), .val (.int wh), .val (.ref frq), .val (.int s1), .val (.int s2), .val (.ref sts), .val (.int (1 : Int32)), .val (.long tot), .second, .val (.ref ob), .unset, .unset, .unset, .unset, .unset, .unset] [(.long gt)])
    refine hs.go (fun _ kk_ => XS.lstore X28.here hx rfl (hb hby at_151) rfl (l' := #[.val (.int f0), .val (.int f1), .val (.int f2), .val (.int f3), .val (.int ly), .val (.int wh), .val (.ref frq), .val (.int s1), .val (.int s2), .val (.ref sts), .val (.int (1 : Int32)), .val (.long tot), .second, .val (.ref ob), .val (.long gt), .second, .unset, .unset, .unset, .unset]) rfl kk_) ?_
    show G T28 (mkF m 153 #[.val (.int f0), .val (.int f1), .val (.int f2), .val (.int f3), .val (.int ly), .val (.int wh), .val (.ref frq), .val (.int s1), .val (.int s2), .val (.ref sts), .val (.int (1 : Int32)), .val (.long tot), .second, .val (.ref ob), .val (.long gt), .second, .unset, .unset, .unset, .unset] [])
    refine hs.go (fun _ kk_ => XS.aload X28.here hx rfl (hb hby at_153) rfl rfl kk_) ?_
    show G T28 (mkF m 155 #[.val (.int f0), .val (.int f1), .val (.int f2), .val (.int f3), .val (.int ly), .val (.int wh), .val (.ref frq), .val (.int s1), .val (.int s2), .val (.ref sts), .val (.int (1 : Int32)), .val (.long tot), .second, .val (.ref ob), .val (.long gt), .second, .unset, .unset, .unset, .unset] [(.ref sts)])
    refine hs.go (fun _ kk_ => XS.iload X28.here hx rfl (hb hby at_155) rfl  kk_) ?_
    show G T28 (mkF m 157 #[.val (.int f0), .val (.int f1), .val (.int f2), .val (.int f3), .val (.int ly), .val (.int wh), .val (.ref frq), .val (.int s1), .val (.int s2), .val (.ref sts), .val (.int (1 : Int32)), .val (.long tot), .second, .val (.ref ob), .val (.long gt), .second, .unset, .unset, .unset, .unset] [(.int (1 : Int32)), (.ref sts)])
    refine rLdI hs X28 hx hZ V_sts ⟨by decide, by decide⟩ (v := (.int s1)) rfl rfl rfl (hb hby at_157) ?_
    show G T28 (mkF m 158 #[.val (.int f0), .val (.int f1), .val (.int f2), .val (.int f3), .val (.int ly), .val (.int wh), .val (.ref frq), .val (.int s1), .val (.int s2), .val (.ref sts), .val (.int (1 : Int32)), .val (.long tot), .second, .val (.ref ob), .val (.long gt), .second, .unset, .unset, .unset, .unset] [(.int s1)])
    refine hs.go (fun _ kk_ => XS.istore X28.here hx rfl (hb hby at_158) rfl (l' := #[.val (.int f0), .val (.int f1), .val (.int f2), .val (.int f3), .val (.int ly), .val (.int wh), .val (.ref frq), .val (.int s1), .val (.int s2), .val (.ref sts), .val (.int (1 : Int32)), .val (.long tot), .second, .val (.ref ob), .val (.long gt), .second, .val (.int s1), .unset, .unset, .unset]) rfl kk_) ?_
    show G T28 (mkF m 160 #[.val (.int f0), .val (.int f1), .val (.int f2), .val (.int f3), .val (.int ly), .val (.int wh), .val (.ref frq), .val (.int s1), .val (.int s2), .val (.ref sts), .val (.int (1 : Int32)), .val (.long tot), .second, .val (.ref ob), .val (.long gt), .second, .val (.int s1), .unset, .unset, .unset] [])
    refine hs.go (fun _ kk_ => XS.aload X28.here hx rfl (hb hby at_160) rfl rfl kk_) ?_
    show G T28 (mkF m 162 #[.val (.int f0), .val (.int f1), .val (.int f2), .val (.int f3), .val (.int ly), .val (.int wh), .val (.ref frq), .val (.int s1), .val (.int s2), .val (.ref sts), .val (.int (1 : Int32)), .val (.long tot), .second, .val (.ref ob), .val (.long gt), .second, .val (.int s1), .unset, .unset, .unset] [(.ref sts)])
    refine hs.go (fun _ kk_ => XS.iload X28.here hx rfl (hb hby at_162) rfl  kk_) ?_
    show G T28 (mkF m 164 #[.val (.int f0), .val (.int f1), .val (.int f2), .val (.int f3), .val (.int ly), .val (.int wh), .val (.ref frq), .val (.int s1), .val (.int s2), .val (.ref sts), .val (.int (1 : Int32)), .val (.long tot), .second, .val (.ref ob), .val (.long gt), .second, .val (.int s1), .unset, .unset, .unset] [(.int (1 : Int32)), (.ref sts)])
    refine hs.go (fun _ kk_ => XS.iconst X28.here hx rfl (hb hby at_164) kk_) ?_
    show G T28 (mkF m 165 #[.val (.int f0), .val (.int f1), .val (.int f2), .val (.int f3), .val (.int ly), .val (.int wh), .val (.ref frq), .val (.int s1), .val (.int s2), .val (.ref sts), .val (.int (1 : Int32)), .val (.long tot), .second, .val (.ref ob), .val (.long gt), .second, .val (.int s1), .unset, .unset, .unset] [(.int (1 : Int32)), (.int (1 : Int32)), (.ref sts)])
    refine hs.go (fun _ kk_ => XS.iadd X28.here hx rfl (hb hby at_165) rfl kk_) ?_
    show G T28 (mkF m 166 #[.val (.int f0), .val (.int f1), .val (.int f2), .val (.int f3), .val (.int ly), .val (.int wh), .val (.ref frq), .val (.int s1), .val (.int s2), .val (.ref sts), .val (.int (1 : Int32)), .val (.long tot), .second, .val (.ref ob), .val (.long gt), .second, .val (.int s1), .unset, .unset, .unset] [(.int (2 : Int32)), (.ref sts)])
    refine rLdI hs X28 hx hZ V_sts ⟨by decide, by decide⟩ (v := (.int s2)) rfl rfl rfl (hb hby at_166) ?_
    show G T28 (mkF m 167 #[.val (.int f0), .val (.int f1), .val (.int f2), .val (.int f3), .val (.int ly), .val (.int wh), .val (.ref frq), .val (.int s1), .val (.int s2), .val (.ref sts), .val (.int (1 : Int32)), .val (.long tot), .second, .val (.ref ob), .val (.long gt), .second, .val (.int s1), .unset, .unset, .unset] [(.int s2)])
    refine hs.go (fun _ kk_ => XS.istore X28.here hx rfl (hb hby at_167) rfl (l' := #[.val (.int f0), .val (.int f1), .val (.int f2), .val (.int f3), .val (.int ly), .val (.int wh), .val (.ref frq), .val (.int s1), .val (.int s2), .val (.ref sts), .val (.int (1 : Int32)), .val (.long tot), .second, .val (.ref ob), .val (.long gt), .second, .val (.int s1), .val (.int s2), .unset, .unset]) rfl kk_) ?_
    show G T28 (mkF m 169 #[.val (.int f0), .val (.int f1), .val (.int f2), .val (.int f3), .val (.int ly), .val (.int wh), .val (.ref frq), .val (.int s1), .val (.int s2), .val (.ref sts), .val (.int (1 : Int32)), .val (.long tot), .second, .val (.ref ob), .val (.long gt), .second, .val (.int s1), .val (.int s2), .unset, .unset] [])
    refine hs.go (fun _ kk_ => XS.aload X28.here hx rfl (hb hby at_169) rfl rfl kk_) ?_
    show G T28 (mkF m 171 #[.val (.int f0), .val (.int f1), .val (.int f2), .val (.int f3), .val (.int ly), .val (.int wh), .val (.ref frq), .val (.int s1), .val (.int s2), .val (.ref sts), .val (.int (1 : Int32)), .val (.long tot), .second, .val (.ref ob), .val (.long gt), .second, .val (.int s1), .val (.int s2), .unset, .unset] [(.ref frq)])
    refine hs.go (fun _ kk_ => XS.iconst X28.here hx rfl (hb hby at_171) kk_) ?_
    show G T28 (mkF m 172 #[.val (.int f0), .val (.int f1), .val (.int f2), .val (.int f3), .val (.int ly), .val (.int wh), .val (.ref frq), .val (.int s1), .val (.int s2), .val (.ref sts), .val (.int (1 : Int32)), .val (.long tot), .second, .val (.ref ob), .val (.long gt), .second, .val (.int s1), .val (.int s2), .unset, .unset] [(.int (0 : Int32)), (.ref frq)])
    refine rLdI hs X28 hx hZ V_frq ⟨by decide, by decide⟩ (v := (.int g0)) rfl rfl rfl (hb hby at_172) ?_
    show G T28 (mkF m 173 #[.val (.int f0), .val (.int f1), .val (.int f2), .val (.int f3), .val (.int ly), .val (.int wh), .val (.ref frq), .val (.int s1), .val (.int s2), .val (.ref sts), .val (.int (1 : Int32)), .val (.long tot), .second, .val (.ref ob), .val (.long gt), .second, .val (.int s1), .val (.int s2), .unset, .unset] [(.int g0)])
    refine hs.go (fun _ kk_ => XS.iconst X28.here hx rfl (hb hby at_173) kk_) ?_
    show G T28 (mkF m 174 #[.val (.int f0), .val (.int f1), .val (.int f2), .val (.int f3), .val (.int ly), .val (.int wh), .val (.ref frq), .val (.int s1), .val (.int s2), .val (.ref sts), .val (.int (1 : Int32)), .val (.long tot), .second, .val (.ref ob), .val (.long gt), .second, .val (.int s1), .val (.int s2), .unset, .unset] [(.int (0 : Int32)), (.int g0)])
    refine hs.go (fun _ kk_ => XS.iload X28.here hx rfl (hb hby at_174) rfl  kk_) ?_
    show G T28 (mkF m 176 #[.val (.int f0), .val (.int f1), .val (.int f2), .val (.int f3), .val (.int ly), .val (.int wh), .val (.ref frq), .val (.int s1), .val (.int s2), .val (.ref sts), .val (.int (1 : Int32)), .val (.long tot), .second, .val (.ref ob), .val (.long gt), .second, .val (.int s1), .val (.int s2), .unset, .unset] [(.int s1), (.int (0 : Int32)), (.int g0)])
    refine hs.go (fun _ kk_ => XS.iload X28.here hx rfl (hb hby at_176) rfl  kk_) ?_
    show G T28 (mkF m 178 #[.val (.int f0), .val (.int f1), .val (.int f2), .val (.int f3), .val (.int ly), .val (.int wh), .val (.ref frq), .val (.int s1), .val (.int s2), .val (.ref sts), .val (.int (1 : Int32)), .val (.long tot), .second, .val (.ref ob), .val (.long gt), .second, .val (.int s1), .val (.int s2), .unset, .unset] [(.int s2), (.int s1), (.int (0 : Int32)), (.int g0)])
    refine rCallS hs X28 hx hZ (as' := [(.int g0), (.int (0 : Int32)), (.int s1), (.int s2)]) (rm6 l Z a0 hw [] g0 (0 : Int32) s1 s2 h27 n0 Z0) hown (hw _ (List.mem_of_getElem? (i := 44) rfl)) (hw _ (List.mem_of_getElem? (i := 45) rfl)) (hw _ (List.mem_of_getElem? (i := 46) rfl)) (hw _ (List.mem_of_getElem? (i := 47) rfl)) hy_6 rfl (by rw [hml]; rfl) [] (lenOf pd_3 rfl) rfl 0 (by show 2 * 0 + _ ≤ _; exact Nat.le_of_eq rfl) (hb hby at_178) (by decide) (by decide) (by decide) (by decide) (fun r29 T29 h29 X29 q29 => ?_)
    obtain ⟨rfl, qh29⟩ := q29
    rw [qh29] at X29
    show G T29 (mkF m 181 #[.val (.int f0), .val (.int f1), .val (.int f2), .val (.int f3), .val (.int ly), .val (.int wh), .val (.ref frq), .val (.int s1), .val (.int s2), .val (.ref sts), .val (.int (1 : Int32)), .val (.long tot), .second, .val (.ref ob), .val (.long gt), .second, .val (.int s1), .val (.int s2), .unset, .unset] [(.long (f4 g0 (0 : Int32) s1 s2))])
    refine hs.go (fun _ kk_ => XS.aload X29.here hx rfl (hb hby at_181) rfl rfl kk_) ?_
    show G T29 (mkF m 183 #[.val (.int f0), .val (.int f1), .val (.int f2), .val (.int f3), .val (.int ly), .val (.int wh), .val (.ref frq), .val (.int s1), .val (.int s2), .val (.ref sts), .val (.int (1 : Int32)), .val (.long tot), .second, .val (.ref ob), .val (.long gt), .second, .val (.int s1), .val (.int s2), .unset, .unset] [(.ref frq), (.long (f4 g0 (0 : Int32) s1 s2))])
    refine hs.go (fun _ kk_ => XS.iconst X29.here hx rfl (hb hby at_183) kk_) ?_
    show G T29 (mkF m 184 #[.val (.int f0), .val (.int f1), .val (.int f2), .val (.int f3), .val (.int ly), .val (.int wh), .val (.ref frq), .val (.int s1), .val (.int s2), .val (.ref sts), .val (.int (1 : Int32)), .val (.long tot), .second, .val (.ref ob), .val (.long gt), .second, .val (.int s1), .val (.int s2), .unset, .unset] [(.int (1 : Int32)), (.ref frq), (.long (f4 g0 (0 : Int32) s1 s2))])
    refine rLdI hs X29 hx hZ V_frq ⟨by decide, by decide⟩ (v := (.int g1)) rfl rfl rfl (hb hby at_184) ?_
    show G T29 (mkF m 185 #[.val (.int f0), .val (.int f1), .val (.int f2), .val (.int f3), .val (.int ly), .val (.int wh), .val (.ref frq), .val (.int s1), .val (.int s2), .val (.ref sts), .val (.int (1 : Int32)), .val (.long tot), .second, .val (.ref ob), .val (.long gt), .second, .val (.int s1), .val (.int s2), .unset, .unset] [(.int g1), (.long (f4 g0 (0 : Int32) s1 s2))])
    refine hs.go (fun _ kk_ => XS.iconst X29.here hx rfl (hb hby at_185) kk_) ?_
    show G T29 (mkF m 186 #[.val (.int f0), .val (.int f1), .val (.int f2), .val (.int f3), .val (.int ly), .val (.int wh), .val (.ref frq), .val (.int s1), .val (.int s2), .val (.ref sts), .val (.int (1 : Int32)), .val (.long tot), .second, .val (.ref ob), .val (.long gt), .second, .val (.int s1), .val (.int s2), .unset, .unset] [(.int (1 : Int32)), (.int g1), (.long (f4 g0 (0 : Int32) s1 s2))])
    refine hs.go (fun _ kk_ => XS.iload X29.here hx rfl (hb hby at_186) rfl  kk_) ?_
    show G T29 (mkF m 188 #[.val (.int f0), .val (.int f1), .val (.int f2), .val (.int f3), .val (.int ly), .val (.int wh), .val (.ref frq), .val (.int s1), .val (.int s2), .val (.ref sts), .val (.int (1 : Int32)), .val (.long tot), .second, .val (.ref ob), .val (.long gt), .second, .val (.int s1), .val (.int s2), .unset, .unset] [(.int s1), (.int (1 : Int32)), (.int g1), (.long (f4 g0 (0 : Int32) s1 s2))])
    refine hs.go (fun _ kk_ => XS.iload X29.here hx rfl (hb hby at_188) rfl  kk_) ?_
    show G T29 (mkF m 190 #[.val (.int f0), .val (.int f1), .val (.int f2), .val (.int f3), .val (.int ly), .val (.int wh), .val (.ref frq), .val (.int s1), .val (.int s2), .val (.ref sts), .val (.int (1 : Int32)), .val (.long tot), .second, .val (.ref ob), .val (.long gt), .second, .val (.int s1), .val (.int s2), .unset, .unset] [(.int s2), (.int s1), (.int (1 : Int32)), (.int g1), (.long (f4 g0 (0 : Int32) s1 s2))])
    refine rCallS hs X29 hx hZ (as' := [(.int g1), (.int (1 : Int32)), (.int s1), (.int s2)]) (rm6 l Z a0 hw [] g1 (1 : Int32) s1 s2 h27 n0 Z0) hown (hw _ (List.mem_of_getElem? (i := 44) rfl)) (hw _ (List.mem_of_getElem? (i := 45) rfl)) (hw _ (List.mem_of_getElem? (i := 46) rfl)) (hw _ (List.mem_of_getElem? (i := 47) rfl)) hy_6 rfl (by rw [hml]; rfl) [(.long (f4 g0 (0 : Int32) s1 s2))] (lenOf pd_3 rfl) rfl 2 (by show 2 * 0 + _ ≤ _; exact Nat.le_of_eq rfl) (hb hby at_190) (by decide) (by decide) (by decide) (by decide) (fun r30 T30 h30 X30 q30 => ?_)
    obtain ⟨rfl, qh30⟩ := q30
    rw [qh30] at X30
    show G T30 (mkF m 193 #[.val (.int f0), .val (.int f1), .val (.int f2), .val (.int f3), .val (.int ly), .val (.int wh), .val (.ref frq), .val (.int s1), .val (.int s2), .val (.ref sts), .val (.int (1 : Int32)), .val (.long tot), .second, .val (.ref ob), .val (.long gt), .second, .val (.int s1), .val (.int s2), .unset, .unset] [(.long (f4 g1 (1 : Int32) s1 s2)), (.long (f4 g0 (0 : Int32) s1 s2))])
    refine hs.go (fun _ kk_ => XS.ladd X30.here hx rfl (hb hby at_193) rfl kk_) ?_
    show G T30 (mkF m 194 #[.val (.int f0), .val (.int f1), .val (.int f2), .val (.int f3), .val (.int ly), .val (.int wh), .val (.ref frq), .val (.int s1), .val (.int s2), .val (.ref sts), .val (.int (1 : Int32)), .val (.long tot), .second, .val (.ref ob), .val (.long gt), .second, .val (.int s1), .val (.int s2), .unset, .unset] [(.long ((f4 g0 (0 : Int32) s1 s2) + (f4 g1 (1 : Int32) s1 s2)))])
    refine hs.go (fun _ kk_ => XS.aload X30.here hx rfl (hb hby at_194) rfl rfl kk_) ?_
    show G T30 (mkF m 196 #[.val (.int f0), .val (.int f1), .val (.int f2), .val (.int f3), .val (.int ly), .val (.int wh), .val (.ref frq), .val (.int s1), .val (.int s2), .val (.ref sts), .val (.int (1 : Int32)), .val (.long tot), .second, .val (.ref ob), .val (.long gt), .second, .val (.int s1), .val (.int s2), .unset, .unset] [(.ref frq), (.long ((f4 g0 (0 : Int32) s1 s2) + (f4 g1 (1 : Int32) s1 s2)))])
    refine hs.go (fun _ kk_ => XS.iconst X30.here hx rfl (hb hby at_196) kk_) ?_
    show G T30 (mkF m 197 #[.val (.int f0), .val (.int f1), .val (.int f2), .val (.int f3), .val (.int ly), .val (.int wh), .val (.ref frq), .val (.int s1), .val (.int s2), .val (.ref sts), .val (.int (1 : Int32)), .val (.long tot), .second, .val (.ref ob), .val (.long gt), .second, .val (.int s1), .val (.int s2), .unset, .unset] [(.int (2 : Int32)), (.ref frq), (.long ((f4 g0 (0 : Int32) s1 s2) + (f4 g1 (1 : Int32) s1 s2)))])
    refine rLdI hs X30 hx hZ V_frq ⟨by decide, by decide⟩ (v := (.int g2)) rfl rfl rfl (hb hby at_197) ?_
    show G T30 (mkF m 198 #[.val (.int f0), .val (.int f1), .val (.int f2), .val (.int f3), .val (.int ly), .val (.int wh), .val (.ref frq), .val (.int s1), .val (.int s2), .val (.ref sts), .val (.int (1 : Int32)), .val (.long tot), .second, .val (.ref ob), .val (.long gt), .second, .val (.int s1), .val (.int s2), .unset, .unset] [(.int g2), (.long ((f4 g0 (0 : Int32) s1 s2) + (f4 g1 (1 : Int32) s1 s2)))])
    refine hs.go (fun _ kk_ => XS.iconst X30.here hx rfl (hb hby at_198) kk_) ?_
    show G T30 (mkF m 199 #[.val (.int f0), .val (.int f1), .val (.int f2), .val (.int f3), .val (.int ly), .val (.int wh), .val (.ref frq), .val (.int s1), .val (.int s2), .val (.ref sts), .val (.int (1 : Int32)), .val (.long tot), .second, .val (.ref ob), .val (.long gt), .second, .val (.int s1), .val (.int s2), .unset, .unset] [(.int (2 : Int32)), (.int g2), (.long ((f4 g0 (0 : Int32) s1 s2) + (f4 g1 (1 : Int32) s1 s2)))])
    refine hs.go (fun _ kk_ => XS.iload X30.here hx rfl (hb hby at_199) rfl  kk_) ?_
    show G T30 (mkF m 201 #[.val (.int f0), .val (.int f1), .val (.int f2), .val (.int f3), .val (.int ly), .val (.int wh), .val (.ref frq), .val (.int s1), .val (.int s2), .val (.ref sts), .val (.int (1 : Int32)), .val (.long tot), .second, .val (.ref ob), .val (.long gt), .second, .val (.int s1), .val (.int s2), .unset, .unset] [(.int s1), (.int (2 : Int32)), (.int g2), (.long ((f4 g0 (0 : Int32) s1 s2) + (f4 g1 (1 : Int32) s1 s2)))])
    refine hs.go (fun _ kk_ => XS.iload X30.here hx rfl (hb hby at_201) rfl  kk_) ?_
    show G T30 (mkF m 203 #[.val (.int f0), .val (.int f1), .val (.int f2), .val (.int f3), .val (.int ly), .val (.int wh), .val (.ref frq), .val (.int s1), .val (.int s2), .val (.ref sts), .val (.int (1 : Int32)), .val (.long tot), .second, .val (.ref ob), .val (.long gt), .second, .val (.int s1), .val (.int s2), .unset, .unset] [(.int s2), (.int s1), (.int (2 : Int32)), (.int g2), (.long ((f4 g0 (0 : Int32) s1 s2) + (f4 g1 (1 : Int32) s1 s2)))])
    refine rCallS hs X30 hx hZ (as' := [(.int g2), (.int (2 : Int32)), (.int s1), (.int s2)]) (rm6 l Z a0 hw [] g2 (2 : Int32) s1 s2 h27 n0 Z0) hown (hw _ (List.mem_of_getElem? (i := 44) rfl)) (hw _ (List.mem_of_getElem? (i := 45) rfl)) (hw _ (List.mem_of_getElem? (i := 46) rfl)) (hw _ (List.mem_of_getElem? (i := 47) rfl)) hy_6 rfl (by rw [hml]; rfl) [(.long ((f4 g0 (0 : Int32) s1 s2) + (f4 g1 (1 : Int32) s1 s2)))] (lenOf pd_3 rfl) rfl 2 (by show 2 * 0 + _ ≤ _; exact Nat.le_of_eq rfl) (hb hby at_203) (by decide) (by decide) (by decide) (by decide) (fun r31 T31 h31 X31 q31 => ?_)
    obtain ⟨rfl, qh31⟩ := q31
    rw [qh31] at X31
    show G T31 (mkF m 206 #[.val (.int f0), .val (.int f1), .val (.int f2), .val (.int f3), .val (.int ly), .val (.int wh), .val (.ref frq), .val (.int s1), .val (.int s2), .val (.ref sts), .val (.int (1 : Int32)), .val (.long tot), .second, .val (.ref ob), .val (.long gt), .second, .val (.int s1), .val (.int s2), .unset, .unset] [(.long (f4 g2 (2 : Int32) s1 s2)), (.long ((f4 g0 (0 : Int32) s1 s2) + (f4 g1 (1 : Int32) s1 s2)))])
    refine hs.go (fun _ kk_ => XS.ladd X31.here hx rfl (hb hby at_206) rfl kk_) ?_
    show G T31 (mkF m 207 #[.val (.int f0), .val (.int f1), .val (.int f2), .val (.int f3), .val (.int ly), .val (.int wh), .val (.ref frq), .val (.int s1), .val (.int s2), .val (.ref sts), .val (.int (1 : Int32)), .val (.long tot), .second, .val (.ref ob), .val (.long gt), .second, .val (.int s1), .val (.int s2), .unset, .unset] [(.long (((f4 g0 (0 : Int32) s1 s2) + (f4 g1 (1 : Int32) s1 s2)) + (f4 g2 (2 : Int32) s1 s2)))])
    refine hs.go (fun _ kk_ => XS.aload X31.here hx rfl (hb hby at_207) rfl rfl kk_) ?_
    show G T31 (mkF m 209 #[.val (.int f0), .val (.int f1), .val (.int f2), .val (.int f3), .val (.int ly), .val (.int wh), .val (.ref frq), .val (.int s1), .val (.int s2), .val (.ref sts), .val (.int (1 : Int32)), .val (.long tot), .second, .val (.ref ob), .val (.long gt), .second, .val (.int s1), .val (.int s2), .unset, .unset] [(.ref frq), (.long (((f4 g0 (0 : Int32) s1 s2) + (f4 g1 (1 : Int32) s1 s2)) + (f4 g2 (2 : Int32) s1 s2)))])
    refine hs.go (fun _ kk_ => XS.iconst X31.here hx rfl (hb hby at_209) kk_) ?_
    show G T31 (mkF m 210 #[.val (.int f0), .val (.int f1), .val (.int f2), .val (.int f3), .val (.int ly), .val (.int wh), .val (.ref frq), .val (.int s1), .val (.int s2), .val (.ref sts), .val (.int (1 : Int32)), .val (.long tot), .second, .val (.ref ob), .val (.long gt), .second, .val (.int s1), .val (.int s2), .unset, .unset] [(.int (3 : Int32)), (.ref frq), (.long (((f4 g0 (0 : Int32) s1 s2) + (f4 g1 (1 : Int32) s1 s2)) + (f4 g2 (2 : Int32) s1 s2)))])
    refine rLdI hs X31 hx hZ V_frq ⟨by decide, by decide⟩ (v := (.int g3)) rfl rfl rfl (hb hby at_210) ?_
    show G T31 (mkF m 211 #[.val (.int f0), .val (.int f1), .val (.int f2), .val (.int f3), .val (.int ly), .val (.int wh), .val (.ref frq), .val (.int s1), .val (.int s2), .val (.ref sts), .val (.int (1 : Int32)), .val (.long tot), .second, .val (.ref ob), .val (.long gt), .second, .val (.int s1), .val (.int s2), .unset, .unset] [(.int g3), (.long (((f4 g0 (0 : Int32) s1 s2) + (f4 g1 (1 : Int32) s1 s2)) + (f4 g2 (2 : Int32) s1 s2)))])
    refine hs.go (fun _ kk_ => XS.iconst X31.here hx rfl (hb hby at_211) kk_) ?_
    show G T31 (mkF m 212 #[.val (.int f0), .val (.int f1), .val (.int f2), .val (.int f3), .val (.int ly), .val (.int wh), .val (.ref frq), .val (.int s1), .val (.int s2), .val (.ref sts), .val (.int (1 : Int32)), .val (.long tot), .second, .val (.ref ob), .val (.long gt), .second, .val (.int s1), .val (.int s2), .unset, .unset] [(.int (3 : Int32)), (.int g3), (.long (((f4 g0 (0 : Int32) s1 s2) + (f4 g1 (1 : Int32) s1 s2)) + (f4 g2 (2 : Int32) s1 s2)))])
    refine hs.go (fun _ kk_ => XS.iload X31.here hx rfl (hb hby at_212) rfl  kk_) ?_
    show G T31 (mkF m 214 #[.val (.int f0), .val (.int f1), .val (.int f2), .val (.int f3), .val (.int ly), .val (.int wh), .val (.ref frq), .val (.int s1), .val (.int s2), .val (.ref sts), .val (.int (1 : Int32)), .val (.long tot), .second, .val (.ref ob), .val (.long gt), .second, .val (.int s1), .val (.int s2), .unset, .unset] [(.int s1), (.int (3 : Int32)), (.int g3), (.long (((f4 g0 (0 : Int32) s1 s2) + (f4 g1 (1 : Int32) s1 s2)) + (f4 g2 (2 : Int32) s1 s2)))])
    refine hs.go (fun _ kk_ => XS.iload X31.here hx rfl (hb hby at_214) rfl  kk_) ?_
    show G T31 (mkF m 216 #[.val (.int f0), .val (.int f1), .val (.int f2), .val (.int f3), .val (.int ly), .val (.int wh), .val (.ref frq), .val (.int s1), .val (.int s2), .val (.ref sts), .val (.int (1 : Int32)), .val (.long tot), .second, .val (.ref ob), .val (.long gt), .second, .val (.int s1), .val (.int s2), .unset, .unset] [(.int s2), (.int s1), (.int (3 : Int32)), (.int g3), (.long (((f4 g0 (0 : Int32) s1 s2) + (f4 g1 (1 : Int32) s1 s2)) + (f4 g2 (2 : Int32) s1 s2)))])
    refine rCallS hs X31 hx hZ (as' := [(.int g3), (.int (3 : Int32)), (.int s1), (.int s2)]) (rm6 l Z a0 hw [] g3 (3 : Int32) s1 s2 h27 n0 Z0) hown (hw _ (List.mem_of_getElem? (i := 44) rfl)) (hw _ (List.mem_of_getElem? (i := 45) rfl)) (hw _ (List.mem_of_getElem? (i := 46) rfl)) (hw _ (List.mem_of_getElem? (i := 47) rfl)) hy_6 rfl (by rw [hml]; rfl) [(.long (((f4 g0 (0 : Int32) s1 s2) + (f4 g1 (1 : Int32) s1 s2)) + (f4 g2 (2 : Int32) s1 s2)))] (lenOf pd_3 rfl) rfl 2 (by show 2 * 0 + _ ≤ _; exact Nat.le_of_eq rfl) (hb hby at_216) (by decide) (by decide) (by decide) (by decide) (fun r32 T32 h32 X32 q32 => ?_)
    obtain ⟨rfl, qh32⟩ := q32
    rw [qh32] at X32
    show G T32 (mkF m 219 #[.val (.int f0), .val (.int f1), .val (.int f2), .val (.int f3), .val (.int ly), .val (.int wh), .val (.ref frq), .val (.int s1), .val (.int s2), .val (.ref sts), .val (.int (1 : Int32)), .val (.long tot), .second, .val (.ref ob), .val (.long gt), .second, .val (.int s1), .val (.int s2), .unset, .unset] [(.long (f4 g3 (3 : Int32) s1 s2)), (.long (((f4 g0 (0 : Int32) s1 s2) + (f4 g1 (1 : Int32) s1 s2)) + (f4 g2 (2 : Int32) s1 s2)))])
    refine hs.go (fun _ kk_ => XS.ladd X32.here hx rfl (hb hby at_219) rfl kk_) ?_
    show G T32 (mkF m 220 #[.val (.int f0), .val (.int f1), .val (.int f2), .val (.int f3), .val (.int ly), .val (.int wh), .val (.ref frq), .val (.int s1), .val (.int s2), .val (.ref sts), .val (.int (1 : Int32)), .val (.long tot), .second, .val (.ref ob), .val (.long gt), .second, .val (.int s1), .val (.int s2), .unset, .unset] [(.long ((((f4 g0 (0 : Int32) s1 s2) + (f4 g1 (1 : Int32) s1 s2)) + (f4 g2 (2 : Int32) s1 s2)) + (f4 g3 (3 : Int32) s1 s2)))])
    refine nameIt (P := fun zz_ : Int64 => G T32 (mkF m 220 #[.val (.int f0), .val (.int f1), .val (.int f2), .val (.int f3), .val (.int ly), .val (.int wh), .val (.ref frq), .val (.int s1), .val (.int s2), .val (.ref sts), .val (.int (1 : Int32)), .val (.long tot), .second, .val (.ref ob), .val (.long gt), .second, .val (.int s1), .val (.int s2), .unset, .unset] [(.long zz_)])) ((((f4 g0 (0 : Int32) s1 s2) + (f4 g1 (1 : Int32) s1 s2)) + (f4 g2 (2 : Int32) s1 s2)) + (f4 g3 (3 : Int32) s1 s2)) (fun ex hex => ?_)
    show G T32 (mkF m 220 #[.val (.int f0), .val (.int f1), .val (.int f2), .val (.int f3), .val (.int ly), .val (.int wh), .val (.ref frq), .val (.int s1), .val (.int s2), .val (.ref sts), .val (.int (1 : Int32)), .val (.long tot), .second, .val (.ref ob), .val (.long gt), .second, .val (.int s1), .val (.int s2), .unset, .unset] [(.long ex)])
    refine hs.go (fun _ kk_ => XS.lstore X32.here hx rfl (hb hby at_220) rfl (l' := #[.val (.int f0), .val (.int f1), .val (.int f2), .val (.int f3), .val (.int ly), .val (.int wh), .val (.ref frq), .val (.int s1), .val (.int s2), .val (.ref sts), .val (.int (1 : Int32)), .val (.long tot), .second, .val (.ref ob), .val (.long gt), .second, .val (.int s1), .val (.int s2), .val (.long ex), .second]) rfl kk_) ?_
    show G T32 (mkF m 222 #[.val (.int f0), .val (.int f1), .val (.int f2), .val (.int f3), .val (.int ly), .val (.int wh), .val (.ref frq), .val (.int s1), .val (.int s2), .val (.ref sts), .val (.int (1 : Int32)), .val (.long tot), .second, .val (.ref ob), .val (.long gt), .second, .val (.int s1), .val (.int s2), .val (.long ex), .second] [])
    refine hs.go (fun _ kk_ => XS.lload X32.here hx rfl (hb hby at_222) rfl  kk_) ?_
    show G T32 (mkF m 224 #[.val (.int f0), .val (.int f1), .val (.int f2), .val (.int f3), .val (.int ly), .val (.int wh), .val (.ref frq), .val (.int s1), .val (.int s2), .val (.ref sts), .val (.int (1 : Int32)), .val (.long tot), .second, .val (.ref ob), .val (.long gt), .second, .val (.int s1), .val (.int s2), .val (.long ex), .second] [(.long gt)])
    refine hs.go (fun _ kk_ => XS.lload X32.here hx rfl (hb hby at_224) rfl  kk_) ?_
    show G T32 (mkF m 226 #[.val (.int f0), .val (.int f1), .val (.int f2), .val (.int f3), .val (.int ly), .val (.int wh), .val (.ref frq), .val (.int s1), .val (.int s2), .val (.ref sts), .val (.int (1 : Int32)), .val (.long tot), .second, .val (.ref ob), .val (.long gt), .second, .val (.int s1), .val (.int s2), .val (.long ex), .second] [(.long ex), (.long gt)])
    refine hs.go (fun _ kk_ => XS.lcmp X32.here hx rfl (hb hby at_226) rfl kk_) ?_
    show G T32 (mkF m 227 #[.val (.int f0), .val (.int f1), .val (.int f2), .val (.int f3), .val (.int ly), .val (.int wh), .val (.ref frq), .val (.int s1), .val (.int s2), .val (.ref sts), .val (.int (1 : Int32)), .val (.long tot), .second, .val (.ref ob), .val (.long gt), .second, .val (.int s1), .val (.int s2), .val (.long ex), .second] [(.int (lcmpW gt ex))])
    refine hs.go (fun _ kk_ => XS.ifNo X32.here hx rfl (hb hby at_227) rfl ((if0 _ _).trans (eqL (hgt.trans ((own_law g0 g1 g2 g3 s1 s2 HL).trans hex.symm) : gt = ex)).2) kk_) ?_
    show G T32 (mkF m 230 #[.val (.int f0), .val (.int f1), .val (.int f2), .val (.int f3), .val (.int ly), .val (.int wh), .val (.ref frq), .val (.int s1), .val (.int s2), .val (.ref sts), .val (.int (1 : Int32)), .val (.long tot), .second, .val (.ref ob), .val (.long gt), .second, .val (.int s1), .val (.int s2), .val (.long ex), .second] [])
    refine hs.go (fun _ kk_ => XS.iconst X32.here hx rfl (hb hby at_230) kk_) ?_
    show G T32 (mkF m 231 #[.val (.int f0), .val (.int f1), .val (.int f2), .val (.int f3), .val (.int ly), .val (.int wh), .val (.ref frq), .val (.int s1), .val (.int s2), .val (.ref sts), .val (.int (1 : Int32)), .val (.long tot), .second, .val (.ref ob), .val (.long gt), .second, .val (.int s1), .val (.int s2), .val (.long ex), .second] [(.int (1 : Int32))])
    refine hs.go (fun _ kk_ => XS.goto X32.here hx rfl (pc0 := 231) (pc' := 235) rfl (hb hby at_231) (by decide) (by decide) kk_) ?_
    show G T32 (mkF m 235 #[.val (.int f0), .val (.int f1), .val (.int f2), .val (.int f3), .val (.int ly), .val (.int wh), .val (.ref frq), .val (.int s1), .val (.int s2), .val (.ref sts), .val (.int (1 : Int32)), .val (.long tot), .second, .val (.ref ob), .val (.long gt), .second, .val (.int s1), .val (.int s2), .val (.long ex), .second] [(.int (1 : Int32))])
    exact rRetN fin X32 hx (by decide) (by decide) hret (by simp) (hb hby at_235) (z' := (1 : Int32)) (by decide) rfl
  · have HL : 0 ≤ (s2).toInt ∧ (s2).toInt ≤ ((4 : Int32)).toInt ∧ ((4 : Int32)).toInt ≤ 4 := by
      have q1 := own_m5 hs1
      have q2 := own_s2 q1 hs2
      have k0 : (0 : Int32).toInt = 0 := rfl
      have k4 : (4 : Int32).toInt = 4 := rfl
      omega
    show G T10 (mkF m 89 #[.val (.int f0), .val (.int f1), .val (.int f2), .val (.int f3), .val (.int ly), .val (.int wh), .val (.ref frq), .val (.int s1), .val (.int s2), .val (.ref sts), .val (.int (2 : Int32)), .unset, .unset, .unset, .unset, .unset, .unset, .unset, .unset, .unset] [])
    refine hs.go (fun _ kk_ => XS.aload X10.here hx rfl (hb hby at_89) rfl rfl kk_) ?_
    show G T10 (mkF m 91 #[.val (.int f0), .val (.int f1), .val (.int f2), .val (.int f3), .val (.int ly), .val (.int wh), .val (.ref frq), .val (.int s1), .val (.int s2), .val (.ref sts), .val (.int (2 : Int32)), .unset, .unset, .unset, .unset, .unset, .unset, .unset, .unset, .unset] [(.ref frq)])
    refine hs.go (fun _ kk_ => XS.iconst X10.here hx rfl (hb hby at_91) kk_) ?_
    show G T10 (mkF m 92 #[.val (.int f0), .val (.int f1), .val (.int f2), .val (.int f3), .val (.int ly), .val (.int wh), .val (.ref frq), .val (.int s1), .val (.int s2), .val (.ref sts), .val (.int (2 : Int32)), .unset, .unset, .unset, .unset, .unset, .unset, .unset, .unset, .unset] [(.int (0 : Int32)), (.ref frq)])
    refine rLdI hs X10 hx hZ V_frq ⟨by decide, by decide⟩ (v := (.int g0)) rfl rfl rfl (hb hby at_92) ?_
    show G T10 (mkF m 93 #[.val (.int f0), .val (.int f1), .val (.int f2), .val (.int f3), .val (.int ly), .val (.int wh), .val (.ref frq), .val (.int s1), .val (.int s2), .val (.ref sts), .val (.int (2 : Int32)), .unset, .unset, .unset, .unset, .unset, .unset, .unset, .unset, .unset] [(.int g0)])
    refine hs.go (fun _ kk_ => XS.i2l X10.here hx rfl (hb hby at_93) rfl kk_) ?_
    show G T10 (mkF m 94 #[.val (.int f0), .val (.int f1), .val (.int f2), .val (.int f3), .val (.int ly), .val (.int wh), .val (.ref frq), .val (.int s1), .val (.int s2), .val (.ref sts), .val (.int (2 : Int32)), .unset, .unset, .unset, .unset, .unset, .unset, .unset, .unset, .unset] [(.long (g0.toInt64))])
    refine hs.go (fun _ kk_ => XS.aload X10.here hx rfl (hb hby at_94) rfl rfl kk_) ?_
    show G T10 (mkF m 96 #[.val (.int f0), .val (.int f1), .val (.int f2), .val (.int f3), .val (.int ly), .val (.int wh), .val (.ref frq), .val (.int s1), .val (.int s2), .val (.ref sts), .val (.int (2 : Int32)), .unset, .unset, .unset, .unset, .unset, .unset, .unset, .unset, .unset] [(.ref frq), (.long (g0.toInt64))])
    refine hs.go (fun _ kk_ => XS.iconst X10.here hx rfl (hb hby at_96) kk_) ?_
    show G T10 (mkF m 97 #[.val (.int f0), .val (.int f1), .val (.int f2), .val (.int f3), .val (.int ly), .val (.int wh), .val (.ref frq), .val (.int s1), .val (.int s2), .val (.ref sts), .val (.int (2 : Int32)), .unset, .unset, .unset, .unset, .unset, .unset, .unset, .unset, .unset] [(.int (1 : Int32)), (.ref frq), (.long (g0.toInt64))])
    refine rLdI hs X10 hx hZ V_frq ⟨by decide, by decide⟩ (v := (.int g1)) rfl rfl rfl (hb hby at_97) ?_
    show G T10 (mkF m 98 #[.val (.int f0), .val (.int f1), .val (.int f2), .val (.int f3), .val (.int ly), .val (.int wh), .val (.ref frq), .val (.int s1), .val (.int s2), .val (.ref sts), .val (.int (2 : Int32)), .unset, .unset, .unset, .unset, .unset, .unset, .unset, .unset, .unset] [(.int g1), (.long (g0.toInt64))])
    refine hs.go (fun _ kk_ => XS.i2l X10.here hx rfl (hb hby at_98) rfl kk_) ?_
    show G T10 (mkF m 99 #[.val (.int f0), .val (.int f1), .val (.int f2), .val (.int f3), .val (.int ly), .val (.int wh), .val (.ref frq), .val (.int s1), .val (.int s2), .val (.ref sts), .val (.int (2 : Int32)), .unset, .unset, .unset, .unset, .unset, .unset, .unset, .unset, .unset] [(.long (g1.toInt64)), (.long (g0.toInt64))])
    refine hs.go (fun _ kk_ => XS.ladd X10.here hx rfl (hb hby at_99) rfl kk_) ?_
    show G T10 (mkF m 100 #[.val (.int f0), .val (.int f1), .val (.int f2), .val (.int f3), .val (.int ly), .val (.int wh), .val (.ref frq), .val (.int s1), .val (.int s2), .val (.ref sts), .val (.int (2 : Int32)), .unset, .unset, .unset, .unset, .unset, .unset, .unset, .unset, .unset] [(.long ((g0.toInt64) + (g1.toInt64)))])
    refine hs.go (fun _ kk_ => XS.aload X10.here hx rfl (hb hby at_100) rfl rfl kk_) ?_
    show G T10 (mkF m 102 #[.val (.int f0), .val (.int f1), .val (.int f2), .val (.int f3), .val (.int ly), .val (.int wh), .val (.ref frq), .val (.int s1), .val (.int s2), .val (.ref sts), .val (.int (2 : Int32)), .unset, .unset, .unset, .unset, .unset, .unset, .unset, .unset, .unset] [(.ref frq), (.long ((g0.toInt64) + (g1.toInt64)))])
    refine hs.go (fun _ kk_ => XS.iconst X10.here hx rfl (hb hby at_102) kk_) ?_
    show G T10 (mkF m 103 #[.val (.int f0), .val (.int f1), .val (.int f2), .val (.int f3), .val (.int ly), .val (.int wh), .val (.ref frq), .val (.int s1), .val (.int s2), .val (.ref sts), .val (.int (2 : Int32)), .unset, .unset, .unset, .unset, .unset, .unset, .unset, .unset, .unset] [(.int (2 : Int32)), (.ref frq), (.long ((g0.toInt64) + (g1.toInt64)))])
    refine rLdI hs X10 hx hZ V_frq ⟨by decide, by decide⟩ (v := (.int g2)) rfl rfl rfl (hb hby at_103) ?_
    show G T10 (mkF m 104 #[.val (.int f0), .val (.int f1), .val (.int f2), .val (.int f3), .val (.int ly), .val (.int wh), .val (.ref frq), .val (.int s1), .val (.int s2), .val (.ref sts), .val (.int (2 : Int32)), .unset, .unset, .unset, .unset, .unset, .unset, .unset, .unset, .unset] [(.int g2), (.long ((g0.toInt64) + (g1.toInt64)))])
    refine hs.go (fun _ kk_ => XS.i2l X10.here hx rfl (hb hby at_104) rfl kk_) ?_
    show G T10 (mkF m 105 #[.val (.int f0), .val (.int f1), .val (.int f2), .val (.int f3), .val (.int ly), .val (.int wh), .val (.ref frq), .val (.int s1), .val (.int s2), .val (.ref sts), .val (.int (2 : Int32)), .unset, .unset, .unset, .unset, .unset, .unset, .unset, .unset, .unset] [(.long (g2.toInt64)), (.long ((g0.toInt64) + (g1.toInt64)))])
    refine hs.go (fun _ kk_ => XS.ladd X10.here hx rfl (hb hby at_105) rfl kk_) ?_
    show G T10 (mkF m 106 #[.val (.int f0), .val (.int f1), .val (.int f2), .val (.int f3), .val (.int ly), .val (.int wh), .val (.ref frq), .val (.int s1), .val (.int s2), .val (.ref sts), .val (.int (2 : Int32)), .unset, .unset, .unset, .unset, .unset, .unset, .unset, .unset, .unset] [(.long (((g0.toInt64) + (g1.toInt64)) + (g2.toInt64)))])
    refine hs.go (fun _ kk_ => XS.aload X10.here hx rfl (hb hby at_106) rfl rfl kk_) ?_
    show G T10 (mkF m 108 #[.val (.int f0), .val (.int f1), .val (.int f2), .val (.int f3), .val (.int ly), .val (.int wh), .val (.ref frq), .val (.int s1), .val (.int s2), .val (.ref sts), .val (.int (2 : Int32)), .unset, .unset, .unset, .unset, .unset, .unset, .unset, .unset, .unset] [(.ref frq), (.long (((g0.toInt64) + (g1.toInt64)) + (g2.toInt64)))])
    refine hs.go (fun _ kk_ => XS.iconst X10.here hx rfl (hb hby at_108) kk_) ?_
    show G T10 (mkF m 109 #[.val (.int f0), .val (.int f1), .val (.int f2), .val (.int f3), .val (.int ly), .val (.int wh), .val (.ref frq), .val (.int s1), .val (.int s2), .val (.ref sts), .val (.int (2 : Int32)), .unset, .unset, .unset, .unset, .unset, .unset, .unset, .unset, .unset] [(.int (3 : Int32)), (.ref frq), (.long (((g0.toInt64) + (g1.toInt64)) + (g2.toInt64)))])
    refine rLdI hs X10 hx hZ V_frq ⟨by decide, by decide⟩ (v := (.int g3)) rfl rfl rfl (hb hby at_109) ?_
    show G T10 (mkF m 110 #[.val (.int f0), .val (.int f1), .val (.int f2), .val (.int f3), .val (.int ly), .val (.int wh), .val (.ref frq), .val (.int s1), .val (.int s2), .val (.ref sts), .val (.int (2 : Int32)), .unset, .unset, .unset, .unset, .unset, .unset, .unset, .unset, .unset] [(.int g3), (.long (((g0.toInt64) + (g1.toInt64)) + (g2.toInt64)))])
    refine hs.go (fun _ kk_ => XS.i2l X10.here hx rfl (hb hby at_110) rfl kk_) ?_
    show G T10 (mkF m 111 #[.val (.int f0), .val (.int f1), .val (.int f2), .val (.int f3), .val (.int ly), .val (.int wh), .val (.ref frq), .val (.int s1), .val (.int s2), .val (.ref sts), .val (.int (2 : Int32)), .unset, .unset, .unset, .unset, .unset, .unset, .unset, .unset, .unset] [(.long (g3.toInt64)), (.long (((g0.toInt64) + (g1.toInt64)) + (g2.toInt64)))])
    refine hs.go (fun _ kk_ => XS.ladd X10.here hx rfl (hb hby at_111) rfl kk_) ?_
    show G T10 (mkF m 112 #[.val (.int f0), .val (.int f1), .val (.int f2), .val (.int f3), .val (.int ly), .val (.int wh), .val (.ref frq), .val (.int s1), .val (.int s2), .val (.ref sts), .val (.int (2 : Int32)), .unset, .unset, .unset, .unset, .unset, .unset, .unset, .unset, .unset] [(.long ((((g0.toInt64) + (g1.toInt64)) + (g2.toInt64)) + (g3.toInt64)))])
    refine nameIt (P := fun zz_ : Int64 => G T10 (mkF m 112 #[.val (.int f0), .val (.int f1), .val (.int f2), .val (.int f3), .val (.int ly), .val (.int wh), .val (.ref frq), .val (.int s1), .val (.int s2), .val (.ref sts), .val (.int (2 : Int32)), .unset, .unset, .unset, .unset, .unset, .unset, .unset, .unset, .unset] [(.long zz_)])) ((((g0.toInt64) + (g1.toInt64)) + (g2.toInt64)) + (g3.toInt64)) (fun tot htot => ?_)
    show G T10 (mkF m 112 #[.val (.int f0), .val (.int f1), .val (.int f2), .val (.int f3), .val (.int ly), .val (.int wh), .val (.ref frq), .val (.int s1), .val (.int s2), .val (.ref sts), .val (.int (2 : Int32)), .unset, .unset, .unset, .unset, .unset, .unset, .unset, .unset, .unset] [(.long tot)])
    refine hs.go (fun _ kk_ => XS.lstore X10.here hx rfl (hb hby at_112) rfl (l' := #[.val (.int f0), .val (.int f1), .val (.int f2), .val (.int f3), .val (.int ly), .val (.int wh), .val (.ref frq), .val (.int s1), .val (.int s2), .val (.ref sts), .val (.int (2 : Int32)), .val (.long tot), .second, .unset, .unset, .unset, .unset, .unset, .unset, .unset]) rfl kk_) ?_
    show G T10 (mkF m 114 #[.val (.int f0), .val (.int f1), .val (.int f2), .val (.int f3), .val (.int ly), .val (.int wh), .val (.ref frq), .val (.int s1), .val (.int s2), .val (.ref sts), .val (.int (2 : Int32)), .val (.long tot), .second, .unset, .unset, .unset, .unset, .unset, .unset, .unset] [])
    refine rNewO hs X10 hx hZ hown (hw _ (List.mem_of_getElem? (i := 2) rfl)) (hw _ (List.mem_of_getElem? (i := 3) rfl)) (hw _ (List.mem_of_getElem? (i := 4) rfl)) rfl (hb hby at_114) (by decide) (by decide) (fun T33 h33 ob g33 X33 E33 E_ob D33 => ?_)
    have g_ob : n0 ≤ ob := by rw [g33]; exact Z0
    have Z0 := Nat.le_trans Z0 E33.1
    have ne_frq_ob : frq ≠ ob := Nat.ne_of_lt (Nat.lt_of_lt_of_le V_frq.lt (Nat.le_of_eq g33.symm))
    have ne_sts_ob : sts ≠ ob := Nat.ne_of_lt (Nat.lt_of_lt_of_le V_sts.lt (Nat.le_of_eq g33.symm))
    have V_frq := V_frq.ext E33
    have V_sts := V_sts.ext E33
    have F_analysis_ob : Fld Z h33 ob "com/example/vector_space_ranker/vectorspaceranker/Index" "analysis" "Lcom/example/vector_space_ranker/vectorspaceranker/Analysis;" .null := D33 (Or.inr (hw _ (List.mem_of_getElem? (i := 14) rfl))) (ty := (.object "com/example/vector_space_ranker/vectorspaceranker/Analysis")) (by decide)
    have F_docnos_ob : Fld Z h33 ob "com/example/vector_space_ranker/vectorspaceranker/Index" "docnos" "[Ljava/lang/String;" .null := D33 (Or.inr (hw _ (List.mem_of_getElem? (i := 16) rfl))) (ty := (.array (.object "java/lang/String"))) (by decide)
    have F_characterLengths_ob : Fld Z h33 ob "com/example/vector_space_ranker/vectorspaceranker/Index" "characterLengths" "[I" .null := D33 (Or.inr (hw _ (List.mem_of_getElem? (i := 18) rfl))) (ty := (.array .int)) (by decide)
    have F_terms_ob : Fld Z h33 ob "com/example/vector_space_ranker/vectorspaceranker/Index" "terms" "[Ljava/lang/String;" .null := D33 (Or.inr (hw _ (List.mem_of_getElem? (i := 20) rfl))) (ty := (.array (.object "java/lang/String"))) (by decide)
    have F_postingStarts_ob : Fld Z h33 ob "com/example/vector_space_ranker/vectorspaceranker/Index" "postingStarts" "[I" .null := D33 (Or.inr (hw _ (List.mem_of_getElem? (i := 22) rfl))) (ty := (.array .int)) (by decide)
    have F_postingDocuments_ob : Fld Z h33 ob "com/example/vector_space_ranker/vectorspaceranker/Index" "postingDocuments" "[I" .null := D33 (Or.inr (hw _ (List.mem_of_getElem? (i := 24) rfl))) (ty := (.array .int)) (by decide)
    have F_postingFrequencies_ob : Fld Z h33 ob "com/example/vector_space_ranker/vectorspaceranker/Index" "postingFrequencies" "[I" .null := D33 (Or.inr (hw _ (List.mem_of_getElem? (i := 26) rfl))) (ty := (.array .int)) (by decide)
    have F_tokenCount_ob : Fld Z h33 ob "com/example/vector_space_ranker/vectorspaceranker/Index" "tokenCount" "J" (.long (0 : Int64)) := D33 (Or.inr (hw _ (List.mem_of_getElem? (i := 28) rfl))) (ty := .long) (by decide)
    show G T33 (mkF m 117 #[.val (.int f0), .val (.int f1), .val (.int f2), .val (.int f3), .val (.int ly), .val (.int wh), .val (.ref frq), .val (.int s1), .val (.int s2), .val (.ref sts), .val (.int (2 : Int32)), .val (.long tot), .second, .unset, .unset, .unset, .unset, .unset, .unset, .unset] [(.ref ob)])
    refine hs.go (fun _ kk_ => XS.dup X33.here hx rfl (hb hby at_117) rfl rfl kk_) ?_
    show G T33 (mkF m 118 #[.val (.int f0), .val (.int f1), .val (.int f2), .val (.int f3), .val (.int ly), .val (.int wh), .val (.ref frq), .val (.int s1), .val (.int s2), .val (.ref sts), .val (.int (2 : Int32)), .val (.long tot), .second, .unset, .unset, .unset, .unset, .unset, .unset, .unset] [(.ref ob), (.ref ob)])
    refine hs.go (fun _ kk_ => XS.aconstNull X33.here hx rfl (hb hby at_118) kk_) ?_
    show G T33 (mkF m 119 #[.val (.int f0), .val (.int f1), .val (.int f2), .val (.int f3), .val (.int ly), .val (.int wh), .val (.ref frq), .val (.int s1), .val (.int s2), .val (.ref sts), .val (.int (2 : Int32)), .val (.long tot), .second, .unset, .unset, .unset, .unset, .unset, .unset, .unset] [.null, (.ref ob), (.ref ob)])
    refine hs.go (fun _ kk_ => XS.iconst X33.here hx rfl (hb hby at_119) kk_) ?_
    show G T33 (mkF m 120 #[.val (.int f0), .val (.int f1), .val (.int f2), .val (.int f3), .val (.int ly), .val (.int wh), .val (.ref frq), .val (.int s1), .val (.int s2), .val (.ref sts), .val (.int (2 : Int32)), .val (.long tot), .second, .unset, .unset, .unset, .unset, .unset, .unset, .unset] [(.int (0 : Int32)), .null, (.ref ob), (.ref ob)])
    refine rNewR hs X33 hx hZ hown (hw _ (List.mem_of_getElem? (i := 5) rfl)) (hw _ (List.mem_of_getElem? (i := 6) rfl)) rfl (hb hby at_120) rfl (by decide) 0 0 (by decide) (by decide) (by decide) (by decide) (fun T34 h34 k34 dn g34 X34 E34 V_dn O_dn => ?_)
    have V_dn : Arv Z h34 dn k34 (.object "java/lang/String") (0 : Int32) [] .null := V_dn
    have g_dn : n0 ≤ dn := by rw [g34]; exact Z0
    have Z0 := Nat.le_trans Z0 E34.1
    have ne_frq_dn : frq ≠ dn := Nat.ne_of_lt (Nat.lt_of_lt_of_le V_frq.lt (Nat.le_of_eq g34.symm))
    have ne_sts_dn : sts ≠ dn := Nat.ne_of_lt (Nat.lt_of_lt_of_le V_sts.lt (Nat.le_of_eq g34.symm))
    have ne_ob_dn : ob ≠ dn := Nat.ne_of_lt (Nat.lt_of_lt_of_le E_ob.lt (Nat.le_of_eq g34.symm))
    have V_frq := V_frq.ext E34
    have V_sts := V_sts.ext E34
    have E_ob := E_ob.ext E34
    have F_analysis_ob := F_analysis_ob.ext E34
    have F_docnos_ob := F_docnos_ob.ext E34
    have F_characterLengths_ob := F_characterLengths_ob.ext E34
    have F_terms_ob := F_terms_ob.ext E34
    have F_postingStarts_ob := F_postingStarts_ob.ext E34
    have F_postingDocuments_ob := F_postingDocuments_ob.ext E34
    have F_postingFrequencies_ob := F_postingFrequencies_ob.ext E34
    have F_tokenCount_ob := F_tokenCount_ob.ext E34
    show G T34 (mkF m 123 #[.val (.int f0), .val (.int f1), .val (.int f2), .val (.int f3), .val (.int ly), .val (.int wh), .val (.ref frq), .val (.int s1), .val (.int s2), .val (.ref sts), .val (.int (2 : Int32)), .val (.long tot), .second, .unset, .unset, .unset, .unset, .unset, .unset, .unset] [(.ref dn), .null, (.ref ob), (.ref ob)])
    refine hs.go (fun _ kk_ => XS.iconst X34.here hx rfl (hb hby at_123) kk_) ?_
    show G T34 (mkF m 124 #[.val (.int f0), .val (.int f1), .val (.int f2), .val (.int f3), .val (.int ly), .val (.int wh), .val (.ref frq), .val (.int s1), .val (.int s2), .val (.ref sts), .val (.int (2 : Int32)), .val (.long tot), .second, .unset, .unset, .unset, .unset, .unset, .unset, .unset] [(.int (0 : Int32)), (.ref dn), .null, (.ref ob), (.ref ob)])
    refine rNewP hs X34 hx hZ (hw _ (List.mem_of_getElem? (i := 0) rfl)) rfl (hb hby at_124) rfl (by decide) 0 0 (by decide) (by decide) (by decide) (by decide) (fun T35 h35 k35 cl g35 X35 E35 V_cl => ?_)
    have V_cl : Arv Z h35 cl k35 .int (0 : Int32) [] (.int (0 : Int32)) := V_cl
    have g_cl : n0 ≤ cl := by rw [g35]; exact Z0
    have Z0 := Nat.le_trans Z0 E35.1
    have ne_frq_cl : frq ≠ cl := Nat.ne_of_lt (Nat.lt_of_lt_of_le V_frq.lt (Nat.le_of_eq g35.symm))
    have ne_sts_cl : sts ≠ cl := Nat.ne_of_lt (Nat.lt_of_lt_of_le V_sts.lt (Nat.le_of_eq g35.symm))
    have ne_ob_cl : ob ≠ cl := Nat.ne_of_lt (Nat.lt_of_lt_of_le E_ob.lt (Nat.le_of_eq g35.symm))
    have ne_dn_cl : dn ≠ cl := Nat.ne_of_lt (Nat.lt_of_lt_of_le V_dn.lt (Nat.le_of_eq g35.symm))
    have V_frq := V_frq.ext E35
    have V_sts := V_sts.ext E35
    have E_ob := E_ob.ext E35
    have F_analysis_ob := F_analysis_ob.ext E35
    have F_docnos_ob := F_docnos_ob.ext E35
    have F_characterLengths_ob := F_characterLengths_ob.ext E35
    have F_terms_ob := F_terms_ob.ext E35
    have F_postingStarts_ob := F_postingStarts_ob.ext E35
    have F_postingDocuments_ob := F_postingDocuments_ob.ext E35
    have F_postingFrequencies_ob := F_postingFrequencies_ob.ext E35
    have F_tokenCount_ob := F_tokenCount_ob.ext E35
    have V_dn := V_dn.ext E35
    show G T35 (mkF m 126 #[.val (.int f0), .val (.int f1), .val (.int f2), .val (.int f3), .val (.int ly), .val (.int wh), .val (.ref frq), .val (.int s1), .val (.int s2), .val (.ref sts), .val (.int (2 : Int32)), .val (.long tot), .second, .unset, .unset, .unset, .unset, .unset, .unset, .unset] [(.ref cl), (.ref dn), .null, (.ref ob), (.ref ob)])
    refine hs.go (fun _ kk_ => XS.iconst X35.here hx rfl (hb hby at_126) kk_) ?_
    show G T35 (mkF m 127 #[.val (.int f0), .val (.int f1), .val (.int f2), .val (.int f3), .val (.int ly), .val (.int wh), .val (.ref frq), .val (.int s1), .val (.int s2), .val (.ref sts), .val (.int (2 : Int32)), .val (.long tot), .second, .unset, .unset, .unset, .unset, .unset, .unset, .unset] [(.int (3 : Int32)), (.ref cl), (.ref dn), .null, (.ref ob), (.ref ob)])
    refine rNewR hs X35 hx hZ hown (hw _ (List.mem_of_getElem? (i := 5) rfl)) (hw _ (List.mem_of_getElem? (i := 6) rfl)) rfl (hb hby at_127) rfl (by decide) 3 3 (by decide) (by decide) (by decide) (by decide) (fun T36 h36 k36 te g36 X36 E36 V_te O_te => ?_)
    have V_te : Arv Z h36 te k36 (.object "java/lang/String") (3 : Int32) [.null, .null, .null] .null := V_te
    have g_te : n0 ≤ te := by rw [g36]; exact Z0
    have Z0 := Nat.le_trans Z0 E36.1
    have ne_frq_te : frq ≠ te := Nat.ne_of_lt (Nat.lt_of_lt_of_le V_frq.lt (Nat.le_of_eq g36.symm))
    have ne_sts_te : sts ≠ te := Nat.ne_of_lt (Nat.lt_of_lt_of_le V_sts.lt (Nat.le_of_eq g36.symm))
    have ne_ob_te : ob ≠ te := Nat.ne_of_lt (Nat.lt_of_lt_of_le E_ob.lt (Nat.le_of_eq g36.symm))
    have ne_dn_te : dn ≠ te := Nat.ne_of_lt (Nat.lt_of_lt_of_le V_dn.lt (Nat.le_of_eq g36.symm))
    have ne_cl_te : cl ≠ te := Nat.ne_of_lt (Nat.lt_of_lt_of_le V_cl.lt (Nat.le_of_eq g36.symm))
    have V_frq := V_frq.ext E36
    have V_sts := V_sts.ext E36
    have E_ob := E_ob.ext E36
    have F_analysis_ob := F_analysis_ob.ext E36
    have F_docnos_ob := F_docnos_ob.ext E36
    have F_characterLengths_ob := F_characterLengths_ob.ext E36
    have F_terms_ob := F_terms_ob.ext E36
    have F_postingStarts_ob := F_postingStarts_ob.ext E36
    have F_postingDocuments_ob := F_postingDocuments_ob.ext E36
    have F_postingFrequencies_ob := F_postingFrequencies_ob.ext E36
    have F_tokenCount_ob := F_tokenCount_ob.ext E36
    have V_dn := V_dn.ext E36
    have V_cl := V_cl.ext E36
    show G T36 (mkF m 130 #[.val (.int f0), .val (.int f1), .val (.int f2), .val (.int f3), .val (.int ly), .val (.int wh), .val (.ref frq), .val (.int s1), .val (.int s2), .val (.ref sts), .val (.int (2 : Int32)), .val (.long tot), .second, .unset, .unset, .unset, .unset, .unset, .unset, .unset] [(.ref te), (.ref cl), (.ref dn), .null, (.ref ob), (.ref ob)])
    refine hs.go (fun _ kk_ => XS.aload X36.here hx rfl (hb hby at_130) rfl rfl kk_) ?_
    show G T36 (mkF m 132 #[.val (.int f0), .val (.int f1), .val (.int f2), .val (.int f3), .val (.int ly), .val (.int wh), .val (.ref frq), .val (.int s1), .val (.int s2), .val (.ref sts), .val (.int (2 : Int32)), .val (.long tot), .second, .unset, .unset, .unset, .unset, .unset, .unset, .unset] [(.ref sts), (.ref te), (.ref cl), (.ref dn), .null, (.ref ob), (.ref ob)])
    refine hs.go (fun _ kk_ => XS.iconst X36.here hx rfl (hb hby at_132) kk_) ?_
    show G T36 (mkF m 133 #[.val (.int f0), .val (.int f1), .val (.int f2), .val (.int f3), .val (.int ly), .val (.int wh), .val (.ref frq), .val (.int s1), .val (.int s2), .val (.ref sts), .val (.int (2 : Int32)), .val (.long tot), .second, .unset, .unset, .unset, .unset, .unset, .unset, .unset] [(.int (4 : Int32)), (.ref sts), (.ref te), (.ref cl), (.ref dn), .null, (.ref ob), (.ref ob)])
    refine rNewP hs X36 hx hZ (hw _ (List.mem_of_getElem? (i := 0) rfl)) rfl (hb hby at_133) rfl (by decide) 4 4 (by decide) (by decide) (by decide) (by decide) (fun T37 h37 k37 dc g37 X37 E37 V_dc => ?_)
    have V_dc : Arv Z h37 dc k37 .int (4 : Int32) [(.int (0 : Int32)), (.int (0 : Int32)), (.int (0 : Int32)), (.int (0 : Int32))] (.int (0 : Int32)) := V_dc
    have g_dc : n0 ≤ dc := by rw [g37]; exact Z0
    have Z0 := Nat.le_trans Z0 E37.1
    have ne_frq_dc : frq ≠ dc := Nat.ne_of_lt (Nat.lt_of_lt_of_le V_frq.lt (Nat.le_of_eq g37.symm))
    have ne_sts_dc : sts ≠ dc := Nat.ne_of_lt (Nat.lt_of_lt_of_le V_sts.lt (Nat.le_of_eq g37.symm))
    have ne_ob_dc : ob ≠ dc := Nat.ne_of_lt (Nat.lt_of_lt_of_le E_ob.lt (Nat.le_of_eq g37.symm))
    have ne_dn_dc : dn ≠ dc := Nat.ne_of_lt (Nat.lt_of_lt_of_le V_dn.lt (Nat.le_of_eq g37.symm))
    have ne_cl_dc : cl ≠ dc := Nat.ne_of_lt (Nat.lt_of_lt_of_le V_cl.lt (Nat.le_of_eq g37.symm))
    have ne_te_dc : te ≠ dc := Nat.ne_of_lt (Nat.lt_of_lt_of_le V_te.lt (Nat.le_of_eq g37.symm))
    have V_frq := V_frq.ext E37
    have V_sts := V_sts.ext E37
    have E_ob := E_ob.ext E37
    have F_analysis_ob := F_analysis_ob.ext E37
    have F_docnos_ob := F_docnos_ob.ext E37
    have F_characterLengths_ob := F_characterLengths_ob.ext E37
    have F_terms_ob := F_terms_ob.ext E37
    have F_postingStarts_ob := F_postingStarts_ob.ext E37
    have F_postingDocuments_ob := F_postingDocuments_ob.ext E37
    have F_postingFrequencies_ob := F_postingFrequencies_ob.ext E37
    have F_tokenCount_ob := F_tokenCount_ob.ext E37
    have V_dn := V_dn.ext E37
    have V_cl := V_cl.ext E37
    have V_te := V_te.ext E37
    show G T37 (mkF m 135 #[.val (.int f0), .val (.int f1), .val (.int f2), .val (.int f3), .val (.int ly), .val (.int wh), .val (.ref frq), .val (.int s1), .val (.int s2), .val (.ref sts), .val (.int (2 : Int32)), .val (.long tot), .second, .unset, .unset, .unset, .unset, .unset, .unset, .unset] [(.ref dc), (.ref sts), (.ref te), (.ref cl), (.ref dn), .null, (.ref ob), (.ref ob)])
    refine hs.go (fun _ kk_ => XS.aload X37.here hx rfl (hb hby at_135) rfl rfl kk_) ?_
    show G T37 (mkF m 137 #[.val (.int f0), .val (.int f1), .val (.int f2), .val (.int f3), .val (.int ly), .val (.int wh), .val (.ref frq), .val (.int s1), .val (.int s2), .val (.ref sts), .val (.int (2 : Int32)), .val (.long tot), .second, .unset, .unset, .unset, .unset, .unset, .unset, .unset] [(.ref frq), (.ref dc), (.ref sts), (.ref te), (.ref cl), (.ref dn), .null, (.ref ob), (.ref ob)])
    refine hs.go (fun _ kk_ => XS.lload X37.here hx rfl (hb hby at_137) rfl  kk_) ?_
    show G T37 (mkF m 139 #[.val (.int f0), .val (.int f1), .val (.int f2), .val (.int f3), .val (.int ly), .val (.int wh), .val (.ref frq), .val (.int s1), .val (.int s2), .val (.ref sts), .val (.int (2 : Int32)), .val (.long tot), .second, .unset, .unset, .unset, .unset, .unset, .unset, .unset] [(.long tot), (.ref frq), (.ref dc), (.ref sts), (.ref te), (.ref cl), (.ref dn), .null, (.ref ob), (.ref ob)])
    refine rCallI hs X37 hx hZ (as' := [.null, (.ref dn), (.ref cl), (.ref te), (.ref sts), (.ref dc), (.ref frq), (.long tot)]) (rm1 l Z a0 hw [] ob dn cl te sts dc frq tot h37 n0 Z0 E_ob g_ob F_analysis_ob F_docnos_ob F_characterLengths_ob F_terms_ob F_postingStarts_ob F_postingDocuments_ob F_postingFrequencies_ob F_tokenCount_ob) rfl hown (hw _ (List.mem_of_getElem? (i := 7) rfl)) (hw _ (List.mem_of_getElem? (i := 8) rfl)) (hw _ (List.mem_of_getElem? (i := 4) rfl)) (hw _ (List.mem_of_getElem? (i := 9) rfl)) hy_1 rfl (by rw [hml]; rfl) [(.ref ob)] (lenOf pd_1 rfl) rfl 1 (by show 2 * 0 + _ ≤ _; exact Nat.le_of_eq rfl) (hb hby at_139) (by decide) (by decide) (by decide) (by decide) (fun r38 T38 h38 X38 q38 => ?_)
    obtain ⟨rfl, Kc38, E_ob, F_postingStarts_ob, F_postingFrequencies_ob⟩ := q38
    have Z0 := Nat.le_trans Z0 Kc38.1
    have V_frq := V_frq.keep Kc38 (ninS ne_frq_ob nin0)
    have V_sts := V_sts.keep Kc38 (ninS ne_sts_ob nin0)
    have V_dn := V_dn.keep Kc38 (ninS ne_ob_dn.symm nin0)
    have V_cl := V_cl.keep Kc38 (ninS ne_ob_cl.symm nin0)
    have V_te := V_te.keep Kc38 (ninS ne_ob_te.symm nin0)
    have V_dc := V_dc.keep Kc38 (ninS ne_ob_dc.symm nin0)
    show G T38 (mkF m 142 #[.val (.int f0), .val (.int f1), .val (.int f2), .val (.int f3), .val (.int ly), .val (.int wh), .val (.ref frq), .val (.int s1), .val (.int s2), .val (.ref sts), .val (.int (2 : Int32)), .val (.long tot), .second, .unset, .unset, .unset, .unset, .unset, .unset, .unset] [(.ref ob)])
    refine hs.go (fun _ kk_ => XS.astore X38.here hx rfl (hb hby at_142) rfl rfl (l' := #[.val (.int f0), .val (.int f1), .val (.int f2), .val (.int f3), .val (.int ly), .val (.int wh), .val (.ref frq), .val (.int s1), .val (.int s2), .val (.ref sts), .val (.int (2 : Int32)), .val (.long tot), .second, .val (.ref ob), .unset, .unset, .unset, .unset, .unset, .unset]) rfl kk_) ?_
    show G T38 (mkF m 144 #[.val (.int f0), .val (.int f1), .val (.int f2), .val (.int f3), .val (.int ly), .val (.int wh), .val (.ref frq), .val (.int s1), .val (.int s2), .val (.ref sts), .val (.int (2 : Int32)), .val (.long tot), .second, .val (.ref ob), .unset, .unset, .unset, .unset, .unset, .unset] [])
    refine hs.go (fun _ kk_ => XS.aload X38.here hx rfl (hb hby at_144) rfl rfl kk_) ?_
    show G T38 (mkF m 146 #[.val (.int f0), .val (.int f1), .val (.int f2), .val (.int f3), .val (.int ly), .val (.int wh), .val (.ref frq), .val (.int s1), .val (.int s2), .val (.ref sts), .val (.int (2 : Int32)), .val (.long tot), .second, .val (.ref ob), .unset, .unset, .unset, .unset, .unset, .unset] [(.ref ob)])
    refine hs.go (fun _ kk_ => XS.iload X38.here hx rfl (hb hby at_146) rfl  kk_) ?_
    show G T38 (mkF m 148 #[.val (.int f0), .val (.int f1), .val (.int f2), .val (.int f3), .val (.int ly), .val (.int wh), .val (.ref frq), .val (.int s1), .val (.int s2), .val (.ref sts), .val (.int (2 : Int32)), .val (.long tot), .second, .val (.ref ob), .unset, .unset, .unset, .unset, .unset, .unset] [(.int (2 : Int32)), (.ref ob)])
    refine rCallV hs X38 hx hZ (as' := [(.int (2 : Int32))]) (rm3 l Z a0 hw [] ob sts frq (2 : Int32) s2 (4 : Int32) (4 : Int32) g0 g1 g2 g3 [(.int (0 : Int32)), (.int s1), (.int s2), (.int (4 : Int32))] (.int (0 : Int32)) k6 k1 (s2).toInt.toNat (((4 : Int32)).toInt - (s2).toInt).toNat h38 n0 Z0 E_ob F_postingStarts_ob F_postingFrequencies_ob V_sts V_frq ⟨by decide, by decide⟩ rfl ⟨by decide, by decide⟩ rfl (by have q := HL; omega) (by have q := HL; omega) (by have q := HL; omega)) E_ob hown (hw _ (List.mem_of_getElem? (i := 29) rfl)) (hw _ (List.mem_of_getElem? (i := 30) rfl)) (hw _ (List.mem_of_getElem? (i := 32) rfl)) (hw _ (List.mem_of_getElem? (i := 31) rfl)) (hw _ (List.mem_of_getElem? (i := 4) rfl)) (hw _ (List.mem_of_getElem? (i := 33) rfl)) hy_3 rfl (by rw [hml]; rfl) [] (lenOf pd_2 rfl) rfl 0 (by show 2 * 0 + _ ≤ _; exact Nat.le_of_eq rfl) (hb hby at_148) (by decide) (by decide) (by decide) (by decide) (fun r39 T39 h39 X39 q39 => ?_)
    obtain ⟨rfl, qh39⟩ := q39
    rw [qh39] at X39
    show G T39 (mkF m 151 #[.val (.int f0), .val (.int f1), .val (.int f2), .val (.int f3), .val (.int ly), .val (.int wh), .val (.ref frq), .val (.int s1), .val (.int s2), .val (.ref sts), .val (.int (2 : Int32)), .val (.long tot), .second, .val (.ref ob), .unset, .unset, .unset, .unset, .unset, .unset] [(.long (sml [g0, g1, g2, g3] (s2).toInt.toNat (((4 : Int32)).toInt - (s2).toInt).toNat 0))])
    refine nameIt (P := fun zz_ : Int64 => G T39 (mkF m 151 #[.val (.int f0), .val (.int f1), .val (.int f2), .val (.int f3), .val (.int ly), .val (.int wh), .val (.ref frq), .val (.int s1), .val (.int s2), .val (.ref sts), .val (.int (2 : Int32)), .val (.long tot), .second, .val (.ref ob), .unset, .unset, .unset, .unset, .unset, .unset] [(.long zz_)])) (sml [g0, g1, g2, g3] (s2).toInt.toNat (((4 : Int32)).toInt - (s2).toInt).toNat 0) (fun gt hgt => ?_)
    show G T39 (mkF m 151 #[.val (.int f0), .val (.int f1), .val (.int f2), .val (.int f3), .val (.int ly), .val (.int wh), .val (.ref frq), .val (.int s1), .val (.int s2), .val (.ref sts), .val (.int (2 : Int32)), .val (.long tot), .second, .val (.ref ob), .unset, .unset, .unset, .unset, .unset, .unset] [(.long gt)])
    refine hs.go (fun _ kk_ => XS.lstore X39.here hx rfl (hb hby at_151) rfl (l' := #[.val (.int f0), .val (.int f1), .val (.int f2), .val (.int f3), .val (.int ly), .val (.int wh), .val (.ref frq), .val (.int s1), .val (.int s2), .val (.ref sts), .val (.int (2 : Int32)), .val (.long tot), .second, .val (.ref ob), .val (.long gt), .second, .unset, .unset, .unset, .unset]) rfl kk_) ?_
    show G T39 (mkF m 153 #[.val (.int f0), .val (.int f1), .val (.int f2), .val (.int f3), .val (.int ly), .val (.int wh), .val (.ref frq), .val (.int s1), .val (.int s2), .val (.ref sts), .val (.int (2 : Int32)), .val (.long tot), .second, .val (.ref ob), .val (.long gt), .second, .unset, .unset, .unset, .unset] [])
    refine hs.go (fun _ kk_ => XS.aload X39.here hx rfl (hb hby at_153) rfl rfl kk_) ?_
    show G T39 (mkF m 155 #[.val (.int f0), .val (.int f1), .val (.int f2), .val (.int f3), .val (.int ly), .val (.int wh), .val (.ref frq), .val (.int s1), .val (.int s2), .val (.ref sts), .val (.int (2 : Int32)), .val (.long tot), .second, .val (.ref ob), .val (.long gt), .second, .unset, .unset, .unset, .unset] [(.ref sts)])
    refine hs.go (fun _ kk_ => XS.iload X39.here hx rfl (hb hby at_155) rfl  kk_) ?_
    show G T39 (mkF m 157 #[.val (.int f0), .val (.int f1), .val (.int f2), .val (.int f3), .val (.int ly), .val (.int wh), .val (.ref frq), .val (.int s1), .val (.int s2), .val (.ref sts), .val (.int (2 : Int32)), .val (.long tot), .second, .val (.ref ob), .val (.long gt), .second, .unset, .unset, .unset, .unset] [(.int (2 : Int32)), (.ref sts)])
    refine rLdI hs X39 hx hZ V_sts ⟨by decide, by decide⟩ (v := (.int s2)) rfl rfl rfl (hb hby at_157) ?_
    show G T39 (mkF m 158 #[.val (.int f0), .val (.int f1), .val (.int f2), .val (.int f3), .val (.int ly), .val (.int wh), .val (.ref frq), .val (.int s1), .val (.int s2), .val (.ref sts), .val (.int (2 : Int32)), .val (.long tot), .second, .val (.ref ob), .val (.long gt), .second, .unset, .unset, .unset, .unset] [(.int s2)])
    refine hs.go (fun _ kk_ => XS.istore X39.here hx rfl (hb hby at_158) rfl (l' := #[.val (.int f0), .val (.int f1), .val (.int f2), .val (.int f3), .val (.int ly), .val (.int wh), .val (.ref frq), .val (.int s1), .val (.int s2), .val (.ref sts), .val (.int (2 : Int32)), .val (.long tot), .second, .val (.ref ob), .val (.long gt), .second, .val (.int s2), .unset, .unset, .unset]) rfl kk_) ?_
    show G T39 (mkF m 160 #[.val (.int f0), .val (.int f1), .val (.int f2), .val (.int f3), .val (.int ly), .val (.int wh), .val (.ref frq), .val (.int s1), .val (.int s2), .val (.ref sts), .val (.int (2 : Int32)), .val (.long tot), .second, .val (.ref ob), .val (.long gt), .second, .val (.int s2), .unset, .unset, .unset] [])
    refine hs.go (fun _ kk_ => XS.aload X39.here hx rfl (hb hby at_160) rfl rfl kk_) ?_
    show G T39 (mkF m 162 #[.val (.int f0), .val (.int f1), .val (.int f2), .val (.int f3), .val (.int ly), .val (.int wh), .val (.ref frq), .val (.int s1), .val (.int s2), .val (.ref sts), .val (.int (2 : Int32)), .val (.long tot), .second, .val (.ref ob), .val (.long gt), .second, .val (.int s2), .unset, .unset, .unset] [(.ref sts)])
    refine hs.go (fun _ kk_ => XS.iload X39.here hx rfl (hb hby at_162) rfl  kk_) ?_
    show G T39 (mkF m 164 #[.val (.int f0), .val (.int f1), .val (.int f2), .val (.int f3), .val (.int ly), .val (.int wh), .val (.ref frq), .val (.int s1), .val (.int s2), .val (.ref sts), .val (.int (2 : Int32)), .val (.long tot), .second, .val (.ref ob), .val (.long gt), .second, .val (.int s2), .unset, .unset, .unset] [(.int (2 : Int32)), (.ref sts)])
    refine hs.go (fun _ kk_ => XS.iconst X39.here hx rfl (hb hby at_164) kk_) ?_
    show G T39 (mkF m 165 #[.val (.int f0), .val (.int f1), .val (.int f2), .val (.int f3), .val (.int ly), .val (.int wh), .val (.ref frq), .val (.int s1), .val (.int s2), .val (.ref sts), .val (.int (2 : Int32)), .val (.long tot), .second, .val (.ref ob), .val (.long gt), .second, .val (.int s2), .unset, .unset, .unset] [(.int (1 : Int32)), (.int (2 : Int32)), (.ref sts)])
    refine hs.go (fun _ kk_ => XS.iadd X39.here hx rfl (hb hby at_165) rfl kk_) ?_
    show G T39 (mkF m 166 #[.val (.int f0), .val (.int f1), .val (.int f2), .val (.int f3), .val (.int ly), .val (.int wh), .val (.ref frq), .val (.int s1), .val (.int s2), .val (.ref sts), .val (.int (2 : Int32)), .val (.long tot), .second, .val (.ref ob), .val (.long gt), .second, .val (.int s2), .unset, .unset, .unset] [(.int (3 : Int32)), (.ref sts)])
    refine rLdI hs X39 hx hZ V_sts ⟨by decide, by decide⟩ (v := (.int (4 : Int32))) rfl rfl rfl (hb hby at_166) ?_
    show G T39 (mkF m 167 #[.val (.int f0), .val (.int f1), .val (.int f2), .val (.int f3), .val (.int ly), .val (.int wh), .val (.ref frq), .val (.int s1), .val (.int s2), .val (.ref sts), .val (.int (2 : Int32)), .val (.long tot), .second, .val (.ref ob), .val (.long gt), .second, .val (.int s2), .unset, .unset, .unset] [(.int (4 : Int32))])
    refine hs.go (fun _ kk_ => XS.istore X39.here hx rfl (hb hby at_167) rfl (l' := #[.val (.int f0), .val (.int f1), .val (.int f2), .val (.int f3), .val (.int ly), .val (.int wh), .val (.ref frq), .val (.int s1), .val (.int s2), .val (.ref sts), .val (.int (2 : Int32)), .val (.long tot), .second, .val (.ref ob), .val (.long gt), .second, .val (.int s2), .val (.int (4 : Int32)), .unset, .unset]) rfl kk_) ?_
    show G T39 (mkF m 169 #[.val (.int f0), .val (.int f1), .val (.int f2), .val (.int f3), .val (.int ly), .val (.int wh), .val (.ref frq), .val (.int s1), .val (.int s2), .val (.ref sts), .val (.int (2 : Int32)), .val (.long tot), .second, .val (.ref ob), .val (.long gt), .second, .val (.int s2), .val (.int (4 : Int32)), .unset, .unset] [])
    refine hs.go (fun _ kk_ => XS.aload X39.here hx rfl (hb hby at_169) rfl rfl kk_) ?_
    show G T39 (mkF m 171 #[.val (.int f0), .val (.int f1), .val (.int f2), .val (.int f3), .val (.int ly), .val (.int wh), .val (.ref frq), .val (.int s1), .val (.int s2), .val (.ref sts), .val (.int (2 : Int32)), .val (.long tot), .second, .val (.ref ob), .val (.long gt), .second, .val (.int s2), .val (.int (4 : Int32)), .unset, .unset] [(.ref frq)])
    refine hs.go (fun _ kk_ => XS.iconst X39.here hx rfl (hb hby at_171) kk_) ?_
    show G T39 (mkF m 172 #[.val (.int f0), .val (.int f1), .val (.int f2), .val (.int f3), .val (.int ly), .val (.int wh), .val (.ref frq), .val (.int s1), .val (.int s2), .val (.ref sts), .val (.int (2 : Int32)), .val (.long tot), .second, .val (.ref ob), .val (.long gt), .second, .val (.int s2), .val (.int (4 : Int32)), .unset, .unset] [(.int (0 : Int32)), (.ref frq)])
    refine rLdI hs X39 hx hZ V_frq ⟨by decide, by decide⟩ (v := (.int g0)) rfl rfl rfl (hb hby at_172) ?_
    show G T39 (mkF m 173 #[.val (.int f0), .val (.int f1), .val (.int f2), .val (.int f3), .val (.int ly), .val (.int wh), .val (.ref frq), .val (.int s1), .val (.int s2), .val (.ref sts), .val (.int (2 : Int32)), .val (.long tot), .second, .val (.ref ob), .val (.long gt), .second, .val (.int s2), .val (.int (4 : Int32)), .unset, .unset] [(.int g0)])
    refine hs.go (fun _ kk_ => XS.iconst X39.here hx rfl (hb hby at_173) kk_) ?_
    show G T39 (mkF m 174 #[.val (.int f0), .val (.int f1), .val (.int f2), .val (.int f3), .val (.int ly), .val (.int wh), .val (.ref frq), .val (.int s1), .val (.int s2), .val (.ref sts), .val (.int (2 : Int32)), .val (.long tot), .second, .val (.ref ob), .val (.long gt), .second, .val (.int s2), .val (.int (4 : Int32)), .unset, .unset] [(.int (0 : Int32)), (.int g0)])
    refine hs.go (fun _ kk_ => XS.iload X39.here hx rfl (hb hby at_174) rfl  kk_) ?_
    show G T39 (mkF m 176 #[.val (.int f0), .val (.int f1), .val (.int f2), .val (.int f3), .val (.int ly), .val (.int wh), .val (.ref frq), .val (.int s1), .val (.int s2), .val (.ref sts), .val (.int (2 : Int32)), .val (.long tot), .second, .val (.ref ob), .val (.long gt), .second, .val (.int s2), .val (.int (4 : Int32)), .unset, .unset] [(.int s2), (.int (0 : Int32)), (.int g0)])
    refine hs.go (fun _ kk_ => XS.iload X39.here hx rfl (hb hby at_176) rfl  kk_) ?_
    show G T39 (mkF m 178 #[.val (.int f0), .val (.int f1), .val (.int f2), .val (.int f3), .val (.int ly), .val (.int wh), .val (.ref frq), .val (.int s1), .val (.int s2), .val (.ref sts), .val (.int (2 : Int32)), .val (.long tot), .second, .val (.ref ob), .val (.long gt), .second, .val (.int s2), .val (.int (4 : Int32)), .unset, .unset] [(.int (4 : Int32)), (.int s2), (.int (0 : Int32)), (.int g0)])
    refine rCallS hs X39 hx hZ (as' := [(.int g0), (.int (0 : Int32)), (.int s2), (.int (4 : Int32))]) (rm6 l Z a0 hw [] g0 (0 : Int32) s2 (4 : Int32) h38 n0 Z0) hown (hw _ (List.mem_of_getElem? (i := 44) rfl)) (hw _ (List.mem_of_getElem? (i := 45) rfl)) (hw _ (List.mem_of_getElem? (i := 46) rfl)) (hw _ (List.mem_of_getElem? (i := 47) rfl)) hy_6 rfl (by rw [hml]; rfl) [] (lenOf pd_3 rfl) rfl 0 (by show 2 * 0 + _ ≤ _; exact Nat.le_of_eq rfl) (hb hby at_178) (by decide) (by decide) (by decide) (by decide) (fun r40 T40 h40 X40 q40 => ?_)
    obtain ⟨rfl, qh40⟩ := q40
    rw [qh40] at X40
    show G T40 (mkF m 181 #[.val (.int f0), .val (.int f1), .val (.int f2), .val (.int f3), .val (.int ly), .val (.int wh), .val (.ref frq), .val (.int s1), .val (.int s2), .val (.ref sts), .val (.int (2 : Int32)), .val (.long tot), .second, .val (.ref ob), .val (.long gt), .second, .val (.int s2), .val (.int (4 : Int32)), .unset, .unset] [(.long (f4 g0 (0 : Int32) s2 (4 : Int32)))])
    refine hs.go (fun _ kk_ => XS.aload X40.here hx rfl (hb hby at_181) rfl rfl kk_) ?_
    show G T40 (mkF m 183 #[.val (.int f0), .val (.int f1), .val (.int f2), .val (.int f3), .val (.int ly), .val (.int wh), .val (.ref frq), .val (.int s1), .val (.int s2), .val (.ref sts), .val (.int (2 : Int32)), .val (.long tot), .second, .val (.ref ob), .val (.long gt), .second, .val (.int s2), .val (.int (4 : Int32)), .unset, .unset] [(.ref frq), (.long (f4 g0 (0 : Int32) s2 (4 : Int32)))])
    refine hs.go (fun _ kk_ => XS.iconst X40.here hx rfl (hb hby at_183) kk_) ?_
    show G T40 (mkF m 184 #[.val (.int f0), .val (.int f1), .val (.int f2), .val (.int f3), .val (.int ly), .val (.int wh), .val (.ref frq), .val (.int s1), .val (.int s2), .val (.ref sts), .val (.int (2 : Int32)), .val (.long tot), .second, .val (.ref ob), .val (.long gt), .second, .val (.int s2), .val (.int (4 : Int32)), .unset, .unset] [(.int (1 : Int32)), (.ref frq), (.long (f4 g0 (0 : Int32) s2 (4 : Int32)))])
    refine rLdI hs X40 hx hZ V_frq ⟨by decide, by decide⟩ (v := (.int g1)) rfl rfl rfl (hb hby at_184) ?_
    show G T40 (mkF m 185 #[.val (.int f0), .val (.int f1), .val (.int f2), .val (.int f3), .val (.int ly), .val (.int wh), .val (.ref frq), .val (.int s1), .val (.int s2), .val (.ref sts), .val (.int (2 : Int32)), .val (.long tot), .second, .val (.ref ob), .val (.long gt), .second, .val (.int s2), .val (.int (4 : Int32)), .unset, .unset] [(.int g1), (.long (f4 g0 (0 : Int32) s2 (4 : Int32)))])
    refine hs.go (fun _ kk_ => XS.iconst X40.here hx rfl (hb hby at_185) kk_) ?_
    show G T40 (mkF m 186 #[.val (.int f0), .val (.int f1), .val (.int f2), .val (.int f3), .val (.int ly), .val (.int wh), .val (.ref frq), .val (.int s1), .val (.int s2), .val (.ref sts), .val (.int (2 : Int32)), .val (.long tot), .second, .val (.ref ob), .val (.long gt), .second, .val (.int s2), .val (.int (4 : Int32)), .unset, .unset] [(.int (1 : Int32)), (.int g1), (.long (f4 g0 (0 : Int32) s2 (4 : Int32)))])
    refine hs.go (fun _ kk_ => XS.iload X40.here hx rfl (hb hby at_186) rfl  kk_) ?_
    show G T40 (mkF m 188 #[.val (.int f0), .val (.int f1), .val (.int f2), .val (.int f3), .val (.int ly), .val (.int wh), .val (.ref frq), .val (.int s1), .val (.int s2), .val (.ref sts), .val (.int (2 : Int32)), .val (.long tot), .second, .val (.ref ob), .val (.long gt), .second, .val (.int s2), .val (.int (4 : Int32)), .unset, .unset] [(.int s2), (.int (1 : Int32)), (.int g1), (.long (f4 g0 (0 : Int32) s2 (4 : Int32)))])
    refine hs.go (fun _ kk_ => XS.iload X40.here hx rfl (hb hby at_188) rfl  kk_) ?_
    show G T40 (mkF m 190 #[.val (.int f0), .val (.int f1), .val (.int f2), .val (.int f3), .val (.int ly), .val (.int wh), .val (.ref frq), .val (.int s1), .val (.int s2), .val (.ref sts), .val (.int (2 : Int32)), .val (.long tot), .second, .val (.ref ob), .val (.long gt), .second, .val (.int s2), .val (.int (4 : Int32)), .unset, .unset] [(.int (4 : Int32)), (.int s2), (.int (1 : Int32)), (.int g1), (.long (f4 g0 (0 : Int32) s2 (4 : Int32)))])
    refine rCallS hs X40 hx hZ (as' := [(.int g1), (.int (1 : Int32)), (.int s2), (.int (4 : Int32))]) (rm6 l Z a0 hw [] g1 (1 : Int32) s2 (4 : Int32) h38 n0 Z0) hown (hw _ (List.mem_of_getElem? (i := 44) rfl)) (hw _ (List.mem_of_getElem? (i := 45) rfl)) (hw _ (List.mem_of_getElem? (i := 46) rfl)) (hw _ (List.mem_of_getElem? (i := 47) rfl)) hy_6 rfl (by rw [hml]; rfl) [(.long (f4 g0 (0 : Int32) s2 (4 : Int32)))] (lenOf pd_3 rfl) rfl 2 (by show 2 * 0 + _ ≤ _; exact Nat.le_of_eq rfl) (hb hby at_190) (by decide) (by decide) (by decide) (by decide) (fun r41 T41 h41 X41 q41 => ?_)
    obtain ⟨rfl, qh41⟩ := q41
    rw [qh41] at X41
    show G T41 (mkF m 193 #[.val (.int f0), .val (.int f1), .val (.int f2), .val (.int f3), .val (.int ly), .val (.int wh), .val (.ref frq), .val (.int s1), .val (.int s2), .val (.ref sts), .val (.int (2 : Int32)), .val (.long tot), .second, .val (.ref ob), .val (.long gt), .second, .val (.int s2), .val (.int (4 : Int32)), .unset, .unset] [(.long (f4 g1 (1 : Int32) s2 (4 : Int32))), (.long (f4 g0 (0 : Int32) s2 (4 : Int32)))])
    refine hs.go (fun _ kk_ => XS.ladd X41.here hx rfl (hb hby at_193) rfl kk_) ?_
    show G T41 (mkF m 194 #[.val (.int f0), .val (.int f1), .val (.int f2), .val (.int f3), .val (.int ly), .val (.int wh), .val (.ref frq), .val (.int s1), .val (.int s2), .val (.ref sts), .val (.int (2 : Int32)), .val (.long tot), .second, .val (.ref ob), .val (.long gt), .second, .val (.int s2), .val (.int (4 : Int32)), .unset, .unset] [(.long ((f4 g0 (0 : Int32) s2 (4 : Int32)) + (f4 g1 (1 : Int32) s2 (4 : Int32))))])
    refine hs.go (fun _ kk_ => XS.aload X41.here hx rfl (hb hby at_194) rfl rfl kk_) ?_
    show G T41 (mkF m 196 #[.val (.int f0), .val (.int f1), .val (.int f2), .val (.int f3), .val (.int ly), .val (.int wh), .val (.ref frq), .val (.int s1), .val (.int s2), .val (.ref sts), .val (.int (2 : Int32)), .val (.long tot), .second, .val (.ref ob), .val (.long gt), .second, .val (.int s2), .val (.int (4 : Int32)), .unset, .unset] [(.ref frq), (.long ((f4 g0 (0 : Int32) s2 (4 : Int32)) + (f4 g1 (1 : Int32) s2 (4 : Int32))))])
    refine hs.go (fun _ kk_ => XS.iconst X41.here hx rfl (hb hby at_196) kk_) ?_
    show G T41 (mkF m 197 #[.val (.int f0), .val (.int f1), .val (.int f2), .val (.int f3), .val (.int ly), .val (.int wh), .val (.ref frq), .val (.int s1), .val (.int s2), .val (.ref sts), .val (.int (2 : Int32)), .val (.long tot), .second, .val (.ref ob), .val (.long gt), .second, .val (.int s2), .val (.int (4 : Int32)), .unset, .unset] [(.int (2 : Int32)), (.ref frq), (.long ((f4 g0 (0 : Int32) s2 (4 : Int32)) + (f4 g1 (1 : Int32) s2 (4 : Int32))))])
    refine rLdI hs X41 hx hZ V_frq ⟨by decide, by decide⟩ (v := (.int g2)) rfl rfl rfl (hb hby at_197) ?_
    show G T41 (mkF m 198 #[.val (.int f0), .val (.int f1), .val (.int f2), .val (.int f3), .val (.int ly), .val (.int wh), .val (.ref frq), .val (.int s1), .val (.int s2), .val (.ref sts), .val (.int (2 : Int32)), .val (.long tot), .second, .val (.ref ob), .val (.long gt), .second, .val (.int s2), .val (.int (4 : Int32)), .unset, .unset] [(.int g2), (.long ((f4 g0 (0 : Int32) s2 (4 : Int32)) + (f4 g1 (1 : Int32) s2 (4 : Int32))))])
    refine hs.go (fun _ kk_ => XS.iconst X41.here hx rfl (hb hby at_198) kk_) ?_
    show G T41 (mkF m 199 #[.val (.int f0), .val (.int f1), .val (.int f2), .val (.int f3), .val (.int ly), .val (.int wh), .val (.ref frq), .val (.int s1), .val (.int s2), .val (.ref sts), .val (.int (2 : Int32)), .val (.long tot), .second, .val (.ref ob), .val (.long gt), .second, .val (.int s2), .val (.int (4 : Int32)), .unset, .unset] [(.int (2 : Int32)), (.int g2), (.long ((f4 g0 (0 : Int32) s2 (4 : Int32)) + (f4 g1 (1 : Int32) s2 (4 : Int32))))])
    refine hs.go (fun _ kk_ => XS.iload X41.here hx rfl (hb hby at_199) rfl  kk_) ?_
    show G T41 (mkF m 201 #[.val (.int f0), .val (.int f1), .val (.int f2), .val (.int f3), .val (.int ly), .val (.int wh), .val (.ref frq), .val (.int s1), .val (.int s2), .val (.ref sts), .val (.int (2 : Int32)), .val (.long tot), .second, .val (.ref ob), .val (.long gt), .second, .val (.int s2), .val (.int (4 : Int32)), .unset, .unset] [(.int s2), (.int (2 : Int32)), (.int g2), (.long ((f4 g0 (0 : Int32) s2 (4 : Int32)) + (f4 g1 (1 : Int32) s2 (4 : Int32))))])
    refine hs.go (fun _ kk_ => XS.iload X41.here hx rfl (hb hby at_201) rfl  kk_) ?_
    show G T41 (mkF m 203 #[.val (.int f0), .val (.int f1), .val (.int f2), .val (.int f3), .val (.int ly), .val (.int wh), .val (.ref frq), .val (.int s1), .val (.int s2), .val (.ref sts), .val (.int (2 : Int32)), .val (.long tot), .second, .val (.ref ob), .val (.long gt), .second, .val (.int s2), .val (.int (4 : Int32)), .unset, .unset] [(.int (4 : Int32)), (.int s2), (.int (2 : Int32)), (.int g2), (.long ((f4 g0 (0 : Int32) s2 (4 : Int32)) + (f4 g1 (1 : Int32) s2 (4 : Int32))))])
    refine rCallS hs X41 hx hZ (as' := [(.int g2), (.int (2 : Int32)), (.int s2), (.int (4 : Int32))]) (rm6 l Z a0 hw [] g2 (2 : Int32) s2 (4 : Int32) h38 n0 Z0) hown (hw _ (List.mem_of_getElem? (i := 44) rfl)) (hw _ (List.mem_of_getElem? (i := 45) rfl)) (hw _ (List.mem_of_getElem? (i := 46) rfl)) (hw _ (List.mem_of_getElem? (i := 47) rfl)) hy_6 rfl (by rw [hml]; rfl) [(.long ((f4 g0 (0 : Int32) s2 (4 : Int32)) + (f4 g1 (1 : Int32) s2 (4 : Int32))))] (lenOf pd_3 rfl) rfl 2 (by show 2 * 0 + _ ≤ _; exact Nat.le_of_eq rfl) (hb hby at_203) (by decide) (by decide) (by decide) (by decide) (fun r42 T42 h42 X42 q42 => ?_)
    obtain ⟨rfl, qh42⟩ := q42
    rw [qh42] at X42
    show G T42 (mkF m 206 #[.val (.int f0), .val (.int f1), .val (.int f2), .val (.int f3), .val (.int ly), .val (.int wh), .val (.ref frq), .val (.int s1), .val (.int s2), .val (.ref sts), .val (.int (2 : Int32)), .val (.long tot), .second, .val (.ref ob), .val (.long gt), .second, .val (.int s2), .val (.int (4 : Int32)), .unset, .unset] [(.long (f4 g2 (2 : Int32) s2 (4 : Int32))), (.long ((f4 g0 (0 : Int32) s2 (4 : Int32)) + (f4 g1 (1 : Int32) s2 (4 : Int32))))])
    refine hs.go (fun _ kk_ => XS.ladd X42.here hx rfl (hb hby at_206) rfl kk_) ?_
    show G T42 (mkF m 207 #[.val (.int f0), .val (.int f1), .val (.int f2), .val (.int f3), .val (.int ly), .val (.int wh), .val (.ref frq), .val (.int s1), .val (.int s2), .val (.ref sts), .val (.int (2 : Int32)), .val (.long tot), .second, .val (.ref ob), .val (.long gt), .second, .val (.int s2), .val (.int (4 : Int32)), .unset, .unset] [(.long (((f4 g0 (0 : Int32) s2 (4 : Int32)) + (f4 g1 (1 : Int32) s2 (4 : Int32))) + (f4 g2 (2 : Int32) s2 (4 : Int32))))])
    refine hs.go (fun _ kk_ => XS.aload X42.here hx rfl (hb hby at_207) rfl rfl kk_) ?_
    show G T42 (mkF m 209 #[.val (.int f0), .val (.int f1), .val (.int f2), .val (.int f3), .val (.int ly), .val (.int wh), .val (.ref frq), .val (.int s1), .val (.int s2), .val (.ref sts), .val (.int (2 : Int32)), .val (.long tot), .second, .val (.ref ob), .val (.long gt), .second, .val (.int s2), .val (.int (4 : Int32)), .unset, .unset] [(.ref frq), (.long (((f4 g0 (0 : Int32) s2 (4 : Int32)) + (f4 g1 (1 : Int32) s2 (4 : Int32))) + (f4 g2 (2 : Int32) s2 (4 : Int32))))])
    refine hs.go (fun _ kk_ => XS.iconst X42.here hx rfl (hb hby at_209) kk_) ?_
    show G T42 (mkF m 210 #[.val (.int f0), .val (.int f1), .val (.int f2), .val (.int f3), .val (.int ly), .val (.int wh), .val (.ref frq), .val (.int s1), .val (.int s2), .val (.ref sts), .val (.int (2 : Int32)), .val (.long tot), .second, .val (.ref ob), .val (.long gt), .second, .val (.int s2), .val (.int (4 : Int32)), .unset, .unset] [(.int (3 : Int32)), (.ref frq), (.long (((f4 g0 (0 : Int32) s2 (4 : Int32)) + (f4 g1 (1 : Int32) s2 (4 : Int32))) + (f4 g2 (2 : Int32) s2 (4 : Int32))))])
    refine rLdI hs X42 hx hZ V_frq ⟨by decide, by decide⟩ (v := (.int g3)) rfl rfl rfl (hb hby at_210) ?_
    show G T42 (mkF m 211 #[.val (.int f0), .val (.int f1), .val (.int f2), .val (.int f3), .val (.int ly), .val (.int wh), .val (.ref frq), .val (.int s1), .val (.int s2), .val (.ref sts), .val (.int (2 : Int32)), .val (.long tot), .second, .val (.ref ob), .val (.long gt), .second, .val (.int s2), .val (.int (4 : Int32)), .unset, .unset] [(.int g3), (.long (((f4 g0 (0 : Int32) s2 (4 : Int32)) + (f4 g1 (1 : Int32) s2 (4 : Int32))) + (f4 g2 (2 : Int32) s2 (4 : Int32))))])
    refine hs.go (fun _ kk_ => XS.iconst X42.here hx rfl (hb hby at_211) kk_) ?_
    show G T42 (mkF m 212 #[.val (.int f0), .val (.int f1), .val (.int f2), .val (.int f3), .val (.int ly), .val (.int wh), .val (.ref frq), .val (.int s1), .val (.int s2), .val (.ref sts), .val (.int (2 : Int32)), .val (.long tot), .second, .val (.ref ob), .val (.long gt), .second, .val (.int s2), .val (.int (4 : Int32)), .unset, .unset] [(.int (3 : Int32)), (.int g3), (.long (((f4 g0 (0 : Int32) s2 (4 : Int32)) + (f4 g1 (1 : Int32) s2 (4 : Int32))) + (f4 g2 (2 : Int32) s2 (4 : Int32))))])
    refine hs.go (fun _ kk_ => XS.iload X42.here hx rfl (hb hby at_212) rfl  kk_) ?_
    show G T42 (mkF m 214 #[.val (.int f0), .val (.int f1), .val (.int f2), .val (.int f3), .val (.int ly), .val (.int wh), .val (.ref frq), .val (.int s1), .val (.int s2), .val (.ref sts), .val (.int (2 : Int32)), .val (.long tot), .second, .val (.ref ob), .val (.long gt), .second, .val (.int s2), .val (.int (4 : Int32)), .unset, .unset] [(.int s2), (.int (3 : Int32)), (.int g3), (.long (((f4 g0 (0 : Int32) s2 (4 : Int32)) + (f4 g1 (1 : Int32) s2 (4 : Int32))) + (f4 g2 (2 : Int32) s2 (4 : Int32))))])
    refine hs.go (fun _ kk_ => XS.iload X42.here hx rfl (hb hby at_214) rfl  kk_) ?_
    show G T42 (mkF m 216 #[.val (.int f0), .val (.int f1), .val (.int f2), .val (.int f3), .val (.int ly), .val (.int wh), .val (.ref frq), .val (.int s1), .val (.int s2), .val (.ref sts), .val (.int (2 : Int32)), .val (.long tot), .second, .val (.ref ob), .val (.long gt), .second, .val (.int s2), .val (.int (4 : Int32)), .unset, .unset] [(.int (4 : Int32)), (.int s2), (.int (3 : Int32)), (.int g3), (.long (((f4 g0 (0 : Int32) s2 (4 : Int32)) + (f4 g1 (1 : Int32) s2 (4 : Int32))) + (f4 g2 (2 : Int32) s2 (4 : Int32))))])
    refine rCallS hs X42 hx hZ (as' := [(.int g3), (.int (3 : Int32)), (.int s2), (.int (4 : Int32))]) (rm6 l Z a0 hw [] g3 (3 : Int32) s2 (4 : Int32) h38 n0 Z0) hown (hw _ (List.mem_of_getElem? (i := 44) rfl)) (hw _ (List.mem_of_getElem? (i := 45) rfl)) (hw _ (List.mem_of_getElem? (i := 46) rfl)) (hw _ (List.mem_of_getElem? (i := 47) rfl)) hy_6 rfl (by rw [hml]; rfl) [(.long (((f4 g0 (0 : Int32) s2 (4 : Int32)) + (f4 g1 (1 : Int32) s2 (4 : Int32))) + (f4 g2 (2 : Int32) s2 (4 : Int32))))] (lenOf pd_3 rfl) rfl 2 (by show 2 * 0 + _ ≤ _; exact Nat.le_of_eq rfl) (hb hby at_216) (by decide) (by decide) (by decide) (by decide) (fun r43 T43 h43 X43 q43 => ?_)
    obtain ⟨rfl, qh43⟩ := q43
    rw [qh43] at X43
    show G T43 (mkF m 219 #[.val (.int f0), .val (.int f1), .val (.int f2), .val (.int f3), .val (.int ly), .val (.int wh), .val (.ref frq), .val (.int s1), .val (.int s2), .val (.ref sts), .val (.int (2 : Int32)), .val (.long tot), .second, .val (.ref ob), .val (.long gt), .second, .val (.int s2), .val (.int (4 : Int32)), .unset, .unset] [(.long (f4 g3 (3 : Int32) s2 (4 : Int32))), (.long (((f4 g0 (0 : Int32) s2 (4 : Int32)) + (f4 g1 (1 : Int32) s2 (4 : Int32))) + (f4 g2 (2 : Int32) s2 (4 : Int32))))])
    refine hs.go (fun _ kk_ => XS.ladd X43.here hx rfl (hb hby at_219) rfl kk_) ?_
    show G T43 (mkF m 220 #[.val (.int f0), .val (.int f1), .val (.int f2), .val (.int f3), .val (.int ly), .val (.int wh), .val (.ref frq), .val (.int s1), .val (.int s2), .val (.ref sts), .val (.int (2 : Int32)), .val (.long tot), .second, .val (.ref ob), .val (.long gt), .second, .val (.int s2), .val (.int (4 : Int32)), .unset, .unset] [(.long ((((f4 g0 (0 : Int32) s2 (4 : Int32)) + (f4 g1 (1 : Int32) s2 (4 : Int32))) + (f4 g2 (2 : Int32) s2 (4 : Int32))) + (f4 g3 (3 : Int32) s2 (4 : Int32))))])
    refine nameIt (P := fun zz_ : Int64 => G T43 (mkF m 220 #[.val (.int f0), .val (.int f1), .val (.int f2), .val (.int f3), .val (.int ly), .val (.int wh), .val (.ref frq), .val (.int s1), .val (.int s2), .val (.ref sts), .val (.int (2 : Int32)), .val (.long tot), .second, .val (.ref ob), .val (.long gt), .second, .val (.int s2), .val (.int (4 : Int32)), .unset, .unset] [(.long zz_)])) ((((f4 g0 (0 : Int32) s2 (4 : Int32)) + (f4 g1 (1 : Int32) s2 (4 : Int32))) + (f4 g2 (2 : Int32) s2 (4 : Int32))) + (f4 g3 (3 : Int32) s2 (4 : Int32))) (fun ex hex => ?_)
    show G T43 (mkF m 220 #[.val (.int f0), .val (.int f1), .val (.int f2), .val (.int f3), .val (.int ly), .val (.int wh), .val (.ref frq), .val (.int s1), .val (.int s2), .val (.ref sts), .val (.int (2 : Int32)), .val (.long tot), .second, .val (.ref ob), .val (.long gt), .second, .val (.int s2), .val (.int (4 : Int32)), .unset, .unset] [(.long ex)])
    refine hs.go (fun _ kk_ => XS.lstore X43.here hx rfl (hb hby at_220) rfl (l' := #[.val (.int f0), .val (.int f1), .val (.int f2), .val (.int f3), .val (.int ly), .val (.int wh), .val (.ref frq), .val (.int s1), .val (.int s2), .val (.ref sts), .val (.int (2 : Int32)), .val (.long tot), .second, .val (.ref ob), .val (.long gt), .second, .val (.int s2), .val (.int (4 : Int32)), .val (.long ex), .second]) rfl kk_) ?_
    show G T43 (mkF m 222 #[.val (.int f0), .val (.int f1), .val (.int f2), .val (.int f3), .val (.int ly), .val (.int wh), .val (.ref frq), .val (.int s1), .val (.int s2), .val (.ref sts), .val (.int (2 : Int32)), .val (.long tot), .second, .val (.ref ob), .val (.long gt), .second, .val (.int s2), .val (.int (4 : Int32)), .val (.long ex), .second] [])
    refine hs.go (fun _ kk_ => XS.lload X43.here hx rfl (hb hby at_222) rfl  kk_) ?_
    show G T43 (mkF m 224 #[.val (.int f0), .val (.int f1), .val (.int f2), .val (.int f3), .val (.int ly), .val (.int wh), .val (.ref frq), .val (.int s1), .val (.int s2), .val (.ref sts), .val (.int (2 : Int32)), .val (.long tot), .second, .val (.ref ob), .val (.long gt), .second, .val (.int s2), .val (.int (4 : Int32)), .val (.long ex), .second] [(.long gt)])
    refine hs.go (fun _ kk_ => XS.lload X43.here hx rfl (hb hby at_224) rfl  kk_) ?_
    show G T43 (mkF m 226 #[.val (.int f0), .val (.int f1), .val (.int f2), .val (.int f3), .val (.int ly), .val (.int wh), .val (.ref frq), .val (.int s1), .val (.int s2), .val (.ref sts), .val (.int (2 : Int32)), .val (.long tot), .second, .val (.ref ob), .val (.long gt), .second, .val (.int s2), .val (.int (4 : Int32)), .val (.long ex), .second] [(.long ex), (.long gt)])
    refine hs.go (fun _ kk_ => XS.lcmp X43.here hx rfl (hb hby at_226) rfl kk_) ?_
    show G T43 (mkF m 227 #[.val (.int f0), .val (.int f1), .val (.int f2), .val (.int f3), .val (.int ly), .val (.int wh), .val (.ref frq), .val (.int s1), .val (.int s2), .val (.ref sts), .val (.int (2 : Int32)), .val (.long tot), .second, .val (.ref ob), .val (.long gt), .second, .val (.int s2), .val (.int (4 : Int32)), .val (.long ex), .second] [(.int (lcmpW gt ex))])
    refine hs.go (fun _ kk_ => XS.ifNo X43.here hx rfl (hb hby at_227) rfl ((if0 _ _).trans (eqL (hgt.trans ((own_law g0 g1 g2 g3 s2 (4 : Int32) HL).trans hex.symm) : gt = ex)).2) kk_) ?_
    show G T43 (mkF m 230 #[.val (.int f0), .val (.int f1), .val (.int f2), .val (.int f3), .val (.int ly), .val (.int wh), .val (.ref frq), .val (.int s1), .val (.int s2), .val (.ref sts), .val (.int (2 : Int32)), .val (.long tot), .second, .val (.ref ob), .val (.long gt), .second, .val (.int s2), .val (.int (4 : Int32)), .val (.long ex), .second] [])
    refine hs.go (fun _ kk_ => XS.iconst X43.here hx rfl (hb hby at_230) kk_) ?_
    show G T43 (mkF m 231 #[.val (.int f0), .val (.int f1), .val (.int f2), .val (.int f3), .val (.int ly), .val (.int wh), .val (.ref frq), .val (.int s1), .val (.int s2), .val (.ref sts), .val (.int (2 : Int32)), .val (.long tot), .second, .val (.ref ob), .val (.long gt), .second, .val (.int s2), .val (.int (4 : Int32)), .val (.long ex), .second] [(.int (1 : Int32))])
    refine hs.go (fun _ kk_ => XS.goto X43.here hx rfl (pc0 := 231) (pc' := 235) rfl (hb hby at_231) (by decide) (by decide) kk_) ?_
    show G T43 (mkF m 235 #[.val (.int f0), .val (.int f1), .val (.int f2), .val (.int f3), .val (.int ly), .val (.int wh), .val (.ref frq), .val (.int s1), .val (.int s2), .val (.ref sts), .val (.int (2 : Int32)), .val (.long tot), .second, .val (.ref ob), .val (.long gt), .second, .val (.int s2), .val (.int (4 : Int32)), .val (.long ex), .second] [(.int (1 : Int32))])
    exact rRetN fin X43 hx (by decide) (by decide) hret (by simp) (hb hby at_235) (z' := (1 : Int32)) (by decide) rfl
set_option maxRecDepth 65536 in
set_option maxHeartbeats 40000000 in
theorem comes_1 {Post : Tables → Env → Array Value → State → Outcome → State → Prop} (hpost : ∀ tb e args s v u, (limb_1_1.after args s (.returned v) u = true ∧ limb_1_2.after args s (.returned v) u = true ∧ True) → FrameEnd s (.returned v) u (Jvm.fieldLocs frame_1_writes args s ++ Jvm.arrayLocs frame_1_arrays args s ++ Jvm.staticLocs frame_1_statics s) 24 128 → Post tb e args s (.returned v) u) :
    ArmFor flags0 classFile x code maxLocals ret World_1 tables_1 room_1 Calls_1 rest_1 Pre_1 Post := by
  intro l hfl _ _ p e ha hc hk s m args below hf hA hF happ hP
  obtain ⟨hcalls, hrest, hpre⟩ := hP
  obtain ⟨-, -, -, hnamed, -, -, -, hat⟩ := (Spec.applies_iff hf).mp happ
  obtain ⟨hg, hn⟩ := and_e (Cond.before_iff.mp (show (Jvm.Cond.and given_1 narrow_1).before args s = true from hpre))
  obtain ⟨hcnt, hg0⟩ := and_e hg
  obtain ⟨t0, hg1⟩ := and_e hg0
  obtain ⟨t1, hg2⟩ := and_e hg1
  obtain ⟨t2, hg3⟩ := and_e hg2
  obtain ⟨t3, hg4⟩ := and_e hg3
  obtain ⟨t4, hg5⟩ := and_e hg4
  have t5 := hg5
  obtain ⟨w0, w1, w2, w3, w4, w5, rfl⟩ : ∃ w0 w1 w2 w3 w4 w5 : Value, args = #[w0, w1, w2, w3, w4, w5] := by
    have hs : args.size = 6 := by simpa [Cond.value, given_1] using hcnt
    obtain ⟨L⟩ := args
    match L, hs with
    | [w0, w1, w2, w3, w4, w5], _ => exact ⟨w0, w1, w2, w3, w4, w5, rfl⟩
  have hw := fun d (hd : d ∈ tables_1) => atoms_spec (ws := Jvm.Cond.code x code maxLocals ret :: tables_1) hat d (List.mem_cons_of_mem _ hd)
  have hfit : Fit s := fun {y c} hc i hi => by
    obtain ⟨ha, rfl⟩ := Array.getElem?_eq_some_iff.mp hc
    have q := List.all_eq_true.mp ((Array.all_eq_true_iff_forall_mem.mp hF) _ (Array.getElem_mem ha)) i (List.mem_range.mpr hi)
    simpa [Array.getElem?_eq_getElem hi] using q
  obtain ⟨i0, ei0⟩ := is_v t0
  obtain rfl : w0 = (.int i0) := Option.some.inj ei0
  obtain ⟨i1, ei1⟩ := is_v t1
  obtain rfl : w1 = (.int i1) := Option.some.inj ei1
  obtain ⟨i2, ei2⟩ := is_v t2
  obtain rfl : w2 = (.int i2) := Option.some.inj ei2
  obtain ⟨i3, ei3⟩ := is_v t3
  obtain rfl : w3 = (.int i3) := Option.some.inj ei3
  obtain ⟨i4, ei4⟩ := is_v t4
  obtain rfl : w4 = (.int i4) := Option.some.inj ei4
  obtain ⟨i5, ei5⟩ := is_v t5
  obtain rfl : w5 = (.int i5) := Option.some.inj ei5
  obtain ⟨n, o, h1, h2, h3, _, L, rfl, ⟨rfl, N⟩, hq⟩ := rm0 l s _ hw tables_1 i0 i1 i2 i3 i4 i5  s.heap s.heap.size (Nat.le_refl _)  p e ha hc hk s m _ below hf ((Spec.applies_iff_loose hf).mp happ).1 ⟨rfl, State.Warmed39.refl s, rfl⟩ trivial
  refine ⟨n, _, h1, h2, h3, hpost _ _ _ _ _ _ ⟨Cond.after_iff.mpr rfl, Cond.after_iff.mpr (eq_i res_at (Term.int_eval (1)) rfl), trivial⟩ ⟨hq.1, hq.2.1, (hq.2.2.sift fun y hy => Or.inr (N y hy)).mono (by decide) (by decide)⟩⟩
theorem main_1_1 : Claimed_1_1 := comes_1 fun _ _ _ _ _ _ h hF => ⟨h.1, hF⟩
theorem main_1_2 : Claimed_1_2 := comes_1 fun _ _ _ _ _ _ h hF => ⟨h.2.1, hF⟩
end Jvm.Pilot.@@N@@
namespace Jvm.Pilot.@@N@@
open Jvm Jvm.ClassFile Sem Op Lib Jvm.Free Jvm.Stand Jvm.Pilot.@@N@@.Jvm.D
/-! MADE BY PROGRAM (witnessworld.py) out of the Statement's table words and the real class files: 15 classes; the members and pool entries that the words name. The judged class is class 1, her method 1. -/
namespace start1
open Jvm.ClassFile
def u (s : String) : CpInfo := .utf8 (stringToUtf16 s)
/-- a pool by its gaps: so many unusable entries, then the entry; so many at the end -/
def gap : Nat → List CpInfo → List CpInfo
  | 0, r => r
  | n + 1, r => .unusable :: gap n r
def poolList (es : List (Nat × CpInfo)) (last : Nat) : List CpInfo := es.foldr (fun e r => gap e.1 (e.2 :: r)) (gap last [])
def pool (es : List (Nat × CpInfo)) (last : Nat) : Array CpInfo := ⟨poolList es last⟩
def fileOf (pool : Array CpInfo) (this : Nat) (attrs : Array Attribute := #[]) (ms : Array MethodInfo := #[]) (fl : Nat := 33) (sup : Nat := 0) (ifs : Array Nat := #[]) (fds : Array FieldInfo := #[]) : ClassFile where
  minorVersion := 0
  majorVersion := 65
  constantPool := pool
  accessFlags := fl
  thisClass := this
  superClass := sup
  interfaces := ifs
  fields := fds
  methods := ms
  attributes := attrs
def plain (name : String) (sup : Option ClassId) : Class where
  name := name
  kind := .ordinary
  loader := none
  accessFlags := 33
  super := sup
  interfaces := #[]
  cf := none
  fields := #[]
  methods := #[]
  instanceTypes := #[]
  staticTypes := #[]
  resolved := #[]
  callSites := []
  init := .initialized
  statics := none
  mirror := none

def pool0 : Array CpInfo := pool [(5, u "<init>"), (0, u "()V"), (1, .class_ 10), (1, u "java/lang/Object")] 113

def k0c0 : Code := { maxStack := 0, maxLocals := 1, code := object_method_1_code, exceptionTable := #[], attributes := #[] }
def k0m0 : Method := { name := "<init>", desc := "()V", sig := { parameters := [], returnType := none }, accessFlags := 1, code := some k0c0 }
/-- java/lang/Object -/
def k0 : Class := { plain "java/lang/Object" none with
  accessFlags := 33
  interfaces := #[]
  cf := some (fileOf pool0 8 #[] #[{ accessFlags := 1, nameIndex := 5, descriptorIndex := 6, attributes := #[] }] 33 0 #[] #[])
  fields := #[]
  methods := #[k0m0]
  instanceTypes := #[]
  staticTypes := #[]
  resolved := Array.replicate 124 none
  statics := none }

def pool1 : Array CpInfo := pool [(2, .class_ 4), (1, u "java/lang/Object"), (0, u "<init>"), (0, u "()V"), (0, .integer 2147483647), (0, .class_ 9), (0, u "com/example/vector_space_ranker/vectorspaceranker/Index"), (0, .class_ 11), (0, u "java/lang/String"), (0, .methodref 8 13), (0, .nameAndType 5 14), (0, u "(Lcom/example/vector_space_ranker/vectorspaceranker/Analysis;[Ljava/lang/String;[I[Ljava/lang/String;[I[I[IJ)V"), (0, .methodref 8 16), (0, .nameAndType 17 18), (0, u "collectionFrequency"), (0, u "(I)J"), (0, .methodref 20 21), (0, .class_ 22), (0, .nameAndType 23 24), (0, u "com/example/vector_space_ranker/vectorspaceranker/IndexCollectionFrequencyPinLaw"), (0, u "part"), (0, u "(IIII)J"), (2, u "law"), (0, u "(IIIIII)Z")] 5

def k1m0 : Method := { name := "<init>", desc := "()V", sig := { parameters := [], returnType := none }, accessFlags := 1, code := none }
def k1c1 : Code := { maxStack := 11, maxLocals := 20, code := code, exceptionTable := #[], attributes := #[] }
def k1m1 : Method := { name := "law", desc := "(IIIIII)Z", sig := { parameters := [.int, .int, .int, .int, .int, .int], returnType := some .boolean }, accessFlags := 9, code := some k1c1 }
def k1c2 : Code := { maxStack := 2, maxLocals := 4, code := method_3_code, exceptionTable := #[], attributes := #[] }
def k1m2 : Method := { name := "part", desc := "(IIII)J", sig := { parameters := [.int, .int, .int, .int], returnType := some .long }, accessFlags := 10, code := some k1c2 }
/-- com/example/vector_space_ranker/vectorspaceranker/IndexCollectionFrequencyPinLaw -/
def k1 : Class := { plain "com/example/vector_space_ranker/vectorspaceranker/IndexCollectionFrequencyPinLaw" (some 0) with
  accessFlags := 49
  interfaces := #[]
  cf := some (fileOf pool1 20 #[] #[{ accessFlags := 1, nameIndex := 5, descriptorIndex := 6, attributes := #[] }, { accessFlags := 9, nameIndex := 27, descriptorIndex := 28, attributes := #[] }, { accessFlags := 10, nameIndex := 23, descriptorIndex := 24, attributes := #[] }] 49 2 #[] #[])
  fields := #[]
  methods := #[k1m0, k1m1, k1m2]
  instanceTypes := #[]
  staticTypes := #[]
  resolved := Array.replicate 34 none
  statics := none }

def pool2 : Array CpInfo := pool [(3, .methodref 4 5), (0, .class_ 6), (0, .nameAndType 7 8), (0, u "java/lang/Object"), (0, u "<init>"), (0, u "()V"), (0, .fieldref 10 11), (0, .class_ 12), (0, .nameAndType 13 14), (0, u "com/example/vector_space_ranker/vectorspaceranker/Index"), (0, u "analysis"), (0, u "Lcom/example/vector_space_ranker/vectorspaceranker/Analysis;"), (0, .fieldref 10 16), (0, .nameAndType 17 18), (0, u "docnos"), (0, u "[Ljava/lang/String;"), (0, .fieldref 10 20), (0, .nameAndType 21 22), (0, u "characterLengths"), (0, u "[I"), (0, .fieldref 10 24), (0, .nameAndType 25 18), (0, u "terms"), (0, .fieldref 10 27), (0, .nameAndType 28 22), (0, u "postingStarts"), (0, .fieldref 10 30), (0, .nameAndType 31 22), (0, u "postingDocuments"), (0, .fieldref 10 33), (0, .nameAndType 34 22), (0, u "postingFrequencies"), (0, .fieldref 10 36), (0, .nameAndType 37 38), (0, u "tokenCount"), (0, u "J"), (30, .methodref 10 70), (0, .nameAndType 71 72), (0, u "postingsStart"), (0, u "(I)I"), (0, .methodref 10 74), (0, .nameAndType 75 72), (0, u "postingsEnd"), (3, u "MAX_POSTINGS"), (0, u "I"), (2, u "(Lcom/example/vector_space_ranker/vectorspaceranker/Analysis;[Ljava/lang/String;[I[Ljava/lang/String;[I[I[IJ)V"), (19, u "collectionFrequency"), (0, u "(I)J")] 7

def k2c0 : Code := { maxStack := 3, maxLocals := 10, code := prog_14_method_1_code, exceptionTable := #[], attributes := #[] }
def k2m0 : Method := { name := "<init>", desc := "(Lcom/example/vector_space_ranker/vectorspaceranker/Analysis;[Ljava/lang/String;[I[Ljava/lang/String;[I[I[IJ)V", sig := { parameters := [(.object "com/example/vector_space_ranker/vectorspaceranker/Analysis"), (.array (.object "java/lang/String")), (.array .int), (.array (.object "java/lang/String")), (.array .int), (.array .int), (.array .int), .long], returnType := none }, accessFlags := 0, code := some k2c0 }
def k2c1 : Code := { maxStack := 4, maxLocals := 5, code := prog_14_method_14_code, exceptionTable := #[], attributes := #[] }
def k2m1 : Method := { name := "collectionFrequency", desc := "(I)J", sig := { parameters := [.int], returnType := some .long }, accessFlags := 0, code := some k2c1 }
def k2c2 : Code := { maxStack := 2, maxLocals := 2, code := prog_14_method_16_code, exceptionTable := #[], attributes := #[] }
def k2m2 : Method := { name := "postingsStart", desc := "(I)I", sig := { parameters := [.int], returnType := some .int }, accessFlags := 0, code := some k2c2 }
def k2c3 : Code := { maxStack := 3, maxLocals := 2, code := prog_14_method_17_code, exceptionTable := #[], attributes := #[] }
def k2m3 : Method := { name := "postingsEnd", desc := "(I)I", sig := { parameters := [.int], returnType := some .int }, accessFlags := 0, code := some k2c3 }
/-- com/example/vector_space_ranker/vectorspaceranker/Index -/
def k2 : Class := { plain "com/example/vector_space_ranker/vectorspaceranker/Index" (some 0) with
  accessFlags := 49
  interfaces := #[]
  cf := some (fileOf pool2 10 #[] #[{ accessFlags := 0, nameIndex := 7, descriptorIndex := 83, attributes := #[] }, { accessFlags := 0, nameIndex := 103, descriptorIndex := 104, attributes := #[] }, { accessFlags := 0, nameIndex := 71, descriptorIndex := 72, attributes := #[] }, { accessFlags := 0, nameIndex := 75, descriptorIndex := 72, attributes := #[] }] 49 4 #[] #[{ accessFlags := 24, nameIndex := 79, descriptorIndex := 80, attributes := #[] }, { accessFlags := 18, nameIndex := 13, descriptorIndex := 14, attributes := #[] }, { accessFlags := 18, nameIndex := 17, descriptorIndex := 18, attributes := #[] }, { accessFlags := 18, nameIndex := 21, descriptorIndex := 22, attributes := #[] }, { accessFlags := 18, nameIndex := 25, descriptorIndex := 18, attributes := #[] }, { accessFlags := 18, nameIndex := 28, descriptorIndex := 22, attributes := #[] }, { accessFlags := 18, nameIndex := 31, descriptorIndex := 22, attributes := #[] }, { accessFlags := 18, nameIndex := 34, descriptorIndex := 22, attributes := #[] }, { accessFlags := 18, nameIndex := 37, descriptorIndex := 38, attributes := #[] }])
  fields := #[{ name := "MAX_POSTINGS", type := .int, accessFlags := 24, slot := 0, constantValue := 0 }, { name := "analysis", type := (.object "com/example/vector_space_ranker/vectorspaceranker/Analysis"), accessFlags := 18, slot := 0, constantValue := 0 }, { name := "docnos", type := (.array (.object "java/lang/String")), accessFlags := 18, slot := 1, constantValue := 0 }, { name := "characterLengths", type := (.array .int), accessFlags := 18, slot := 2, constantValue := 0 }, { name := "terms", type := (.array (.object "java/lang/String")), accessFlags := 18, slot := 3, constantValue := 0 }, { name := "postingStarts", type := (.array .int), accessFlags := 18, slot := 4, constantValue := 0 }, { name := "postingDocuments", type := (.array .int), accessFlags := 18, slot := 5, constantValue := 0 }, { name := "postingFrequencies", type := (.array .int), accessFlags := 18, slot := 6, constantValue := 0 }, { name := "tokenCount", type := .long, accessFlags := 18, slot := 7, constantValue := 0 }]
  methods := #[k2m0, k2m1, k2m2, k2m3]
  instanceTypes := #[(.object "com/example/vector_space_ranker/vectorspaceranker/Analysis"), (.array (.object "java/lang/String")), (.array .int), (.array (.object "java/lang/String")), (.array .int), (.array .int), (.array .int), .long]
  staticTypes := #[.int]
  resolved := Array.replicate 112 none
  statics := none }

def pool3 : Array CpInfo := pool [(1, .class_ 2), (0, u "java/io/Serializable"), (0, .class_ 4), (0, u "java/lang/Object")] 2

/-- java/io/Serializable -/
def k3 : Class := { plain "java/io/Serializable" (some 0) with
  accessFlags := 1537
  interfaces := #[]
  cf := some (fileOf pool3 1 #[] #[] 1537 3 #[] #[])
  fields := #[]
  methods := #[]
  instanceTypes := #[]
  staticTypes := #[]
  resolved := Array.replicate 7 none
  statics := none }

def pool4 : Array CpInfo := pool [(1, .class_ 2), (0, u "java/lang/Comparable"), (0, .class_ 4), (0, u "java/lang/Object")] 7

/-- java/lang/Comparable -/
def k4 : Class := { plain "java/lang/Comparable" (some 0) with
  accessFlags := 1537
  interfaces := #[]
  cf := some (fileOf pool4 1 #[] #[] 1537 3 #[] #[])
  fields := #[]
  methods := #[]
  instanceTypes := #[]
  staticTypes := #[]
  resolved := Array.replicate 12 none
  statics := none }

def pool5 : Array CpInfo := pool [(2, .class_ 4), (1, u "java/lang/CharSequence"), (42, .class_ 48), (0, u "java/lang/CharSequence$1CodePointIterator"), (10, .class_ 60), (0, u "java/lang/CharSequence$1CharIterator"), (5, .class_ 67), (0, u "java/lang/Object")] 63

/-- java/lang/CharSequence -/
def k5 : Class := { plain "java/lang/CharSequence" (some 0) with
  accessFlags := 1537
  interfaces := #[]
  cf := some (fileOf pool5 2 #[.nestMembers #[47, 59]] #[] 1537 66 #[] #[])
  fields := #[]
  methods := #[]
  instanceTypes := #[]
  staticTypes := #[]
  resolved := Array.replicate 131 none
  statics := none }

def pool6 : Array CpInfo := pool [(1, .class_ 2), (0, u "java/lang/constant/Constable"), (0, .class_ 4), (0, u "java/lang/Object")] 6

/-- java/lang/constant/Constable -/
def k6 : Class := { plain "java/lang/constant/Constable" (some 0) with
  accessFlags := 1537
  interfaces := #[]
  cf := some (fileOf pool6 1 #[] #[] 1537 3 #[] #[])
  fields := #[]
  methods := #[]
  instanceTypes := #[]
  staticTypes := #[]
  resolved := Array.replicate 11 none
  statics := none }

def pool7 : Array CpInfo := pool [(1, .class_ 2), (0, u "java/lang/constant/ConstantDesc"), (0, .class_ 4), (0, u "java/lang/Object")] 32

/-- java/lang/constant/ConstantDesc -/
def k7 : Class := { plain "java/lang/constant/ConstantDesc" (some 0) with
  accessFlags := 1537
  interfaces := #[]
  cf := some (fileOf pool7 1 #[] #[] 1537 3 #[] #[])
  fields := #[]
  methods := #[]
  instanceTypes := #[]
  staticTypes := #[]
  resolved := Array.replicate 37 none
  statics := none }

def pool8 : Array CpInfo := pool [(2, .class_ 4), (1, u "java/lang/Object"), (0, u "<init>"), (0, u "()V"), (3, .class_ 12), (1, u "java/lang/String"), (0, u "value"), (0, u "[B"), (2, u "coder"), (0, u "B"), (2, u "hash"), (0, u "I"), (2, u "hashIsZero"), (0, u "Z"), (13, u "COMPACT_STRINGS"), (534, .class_ 576), (0, u "java/lang/CharSequence"), (22, u "CASE_INSENSITIVE_ORDER"), (0, u "Ljava/util/Comparator;"), (500, u "serialPersistentFields"), (0, u "[Ljava/io/ObjectStreamField;"), (0, .class_ 1104), (0, u "java/lang/String$CaseInsensitiveComparator"), (1, .class_ 1107), (0, u "java/io/Serializable"), (0, .class_ 1109), (0, u "java/lang/Comparable"), (0, .class_ 1111), (0, u "java/lang/constant/Constable"), (0, .class_ 1113), (0, u "java/lang/constant/ConstantDesc"), (2, u "serialVersionUID"), (0, u "J"), (3, u "REPL"), (0, u "C"), (2, u "LATIN1"), (1, u "UTF16")] 323

def k8m0 : Method := { name := "<init>", desc := "()V", sig := { parameters := [], returnType := none }, accessFlags := 1, code := none }
/-- java/lang/String -/
def k8 : Class := { plain "java/lang/String" (some 0) with
  accessFlags := 49
  interfaces := #[3, 4, 5, 6, 7]
  cf := some (fileOf pool8 10 #[.nestMembers #[1103]] #[{ accessFlags := 1, nameIndex := 5, descriptorIndex := 6, attributes := #[] }] 49 2 #[1106, 1108, 575, 1110, 1112] #[{ accessFlags := 18, nameIndex := 13, descriptorIndex := 14, attributes := #[] }, { accessFlags := 18, nameIndex := 17, descriptorIndex := 18, attributes := #[] }, { accessFlags := 2, nameIndex := 21, descriptorIndex := 22, attributes := #[] }, { accessFlags := 2, nameIndex := 25, descriptorIndex := 26, attributes := #[] }, { accessFlags := 26, nameIndex := 1116, descriptorIndex := 1117, attributes := #[] }, { accessFlags := 24, nameIndex := 40, descriptorIndex := 26, attributes := #[] }, { accessFlags := 26, nameIndex := 1101, descriptorIndex := 1102, attributes := #[] }, { accessFlags := 26, nameIndex := 1121, descriptorIndex := 1122, attributes := #[] }, { accessFlags := 25, nameIndex := 599, descriptorIndex := 600, attributes := #[] }, { accessFlags := 24, nameIndex := 1125, descriptorIndex := 18, attributes := #[] }, { accessFlags := 24, nameIndex := 1127, descriptorIndex := 18, attributes := #[] }])
  fields := #[{ name := "value", type := (.array .byte), accessFlags := 18, slot := 0, constantValue := 0 }, { name := "coder", type := .byte, accessFlags := 18, slot := 1, constantValue := 0 }, { name := "hash", type := .int, accessFlags := 2, slot := 2, constantValue := 0 }, { name := "hashIsZero", type := .boolean, accessFlags := 2, slot := 3, constantValue := 0 }, { name := "serialVersionUID", type := .long, accessFlags := 26, slot := 0, constantValue := 0 }, { name := "COMPACT_STRINGS", type := .boolean, accessFlags := 24, slot := 1, constantValue := 0 }, { name := "serialPersistentFields", type := (.array (.object "java/io/ObjectStreamField")), accessFlags := 26, slot := 2, constantValue := 0 }, { name := "REPL", type := .char, accessFlags := 26, slot := 3, constantValue := 0 }, { name := "CASE_INSENSITIVE_ORDER", type := (.object "java/util/Comparator"), accessFlags := 25, slot := 4, constantValue := 0 }, { name := "LATIN1", type := .byte, accessFlags := 24, slot := 5, constantValue := 0 }, { name := "UTF16", type := .byte, accessFlags := 24, slot := 6, constantValue := 0 }]
  methods := #[k8m0]
  instanceTypes := #[(.array .byte), .byte, .int, .boolean]
  staticTypes := #[.long, .boolean, (.array (.object "java/io/ObjectStreamField")), .char, (.object "java/util/Comparator"), .byte, .byte]
  resolved := Array.replicate 1451 none
  statics := none }

def pool9 : Array CpInfo := pool [(1, u "java/lang/Cloneable"), (0, .class_ 1), (0, u "java/lang/Object"), (0, .class_ 3)] 3

/-- java/lang/Cloneable -/
def k9 : Class := { plain "java/lang/Cloneable" (some 0) with
  accessFlags := 1537
  interfaces := #[]
  cf := some (fileOf pool9 2 #[] #[] 1537 4 #[] #[])
  fields := #[]
  methods := #[]
  instanceTypes := #[]
  staticTypes := #[]
  resolved := Array.replicate 8 none
  statics := none }

/-- the primitive byte -/
def k10 : Class := { plain "byte" none with kind := .primitive 'B', accessFlags := 0x411 }
/-- [B -/
def k11 : Class := { plain "[B" (some 0) with kind := .array 10 .byte, interfaces := #[9, 3], accessFlags := 1041 }

/-- the primitive int -/
def k12 : Class := { plain "int" none with kind := .primitive 'I', accessFlags := 0x411 }
/-- [I -/
def k13 : Class := { plain "[I" (some 0) with kind := .array 12 .int, interfaces := #[9, 3], accessFlags := 1041 }

/-- [Ljava/lang/String; -/
def k14 : Class := { plain "[Ljava/lang/String;" (some 0) with kind := .array 8 (.object "java/lang/String"), interfaces := #[9, 3], accessFlags := 1041 }

def heap : Heap := #[]
def classes : Array Class := #[k0, k1, k2, k3, k4, k5, k6, k7, k8, k9, k10, k11, k12, k13, k14]
def interned : List (Array UInt16 × Addr) := []
def slotsUsed : Nat := 0
def theMethod : MethodId := ⟨1, 1⟩
def args0 : Array Value := #[.int 5, .int 5, .int 5, .int 5, .int 5, .int 5]
def aboutOver (below : List Frame) : State where
  vm := { classes := classes, interned := interned.toArray }
  heap := heap
  slotsUsed := slotsUsed
  threads := #[{ frames := .invoking theMethod args0 :: below }]
def below0 : List Frame := [.native { method := ⟨0, 0⟩, args := #[] }]
def about1 : State := aboutOver below0
def p0 : Program := .bare "" "" ""
def e0 : Env := launch0.env 0 0 0
theorem w_frames : about1.frames = Frame.invoking theMethod args0 :: below0 := rfl
set_option maxRecDepth 65536 in
theorem w_args : argsFit about1.vm theMethod args0 = true := by decide +kernel
set_option maxRecDepth 65536 in
theorem w_heap : heapFits about1 = true := by decide +kernel
set_option maxRecDepth 65536 in
theorem w_runnable : about1.curStatus? = some .runnable := by decide +kernel
set_option maxRecDepth 65536 in
theorem w_alone : about1.alone = true := by decide +kernel
set_option maxRecDepth 65536 in
theorem w_named : about1.methodNamed? x = some theMethod := by decide +kernel
set_option maxRecDepth 65536 in
theorem w_hears : about1.hears theMethod below0 = true := by decide +kernel
set_option maxRecDepth 65536 in
theorem w_ripe : about1.ripe theMethod args0 below0 = true := by decide +kernel
theorem w_running : about1.status = .running := rfl
set_option maxRecDepth 65536 in
theorem w_room : about1.hasRoom e0.platform room_1 = true :=
  launch0.hasRoom_least _ room_1 (by decide +kernel) (by decide +kernel) (by decide +kernel) (by decide +kernel) (by decide +kernel) (by decide +kernel)
theorem allAtoms_all (ts : List Jvm.Cond) (a : Array Jvm.Value) (st : Jvm.State) : (allAtoms ts).before a st = ts.all (fun c => c.before a st) := by
  induction ts with
  | nil => rfl
  | cons c t ih =>
    show (Jvm.Cond.and c (allAtoms t)).before a st = _
    rw [Jvm.Cond.before_and, ih, List.all_cons]
def words1 : List Jvm.Cond := Jvm.Cond.code x code maxLocals ret :: tables_1
/-- a 'code' word, met by the world's own term for the bytes: nothing is compared byte by byte -/
theorem code_word {y : MethodName} {bytes : ByteArray} {mx : Nat} {rt : Option FieldType} {a : Array Value} {s : State} {m : MethodId} {meth : Method} {c : Code} (h1 : s.methodNamed? y = some m) (h2 : s.vm.method? m = some meth) (h3 : meth.code = some c) (h4 : c.code = bytes)
    (h5 : (c.maxLocals == mx && c.exceptionTable.isEmpty && decide (c.maxStack ≤ mostOperands) && decide (meth.sig.returnType = rt) && !meth.locks && decide (parseMethodDescriptor y.desc = some meth.sig)) = true) : (Jvm.Cond.code y bytes mx rt).before a s = true := by
  simp only [Bool.and_eq_true, beq_iff_eq, Bool.not_eq_true', decide_eq_true_eq] at h5
  obtain ⟨⟨⟨⟨⟨g1, g2⟩, g3⟩, g4⟩, g5⟩, g6⟩ := h5
  simp [Cond.before, Cond.holds, Cond.value, h1, h2, h3, h4, g1, g2, g3, g4, g5, g6]
def isCode : Jvm.Cond → Bool
  | .code _ _ _ _ => true
  | _ => false
theorem all_split {L : List Jvm.Cond} {P : Jvm.Cond → Bool} (h1 : L.all (fun c => isCode c || P c) = true) (h2 : ∀ c ∈ L.filter isCode, P c = true) : L.all P = true := by
  refine List.all_eq_true.mpr fun c hc => ?_
  have h := List.all_eq_true.mp h1 c hc
  rcases Bool.eq_false_or_eq_true (isCode c) with hi | hi
  · exact h2 c (List.mem_filter.mpr ⟨hc, hi⟩)
  · simpa [hi] using h
set_option maxRecDepth 65536 in
theorem w_c0 : (Jvm.Cond.code x code maxLocals ret).before args0 about1 = true := code_word (m := ⟨1, 1⟩) (meth := k1m1) (c := k1c1) (by decide +kernel) rfl rfl rfl (by decide +kernel)
set_option maxRecDepth 65536 in
theorem w_c1 : (Jvm.Cond.code ({ cls := "com/example/vector_space_ranker/vectorspaceranker/Index", name := "<init>", desc := "(Lcom/example/vector_space_ranker/vectorspaceranker/Analysis;[Ljava/lang/String;[I[Ljava/lang/String;[I[I[IJ)V" } : Jvm.MethodName) prog_14_method_1_code (10 : Nat) (Option.none : Option Jvm.ClassFile.FieldType)).before args0 about1 = true := code_word (m := ⟨2, 0⟩) (meth := k2m0) (c := k2c0) (by decide +kernel) rfl rfl rfl (by decide +kernel)
set_option maxRecDepth 65536 in
theorem w_c2 : (Jvm.Cond.code ({ cls := "java/lang/Object", name := "<init>", desc := "()V" } : Jvm.MethodName) object_method_1_code (1 : Nat) (Option.none : Option Jvm.ClassFile.FieldType)).before args0 about1 = true := code_word (m := ⟨0, 0⟩) (meth := k0m0) (c := k0c0) (by decide +kernel) rfl rfl rfl (by decide +kernel)
set_option maxRecDepth 65536 in
theorem w_c3 : (Jvm.Cond.code ({ cls := "com/example/vector_space_ranker/vectorspaceranker/Index", name := "collectionFrequency", desc := "(I)J" } : Jvm.MethodName) prog_14_method_14_code (5 : Nat) (Option.some Jvm.ClassFile.FieldType.long)).before args0 about1 = true := code_word (m := ⟨2, 1⟩) (meth := k2m1) (c := k2c1) (by decide +kernel) rfl rfl rfl (by decide +kernel)
set_option maxRecDepth 65536 in
theorem w_c4 : (Jvm.Cond.code ({ cls := "com/example/vector_space_ranker/vectorspaceranker/Index", name := "postingsStart", desc := "(I)I" } : Jvm.MethodName) prog_14_method_16_code (2 : Nat) (Option.some Jvm.ClassFile.FieldType.int)).before args0 about1 = true := code_word (m := ⟨2, 2⟩) (meth := k2m2) (c := k2c2) (by decide +kernel) rfl rfl rfl (by decide +kernel)
set_option maxRecDepth 65536 in
theorem w_c5 : (Jvm.Cond.code ({ cls := "com/example/vector_space_ranker/vectorspaceranker/Index", name := "postingsEnd", desc := "(I)I" } : Jvm.MethodName) prog_14_method_17_code (2 : Nat) (Option.some Jvm.ClassFile.FieldType.int)).before args0 about1 = true := code_word (m := ⟨2, 3⟩) (meth := k2m3) (c := k2c3) (by decide +kernel) rfl rfl rfl (by decide +kernel)
set_option maxRecDepth 65536 in
theorem w_c6 : (Jvm.Cond.code ({ cls := "com/example/vector_space_ranker/vectorspaceranker/IndexCollectionFrequencyPinLaw", name := "part", desc := "(IIII)J" } : Jvm.MethodName) method_3_code (4 : Nat) (Option.some Jvm.ClassFile.FieldType.long)).before args0 about1 = true := code_word (m := ⟨1, 2⟩) (meth := k1m2) (c := k1c2) (by decide +kernel) rfl rfl rfl (by decide +kernel)
def codes1 : List Jvm.Cond := [Jvm.Cond.code x code maxLocals ret, Jvm.Cond.code ({ cls := "com/example/vector_space_ranker/vectorspaceranker/Index", name := "<init>", desc := "(Lcom/example/vector_space_ranker/vectorspaceranker/Analysis;[Ljava/lang/String;[I[Ljava/lang/String;[I[I[IJ)V" } : Jvm.MethodName) prog_14_method_1_code (10 : Nat) (Option.none : Option Jvm.ClassFile.FieldType), Jvm.Cond.code ({ cls := "java/lang/Object", name := "<init>", desc := "()V" } : Jvm.MethodName) object_method_1_code (1 : Nat) (Option.none : Option Jvm.ClassFile.FieldType), Jvm.Cond.code ({ cls := "com/example/vector_space_ranker/vectorspaceranker/Index", name := "collectionFrequency", desc := "(I)J" } : Jvm.MethodName) prog_14_method_14_code (5 : Nat) (Option.some Jvm.ClassFile.FieldType.long), Jvm.Cond.code ({ cls := "com/example/vector_space_ranker/vectorspaceranker/Index", name := "postingsStart", desc := "(I)I" } : Jvm.MethodName) prog_14_method_16_code (2 : Nat) (Option.some Jvm.ClassFile.FieldType.int), Jvm.Cond.code ({ cls := "com/example/vector_space_ranker/vectorspaceranker/Index", name := "postingsEnd", desc := "(I)I" } : Jvm.MethodName) prog_14_method_17_code (2 : Nat) (Option.some Jvm.ClassFile.FieldType.int), Jvm.Cond.code ({ cls := "com/example/vector_space_ranker/vectorspaceranker/IndexCollectionFrequencyPinLaw", name := "part", desc := "(IIII)J" } : Jvm.MethodName) method_3_code (4 : Nat) (Option.some Jvm.ClassFile.FieldType.long)]
set_option maxRecDepth 65536 in
theorem codes_eq : words1.filter isCode = codes1 := rfl
theorem w_codes : ∀ c ∈ words1.filter isCode, c.before args0 about1 = true := by
  rw [codes_eq]
  intro c hc
  simp only [codes1, List.mem_cons, List.not_mem_nil, or_false] at hc
  rcases hc with rfl | rfl | rfl | rfl | rfl | rfl | rfl
  · exact w_c0
  · exact w_c1
  · exact w_c2
  · exact w_c3
  · exact w_c4
  · exact w_c5
  · exact w_c6
set_option maxRecDepth 65536 in
theorem w_t1 : (words1.take 24).all (fun c => isCode c || c.before args0 about1) = true := by decide +kernel
set_option maxRecDepth 65536 in
theorem w_t2 : ((words1.drop 24).take 24).all (fun c => isCode c || c.before args0 about1) = true := by decide +kernel
set_option maxRecDepth 65536 in
theorem w_t3 : ((words1.drop 24).drop 24).all (fun c => isCode c || c.before args0 about1) = true := by decide +kernel
theorem w_tables : (allAtoms (Jvm.Cond.code x code maxLocals ret :: tables_1)).before args0 about1 = true := by
  rw [allAtoms_all]
  show words1.all (fun c => c.before args0 about1) = true
  refine all_split ?_ w_codes
  rw [← List.take_append_drop 24 words1, List.all_append, w_t1, ← List.take_append_drop 24 (words1.drop 24), List.all_append, w_t2, w_t3]
  rfl
set_option maxRecDepth 65536 in
theorem w_case : (Jvm.Cond.and given_1 narrow_1).before args0 about1 = true := by decide +kernel
theorem w_applies : (headSpec (Jvm.Cond.code x code maxLocals ret :: tables_1) room_1).applies x e0.platform about1 = true :=
  (Spec.applies_iff w_frames).mpr ⟨w_running, w_runnable, w_alone, w_named, w_hears, w_ripe, w_room, w_tables⟩
theorem atStart : AtStart classFile x code maxLocals ret World_1 tables_1 room_1 Calls_1 rest_1 Pre_1 launch0 p0 e0 about1 theMethod args0 below0 :=
  ⟨lists_1, trivial, launch0.admits_env _ _ _, launch0.least_env, fairChoices_fair.cas, fairChoices_fair.clock, w_frames, w_args, w_heap, w_applies, trivial, trivial, w_case⟩
end start1
theorem witness_1 : WitnessClaimed_1 := ⟨start1.p0, start1.e0, start1.about1, start1.theMethod, start1.args0, start1.below0, start1.atStart⟩
end Jvm.Pilot.@@N@@
