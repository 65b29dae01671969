import JvmDerived
import JvmDerived.Pilot.@@N@@Statement
import JvmDerived.Pilot.@@N@@Code
set_option linter.unusedVariables false
set_option linter.unusedSimpArgs false
set_option maxHeartbeats 4000000
namespace Jvm.Pilot.@@N@@
open Jvm Jvm.ClassFile Sem Op Lib Jvm.Free Jvm.Stand Jvm.LawKit Jvm.RoadKit Bundle Jvm.Pilot.@@N@@.Jvm.D
/-! own kit: a walk read backwards: G T g says that from the state T with g on top the body comes to a good end -/
section OwnKit
variable {p : Program} {l : Launch} {e : Env} {R : Room} {s : State} {m : MethodId} {args : Array Value} {below : List Frame} {meth : Method} {c : Code} {T : State} {cells slots : Nat} {Z : State} {a0 : Array Value} {h : Heap} {n0 : Nat} {G : State → JFrame → Prop} {Q : Option Value → Heap → Prop}
def Clo (p : Program) (e : Env) (below : List Frame) (G : State → JFrame → Prop) : Prop := ∀ (T T' : State) (g g' : JFrame), (∀ t, Steps p.tables e below (T'.setTop g') t → Steps p.tables e below (T.setTop g) t) → G T' g' → G T g
theorem Clo.go (hs : Clo p e below G) {T T' : State} {g g' : JFrame} (st : ∀ t, Steps p.tables e below (T'.setTop g') t → Steps p.tables e below (T.setTop g) t) (k : G T' g') : G T g := hs T T' g g' st k
def Sd (p : Program) (l : Launch) (e : Env) (R : Room) (s : State) (m : MethodId) (args : Array Value) (below : List Frame) (meth : Method) (c : Code) (n0 : Nat) (T : State) (h : Heap) (cells slots : Nat) : Prop := ∃ locs, Stand p l e R s m args below meth c T locs cells slots ∧ Fr n0 locs ∧ T.heap = h
theorem Sd.here (X : Sd p l e R s m args below meth c n0 T h cells slots) : At T m c below := by obtain ⟨_, X, _⟩ := X; exact X.here
theorem Sd.more (X : Sd p l e R s m args below meth c n0 T h cells slots) {k n : Nat} (hk : cells ≤ k) (hn : slots ≤ n) : Sd p l e R s m args below meth c n0 T h k n := by obtain ⟨L, X, N⟩ := X; exact ⟨L, X.more hk hn, N⟩
/-- how a body ends -/
def Fnl (p : Program) (l : Launch) (e : Env) (R : Room) (s : State) (m : MethodId) (args : Array Value) (below : List Frame) (meth : Method) (c : Code) (n0 : Nat) (Q : Option Value → Heap → Prop) (G : State → JFrame → Prop) : Prop :=
  ∀ (T : State) (h : Heap) (k n : Nat) (g : JFrame) (v : Option Value), Sd p l e R s m args below meth c n0 T h k n → k ≤ R.cells → n ≤ R.slots → (meth.sig.returnType = none → v = none) →
    (∀ fs, (∀ (f : JFrame) (acts : List Action), f.method = m → f.locked = none → f.entered = [] → (doReturn e (T.setTop f) acts v).1 = T.setFrames fs) → Steps p.tables e below (T.setTop g) (T.setFrames fs)) → Q v h → G T g
/-- a body's contract -/
def Con (l : Launch) (Z : State) (y : MethodName) (bytes : ByteArray) (maxL : Nat) (ret : Option FieldType) (ws : List Jvm.Cond) (rm : Room) (as' : Array Value) (h : Heap) (n0 : Nat) (Q : Option Value → Heap → Prop) : Prop :=
  MetFree l y (head1 (Jvm.Cond.code y bytes maxL ret :: ws) rm) (fun a U => a = as' ∧ Z.Warmed39 U.vm ∧ U.heap = h) (fun _ _ _ _ _ => True)
    (fun _ U o U' => ∃ v L, o = .returned v ∧ (Q v U'.heap ∧ Fr n0 L) ∧ FrameEnd U o U' L rm.cells rm.slots)
theorem Con.of {y : MethodName} {bytes : ByteArray} {maxL : Nat} {ret : Option FieldType} {ws : List Jvm.Cond} {rm : Room} {as' : Array Value} (hp : plainFor y = true)
    (body : ∀ (G : State → JFrame → Prop) (p : Program) (e : Env) (s : State) (m : MethodId) (below : List Frame) (meth : Method) (c : Code) (s₁ : State),
      Clo p e below G → p.tables.exec = Jvm.exec → c.code = bytes → c.maxLocals = maxL → s.vm.findClass y.cls = some m.cls → meth.name = y.name → meth.sig.returnType = ret → Z.Warmed39 s.vm →
      Sd p l e rm s m as' below meth c n0 s₁ h 0 0 → Fnl p l e rm s m as' below meth c n0 Q G → G s₁ (entryFrame m as' maxL)) : Con l Z y bytes maxL ret ws rm as' h n0 Q := by
  refine MetFree.of_bodySF hp hisR ?_
  intro p e s m args below meth c s₁ Bd hml hP hK
  obtain ⟨ha, hZ, hh⟩ := hP
  subst ha
  refine body (fun T g => ∃ s₂ o, Steps p.tables e below (T.setTop g) s₂ ∧ s₂.status = .running ∧ Ended s₂ below o ∧ ∃ v L, o = .returned v ∧ (Q v s₂.heap ∧ Fr n0 L) ∧ FrameEnd s o s₂ L rm.cells rm.slots) p e s m below meth c s₁ ?_ Bd.exec Bd.bytes hml (findClass_of_methodNamed Bd.named) (name_of_methodNamed Bd.named Bd.method).1 Bd.returns hZ ⟨[], Stand.of_body Bd, Fr.nil n0, by rw [← hh, Bd.state]; rfl⟩ ?_
  · intro T T' g g' st ⟨s₂, o, h1, r⟩
    exact ⟨s₂, o, st _ h1, r⟩
  · intro T h k n g v ⟨locs, X, N, eh⟩ hk hn hv st q
    obtain ⟨fs, hr, hrun, hended, hW, hsame⟩ := X.leave (v := v) hv Bd.notSynchronized
    exact ⟨_, _, st fs hr, hrun, hended, v, locs, rfl, ⟨by show Q v T.heap; rw [eh]; exact q, N⟩, ⟨_, rfl⟩, hW, hsame.mono hk hn⟩
theorem rRetI (fin : Fnl p l e R s m args below meth c n0 Q G) (X : Sd p l e R s m args below meth c n0 T h cells slots) (hx : p.tables.exec = Jvm.exec) (hk : cells ≤ R.cells) (hn : slots ≤ R.slots) (hret : meth.sig.returnType = some .int) {pc : Nat} {Ls : Array Slot} {z : Int32} {rest : List Value} (hd : decode c.code pc = .ok (.ireturn, 1)) (q : Q (some (.int z)) h) : G T (mkF m pc Ls (.int z :: rest)) :=
  fin T h cells slots _ (some (.int z)) X hk hn (fun h => by rw [hret] at h; cases h) (fun fs hr => by obtain ⟨_, X, _⟩ := X; exact retOut X hx hret rfl (Or.inl ⟨rfl, Or.inl rfl, _, rfl⟩) hd hr) q
theorem rRetN (fin : Fnl p l e R s m args below meth c n0 Q G) (X : Sd p l e R s m args below meth c n0 T h cells slots) (hx : p.tables.exec = Jvm.exec) (hk : cells ≤ R.cells) (hn : slots ≤ R.slots) {t : FieldType} (hret : meth.sig.returnType = some t) (ht : t = .boolean ∨ t = .byte ∨ t = .char ∨ t = .short) {pc : Nat} {Ls : Array Slot} {z z' : Int32} {rest : List Value} (hd : decode c.code pc = .ok (.ireturn, 1)) (hz : nar t z = z') (q : Q (some (.int z')) h) : G T (mkF m pc Ls (.int z :: rest)) :=
  fin T h cells slots _ (some (.int (nar t z))) X hk hn (fun h => by rw [hret] at h; cases h) (fun fs hr => by obtain ⟨_, X, _⟩ := X; exact retN X hx hret ht hd hr) (hz ▸ q)
theorem rRetL (fin : Fnl p l e R s m args below meth c n0 Q G) (X : Sd p l e R s m args below meth c n0 T h cells slots) (hx : p.tables.exec = Jvm.exec) (hk : cells ≤ R.cells) (hn : slots ≤ R.slots) (hret : meth.sig.returnType = some .long) {pc : Nat} {Ls : Array Slot} {z : Int64} {rest : List Value} (hd : decode c.code pc = .ok (.lreturn, 1)) (q : Q (some (.long z)) h) : G T (mkF m pc Ls (.long z :: rest)) :=
  fin T h cells slots _ (some (.long z)) X hk hn (fun h => by rw [hret] at h; cases h) (fun fs hr => by obtain ⟨_, X, _⟩ := X; exact retOut X hx hret rfl (Or.inr (Or.inl ⟨rfl, rfl, _, rfl⟩)) hd hr) q
theorem rRetA (fin : Fnl p l e R s m args below meth c n0 Q G) (X : Sd p l e R s m args below meth c n0 T h cells slots) (hx : p.tables.exec = Jvm.exec) (hk : cells ≤ R.cells) (hn : slots ≤ R.slots) {t : FieldType} (hret : meth.sig.returnType = some t) (ht : t.isReference = true) {pc : Nat} {Ls : Array Slot} {z : Value} (hz : z.isRef = true) (hw : narrow t z = z) {rest : List Value} (hd : decode c.code pc = .ok (.areturn, 1)) (q : Q (some z) h) : G T (mkF m pc Ls (z :: rest)) :=
  fin T h cells slots _ (some z) X hk hn (fun h => by rw [hret] at h; cases h) (fun fs hr => by obtain ⟨_, X, _⟩ := X; exact retOut X hx hret hw (Or.inr (Or.inr (Or.inr (Or.inr ⟨rfl, ht, hz⟩)))) hd hr) q
theorem rRetD (fin : Fnl p l e R s m args below meth c n0 Q G) (X : Sd p l e R s m args below meth c n0 T h cells slots) (hx : p.tables.exec = Jvm.exec) (hk : cells ≤ R.cells) (hn : slots ≤ R.slots) (hret : meth.sig.returnType = some .double) {pc : Nat} {Ls : Array Slot} {z : UInt64} {rest : List Value} (hd : decode c.code pc = .ok (.dreturn, 1)) (q : Q (some (.double z)) h) : G T (mkF m pc Ls (.double z :: rest)) :=
  fin T h cells slots _ (some (.double z)) X hk hn (fun h => by rw [hret] at h; cases h) (fun fs hr => by obtain ⟨_, X, _⟩ := X; exact retOut X hx hret rfl (Or.inr (Or.inr (Or.inl ⟨rfl, rfl, _, rfl⟩))) hd hr) q
theorem rRetV (fin : Fnl p l e R s m args below meth c n0 Q G) (X : Sd p l e R s m args below meth c n0 T h cells slots) (hx : p.tables.exec = Jvm.exec) (hk : cells ≤ R.cells) (hn : slots ≤ R.slots) (hret : meth.sig.returnType = none) {pc : Nat} {Ls : Array Slot} (hd : decode c.code pc = .ok (.return_, 1)) (q : Q none h) : G T (mkF m pc Ls []) :=
  fin T h cells slots _ none X hk hn (fun _ => rfl) (fun fs hr => by obtain ⟨_, X, _⟩ := X; exact X.returnOut hx hret hd hr) q
theorem rLdcI (hs : Clo p e below G) (X : Sd p l e R s m args below meth c n0 T h cells slots) (hx : p.tables.exec = Jvm.exec) (hZ : Z.Warmed39 s.vm) {own : String} {index : Nat} {v : Int32} (hown : s.vm.findClass own = some m.cls) (w : (Jvm.Cond.constant own index v).before a0 Z = true) {g : JFrame} (hg : g.method = m) (hd : decode c.code g.pc = .ok (.ldc index, 2)) (k : G T { g with pc := g.pc + 2, stack := .int v :: g.stack }) : G T g := by
  obtain ⟨_, X, _⟩ := X
  exact hs.go (X.ldcInt hx hown (mvT hZ w) hg hd) k
theorem rLdcL (hs : Clo p e below G) (X : Sd p l e R s m args below meth c n0 T h cells slots) (hx : p.tables.exec = Jvm.exec) (hZ : Z.Warmed39 s.vm) {own : String} {index : Nat} {v : Int64} (hown : s.vm.findClass own = some m.cls) (w : (Jvm.Cond.constantLong own index v).before a0 Z = true) {g : JFrame} (hg : g.method = m) (hd : decode c.code g.pc = .ok (.ldc2_w index, 3)) (k : G T { g with pc := g.pc + 3, stack := .long v :: g.stack }) : G T g := by
  obtain ⟨_, X, _⟩ := X
  exact hs.go (X.ldc2Long hx hown (mvT hZ w) hg hd) k
theorem rLdcD (hs : Clo p e below G) (X : Sd p l e R s m args below meth c n0 T h cells slots) (hx : p.tables.exec = Jvm.exec) (hZ : Z.Warmed39 s.vm) {own : String} {index : Nat} {v : UInt64} (hown : s.vm.findClass own = some m.cls) (w : (Jvm.Cond.constantDouble own index v).before a0 Z = true) {g : JFrame} (hg : g.method = m) (hd : decode c.code g.pc = .ok (.ldc2_w index, 3)) (k : G T { g with pc := g.pc + 3, stack := .double v :: g.stack }) : G T g := by
  obtain ⟨_, X, _⟩ := X
  exact hs.go (X.ldc2DoubleC hx hown (mvT hZ w) hg hd) k
theorem rIrem (hs : Clo p e below G) (X : Sd p l e R s m args below meth c n0 T h cells slots) (hx : p.tables.exec = Jvm.exec) {g : JFrame} (hg : g.method = m) {x y : Int32} {rest : List Value} (hd : decode c.code g.pc = .ok (.irem, 1)) (hst : g.stack = .int y :: .int x :: rest) (hy : y ≠ 0) (k : G T { g with pc := g.pc + 1, stack := .int (x % y) :: rest }) : G T g := by
  obtain ⟨_, X, _⟩ := X
  exact hs.go (fun _ q => iremM X hx hg hd hst hy q) k
theorem rLrem (hs : Clo p e below G) (X : Sd p l e R s m args below meth c n0 T h cells slots) (hx : p.tables.exec = Jvm.exec) {g : JFrame} (hg : g.method = m) {x y : Int64} {rest : List Value} (hd : decode c.code g.pc = .ok (.lrem, 1)) (hst : g.stack = .long y :: .long x :: rest) (hy : y ≠ 0) (k : G T { g with pc := g.pc + 1, stack := .long (x % y) :: rest }) : G T g :=
  hs.go (fun _ q => XS.lrem X.here hx hg hd hst hy q) (by rw [lrem_mod]; exact k)
/-! arrays -/
theorem rNewP (hs : Clo p e below G) (X : Sd p l e R s m args below meth c n0 T h cells slots) (hx : p.tables.exec = Jvm.exec) (hZ : Z.Warmed39 s.vm) {aty : ArrayType} (w : (Jvm.Cond.arrayClass (newarray.typeOf aty)).before a0 Z = true) {g : JFrame} (hg : g.method = m) (hd : decode c.code g.pc = .ok (.newarray aty, 2)) {n : Int32} {rest : List Value} (hst : g.stack = .int n :: rest)
    (hn : ¬ n < 0) (cap len : Nat) (hcap : n.toNatClampNeg ≤ cap) (hb : cap * 8 ≤ 536870912) (hc : cells + 1 ≤ R.cells) (hl : slots + cap ≤ R.slots)
    (k : ∀ (T' : State) (h' : Heap) (cA : ClassId) (b : Addr), b = h.size → Sd p l e R s m args below meth c n0 T' h' (cells + 1) (slots + cap) → Ext h h' → Arv Z h' b cA (newarray.typeOf aty) n (List.replicate len (defaultValue (newarray.typeOf aty))) (defaultValue (newarray.typeOf aty)) → G T' { g with pc := g.pc + 2, stack := .ref b :: rest }) : G T g := by
  obtain ⟨L, X, N, eh⟩ := X
  obtain ⟨T', h', cA, X', e', E, A, st⟩ := newP X hx hZ w eh hg hd hst hn hcap hb hc hl
  exact hs.go st (k T' h' cA h.size rfl ⟨L, X', N, e'⟩ E ((Arv.new A hn).pad (pad_rep [] _ len)))
theorem rStI (hs : Clo p e below G) (X : Sd p l e R s m args below meth c n0 T h cells slots) (hx : p.tables.exec = Jvm.exec) (hZ : Z.Warmed39 s.vm) {a : Addr} {kc : ClassId} {z : Int32} {vs : List Value} {dv : Value} (V : Arv Z h a kc .int z vs dv) (ga : n0 ≤ a) {j x : Int32} (hj : ¬ j < 0 ∧ j < z) (i : Nat) (hi : j.toNatClampNeg = i) (hl : i < vs.length)
    {g : JFrame} (hg : g.method = m) {rest : List Value} (hst : g.stack = .int x :: .int j :: .ref a :: rest) (hd : decode c.code g.pc = .ok (.iastore, 1))
    (k : ∀ (T' : State) (h' : Heap), Sd p l e R s m args below meth c n0 T' h' cells slots → Wr h h' a i (.int x) → Arv Z h' a kc .int z (vs.set i (.int x)) dv → G T' { g with pc := g.pc + 1, stack := rest }) : G T g := by
  obtain ⟨L, X, N, eh⟩ := X
  obtain ⟨cl, A, q1, S, q3, H, F⟩ := V
  obtain ⟨T', h', X', e', W, st⟩ := stI X hx hZ eh A (j := j) (inb_of S hj) hg hst hd
  exact hs.go st (k T' h' ⟨_, X', Fr.snoc X' N ga, e'⟩ (hi ▸ W) (Arv.set A q1 S q3 H F rfl W i hi hl))
theorem rStB (hs : Clo p e below G) (X : Sd p l e R s m args below meth c n0 T h cells slots) (hx : p.tables.exec = Jvm.exec) (hZ : Z.Warmed39 s.vm) {a : Addr} {kc : ClassId} {z : Int32} {vs : List Value} {dv : Value} (V : Arv Z h a kc .byte z vs dv) (ga : n0 ≤ a) {j x x' : Int32} (hj : ¬ j < 0 ∧ j < z) (i : Nat) (hi : j.toNatClampNeg = i) (hl : i < vs.length) (hnx : x.toInt8.toInt32 = x')
    {g : JFrame} (hg : g.method = m) {rest : List Value} (hst : g.stack = .int x :: .int j :: .ref a :: rest) (hd : decode c.code g.pc = .ok (.bastore, 1))
    (k : ∀ (T' : State) (h' : Heap), Sd p l e R s m args below meth c n0 T' h' cells slots → Wr h h' a i (.int x') → Arv Z h' a kc .byte z (vs.set i (.int x')) dv → G T' { g with pc := g.pc + 1, stack := rest }) : G T g := by
  obtain ⟨L, X, N, eh⟩ := X
  obtain ⟨cl, A, q1, S, q3, H, F⟩ := V
  obtain ⟨T', h', X', e', W, st⟩ := stB X hx hZ eh A (j := j) (inb_of S hj) hg hst hd
  subst hnx
  exact hs.go st (k T' h' ⟨_, X', Fr.snoc X' N ga, e'⟩ (hi ▸ W) (Arv.set A q1 S q3 H F (fits_nar_byte _) W i hi hl))
theorem rStC (hs : Clo p e below G) (X : Sd p l e R s m args below meth c n0 T h cells slots) (hx : p.tables.exec = Jvm.exec) (hZ : Z.Warmed39 s.vm) {a : Addr} {kc : ClassId} {z : Int32} {vs : List Value} {dv : Value} (V : Arv Z h a kc .char z vs dv) (ga : n0 ≤ a) {j x x' : Int32} (hj : ¬ j < 0 ∧ j < z) (i : Nat) (hi : j.toNatClampNeg = i) (hl : i < vs.length) (hnx : nar .char x = x')
    {g : JFrame} (hg : g.method = m) {rest : List Value} (hst : g.stack = .int x :: .int j :: .ref a :: rest) (hd : decode c.code g.pc = .ok (.castore, 1))
    (k : ∀ (T' : State) (h' : Heap), Sd p l e R s m args below meth c n0 T' h' cells slots → Wr h h' a i (.int x') → Arv Z h' a kc .char z (vs.set i (.int x')) dv → G T' { g with pc := g.pc + 1, stack := rest }) : G T g := by
  obtain ⟨L, X, N, eh⟩ := X
  obtain ⟨cl, A, q1, S, q3, H, F⟩ := V
  obtain ⟨T', h', X', e', W, st⟩ := stC X hx hZ eh A (j := j) (inb_of S hj) hg hst hd
  subst hnx
  exact hs.go st (k T' h' ⟨_, X', Fr.snoc X' N ga, e'⟩ (hi ▸ W) (Arv.set A q1 S q3 H F (fits_nar_char _) W i hi hl))
theorem rLdI (hs : Clo p e below G) (X : Sd p l e R s m args below meth c n0 T h cells slots) (hx : p.tables.exec = Jvm.exec) (hZ : Z.Warmed39 s.vm) {a : Addr} {kc : ClassId} {z : Int32} {vs : List Value} {dv : Value} (V : Arv Z h a kc .int z vs dv) {j : Int32} (hj : ¬ j < 0 ∧ j < z) {v : Value} (hv : vs.getD j.toNatClampNeg dv = v)
    {g : JFrame} (hg : g.method = m) {rest : List Value} (hst : g.stack = .int j :: .ref a :: rest) (hd : decode c.code g.pc = .ok (.iaload, 1)) (k : G T { g with pc := g.pc + 1, stack := v :: rest }) : G T g := by
  obtain ⟨L, X, N, eh⟩ := X
  obtain ⟨cl, A, q1, S, q3, H, F⟩ := V
  exact hs.go (X.iaload hx (j := j) (v := v) (by rw [eh]; exact A.1) (State.isArrayOf_alike hZ.alike A.2.1) A.2.2 (inb_of S hj) (H.at (inb_of S hj) hv) hg hst hd) k
theorem rLdB (hs : Clo p e below G) (X : Sd p l e R s m args below meth c n0 T h cells slots) (hx : p.tables.exec = Jvm.exec) (hZ : Z.Warmed39 s.vm) {a : Addr} {kc : ClassId} {z : Int32} {vs : List Value} {dv : Value} (V : Arv Z h a kc .byte z vs dv) {j : Int32} (hj : ¬ j < 0 ∧ j < z) {v : Value} (hv : vs.getD j.toNatClampNeg dv = v)
    {g : JFrame} (hg : g.method = m) {rest : List Value} (hst : g.stack = .int j :: .ref a :: rest) (hd : decode c.code g.pc = .ok (.baload, 1)) (k : G T { g with pc := g.pc + 1, stack := v :: rest }) : G T g := by
  obtain ⟨L, X, N, eh⟩ := X
  obtain ⟨cl, A, q1, S, q3, H, F⟩ := V
  exact hs.go (X.baloadBytes hx (j := j) (v := v) (by rw [eh]; exact A.1) (State.isArrayOf_alike hZ.alike A.2.1) A.2.2 (inb_of S hj) (H.at (inb_of S hj) hv) hg hst hd) k
theorem rLdC (hs : Clo p e below G) (X : Sd p l e R s m args below meth c n0 T h cells slots) (hx : p.tables.exec = Jvm.exec) (hZ : Z.Warmed39 s.vm) {a : Addr} {kc : ClassId} {z : Int32} {vs : List Value} {dv : Value} (V : Arv Z h a kc .char z vs dv) {j : Int32} (hj : ¬ j < 0 ∧ j < z) {v : Value} (hv : vs.getD j.toNatClampNeg dv = v)
    {g : JFrame} (hg : g.method = m) {rest : List Value} (hst : g.stack = .int j :: .ref a :: rest) (hd : decode c.code g.pc = .ok (.caload, 1)) (k : G T { g with pc := g.pc + 1, stack := v :: rest }) : G T g := by
  obtain ⟨L, X, N, eh⟩ := X
  obtain ⟨cl, A, q1, S, q3, H, F⟩ := V
  exact hs.go (X.caload hx (j := j) (v := v) (by rw [eh]; exact A.1) (State.isArrayOf_alike hZ.alike A.2.1) A.2.2 (inb_of S hj) (H.at (inb_of S hj) hv) hg hst hd) k
theorem rLdR (hs : Clo p e below G) (X : Sd p l e R s m args below meth c n0 T h cells slots) (hx : p.tables.exec = Jvm.exec) (hZ : Z.Warmed39 s.vm) {a : Addr} {kc : ClassId} {ty : FieldType} {z : Int32} {vs : List Value} {dv : Value} (V : Arv Z h a kc ty z vs dv) (hty : ty.isReference = true) {j : Int32} (hj : ¬ j < 0 ∧ j < z) {v : Value} (hv : vs.getD j.toNatClampNeg dv = v)
    {g : JFrame} (hg : g.method = m) {rest : List Value} (hst : g.stack = .int j :: .ref a :: rest) (hd : decode c.code g.pc = .ok (.aaload, 1)) (k : G T { g with pc := g.pc + 1, stack := v :: rest }) : G T g := by
  obtain ⟨L, X, N, eh⟩ := X
  obtain ⟨cl, A, q1, S, q3, H, F⟩ := V
  exact hs.go (X.aaload hx (j := j) (v := v) (by rw [eh]; exact A.1) (State.isArrayOf_alike hZ.alike A.2.1) hty A.2.2 (inb_of S hj) (H.at (inb_of S hj) hv) hg hst hd) k
theorem rLen (hs : Clo p e below G) (X : Sd p l e R s m args below meth c n0 T h cells slots) (hx : p.tables.exec = Jvm.exec) (hZ : Z.Warmed39 s.vm) {a : Addr} {kc : ClassId} {ty : FieldType} {z : Int32} {vs : List Value} {dv : Value} (V : Arv Z h a kc ty z vs dv)
    {g : JFrame} (hg : g.method = m) {rest : List Value} (hst : g.stack = .ref a :: rest) (hd : decode c.code g.pc = .ok (.arraylength, 1)) (k : G T { g with pc := g.pc + 1, stack := .int z :: rest }) : G T g := by
  obtain ⟨L, X, N, eh⟩ := X
  obtain ⟨cl, A, q1, S, q3, H, F⟩ := V
  exact hs.go (X.arraylength hx (by rw [eh]; exact A.1) (State.isArrayOf_alike hZ.alike A.2.1) hg hst hd) (by rw [len_of S q3]; exact k)
theorem rNewR (hs : Clo p e below G) (X : Sd p l e R s m args below meth c n0 T h cells slots) (hx : p.tables.exec = Jvm.exec) (hZ : Z.Warmed39 s.vm) {own C : String} {index : Nat} (hown : s.vm.findClass own = some m.cls) (w1 : (Jvm.Cond.classLink own index C).before a0 Z = true) (w2 : (Jvm.Cond.arrayOver (.object C)).before a0 Z = true) {g : JFrame} (hg : g.method = m) (hd : decode c.code g.pc = .ok (.anewarray index, 3)) {n : Int32} {rest : List Value} (hst : g.stack = .int n :: rest)
    (hn : ¬ n < 0) (cap len : Nat) (hcap : n.toNatClampNeg ≤ cap) (hb : cap * 8 ≤ 536870912) (hc : cells + 1 ≤ R.cells) (hl : slots + cap ≤ R.slots)
    (k : ∀ (T' : State) (h' : Heap) (cA : ClassId) (b : Addr), b = h.size → Sd p l e R s m args below meth c n0 T' h' (cells + 1) (slots + cap) → Ext h h' → Arv Z h' b cA (.object C) n (List.replicate len .null) .null → Ovr Z cA C → G T' { g with pc := g.pc + 3, stack := .ref b :: rest }) : G T g := by
  obtain ⟨L, X, N, eh⟩ := X
  obtain ⟨T', h', cA, X', e', E, A, O, st⟩ := newR X hx hZ hown w1 w2 eh hg hd hst hn hcap hb hc hl
  exact hs.go st (k T' h' cA h.size rfl ⟨L, X', N, e'⟩ E ((Arv.new A hn).pad (pad_rep [] _ len)) O)
theorem rStR (hs : Clo p e below G) (X : Sd p l e R s m args below meth c n0 T h cells slots) (hx : p.tables.exec = Jvm.exec) (hZ : Z.Warmed39 s.vm) {a : Addr} {kc : ClassId} {C : String} {z : Int32} {vs : List Value} {dv : Value} (V : Arv Z h a kc (.object C) z vs dv) (O : Ovr Z kc C) (ga : n0 ≤ a) {j : Int32} {y : Addr} (I : Ins Z h y C true) (hj : ¬ j < 0 ∧ j < z) (i : Nat) (hi : j.toNatClampNeg = i) (hl : i < vs.length)
    {g : JFrame} (hg : g.method = m) {rest : List Value} (hst : g.stack = .ref y :: .int j :: .ref a :: rest) (hd : decode c.code g.pc = .ok (.aastore, 1))
    (k : ∀ (T' : State) (h' : Heap), Sd p l e R s m args below meth c n0 T' h' cells slots → Wr h h' a i (.ref y) → Arv Z h' a kc (.object C) z (vs.set i (.ref y)) dv → G T' { g with pc := g.pc + 1, stack := rest }) : G T g := by
  obtain ⟨L, X, N, eh⟩ := X
  obtain ⟨cl, A, q1, S, q3, H, F⟩ := V
  obtain ⟨T', h', X', e', W, st⟩ := stR X hx hZ eh A (j := j) (v := .ref y) (inb_of S hj) rfl (Sto.ofV A q1 O I) hg hst hd
  exact hs.go st (k T' h' ⟨_, X', Fr.snoc X' N ga, e'⟩ (hi ▸ W) (Arv.set A q1 S q3 H F rfl W i hi hl))
/-! objects -/
theorem rNewO (hs : Clo p e below G) (X : Sd p l e R s m args below meth c n0 T h cells slots) (hx : p.tables.exec = Jvm.exec) (hZ : Z.Warmed39 s.vm) {own C : String} {index n : Nat} (hown : s.vm.findClass own = some m.cls) (w : (Jvm.Cond.classLink own index C).before a0 Z = true) (wi : (Jvm.Cond.instantiable C n).before a0 Z = true) (wz : (Jvm.Cond.initialized C).before a0 Z = true)
    {g : JFrame} (hg : g.method = m) (hd : decode c.code g.pc = .ok (.new index, 3)) (hc : cells + 1 ≤ R.cells) (hl : slots + n ≤ R.slots)
    (k : ∀ (T' : State) (h' : Heap) (b : Addr), b = h.size → Sd p l e R s m args below meth c n0 T' h' (cells + 1) (slots + n) → Ext h h' → Exa Z h' b C → (∀ {O nm d : String} {ty : FieldType}, Laid Z a0 C O nm d → parseFieldDescriptor d = some ty → Fld Z h' b O nm d (defaultValue ty)) → G T' { g with pc := g.pc + 3, stack := .ref b :: g.stack }) : G T g := by
  obtain ⟨L, X, N, eh⟩ := X
  obtain ⟨T', h', X', e', E, A, D, -, st⟩ := newO X hx hZ hown w wi wz eh hg hd hc hl
  exact hs.go st (k T' h' h.size rfl ⟨L, X', N, e'⟩ E A D)
theorem rInitO (hs : Clo p e below G) (X : Sd p l e R s m args below meth c n0 T h cells slots) (hx : p.tables.exec = Jvm.exec) (hZ : Z.Warmed39 s.vm) {own : String} {idx : Nat} (hown : s.vm.findClass own = some m.cls) (w1 : (Jvm.Cond.methodLink own idx Lib.objectInit).before a0 Z = true) (w2 : (Jvm.Cond.instanceMethod Lib.objectInit).before a0 Z = true)
    (w3 : (Jvm.Cond.code Lib.objectInit ⟨#[0xb1]⟩ 1 none).before a0 Z = true) {g : JFrame} (hg : g.method = m) (hsize : g.locals.size = c.maxLocals) {a : Addr} {rest : List Value} (hst : g.stack = .ref a :: rest) (hd : decode c.code g.pc = .ok (.invokespecial idx, 3))
    (hf : 1 ≤ R.frames) {W : Nat} (hW : 2 * g.monitorRoom + (rest.map fun v => v.category).sum ≤ W) (hl : W + 12 ≤ R.locals)
    (k : ∀ T' : State, Sd p l e R s m args below meth c n0 T' h cells slots → G T' { g with pc := g.pc + 3, stack := rest }) : G T g := by
  obtain ⟨L, X, N, eh⟩ := X
  obtain ⟨T', X', e', st⟩ := initO X hx hZ hown w1 w2 w3 eh hg hsize hst hd hf hW hl
  exact hs.go st (k T' ⟨L, X', N, e'⟩)
theorem rGetF (hs : Clo p e below G) (X : Sd p l e R s m args below meth c n0 T h cells slots) (hx : p.tables.exec = Jvm.exec) (hZ : Z.Warmed39 s.vm) {own R0 O n d host : String} {index : Nat} (hown : s.vm.findClass own = some m.cls) (w : (Jvm.Cond.fieldLink own index R0 n d).before a0 Z = true ∨ (Jvm.Cond.fieldLinkNest own index R0 n d host).before a0 Z = true) (via : Via Z R0 O n d)
    {a : Addr} {v : Value} (F : Fld Z h a O n d v) {g : JFrame} (hg : g.method = m) {rest : List Value} (hst : g.stack = .ref a :: rest) (hd : decode c.code g.pc = .ok (.getfield index, 3))
    (k : ∀ T' : State, Sd p l e R s m args below meth c n0 T' h cells slots → G T' { g with pc := g.pc + 3, stack := v :: rest }) : G T g := by
  obtain ⟨L, X, N, eh⟩ := X
  obtain ⟨T', X', e', st⟩ := getF X hx hZ hown w via eh F hg hst hd
  exact hs.go st (k T' ⟨L, X', N, e'⟩)
theorem rGetS (hs : Clo p e below G) (X : Sd p l e R s m args below meth c n0 T h cells slots) (hx : p.tables.exec = Jvm.exec) (hZ : Z.Warmed39 s.vm) {own R0 O n d host : String} {index : Nat} (hown : s.vm.findClass own = some m.cls) (w : (Jvm.Cond.fieldLink own index R0 n d).before a0 Z = true ∨ (Jvm.Cond.fieldLinkNest own index R0 n d host).before a0 Z = true) (via : Via Z R0 O n d)
    {v : Value} (F : Sta Z h O n d v) {g : JFrame} (hg : g.method = m) (hd : decode c.code g.pc = .ok (.getstatic index, 3))
    (k : ∀ T' : State, Sd p l e R s m args below meth c n0 T' h cells slots → G T' { g with pc := g.pc + 3, stack := v :: g.stack }) : G T g := by
  obtain ⟨L, X, N, eh⟩ := X
  obtain ⟨T', X', e', st⟩ := getS2 X hx hZ hown w via eh F hg hd
  exact hs.go st (k T' ⟨L, X', N, e'⟩)
theorem rPutF (hs : Clo p e below G) (X : Sd p l e R s m args below meth c n0 T h cells slots) (hx : p.tables.exec = Jvm.exec) (hZ : Z.Warmed39 s.vm) {own R0 O n d host C : String} {index kk : Nat} (ty : FieldType) (hown : s.vm.findClass own = some m.cls) (w : (Jvm.Cond.fieldLink own index R0 n d).before a0 Z = true ∨ (Jvm.Cond.fieldLinkNest own index R0 n d host).before a0 Z = true) (via : Via Z R0 O n d)
    {a : Addr} {v old : Value} (F : Fld Z h a O n d old) (E : Exa Z h a C) (ga : n0 ≤ a) (L : (Jvm.Cond.lays C O n d).before a0 Z = true ∨ ((Jvm.Cond.laysFinal C O n d).before a0 Z = true ∧ own = O ∧ meth.name = "<init>")) (wi : (Jvm.Cond.instantiable C kk).before a0 Z = true)
    (hty : parseFieldDescriptor d = some ty) (hn : narrow ty v = v) (hf : fits ty v = true) {g : JFrame} (hg : g.method = m) {rest : List Value} (hst : g.stack = v :: .ref a :: rest) (hd : decode c.code g.pc = .ok (.putfield index, 3))
    (k : ∀ (T' : State) (h' : Heap), Sd p l e R s m args below meth c n0 T' h' cells slots → Wr h h' a (Jvm.RoadKit.slotOf Z O n d) v → Fld Z h' a O n d v → G T' { g with pc := g.pc + 3, stack := rest }) : G T g := by
  obtain ⟨L0, X, N, eh⟩ := X
  obtain ⟨T', h', X', e', W, st⟩ := putF X hx hZ hown w via eh F E L wi hty hn hf hg hst hd
  exact hs.go st (k T' h' ⟨_, X', Fr.snoc X' N ga, e'⟩ W (F.same W))
/-! calls -/
theorem rCallS (hs : Clo p e below G) (X : Sd p l e R s m args below meth c n0 T h cells slots) (hx : p.tables.exec = Jvm.exec) (hZ : Z.Warmed39 s.vm) {own : String} {index : Nat} {y : MethodName} {bytes : ByteArray} {maxL : Nat} {ret : Option FieldType} {rm : Room} {as' : List Value} {Q' : Option Value → Heap → Prop}
    (hM : Con l Z y bytes maxL ret [] rm as'.toArray h n0 Q') (hown : s.vm.findClass own = some m.cls) (w1 : (Jvm.Cond.methodLink own index y).before a0 Z = true) (w2 : (Jvm.Cond.static y).before a0 Z = true) (w3 : (Jvm.Cond.initialized y.cls).before a0 Z = true) (w4 : (Jvm.Cond.code y bytes maxL ret).before a0 Z = true)
    (hy : y.cls ≠ "java/lang/invoke/MethodHandle" ∧ y.cls ≠ "java/lang/invoke/VarHandle") {g : JFrame} (hg : g.method = m) (hsize : g.locals.size = c.maxLocals) (rest : List Value) (hlen : ∀ sig, parseMethodDescriptor y.desc = some sig → as'.length = sig.parameters.length)
    (hst : g.stack = as'.reverse ++ rest) (W : Nat) (hW : 2 * g.monitorRoom + (rest.map fun v => v.category).sum ≤ W) (hd : decode c.code g.pc = .ok (.invokestatic index, 3))
    (hf : rm.frames + 1 ≤ R.frames) (hl : W + (maxL + 11) + rm.locals ≤ R.locals) (hc : cells + rm.cells ≤ R.cells) (hsl : slots + rm.slots ≤ R.slots)
    (k : ∀ (v : Option Value) (T' : State) (h' : Heap), Sd p l e R s m args below meth c n0 T' h' (cells + rm.cells) (slots + rm.slots) → Q' v h' → G T' { g with pc := g.pc + 3, stack := v.toList ++ rest }) : G T g := by
  obtain ⟨L, X, N, eh⟩ := X
  obtain ⟨v, vm₁, ⟨T', L', k', n'⟩, -, X', ⟨Lc, ⟨hQ, hN⟩, l', y', z'⟩, st⟩ := Jvm.LawKit.callS X hx (y := y) hown (mvT hZ w1) (mvT hZ w2) (mvT hZ w3) (mvT hZ w4) hy (backOf (Q := fun v h L => Q' v h ∧ Fr n0 L) (W := W) hM hZ w4 w3 hf hl) hg hsize (argsL := as') (rest := rest) hlen hst hW hd (fun _ _ => ⟨rfl, eh, hc, hsl⟩)
  dsimp only [Pt.U, Pt.locs, Pt.cells, Pt.slots] at X' l' y' z' st hQ
  subst l' y' z'
  exact hs.go st (k v T' T'.heap ⟨_, X', Fr.app N hN, rfl⟩ hQ)
theorem rCallI (hs : Clo p e below G) (X : Sd p l e R s m args below meth c n0 T h cells slots) (hx : p.tables.exec = Jvm.exec) (hZ : Z.Warmed39 s.vm) {own : String} {index : Nat} {y : MethodName} {bytes : ByteArray} {maxL : Nat} {rm : Room} {a : Addr} {as' : List Value} {Q' : Option Value → Heap → Prop}
    (hM : Con l Z y bytes maxL none [] rm (Value.ref a :: as').toArray h n0 Q') (hyn : y.name = "<init>") (hown : s.vm.findClass own = some m.cls) (w1 : (Jvm.Cond.methodLink own index y).before a0 Z = true) (w2 : (Jvm.Cond.instanceMethod y).before a0 Z = true) (w3 : (Jvm.Cond.initialized y.cls).before a0 Z = true) (w4 : (Jvm.Cond.code y bytes maxL none).before a0 Z = true)
    (hy : y.cls ≠ "java/lang/invoke/MethodHandle" ∧ y.cls ≠ "java/lang/invoke/VarHandle") {g : JFrame} (hg : g.method = m) (hsize : g.locals.size = c.maxLocals) (rest : List Value) (hlen : ∀ sig, parseMethodDescriptor y.desc = some sig → as'.length = sig.parameters.length)
    (hst : g.stack = as'.reverse ++ .ref a :: rest) (W : Nat) (hW : 2 * g.monitorRoom + (rest.map fun v => v.category).sum ≤ W) (hd : decode c.code g.pc = .ok (.invokespecial index, 3))
    (hf : rm.frames + 1 ≤ R.frames) (hl : W + (maxL + 11) + rm.locals ≤ R.locals) (hc : cells + rm.cells ≤ R.cells) (hsl : slots + rm.slots ≤ R.slots)
    (k : ∀ (v : Option Value) (T' : State) (h' : Heap), Sd p l e R s m args below meth c n0 T' h' (cells + rm.cells) (slots + rm.slots) → Q' v h' → G T' { g with pc := g.pc + 3, stack := v.toList ++ rest }) : G T g := by
  obtain ⟨L, X, N, eh⟩ := X
  obtain ⟨v, vm₁, ⟨T', L', k', n'⟩, -, X', ⟨Lc, ⟨hQ, hN⟩, l', y', z'⟩, st⟩ := X.specialBack hx (y := y) hyn hown (mvT hZ w1) (mvT hZ w2) (mvT hZ w4) hy (backOf (Q := fun v h L => Q' v h ∧ Fr n0 L) (W := W) hM hZ w4 w3 hf hl) hg hsize (Steps.refl _) (a := a) (argsL := as') (rest := rest) hlen hst hW hd (fun _ _ => ⟨rfl, eh, hc, hsl⟩)
  dsimp only [Pt.U, Pt.locs, Pt.cells, Pt.slots] at X' l' y' z' st hQ
  subst l' y' z'
  exact hs.go (fun _ q => st.trans q) (k v T' T'.heap ⟨_, X', Fr.app N hN, rfl⟩ hQ)
theorem rCallV (hs : Clo p e below G) (X : Sd p l e R s m args below meth c n0 T h cells slots) (hx : p.tables.exec = Jvm.exec) (hZ : Z.Warmed39 s.vm) {own C : String} {index : Nat} {y : MethodName} {bytes : ByteArray} {maxL : Nat} {ret : Option FieldType} {rm : Room} {a : Addr} {as' : List Value} {Q' : Option Value → Heap → Prop}
    (hM : Con l Z y bytes maxL ret [] rm (Value.ref a :: as').toArray h n0 Q') (E : Exa Z h a C) (hown : s.vm.findClass own = some m.cls) (w1 : (Jvm.Cond.methodLink own index y).before a0 Z = true) (w5 : (Jvm.Cond.declares y).before a0 Z = true) (w6 : (Jvm.Cond.selects C y y).before a0 Z = true) (w2 : (Jvm.Cond.instanceMethod y).before a0 Z = true) (w3 : (Jvm.Cond.initialized y.cls).before a0 Z = true) (w4 : (Jvm.Cond.code y bytes maxL ret).before a0 Z = true)
    (hy : y.cls ≠ "java/lang/invoke/MethodHandle" ∧ y.cls ≠ "java/lang/invoke/VarHandle") {g : JFrame} (hg : g.method = m) (hsize : g.locals.size = c.maxLocals) (rest : List Value) (hlen : ∀ sig, parseMethodDescriptor y.desc = some sig → as'.length = sig.parameters.length)
    (hst : g.stack = as'.reverse ++ .ref a :: rest) (W : Nat) (hW : 2 * g.monitorRoom + (rest.map fun v => v.category).sum ≤ W) (hd : decode c.code g.pc = .ok (.invokevirtual index, 3))
    (hf : rm.frames + 1 ≤ R.frames) (hl : W + (maxL + 11) + rm.locals ≤ R.locals) (hc : cells + rm.cells ≤ R.cells) (hsl : slots + rm.slots ≤ R.slots)
    (k : ∀ (v : Option Value) (T' : State) (h' : Heap), Sd p l e R s m args below meth c n0 T' h' (cells + rm.cells) (slots + rm.slots) → Q' v h' → G T' { g with pc := g.pc + 3, stack := v.toList ++ rest }) : G T g := by
  obtain ⟨L, X, N, eh⟩ := X
  obtain ⟨cB, kB, qa, qb, qc⟩ := isOf (T := T) hZ eh E
  obtain ⟨v, vm₁, ⟨T', L', k', n'⟩, -, X', ⟨Lc, ⟨hQ, hN⟩, l', y', z'⟩, st⟩ := X.virtualBack hx (y := y) (z := y) hown (mvT hZ w1) (mvT hZ w5) (notFace_of_selects (args := #[]) (mvT hZ w6)) (mvT hZ w6) (mvT hZ w2) hy (backOf (Q := fun v h L => Q' v h ∧ Fr n0 L) (W := W) hM hZ w4 w3 hf hl) qa qc hg hsize (Steps.refl _) (argsL := as') (rest := rest) hlen hst hW hd (fun _ _ => ⟨rfl, eh, hc, hsl⟩)
  dsimp only [Pt.U, Pt.locs, Pt.cells, Pt.slots] at X' l' y' z' st hQ
  subst l' y' z'
  exact hs.go (fun _ q => st.trans q) (k v T' T'.heap ⟨_, X', Fr.app N hN, rfl⟩ hQ)
/-! branches -/
theorem ltL {x y : Int64} (h : x < y) : if_icmp.holds .lt (lcmpW x y) 0 = true ∧ if_icmp.holds .ge (lcmpW x y) 0 = false := have q := tlt ((lw_lt x y).mpr h); ⟨q.1, q.2.1⟩
theorem nltL {x y : Int64} (h : ¬ x < y) : if_icmp.holds .lt (lcmpW x y) 0 = false ∧ if_icmp.holds .ge (lcmpW x y) 0 = true := have q := flt (fun z => h ((lw_lt x y).mp z)); ⟨q.1, q.2.1⟩
theorem gtL {x y : Int64} (h : y < x) : if_icmp.holds .gt (lcmpW x y) 0 = true ∧ if_icmp.holds .le (lcmpW x y) 0 = false := have q := tlt ((lw_gt x y).mpr h); ⟨q.2.2.1, q.2.2.2⟩
theorem ngtL {x y : Int64} (h : ¬ y < x) : if_icmp.holds .gt (lcmpW x y) 0 = false ∧ if_icmp.holds .le (lcmpW x y) 0 = true := have q := flt (fun z => h ((lw_gt x y).mp z)); ⟨q.2.2.1, q.2.2.2⟩
theorem eqL {x y : Int64} (h : x = y) : if_icmp.holds .eq (lcmpW x y) 0 = true ∧ if_icmp.holds .ne (lcmpW x y) 0 = false := teq ((lw_eq x y).mpr h)
theorem neqL {x y : Int64} (h : ¬ x = y) : if_icmp.holds .eq (lcmpW x y) 0 = false ∧ if_icmp.holds .ne (lcmpW x y) 0 = true := feq (fun z => h ((lw_eq x y).mp z))
theorem nameIt {α : Type} {P : α → Prop} (x : α) (k : ∀ z, z = x → P z) : P x := k x rfl
theorem eq64 {x y : Int64} (h : x.toInt = y.toInt) : x = y := Int64.toInt_inj.mp h
theorem eq32 {x y : Int32} (h : x.toInt = y.toInt) : x = y := Int32.toInt_inj.mp h
theorem lt64 {x y : Int64} : x < y ↔ x.toInt < y.toInt := Int64.lt_iff_toInt_lt
theorem lt32 {x y : Int32} : x < y ↔ x.toInt < y.toInt := Int32.lt_iff_toInt_lt
theorem e64 {x y : Int64} : x = y ↔ x.toInt = y.toInt := Int64.toInt_inj.symm
theorem e32 {x y : Int32} : x = y ↔ x.toInt = y.toInt := Int32.toInt_inj.symm
theorem c_lremM (x y : Int64) (d : Int) (hy : y.toInt = d) : (0 ≤ x.toInt → (x % y).toInt = x.toInt % d) ∧ (x.toInt < 0 → (x % y).toInt = -((-x.toInt) % d)) := by rw [Int64.toInt_mod, hy]; exact tr _ _
theorem nar_byte (x : Int32) : x.toInt8.toInt32.toInt8.toInt32 = x.toInt8.toInt32 := by simp
end OwnKit

theorem d2_0 : decode jdk_30_method_1_code 0 = .ok (.aload_n 0, 1) := by decide +kernel
theorem d2_1 : decode jdk_30_method_1_code 1 = .ok (.invokespecial 1, 3) := by decide +kernel
theorem d2_4 : decode jdk_30_method_1_code 4 = .ok (.return_, 1) := by decide +kernel
theorem pn_2 : plainFor (⟨"java/lang/Record", "<init>", "()V"⟩ : MethodName) = true := plainFor_of_name (by first | (simp [plainName, overriddenIn]; done) | decide +kernel)
theorem ef_2 (m : MethodId) (x0 : Addr) : entryFrame m #[(.ref x0)] 1 = mkF m 0 #[.val (.ref x0)] [] := by first | (simp [entryFrame, mkF, argsToLocals, Value.category]; done) | rfl
theorem hy_2 : ((⟨"java/lang/Record", "<init>", "()V"⟩ : MethodName)).cls ≠ "java/lang/invoke/MethodHandle" ∧ ((⟨"java/lang/Record", "<init>", "()V"⟩ : MethodName)).cls ≠ "java/lang/invoke/VarHandle" := by decide
set_option maxRecDepth 65536 in
set_option maxHeartbeats 40000000 in
theorem rm2 (l : Launch) (Z : State) (a0 : Array Value) (hw : ∀ d ∈ tables_1, d.before a0 Z = true) (ws : List Jvm.Cond) (a : Addr) (h0 : Heap) (n0 : Nat) (Z0 : n0 ≤ h0.size)  :
    Con l Z (⟨"java/lang/Record", "<init>", "()V"⟩ : MethodName) jdk_30_method_1_code 1 none ws ({ frames := 1, cells := 0, slots := 0, locals := 12 } : Room) #[(.ref a)] h0 n0 (fun v h => v = none ∧ h = h0) := by
  refine Con.of pn_2 ?_
  intro G p e s m below meth c s₁ hs hx hby hml hown hnm hret hZ X0 fin
  have hml : c.maxLocals = 1 := hml
  have hown : s.vm.findClass "java/lang/Record" = some m.cls := hown
  rw [ef_2]
  show G s₁ (mkF m 0 #[.val (.ref a)] [])
  refine hs.go (fun _ kk_ => XS.aloadN X0.here hx rfl (hb hby d2_0) rfl rfl kk_) ?_
  show G s₁ (mkF m 1 #[.val (.ref a)] [(.ref a)])
  refine rInitO hs X0 hx hZ hown (hw _ (List.mem_of_getElem? (i := 13) rfl)) (hw _ (List.mem_of_getElem? (i := 14) rfl)) (hw _ (List.mem_of_getElem? (i := 15) rfl)) rfl (by rw [hml]; rfl) rfl (hb hby d2_1) (by decide) (W := 0) (by show 2 * 0 + _ ≤ _; exact Nat.le_of_eq rfl) (by decide) (fun T1 X1 => ?_)
  show G T1 (mkF m 4 #[.val (.ref a)] [])
  exact rRetV fin X1 hx (by decide) (by decide) hret (hb hby d2_4) ⟨rfl, rfl⟩
theorem pd_0 : parseMethodDescriptor "()V" = some ⟨[], none⟩ := by decide +kernel
theorem d1_0 : decode prog_5_method_1_code 0 = .ok (.aload_n 0, 1) := by decide +kernel
theorem d1_1 : decode prog_5_method_1_code 1 = .ok (.invokespecial 1, 3) := by decide +kernel
theorem d1_4 : decode prog_5_method_1_code 4 = .ok (.aload_n 0, 1) := by decide +kernel
theorem d1_5 : decode prog_5_method_1_code 5 = .ok (.aload_n 1, 1) := by decide +kernel
theorem d1_6 : decode prog_5_method_1_code 6 = .ok (.putfield 7, 3) := by decide +kernel
theorem d1_9 : decode prog_5_method_1_code 9 = .ok (.aload_n 0, 1) := by decide +kernel
theorem d1_10 : decode prog_5_method_1_code 10 = .ok (.aload_n 2, 1) := by decide +kernel
theorem d1_11 : decode prog_5_method_1_code 11 = .ok (.putfield 13, 3) := by decide +kernel
theorem d1_14 : decode prog_5_method_1_code 14 = .ok (.return_, 1) := by decide +kernel
theorem pn_1 : plainFor (⟨"com/example/ranked_odds/rankedodds/eval/JudgedRanking", "<init>", "([I[I)V"⟩ : MethodName) = true := plainFor_of_name (by first | (simp [plainName, overriddenIn]; done) | decide +kernel)
theorem ef_1 (m : MethodId) (x0 : Addr) (x1 : Addr) (x2 : Addr) : entryFrame m #[(.ref x0), (.ref x1), (.ref x2)] 3 = mkF m 0 #[.val (.ref x0), .val (.ref x1), .val (.ref x2)] [] := by first | (simp [entryFrame, mkF, argsToLocals, Value.category]; done) | rfl
theorem hy_1 : ((⟨"com/example/ranked_odds/rankedodds/eval/JudgedRanking", "<init>", "([I[I)V"⟩ : MethodName)).cls ≠ "java/lang/invoke/MethodHandle" ∧ ((⟨"com/example/ranked_odds/rankedodds/eval/JudgedRanking", "<init>", "([I[I)V"⟩ : MethodName)).cls ≠ "java/lang/invoke/VarHandle" := by decide
set_option maxRecDepth 65536 in
set_option maxHeartbeats 40000000 in
theorem rm1 (l : Launch) (Z : State) (a0 : Array Value) (hw : ∀ d ∈ tables_1, d.before a0 Z = true) (ws : List Jvm.Cond) (a a1 a2 : Addr) (h0 : Heap) (n0 : Nat) (Z0 : n0 ≤ h0.size) (E_a : Exa Z h0 a "com/example/ranked_odds/rankedodds/eval/JudgedRanking") (g_a : n0 ≤ a) (F_relevance_a : Fld Z h0 a "com/example/ranked_odds/rankedodds/eval/JudgedRanking" "relevance" "[I" .null) (F_judged_a : Fld Z h0 a "com/example/ranked_odds/rankedodds/eval/JudgedRanking" "judged" "[I" .null) :
    Con l Z (⟨"com/example/ranked_odds/rankedodds/eval/JudgedRanking", "<init>", "([I[I)V"⟩ : MethodName) prog_5_method_1_code 3 none ws ({ frames := 2, cells := 0, slots := 0, locals := 24 } : Room) #[(.ref a), (.ref a1), (.ref a2)] h0 n0 (fun v h => v = none ∧ Keep h0 h [a] ∧ Exa Z h a "com/example/ranked_odds/rankedodds/eval/JudgedRanking" ∧ Fld Z h a "com/example/ranked_odds/rankedodds/eval/JudgedRanking" "relevance" "[I" (.ref a1)) := by
  refine Con.of pn_1 ?_
  intro G p e s m below meth c s₁ hs hx hby hml hown hnm hret hZ X0 fin
  have hml : c.maxLocals = 3 := hml
  have hown : s.vm.findClass "com/example/ranked_odds/rankedodds/eval/JudgedRanking" = some m.cls := hown
  rw [ef_1]
  have K := Keep.refl h0 ([a] : List Addr)
  have Ksz := K.1
  show G s₁ (mkF m 0 #[.val (.ref a), .val (.ref a1), .val (.ref a2)] [])
  refine hs.go (fun _ kk_ => XS.aloadN X0.here hx rfl (hb hby d1_0) rfl rfl kk_) ?_
  show G s₁ (mkF m 1 #[.val (.ref a), .val (.ref a1), .val (.ref a2)] [(.ref a)])
  refine rCallI hs X0 hx hZ (as' := []) (rm2 l Z a0 hw [] a h0 n0 Z0) rfl hown (hw _ (List.mem_of_getElem? (i := 8) rfl)) (hw _ (List.mem_of_getElem? (i := 9) rfl)) (hw _ (List.mem_of_getElem? (i := 11) rfl)) (hw _ (List.mem_of_getElem? (i := 12) rfl)) hy_2 rfl (by rw [hml]; rfl) [] (lenOf pd_0 rfl) rfl 0 (by show 2 * 0 + _ ≤ _; exact Nat.le_of_eq rfl) (hb hby d1_1) (by decide) (by decide) (by decide) (by decide) (fun r1 T1 h1 X1 q1 => ?_)
  obtain ⟨rfl, qh1⟩ := q1
  rw [qh1] at X1
  show G T1 (mkF m 4 #[.val (.ref a), .val (.ref a1), .val (.ref a2)] [])
  refine hs.go (fun _ kk_ => XS.aloadN X1.here hx rfl (hb hby d1_4) rfl rfl kk_) ?_
  show G T1 (mkF m 5 #[.val (.ref a), .val (.ref a1), .val (.ref a2)] [(.ref a)])
  refine hs.go (fun _ kk_ => XS.aloadN X1.here hx rfl (hb hby d1_5) rfl rfl kk_) ?_
  show G T1 (mkF m 6 #[.val (.ref a), .val (.ref a1), .val (.ref a2)] [(.ref a1), (.ref a)])
  refine rPutF hs X1 hx hZ (.array .int) hown (host := "") (Or.inl (hw _ (List.mem_of_getElem? (i := 16) rfl))) Via.refl F_relevance_a E_a g_a (Or.inr ⟨(hw _ (List.mem_of_getElem? (i := 17) rfl)), rfl, hnm⟩) (hw _ (List.mem_of_getElem? (i := 3) rfl)) (by decide) rfl rfl rfl rfl (hb hby d1_6) (fun T2 h2 X2 W2 F_relevance_a => ?_)
  have E_a := E_a.wr W2
  have F_judged_a := F_judged_a.other W2 (Or.inr (slot_ne (Or.inr (hw _ (List.mem_of_getElem? (i := 19) rfl))) (Or.inr (hw _ (List.mem_of_getElem? (i := 17) rfl))) (by decide) (t := (.array .int)) (t' := (.array .int)) (by decide) (by decide)))
  have K := K.wr W2 (Or.inl (by simp))
  have Ksz := K.1
  have Z0 := Nat.le_trans Z0 (Keep.of_wr W2).1
  show G T2 (mkF m 9 #[.val (.ref a), .val (.ref a1), .val (.ref a2)] [])
  refine hs.go (fun _ kk_ => XS.aloadN X2.here hx rfl (hb hby d1_9) rfl rfl kk_) ?_
  show G T2 (mkF m 10 #[.val (.ref a), .val (.ref a1), .val (.ref a2)] [(.ref a)])
  refine hs.go (fun _ kk_ => XS.aloadN X2.here hx rfl (hb hby d1_10) rfl rfl kk_) ?_
  show G T2 (mkF m 11 #[.val (.ref a), .val (.ref a1), .val (.ref a2)] [(.ref a2), (.ref a)])
  refine rPutF hs X2 hx hZ (.array .int) hown (host := "") (Or.inl (hw _ (List.mem_of_getElem? (i := 18) rfl))) Via.refl F_judged_a E_a g_a (Or.inr ⟨(hw _ (List.mem_of_getElem? (i := 19) rfl)), rfl, hnm⟩) (hw _ (List.mem_of_getElem? (i := 3) rfl)) (by decide) rfl rfl rfl rfl (hb hby d1_11) (fun T3 h3 X3 W3 F_judged_a => ?_)
  have E_a := E_a.wr W3
  have F_relevance_a := F_relevance_a.other W3 (Or.inr (slot_ne (Or.inr (hw _ (List.mem_of_getElem? (i := 17) rfl))) (Or.inr (hw _ (List.mem_of_getElem? (i := 19) rfl))) (by decide) (t := (.array .int)) (t' := (.array .int)) (by decide) (by decide)))
  have K := K.wr W3 (Or.inl (by simp))
  have Ksz := K.1
  have Z0 := Nat.le_trans Z0 (Keep.of_wr W3).1
  show G T3 (mkF m 14 #[.val (.ref a), .val (.ref a1), .val (.ref a2)] [])
  exact rRetV fin X3 hx (by decide) (by decide) hret (hb hby d1_14) ⟨rfl, K, E_a, F_relevance_a⟩

def qq (n : Nat) : UInt64 := if n = 0 then (4607182418800017408 : UInt64) else if n = 1 then (4602678819172646912 : UInt64) else if n = 2 then (4599676419421066581 : UInt64) else (4598175219545276416 : UInt64)
def rr : List Int32 → Nat → UInt64
  | [], _ => 0
  | x :: t, n => if (0 : Int32) < x then qq n else rr t (n + 1)
theorem own_q (i : Int32) (n : Nat) (hi : i.toInt = n) (h : n < 4) : FP.ddiv (4607182418800017408 : UInt64) (FP.i2d (i + (1 : Int32))) = qq n ∧ Jvm.Free.Fl.NoNaN64 (FP.ddiv (4607182418800017408 : UInt64) (FP.i2d (i + (1 : Int32)))) := by
  have k0 : (0 : Int32).toInt = 0 := rfl
  have k1 : (1 : Int32).toInt = 1 := rfl
  have k2 : (2 : Int32).toInt = 2 := rfl
  have k3 : (3 : Int32).toInt = 3 := rfl
  have hn : n = 0 ∨ n = 1 ∨ n = 2 ∨ n = 3 := by omega
  rcases hn with rfl | rfl | rfl | rfl
  · have e : i = (0 : Int32) := eq32 (by omega)
    subst e
    exact ⟨by decide +kernel, by unfold Jvm.Free.Fl.NoNaN64; decide +kernel⟩
  · have e : i = (1 : Int32) := eq32 (by omega)
    subst e
    exact ⟨by decide +kernel, by unfold Jvm.Free.Fl.NoNaN64; decide +kernel⟩
  · have e : i = (2 : Int32) := eq32 (by omega)
    subst e
    exact ⟨by decide +kernel, by unfold Jvm.Free.Fl.NoNaN64; decide +kernel⟩
  · have e : i = (3 : Int32) := eq32 (by omega)
    subst e
    exact ⟨by decide +kernel, by unfold Jvm.Free.Fl.NoNaN64; decide +kernel⟩
theorem own_at (us pre rest : List Int32) (x i : Int32) (hu : us = pre ++ x :: rest) (hi : i.toInt = pre.length) : List.getD (us.map Value.int) i.toNatClampNeg (.int (0 : Int32)) = .int x := by
  have e : i.toNatClampNeg = pre.length := by simp only [Int32.toNatClampNeg, hi]; rfl
  rw [e, hu]
  simp [List.getD]
theorem own_sz {x f : Int32} (h : f = ((x &&& (2147483647 : Int32)) % (5 : Int32))) : f = (0 : Int32) ∨ f = (1 : Int32) ∨ f = (2 : Int32) ∨ f = (3 : Int32) ∨ f = (4 : Int32) := by
  have a := (c_and x 2147483647 (by decide)).1
  have b := (c_irem (x &&& (2147483647 : Int32)) 5 5 rfl).1 a
  rw [← h] at b
  have k0 : (0 : Int32).toInt = 0 := rfl
  have k1 : (1 : Int32).toInt = 1 := rfl
  have k2 : (2 : Int32).toInt = 2 := rfl
  have k3 : (3 : Int32).toInt = 3 := rfl
  have k4 : (4 : Int32).toInt = 4 := rfl
  simp only [e32 (x := f), k0, k1, k2, k3, k4]
  omega

theorem d4_0 : decode prog_5_method_8_code 0 = .ok (.iconst 0, 1) := by decide +kernel
theorem d4_1 : decode prog_5_method_8_code 1 = .ok (.istore_n 1, 1) := by decide +kernel
theorem d4_2 : decode prog_5_method_8_code 2 = .ok (.iload_n 1, 1) := by decide +kernel
theorem d4_3 : decode prog_5_method_8_code 3 = .ok (.aload_n 0, 1) := by decide +kernel
theorem d4_4 : decode prog_5_method_8_code 4 = .ok (.getfield 7, 3) := by decide +kernel
theorem d4_7 : decode prog_5_method_8_code 7 = .ok (.arraylength, 1) := by decide +kernel
theorem d4_8 : decode prog_5_method_8_code 8 = .ok (.if_icmp .ge 25, 3) := by decide +kernel
theorem d4_11 : decode prog_5_method_8_code 11 = .ok (.aload_n 0, 1) := by decide +kernel
theorem d4_12 : decode prog_5_method_8_code 12 = .ok (.getfield 7, 3) := by decide +kernel
theorem d4_15 : decode prog_5_method_8_code 15 = .ok (.iload_n 1, 1) := by decide +kernel
theorem d4_16 : decode prog_5_method_8_code 16 = .ok (.iaload, 1) := by decide +kernel
theorem d4_17 : decode prog_5_method_8_code 17 = .ok (.ifCond .le 10, 3) := by decide +kernel
theorem d4_20 : decode prog_5_method_8_code 20 = .ok (.dconst 1, 1) := by decide +kernel
theorem d4_21 : decode prog_5_method_8_code 21 = .ok (.iload_n 1, 1) := by decide +kernel
theorem d4_22 : decode prog_5_method_8_code 22 = .ok (.iconst 1, 1) := by decide +kernel
theorem d4_23 : decode prog_5_method_8_code 23 = .ok (.iadd, 1) := by decide +kernel
theorem d4_24 : decode prog_5_method_8_code 24 = .ok (.i2d, 1) := by decide +kernel
theorem d4_25 : decode prog_5_method_8_code 25 = .ok (.ddiv, 1) := by decide +kernel
theorem d4_26 : decode prog_5_method_8_code 26 = .ok (.dreturn, 1) := by decide +kernel
theorem d4_27 : decode prog_5_method_8_code 27 = .ok (.iinc 1 1, 3) := by decide +kernel
theorem d4_30 : decode prog_5_method_8_code 30 = .ok (.goto (-28), 3) := by decide +kernel
theorem d4_33 : decode prog_5_method_8_code 33 = .ok (.dconst 0, 1) := by decide +kernel
theorem d4_34 : decode prog_5_method_8_code 34 = .ok (.dreturn, 1) := by decide +kernel
theorem pn_4 : plainFor (⟨"com/example/ranked_odds/rankedodds/eval/JudgedRanking", "reciprocalRank", "()D"⟩ : MethodName) = true := plainFor_of_name (by first | (simp [plainName, overriddenIn]; done) | decide +kernel)
theorem ef_4 (m : MethodId) (x0 : Addr) : entryFrame m #[(.ref x0)] 2 = mkF m 0 #[.val (.ref x0), .unset] [] := by first | (simp [entryFrame, mkF, argsToLocals, Value.category]; done) | rfl
theorem hy_4 : ((⟨"com/example/ranked_odds/rankedodds/eval/JudgedRanking", "reciprocalRank", "()D"⟩ : MethodName)).cls ≠ "java/lang/invoke/MethodHandle" ∧ ((⟨"com/example/ranked_odds/rankedodds/eval/JudgedRanking", "reciprocalRank", "()D"⟩ : MethodName)).cls ≠ "java/lang/invoke/VarHandle" := by decide
set_option maxRecDepth 65536 in
set_option maxHeartbeats 40000000 in
theorem rm4 (l : Launch) (Z : State) (a0 : Array Value) (hw : ∀ d ∈ tables_1, d.before a0 Z = true) (ws : List Jvm.Cond) (a aj : Addr) (z : Int32) (us : List Int32) (kc : ClassId) (h0 : Heap) (n0 : Nat) (Z0 : n0 ≤ h0.size) (F_relevance_a : Fld Z h0 a "com/example/ranked_odds/rankedodds/eval/JudgedRanking" "relevance" "[I" (.ref aj)) (V_aj : Arv Z h0 aj kc .int z (us.map Value.int) (.int (0 : Int32))) (hz : z.toInt = us.length) (h4 : us.length ≤ 4) :
    Con l Z (⟨"com/example/ranked_odds/rankedodds/eval/JudgedRanking", "reciprocalRank", "()D"⟩ : MethodName) prog_5_method_8_code 2 (some .double) ws ({ frames := 0, cells := 0, slots := 0, locals := 0 } : Room) #[(.ref a)] h0 n0 (fun v h => v = some (.double (rr us 0)) ∧ h = h0) := by
  refine Con.of pn_4 ?_
  intro G p e s m below meth c s₁ hs hx hby hml hown hnm hret hZ X0 fin
  have hml : c.maxLocals = 2 := hml
  have hown : s.vm.findClass "com/example/ranked_odds/rankedodds/eval/JudgedRanking" = some m.cls := hown
  rw [ef_4]
  show G s₁ (mkF m 0 #[.val (.ref a), .unset] [])
  refine hs.go (fun _ kk_ => XS.iconst X0.here hx rfl (hb hby d4_0) kk_) ?_
  show G s₁ (mkF m 1 #[.val (.ref a), .unset] [(.int (0 : Int32))])
  refine hs.go (fun _ kk_ => XS.istoreN X0.here hx rfl (hb hby d4_1) rfl (l' := #[.val (.ref a), .val (.int (0 : Int32))]) rfl kk_) ?_
  show G s₁ (mkF m 2 #[.val (.ref a), .val (.int (0 : Int32))] [])
  have loop : ∀ (rest pre : List Int32) (i : Int32) (TL : State), Sd p l e ({ frames := 0, cells := 0, slots := 0, locals := 0 } : Room) s m #[(.ref a)] below meth c n0 TL h0 0 0 → us = pre ++ rest → i.toInt = pre.length → rr rest pre.length = rr us 0 → G TL (mkF m 2 #[.val (.ref a), .val (.int i)] []) := by
    intro rest
    induction rest with
    | nil =>
      intro pre i TL XL hu hi hr
      have hlen : us.length = pre.length := by rw [hu]; simp
      show G TL (mkF m 2 #[.val (.ref a), .val (.int i)] [])
      refine hs.go (fun _ kk_ => XS.iloadN XL.here hx rfl (hb hby d4_2) rfl  kk_) ?_
      show G TL (mkF m 3 #[.val (.ref a), .val (.int i)] [(.int i)])
      refine hs.go (fun _ kk_ => XS.aloadN XL.here hx rfl (hb hby d4_3) rfl rfl kk_) ?_
      show G TL (mkF m 4 #[.val (.ref a), .val (.int i)] [(.ref a), (.int i)])
      refine rGetF hs XL hx hZ hown (host := "") (Or.inl (hw _ (List.mem_of_getElem? (i := 16) rfl))) Via.refl F_relevance_a rfl rfl (hb hby d4_4) (fun T1 X1 => ?_)
      show G T1 (mkF m 7 #[.val (.ref a), .val (.int i)] [(.ref aj), (.int i)])
      refine rLen hs X1 hx hZ V_aj rfl rfl (hb hby d4_7) ?_
      show G T1 (mkF m 8 #[.val (.ref a), .val (.int i)] [(.int z), (.int i)])
      refine hs.go (fun _ kk_ => XS.icmpYes X1.here hx rfl (pc0 := 8) (pc' := 33) rfl (hb hby d4_8) rfl (flt ((by rw [lt32]; omega) : ¬ (i < z))).2.1 (by decide) (by decide) kk_) ?_
      show G T1 (mkF m 33 #[.val (.ref a), .val (.int i)] [])
      refine hs.go (fun _ kk_ => XS.dconst0 X1.here hx rfl (hb hby d4_33) (v := (0 : UInt64)) (by decide +kernel) kk_) ?_
      show G T1 (mkF m 34 #[.val (.ref a), .val (.int i)] [(.double (0 : UInt64))])
      exact rRetD fin X1 hx (by decide) (by decide) hret (hb hby d4_34) ⟨by rw [← hr]; rfl, rfl⟩
    | cons x rest ih =>
      intro pre i TL XL hu hi hr
      have hlen : us.length = pre.length + (rest.length + 1) := by rw [hu]; simp
      have hq := own_q i pre.length hi (by omega)
      show G TL (mkF m 2 #[.val (.ref a), .val (.int i)] [])
      refine hs.go (fun _ kk_ => XS.iloadN XL.here hx rfl (hb hby d4_2) rfl  kk_) ?_
      show G TL (mkF m 3 #[.val (.ref a), .val (.int i)] [(.int i)])
      refine hs.go (fun _ kk_ => XS.aloadN XL.here hx rfl (hb hby d4_3) rfl rfl kk_) ?_
      show G TL (mkF m 4 #[.val (.ref a), .val (.int i)] [(.ref a), (.int i)])
      refine rGetF hs XL hx hZ hown (host := "") (Or.inl (hw _ (List.mem_of_getElem? (i := 16) rfl))) Via.refl F_relevance_a rfl rfl (hb hby d4_4) (fun T2 X2 => ?_)
      show G T2 (mkF m 7 #[.val (.ref a), .val (.int i)] [(.ref aj), (.int i)])
      refine rLen hs X2 hx hZ V_aj rfl rfl (hb hby d4_7) ?_
      show G T2 (mkF m 8 #[.val (.ref a), .val (.int i)] [(.int z), (.int i)])
      refine hs.go (fun _ kk_ => XS.icmpNo X2.here hx rfl (hb hby d4_8) rfl (tlt ((by rw [lt32]; omega) : i < z)).2.1 kk_) ?_
      show G T2 (mkF m 11 #[.val (.ref a), .val (.int i)] [])
      refine hs.go (fun _ kk_ => XS.aloadN X2.here hx rfl (hb hby d4_11) rfl rfl kk_) ?_
      show G T2 (mkF m 12 #[.val (.ref a), .val (.int i)] [(.ref a)])
      refine rGetF hs X2 hx hZ hown (host := "") (Or.inl (hw _ (List.mem_of_getElem? (i := 16) rfl))) Via.refl F_relevance_a rfl rfl (hb hby d4_12) (fun T3 X3 => ?_)
      show G T3 (mkF m 15 #[.val (.ref a), .val (.int i)] [(.ref aj)])
      refine hs.go (fun _ kk_ => XS.iloadN X3.here hx rfl (hb hby d4_15) rfl  kk_) ?_
      show G T3 (mkF m 16 #[.val (.ref a), .val (.int i)] [(.int i), (.ref aj)])
      refine rLdI hs X3 hx hZ V_aj ⟨by rw [lt32]; have k0 : (0 : Int32).toInt = 0 := rfl; omega, by rw [lt32]; omega⟩ (v := (.int x)) (own_at us pre rest x i hu hi) rfl rfl (hb hby d4_16) ?_
      show G T3 (mkF m 17 #[.val (.ref a), .val (.int i)] [(.int x)])
      by_cases c17 : (0 : Int32) < x
      · refine hs.go (fun _ kk_ => XS.ifNo X3.here hx rfl (hb hby d4_17) rfl ((if0 _ _).trans (tlt c17).2.2.2) kk_) ?_
        show G T3 (mkF m 20 #[.val (.ref a), .val (.int i)] [])
        refine hs.go (fun _ kk_ => XS.dconst1 X3.here hx rfl (hb hby d4_20) (v := (4607182418800017408 : UInt64)) (by decide +kernel) kk_) ?_
        show G T3 (mkF m 21 #[.val (.ref a), .val (.int i)] [(.double (4607182418800017408 : UInt64))])
        refine hs.go (fun _ kk_ => XS.iloadN X3.here hx rfl (hb hby d4_21) rfl  kk_) ?_
        show G T3 (mkF m 22 #[.val (.ref a), .val (.int i)] [(.int i), (.double (4607182418800017408 : UInt64))])
        refine hs.go (fun _ kk_ => XS.iconst X3.here hx rfl (hb hby d4_22) kk_) ?_
        show G T3 (mkF m 23 #[.val (.ref a), .val (.int i)] [(.int (1 : Int32)), (.int i), (.double (4607182418800017408 : UInt64))])
        refine hs.go (fun _ kk_ => XS.iadd X3.here hx rfl (hb hby d4_23) rfl kk_) ?_
        show G T3 (mkF m 24 #[.val (.ref a), .val (.int i)] [(.int (i + (1 : Int32))), (.double (4607182418800017408 : UInt64))])
        refine hs.go (fun _ kk_ => XS.i2dS X3.here hx rfl (hb hby d4_24) rfl (v := (FP.i2d (i + (1 : Int32)))) rfl kk_) ?_
        show G T3 (mkF m 25 #[.val (.ref a), .val (.int i)] [(.double (FP.i2d (i + (1 : Int32)))), (.double (4607182418800017408 : UInt64))])
        refine hs.go (fun _ kk_ => XS.ddivS X3.here hx rfl (hb hby d4_25) rfl hq.2 (v := (qq pre.length)) hq.1 kk_) ?_
        show G T3 (mkF m 26 #[.val (.ref a), .val (.int i)] [(.double (qq pre.length))])
        exact rRetD fin X3 hx (by decide) (by decide) hret (hb hby d4_26) ⟨by rw [← hr, rr, if_pos c17], rfl⟩
      · refine hs.go (fun _ kk_ => XS.ifYes X3.here hx rfl (pc0 := 17) (pc' := 27) rfl (hb hby d4_17) rfl ((if0 _ _).trans (flt c17).2.2.2) (by decide) (by decide) kk_) ?_
        show G T3 (mkF m 27 #[.val (.ref a), .val (.int i)] [])
        refine hs.go (fun _ kk_ => XS.iinc X3.here hx rfl (hb hby d4_27) rfl (l' := #[.val (.ref a), .val (.int (i + (1 : Int32)))]) rfl kk_) ?_
        show G T3 (mkF m 30 #[.val (.ref a), .val (.int (i + (1 : Int32)))] [])
        refine hs.go (fun _ kk_ => XS.goto X3.here hx rfl (pc0 := 30) (pc' := 2) rfl (hb hby d4_30) (by decide) (by decide) kk_) ?_
        show G T3 (mkF m 2 #[.val (.ref a), .val (.int (i + (1 : Int32)))] [])
        refine ih (pre ++ [x]) _ _ (X3.more (by decide) (by decide)) (by rw [hu]; simp) ?_ ?_
        · have q := c_iadd i 1
          have r := rng32 (i + 1)
          have k1 : (1 : Int32).toInt = 1 := rfl
          simp only [List.length_append, List.length_cons, List.length_nil]
          omega
        · rw [← hr, rr, if_neg c17]; simp
  exact loop us [] 0 _ (X0.more (by decide) (by decide)) rfl rfl rfl
theorem pd_1 : parseMethodDescriptor "([I[I)V" = some ⟨[(.array .int), (.array .int)], none⟩ := by decide +kernel
theorem pd_2 : parseMethodDescriptor "()D" = some ⟨[], some .double⟩ := by decide +kernel
theorem pn_0 : plainFor x = true := plainFor_of_name (show plainName "com/example/ranked_odds/rankedodds/eval/JudgedRankingReciprocalRankPinLaw" = true by first | (simp [plainName, overriddenIn]; done) | decide +kernel)
theorem ef_0 (m : MethodId) (x0 : Int32) (x1 : Int32) (x2 : Int32) (x3 : Int32) (x4 : Int32) (x5 : Int32) : entryFrame m #[(.int x0), (.int x1), (.int x2), (.int x3), (.int x4), (.int x5)] maxLocals = mkF m 0 #[.val (.int x0), .val (.int x1), .val (.int x2), .val (.int x3), .val (.int x4), .val (.int x5), .unset, .unset, .unset, .unset, .unset, .unset, .unset, .unset] [] := by first | (simp [entryFrame, mkF, argsToLocals, Value.category, maxLocals]; done) | rfl
set_option maxRecDepth 65536 in
set_option maxHeartbeats 40000000 in
theorem rm0 (l : Launch) (Z : State) (a0 : Array Value) (hw : ∀ d ∈ tables_1, d.before a0 Z = true) (ws : List Jvm.Cond) (nn a b cc dd ee : Int32) (h0 : Heap) (n0 : Nat) (Z0 : n0 ≤ h0.size)  :
    Con l Z x code maxLocals ret ws room_1 #[(.int nn), (.int a), (.int b), (.int cc), (.int dd), (.int ee)] h0 n0 (fun v h => v = some (.int 1)) := by
  refine Con.of pn_0 ?_
  intro G p e s m below meth c s₁ hs hx hby hml hown hnm hret hZ X0 fin
  have hml : c.maxLocals = 14 := hml
  have hown : s.vm.findClass "com/example/ranked_odds/rankedodds/eval/JudgedRankingReciprocalRankPinLaw" = some m.cls := hown
  rw [ef_0]
  show G s₁ (mkF m 0 #[.val (.int nn), .val (.int a), .val (.int b), .val (.int cc), .val (.int dd), .val (.int ee), .unset, .unset, .unset, .unset, .unset, .unset, .unset, .unset] [])
  refine hs.go (fun _ kk_ => XS.iloadN X0.here hx rfl (hb hby at_0) rfl  kk_) ?_
  show G s₁ (mkF m 1 #[.val (.int nn), .val (.int a), .val (.int b), .val (.int cc), .val (.int dd), .val (.int ee), .unset, .unset, .unset, .unset, .unset, .unset, .unset, .unset] [(.int nn)])
  refine rLdcI hs X0 hx hZ hown (hw _ (List.mem_of_getElem? (i := 0) rfl)) rfl (hb hby at_1) ?_
  show G s₁ (mkF m 3 #[.val (.int nn), .val (.int a), .val (.int b), .val (.int cc), .val (.int dd), .val (.int ee), .unset, .unset, .unset, .unset, .unset, .unset, .unset, .unset] [(.int (2147483647 : Int32)), (.int nn)])
  refine hs.go (fun _ kk_ => XS.iand X0.here hx rfl (hb hby at_3) rfl kk_) ?_
  show G s₁ (mkF m 4 #[.val (.int nn), .val (.int a), .val (.int b), .val (.int cc), .val (.int dd), .val (.int ee), .unset, .unset, .unset, .unset, .unset, .unset, .unset, .unset] [(.int (nn &&& (2147483647 : Int32)))])
  refine hs.go (fun _ kk_ => XS.iconst X0.here hx rfl (hb hby at_4) kk_) ?_
  show G s₁ (mkF m 5 #[.val (.int nn), .val (.int a), .val (.int b), .val (.int cc), .val (.int dd), .val (.int ee), .unset, .unset, .unset, .unset, .unset, .unset, .unset, .unset] [(.int (5 : Int32)), (.int (nn &&& (2147483647 : Int32)))])
  refine rIrem hs X0 hx rfl (hb hby at_5) rfl (by decide) ?_
  show G s₁ (mkF m 6 #[.val (.int nn), .val (.int a), .val (.int b), .val (.int cc), .val (.int dd), .val (.int ee), .unset, .unset, .unset, .unset, .unset, .unset, .unset, .unset] [(.int ((nn &&& (2147483647 : Int32)) % (5 : Int32)))])
  refine nameIt (P := fun zz_ : Int32 => G s₁ (mkF m 6 #[.val (.int nn), .val (.int a), .val (.int b), .val (.int cc), .val (.int dd), .val (.int ee), .unset, .unset, .unset, .unset, .unset, .unset, .unset, .unset] [(.int zz_)])) ((nn &&& (2147483647 : Int32)) % (5 : Int32)) (fun sz hsz => ?_)
  show G s₁ (mkF m 6 #[.val (.int nn), .val (.int a), .val (.int b), .val (.int cc), .val (.int dd), .val (.int ee), .unset, .unset, .unset, .unset, .unset, .unset, .unset, .unset] [(.int sz)])
  refine hs.go (fun _ kk_ => XS.istore X0.here hx rfl (hb hby at_6) rfl (l' := #[.val (.int nn), .val (.int a), .val (.int b), .val (.int cc), .val (.int dd), .val (.int ee), .val (.int sz), .unset, .unset, .unset, .unset, .unset, .unset, .unset]) rfl kk_) ?_
  show G s₁ (mkF m 8 #[.val (.int nn), .val (.int a), .val (.int b), .val (.int cc), .val (.int dd), .val (.int ee), .val (.int sz), .unset, .unset, .unset, .unset, .unset, .unset, .unset] [])
  rcases own_sz hsz with rfl | rfl | rfl | rfl | rfl
  · show G s₁ (mkF m 8 #[.val (.int nn), .val (.int a), .val (.int b), .val (.int cc), .val (.int dd), .val (.int ee), .val (.int (0 : Int32)), .unset, .unset, .unset, .unset, .unset, .unset, .unset] [])
    refine hs.go (fun _ kk_ => XS.iload X0.here hx rfl (hb hby at_8) rfl  kk_) ?_
    show G s₁ (mkF m 10 #[.val (.int nn), .val (.int a), .val (.int b), .val (.int cc), .val (.int dd), .val (.int ee), .val (.int (0 : Int32)), .unset, .unset, .unset, .unset, .unset, .unset, .unset] [(.int (0 : Int32))])
    refine hs.go (fun _ kk_ => XS.ifNo X0.here hx rfl (hb hby at_10) rfl ((if0 _ _).trans (teq (rfl : (0 : Int32) = (0 : Int32))).2) kk_) ?_
    show G s₁ (mkF m 13 #[.val (.int nn), .val (.int a), .val (.int b), .val (.int cc), .val (.int dd), .val (.int ee), .val (.int (0 : Int32)), .unset, .unset, .unset, .unset, .unset, .unset, .unset] [])
    refine hs.go (fun _ kk_ => XS.iconst X0.here hx rfl (hb hby at_13) kk_) ?_
    show G s₁ (mkF m 14 #[.val (.int nn), .val (.int a), .val (.int b), .val (.int cc), .val (.int dd), .val (.int ee), .val (.int (0 : Int32)), .unset, .unset, .unset, .unset, .unset, .unset, .unset] [(.int (0 : Int32))])
    refine rNewP hs X0 hx hZ (hw _ (List.mem_of_getElem? (i := 1) rfl)) rfl (hb hby at_14) rfl (by decide) 0 0 (by decide) (by decide) (by decide) (by decide) (fun T1 h1 k1 rl g1 X1 E1 V_rl => ?_)
    have V_rl : Arv Z h1 rl k1 .int (0 : Int32) [] (.int (0 : Int32)) := V_rl
    have g_rl : n0 ≤ rl := by rw [g1]; exact Z0
    have Z0 := Nat.le_trans Z0 E1.1
    show G T1 (mkF m 16 #[.val (.int nn), .val (.int a), .val (.int b), .val (.int cc), .val (.int dd), .val (.int ee), .val (.int (0 : Int32)), .unset, .unset, .unset, .unset, .unset, .unset, .unset] [(.ref rl)])
    refine hs.go (fun _ kk_ => XS.astore X1.here hx rfl (hb hby at_16) rfl rfl (l' := #[.val (.int nn), .val (.int a), .val (.int b), .val (.int cc), .val (.int dd), .val (.int ee), .val (.int (0 : Int32)), .val (.ref rl), .unset, .unset, .unset, .unset, .unset, .unset]) rfl kk_) ?_
    show G T1 (mkF m 18 #[.val (.int nn), .val (.int a), .val (.int b), .val (.int cc), .val (.int dd), .val (.int ee), .val (.int (0 : Int32)), .val (.ref rl), .unset, .unset, .unset, .unset, .unset, .unset] [])
    refine hs.go (fun _ kk_ => XS.goto X1.here hx rfl (pc0 := 18) (pc' := 109) rfl (hb hby at_18) (by decide) (by decide) kk_) ?_
    show G T1 (mkF m 109 #[.val (.int nn), .val (.int a), .val (.int b), .val (.int cc), .val (.int dd), .val (.int ee), .val (.int (0 : Int32)), .val (.ref rl), .unset, .unset, .unset, .unset, .unset, .unset] [])
    refine hs.go (fun _ kk_ => XS.iconst X1.here hx rfl (hb hby at_109) kk_) ?_
    show G T1 (mkF m 110 #[.val (.int nn), .val (.int a), .val (.int b), .val (.int cc), .val (.int dd), .val (.int ee), .val (.int (0 : Int32)), .val (.ref rl), .unset, .unset, .unset, .unset, .unset, .unset] [(.int (1 : Int32))])
    refine rNewP hs X1 hx hZ (hw _ (List.mem_of_getElem? (i := 1) rfl)) rfl (hb hby at_110) rfl (by decide) 1 1 (by decide) (by decide) (by decide) (by decide) (fun T2 h2 k2 jd g2 X2 E2 V_jd => ?_)
    have V_jd : Arv Z h2 jd k2 .int (1 : Int32) [(.int (0 : Int32))] (.int (0 : Int32)) := V_jd
    have g_jd : n0 ≤ jd := by rw [g2]; exact Z0
    have Z0 := Nat.le_trans Z0 E2.1
    have ne_rl_jd : rl ≠ jd := Nat.ne_of_lt (Nat.lt_of_lt_of_le V_rl.lt (Nat.le_of_eq g2.symm))
    have V_rl := V_rl.ext E2
    show G T2 (mkF m 112 #[.val (.int nn), .val (.int a), .val (.int b), .val (.int cc), .val (.int dd), .val (.int ee), .val (.int (0 : Int32)), .val (.ref rl), .unset, .unset, .unset, .unset, .unset, .unset] [(.ref jd)])
    refine hs.go (fun _ kk_ => XS.dup X2.here hx rfl (hb hby at_112) rfl rfl kk_) ?_
    show G T2 (mkF m 113 #[.val (.int nn), .val (.int a), .val (.int b), .val (.int cc), .val (.int dd), .val (.int ee), .val (.int (0 : Int32)), .val (.ref rl), .unset, .unset, .unset, .unset, .unset, .unset] [(.ref jd), (.ref jd)])
    refine hs.go (fun _ kk_ => XS.iconst X2.here hx rfl (hb hby at_113) kk_) ?_
    show G T2 (mkF m 114 #[.val (.int nn), .val (.int a), .val (.int b), .val (.int cc), .val (.int dd), .val (.int ee), .val (.int (0 : Int32)), .val (.ref rl), .unset, .unset, .unset, .unset, .unset, .unset] [(.int (0 : Int32)), (.ref jd), (.ref jd)])
    refine hs.go (fun _ kk_ => XS.iload X2.here hx rfl (hb hby at_114) rfl  kk_) ?_
    show G T2 (mkF m 116 #[.val (.int nn), .val (.int a), .val (.int b), .val (.int cc), .val (.int dd), .val (.int ee), .val (.int (0 : Int32)), .val (.ref rl), .unset, .unset, .unset, .unset, .unset, .unset] [(.int ee), (.int (0 : Int32)), (.ref jd), (.ref jd)])
    refine rStI hs X2 hx hZ V_jd g_jd ⟨by decide, by decide⟩ 0 (by decide) (by simp) rfl rfl (hb hby at_116) (fun T3 h3 X3 W3 V_jd => ?_)
    have V_jd : Arv Z h3 jd k2 .int (1 : Int32) [(.int ee)] (.int (0 : Int32)) := V_jd
    have V_rl := V_rl.other W3 ne_rl_jd
    have Z0 := Nat.le_trans Z0 (Keep.of_wr W3).1
    show G T3 (mkF m 117 #[.val (.int nn), .val (.int a), .val (.int b), .val (.int cc), .val (.int dd), .val (.int ee), .val (.int (0 : Int32)), .val (.ref rl), .unset, .unset, .unset, .unset, .unset, .unset] [(.ref jd)])
    refine hs.go (fun _ kk_ => XS.astore X3.here hx rfl (hb hby at_117) rfl rfl (l' := #[.val (.int nn), .val (.int a), .val (.int b), .val (.int cc), .val (.int dd), .val (.int ee), .val (.int (0 : Int32)), .val (.ref rl), .val (.ref jd), .unset, .unset, .unset, .unset, .unset]) rfl kk_) ?_
    show G T3 (mkF m 119 #[.val (.int nn), .val (.int a), .val (.int b), .val (.int cc), .val (.int dd), .val (.int ee), .val (.int (0 : Int32)), .val (.ref rl), .val (.ref jd), .unset, .unset, .unset, .unset, .unset] [])
    refine rNewO hs X3 hx hZ hown (hw _ (List.mem_of_getElem? (i := 2) rfl)) (hw _ (List.mem_of_getElem? (i := 3) rfl)) (hw _ (List.mem_of_getElem? (i := 4) rfl)) rfl (hb hby at_119) (by decide) (by decide) (fun T4 h4 ob g4 X4 E4 E_ob D4 => ?_)
    have g_ob : n0 ≤ ob := by rw [g4]; exact Z0
    have Z0 := Nat.le_trans Z0 E4.1
    have ne_rl_ob : rl ≠ ob := Nat.ne_of_lt (Nat.lt_of_lt_of_le V_rl.lt (Nat.le_of_eq g4.symm))
    have ne_jd_ob : jd ≠ ob := Nat.ne_of_lt (Nat.lt_of_lt_of_le V_jd.lt (Nat.le_of_eq g4.symm))
    have V_rl := V_rl.ext E4
    have V_jd := V_jd.ext E4
    have F_relevance_ob : Fld Z h4 ob "com/example/ranked_odds/rankedodds/eval/JudgedRanking" "relevance" "[I" .null := D4 (Or.inr (hw _ (List.mem_of_getElem? (i := 17) rfl))) (ty := (.array .int)) (by decide)
    have F_judged_ob : Fld Z h4 ob "com/example/ranked_odds/rankedodds/eval/JudgedRanking" "judged" "[I" .null := D4 (Or.inr (hw _ (List.mem_of_getElem? (i := 19) rfl))) (ty := (.array .int)) (by decide)
    show G T4 (mkF m 122 #[.val (.int nn), .val (.int a), .val (.int b), .val (.int cc), .val (.int dd), .val (.int ee), .val (.int (0 : Int32)), .val (.ref rl), .val (.ref jd), .unset, .unset, .unset, .unset, .unset] [(.ref ob)])
    refine hs.go (fun _ kk_ => XS.dup X4.here hx rfl (hb hby at_122) rfl rfl kk_) ?_
    show G T4 (mkF m 123 #[.val (.int nn), .val (.int a), .val (.int b), .val (.int cc), .val (.int dd), .val (.int ee), .val (.int (0 : Int32)), .val (.ref rl), .val (.ref jd), .unset, .unset, .unset, .unset, .unset] [(.ref ob), (.ref ob)])
    refine hs.go (fun _ kk_ => XS.aload X4.here hx rfl (hb hby at_123) rfl rfl kk_) ?_
    show G T4 (mkF m 125 #[.val (.int nn), .val (.int a), .val (.int b), .val (.int cc), .val (.int dd), .val (.int ee), .val (.int (0 : Int32)), .val (.ref rl), .val (.ref jd), .unset, .unset, .unset, .unset, .unset] [(.ref rl), (.ref ob), (.ref ob)])
    refine hs.go (fun _ kk_ => XS.aload X4.here hx rfl (hb hby at_125) rfl rfl kk_) ?_
    show G T4 (mkF m 127 #[.val (.int nn), .val (.int a), .val (.int b), .val (.int cc), .val (.int dd), .val (.int ee), .val (.int (0 : Int32)), .val (.ref rl), .val (.ref jd), .unset, .unset, .unset, .unset, .unset] [(.ref jd), (.ref rl), (.ref ob), (.ref ob)])
    refine rCallI hs X4 hx hZ (as' := [(.ref rl), (.ref jd)]) (rm1 l Z a0 hw [] ob rl jd h4 n0 Z0 E_ob g_ob F_relevance_ob F_judged_ob) rfl hown (hw _ (List.mem_of_getElem? (i := 5) rfl)) (hw _ (List.mem_of_getElem? (i := 6) rfl)) (hw _ (List.mem_of_getElem? (i := 4) rfl)) (hw _ (List.mem_of_getElem? (i := 7) rfl)) hy_1 rfl (by rw [hml]; rfl) [(.ref ob)] (lenOf pd_1 rfl) rfl 1 (by show 2 * 0 + _ ≤ _; exact Nat.le_of_eq rfl) (hb hby at_127) (by decide) (by decide) (by decide) (by decide) (fun r5 T5 h5 X5 q5 => ?_)
    obtain ⟨rfl, Kc5, E_ob, F_relevance_ob⟩ := q5
    have Z0 := Nat.le_trans Z0 Kc5.1
    have V_rl := V_rl.keep Kc5 (ninS ne_rl_ob nin0)
    have V_jd := V_jd.keep Kc5 (ninS ne_jd_ob nin0)
    show G T5 (mkF m 130 #[.val (.int nn), .val (.int a), .val (.int b), .val (.int cc), .val (.int dd), .val (.int ee), .val (.int (0 : Int32)), .val (.ref rl), .val (.ref jd), .unset, .unset, .unset, .unset, .unset] [(.ref ob)])
    refine hs.go (fun _ kk_ => XS.astore X5.here hx rfl (hb hby at_130) rfl rfl (l' := #[.val (.int nn), .val (.int a), .val (.int b), .val (.int cc), .val (.int dd), .val (.int ee), .val (.int (0 : Int32)), .val (.ref rl), .val (.ref jd), .val (.ref ob), .unset, .unset, .unset, .unset]) rfl kk_) ?_
    show G T5 (mkF m 132 #[.val (.int nn), .val (.int a), .val (.int b), .val (.int cc), .val (.int dd), .val (.int ee), .val (.int (0 : Int32)), .val (.ref rl), .val (.ref jd), .val (.ref ob), .unset, .unset, .unset, .unset] [])
    refine hs.go (fun _ kk_ => XS.aload X5.here hx rfl (hb hby at_132) rfl rfl kk_) ?_
    show G T5 (mkF m 134 #[.val (.int nn), .val (.int a), .val (.int b), .val (.int cc), .val (.int dd), .val (.int ee), .val (.int (0 : Int32)), .val (.ref rl), .val (.ref jd), .val (.ref ob), .unset, .unset, .unset, .unset] [(.ref ob)])
    refine rCallV hs X5 hx hZ (as' := []) (rm4 l Z a0 hw [] ob rl (0 : Int32) [] k1 h5 n0 Z0 F_relevance_ob V_rl rfl (by simp)) E_ob hown (hw _ (List.mem_of_getElem? (i := 20) rfl)) (hw _ (List.mem_of_getElem? (i := 21) rfl)) (hw _ (List.mem_of_getElem? (i := 23) rfl)) (hw _ (List.mem_of_getElem? (i := 22) rfl)) (hw _ (List.mem_of_getElem? (i := 4) rfl)) (hw _ (List.mem_of_getElem? (i := 24) rfl)) hy_4 rfl (by rw [hml]; rfl) [] (lenOf pd_2 rfl) rfl 0 (by show 2 * 0 + _ ≤ _; exact Nat.le_of_eq rfl) (hb hby at_134) (by decide) (by decide) (by decide) (by decide) (fun r6 T6 h6 X6 q6 => ?_)
    obtain ⟨rfl, qh6⟩ := q6
    rw [qh6] at X6
    show G T6 (mkF m 137 #[.val (.int nn), .val (.int a), .val (.int b), .val (.int cc), .val (.int dd), .val (.int ee), .val (.int (0 : Int32)), .val (.ref rl), .val (.ref jd), .val (.ref ob), .unset, .unset, .unset, .unset] [(.double (rr [] 0))])
    refine nameIt (P := fun zz_ : UInt64 => G T6 (mkF m 137 #[.val (.int nn), .val (.int a), .val (.int b), .val (.int cc), .val (.int dd), .val (.int ee), .val (.int (0 : Int32)), .val (.ref rl), .val (.ref jd), .val (.ref ob), .unset, .unset, .unset, .unset] [(.double zz_)])) (rr [] 0) (fun gt hgt => ?_)
    show G T6 (mkF m 137 #[.val (.int nn), .val (.int a), .val (.int b), .val (.int cc), .val (.int dd), .val (.int ee), .val (.int (0 : Int32)), .val (.ref rl), .val (.ref jd), .val (.ref ob), .unset, .unset, .unset, .unset] [(.double gt)])
    refine hs.go (fun _ kk_ => XS.dstore X6.here hx rfl (hb hby at_137) rfl (l' := #[.val (.int nn), .val (.int a), .val (.int b), .val (.int cc), .val (.int dd), .val (.int ee), .val (.int (0 : Int32)), .val (.ref rl), .val (.ref jd), .val (.ref ob), .val (.double gt), .second, .unset, .unset]) rfl kk_) ?_
    show G T6 (mkF m 139 #[.val (.int nn), .val (.int a), .val (.int b), .val (.int cc), .val (.int dd), .val (.int ee), .val (.int (0 : Int32)), .val (.ref rl), .val (.ref jd), .val (.ref ob), .val (.double gt), .second, .unset, .unset] [])
    refine hs.go (fun _ kk_ => XS.iload X6.here hx rfl (hb hby at_139) rfl  kk_) ?_
    show G T6 (mkF m 141 #[.val (.int nn), .val (.int a), .val (.int b), .val (.int cc), .val (.int dd), .val (.int ee), .val (.int (0 : Int32)), .val (.ref rl), .val (.ref jd), .val (.ref ob), .val (.double gt), .second, .unset, .unset] [(.int (0 : Int32))])
    refine hs.go (fun _ kk_ => XS.iconst X6.here hx rfl (hb hby at_141) kk_) ?_
    show G T6 (mkF m 142 #[.val (.int nn), .val (.int a), .val (.int b), .val (.int cc), .val (.int dd), .val (.int ee), .val (.int (0 : Int32)), .val (.ref rl), .val (.ref jd), .val (.ref ob), .val (.double gt), .second, .unset, .unset] [(.int (1 : Int32)), (.int (0 : Int32))])
    refine hs.go (fun _ kk_ => XS.icmpYes X6.here hx rfl (pc0 := 142) (pc' := 155) rfl (hb hby at_142) rfl (tlt ((by decide) : (0 : Int32) < (1 : Int32))).1 (by decide) (by decide) kk_) ?_
    show G T6 (mkF m 155 #[.val (.int nn), .val (.int a), .val (.int b), .val (.int cc), .val (.int dd), .val (.int ee), .val (.int (0 : Int32)), .val (.ref rl), .val (.ref jd), .val (.ref ob), .val (.double gt), .second, .unset, .unset] [])
    refine hs.go (fun _ kk_ => XS.iload X6.here hx rfl (hb hby at_155) rfl  kk_) ?_
    show G T6 (mkF m 157 #[.val (.int nn), .val (.int a), .val (.int b), .val (.int cc), .val (.int dd), .val (.int ee), .val (.int (0 : Int32)), .val (.ref rl), .val (.ref jd), .val (.ref ob), .val (.double gt), .second, .unset, .unset] [(.int (0 : Int32))])
    refine hs.go (fun _ kk_ => XS.iconst X6.here hx rfl (hb hby at_157) kk_) ?_
    show G T6 (mkF m 158 #[.val (.int nn), .val (.int a), .val (.int b), .val (.int cc), .val (.int dd), .val (.int ee), .val (.int (0 : Int32)), .val (.ref rl), .val (.ref jd), .val (.ref ob), .val (.double gt), .second, .unset, .unset] [(.int (2 : Int32)), (.int (0 : Int32))])
    refine hs.go (fun _ kk_ => XS.icmpYes X6.here hx rfl (pc0 := 158) (pc' := 173) rfl (hb hby at_158) rfl (tlt ((by decide) : (0 : Int32) < (2 : Int32))).1 (by decide) (by decide) kk_) ?_
    show G T6 (mkF m 173 #[.val (.int nn), .val (.int a), .val (.int b), .val (.int cc), .val (.int dd), .val (.int ee), .val (.int (0 : Int32)), .val (.ref rl), .val (.ref jd), .val (.ref ob), .val (.double gt), .second, .unset, .unset] [])
    refine hs.go (fun _ kk_ => XS.iload X6.here hx rfl (hb hby at_173) rfl  kk_) ?_
    show G T6 (mkF m 175 #[.val (.int nn), .val (.int a), .val (.int b), .val (.int cc), .val (.int dd), .val (.int ee), .val (.int (0 : Int32)), .val (.ref rl), .val (.ref jd), .val (.ref ob), .val (.double gt), .second, .unset, .unset] [(.int (0 : Int32))])
    refine hs.go (fun _ kk_ => XS.iconst X6.here hx rfl (hb hby at_175) kk_) ?_
    show G T6 (mkF m 176 #[.val (.int nn), .val (.int a), .val (.int b), .val (.int cc), .val (.int dd), .val (.int ee), .val (.int (0 : Int32)), .val (.ref rl), .val (.ref jd), .val (.ref ob), .val (.double gt), .second, .unset, .unset] [(.int (3 : Int32)), (.int (0 : Int32))])
    refine hs.go (fun _ kk_ => XS.icmpYes X6.here hx rfl (pc0 := 176) (pc' := 191) rfl (hb hby at_176) rfl (tlt ((by decide) : (0 : Int32) < (3 : Int32))).1 (by decide) (by decide) kk_) ?_
    show G T6 (mkF m 191 #[.val (.int nn), .val (.int a), .val (.int b), .val (.int cc), .val (.int dd), .val (.int ee), .val (.int (0 : Int32)), .val (.ref rl), .val (.ref jd), .val (.ref ob), .val (.double gt), .second, .unset, .unset] [])
    refine hs.go (fun _ kk_ => XS.iload X6.here hx rfl (hb hby at_191) rfl  kk_) ?_
    show G T6 (mkF m 193 #[.val (.int nn), .val (.int a), .val (.int b), .val (.int cc), .val (.int dd), .val (.int ee), .val (.int (0 : Int32)), .val (.ref rl), .val (.ref jd), .val (.ref ob), .val (.double gt), .second, .unset, .unset] [(.int (0 : Int32))])
    refine hs.go (fun _ kk_ => XS.iconst X6.here hx rfl (hb hby at_193) kk_) ?_
    show G T6 (mkF m 194 #[.val (.int nn), .val (.int a), .val (.int b), .val (.int cc), .val (.int dd), .val (.int ee), .val (.int (0 : Int32)), .val (.ref rl), .val (.ref jd), .val (.ref ob), .val (.double gt), .second, .unset, .unset] [(.int (4 : Int32)), (.int (0 : Int32))])
    refine hs.go (fun _ kk_ => XS.icmpYes X6.here hx rfl (pc0 := 194) (pc' := 210) rfl (hb hby at_194) rfl (tlt ((by decide) : (0 : Int32) < (4 : Int32))).1 (by decide) (by decide) kk_) ?_
    show G T6 (mkF m 210 #[.val (.int nn), .val (.int a), .val (.int b), .val (.int cc), .val (.int dd), .val (.int ee), .val (.int (0 : Int32)), .val (.ref rl), .val (.ref jd), .val (.ref ob), .val (.double gt), .second, .unset, .unset] [])
    refine hs.go (fun _ kk_ => XS.dconst0 X6.here hx rfl (hb hby at_210) (v := (0 : UInt64)) (by decide +kernel) kk_) ?_
    show G T6 (mkF m 211 #[.val (.int nn), .val (.int a), .val (.int b), .val (.int cc), .val (.int dd), .val (.int ee), .val (.int (0 : Int32)), .val (.ref rl), .val (.ref jd), .val (.ref ob), .val (.double gt), .second, .unset, .unset] [(.double (0 : UInt64))])
    refine hs.go (fun _ kk_ => XS.dstore X6.here hx rfl (hb hby at_211) rfl (l' := #[.val (.int nn), .val (.int a), .val (.int b), .val (.int cc), .val (.int dd), .val (.int ee), .val (.int (0 : Int32)), .val (.ref rl), .val (.ref jd), .val (.ref ob), .val (.double gt), .second, .val (.double (0 : UInt64)), .second]) rfl kk_) ?_
    show G T6 (mkF m 213 #[.val (.int nn), .val (.int a), .val (.int b), .val (.int cc), .val (.int dd), .val (.int ee), .val (.int (0 : Int32)), .val (.ref rl), .val (.ref jd), .val (.ref ob), .val (.double gt), .second, .val (.double (0 : UInt64)), .second] [])
    refine hs.go (fun _ kk_ => XS.dload X6.here hx rfl (hb hby at_213) rfl  kk_) ?_
    show G T6 (mkF m 215 #[.val (.int nn), .val (.int a), .val (.int b), .val (.int cc), .val (.int dd), .val (.int ee), .val (.int (0 : Int32)), .val (.ref rl), .val (.ref jd), .val (.ref ob), .val (.double gt), .second, .val (.double (0 : UInt64)), .second] [(.double gt)])
    refine hs.go (fun _ kk_ => XS.dload X6.here hx rfl (hb hby at_215) rfl  kk_) ?_
    show G T6 (mkF m 217 #[.val (.int nn), .val (.int a), .val (.int b), .val (.int cc), .val (.int dd), .val (.int ee), .val (.int (0 : Int32)), .val (.ref rl), .val (.ref jd), .val (.ref ob), .val (.double gt), .second, .val (.double (0 : UInt64)), .second] [(.double (0 : UInt64)), (.double gt)])
    refine hs.go (fun _ kk_ => XS.dcmpS X6.here hx rfl (hb hby at_217) rfl (v := (0 : Int32)) (by rw [hgt]; simp only [rr, if_true, if_false]; decide +kernel) kk_) ?_
    show G T6 (mkF m 218 #[.val (.int nn), .val (.int a), .val (.int b), .val (.int cc), .val (.int dd), .val (.int ee), .val (.int (0 : Int32)), .val (.ref rl), .val (.ref jd), .val (.ref ob), .val (.double gt), .second, .val (.double (0 : UInt64)), .second] [(.int (0 : Int32))])
    refine hs.go (fun _ kk_ => XS.ifNo X6.here hx rfl (hb hby at_218) rfl ((if0 _ _).trans (teq (rfl : (0 : Int32) = (0 : Int32))).2) kk_) ?_
    show G T6 (mkF m 221 #[.val (.int nn), .val (.int a), .val (.int b), .val (.int cc), .val (.int dd), .val (.int ee), .val (.int (0 : Int32)), .val (.ref rl), .val (.ref jd), .val (.ref ob), .val (.double gt), .second, .val (.double (0 : UInt64)), .second] [])
    refine hs.go (fun _ kk_ => XS.iconst X6.here hx rfl (hb hby at_221) kk_) ?_
    show G T6 (mkF m 222 #[.val (.int nn), .val (.int a), .val (.int b), .val (.int cc), .val (.int dd), .val (.int ee), .val (.int (0 : Int32)), .val (.ref rl), .val (.ref jd), .val (.ref ob), .val (.double gt), .second, .val (.double (0 : UInt64)), .second] [(.int (1 : Int32))])
    refine hs.go (fun _ kk_ => XS.goto X6.here hx rfl (pc0 := 222) (pc' := 226) rfl (hb hby at_222) (by decide) (by decide) kk_) ?_
    show G T6 (mkF m 226 #[.val (.int nn), .val (.int a), .val (.int b), .val (.int cc), .val (.int dd), .val (.int ee), .val (.int (0 : Int32)), .val (.ref rl), .val (.ref jd), .val (.ref ob), .val (.double gt), .second, .val (.double (0 : UInt64)), .second] [(.int (1 : Int32))])
    exact rRetN fin X6 hx (by decide) (by decide) hret (by simp) (hb hby at_226) (z' := (1 : Int32)) (by decide) rfl
  · show G s₁ (mkF m 8 #[.val (.int nn), .val (.int a), .val (.int b), .val (.int cc), .val (.int dd), .val (.int ee), .val (.int (1 : Int32)), .unset, .unset, .unset, .unset, .unset, .unset, .unset] [])
    refine hs.go (fun _ kk_ => XS.iload X0.here hx rfl (hb hby at_8) rfl  kk_) ?_
    show G s₁ (mkF m 10 #[.val (.int nn), .val (.int a), .val (.int b), .val (.int cc), .val (.int dd), .val (.int ee), .val (.int (1 : Int32)), .unset, .unset, .unset, .unset, .unset, .unset, .unset] [(.int (1 : Int32))])
    refine hs.go (fun _ kk_ => XS.ifYes X0.here hx rfl (pc0 := 10) (pc' := 21) rfl (hb hby at_10) rfl ((if0 _ _).trans (feq ((by decide) : ¬ ((1 : Int32) = (0 : Int32)))).2) (by decide) (by decide) kk_) ?_
    show G s₁ (mkF m 21 #[.val (.int nn), .val (.int a), .val (.int b), .val (.int cc), .val (.int dd), .val (.int ee), .val (.int (1 : Int32)), .unset, .unset, .unset, .unset, .unset, .unset, .unset] [])
    refine hs.go (fun _ kk_ => XS.iload X0.here hx rfl (hb hby at_21) rfl  kk_) ?_
    show G s₁ (mkF m 23 #[.val (.int nn), .val (.int a), .val (.int b), .val (.int cc), .val (.int dd), .val (.int ee), .val (.int (1 : Int32)), .unset, .unset, .unset, .unset, .unset, .unset, .unset] [(.int (1 : Int32))])
    refine hs.go (fun _ kk_ => XS.iconst X0.here hx rfl (hb hby at_23) kk_) ?_
    show G s₁ (mkF m 24 #[.val (.int nn), .val (.int a), .val (.int b), .val (.int cc), .val (.int dd), .val (.int ee), .val (.int (1 : Int32)), .unset, .unset, .unset, .unset, .unset, .unset, .unset] [(.int (1 : Int32)), (.int (1 : Int32))])
    refine hs.go (fun _ kk_ => XS.icmpNo X0.here hx rfl (hb hby at_24) rfl (teq (rfl : (1 : Int32) = (1 : Int32))).2 kk_) ?_
    show G s₁ (mkF m 27 #[.val (.int nn), .val (.int a), .val (.int b), .val (.int cc), .val (.int dd), .val (.int ee), .val (.int (1 : Int32)), .unset, .unset, .unset, .unset, .unset, .unset, .unset] [])
    refine hs.go (fun _ kk_ => XS.iconst X0.here hx rfl (hb hby at_27) kk_) ?_
    show G s₁ (mkF m 28 #[.val (.int nn), .val (.int a), .val (.int b), .val (.int cc), .val (.int dd), .val (.int ee), .val (.int (1 : Int32)), .unset, .unset, .unset, .unset, .unset, .unset, .unset] [(.int (1 : Int32))])
    refine rNewP hs X0 hx hZ (hw _ (List.mem_of_getElem? (i := 1) rfl)) rfl (hb hby at_28) rfl (by decide) 1 1 (by decide) (by decide) (by decide) (by decide) (fun T7 h7 k7 rl g7 X7 E7 V_rl => ?_)
    have V_rl : Arv Z h7 rl k7 .int (1 : Int32) [(.int (0 : Int32))] (.int (0 : Int32)) := V_rl
    have g_rl : n0 ≤ rl := by rw [g7]; exact Z0
    have Z0 := Nat.le_trans Z0 E7.1
    show G T7 (mkF m 30 #[.val (.int nn), .val (.int a), .val (.int b), .val (.int cc), .val (.int dd), .val (.int ee), .val (.int (1 : Int32)), .unset, .unset, .unset, .unset, .unset, .unset, .unset] [(.ref rl)])
    refine hs.go (fun _ kk_ => XS.dup X7.here hx rfl (hb hby at_30) rfl rfl kk_) ?_
    show G T7 (mkF m 31 #[.val (.int nn), .val (.int a), .val (.int b), .val (.int cc), .val (.int dd), .val (.int ee), .val (.int (1 : Int32)), .unset, .unset, .unset, .unset, .unset, .unset, .unset] [(.ref rl), (.ref rl)])
    refine hs.go (fun _ kk_ => XS.iconst X7.here hx rfl (hb hby at_31) kk_) ?_
    show G T7 (mkF m 32 #[.val (.int nn), .val (.int a), .val (.int b), .val (.int cc), .val (.int dd), .val (.int ee), .val (.int (1 : Int32)), .unset, .unset, .unset, .unset, .unset, .unset, .unset] [(.int (0 : Int32)), (.ref rl), (.ref rl)])
    refine hs.go (fun _ kk_ => XS.iloadN X7.here hx rfl (hb hby at_32) rfl  kk_) ?_
    show G T7 (mkF m 33 #[.val (.int nn), .val (.int a), .val (.int b), .val (.int cc), .val (.int dd), .val (.int ee), .val (.int (1 : Int32)), .unset, .unset, .unset, .unset, .unset, .unset, .unset] [(.int a), (.int (0 : Int32)), (.ref rl), (.ref rl)])
    refine rStI hs X7 hx hZ V_rl g_rl ⟨by decide, by decide⟩ 0 (by decide) (by simp) rfl rfl (hb hby at_33) (fun T8 h8 X8 W8 V_rl => ?_)
    have V_rl : Arv Z h8 rl k7 .int (1 : Int32) [(.int a)] (.int (0 : Int32)) := V_rl
    have Z0 := Nat.le_trans Z0 (Keep.of_wr W8).1
    show G T8 (mkF m 34 #[.val (.int nn), .val (.int a), .val (.int b), .val (.int cc), .val (.int dd), .val (.int ee), .val (.int (1 : Int32)), .unset, .unset, .unset, .unset, .unset, .unset, .unset] [(.ref rl)])
    refine hs.go (fun _ kk_ => XS.astore X8.here hx rfl (hb hby at_34) rfl rfl (l' := #[.val (.int nn), .val (.int a), .val (.int b), .val (.int cc), .val (.int dd), .val (.int ee), .val (.int (1 : Int32)), .val (.ref rl), .unset, .unset, .unset, .unset, .unset, .unset]) rfl kk_) ?_
    show G T8 (mkF m 36 #[.val (.int nn), .val (.int a), .val (.int b), .val (.int cc), .val (.int dd), .val (.int ee), .val (.int (1 : Int32)), .val (.ref rl), .unset, .unset, .unset, .unset, .unset, .unset] [])
    refine hs.go (fun _ kk_ => XS.goto X8.here hx rfl (pc0 := 36) (pc' := 109) rfl (hb hby at_36) (by decide) (by decide) kk_) ?_
    show G T8 (mkF m 109 #[.val (.int nn), .val (.int a), .val (.int b), .val (.int cc), .val (.int dd), .val (.int ee), .val (.int (1 : Int32)), .val (.ref rl), .unset, .unset, .unset, .unset, .unset, .unset] [])
    refine hs.go (fun _ kk_ => XS.iconst X8.here hx rfl (hb hby at_109) kk_) ?_
    show G T8 (mkF m 110 #[.val (.int nn), .val (.int a), .val (.int b), .val (.int cc), .val (.int dd), .val (.int ee), .val (.int (1 : Int32)), .val (.ref rl), .unset, .unset, .unset, .unset, .unset, .unset] [(.int (1 : Int32))])
    refine rNewP hs X8 hx hZ (hw _ (List.mem_of_getElem? (i := 1) rfl)) rfl (hb hby at_110) rfl (by decide) 1 1 (by decide) (by decide) (by decide) (by decide) (fun T9 h9 k9 jd g9 X9 E9 V_jd => ?_)
    have V_jd : Arv Z h9 jd k9 .int (1 : Int32) [(.int (0 : Int32))] (.int (0 : Int32)) := V_jd
    have g_jd : n0 ≤ jd := by rw [g9]; exact Z0
    have Z0 := Nat.le_trans Z0 E9.1
    have ne_rl_jd : rl ≠ jd := Nat.ne_of_lt (Nat.lt_of_lt_of_le V_rl.lt (Nat.le_of_eq g9.symm))
    have V_rl := V_rl.ext E9
    show G T9 (mkF m 112 #[.val (.int nn), .val (.int a), .val (.int b), .val (.int cc), .val (.int dd), .val (.int ee), .val (.int (1 : Int32)), .val (.ref rl), .unset, .unset, .unset, .unset, .unset, .unset] [(.ref jd)])
    refine hs.go (fun _ kk_ => XS.dup X9.here hx rfl (hb hby at_112) rfl rfl kk_) ?_
    show G T9 (mkF m 113 #[.val (.int nn), .val (.int a), .val (.int b), .val (.int cc), .val (.int dd), .val (.int ee), .val (.int (1 : Int32)), .val (.ref rl), .unset, .unset, .unset, .unset, .unset, .unset] [(.ref jd), (.ref jd)])
    refine hs.go (fun _ kk_ => XS.iconst X9.here hx rfl (hb hby at_113) kk_) ?_
    show G T9 (mkF m 114 #[.val (.int nn), .val (.int a), .val (.int b), .val (.int cc), .val (.int dd), .val (.int ee), .val (.int (1 : Int32)), .val (.ref rl), .unset, .unset, .unset, .unset, .unset, .unset] [(.int (0 : Int32)), (.ref jd), (.ref jd)])
    refine hs.go (fun _ kk_ => XS.iload X9.here hx rfl (hb hby at_114) rfl  kk_) ?_
    show G T9 (mkF m 116 #[.val (.int nn), .val (.int a), .val (.int b), .val (.int cc), .val (.int dd), .val (.int ee), .val (.int (1 : Int32)), .val (.ref rl), .unset, .unset, .unset, .unset, .unset, .unset] [(.int ee), (.int (0 : Int32)), (.ref jd), (.ref jd)])
    refine rStI hs X9 hx hZ V_jd g_jd ⟨by decide, by decide⟩ 0 (by decide) (by simp) rfl rfl (hb hby at_116) (fun T10 h10 X10 W10 V_jd => ?_)
    have V_jd : Arv Z h10 jd k9 .int (1 : Int32) [(.int ee)] (.int (0 : Int32)) := V_jd
    have V_rl := V_rl.other W10 ne_rl_jd
    have Z0 := Nat.le_trans Z0 (Keep.of_wr W10).1
    show G T10 (mkF m 117 #[.val (.int nn), .val (.int a), .val (.int b), .val (.int cc), .val (.int dd), .val (.int ee), .val (.int (1 : Int32)), .val (.ref rl), .unset, .unset, .unset, .unset, .unset, .unset] [(.ref jd)])
    refine hs.go (fun _ kk_ => XS.astore X10.here hx rfl (hb hby at_117) rfl rfl (l' := #[.val (.int nn), .val (.int a), .val (.int b), .val (.int cc), .val (.int dd), .val (.int ee), .val (.int (1 : Int32)), .val (.ref rl), .val (.ref jd), .unset, .unset, .unset, .unset, .unset]) rfl kk_) ?_
    show G T10 (mkF m 119 #[.val (.int nn), .val (.int a), .val (.int b), .val (.int cc), .val (.int dd), .val (.int ee), .val (.int (1 : Int32)), .val (.ref rl), .val (.ref jd), .unset, .unset, .unset, .unset, .unset] [])
    refine rNewO hs X10 hx hZ hown (hw _ (List.mem_of_getElem? (i := 2) rfl)) (hw _ (List.mem_of_getElem? (i := 3) rfl)) (hw _ (List.mem_of_getElem? (i := 4) rfl)) rfl (hb hby at_119) (by decide) (by decide) (fun T11 h11 ob g11 X11 E11 E_ob D11 => ?_)
    have g_ob : n0 ≤ ob := by rw [g11]; exact Z0
    have Z0 := Nat.le_trans Z0 E11.1
    have ne_rl_ob : rl ≠ ob := Nat.ne_of_lt (Nat.lt_of_lt_of_le V_rl.lt (Nat.le_of_eq g11.symm))
    have ne_jd_ob : jd ≠ ob := Nat.ne_of_lt (Nat.lt_of_lt_of_le V_jd.lt (Nat.le_of_eq g11.symm))
    have V_rl := V_rl.ext E11
    have V_jd := V_jd.ext E11
    have F_relevance_ob : Fld Z h11 ob "com/example/ranked_odds/rankedodds/eval/JudgedRanking" "relevance" "[I" .null := D11 (Or.inr (hw _ (List.mem_of_getElem? (i := 17) rfl))) (ty := (.array .int)) (by decide)
    have F_judged_ob : Fld Z h11 ob "com/example/ranked_odds/rankedodds/eval/JudgedRanking" "judged" "[I" .null := D11 (Or.inr (hw _ (List.mem_of_getElem? (i := 19) rfl))) (ty := (.array .int)) (by decide)
    show G T11 (mkF m 122 #[.val (.int nn), .val (.int a), .val (.int b), .val (.int cc), .val (.int dd), .val (.int ee), .val (.int (1 : Int32)), .val (.ref rl), .val (.ref jd), .unset, .unset, .unset, .unset, .unset] [(.ref ob)])
    refine hs.go (fun _ kk_ => XS.dup X11.here hx rfl (hb hby at_122) rfl rfl kk_) ?_
    show G T11 (mkF m 123 #[.val (.int nn), .val (.int a), .val (.int b), .val (.int cc), .val (.int dd), .val (.int ee), .val (.int (1 : Int32)), .val (.ref rl), .val (.ref jd), .unset, .unset, .unset, .unset, .unset] [(.ref ob), (.ref ob)])
    refine hs.go (fun _ kk_ => XS.aload X11.here hx rfl (hb hby at_123) rfl rfl kk_) ?_
    show G T11 (mkF m 125 #[.val (.int nn), .val (.int a), .val (.int b), .val (.int cc), .val (.int dd), .val (.int ee), .val (.int (1 : Int32)), .val (.ref rl), .val (.ref jd), .unset, .unset, .unset, .unset, .unset] [(.ref rl), (.ref ob), (.ref ob)])
    refine hs.go (fun _ kk_ => XS.aload X11.here hx rfl (hb hby at_125) rfl rfl kk_) ?_
    show G T11 (mkF m 127 #[.val (.int nn), .val (.int a), .val (.int b), .val (.int cc), .val (.int dd), .val (.int ee), .val (.int (1 : Int32)), .val (.ref rl), .val (.ref jd), .unset, .unset, .unset, .unset, .unset] [(.ref jd), (.ref rl), (.ref ob), (.ref ob)])
    refine rCallI hs X11 hx hZ (as' := [(.ref rl), (.ref jd)]) (rm1 l Z a0 hw [] ob rl jd h11 n0 Z0 E_ob g_ob F_relevance_ob F_judged_ob) rfl hown (hw _ (List.mem_of_getElem? (i := 5) rfl)) (hw _ (List.mem_of_getElem? (i := 6) rfl)) (hw _ (List.mem_of_getElem? (i := 4) rfl)) (hw _ (List.mem_of_getElem? (i := 7) rfl)) hy_1 rfl (by rw [hml]; rfl) [(.ref ob)] (lenOf pd_1 rfl) rfl 1 (by show 2 * 0 + _ ≤ _; exact Nat.le_of_eq rfl) (hb hby at_127) (by decide) (by decide) (by decide) (by decide) (fun r12 T12 h12 X12 q12 => ?_)
    obtain ⟨rfl, Kc12, E_ob, F_relevance_ob⟩ := q12
    have Z0 := Nat.le_trans Z0 Kc12.1
    have V_rl := V_rl.keep Kc12 (ninS ne_rl_ob nin0)
    have V_jd := V_jd.keep Kc12 (ninS ne_jd_ob nin0)
    show G T12 (mkF m 130 #[.val (.int nn), .val (.int a), .val (.int b), .val (.int cc), .val (.int dd), .val (.int ee), .val (.int (1 : Int32)), .val (.ref rl), .val (.ref jd), .unset, .unset, .unset, .unset, .unset] [(.ref ob)])
    refine hs.go (fun _ kk_ => XS.astore X12.here hx rfl (hb hby at_130) rfl rfl (l' := #[.val (.int nn), .val (.int a), .val (.int b), .val (.int cc), .val (.int dd), .val (.int ee), .val (.int (1 : Int32)), .val (.ref rl), .val (.ref jd), .val (.ref ob), .unset, .unset, .unset, .unset]) rfl kk_) ?_
    show G T12 (mkF m 132 #[.val (.int nn), .val (.int a), .val (.int b), .val (.int cc), .val (.int dd), .val (.int ee), .val (.int (1 : Int32)), .val (.ref rl), .val (.ref jd), .val (.ref ob), .unset, .unset, .unset, .unset] [])
    refine hs.go (fun _ kk_ => XS.aload X12.here hx rfl (hb hby at_132) rfl rfl kk_) ?_
    show G T12 (mkF m 134 #[.val (.int nn), .val (.int a), .val (.int b), .val (.int cc), .val (.int dd), .val (.int ee), .val (.int (1 : Int32)), .val (.ref rl), .val (.ref jd), .val (.ref ob), .unset, .unset, .unset, .unset] [(.ref ob)])
    refine rCallV hs X12 hx hZ (as' := []) (rm4 l Z a0 hw [] ob rl (1 : Int32) [a] k7 h12 n0 Z0 F_relevance_ob V_rl rfl (by simp)) E_ob hown (hw _ (List.mem_of_getElem? (i := 20) rfl)) (hw _ (List.mem_of_getElem? (i := 21) rfl)) (hw _ (List.mem_of_getElem? (i := 23) rfl)) (hw _ (List.mem_of_getElem? (i := 22) rfl)) (hw _ (List.mem_of_getElem? (i := 4) rfl)) (hw _ (List.mem_of_getElem? (i := 24) rfl)) hy_4 rfl (by rw [hml]; rfl) [] (lenOf pd_2 rfl) rfl 0 (by show 2 * 0 + _ ≤ _; exact Nat.le_of_eq rfl) (hb hby at_134) (by decide) (by decide) (by decide) (by decide) (fun r13 T13 h13 X13 q13 => ?_)
    obtain ⟨rfl, qh13⟩ := q13
    rw [qh13] at X13
    show G T13 (mkF m 137 #[.val (.int nn), .val (.int a), .val (.int b), .val (.int cc), .val (.int dd), .val (.int ee), .val (.int (1 : Int32)), .val (.ref rl), .val (.ref jd), .val (.ref ob), .unset, .unset, .unset, .unset] [(.double (rr [a] 0))])
    refine nameIt (P := fun zz_ : UInt64 => G T13 (mkF m 137 #[.val (.int nn), .val (.int a), .val (.int b), .val (.int cc), .val (.int dd), .val (.int ee), .val (.int (1 : Int32)), .val (.ref rl), .val (.ref jd), .val (.ref ob), .unset, .unset, .unset, .unset] [(.double zz_)])) (rr [a] 0) (fun gt hgt => ?_)
    show G T13 (mkF m 137 #[.val (.int nn), .val (.int a), .val (.int b), .val (.int cc), .val (.int dd), .val (.int ee), .val (.int (1 : Int32)), .val (.ref rl), .val (.ref jd), .val (.ref ob), .unset, .unset, .unset, .unset] [(.double gt)])
    refine hs.go (fun _ kk_ => XS.dstore X13.here hx rfl (hb hby at_137) rfl (l' := #[.val (.int nn), .val (.int a), .val (.int b), .val (.int cc), .val (.int dd), .val (.int ee), .val (.int (1 : Int32)), .val (.ref rl), .val (.ref jd), .val (.ref ob), .val (.double gt), .second, .unset, .unset]) rfl kk_) ?_
    show G T13 (mkF m 139 #[.val (.int nn), .val (.int a), .val (.int b), .val (.int cc), .val (.int dd), .val (.int ee), .val (.int (1 : Int32)), .val (.ref rl), .val (.ref jd), .val (.ref ob), .val (.double gt), .second, .unset, .unset] [])
    refine hs.go (fun _ kk_ => XS.iload X13.here hx rfl (hb hby at_139) rfl  kk_) ?_
    show G T13 (mkF m 141 #[.val (.int nn), .val (.int a), .val (.int b), .val (.int cc), .val (.int dd), .val (.int ee), .val (.int (1 : Int32)), .val (.ref rl), .val (.ref jd), .val (.ref ob), .val (.double gt), .second, .unset, .unset] [(.int (1 : Int32))])
    refine hs.go (fun _ kk_ => XS.iconst X13.here hx rfl (hb hby at_141) kk_) ?_
    show G T13 (mkF m 142 #[.val (.int nn), .val (.int a), .val (.int b), .val (.int cc), .val (.int dd), .val (.int ee), .val (.int (1 : Int32)), .val (.ref rl), .val (.ref jd), .val (.ref ob), .val (.double gt), .second, .unset, .unset] [(.int (1 : Int32)), (.int (1 : Int32))])
    refine hs.go (fun _ kk_ => XS.icmpNo X13.here hx rfl (hb hby at_142) rfl (flt ((by decide) : ¬ ((1 : Int32) < (1 : Int32)))).1 kk_) ?_
    show G T13 (mkF m 145 #[.val (.int nn), .val (.int a), .val (.int b), .val (.int cc), .val (.int dd), .val (.int ee), .val (.int (1 : Int32)), .val (.ref rl), .val (.ref jd), .val (.ref ob), .val (.double gt), .second, .unset, .unset] [])
    refine hs.go (fun _ kk_ => XS.iloadN X13.here hx rfl (hb hby at_145) rfl  kk_) ?_
    show G T13 (mkF m 146 #[.val (.int nn), .val (.int a), .val (.int b), .val (.int cc), .val (.int dd), .val (.int ee), .val (.int (1 : Int32)), .val (.ref rl), .val (.ref jd), .val (.ref ob), .val (.double gt), .second, .unset, .unset] [(.int a)])
    by_cases c146 : (0 : Int32) < a
    · refine hs.go (fun _ kk_ => XS.ifNo X13.here hx rfl (hb hby at_146) rfl ((if0 _ _).trans (tlt c146).2.2.2) kk_) ?_
      show G T13 (mkF m 149 #[.val (.int nn), .val (.int a), .val (.int b), .val (.int cc), .val (.int dd), .val (.int ee), .val (.int (1 : Int32)), .val (.ref rl), .val (.ref jd), .val (.ref ob), .val (.double gt), .second, .unset, .unset] [])
      refine hs.go (fun _ kk_ => XS.dconst1 X13.here hx rfl (hb hby at_149) (v := (4607182418800017408 : UInt64)) (by decide +kernel) kk_) ?_
      show G T13 (mkF m 150 #[.val (.int nn), .val (.int a), .val (.int b), .val (.int cc), .val (.int dd), .val (.int ee), .val (.int (1 : Int32)), .val (.ref rl), .val (.ref jd), .val (.ref ob), .val (.double gt), .second, .unset, .unset] [(.double (4607182418800017408 : UInt64))])
      refine hs.go (fun _ kk_ => XS.dstore X13.here hx rfl (hb hby at_150) rfl (l' := #[.val (.int nn), .val (.int a), .val (.int b), .val (.int cc), .val (.int dd), .val (.int ee), .val (.int (1 : Int32)), .val (.ref rl), .val (.ref jd), .val (.ref ob), .val (.double gt), .second, .val (.double (4607182418800017408 : UInt64)), .second]) rfl kk_) ?_
      show G T13 (mkF m 152 #[.val (.int nn), .val (.int a), .val (.int b), .val (.int cc), .val (.int dd), .val (.int ee), .val (.int (1 : Int32)), .val (.ref rl), .val (.ref jd), .val (.ref ob), .val (.double gt), .second, .val (.double (4607182418800017408 : UInt64)), .second] [])
      refine hs.go (fun _ kk_ => XS.goto X13.here hx rfl (pc0 := 152) (pc' := 213) rfl (hb hby at_152) (by decide) (by decide) kk_) ?_
      show G T13 (mkF m 213 #[.val (.int nn), .val (.int a), .val (.int b), .val (.int cc), .val (.int dd), .val (.int ee), .val (.int (1 : Int32)), .val (.ref rl), .val (.ref jd), .val (.ref ob), .val (.double gt), .second, .val (.double (4607182418800017408 : UInt64)), .second] [])
      refine hs.go (fun _ kk_ => XS.dload X13.here hx rfl (hb hby at_213) rfl  kk_) ?_
      show G T13 (mkF m 215 #[.val (.int nn), .val (.int a), .val (.int b), .val (.int cc), .val (.int dd), .val (.int ee), .val (.int (1 : Int32)), .val (.ref rl), .val (.ref jd), .val (.ref ob), .val (.double gt), .second, .val (.double (4607182418800017408 : UInt64)), .second] [(.double gt)])
      refine hs.go (fun _ kk_ => XS.dload X13.here hx rfl (hb hby at_215) rfl  kk_) ?_
      show G T13 (mkF m 217 #[.val (.int nn), .val (.int a), .val (.int b), .val (.int cc), .val (.int dd), .val (.int ee), .val (.int (1 : Int32)), .val (.ref rl), .val (.ref jd), .val (.ref ob), .val (.double gt), .second, .val (.double (4607182418800017408 : UInt64)), .second] [(.double (4607182418800017408 : UInt64)), (.double gt)])
      refine hs.go (fun _ kk_ => XS.dcmpS X13.here hx rfl (hb hby at_217) rfl (v := (0 : Int32)) (by rw [hgt]; simp only [rr, c146, if_true, if_false]; decide +kernel) kk_) ?_
      show G T13 (mkF m 218 #[.val (.int nn), .val (.int a), .val (.int b), .val (.int cc), .val (.int dd), .val (.int ee), .val (.int (1 : Int32)), .val (.ref rl), .val (.ref jd), .val (.ref ob), .val (.double gt), .second, .val (.double (4607182418800017408 : UInt64)), .second] [(.int (0 : Int32))])
      refine hs.go (fun _ kk_ => XS.ifNo X13.here hx rfl (hb hby at_218) rfl ((if0 _ _).trans (teq (rfl : (0 : Int32) = (0 : Int32))).2) kk_) ?_
      show G T13 (mkF m 221 #[.val (.int nn), .val (.int a), .val (.int b), .val (.int cc), .val (.int dd), .val (.int ee), .val (.int (1 : Int32)), .val (.ref rl), .val (.ref jd), .val (.ref ob), .val (.double gt), .second, .val (.double (4607182418800017408 : UInt64)), .second] [])
      refine hs.go (fun _ kk_ => XS.iconst X13.here hx rfl (hb hby at_221) kk_) ?_
      show G T13 (mkF m 222 #[.val (.int nn), .val (.int a), .val (.int b), .val (.int cc), .val (.int dd), .val (.int ee), .val (.int (1 : Int32)), .val (.ref rl), .val (.ref jd), .val (.ref ob), .val (.double gt), .second, .val (.double (4607182418800017408 : UInt64)), .second] [(.int (1 : Int32))])
      refine hs.go (fun _ kk_ => XS.goto X13.here hx rfl (pc0 := 222) (pc' := 226) rfl (hb hby at_222) (by decide) (by decide) kk_) ?_
      show G T13 (mkF m 226 #[.val (.int nn), .val (.int a), .val (.int b), .val (.int cc), .val (.int dd), .val (.int ee), .val (.int (1 : Int32)), .val (.ref rl), .val (.ref jd), .val (.ref ob), .val (.double gt), .second, .val (.double (4607182418800017408 : UInt64)), .second] [(.int (1 : Int32))])
      exact rRetN fin X13 hx (by decide) (by decide) hret (by simp) (hb hby at_226) (z' := (1 : Int32)) (by decide) rfl
    · refine hs.go (fun _ kk_ => XS.ifYes X13.here hx rfl (pc0 := 146) (pc' := 155) rfl (hb hby at_146) rfl ((if0 _ _).trans (flt c146).2.2.2) (by decide) (by decide) kk_) ?_
      show G T13 (mkF m 155 #[.val (.int nn), .val (.int a), .val (.int b), .val (.int cc), .val (.int dd), .val (.int ee), .val (.int (1 : Int32)), .val (.ref rl), .val (.ref jd), .val (.ref ob), .val (.double gt), .second, .unset, .unset] [])
      refine hs.go (fun _ kk_ => XS.iload X13.here hx rfl (hb hby at_155) rfl  kk_) ?_
      show G T13 (mkF m 157 #[.val (.int nn), .val (.int a), .val (.int b), .val (.int cc), .val (.int dd), .val (.int ee), .val (.int (1 : Int32)), .val (.ref rl), .val (.ref jd), .val (.ref ob), .val (.double gt), .second, .unset, .unset] [(.int (1 : Int32))])
      refine hs.go (fun _ kk_ => XS.iconst X13.here hx rfl (hb hby at_157) kk_) ?_
      show G T13 (mkF m 158 #[.val (.int nn), .val (.int a), .val (.int b), .val (.int cc), .val (.int dd), .val (.int ee), .val (.int (1 : Int32)), .val (.ref rl), .val (.ref jd), .val (.ref ob), .val (.double gt), .second, .unset, .unset] [(.int (2 : Int32)), (.int (1 : Int32))])
      refine hs.go (fun _ kk_ => XS.icmpYes X13.here hx rfl (pc0 := 158) (pc' := 173) rfl (hb hby at_158) rfl (tlt ((by decide) : (1 : Int32) < (2 : Int32))).1 (by decide) (by decide) kk_) ?_
      show G T13 (mkF m 173 #[.val (.int nn), .val (.int a), .val (.int b), .val (.int cc), .val (.int dd), .val (.int ee), .val (.int (1 : Int32)), .val (.ref rl), .val (.ref jd), .val (.ref ob), .val (.double gt), .second, .unset, .unset] [])
      refine hs.go (fun _ kk_ => XS.iload X13.here hx rfl (hb hby at_173) rfl  kk_) ?_
      show G T13 (mkF m 175 #[.val (.int nn), .val (.int a), .val (.int b), .val (.int cc), .val (.int dd), .val (.int ee), .val (.int (1 : Int32)), .val (.ref rl), .val (.ref jd), .val (.ref ob), .val (.double gt), .second, .unset, .unset] [(.int (1 : Int32))])
      refine hs.go (fun _ kk_ => XS.iconst X13.here hx rfl (hb hby at_175) kk_) ?_
      show G T13 (mkF m 176 #[.val (.int nn), .val (.int a), .val (.int b), .val (.int cc), .val (.int dd), .val (.int ee), .val (.int (1 : Int32)), .val (.ref rl), .val (.ref jd), .val (.ref ob), .val (.double gt), .second, .unset, .unset] [(.int (3 : Int32)), (.int (1 : Int32))])
      refine hs.go (fun _ kk_ => XS.icmpYes X13.here hx rfl (pc0 := 176) (pc' := 191) rfl (hb hby at_176) rfl (tlt ((by decide) : (1 : Int32) < (3 : Int32))).1 (by decide) (by decide) kk_) ?_
      show G T13 (mkF m 191 #[.val (.int nn), .val (.int a), .val (.int b), .val (.int cc), .val (.int dd), .val (.int ee), .val (.int (1 : Int32)), .val (.ref rl), .val (.ref jd), .val (.ref ob), .val (.double gt), .second, .unset, .unset] [])
      refine hs.go (fun _ kk_ => XS.iload X13.here hx rfl (hb hby at_191) rfl  kk_) ?_
      show G T13 (mkF m 193 #[.val (.int nn), .val (.int a), .val (.int b), .val (.int cc), .val (.int dd), .val (.int ee), .val (.int (1 : Int32)), .val (.ref rl), .val (.ref jd), .val (.ref ob), .val (.double gt), .second, .unset, .unset] [(.int (1 : Int32))])
      refine hs.go (fun _ kk_ => XS.iconst X13.here hx rfl (hb hby at_193) kk_) ?_
      show G T13 (mkF m 194 #[.val (.int nn), .val (.int a), .val (.int b), .val (.int cc), .val (.int dd), .val (.int ee), .val (.int (1 : Int32)), .val (.ref rl), .val (.ref jd), .val (.ref ob), .val (.double gt), .second, .unset, .unset] [(.int (4 : Int32)), (.int (1 : Int32))])
      refine hs.go (fun _ kk_ => XS.icmpYes X13.here hx rfl (pc0 := 194) (pc' := 210) rfl (hb hby at_194) rfl (tlt ((by decide) : (1 : Int32) < (4 : Int32))).1 (by decide) (by decide) kk_) ?_
      show G T13 (mkF m 210 #[.val (.int nn), .val (.int a), .val (.int b), .val (.int cc), .val (.int dd), .val (.int ee), .val (.int (1 : Int32)), .val (.ref rl), .val (.ref jd), .val (.ref ob), .val (.double gt), .second, .unset, .unset] [])
      refine hs.go (fun _ kk_ => XS.dconst0 X13.here hx rfl (hb hby at_210) (v := (0 : UInt64)) (by decide +kernel) kk_) ?_
      show G T13 (mkF m 211 #[.val (.int nn), .val (.int a), .val (.int b), .val (.int cc), .val (.int dd), .val (.int ee), .val (.int (1 : Int32)), .val (.ref rl), .val (.ref jd), .val (.ref ob), .val (.double gt), .second, .unset, .unset] [(.double (0 : UInt64))])
      refine hs.go (fun _ kk_ => XS.dstore X13.here hx rfl (hb hby at_211) rfl (l' := #[.val (.int nn), .val (.int a), .val (.int b), .val (.int cc), .val (.int dd), .val (.int ee), .val (.int (1 : Int32)), .val (.ref rl), .val (.ref jd), .val (.ref ob), .val (.double gt), .second, .val (.double (0 : UInt64)), .second]) rfl kk_) ?_
      show G T13 (mkF m 213 #[.val (.int nn), .val (.int a), .val (.int b), .val (.int cc), .val (.int dd), .val (.int ee), .val (.int (1 : Int32)), .val (.ref rl), .val (.ref jd), .val (.ref ob), .val (.double gt), .second, .val (.double (0 : UInt64)), .second] [])
      refine hs.go (fun _ kk_ => XS.dload X13.here hx rfl (hb hby at_213) rfl  kk_) ?_
      show G T13 (mkF m 215 #[.val (.int nn), .val (.int a), .val (.int b), .val (.int cc), .val (.int dd), .val (.int ee), .val (.int (1 : Int32)), .val (.ref rl), .val (.ref jd), .val (.ref ob), .val (.double gt), .second, .val (.double (0 : UInt64)), .second] [(.double gt)])
      refine hs.go (fun _ kk_ => XS.dload X13.here hx rfl (hb hby at_215) rfl  kk_) ?_
      show G T13 (mkF m 217 #[.val (.int nn), .val (.int a), .val (.int b), .val (.int cc), .val (.int dd), .val (.int ee), .val (.int (1 : Int32)), .val (.ref rl), .val (.ref jd), .val (.ref ob), .val (.double gt), .second, .val (.double (0 : UInt64)), .second] [(.double (0 : UInt64)), (.double gt)])
      refine hs.go (fun _ kk_ => XS.dcmpS X13.here hx rfl (hb hby at_217) rfl (v := (0 : Int32)) (by rw [hgt]; simp only [rr, c146, if_true, if_false]; decide +kernel) kk_) ?_
      show G T13 (mkF m 218 #[.val (.int nn), .val (.int a), .val (.int b), .val (.int cc), .val (.int dd), .val (.int ee), .val (.int (1 : Int32)), .val (.ref rl), .val (.ref jd), .val (.ref ob), .val (.double gt), .second, .val (.double (0 : UInt64)), .second] [(.int (0 : Int32))])
      refine hs.go (fun _ kk_ => XS.ifNo X13.here hx rfl (hb hby at_218) rfl ((if0 _ _).trans (teq (rfl : (0 : Int32) = (0 : Int32))).2) kk_) ?_
      show G T13 (mkF m 221 #[.val (.int nn), .val (.int a), .val (.int b), .val (.int cc), .val (.int dd), .val (.int ee), .val (.int (1 : Int32)), .val (.ref rl), .val (.ref jd), .val (.ref ob), .val (.double gt), .second, .val (.double (0 : UInt64)), .second] [])
      refine hs.go (fun _ kk_ => XS.iconst X13.here hx rfl (hb hby at_221) kk_) ?_
      show G T13 (mkF m 222 #[.val (.int nn), .val (.int a), .val (.int b), .val (.int cc), .val (.int dd), .val (.int ee), .val (.int (1 : Int32)), .val (.ref rl), .val (.ref jd), .val (.ref ob), .val (.double gt), .second, .val (.double (0 : UInt64)), .second] [(.int (1 : Int32))])
      refine hs.go (fun _ kk_ => XS.goto X13.here hx rfl (pc0 := 222) (pc' := 226) rfl (hb hby at_222) (by decide) (by decide) kk_) ?_
      show G T13 (mkF m 226 #[.val (.int nn), .val (.int a), .val (.int b), .val (.int cc), .val (.int dd), .val (.int ee), .val (.int (1 : Int32)), .val (.ref rl), .val (.ref jd), .val (.ref ob), .val (.double gt), .second, .val (.double (0 : UInt64)), .second] [(.int (1 : Int32))])
      exact rRetN fin X13 hx (by decide) (by decide) hret (by simp) (hb hby at_226) (z' := (1 : Int32)) (by decide) rfl
  · show G s₁ (mkF m 8 #[.val (.int nn), .val (.int a), .val (.int b), .val (.int cc), .val (.int dd), .val (.int ee), .val (.int (2 : Int32)), .unset, .unset, .unset, .unset, .unset, .unset, .unset] [])
    refine hs.go (fun _ kk_ => XS.iload X0.here hx rfl (hb hby at_8) rfl  kk_) ?_
    show G s₁ (mkF m 10 #[.val (.int nn), .val (.int a), .val (.int b), .val (.int cc), .val (.int dd), .val (.int ee), .val (.int (2 : Int32)), .unset, .unset, .unset, .unset, .unset, .unset, .unset] [(.int (2 : Int32))])
    refine hs.go (fun _ kk_ => XS.ifYes X0.here hx rfl (pc0 := 10) (pc' := 21) rfl (hb hby at_10) rfl ((if0 _ _).trans (feq ((by decide) : ¬ ((2 : Int32) = (0 : Int32)))).2) (by decide) (by decide) kk_) ?_
    show G s₁ (mkF m 21 #[.val (.int nn), .val (.int a), .val (.int b), .val (.int cc), .val (.int dd), .val (.int ee), .val (.int (2 : Int32)), .unset, .unset, .unset, .unset, .unset, .unset, .unset] [])
    refine hs.go (fun _ kk_ => XS.iload X0.here hx rfl (hb hby at_21) rfl  kk_) ?_
    show G s₁ (mkF m 23 #[.val (.int nn), .val (.int a), .val (.int b), .val (.int cc), .val (.int dd), .val (.int ee), .val (.int (2 : Int32)), .unset, .unset, .unset, .unset, .unset, .unset, .unset] [(.int (2 : Int32))])
    refine hs.go (fun _ kk_ => XS.iconst X0.here hx rfl (hb hby at_23) kk_) ?_
    show G s₁ (mkF m 24 #[.val (.int nn), .val (.int a), .val (.int b), .val (.int cc), .val (.int dd), .val (.int ee), .val (.int (2 : Int32)), .unset, .unset, .unset, .unset, .unset, .unset, .unset] [(.int (1 : Int32)), (.int (2 : Int32))])
    refine hs.go (fun _ kk_ => XS.icmpYes X0.here hx rfl (pc0 := 24) (pc' := 39) rfl (hb hby at_24) rfl (feq ((by decide) : ¬ ((2 : Int32) = (1 : Int32)))).2 (by decide) (by decide) kk_) ?_
    show G s₁ (mkF m 39 #[.val (.int nn), .val (.int a), .val (.int b), .val (.int cc), .val (.int dd), .val (.int ee), .val (.int (2 : Int32)), .unset, .unset, .unset, .unset, .unset, .unset, .unset] [])
    refine hs.go (fun _ kk_ => XS.iload X0.here hx rfl (hb hby at_39) rfl  kk_) ?_
    show G s₁ (mkF m 41 #[.val (.int nn), .val (.int a), .val (.int b), .val (.int cc), .val (.int dd), .val (.int ee), .val (.int (2 : Int32)), .unset, .unset, .unset, .unset, .unset, .unset, .unset] [(.int (2 : Int32))])
    refine hs.go (fun _ kk_ => XS.iconst X0.here hx rfl (hb hby at_41) kk_) ?_
    show G s₁ (mkF m 42 #[.val (.int nn), .val (.int a), .val (.int b), .val (.int cc), .val (.int dd), .val (.int ee), .val (.int (2 : Int32)), .unset, .unset, .unset, .unset, .unset, .unset, .unset] [(.int (2 : Int32)), (.int (2 : Int32))])
    refine hs.go (fun _ kk_ => XS.icmpNo X0.here hx rfl (hb hby at_42) rfl (teq (rfl : (2 : Int32) = (2 : Int32))).2 kk_) ?_
    show G s₁ (mkF m 45 #[.val (.int nn), .val (.int a), .val (.int b), .val (.int cc), .val (.int dd), .val (.int ee), .val (.int (2 : Int32)), .unset, .unset, .unset, .unset, .unset, .unset, .unset] [])
    refine hs.go (fun _ kk_ => XS.iconst X0.here hx rfl (hb hby at_45) kk_) ?_
    show G s₁ (mkF m 46 #[.val (.int nn), .val (.int a), .val (.int b), .val (.int cc), .val (.int dd), .val (.int ee), .val (.int (2 : Int32)), .unset, .unset, .unset, .unset, .unset, .unset, .unset] [(.int (2 : Int32))])
    refine rNewP hs X0 hx hZ (hw _ (List.mem_of_getElem? (i := 1) rfl)) rfl (hb hby at_46) rfl (by decide) 2 2 (by decide) (by decide) (by decide) (by decide) (fun T14 h14 k14 rl g14 X14 E14 V_rl => ?_)
    have V_rl : Arv Z h14 rl k14 .int (2 : Int32) [(.int (0 : Int32)), (.int (0 : Int32))] (.int (0 : Int32)) := V_rl
    have g_rl : n0 ≤ rl := by rw [g14]; exact Z0
    have Z0 := Nat.le_trans Z0 E14.1
    show G T14 (mkF m 48 #[.val (.int nn), .val (.int a), .val (.int b), .val (.int cc), .val (.int dd), .val (.int ee), .val (.int (2 : Int32)), .unset, .unset, .unset, .unset, .unset, .unset, .unset] [(.ref rl)])
    refine hs.go (fun _ kk_ => XS.dup X14.here hx rfl (hb hby at_48) rfl rfl kk_) ?_
    show G T14 (mkF m 49 #[.val (.int nn), .val (.int a), .val (.int b), .val (.int cc), .val (.int dd), .val (.int ee), .val (.int (2 : Int32)), .unset, .unset, .unset, .unset, .unset, .unset, .unset] [(.ref rl), (.ref rl)])
    refine hs.go (fun _ kk_ => XS.iconst X14.here hx rfl (hb hby at_49) kk_) ?_
    show G T14 (mkF m 50 #[.val (.int nn), .val (.int a), .val (.int b), .val (.int cc), .val (.int dd), .val (.int ee), .val (.int (2 : Int32)), .unset, .unset, .unset, .unset, .unset, .unset, .unset] [(.int (0 : Int32)), (.ref rl), (.ref rl)])
    refine hs.go (fun _ kk_ => XS.iloadN X14.here hx rfl (hb hby at_50) rfl  kk_) ?_
    show G T14 (mkF m 51 #[.val (.int nn), .val (.int a), .val (.int b), .val (.int cc), .val (.int dd), .val (.int ee), .val (.int (2 : Int32)), .unset, .unset, .unset, .unset, .unset, .unset, .unset] [(.int a), (.int (0 : Int32)), (.ref rl), (.ref rl)])
    refine rStI hs X14 hx hZ V_rl g_rl ⟨by decide, by decide⟩ 0 (by decide) (by simp) rfl rfl (hb hby at_51) (fun T15 h15 X15 W15 V_rl => ?_)
    have V_rl : Arv Z h15 rl k14 .int (2 : Int32) [(.int a), (.int (0 : Int32))] (.int (0 : Int32)) := V_rl
    have Z0 := Nat.le_trans Z0 (Keep.of_wr W15).1
    show G T15 (mkF m 52 #[.val (.int nn), .val (.int a), .val (.int b), .val (.int cc), .val (.int dd), .val (.int ee), .val (.int (2 : Int32)), .unset, .unset, .unset, .unset, .unset, .unset, .unset] [(.ref rl)])
    refine hs.go (fun _ kk_ => XS.dup X15.here hx rfl (hb hby at_52) rfl rfl kk_) ?_
    show G T15 (mkF m 53 #[.val (.int nn), .val (.int a), .val (.int b), .val (.int cc), .val (.int dd), .val (.int ee), .val (.int (2 : Int32)), .unset, .unset, .unset, .unset, .unset, .unset, .unset] [(.ref rl), (.ref rl)])
    refine hs.go (fun _ kk_ => XS.iconst X15.here hx rfl (hb hby at_53) kk_) ?_
    show G T15 (mkF m 54 #[.val (.int nn), .val (.int a), .val (.int b), .val (.int cc), .val (.int dd), .val (.int ee), .val (.int (2 : Int32)), .unset, .unset, .unset, .unset, .unset, .unset, .unset] [(.int (1 : Int32)), (.ref rl), (.ref rl)])
    refine hs.go (fun _ kk_ => XS.iloadN X15.here hx rfl (hb hby at_54) rfl  kk_) ?_
    show G T15 (mkF m 55 #[.val (.int nn), .val (.int a), .val (.int b), .val (.int cc), .val (.int dd), .val (.int ee), .val (.int (2 : Int32)), .unset, .unset, .unset, .unset, .unset, .unset, .unset] [(.int b), (.int (1 : Int32)), (.ref rl), (.ref rl)])
    refine rStI hs X15 hx hZ V_rl g_rl ⟨by decide, by decide⟩ 1 (by decide) (by simp) rfl rfl (hb hby at_55) (fun T16 h16 X16 W16 V_rl => ?_)
    have V_rl : Arv Z h16 rl k14 .int (2 : Int32) [(.int a), (.int b)] (.int (0 : Int32)) := V_rl
    have Z0 := Nat.le_trans Z0 (Keep.of_wr W16).1
    show G T16 (mkF m 56 #[.val (.int nn), .val (.int a), .val (.int b), .val (.int cc), .val (.int dd), .val (.int ee), .val (.int (2 : Int32)), .unset, .unset, .unset, .unset, .unset, .unset, .unset] [(.ref rl)])
    refine hs.go (fun _ kk_ => XS.astore X16.here hx rfl (hb hby at_56) rfl rfl (l' := #[.val (.int nn), .val (.int a), .val (.int b), .val (.int cc), .val (.int dd), .val (.int ee), .val (.int (2 : Int32)), .val (.ref rl), .unset, .unset, .unset, .unset, .unset, .unset]) rfl kk_) ?_
    show G T16 (mkF m 58 #[.val (.int nn), .val (.int a), .val (.int b), .val (.int cc), .val (.int dd), .val (.int ee), .val (.int (2 : Int32)), .val (.ref rl), .unset, .unset, .unset, .unset, .unset, .unset] [])
    refine hs.go (fun _ kk_ => XS.goto X16.here hx rfl (pc0 := 58) (pc' := 109) rfl (hb hby at_58) (by decide) (by decide) kk_) ?_
    show G T16 (mkF m 109 #[.val (.int nn), .val (.int a), .val (.int b), .val (.int cc), .val (.int dd), .val (.int ee), .val (.int (2 : Int32)), .val (.ref rl), .unset, .unset, .unset, .unset, .unset, .unset] [])
    refine hs.go (fun _ kk_ => XS.iconst X16.here hx rfl (hb hby at_109) kk_) ?_
    show G T16 (mkF m 110 #[.val (.int nn), .val (.int a), .val (.int b), .val (.int cc), .val (.int dd), .val (.int ee), .val (.int (2 : Int32)), .val (.ref rl), .unset, .unset, .unset, .unset, .unset, .unset] [(.int (1 : Int32))])
    refine rNewP hs X16 hx hZ (hw _ (List.mem_of_getElem? (i := 1) rfl)) rfl (hb hby at_110) rfl (by decide) 1 1 (by decide) (by decide) (by decide) (by decide) (fun T17 h17 k17 jd g17 X17 E17 V_jd => ?_)
    have V_jd : Arv Z h17 jd k17 .int (1 : Int32) [(.int (0 : Int32))] (.int (0 : Int32)) := V_jd
    have g_jd : n0 ≤ jd := by rw [g17]; exact Z0
    have Z0 := Nat.le_trans Z0 E17.1
    have ne_rl_jd : rl ≠ jd := Nat.ne_of_lt (Nat.lt_of_lt_of_le V_rl.lt (Nat.le_of_eq g17.symm))
    have V_rl := V_rl.ext E17
    show G T17 (mkF m 112 #[.val (.int nn), .val (.int a), .val (.int b), .val (.int cc), .val (.int dd), .val (.int ee), .val (.int (2 : Int32)), .val (.ref rl), .unset, .unset, .unset, .unset, .unset, .unset] [(.ref jd)])
    refine hs.go (fun _ kk_ => XS.dup X17.here hx rfl (hb hby at_112) rfl rfl kk_) ?_
    show G T17 (mkF m 113 #[.val (.int nn), .val (.int a), .val (.int b), .val (.int cc), .val (.int dd), .val (.int ee), .val (.int (2 : Int32)), .val (.ref rl), .unset, .unset, .unset, .unset, .unset, .unset] [(.ref jd), (.ref jd)])
    refine hs.go (fun _ kk_ => XS.iconst X17.here hx rfl (hb hby at_113) kk_) ?_
    show G T17 (mkF m 114 #[.val (.int nn), .val (.int a), .val (.int b), .val (.int cc), .val (.int dd), .val (.int ee), .val (.int (2 : Int32)), .val (.ref rl), .unset, .unset, .unset, .unset, .unset, .unset] [(.int (0 : Int32)), (.ref jd), (.ref jd)])
    refine hs.go (fun _ kk_ => XS.iload X17.here hx rfl (hb hby at_114) rfl  kk_) ?_
    show G T17 (mkF m 116 #[.val (.int nn), .val (.int a), .val (.int b), .val (.int cc), .val (.int dd), .val (.int ee), .val (.int (2 : Int32)), .val (.ref rl), .unset, .unset, .unset, .unset, .unset, .unset] [(.int ee), (.int (0 : Int32)), (.ref jd), (.ref jd)])
    refine rStI hs X17 hx hZ V_jd g_jd ⟨by decide, by decide⟩ 0 (by decide) (by simp) rfl rfl (hb hby at_116) (fun T18 h18 X18 W18 V_jd => ?_)
    have V_jd : Arv Z h18 jd k17 .int (1 : Int32) [(.int ee)] (.int (0 : Int32)) := V_jd
    have V_rl := V_rl.other W18 ne_rl_jd
    have Z0 := Nat.le_trans Z0 (Keep.of_wr W18).1
    show G T18 (mkF m 117 #[.val (.int nn), .val (.int a), .val (.int b), .val (.int cc), .val (.int dd), .val (.int ee), .val (.int (2 : Int32)), .val (.ref rl), .unset, .unset, .unset, .unset, .unset, .unset] [(.ref jd)])
    refine hs.go (fun _ kk_ => XS.astore X18.here hx rfl (hb hby at_117) rfl rfl (l' := #[.val (.int nn), .val (.int a), .val (.int b), .val (.int cc), .val (.int dd), .val (.int ee), .val (.int (2 : Int32)), .val (.ref rl), .val (.ref jd), .unset, .unset, .unset, .unset, .unset]) rfl kk_) ?_
    show G T18 (mkF m 119 #[.val (.int nn), .val (.int a), .val (.int b), .val (.int cc), .val (.int dd), .val (.int ee), .val (.int (2 : Int32)), .val (.ref rl), .val (.ref jd), .unset, .unset, .unset, .unset, .unset] [])
    refine rNewO hs X18 hx hZ hown (hw _ (List.mem_of_getElem? (i := 2) rfl)) (hw _ (List.mem_of_getElem? (i := 3) rfl)) (hw _ (List.mem_of_getElem? (i := 4) rfl)) rfl (hb hby at_119) (by decide) (by decide) (fun T19 h19 ob g19 X19 E19 E_ob D19 => ?_)
    have g_ob : n0 ≤ ob := by rw [g19]; exact Z0
    have Z0 := Nat.le_trans Z0 E19.1
    have ne_rl_ob : rl ≠ ob := Nat.ne_of_lt (Nat.lt_of_lt_of_le V_rl.lt (Nat.le_of_eq g19.symm))
    have ne_jd_ob : jd ≠ ob := Nat.ne_of_lt (Nat.lt_of_lt_of_le V_jd.lt (Nat.le_of_eq g19.symm))
    have V_rl := V_rl.ext E19
    have V_jd := V_jd.ext E19
    have F_relevance_ob : Fld Z h19 ob "com/example/ranked_odds/rankedodds/eval/JudgedRanking" "relevance" "[I" .null := D19 (Or.inr (hw _ (List.mem_of_getElem? (i := 17) rfl))) (ty := (.array .int)) (by decide)
    have F_judged_ob : Fld Z h19 ob "com/example/ranked_odds/rankedodds/eval/JudgedRanking" "judged" "[I" .null := D19 (Or.inr (hw _ (List.mem_of_getElem? (i := 19) rfl))) (ty := (.array .int)) (by decide)
    show G T19 (mkF m 122 #[.val (.int nn), .val (.int a), .val (.int b), .val (.int cc), .val (.int dd), .val (.int ee), .val (.int (2 : Int32)), .val (.ref rl), .val (.ref jd), .unset, .unset, .unset, .unset, .unset] [(.ref ob)])
    refine hs.go (fun _ kk_ => XS.dup X19.here hx rfl (hb hby at_122) rfl rfl kk_) ?_
    show G T19 (mkF m 123 #[.val (.int nn), .val (.int a), .val (.int b), .val (.int cc), .val (.int dd), .val (.int ee), .val (.int (2 : Int32)), .val (.ref rl), .val (.ref jd), .unset, .unset, .unset, .unset, .unset] [(.ref ob), (.ref ob)])
    refine hs.go (fun _ kk_ => XS.aload X19.here hx rfl (hb hby at_123) rfl rfl kk_) ?_
    show G T19 (mkF m 125 #[.val (.int nn), .val (.int a), .val (.int b), .val (.int cc), .val (.int dd), .val (.int ee), .val (.int (2 : Int32)), .val (.ref rl), .val (.ref jd), .unset, .unset, .unset, .unset, .unset] [(.ref rl), (.ref ob), (.ref ob)])
    refine hs.go (fun _ kk_ => XS.aload X19.here hx rfl (hb hby at_125) rfl rfl kk_) ?_
    show G T19 (mkF m 127 #[.val (.int nn), .val (.int a), .val (.int b), .val (.int cc), .val (.int dd), .val (.int ee), .val (.int (2 : Int32)), .val (.ref rl), .val (.ref jd), .unset, .unset, .unset, .unset, .unset] [(.ref jd), (.ref rl), (.ref ob), (.ref ob)])
    refine rCallI hs X19 hx hZ (as' := [(.ref rl), (.ref jd)]) (rm1 l Z a0 hw [] ob rl jd h19 n0 Z0 E_ob g_ob F_relevance_ob F_judged_ob) rfl hown (hw _ (List.mem_of_getElem? (i := 5) rfl)) (hw _ (List.mem_of_getElem? (i := 6) rfl)) (hw _ (List.mem_of_getElem? (i := 4) rfl)) (hw _ (List.mem_of_getElem? (i := 7) rfl)) hy_1 rfl (by rw [hml]; rfl) [(.ref ob)] (lenOf pd_1 rfl) rfl 1 (by show 2 * 0 + _ ≤ _; exact Nat.le_of_eq rfl) (hb hby at_127) (by decide) (by decide) (by decide) (by decide) (fun r20 T20 h20 X20 q20 => ?_)
    obtain ⟨rfl, Kc20, E_ob, F_relevance_ob⟩ := q20
    have Z0 := Nat.le_trans Z0 Kc20.1
    have V_rl := V_rl.keep Kc20 (ninS ne_rl_ob nin0)
    have V_jd := V_jd.keep Kc20 (ninS ne_jd_ob nin0)
    show G T20 (mkF m 130 #[.val (.int nn), .val (.int a), .val (.int b), .val (.int cc), .val (.int dd), .val (.int ee), .val (.int (2 : Int32)), .val (.ref rl), .val (.ref jd), .unset, .unset, .unset, .unset, .unset] [(.ref ob)])
    refine hs.go (fun _ kk_ => XS.astore X20.here hx rfl (hb hby at_130) rfl rfl (l' := #[.val (.int nn), .val (.int a), .val (.int b), .val (.int cc), .val (.int dd), .val (.int ee), .val (.int (2 : Int32)), .val (.ref rl), .val (.ref jd), .val (.ref ob), .unset, .unset, .unset, .unset]) rfl kk_) ?_
    show G T20 (mkF m 132 #[.val (.int nn), .val (.int a), .val (.int b), .val (.int cc), .val (.int dd), .val (.int ee), .val (.int (2 : Int32)), .val (.ref rl), .val (.ref jd), .val (.ref ob), .unset, .unset, .unset, .unset] [])
    refine hs.go (fun _ kk_ => XS.aload X20.here hx rfl (hb hby at_132) rfl rfl kk_) ?_
    show G T20 (mkF m 134 #[.val (.int nn), .val (.int a), .val (.int b), .val (.int cc), .val (.int dd), .val (.int ee), .val (.int (2 : Int32)), .val (.ref rl), .val (.ref jd), .val (.ref ob), .unset, .unset, .unset, .unset] [(.ref ob)])
    refine rCallV hs X20 hx hZ (as' := []) (rm4 l Z a0 hw [] ob rl (2 : Int32) [a, b] k14 h20 n0 Z0 F_relevance_ob V_rl rfl (by simp)) E_ob hown (hw _ (List.mem_of_getElem? (i := 20) rfl)) (hw _ (List.mem_of_getElem? (i := 21) rfl)) (hw _ (List.mem_of_getElem? (i := 23) rfl)) (hw _ (List.mem_of_getElem? (i := 22) rfl)) (hw _ (List.mem_of_getElem? (i := 4) rfl)) (hw _ (List.mem_of_getElem? (i := 24) rfl)) hy_4 rfl (by rw [hml]; rfl) [] (lenOf pd_2 rfl) rfl 0 (by show 2 * 0 + _ ≤ _; exact Nat.le_of_eq rfl) (hb hby at_134) (by decide) (by decide) (by decide) (by decide) (fun r21 T21 h21 X21 q21 => ?_)
    obtain ⟨rfl, qh21⟩ := q21
    rw [qh21] at X21
    show G T21 (mkF m 137 #[.val (.int nn), .val (.int a), .val (.int b), .val (.int cc), .val (.int dd), .val (.int ee), .val (.int (2 : Int32)), .val (.ref rl), .val (.ref jd), .val (.ref ob), .unset, .unset, .unset, .unset] [(.double (rr [a, b] 0))])
    refine nameIt (P := fun zz_ : UInt64 => G T21 (mkF m 137 #[.val (.int nn), .val (.int a), .val (.int b), .val (.int cc), .val (.int dd), .val (.int ee), .val (.int (2 : Int32)), .val (.ref rl), .val (.ref jd), .val (.ref ob), .unset, .unset, .unset, .unset] [(.double zz_)])) (rr [a, b] 0) (fun gt hgt => ?_)
    show G T21 (mkF m 137 #[.val (.int nn), .val (.int a), .val (.int b), .val (.int cc), .val (.int dd), .val (.int ee), .val (.int (2 : Int32)), .val (.ref rl), .val (.ref jd), .val (.ref ob), .unset, .unset, .unset, .unset] [(.double gt)])
    refine hs.go (fun _ kk_ => XS.dstore X21.here hx rfl (hb hby at_137) rfl (l' := #[.val (.int nn), .val (.int a), .val (.int b), .val (.int cc), .val (.int dd), .val (.int ee), .val (.int (2 : Int32)), .val (.ref rl), .val (.ref jd), .val (.ref ob), .val (.double gt), .second, .unset, .unset]) rfl kk_) ?_
    show G T21 (mkF m 139 #[.val (.int nn), .val (.int a), .val (.int b), .val (.int cc), .val (.int dd), .val (.int ee), .val (.int (2 : Int32)), .val (.ref rl), .val (.ref jd), .val (.ref ob), .val (.double gt), .second, .unset, .unset] [])
    refine hs.go (fun _ kk_ => XS.iload X21.here hx rfl (hb hby at_139) rfl  kk_) ?_
    show G T21 (mkF m 141 #[.val (.int nn), .val (.int a), .val (.int b), .val (.int cc), .val (.int dd), .val (.int ee), .val (.int (2 : Int32)), .val (.ref rl), .val (.ref jd), .val (.ref ob), .val (.double gt), .second, .unset, .unset] [(.int (2 : Int32))])
    refine hs.go (fun _ kk_ => XS.iconst X21.here hx rfl (hb hby at_141) kk_) ?_
    show G T21 (mkF m 142 #[.val (.int nn), .val (.int a), .val (.int b), .val (.int cc), .val (.int dd), .val (.int ee), .val (.int (2 : Int32)), .val (.ref rl), .val (.ref jd), .val (.ref ob), .val (.double gt), .second, .unset, .unset] [(.int (1 : Int32)), (.int (2 : Int32))])
    refine hs.go (fun _ kk_ => XS.icmpNo X21.here hx rfl (hb hby at_142) rfl (flt ((by decide) : ¬ ((2 : Int32) < (1 : Int32)))).1 kk_) ?_
    show G T21 (mkF m 145 #[.val (.int nn), .val (.int a), .val (.int b), .val (.int cc), .val (.int dd), .val (.int ee), .val (.int (2 : Int32)), .val (.ref rl), .val (.ref jd), .val (.ref ob), .val (.double gt), .second, .unset, .unset] [])
    refine hs.go (fun _ kk_ => XS.iloadN X21.here hx rfl (hb hby at_145) rfl  kk_) ?_
    show G T21 (mkF m 146 #[.val (.int nn), .val (.int a), .val (.int b), .val (.int cc), .val (.int dd), .val (.int ee), .val (.int (2 : Int32)), .val (.ref rl), .val (.ref jd), .val (.ref ob), .val (.double gt), .second, .unset, .unset] [(.int a)])
    by_cases c146 : (0 : Int32) < a
    · refine hs.go (fun _ kk_ => XS.ifNo X21.here hx rfl (hb hby at_146) rfl ((if0 _ _).trans (tlt c146).2.2.2) kk_) ?_
      show G T21 (mkF m 149 #[.val (.int nn), .val (.int a), .val (.int b), .val (.int cc), .val (.int dd), .val (.int ee), .val (.int (2 : Int32)), .val (.ref rl), .val (.ref jd), .val (.ref ob), .val (.double gt), .second, .unset, .unset] [])
      refine hs.go (fun _ kk_ => XS.dconst1 X21.here hx rfl (hb hby at_149) (v := (4607182418800017408 : UInt64)) (by decide +kernel) kk_) ?_
      show G T21 (mkF m 150 #[.val (.int nn), .val (.int a), .val (.int b), .val (.int cc), .val (.int dd), .val (.int ee), .val (.int (2 : Int32)), .val (.ref rl), .val (.ref jd), .val (.ref ob), .val (.double gt), .second, .unset, .unset] [(.double (4607182418800017408 : UInt64))])
      refine hs.go (fun _ kk_ => XS.dstore X21.here hx rfl (hb hby at_150) rfl (l' := #[.val (.int nn), .val (.int a), .val (.int b), .val (.int cc), .val (.int dd), .val (.int ee), .val (.int (2 : Int32)), .val (.ref rl), .val (.ref jd), .val (.ref ob), .val (.double gt), .second, .val (.double (4607182418800017408 : UInt64)), .second]) rfl kk_) ?_
      show G T21 (mkF m 152 #[.val (.int nn), .val (.int a), .val (.int b), .val (.int cc), .val (.int dd), .val (.int ee), .val (.int (2 : Int32)), .val (.ref rl), .val (.ref jd), .val (.ref ob), .val (.double gt), .second, .val (.double (4607182418800017408 : UInt64)), .second] [])
      refine hs.go (fun _ kk_ => XS.goto X21.here hx rfl (pc0 := 152) (pc' := 213) rfl (hb hby at_152) (by decide) (by decide) kk_) ?_
      show G T21 (mkF m 213 #[.val (.int nn), .val (.int a), .val (.int b), .val (.int cc), .val (.int dd), .val (.int ee), .val (.int (2 : Int32)), .val (.ref rl), .val (.ref jd), .val (.ref ob), .val (.double gt), .second, .val (.double (4607182418800017408 : UInt64)), .second] [])
      refine hs.go (fun _ kk_ => XS.dload X21.here hx rfl (hb hby at_213) rfl  kk_) ?_
      show G T21 (mkF m 215 #[.val (.int nn), .val (.int a), .val (.int b), .val (.int cc), .val (.int dd), .val (.int ee), .val (.int (2 : Int32)), .val (.ref rl), .val (.ref jd), .val (.ref ob), .val (.double gt), .second, .val (.double (4607182418800017408 : UInt64)), .second] [(.double gt)])
      refine hs.go (fun _ kk_ => XS.dload X21.here hx rfl (hb hby at_215) rfl  kk_) ?_
      show G T21 (mkF m 217 #[.val (.int nn), .val (.int a), .val (.int b), .val (.int cc), .val (.int dd), .val (.int ee), .val (.int (2 : Int32)), .val (.ref rl), .val (.ref jd), .val (.ref ob), .val (.double gt), .second, .val (.double (4607182418800017408 : UInt64)), .second] [(.double (4607182418800017408 : UInt64)), (.double gt)])
      refine hs.go (fun _ kk_ => XS.dcmpS X21.here hx rfl (hb hby at_217) rfl (v := (0 : Int32)) (by rw [hgt]; simp only [rr, c146, if_true, if_false]; decide +kernel) kk_) ?_
      show G T21 (mkF m 218 #[.val (.int nn), .val (.int a), .val (.int b), .val (.int cc), .val (.int dd), .val (.int ee), .val (.int (2 : Int32)), .val (.ref rl), .val (.ref jd), .val (.ref ob), .val (.double gt), .second, .val (.double (4607182418800017408 : UInt64)), .second] [(.int (0 : Int32))])
      refine hs.go (fun _ kk_ => XS.ifNo X21.here hx rfl (hb hby at_218) rfl ((if0 _ _).trans (teq (rfl : (0 : Int32) = (0 : Int32))).2) kk_) ?_
      show G T21 (mkF m 221 #[.val (.int nn), .val (.int a), .val (.int b), .val (.int cc), .val (.int dd), .val (.int ee), .val (.int (2 : Int32)), .val (.ref rl), .val (.ref jd), .val (.ref ob), .val (.double gt), .second, .val (.double (4607182418800017408 : UInt64)), .second] [])
      refine hs.go (fun _ kk_ => XS.iconst X21.here hx rfl (hb hby at_221) kk_) ?_
      show G T21 (mkF m 222 #[.val (.int nn), .val (.int a), .val (.int b), .val (.int cc), .val (.int dd), .val (.int ee), .val (.int (2 : Int32)), .val (.ref rl), .val (.ref jd), .val (.ref ob), .val (.double gt), .second, .val (.double (4607182418800017408 : UInt64)), .second] [(.int (1 : Int32))])
      refine hs.go (fun _ kk_ => XS.goto X21.here hx rfl (pc0 := 222) (pc' := 226) rfl (hb hby at_222) (by decide) (by decide) kk_) ?_
      show G T21 (mkF m 226 #[.val (.int nn), .val (.int a), .val (.int b), .val (.int cc), .val (.int dd), .val (.int ee), .val (.int (2 : Int32)), .val (.ref rl), .val (.ref jd), .val (.ref ob), .val (.double gt), .second, .val (.double (4607182418800017408 : UInt64)), .second] [(.int (1 : Int32))])
      exact rRetN fin X21 hx (by decide) (by decide) hret (by simp) (hb hby at_226) (z' := (1 : Int32)) (by decide) rfl
    · refine hs.go (fun _ kk_ => XS.ifYes X21.here hx rfl (pc0 := 146) (pc' := 155) rfl (hb hby at_146) rfl ((if0 _ _).trans (flt c146).2.2.2) (by decide) (by decide) kk_) ?_
      show G T21 (mkF m 155 #[.val (.int nn), .val (.int a), .val (.int b), .val (.int cc), .val (.int dd), .val (.int ee), .val (.int (2 : Int32)), .val (.ref rl), .val (.ref jd), .val (.ref ob), .val (.double gt), .second, .unset, .unset] [])
      refine hs.go (fun _ kk_ => XS.iload X21.here hx rfl (hb hby at_155) rfl  kk_) ?_
      show G T21 (mkF m 157 #[.val (.int nn), .val (.int a), .val (.int b), .val (.int cc), .val (.int dd), .val (.int ee), .val (.int (2 : Int32)), .val (.ref rl), .val (.ref jd), .val (.ref ob), .val (.double gt), .second, .unset, .unset] [(.int (2 : Int32))])
      refine hs.go (fun _ kk_ => XS.iconst X21.here hx rfl (hb hby at_157) kk_) ?_
      show G T21 (mkF m 158 #[.val (.int nn), .val (.int a), .val (.int b), .val (.int cc), .val (.int dd), .val (.int ee), .val (.int (2 : Int32)), .val (.ref rl), .val (.ref jd), .val (.ref ob), .val (.double gt), .second, .unset, .unset] [(.int (2 : Int32)), (.int (2 : Int32))])
      refine hs.go (fun _ kk_ => XS.icmpNo X21.here hx rfl (hb hby at_158) rfl (flt ((by decide) : ¬ ((2 : Int32) < (2 : Int32)))).1 kk_) ?_
      show G T21 (mkF m 161 #[.val (.int nn), .val (.int a), .val (.int b), .val (.int cc), .val (.int dd), .val (.int ee), .val (.int (2 : Int32)), .val (.ref rl), .val (.ref jd), .val (.ref ob), .val (.double gt), .second, .unset, .unset] [])
      refine hs.go (fun _ kk_ => XS.iloadN X21.here hx rfl (hb hby at_161) rfl  kk_) ?_
      show G T21 (mkF m 162 #[.val (.int nn), .val (.int a), .val (.int b), .val (.int cc), .val (.int dd), .val (.int ee), .val (.int (2 : Int32)), .val (.ref rl), .val (.ref jd), .val (.ref ob), .val (.double gt), .second, .unset, .unset] [(.int b)])
      by_cases c162 : (0 : Int32) < b
      · refine hs.go (fun _ kk_ => XS.ifNo X21.here hx rfl (hb hby at_162) rfl ((if0 _ _).trans (tlt c162).2.2.2) kk_) ?_
        show G T21 (mkF m 165 #[.val (.int nn), .val (.int a), .val (.int b), .val (.int cc), .val (.int dd), .val (.int ee), .val (.int (2 : Int32)), .val (.ref rl), .val (.ref jd), .val (.ref ob), .val (.double gt), .second, .unset, .unset] [])
        refine rLdcD hs X21 hx hZ hown (hw _ (List.mem_of_getElem? (i := 25) rfl)) rfl (hb hby at_165) ?_
        show G T21 (mkF m 168 #[.val (.int nn), .val (.int a), .val (.int b), .val (.int cc), .val (.int dd), .val (.int ee), .val (.int (2 : Int32)), .val (.ref rl), .val (.ref jd), .val (.ref ob), .val (.double gt), .second, .unset, .unset] [(.double (4602678819172646912 : UInt64))])
        refine hs.go (fun _ kk_ => XS.dstore X21.here hx rfl (hb hby at_168) rfl (l' := #[.val (.int nn), .val (.int a), .val (.int b), .val (.int cc), .val (.int dd), .val (.int ee), .val (.int (2 : Int32)), .val (.ref rl), .val (.ref jd), .val (.ref ob), .val (.double gt), .second, .val (.double (4602678819172646912 : UInt64)), .second]) rfl kk_) ?_
        show G T21 (mkF m 170 #[.val (.int nn), .val (.int a), .val (.int b), .val (.int cc), .val (.int dd), .val (.int ee), .val (.int (2 : Int32)), .val (.ref rl), .val (.ref jd), .val (.ref ob), .val (.double gt), .second, .val (.double (4602678819172646912 : UInt64)), .second] [])
        refine hs.go (fun _ kk_ => XS.goto X21.here hx rfl (pc0 := 170) (pc' := 213) rfl (hb hby at_170) (by decide) (by decide) kk_) ?_
        show G T21 (mkF m 213 #[.val (.int nn), .val (.int a), .val (.int b), .val (.int cc), .val (.int dd), .val (.int ee), .val (.int (2 : Int32)), .val (.ref rl), .val (.ref jd), .val (.ref ob), .val (.double gt), .second, .val (.double (4602678819172646912 : UInt64)), .second] [])
        refine hs.go (fun _ kk_ => XS.dload X21.here hx rfl (hb hby at_213) rfl  kk_) ?_
        show G T21 (mkF m 215 #[.val (.int nn), .val (.int a), .val (.int b), .val (.int cc), .val (.int dd), .val (.int ee), .val (.int (2 : Int32)), .val (.ref rl), .val (.ref jd), .val (.ref ob), .val (.double gt), .second, .val (.double (4602678819172646912 : UInt64)), .second] [(.double gt)])
        refine hs.go (fun _ kk_ => XS.dload X21.here hx rfl (hb hby at_215) rfl  kk_) ?_
        show G T21 (mkF m 217 #[.val (.int nn), .val (.int a), .val (.int b), .val (.int cc), .val (.int dd), .val (.int ee), .val (.int (2 : Int32)), .val (.ref rl), .val (.ref jd), .val (.ref ob), .val (.double gt), .second, .val (.double (4602678819172646912 : UInt64)), .second] [(.double (4602678819172646912 : UInt64)), (.double gt)])
        refine hs.go (fun _ kk_ => XS.dcmpS X21.here hx rfl (hb hby at_217) rfl (v := (0 : Int32)) (by rw [hgt]; simp only [rr, c146, c162, if_true, if_false]; decide +kernel) kk_) ?_
        show G T21 (mkF m 218 #[.val (.int nn), .val (.int a), .val (.int b), .val (.int cc), .val (.int dd), .val (.int ee), .val (.int (2 : Int32)), .val (.ref rl), .val (.ref jd), .val (.ref ob), .val (.double gt), .second, .val (.double (4602678819172646912 : UInt64)), .second] [(.int (0 : Int32))])
        refine hs.go (fun _ kk_ => XS.ifNo X21.here hx rfl (hb hby at_218) rfl ((if0 _ _).trans (teq (rfl : (0 : Int32) = (0 : Int32))).2) kk_) ?_
        show G T21 (mkF m 221 #[.val (.int nn), .val (.int a), .val (.int b), .val (.int cc), .val (.int dd), .val (.int ee), .val (.int (2 : Int32)), .val (.ref rl), .val (.ref jd), .val (.ref ob), .val (.double gt), .second, .val (.double (4602678819172646912 : UInt64)), .second] [])
        refine hs.go (fun _ kk_ => XS.iconst X21.here hx rfl (hb hby at_221) kk_) ?_
        show G T21 (mkF m 222 #[.val (.int nn), .val (.int a), .val (.int b), .val (.int cc), .val (.int dd), .val (.int ee), .val (.int (2 : Int32)), .val (.ref rl), .val (.ref jd), .val (.ref ob), .val (.double gt), .second, .val (.double (4602678819172646912 : UInt64)), .second] [(.int (1 : Int32))])
        refine hs.go (fun _ kk_ => XS.goto X21.here hx rfl (pc0 := 222) (pc' := 226) rfl (hb hby at_222) (by decide) (by decide) kk_) ?_
        show G T21 (mkF m 226 #[.val (.int nn), .val (.int a), .val (.int b), .val (.int cc), .val (.int dd), .val (.int ee), .val (.int (2 : Int32)), .val (.ref rl), .val (.ref jd), .val (.ref ob), .val (.double gt), .second, .val (.double (4602678819172646912 : UInt64)), .second] [(.int (1 : Int32))])
        exact rRetN fin X21 hx (by decide) (by decide) hret (by simp) (hb hby at_226) (z' := (1 : Int32)) (by decide) rfl
      · refine hs.go (fun _ kk_ => XS.ifYes X21.here hx rfl (pc0 := 162) (pc' := 173) rfl (hb hby at_162) rfl ((if0 _ _).trans (flt c162).2.2.2) (by decide) (by decide) kk_) ?_
        show G T21 (mkF m 173 #[.val (.int nn), .val (.int a), .val (.int b), .val (.int cc), .val (.int dd), .val (.int ee), .val (.int (2 : Int32)), .val (.ref rl), .val (.ref jd), .val (.ref ob), .val (.double gt), .second, .unset, .unset] [])
        refine hs.go (fun _ kk_ => XS.iload X21.here hx rfl (hb hby at_173) rfl  kk_) ?_
        show G T21 (mkF m 175 #[.val (.int nn), .val (.int a), .val (.int b), .val (.int cc), .val (.int dd), .val (.int ee), .val (.int (2 : Int32)), .val (.ref rl), .val (.ref jd), .val (.ref ob), .val (.double gt), .second, .unset, .unset] [(.int (2 : Int32))])
        refine hs.go (fun _ kk_ => XS.iconst X21.here hx rfl (hb hby at_175) kk_) ?_
        show G T21 (mkF m 176 #[.val (.int nn), .val (.int a), .val (.int b), .val (.int cc), .val (.int dd), .val (.int ee), .val (.int (2 : Int32)), .val (.ref rl), .val (.ref jd), .val (.ref ob), .val (.double gt), .second, .unset, .unset] [(.int (3 : Int32)), (.int (2 : Int32))])
        refine hs.go (fun _ kk_ => XS.icmpYes X21.here hx rfl (pc0 := 176) (pc' := 191) rfl (hb hby at_176) rfl (tlt ((by decide) : (2 : Int32) < (3 : Int32))).1 (by decide) (by decide) kk_) ?_
        show G T21 (mkF m 191 #[.val (.int nn), .val (.int a), .val (.int b), .val (.int cc), .val (.int dd), .val (.int ee), .val (.int (2 : Int32)), .val (.ref rl), .val (.ref jd), .val (.ref ob), .val (.double gt), .second, .unset, .unset] [])
        refine hs.go (fun _ kk_ => XS.iload X21.here hx rfl (hb hby at_191) rfl  kk_) ?_
        show G T21 (mkF m 193 #[.val (.int nn), .val (.int a), .val (.int b), .val (.int cc), .val (.int dd), .val (.int ee), .val (.int (2 : Int32)), .val (.ref rl), .val (.ref jd), .val (.ref ob), .val (.double gt), .second, .unset, .unset] [(.int (2 : Int32))])
        refine hs.go (fun _ kk_ => XS.iconst X21.here hx rfl (hb hby at_193) kk_) ?_
        show G T21 (mkF m 194 #[.val (.int nn), .val (.int a), .val (.int b), .val (.int cc), .val (.int dd), .val (.int ee), .val (.int (2 : Int32)), .val (.ref rl), .val (.ref jd), .val (.ref ob), .val (.double gt), .second, .unset, .unset] [(.int (4 : Int32)), (.int (2 : Int32))])
        refine hs.go (fun _ kk_ => XS.icmpYes X21.here hx rfl (pc0 := 194) (pc' := 210) rfl (hb hby at_194) rfl (tlt ((by decide) : (2 : Int32) < (4 : Int32))).1 (by decide) (by decide) kk_) ?_
        show G T21 (mkF m 210 #[.val (.int nn), .val (.int a), .val (.int b), .val (.int cc), .val (.int dd), .val (.int ee), .val (.int (2 : Int32)), .val (.ref rl), .val (.ref jd), .val (.ref ob), .val (.double gt), .second, .unset, .unset] [])
        refine hs.go (fun _ kk_ => XS.dconst0 X21.here hx rfl (hb hby at_210) (v := (0 : UInt64)) (by decide +kernel) kk_) ?_
        show G T21 (mkF m 211 #[.val (.int nn), .val (.int a), .val (.int b), .val (.int cc), .val (.int dd), .val (.int ee), .val (.int (2 : Int32)), .val (.ref rl), .val (.ref jd), .val (.ref ob), .val (.double gt), .second, .unset, .unset] [(.double (0 : UInt64))])
        refine hs.go (fun _ kk_ => XS.dstore X21.here hx rfl (hb hby at_211) rfl (l' := #[.val (.int nn), .val (.int a), .val (.int b), .val (.int cc), .val (.int dd), .val (.int ee), .val (.int (2 : Int32)), .val (.ref rl), .val (.ref jd), .val (.ref ob), .val (.double gt), .second, .val (.double (0 : UInt64)), .second]) rfl kk_) ?_
        show G T21 (mkF m 213 #[.val (.int nn), .val (.int a), .val (.int b), .val (.int cc), .val (.int dd), .val (.int ee), .val (.int (2 : Int32)), .val (.ref rl), .val (.ref jd), .val (.ref ob), .val (.double gt), .second, .val (.double (0 : UInt64)), .second] [])
        refine hs.go (fun _ kk_ => XS.dload X21.here hx rfl (hb hby at_213) rfl  kk_) ?_
        show G T21 (mkF m 215 #[.val (.int nn), .val (.int a), .val (.int b), .val (.int cc), .val (.int dd), .val (.int ee), .val (.int (2 : Int32)), .val (.ref rl), .val (.ref jd), .val (.ref ob), .val (.double gt), .second, .val (.double (0 : UInt64)), .second] [(.double gt)])
        refine hs.go (fun _ kk_ => XS.dload X21.here hx rfl (hb hby at_215) rfl  kk_) ?_
        show G T21 (mkF m 217 #[.val (.int nn), .val (.int a), .val (.int b), .val (.int cc), .val (.int dd), .val (.int ee), .val (.int (2 : Int32)), .val (.ref rl), .val (.ref jd), .val (.ref ob), .val (.double gt), .second, .val (.double (0 : UInt64)), .second] [(.double (0 : UInt64)), (.double gt)])
        refine hs.go (fun _ kk_ => XS.dcmpS X21.here hx rfl (hb hby at_217) rfl (v := (0 : Int32)) (by rw [hgt]; simp only [rr, c146, c162, if_true, if_false]; decide +kernel) kk_) ?_
        show G T21 (mkF m 218 #[.val (.int nn), .val (.int a), .val (.int b), .val (.int cc), .val (.int dd), .val (.int ee), .val (.int (2 : Int32)), .val (.ref rl), .val (.ref jd), .val (.ref ob), .val (.double gt), .second, .val (.double (0 : UInt64)), .second] [(.int (0 : Int32))])
        refine hs.go (fun _ kk_ => XS.ifNo X21.here hx rfl (hb hby at_218) rfl ((if0 _ _).trans (teq (rfl : (0 : Int32) = (0 : Int32))).2) kk_) ?_
        show G T21 (mkF m 221 #[.val (.int nn), .val (.int a), .val (.int b), .val (.int cc), .val (.int dd), .val (.int ee), .val (.int (2 : Int32)), .val (.ref rl), .val (.ref jd), .val (.ref ob), .val (.double gt), .second, .val (.double (0 : UInt64)), .second] [])
        refine hs.go (fun _ kk_ => XS.iconst X21.here hx rfl (hb hby at_221) kk_) ?_
        show G T21 (mkF m 222 #[.val (.int nn), .val (.int a), .val (.int b), .val (.int cc), .val (.int dd), .val (.int ee), .val (.int (2 : Int32)), .val (.ref rl), .val (.ref jd), .val (.ref ob), .val (.double gt), .second, .val (.double (0 : UInt64)), .second] [(.int (1 : Int32))])
        refine hs.go (fun _ kk_ => XS.goto X21.here hx rfl (pc0 := 222) (pc' := 226) rfl (hb hby at_222) (by decide) (by decide) kk_) ?_
        show G T21 (mkF m 226 #[.val (.int nn), .val (.int a), .val (.int b), .val (.int cc), .val (.int dd), .val (.int ee), .val (.int (2 : Int32)), .val (.ref rl), .val (.ref jd), .val (.ref ob), .val (.double gt), .second, .val (.double (0 : UInt64)), .second] [(.int (1 : Int32))])
        exact rRetN fin X21 hx (by decide) (by decide) hret (by simp) (hb hby at_226) (z' := (1 : Int32)) (by decide) rfl
  · show G s₁ (mkF m 8 #[.val (.int nn), .val (.int a), .val (.int b), .val (.int cc), .val (.int dd), .val (.int ee), .val (.int (3 : Int32)), .unset, .unset, .unset, .unset, .unset, .unset, .unset] [])
    refine hs.go (fun _ kk_ => XS.iload X0.here hx rfl (hb hby at_8) rfl  kk_) ?_
    show G s₁ (mkF m 10 #[.val (.int nn), .val (.int a), .val (.int b), .val (.int cc), .val (.int dd), .val (.int ee), .val (.int (3 : Int32)), .unset, .unset, .unset, .unset, .unset, .unset, .unset] [(.int (3 : Int32))])
    refine hs.go (fun _ kk_ => XS.ifYes X0.here hx rfl (pc0 := 10) (pc' := 21) rfl (hb hby at_10) rfl ((if0 _ _).trans (feq ((by decide) : ¬ ((3 : Int32) = (0 : Int32)))).2) (by decide) (by decide) kk_) ?_
    show G s₁ (mkF m 21 #[.val (.int nn), .val (.int a), .val (.int b), .val (.int cc), .val (.int dd), .val (.int ee), .val (.int (3 : Int32)), .unset, .unset, .unset, .unset, .unset, .unset, .unset] [])
    refine hs.go (fun _ kk_ => XS.iload X0.here hx rfl (hb hby at_21) rfl  kk_) ?_
    show G s₁ (mkF m 23 #[.val (.int nn), .val (.int a), .val (.int b), .val (.int cc), .val (.int dd), .val (.int ee), .val (.int (3 : Int32)), .unset, .unset, .unset, .unset, .unset, .unset, .unset] [(.int (3 : Int32))])
    refine hs.go (fun _ kk_ => XS.iconst X0.here hx rfl (hb hby at_23) kk_) ?_
    show G s₁ (mkF m 24 #[.val (.int nn), .val (.int a), .val (.int b), .val (.int cc), .val (.int dd), .val (.int ee), .val (.int (3 : Int32)), .unset, .unset, .unset, .unset, .unset, .unset, .unset] [(.int (1 : Int32)), (.int (3 : Int32))])
    refine hs.go (fun _ kk_ => XS.icmpYes X0.here hx rfl (pc0 := 24) (pc' := 39) rfl (hb hby at_24) rfl (feq ((by decide) : ¬ ((3 : Int32) = (1 : Int32)))).2 (by decide) (by decide) kk_) ?_
    show G s₁ (mkF m 39 #[.val (.int nn), .val (.int a), .val (.int b), .val (.int cc), .val (.int dd), .val (.int ee), .val (.int (3 : Int32)), .unset, .unset, .unset, .unset, .unset, .unset, .unset] [])
    refine hs.go (fun _ kk_ => XS.iload X0.here hx rfl (hb hby at_39) rfl  kk_) ?_
    show G s₁ (mkF m 41 #[.val (.int nn), .val (.int a), .val (.int b), .val (.int cc), .val (.int dd), .val (.int ee), .val (.int (3 : Int32)), .unset, .unset, .unset, .unset, .unset, .unset, .unset] [(.int (3 : Int32))])
    refine hs.go (fun _ kk_ => XS.iconst X0.here hx rfl (hb hby at_41) kk_) ?_
    show G s₁ (mkF m 42 #[.val (.int nn), .val (.int a), .val (.int b), .val (.int cc), .val (.int dd), .val (.int ee), .val (.int (3 : Int32)), .unset, .unset, .unset, .unset, .unset, .unset, .unset] [(.int (2 : Int32)), (.int (3 : Int32))])
    refine hs.go (fun _ kk_ => XS.icmpYes X0.here hx rfl (pc0 := 42) (pc' := 61) rfl (hb hby at_42) rfl (feq ((by decide) : ¬ ((3 : Int32) = (2 : Int32)))).2 (by decide) (by decide) kk_) ?_
    show G s₁ (mkF m 61 #[.val (.int nn), .val (.int a), .val (.int b), .val (.int cc), .val (.int dd), .val (.int ee), .val (.int (3 : Int32)), .unset, .unset, .unset, .unset, .unset, .unset, .unset] [])
    refine hs.go (fun _ kk_ => XS.iload X0.here hx rfl (hb hby at_61) rfl  kk_) ?_
    show G s₁ (mkF m 63 #[.val (.int nn), .val (.int a), .val (.int b), .val (.int cc), .val (.int dd), .val (.int ee), .val (.int (3 : Int32)), .unset, .unset, .unset, .unset, .unset, .unset, .unset] [(.int (3 : Int32))])
    refine hs.go (fun _ kk_ => XS.iconst X0.here hx rfl (hb hby at_63) kk_) ?_
    show G s₁ (mkF m 64 #[.val (.int nn), .val (.int a), .val (.int b), .val (.int cc), .val (.int dd), .val (.int ee), .val (.int (3 : Int32)), .unset, .unset, .unset, .unset, .unset, .unset, .unset] [(.int (3 : Int32)), (.int (3 : Int32))])
    refine hs.go (fun _ kk_ => XS.icmpNo X0.here hx rfl (hb hby at_64) rfl (teq (rfl : (3 : Int32) = (3 : Int32))).2 kk_) ?_
    show G s₁ (mkF m 67 #[.val (.int nn), .val (.int a), .val (.int b), .val (.int cc), .val (.int dd), .val (.int ee), .val (.int (3 : Int32)), .unset, .unset, .unset, .unset, .unset, .unset, .unset] [])
    refine hs.go (fun _ kk_ => XS.iconst X0.here hx rfl (hb hby at_67) kk_) ?_
    show G s₁ (mkF m 68 #[.val (.int nn), .val (.int a), .val (.int b), .val (.int cc), .val (.int dd), .val (.int ee), .val (.int (3 : Int32)), .unset, .unset, .unset, .unset, .unset, .unset, .unset] [(.int (3 : Int32))])
    refine rNewP hs X0 hx hZ (hw _ (List.mem_of_getElem? (i := 1) rfl)) rfl (hb hby at_68) rfl (by decide) 3 3 (by decide) (by decide) (by decide) (by decide) (fun T22 h22 k22 rl g22 X22 E22 V_rl => ?_)
    have V_rl : Arv Z h22 rl k22 .int (3 : Int32) [(.int (0 : Int32)), (.int (0 : Int32)), (.int (0 : Int32))] (.int (0 : Int32)) := V_rl
    have g_rl : n0 ≤ rl := by rw [g22]; exact Z0
    have Z0 := Nat.le_trans Z0 E22.1
    show G T22 (mkF m 70 #[.val (.int nn), .val (.int a), .val (.int b), .val (.int cc), .val (.int dd), .val (.int ee), .val (.int (3 : Int32)), .unset, .unset, .unset, .unset, .unset, .unset, .unset] [(.ref rl)])
    refine hs.go (fun _ kk_ => XS.dup X22.here hx rfl (hb hby at_70) rfl rfl kk_) ?_
    show G T22 (mkF m 71 #[.val (.int nn), .val (.int a), .val (.int b), .val (.int cc), .val (.int dd), .val (.int ee), .val (.int (3 : Int32)), .unset, .unset, .unset, .unset, .unset, .unset, .unset] [(.ref rl), (.ref rl)])
    refine hs.go (fun _ kk_ => XS.iconst X22.here hx rfl (hb hby at_71) kk_) ?_
    show G T22 (mkF m 72 #[.val (.int nn), .val (.int a), .val (.int b), .val (.int cc), .val (.int dd), .val (.int ee), .val (.int (3 : Int32)), .unset, .unset, .unset, .unset, .unset, .unset, .unset] [(.int (0 : Int32)), (.ref rl), (.ref rl)])
    refine hs.go (fun _ kk_ => XS.iloadN X22.here hx rfl (hb hby at_72) rfl  kk_) ?_
    show G T22 (mkF m 73 #[.val (.int nn), .val (.int a), .val (.int b), .val (.int cc), .val (.int dd), .val (.int ee), .val (.int (3 : Int32)), .unset, .unset, .unset, .unset, .unset, .unset, .unset] [(.int a), (.int (0 : Int32)), (.ref rl), (.ref rl)])
    refine rStI hs X22 hx hZ V_rl g_rl ⟨by decide, by decide⟩ 0 (by decide) (by simp) rfl rfl (hb hby at_73) (fun T23 h23 X23 W23 V_rl => ?_)
    have V_rl : Arv Z h23 rl k22 .int (3 : Int32) [(.int a), (.int (0 : Int32)), (.int (0 : Int32))] (.int (0 : Int32)) := V_rl
    have Z0 := Nat.le_trans Z0 (Keep.of_wr W23).1
    show G T23 (mkF m 74 #[.val (.int nn), .val (.int a), .val (.int b), .val (.int cc), .val (.int dd), .val (.int ee), .val (.int (3 : Int32)), .unset, .unset, .unset, .unset, .unset, .unset, .unset] [(.ref rl)])
    refine hs.go (fun _ kk_ => XS.dup X23.here hx rfl (hb hby at_74) rfl rfl kk_) ?_
    show G T23 (mkF m 75 #[.val (.int nn), .val (.int a), .val (.int b), .val (.int cc), .val (.int dd), .val (.int ee), .val (.int (3 : Int32)), .unset, .unset, .unset, .unset, .unset, .unset, .unset] [(.ref rl), (.ref rl)])
    refine hs.go (fun _ kk_ => XS.iconst X23.here hx rfl (hb hby at_75) kk_) ?_
    show G T23 (mkF m 76 #[.val (.int nn), .val (.int a), .val (.int b), .val (.int cc), .val (.int dd), .val (.int ee), .val (.int (3 : Int32)), .unset, .unset, .unset, .unset, .unset, .unset, .unset] [(.int (1 : Int32)), (.ref rl), (.ref rl)])
    refine hs.go (fun _ kk_ => XS.iloadN X23.here hx rfl (hb hby at_76) rfl  kk_) ?_
    show G T23 (mkF m 77 #[.val (.int nn), .val (.int a), .val (.int b), .val (.int cc), .val (.int dd), .val (.int ee), .val (.int (3 : Int32)), .unset, .unset, .unset, .unset, .unset, .unset, .unset] [(.int b), (.int (1 : Int32)), (.ref rl), (.ref rl)])
    refine rStI hs X23 hx hZ V_rl g_rl ⟨by decide, by decide⟩ 1 (by decide) (by simp) rfl rfl (hb hby at_77) (fun T24 h24 X24 W24 V_rl => ?_)
    have V_rl : Arv Z h24 rl k22 .int (3 : Int32) [(.int a), (.int b), (.int (0 : Int32))] (.int (0 : Int32)) := V_rl
    have Z0 := Nat.le_trans Z0 (Keep.of_wr W24).1
    show G T24 (mkF m 78 #[.val (.int nn), .val (.int a), .val (.int b), .val (.int cc), .val (.int dd), .val (.int ee), .val (.int (3 : Int32)), .unset, .unset, .unset, .unset, .unset, .unset, .unset] [(.ref rl)])
    refine hs.go (fun _ kk_ => XS.dup X24.here hx rfl (hb hby at_78) rfl rfl kk_) ?_
    show G T24 (mkF m 79 #[.val (.int nn), .val (.int a), .val (.int b), .val (.int cc), .val (.int dd), .val (.int ee), .val (.int (3 : Int32)), .unset, .unset, .unset, .unset, .unset, .unset, .unset] [(.ref rl), (.ref rl)])
    refine hs.go (fun _ kk_ => XS.iconst X24.here hx rfl (hb hby at_79) kk_) ?_
    show G T24 (mkF m 80 #[.val (.int nn), .val (.int a), .val (.int b), .val (.int cc), .val (.int dd), .val (.int ee), .val (.int (3 : Int32)), .unset, .unset, .unset, .unset, .unset, .unset, .unset] [(.int (2 : Int32)), (.ref rl), (.ref rl)])
    refine hs.go (fun _ kk_ => XS.iloadN X24.here hx rfl (hb hby at_80) rfl  kk_) ?_
    show G T24 (mkF m 81 #[.val (.int nn), .val (.int a), .val (.int b), .val (.int cc), .val (.int dd), .val (.int ee), .val (.int (3 : Int32)), .unset, .unset, .unset, .unset, .unset, .unset, .unset] [(.int cc), (.int (2 : Int32)), (.ref rl), (.ref rl)])
    refine rStI hs X24 hx hZ V_rl g_rl ⟨by decide, by decide⟩ 2 (by decide) (by simp) rfl rfl (hb hby at_81) (fun T25 h25 X25 W25 V_rl => ?_)
    have V_rl : Arv Z h25 rl k22 .int (3 : Int32) [(.int a), (.int b), (.int cc)] (.int (0 : Int32)) := V_rl
    have Z0 := Nat.le_trans Z0 (Keep.of_wr W25).1
    show G T25 (mkF m 82 #[.val (.int nn), .val (.int a), .val (.int b), .val (.int cc), .val (.int dd), .val (.int ee), .val (.int (3 : Int32)), .unset, .unset, .unset, .unset, .unset, .unset, .unset] [(.ref rl)])
    refine hs.go (fun _ kk_ => XS.astore X25.here hx rfl (hb hby at_82) rfl rfl (l' := #[.val (.int nn), .val (.int a), .val (.int b), .val (.int cc), .val (.int dd), .val (.int ee), .val (.int (3 : Int32)), .val (.ref rl), .unset, .unset, .unset, .unset, .unset, .unset]) rfl kk_) ?_
    show G T25 (mkF m 84 #[.val (.int nn), .val (.int a), .val (.int b), .val (.int cc), .val (.int dd), .val (.int ee), .val (.int (3 : Int32)), .val (.ref rl), .unset, .unset, .unset, .unset, .unset, .unset] [])
    refine hs.go (fun _ kk_ => XS.goto X25.here hx rfl (pc0 := 84) (pc' := 109) rfl (hb hby at_84) (by decide) (by decide) kk_) ?_
    show G T25 (mkF m 109 #[.val (.int nn), .val (.int a), .val (.int b), .val (.int cc), .val (.int dd), .val (.int ee), .val (.int (3 : Int32)), .val (.ref rl), .unset, .unset, .unset, .unset, .unset, .unset] [])
    refine hs.go (fun _ kk_ => XS.iconst X25.here hx rfl (hb hby at_109) kk_) ?_
    show G T25 (mkF m 110 #[.val (.int nn), .val (.int a), .val (.int b), .val (.int cc), .val (.int dd), .val (.int ee), .val (.int (3 : Int32)), .val (.ref rl), .unset, .unset, .unset, .unset, .unset, .unset] [(.int (1 : Int32))])
    refine rNewP hs X25 hx hZ (hw _ (List.mem_of_getElem? (i := 1) rfl)) rfl (hb hby at_110) rfl (by decide) 1 1 (by decide) (by decide) (by decide) (by decide) (fun T26 h26 k26 jd g26 X26 E26 V_jd => ?_)
    have V_jd : Arv Z h26 jd k26 .int (1 : Int32) [(.int (0 : Int32))] (.int (0 : Int32)) := V_jd
    have g_jd : n0 ≤ jd := by rw [g26]; exact Z0
    have Z0 := Nat.le_trans Z0 E26.1
    have ne_rl_jd : rl ≠ jd := Nat.ne_of_lt (Nat.lt_of_lt_of_le V_rl.lt (Nat.le_of_eq g26.symm))
    have V_rl := V_rl.ext E26
    show G T26 (mkF m 112 #[.val (.int nn), .val (.int a), .val (.int b), .val (.int cc), .val (.int dd), .val (.int ee), .val (.int (3 : Int32)), .val (.ref rl), .unset, .unset, .unset, .unset, .unset, .unset] [(.ref jd)])
    refine hs.go (fun _ kk_ => XS.dup X26.here hx rfl (hb hby at_112) rfl rfl kk_) ?_
    show G T26 (mkF m 113 #[.val (.int nn), .val (.int a), .val (.int b), .val (.int cc), .val (.int dd), .val (.int ee), .val (.int (3 : Int32)), .val (.ref rl), .unset, .unset, .unset, .unset, .unset, .unset] [(.ref jd), (.ref jd)])
    refine hs.go (fun _ kk_ => XS.iconst X26.here hx rfl (hb hby at_113) kk_) ?_
    show G T26 (mkF m 114 #[.val (.int nn), .val (.int a), .val (.int b), .val (.int cc), .val (.int dd), .val (.int ee), .val (.int (3 : Int32)), .val (.ref rl), .unset, .unset, .unset, .unset, .unset, .unset] [(.int (0 : Int32)), (.ref jd), (.ref jd)])
    refine hs.go (fun _ kk_ => XS.iload X26.here hx rfl (hb hby at_114) rfl  kk_) ?_
    show G T26 (mkF m 116 #[.val (.int nn), .val (.int a), .val (.int b), .val (.int cc), .val (.int dd), .val (.int ee), .val (.int (3 : Int32)), .val (.ref rl), .unset, .unset, .unset, .unset, .unset, .unset] [(.int ee), (.int (0 : Int32)), (.ref jd), (.ref jd)])
    refine rStI hs X26 hx hZ V_jd g_jd ⟨by decide, by decide⟩ 0 (by decide) (by simp) rfl rfl (hb hby at_116) (fun T27 h27 X27 W27 V_jd => ?_)
    have V_jd : Arv Z h27 jd k26 .int (1 : Int32) [(.int ee)] (.int (0 : Int32)) := V_jd
    have V_rl := V_rl.other W27 ne_rl_jd
    have Z0 := Nat.le_trans Z0 (Keep.of_wr W27).1
    show G T27 (mkF m 117 #[.val (.int nn), .val (.int a), .val (.int b), .val (.int cc), .val (.int dd), .val (.int ee), .val (.int (3 : Int32)), .val (.ref rl), .unset, .unset, .unset, .unset, .unset, .unset] [(.ref jd)])
    refine hs.go (fun _ kk_ => XS.astore X27.here hx rfl (hb hby at_117) rfl rfl (l' := #[.val (.int nn), .val (.int a), .val (.int b), .val (.int cc), .val (.int dd), .val (.int ee), .val (.int (3 : Int32)), .val (.ref rl), .val (.ref jd), .unset, .unset, .unset, .unset, .unset]) rfl kk_) ?_
    show G T27 (mkF m 119 #[.val (.int nn), .val (.int a), .val (.int b), .val (.int cc), .val (.int dd), .val (.int ee), .val (.int (3 : Int32)), .val (.ref rl), .val (.ref jd), .unset, .unset, .unset, .unset, .unset] [])
    refine rNewO hs X27 hx hZ hown (hw _ (List.mem_of_getElem? (i := 2) rfl)) (hw _ (List.mem_of_getElem? (i := 3) rfl)) (hw _ (List.mem_of_getElem? (i := 4) rfl)) rfl (hb hby at_119) (by decide) (by decide) (fun T28 h28 ob g28 X28 E28 E_ob D28 => ?_)
    have g_ob : n0 ≤ ob := by rw [g28]; exact Z0
    have Z0 := Nat.le_trans Z0 E28.1
    have ne_rl_ob : rl ≠ ob := Nat.ne_of_lt (Nat.lt_of_lt_of_le V_rl.lt (Nat.le_of_eq g28.symm))
    have ne_jd_ob : jd ≠ ob := Nat.ne_of_lt (Nat.lt_of_lt_of_le V_jd.lt (Nat.le_of_eq g28.symm))
    have V_rl := V_rl.ext E28
    have V_jd := V_jd.ext E28
    have F_relevance_ob : Fld Z h28 ob "com/example/ranked_odds/rankedodds/eval/JudgedRanking" "relevance" "[I" .null := D28 (Or.inr (hw _ (List.mem_of_getElem? (i := 17) rfl))) (ty := (.array .int)) (by decide)
    have F_judged_ob : Fld Z h28 ob "com/example/ranked_odds/rankedodds/eval/JudgedRanking" "judged" "[I" .null := D28 (Or.inr (hw _ (List.mem_of_getElem? (i := 19) rfl))) (ty := (.array .int)) (by decide)
    show G T28 (mkF m 122 #[.val (.int nn), .val (.int a), .val (.int b), .val (.int cc), .val (.int dd), .val (.int ee), .val (.int (3 : Int32)), .val (.ref rl), .val (.ref jd), .unset, .unset, .unset, .unset, .unset] [(.ref ob)])
    refine hs.go (fun _ kk_ => XS.dup X28.here hx rfl (hb hby at_122) rfl rfl kk_) ?_
    show G T28 (mkF m 123 #[.val (.int nn), .val (.int a), .val (.int b), .val (.int cc), .val (.int dd), .val (.int ee), .val (.int (3 : Int32)), .val (.ref rl), .val (.ref jd), .unset, .unset, .unset, .unset, .unset] [(.ref ob), (.ref ob)])
    refine hs.go (fun _ kk_ => XS.aload X28.here hx rfl (hb hby at_123) rfl rfl kk_) ?_
    show G T28 (mkF m 125 #[.val (.int nn), .val (.int a), .val (.int b), .val (.int cc), .val (.int dd), .val (.int ee), .val (.int (3 : Int32)), .val (.ref rl), .val (.ref jd), .unset, .unset, .unset, .unset, .unset] [(.ref rl), (.ref ob), (.ref ob)])
    refine hs.go (fun _ kk_ => XS.aload X28.here hx rfl (hb hby at_125) rfl rfl kk_) ?_
    show G T28 (mkF m 127 #[.val (.int nn), .val (.int a), .val (.int b), .val (.int cc), .val (.int dd), .val (.int ee), .val (.int (3 : Int32)), .val (.ref rl), .val (.ref jd), .unset, .unset, .unset, .unset, .unset] [(.ref jd), (.ref rl), (.ref ob), (.ref ob)])
    refine rCallI hs X28 hx hZ (as' := [(.ref rl), (.ref jd)]) (rm1 l Z a0 hw [] ob rl jd h28 n0 Z0 E_ob g_ob F_relevance_ob F_judged_ob) rfl hown (hw _ (List.mem_of_getElem? (i := 5) rfl)) (hw _ (List.mem_of_getElem? (i := 6) rfl)) (hw _ (List.mem_of_getElem? (i := 4) rfl)) (hw _ (List.mem_of_getElem? (i := 7) rfl)) hy_1 rfl (by rw [hml]; rfl) [(.ref ob)] (lenOf pd_1 rfl) rfl 1 (by show 2 * 0 + _ ≤ _; exact Nat.le_of_eq rfl) (hb hby at_127) (by decide) (by decide) (by decide) (by decide) (fun r29 T29 h29 X29 q29 => ?_)
    obtain ⟨rfl, Kc29, E_ob, F_relevance_ob⟩ := q29
    have Z0 := Nat.le_trans Z0 Kc29.1
    have V_rl := V_rl.keep Kc29 (ninS ne_rl_ob nin0)
    have V_jd := V_jd.keep Kc29 (ninS ne_jd_ob nin0)
    show G T29 (mkF m 130 #[.val (.int nn), .val (.int a), .val (.int b), .val (.int cc), .val (.int dd), .val (.int ee), .val (.int (3 : Int32)), .val (.ref rl), .val (.ref jd), .unset, .unset, .unset, .unset, .unset] [(.ref ob)])
    refine hs.go (fun _ kk_ => XS.astore X29.here hx rfl (hb hby at_130) rfl rfl (l' := #[.val (.int nn), .val (.int a), .val (.int b), .val (.int cc), .val (.int dd), .val (.int ee), .val (.int (3 : Int32)), .val (.ref rl), .val (.ref jd), .val (.ref ob), .unset, .unset, .unset, .unset]) rfl kk_) ?_
    show G T29 (mkF m 132 #[.val (.int nn), .val (.int a), .val (.int b), .val (.int cc), .val (.int dd), .val (.int ee), .val (.int (3 : Int32)), .val (.ref rl), .val (.ref jd), .val (.ref ob), .unset, .unset, .unset, .unset] [])
    refine hs.go (fun _ kk_ => XS.aload X29.here hx rfl (hb hby at_132) rfl rfl kk_) ?_
    show G T29 (mkF m 134 #[.val (.int nn), .val (.int a), .val (.int b), .val (.int cc), .val (.int dd), .val (.int ee), .val (.int (3 : Int32)), .val (.ref rl), .val (.ref jd), .val (.ref ob), .unset, .unset, .unset, .unset] [(.ref ob)])
    refine rCallV hs X29 hx hZ (as' := []) (rm4 l Z a0 hw [] ob rl (3 : Int32) [a, b, cc] k22 h29 n0 Z0 F_relevance_ob V_rl rfl (by simp)) E_ob hown (hw _ (List.mem_of_getElem? (i := 20) rfl)) (hw _ (List.mem_of_getElem? (i := 21) rfl)) (hw _ (List.mem_of_getElem? (i := 23) rfl)) (hw _ (List.mem_of_getElem? (i := 22) rfl)) (hw _ (List.mem_of_getElem? (i := 4) rfl)) (hw _ (List.mem_of_getElem? (i := 24) rfl)) hy_4 rfl (by rw [hml]; rfl) [] (lenOf pd_2 rfl) rfl 0 (by show 2 * 0 + _ ≤ _; exact Nat.le_of_eq rfl) (hb hby at_134) (by decide) (by decide) (by decide) (by decide) (fun r30 T30 h30 X30 q30 => ?_)
    obtain ⟨rfl, qh30⟩ := q30
    rw [qh30] at X30
    show G T30 (mkF m 137 #[.val (.int nn), .val (.int a), .val (.int b), .val (.int cc), .val (.int dd), .val (.int ee), .val (.int (3 : Int32)), .val (.ref rl), .val (.ref jd), .val (.ref ob), .unset, .unset, .unset, .unset] [(.double (rr [a, b, cc] 0))])
    refine nameIt (P := fun zz_ : UInt64 => G T30 (mkF m 137 #[.val (.int nn), .val (.int a), .val (.int b), .val (.int cc), .val (.int dd), .val (.int ee), .val (.int (3 : Int32)), .val (.ref rl), .val (.ref jd), .val (.ref ob), .unset, .unset, .unset, .unset] [(.double zz_)])) (rr [a, b, cc] 0) (fun gt hgt => ?_)
    show G T30 (mkF m 137 #[.val (.int nn), .val (.int a), .val (.int b), .val (.int cc), .val (.int dd), .val (.int ee), .val (.int (3 : Int32)), .val (.ref rl), .val (.ref jd), .val (.ref ob), .unset, .unset, .unset, .unset] [(.double gt)])
    refine hs.go (fun _ kk_ => XS.dstore X30.here hx rfl (hb hby at_137) rfl (l' := #[.val (.int nn), .val (.int a), .val (.int b), .val (.int cc), .val (.int dd), .val (.int ee), .val (.int (3 : Int32)), .val (.ref rl), .val (.ref jd), .val (.ref ob), .val (.double gt), .second, .unset, .unset]) rfl kk_) ?_
    show G T30 (mkF m 139 #[.val (.int nn), .val (.int a), .val (.int b), .val (.int cc), .val (.int dd), .val (.int ee), .val (.int (3 : Int32)), .val (.ref rl), .val (.ref jd), .val (.ref ob), .val (.double gt), .second, .unset, .unset] [])
    refine hs.go (fun _ kk_ => XS.iload X30.here hx rfl (hb hby at_139) rfl  kk_) ?_
    show G T30 (mkF m 141 #[.val (.int nn), .val (.int a), .val (.int b), .val (.int cc), .val (.int dd), .val (.int ee), .val (.int (3 : Int32)), .val (.ref rl), .val (.ref jd), .val (.ref ob), .val (.double gt), .second, .unset, .unset] [(.int (3 : Int32))])
    refine hs.go (fun _ kk_ => XS.iconst X30.here hx rfl (hb hby at_141) kk_) ?_
    show G T30 (mkF m 142 #[.val (.int nn), .val (.int a), .val (.int b), .val (.int cc), .val (.int dd), .val (.int ee), .val (.int (3 : Int32)), .val (.ref rl), .val (.ref jd), .val (.ref ob), .val (.double gt), .second, .unset, .unset] [(.int (1 : Int32)), (.int (3 : Int32))])
    refine hs.go (fun _ kk_ => XS.icmpNo X30.here hx rfl (hb hby at_142) rfl (flt ((by decide) : ¬ ((3 : Int32) < (1 : Int32)))).1 kk_) ?_
    show G T30 (mkF m 145 #[.val (.int nn), .val (.int a), .val (.int b), .val (.int cc), .val (.int dd), .val (.int ee), .val (.int (3 : Int32)), .val (.ref rl), .val (.ref jd), .val (.ref ob), .val (.double gt), .second, .unset, .unset] [])
    refine hs.go (fun _ kk_ => XS.iloadN X30.here hx rfl (hb hby at_145) rfl  kk_) ?_
    show G T30 (mkF m 146 #[.val (.int nn), .val (.int a), .val (.int b), .val (.int cc), .val (.int dd), .val (.int ee), .val (.int (3 : Int32)), .val (.ref rl), .val (.ref jd), .val (.ref ob), .val (.double gt), .second, .unset, .unset] [(.int a)])
    by_cases c146 : (0 : Int32) < a
    · refine hs.go (fun _ kk_ => XS.ifNo X30.here hx rfl (hb hby at_146) rfl ((if0 _ _).trans (tlt c146).2.2.2) kk_) ?_
      show G T30 (mkF m 149 #[.val (.int nn), .val (.int a), .val (.int b), .val (.int cc), .val (.int dd), .val (.int ee), .val (.int (3 : Int32)), .val (.ref rl), .val (.ref jd), .val (.ref ob), .val (.double gt), .second, .unset, .unset] [])
      refine hs.go (fun _ kk_ => XS.dconst1 X30.here hx rfl (hb hby at_149) (v := (4607182418800017408 : UInt64)) (by decide +kernel) kk_) ?_
      show G T30 (mkF m 150 #[.val (.int nn), .val (.int a), .val (.int b), .val (.int cc), .val (.int dd), .val (.int ee), .val (.int (3 : Int32)), .val (.ref rl), .val (.ref jd), .val (.ref ob), .val (.double gt), .second, .unset, .unset] [(.double (4607182418800017408 : UInt64))])
      refine hs.go (fun _ kk_ => XS.dstore X30.here hx rfl (hb hby at_150) rfl (l' := #[.val (.int nn), .val (.int a), .val (.int b), .val (.int cc), .val (.int dd), .val (.int ee), .val (.int (3 : Int32)), .val (.ref rl), .val (.ref jd), .val (.ref ob), .val (.double gt), .second, .val (.double (4607182418800017408 : UInt64)), .second]) rfl kk_) ?_
      show G T30 (mkF m 152 #[.val (.int nn), .val (.int a), .val (.int b), .val (.int cc), .val (.int dd), .val (.int ee), .val (.int (3 : Int32)), .val (.ref rl), .val (.ref jd), .val (.ref ob), .val (.double gt), .second, .val (.double (4607182418800017408 : UInt64)), .second] [])
      refine hs.go (fun _ kk_ => XS.goto X30.here hx rfl (pc0 := 152) (pc' := 213) rfl (hb hby at_152) (by decide) (by decide) kk_) ?_
      show G T30 (mkF m 213 #[.val (.int nn), .val (.int a), .val (.int b), .val (.int cc), .val (.int dd), .val (.int ee), .val (.int (3 : Int32)), .val (.ref rl), .val (.ref jd), .val (.ref ob), .val (.double gt), .second, .val (.double (4607182418800017408 : UInt64)), .second] [])
      refine hs.go (fun _ kk_ => XS.dload X30.here hx rfl (hb hby at_213) rfl  kk_) ?_
      show G T30 (mkF m 215 #[.val (.int nn), .val (.int a), .val (.int b), .val (.int cc), .val (.int dd), .val (.int ee), .val (.int (3 : Int32)), .val (.ref rl), .val (.ref jd), .val (.ref ob), .val (.double gt), .second, .val (.double (4607182418800017408 : UInt64)), .second] [(.double gt)])
      refine hs.go (fun _ kk_ => XS.dload X30.here hx rfl (hb hby at_215) rfl  kk_) ?_
      show G T30 (mkF m 217 #[.val (.int nn), .val (.int a), .val (.int b), .val (.int cc), .val (.int dd), .val (.int ee), .val (.int (3 : Int32)), .val (.ref rl), .val (.ref jd), .val (.ref ob), .val (.double gt), .second, .val (.double (4607182418800017408 : UInt64)), .second] [(.double (4607182418800017408 : UInt64)), (.double gt)])
      refine hs.go (fun _ kk_ => XS.dcmpS X30.here hx rfl (hb hby at_217) rfl (v := (0 : Int32)) (by rw [hgt]; simp only [rr, c146, if_true, if_false]; decide +kernel) kk_) ?_
      show G T30 (mkF m 218 #[.val (.int nn), .val (.int a), .val (.int b), .val (.int cc), .val (.int dd), .val (.int ee), .val (.int (3 : Int32)), .val (.ref rl), .val (.ref jd), .val (.ref ob), .val (.double gt), .second, .val (.double (4607182418800017408 : UInt64)), .second] [(.int (0 : Int32))])
      refine hs.go (fun _ kk_ => XS.ifNo X30.here hx rfl (hb hby at_218) rfl ((if0 _ _).trans (teq (rfl : (0 : Int32) = (0 : Int32))).2) kk_) ?_
      show G T30 (mkF m 221 #[.val (.int nn), .val (.int a), .val (.int b), .val (.int cc), .val (.int dd), .val (.int ee), .val (.int (3 : Int32)), .val (.ref rl), .val (.ref jd), .val (.ref ob), .val (.double gt), .second, .val (.double (4607182418800017408 : UInt64)), .second] [])
      refine hs.go (fun _ kk_ => XS.iconst X30.here hx rfl (hb hby at_221) kk_) ?_
      show G T30 (mkF m 222 #[.val (.int nn), .val (.int a), .val (.int b), .val (.int cc), .val (.int dd), .val (.int ee), .val (.int (3 : Int32)), .val (.ref rl), .val (.ref jd), .val (.ref ob), .val (.double gt), .second, .val (.double (4607182418800017408 : UInt64)), .second] [(.int (1 : Int32))])
      refine hs.go (fun _ kk_ => XS.goto X30.here hx rfl (pc0 := 222) (pc' := 226) rfl (hb hby at_222) (by decide) (by decide) kk_) ?_
      show G T30 (mkF m 226 #[.val (.int nn), .val (.int a), .val (.int b), .val (.int cc), .val (.int dd), .val (.int ee), .val (.int (3 : Int32)), .val (.ref rl), .val (.ref jd), .val (.ref ob), .val (.double gt), .second, .val (.double (4607182418800017408 : UInt64)), .second] [(.int (1 : Int32))])
      exact rRetN fin X30 hx (by decide) (by decide) hret (by simp) (hb hby at_226) (z' := (1 : Int32)) (by decide) rfl
    · refine hs.go (fun _ kk_ => XS.ifYes X30.here hx rfl (pc0 := 146) (pc' := 155) rfl (hb hby at_146) rfl ((if0 _ _).trans (flt c146).2.2.2) (by decide) (by decide) kk_) ?_
      show G T30 (mkF m 155 #[.val (.int nn), .val (.int a), .val (.int b), .val (.int cc), .val (.int dd), .val (.int ee), .val (.int (3 : Int32)), .val (.ref rl), .val (.ref jd), .val (.ref ob), .val (.double gt), .second, .unset, .unset] [])
      refine hs.go (fun _ kk_ => XS.iload X30.here hx rfl (hb hby at_155) rfl  kk_) ?_
      show G T30 (mkF m 157 #[.val (.int nn), .val (.int a), .val (.int b), .val (.int cc), .val (.int dd), .val (.int ee), .val (.int (3 : Int32)), .val (.ref rl), .val (.ref jd), .val (.ref ob), .val (.double gt), .second, .unset, .unset] [(.int (3 : Int32))])
      refine hs.go (fun _ kk_ => XS.iconst X30.here hx rfl (hb hby at_157) kk_) ?_
      show G T30 (mkF m 158 #[.val (.int nn), .val (.int a), .val (.int b), .val (.int cc), .val (.int dd), .val (.int ee), .val (.int (3 : Int32)), .val (.ref rl), .val (.ref jd), .val (.ref ob), .val (.double gt), .second, .unset, .unset] [(.int (2 : Int32)), (.int (3 : Int32))])
      refine hs.go (fun _ kk_ => XS.icmpNo X30.here hx rfl (hb hby at_158) rfl (flt ((by decide) : ¬ ((3 : Int32) < (2 : Int32)))).1 kk_) ?_
      show G T30 (mkF m 161 #[.val (.int nn), .val (.int a), .val (.int b), .val (.int cc), .val (.int dd), .val (.int ee), .val (.int (3 : Int32)), .val (.ref rl), .val (.ref jd), .val (.ref ob), .val (.double gt), .second, .unset, .unset] [])
      refine hs.go (fun _ kk_ => XS.iloadN X30.here hx rfl (hb hby at_161) rfl  kk_) ?_
      show G T30 (mkF m 162 #[.val (.int nn), .val (.int a), .val (.int b), .val (.int cc), .val (.int dd), .val (.int ee), .val (.int (3 : Int32)), .val (.ref rl), .val (.ref jd), .val (.ref ob), .val (.double gt), .second, .unset, .unset] [(.int b)])
      by_cases c162 : (0 : Int32) < b
      · refine hs.go (fun _ kk_ => XS.ifNo X30.here hx rfl (hb hby at_162) rfl ((if0 _ _).trans (tlt c162).2.2.2) kk_) ?_
        show G T30 (mkF m 165 #[.val (.int nn), .val (.int a), .val (.int b), .val (.int cc), .val (.int dd), .val (.int ee), .val (.int (3 : Int32)), .val (.ref rl), .val (.ref jd), .val (.ref ob), .val (.double gt), .second, .unset, .unset] [])
        refine rLdcD hs X30 hx hZ hown (hw _ (List.mem_of_getElem? (i := 25) rfl)) rfl (hb hby at_165) ?_
        show G T30 (mkF m 168 #[.val (.int nn), .val (.int a), .val (.int b), .val (.int cc), .val (.int dd), .val (.int ee), .val (.int (3 : Int32)), .val (.ref rl), .val (.ref jd), .val (.ref ob), .val (.double gt), .second, .unset, .unset] [(.double (4602678819172646912 : UInt64))])
        refine hs.go (fun _ kk_ => XS.dstore X30.here hx rfl (hb hby at_168) rfl (l' := #[.val (.int nn), .val (.int a), .val (.int b), .val (.int cc), .val (.int dd), .val (.int ee), .val (.int (3 : Int32)), .val (.ref rl), .val (.ref jd), .val (.ref ob), .val (.double gt), .second, .val (.double (4602678819172646912 : UInt64)), .second]) rfl kk_) ?_
        show G T30 (mkF m 170 #[.val (.int nn), .val (.int a), .val (.int b), .val (.int cc), .val (.int dd), .val (.int ee), .val (.int (3 : Int32)), .val (.ref rl), .val (.ref jd), .val (.ref ob), .val (.double gt), .second, .val (.double (4602678819172646912 : UInt64)), .second] [])
        refine hs.go (fun _ kk_ => XS.goto X30.here hx rfl (pc0 := 170) (pc' := 213) rfl (hb hby at_170) (by decide) (by decide) kk_) ?_
        show G T30 (mkF m 213 #[.val (.int nn), .val (.int a), .val (.int b), .val (.int cc), .val (.int dd), .val (.int ee), .val (.int (3 : Int32)), .val (.ref rl), .val (.ref jd), .val (.ref ob), .val (.double gt), .second, .val (.double (4602678819172646912 : UInt64)), .second] [])
        refine hs.go (fun _ kk_ => XS.dload X30.here hx rfl (hb hby at_213) rfl  kk_) ?_
        show G T30 (mkF m 215 #[.val (.int nn), .val (.int a), .val (.int b), .val (.int cc), .val (.int dd), .val (.int ee), .val (.int (3 : Int32)), .val (.ref rl), .val (.ref jd), .val (.ref ob), .val (.double gt), .second, .val (.double (4602678819172646912 : UInt64)), .second] [(.double gt)])
        refine hs.go (fun _ kk_ => XS.dload X30.here hx rfl (hb hby at_215) rfl  kk_) ?_
        show G T30 (mkF m 217 #[.val (.int nn), .val (.int a), .val (.int b), .val (.int cc), .val (.int dd), .val (.int ee), .val (.int (3 : Int32)), .val (.ref rl), .val (.ref jd), .val (.ref ob), .val (.double gt), .second, .val (.double (4602678819172646912 : UInt64)), .second] [(.double (4602678819172646912 : UInt64)), (.double gt)])
        refine hs.go (fun _ kk_ => XS.dcmpS X30.here hx rfl (hb hby at_217) rfl (v := (0 : Int32)) (by rw [hgt]; simp only [rr, c146, c162, if_true, if_false]; decide +kernel) kk_) ?_
        show G T30 (mkF m 218 #[.val (.int nn), .val (.int a), .val (.int b), .val (.int cc), .val (.int dd), .val (.int ee), .val (.int (3 : Int32)), .val (.ref rl), .val (.ref jd), .val (.ref ob), .val (.double gt), .second, .val (.double (4602678819172646912 : UInt64)), .second] [(.int (0 : Int32))])
        refine hs.go (fun _ kk_ => XS.ifNo X30.here hx rfl (hb hby at_218) rfl ((if0 _ _).trans (teq (rfl : (0 : Int32) = (0 : Int32))).2) kk_) ?_
        show G T30 (mkF m 221 #[.val (.int nn), .val (.int a), .val (.int b), .val (.int cc), .val (.int dd), .val (.int ee), .val (.int (3 : Int32)), .val (.ref rl), .val (.ref jd), .val (.ref ob), .val (.double gt), .second, .val (.double (4602678819172646912 : UInt64)), .second] [])
        refine hs.go (fun _ kk_ => XS.iconst X30.here hx rfl (hb hby at_221) kk_) ?_
        show G T30 (mkF m 222 #[.val (.int nn), .val (.int a), .val (.int b), .val (.int cc), .val (.int dd), .val (.int ee), .val (.int (3 : Int32)), .val (.ref rl), .val (.ref jd), .val (.ref ob), .val (.double gt), .second, .val (.double (4602678819172646912 : UInt64)), .second] [(.int (1 : Int32))])
        refine hs.go (fun _ kk_ => XS.goto X30.here hx rfl (pc0 := 222) (pc' := 226) rfl (hb hby at_222) (by decide) (by decide) kk_) ?_
        show G T30 (mkF m 226 #[.val (.int nn), .val (.int a), .val (.int b), .val (.int cc), .val (.int dd), .val (.int ee), .val (.int (3 : Int32)), .val (.ref rl), .val (.ref jd), .val (.ref ob), .val (.double gt), .second, .val (.double (4602678819172646912 : UInt64)), .second] [(.int (1 : Int32))])
        exact rRetN fin X30 hx (by decide) (by decide) hret (by simp) (hb hby at_226) (z' := (1 : Int32)) (by decide) rfl
      · refine hs.go (fun _ kk_ => XS.ifYes X30.here hx rfl (pc0 := 162) (pc' := 173) rfl (hb hby at_162) rfl ((if0 _ _).trans (flt c162).2.2.2) (by decide) (by decide) kk_) ?_
        show G T30 (mkF m 173 #[.val (.int nn), .val (.int a), .val (.int b), .val (.int cc), .val (.int dd), .val (.int ee), .val (.int (3 : Int32)), .val (.ref rl), .val (.ref jd), .val (.ref ob), .val (.double gt), .second, .unset, .unset] [])
        refine hs.go (fun _ kk_ => XS.iload X30.here hx rfl (hb hby at_173) rfl  kk_) ?_
        show G T30 (mkF m 175 #[.val (.int nn), .val (.int a), .val (.int b), .val (.int cc), .val (.int dd), .val (.int ee), .val (.int (3 : Int32)), .val (.ref rl), .val (.ref jd), .val (.ref ob), .val (.double gt), .second, .unset, .unset] [(.int (3 : Int32))])
        refine hs.go (fun _ kk_ => XS.iconst X30.here hx rfl (hb hby at_175) kk_) ?_
        show G T30 (mkF m 176 #[.val (.int nn), .val (.int a), .val (.int b), .val (.int cc), .val (.int dd), .val (.int ee), .val (.int (3 : Int32)), .val (.ref rl), .val (.ref jd), .val (.ref ob), .val (.double gt), .second, .unset, .unset] [(.int (3 : Int32)), (.int (3 : Int32))])
        refine hs.go (fun _ kk_ => XS.icmpNo X30.here hx rfl (hb hby at_176) rfl (flt ((by decide) : ¬ ((3 : Int32) < (3 : Int32)))).1 kk_) ?_
        show G T30 (mkF m 179 #[.val (.int nn), .val (.int a), .val (.int b), .val (.int cc), .val (.int dd), .val (.int ee), .val (.int (3 : Int32)), .val (.ref rl), .val (.ref jd), .val (.ref ob), .val (.double gt), .second, .unset, .unset] [])
        refine hs.go (fun _ kk_ => XS.iloadN X30.here hx rfl (hb hby at_179) rfl  kk_) ?_
        show G T30 (mkF m 180 #[.val (.int nn), .val (.int a), .val (.int b), .val (.int cc), .val (.int dd), .val (.int ee), .val (.int (3 : Int32)), .val (.ref rl), .val (.ref jd), .val (.ref ob), .val (.double gt), .second, .unset, .unset] [(.int cc)])
        by_cases c180 : (0 : Int32) < cc
        · refine hs.go (fun _ kk_ => XS.ifNo X30.here hx rfl (hb hby at_180) rfl ((if0 _ _).trans (tlt c180).2.2.2) kk_) ?_
          show G T30 (mkF m 183 #[.val (.int nn), .val (.int a), .val (.int b), .val (.int cc), .val (.int dd), .val (.int ee), .val (.int (3 : Int32)), .val (.ref rl), .val (.ref jd), .val (.ref ob), .val (.double gt), .second, .unset, .unset] [])
          refine rLdcD hs X30 hx hZ hown (hw _ (List.mem_of_getElem? (i := 26) rfl)) rfl (hb hby at_183) ?_
          show G T30 (mkF m 186 #[.val (.int nn), .val (.int a), .val (.int b), .val (.int cc), .val (.int dd), .val (.int ee), .val (.int (3 : Int32)), .val (.ref rl), .val (.ref jd), .val (.ref ob), .val (.double gt), .second, .unset, .unset] [(.double (4599676419421066581 : UInt64))])
          refine hs.go (fun _ kk_ => XS.dstore X30.here hx rfl (hb hby at_186) rfl (l' := #[.val (.int nn), .val (.int a), .val (.int b), .val (.int cc), .val (.int dd), .val (.int ee), .val (.int (3 : Int32)), .val (.ref rl), .val (.ref jd), .val (.ref ob), .val (.double gt), .second, .val (.double (4599676419421066581 : UInt64)), .second]) rfl kk_) ?_
          show G T30 (mkF m 188 #[.val (.int nn), .val (.int a), .val (.int b), .val (.int cc), .val (.int dd), .val (.int ee), .val (.int (3 : Int32)), .val (.ref rl), .val (.ref jd), .val (.ref ob), .val (.double gt), .second, .val (.double (4599676419421066581 : UInt64)), .second] [])
          refine hs.go (fun _ kk_ => XS.goto X30.here hx rfl (pc0 := 188) (pc' := 213) rfl (hb hby at_188) (by decide) (by decide) kk_) ?_
          show G T30 (mkF m 213 #[.val (.int nn), .val (.int a), .val (.int b), .val (.int cc), .val (.int dd), .val (.int ee), .val (.int (3 : Int32)), .val (.ref rl), .val (.ref jd), .val (.ref ob), .val (.double gt), .second, .val (.double (4599676419421066581 : UInt64)), .second] [])
          refine hs.go (fun _ kk_ => XS.dload X30.here hx rfl (hb hby at_213) rfl  kk_) ?_
          show G T30 (mkF m 215 #[.val (.int nn), .val (.int a), .val (.int b), .val (.int cc), .val (.int dd), .val (.int ee), .val (.int (3 : Int32)), .val (.ref rl), .val (.ref jd), .val (.ref ob), .val (.double gt), .second, .val (.double (4599676419421066581 : UInt64)), .second] [(.double gt)])
          refine hs.go (fun _ kk_ => XS.dload X30.here hx rfl (hb hby at_215) rfl  kk_) ?_
          show G T30 (mkF m 217 #[.val (.int nn), .val (.int a), .val (.int b), .val (.int cc), .val (.int dd), .val (.int ee), .val (.int (3 : Int32)), .val (.ref rl), .val (.ref jd), .val (.ref ob), .val (.double gt), .second, .val (.double (4599676419421066581 : UInt64)), .second] [(.double (4599676419421066581 : UInt64)), (.double gt)])
          refine hs.go (fun _ kk_ => XS.dcmpS X30.here hx rfl (hb hby at_217) rfl (v := (0 : Int32)) (by rw [hgt]; simp only [rr, c146, c162, c180, if_true, if_false]; decide +kernel) kk_) ?_
          show G T30 (mkF m 218 #[.val (.int nn), .val (.int a), .val (.int b), .val (.int cc), .val (.int dd), .val (.int ee), .val (.int (3 : Int32)), .val (.ref rl), .val (.ref jd), .val (.ref ob), .val (.double gt), .second, .val (.double (4599676419421066581 : UInt64)), .second] [(.int (0 : Int32))])
          refine hs.go (fun _ kk_ => XS.ifNo X30.here hx rfl (hb hby at_218) rfl ((if0 _ _).trans (teq (rfl : (0 : Int32) = (0 : Int32))).2) kk_) ?_
          show G T30 (mkF m 221 #[.val (.int nn), .val (.int a), .val (.int b), .val (.int cc), .val (.int dd), .val (.int ee), .val (.int (3 : Int32)), .val (.ref rl), .val (.ref jd), .val (.ref ob), .val (.double gt), .second, .val (.double (4599676419421066581 : UInt64)), .second] [])
          refine hs.go (fun _ kk_ => XS.iconst X30.here hx rfl (hb hby at_221) kk_) ?_
          show G T30 (mkF m 222 #[.val (.int nn), .val (.int a), .val (.int b), .val (.int cc), .val (.int dd), .val (.int ee), .val (.int (3 : Int32)), .val (.ref rl), .val (.ref jd), .val (.ref ob), .val (.double gt), .second, .val (.double (4599676419421066581 : UInt64)), .second] [(.int (1 : Int32))])
          refine hs.go (fun _ kk_ => XS.goto X30.here hx rfl (pc0 := 222) (pc' := 226) rfl (hb hby at_222) (by decide) (by decide) kk_) ?_
          show G T30 (mkF m 226 #[.val (.int nn), .val (.int a), .val (.int b), .val (.int cc), .val (.int dd), .val (.int ee), .val (.int (3 : Int32)), .val (.ref rl), .val (.ref jd), .val (.ref ob), .val (.double gt), .second, .val (.double (4599676419421066581 : UInt64)), .second] [(.int (1 : Int32))])
          exact rRetN fin X30 hx (by decide) (by decide) hret (by simp) (hb hby at_226) (z' := (1 : Int32)) (by decide) rfl
        · refine hs.go (fun _ kk_ => XS.ifYes X30.here hx rfl (pc0 := 180) (pc' := 191) rfl (hb hby at_180) rfl ((if0 _ _).trans (flt c180).2.2.2) (by decide) (by decide) kk_) ?_
          show G T30 (mkF m 191 #[.val (.int nn), .val (.int a), .val (.int b), .val (.int cc), .val (.int dd), .val (.int ee), .val (.int (3 : Int32)), .val (.ref rl), .val (.ref jd), .val (.ref ob), .val (.double gt), .second, .unset, .unset] [])
          refine hs.go (fun _ kk_ => XS.iload X30.here hx rfl (hb hby at_191) rfl  kk_) ?_
          show G T30 (mkF m 193 #[.val (.int nn), .val (.int a), .val (.int b), .val (.int cc), .val (.int dd), .val (.int ee), .val (.int (3 : Int32)), .val (.ref rl), .val (.ref jd), .val (.ref ob), .val (.double gt), .second, .unset, .unset] [(.int (3 : Int32))])
          refine hs.go (fun _ kk_ => XS.iconst X30.here hx rfl (hb hby at_193) kk_) ?_
          show G T30 (mkF m 194 #[.val (.int nn), .val (.int a), .val (.int b), .val (.int cc), .val (.int dd), .val (.int ee), .val (.int (3 : Int32)), .val (.ref rl), .val (.ref jd), .val (.ref ob), .val (.double gt), .second, .unset, .unset] [(.int (4 : Int32)), (.int (3 : Int32))])
          refine hs.go (fun _ kk_ => XS.icmpYes X30.here hx rfl (pc0 := 194) (pc' := 210) rfl (hb hby at_194) rfl (tlt ((by decide) : (3 : Int32) < (4 : Int32))).1 (by decide) (by decide) kk_) ?_
          show G T30 (mkF m 210 #[.val (.int nn), .val (.int a), .val (.int b), .val (.int cc), .val (.int dd), .val (.int ee), .val (.int (3 : Int32)), .val (.ref rl), .val (.ref jd), .val (.ref ob), .val (.double gt), .second, .unset, .unset] [])
          refine hs.go (fun _ kk_ => XS.dconst0 X30.here hx rfl (hb hby at_210) (v := (0 : UInt64)) (by decide +kernel) kk_) ?_
          show G T30 (mkF m 211 #[.val (.int nn), .val (.int a), .val (.int b), .val (.int cc), .val (.int dd), .val (.int ee), .val (.int (3 : Int32)), .val (.ref rl), .val (.ref jd), .val (.ref ob), .val (.double gt), .second, .unset, .unset] [(.double (0 : UInt64))])
          refine hs.go (fun _ kk_ => XS.dstore X30.here hx rfl (hb hby at_211) rfl (l' := #[.val (.int nn), .val (.int a), .val (.int b), .val (.int cc), .val (.int dd), .val (.int ee), .val (.int (3 : Int32)), .val (.ref rl), .val (.ref jd), .val (.ref ob), .val (.double gt), .second, .val (.double (0 : UInt64)), .second]) rfl kk_) ?_
          show G T30 (mkF m 213 #[.val (.int nn), .val (.int a), .val (.int b), .val (.int cc), .val (.int dd), .val (.int ee), .val (.int (3 : Int32)), .val (.ref rl), .val (.ref jd), .val (.ref ob), .val (.double gt), .second, .val (.double (0 : UInt64)), .second] [])
          refine hs.go (fun _ kk_ => XS.dload X30.here hx rfl (hb hby at_213) rfl  kk_) ?_
          show G T30 (mkF m 215 #[.val (.int nn), .val (.int a), .val (.int b), .val (.int cc), .val (.int dd), .val (.int ee), .val (.int (3 : Int32)), .val (.ref rl), .val (.ref jd), .val (.ref ob), .val (.double gt), .second, .val (.double (0 : UInt64)), .second] [(.double gt)])
          refine hs.go (fun _ kk_ => XS.dload X30.here hx rfl (hb hby at_215) rfl  kk_) ?_
          show G T30 (mkF m 217 #[.val (.int nn), .val (.int a), .val (.int b), .val (.int cc), .val (.int dd), .val (.int ee), .val (.int (3 : Int32)), .val (.ref rl), .val (.ref jd), .val (.ref ob), .val (.double gt), .second, .val (.double (0 : UInt64)), .second] [(.double (0 : UInt64)), (.double gt)])
          refine hs.go (fun _ kk_ => XS.dcmpS X30.here hx rfl (hb hby at_217) rfl (v := (0 : Int32)) (by rw [hgt]; simp only [rr, c146, c162, c180, if_true, if_false]; decide +kernel) kk_) ?_
          show G T30 (mkF m 218 #[.val (.int nn), .val (.int a), .val (.int b), .val (.int cc), .val (.int dd), .val (.int ee), .val (.int (3 : Int32)), .val (.ref rl), .val (.ref jd), .val (.ref ob), .val (.double gt), .second, .val (.double (0 : UInt64)), .second] [(.int (0 : Int32))])
          refine hs.go (fun _ kk_ => XS.ifNo X30.here hx rfl (hb hby at_218) rfl ((if0 _ _).trans (teq (rfl : (0 : Int32) = (0 : Int32))).2) kk_) ?_
          show G T30 (mkF m 221 #[.val (.int nn), .val (.int a), .val (.int b), .val (.int cc), .val (.int dd), .val (.int ee), .val (.int (3 : Int32)), .val (.ref rl), .val (.ref jd), .val (.ref ob), .val (.double gt), .second, .val (.double (0 : UInt64)), .second] [])
          refine hs.go (fun _ kk_ => XS.iconst X30.here hx rfl (hb hby at_221) kk_) ?_
          show G T30 (mkF m 222 #[.val (.int nn), .val (.int a), .val (.int b), .val (.int cc), .val (.int dd), .val (.int ee), .val (.int (3 : Int32)), .val (.ref rl), .val (.ref jd), .val (.ref ob), .val (.double gt), .second, .val (.double (0 : UInt64)), .second] [(.int (1 : Int32))])
          refine hs.go (fun _ kk_ => XS.goto X30.here hx rfl (pc0 := 222) (pc' := 226) rfl (hb hby at_222) (by decide) (by decide) kk_) ?_
          show G T30 (mkF m 226 #[.val (.int nn), .val (.int a), .val (.int b), .val (.int cc), .val (.int dd), .val (.int ee), .val (.int (3 : Int32)), .val (.ref rl), .val (.ref jd), .val (.ref ob), .val (.double gt), .second, .val (.double (0 : UInt64)), .second] [(.int (1 : Int32))])
          exact rRetN fin X30 hx (by decide) (by decide) hret (by simp) (hb hby at_226) (z' := (1 : Int32)) (by decide) rfl
  · show G s₁ (mkF m 8 #[.val (.int nn), .val (.int a), .val (.int b), .val (.int cc), .val (.int dd), .val (.int ee), .val (.int (4 : Int32)), .unset, .unset, .unset, .unset, .unset, .unset, .unset] [])
    refine hs.go (fun _ kk_ => XS.iload X0.here hx rfl (hb hby at_8) rfl  kk_) ?_
    show G s₁ (mkF m 10 #[.val (.int nn), .val (.int a), .val (.int b), .val (.int cc), .val (.int dd), .val (.int ee), .val (.int (4 : Int32)), .unset, .unset, .unset, .unset, .unset, .unset, .unset] [(.int (4 : Int32))])
    refine hs.go (fun _ kk_ => XS.ifYes X0.here hx rfl (pc0 := 10) (pc' := 21) rfl (hb hby at_10) rfl ((if0 _ _).trans (feq ((by decide) : ¬ ((4 : Int32) = (0 : Int32)))).2) (by decide) (by decide) kk_) ?_
    show G s₁ (mkF m 21 #[.val (.int nn), .val (.int a), .val (.int b), .val (.int cc), .val (.int dd), .val (.int ee), .val (.int (4 : Int32)), .unset, .unset, .unset, .unset, .unset, .unset, .unset] [])
    refine hs.go (fun _ kk_ => XS.iload X0.here hx rfl (hb hby at_21) rfl  kk_) ?_
    show G s₁ (mkF m 23 #[.val (.int nn), .val (.int a), .val (.int b), .val (.int cc), .val (.int dd), .val (.int ee), .val (.int (4 : Int32)), .unset, .unset, .unset, .unset, .unset, .unset, .unset] [(.int (4 : Int32))])
    refine hs.go (fun _ kk_ => XS.iconst X0.here hx rfl (hb hby at_23) kk_) ?_
    show G s₁ (mkF m 24 #[.val (.int nn), .val (.int a), .val (.int b), .val (.int cc), .val (.int dd), .val (.int ee), .val (.int (4 : Int32)), .unset, .unset, .unset, .unset, .unset, .unset, .unset] [(.int (1 : Int32)), (.int (4 : Int32))])
    refine hs.go (fun _ kk_ => XS.icmpYes X0.here hx rfl (pc0 := 24) (pc' := 39) rfl (hb hby at_24) rfl (feq ((by decide) : ¬ ((4 : Int32) = (1 : Int32)))).2 (by decide) (by decide) kk_) ?_
    show G s₁ (mkF m 39 #[.val (.int nn), .val (.int a), .val (.int b), .val (.int cc), .val (.int dd), .val (.int ee), .val (.int (4 : Int32)), .unset, .unset, .unset, .unset, .unset, .unset, .unset] [])
    refine hs.go (fun _ kk_ => XS.iload X0.here hx rfl (hb hby at_39) rfl  kk_) ?_
    show G s₁ (mkF m 41 #[.val (.int nn), .val (.int a), .val (.int b), .val (.int cc), .val (.int dd), .val (.int ee), .val (.int (4 : Int32)), .unset, .unset, .unset, .unset, .unset, .unset, .unset] [(.int (4 : Int32))])
    refine hs.go (fun _ kk_ => XS.iconst X0.here hx rfl (hb hby at_41) kk_) ?_
    show G s₁ (mkF m 42 #[.val (.int nn), .val (.int a), .val (.int b), .val (.int cc), .val (.int dd), .val (.int ee), .val (.int (4 : Int32)), .unset, .unset, .unset, .unset, .unset, .unset, .unset] [(.int (2 : Int32)), (.int (4 : Int32))])
    refine hs.go (fun _ kk_ => XS.icmpYes X0.here hx rfl (pc0 := 42) (pc' := 61) rfl (hb hby at_42) rfl (feq ((by decide) : ¬ ((4 : Int32) = (2 : Int32)))).2 (by decide) (by decide) kk_) ?_
    show G s₁ (mkF m 61 #[.val (.int nn), .val (.int a), .val (.int b), .val (.int cc), .val (.int dd), .val (.int ee), .val (.int (4 : Int32)), .unset, .unset, .unset, .unset, .unset, .unset, .unset] [])
    refine hs.go (fun _ kk_ => XS.iload X0.here hx rfl (hb hby at_61) rfl  kk_) ?_
    show G s₁ (mkF m 63 #[.val (.int nn), .val (.int a), .val (.int b), .val (.int cc), .val (.int dd), .val (.int ee), .val (.int (4 : Int32)), .unset, .unset, .unset, .unset, .unset, .unset, .unset] [(.int (4 : Int32))])
    refine hs.go (fun _ kk_ => XS.iconst X0.here hx rfl (hb hby at_63) kk_) ?_
    show G s₁ (mkF m 64 #[.val (.int nn), .val (.int a), .val (.int b), .val (.int cc), .val (.int dd), .val (.int ee), .val (.int (4 : Int32)), .unset, .unset, .unset, .unset, .unset, .unset, .unset] [(.int (3 : Int32)), (.int (4 : Int32))])
    refine hs.go (fun _ kk_ => XS.icmpYes X0.here hx rfl (pc0 := 64) (pc' := 87) rfl (hb hby at_64) rfl (feq ((by decide) : ¬ ((4 : Int32) = (3 : Int32)))).2 (by decide) (by decide) kk_) ?_
    show G s₁ (mkF m 87 #[.val (.int nn), .val (.int a), .val (.int b), .val (.int cc), .val (.int dd), .val (.int ee), .val (.int (4 : Int32)), .unset, .unset, .unset, .unset, .unset, .unset, .unset] [])
    refine hs.go (fun _ kk_ => XS.iconst X0.here hx rfl (hb hby at_87) kk_) ?_
    show G s₁ (mkF m 88 #[.val (.int nn), .val (.int a), .val (.int b), .val (.int cc), .val (.int dd), .val (.int ee), .val (.int (4 : Int32)), .unset, .unset, .unset, .unset, .unset, .unset, .unset] [(.int (4 : Int32))])
    refine rNewP hs X0 hx hZ (hw _ (List.mem_of_getElem? (i := 1) rfl)) rfl (hb hby at_88) rfl (by decide) 4 4 (by decide) (by decide) (by decide) (by decide) (fun T31 h31 k31 rl g31 X31 E31 V_rl => ?_)
    have V_rl : Arv Z h31 rl k31 .int (4 : Int32) [(.int (0 : Int32)), (.int (0 : Int32)), (.int (0 : Int32)), (.int (0 : Int32))] (.int (0 : Int32)) := V_rl
    have g_rl : n0 ≤ rl := by rw [g31]; exact Z0
    have Z0 := Nat.le_trans Z0 E31.1
    show G T31 (mkF m 90 #[.val (.int nn), .val (.int a), .val (.int b), .val (.int cc), .val (.int dd), .val (.int ee), .val (.int (4 : Int32)), .unset, .unset, .unset, .unset, .unset, .unset, .unset] [(.ref rl)])
    refine hs.go (fun _ kk_ => XS.dup X31.here hx rfl (hb hby at_90) rfl rfl kk_) ?_
    show G T31 (mkF m 91 #[.val (.int nn), .val (.int a), .val (.int b), .val (.int cc), .val (.int dd), .val (.int ee), .val (.int (4 : Int32)), .unset, .unset, .unset, .unset, .unset, .unset, .unset] [(.ref rl), (.ref rl)])
    refine hs.go (fun _ kk_ => XS.iconst X31.here hx rfl (hb hby at_91) kk_) ?_
    show G T31 (mkF m 92 #[.val (.int nn), .val (.int a), .val (.int b), .val (.int cc), .val (.int dd), .val (.int ee), .val (.int (4 : Int32)), .unset, .unset, .unset, .unset, .unset, .unset, .unset] [(.int (0 : Int32)), (.ref rl), (.ref rl)])
    refine hs.go (fun _ kk_ => XS.iloadN X31.here hx rfl (hb hby at_92) rfl  kk_) ?_
    show G T31 (mkF m 93 #[.val (.int nn), .val (.int a), .val (.int b), .val (.int cc), .val (.int dd), .val (.int ee), .val (.int (4 : Int32)), .unset, .unset, .unset, .unset, .unset, .unset, .unset] [(.int a), (.int (0 : Int32)), (.ref rl), (.ref rl)])
    refine rStI hs X31 hx hZ V_rl g_rl ⟨by decide, by decide⟩ 0 (by decide) (by simp) rfl rfl (hb hby at_93) (fun T32 h32 X32 W32 V_rl => ?_)
    have V_rl : Arv Z h32 rl k31 .int (4 : Int32) [(.int a), (.int (0 : Int32)), (.int (0 : Int32)), (.int (0 : Int32))] (.int (0 : Int32)) := V_rl
    have Z0 := Nat.le_trans Z0 (Keep.of_wr W32).1
    show G T32 (mkF m 94 #[.val (.int nn), .val (.int a), .val (.int b), .val (.int cc), .val (.int dd), .val (.int ee), .val (.int (4 : Int32)), .unset, .unset, .unset, .unset, .unset, .unset, .unset] [(.ref rl)])
    refine hs.go (fun _ kk_ => XS.dup X32.here hx rfl (hb hby at_94) rfl rfl kk_) ?_
    show G T32 (mkF m 95 #[.val (.int nn), .val (.int a), .val (.int b), .val (.int cc), .val (.int dd), .val (.int ee), .val (.int (4 : Int32)), .unset, .unset, .unset, .unset, .unset, .unset, .unset] [(.ref rl), (.ref rl)])
    refine hs.go (fun _ kk_ => XS.iconst X32.here hx rfl (hb hby at_95) kk_) ?_
    show G T32 (mkF m 96 #[.val (.int nn), .val (.int a), .val (.int b), .val (.int cc), .val (.int dd), .val (.int ee), .val (.int (4 : Int32)), .unset, .unset, .unset, .unset, .unset, .unset, .unset] [(.int (1 : Int32)), (.ref rl), (.ref rl)])
    refine hs.go (fun _ kk_ => XS.iloadN X32.here hx rfl (hb hby at_96) rfl  kk_) ?_
    show G T32 (mkF m 97 #[.val (.int nn), .val (.int a), .val (.int b), .val (.int cc), .val (.int dd), .val (.int ee), .val (.int (4 : Int32)), .unset, .unset, .unset, .unset, .unset, .unset, .unset] [(.int b), (.int (1 : Int32)), (.ref rl), (.ref rl)])
    refine rStI hs X32 hx hZ V_rl g_rl ⟨by decide, by decide⟩ 1 (by decide) (by simp) rfl rfl (hb hby at_97) (fun T33 h33 X33 W33 V_rl => ?_)
    have V_rl : Arv Z h33 rl k31 .int (4 : Int32) [(.int a), (.int b), (.int (0 : Int32)), (.int (0 : Int32))] (.int (0 : Int32)) := V_rl
    have Z0 := Nat.le_trans Z0 (Keep.of_wr W33).1
    show G T33 (mkF m 98 #[.val (.int nn), .val (.int a), .val (.int b), .val (.int cc), .val (.int dd), .val (.int ee), .val (.int (4 : Int32)), .unset, .unset, .unset, .unset, .unset, .unset, .unset] [(.ref rl)])
    refine hs.go (fun _ kk_ => XS.dup X33.here hx rfl (hb hby at_98) rfl rfl kk_) ?_
    show G T33 (mkF m 99 #[.val (.int nn), .val (.int a), .val (.int b), .val (.int cc), .val (.int dd), .val (.int ee), .val (.int (4 : Int32)), .unset, .unset, .unset, .unset, .unset, .unset, .unset] [(.ref rl), (.ref rl)])
    refine hs.go (fun _ kk_ => XS.iconst X33.here hx rfl (hb hby at_99) kk_) ?_
    show G T33 (mkF m 100 #[.val (.int nn), .val (.int a), .val (.int b), .val (.int cc), .val (.int dd), .val (.int ee), .val (.int (4 : Int32)), .unset, .unset, .unset, .unset, .unset, .unset, .unset] [(.int (2 : Int32)), (.ref rl), (.ref rl)])
    refine hs.go (fun _ kk_ => XS.iloadN X33.here hx rfl (hb hby at_100) rfl  kk_) ?_
    show G T33 (mkF m 101 #[.val (.int nn), .val (.int a), .val (.int b), .val (.int cc), .val (.int dd), .val (.int ee), .val (.int (4 : Int32)), .unset, .unset, .unset, .unset, .unset, .unset, .unset] [(.int cc), (.int (2 : Int32)), (.ref rl), (.ref rl)])
    refine rStI hs X33 hx hZ V_rl g_rl ⟨by decide, by decide⟩ 2 (by decide) (by simp) rfl rfl (hb hby at_101) (fun T34 h34 X34 W34 V_rl => ?_)
    have V_rl : Arv Z h34 rl k31 .int (4 : Int32) [(.int a), (.int b), (.int cc), (.int (0 : Int32))] (.int (0 : Int32)) := V_rl
    have Z0 := Nat.le_trans Z0 (Keep.of_wr W34).1
    show G T34 (mkF m 102 #[.val (.int nn), .val (.int a), .val (.int b), .val (.int cc), .val (.int dd), .val (.int ee), .val (.int (4 : Int32)), .unset, .unset, .unset, .unset, .unset, .unset, .unset] [(.ref rl)])
    refine hs.go (fun _ kk_ => XS.dup X34.here hx rfl (hb hby at_102) rfl rfl kk_) ?_
    show G T34 (mkF m 103 #[.val (.int nn), .val (.int a), .val (.int b), .val (.int cc), .val (.int dd), .val (.int ee), .val (.int (4 : Int32)), .unset, .unset, .unset, .unset, .unset, .unset, .unset] [(.ref rl), (.ref rl)])
    refine hs.go (fun _ kk_ => XS.iconst X34.here hx rfl (hb hby at_103) kk_) ?_
    show G T34 (mkF m 104 #[.val (.int nn), .val (.int a), .val (.int b), .val (.int cc), .val (.int dd), .val (.int ee), .val (.int (4 : Int32)), .unset, .unset, .unset, .unset, .unset, .unset, .unset] [(.int (3 : Int32)), (.ref rl), (.ref rl)])
    refine hs.go (fun _ kk_ => XS.iload X34.here hx rfl (hb hby at_104) rfl  kk_) ?_
    show G T34 (mkF m 106 #[.val (.int nn), .val (.int a), .val (.int b), .val (.int cc), .val (.int dd), .val (.int ee), .val (.int (4 : Int32)), .unset, .unset, .unset, .unset, .unset, .unset, .unset] [(.int dd), (.int (3 : Int32)), (.ref rl), (.ref rl)])
    refine rStI hs X34 hx hZ V_rl g_rl ⟨by decide, by decide⟩ 3 (by decide) (by simp) rfl rfl (hb hby at_106) (fun T35 h35 X35 W35 V_rl => ?_)
    have V_rl : Arv Z h35 rl k31 .int (4 : Int32) [(.int a), (.int b), (.int cc), (.int dd)] (.int (0 : Int32)) := V_rl
    have Z0 := Nat.le_trans Z0 (Keep.of_wr W35).1
    show G T35 (mkF m 107 #[.val (.int nn), .val (.int a), .val (.int b), .val (.int cc), .val (.int dd), .val (.int ee), .val (.int (4 : Int32)), .unset, .unset, .unset, .unset, .unset, .unset, .unset] [(.ref rl)])
    refine hs.go (fun _ kk_ => XS.astore X35.here hx rfl (hb hby at_107) rfl rfl (l' := #[.val (.int nn), .val (.int a), .val (.int b), .val (.int cc), .val (.int dd), .val (.int ee), .val (.int (4 : Int32)), .val (.ref rl), .unset, .unset, .unset, .unset, .unset, .unset]) rfl kk_) ?_
    show G T35 (mkF m 109 #[.val (.int nn), .val (.int a), .val (.int b), .val (.int cc), .val (.int dd), .val (.int ee), .val (.int (4 : Int32)), .val (.ref rl), .unset, .unset, .unset, .unset, .unset, .unset] [])
    refine hs.go (fun _ kk_ => XS.iconst X35.here hx rfl (hb hby at_109) kk_) ?_
    show G T35 (mkF m 110 #[.val (.int nn), .val (.int a), .val (.int b), .val (.int cc), .val (.int dd), .val (.int ee), .val (.int (4 : Int32)), .val (.ref rl), .unset, .unset, .unset, .unset, .unset, .unset] [(.int (1 : Int32))])
    refine rNewP hs X35 hx hZ (hw _ (List.mem_of_getElem? (i := 1) rfl)) rfl (hb hby at_110) rfl (by decide) 1 1 (by decide) (by decide) (by decide) (by decide) (fun T36 h36 k36 jd g36 X36 E36 V_jd => ?_)
    have V_jd : Arv Z h36 jd k36 .int (1 : Int32) [(.int (0 : Int32))] (.int (0 : Int32)) := V_jd
    have g_jd : n0 ≤ jd := by rw [g36]; exact Z0
    have Z0 := Nat.le_trans Z0 E36.1
    have ne_rl_jd : rl ≠ jd := Nat.ne_of_lt (Nat.lt_of_lt_of_le V_rl.lt (Nat.le_of_eq g36.symm))
    have V_rl := V_rl.ext E36
    show G T36 (mkF m 112 #[.val (.int nn), .val (.int a), .val (.int b), .val (.int cc), .val (.int dd), .val (.int ee), .val (.int (4 : Int32)), .val (.ref rl), .unset, .unset, .unset, .unset, .unset, .unset] [(.ref jd)])
    refine hs.go (fun _ kk_ => XS.dup X36.here hx rfl (hb hby at_112) rfl rfl kk_) ?_
    show G T36 (mkF m 113 #[.val (.int nn), .val (.int a), .val (.int b), .val (.int cc), .val (.int dd), .val (.int ee), .val (.int (4 : Int32)), .val (.ref rl), .unset, .unset, .unset, .unset, .unset, .unset] [(.ref jd), (.ref jd)])
    refine hs.go (fun _ kk_ => XS.iconst X36.here hx rfl (hb hby at_113) kk_) ?_
    show G T36 (mkF m 114 #[.val (.int nn), .val (.int a), .val (.int b), .val (.int cc), .val (.int dd), .val (.int ee), .val (.int (4 : Int32)), .val (.ref rl), .unset, .unset, .unset, .unset, .unset, .unset] [(.int (0 : Int32)), (.ref jd), (.ref jd)])
    refine hs.go (fun _ kk_ => XS.iload X36.here hx rfl (hb hby at_114) rfl  kk_) ?_
    show G T36 (mkF m 116 #[.val (.int nn), .val (.int a), .val (.int b), .val (.int cc), .val (.int dd), .val (.int ee), .val (.int (4 : Int32)), .val (.ref rl), .unset, .unset, .unset, .unset, .unset, .unset] [(.int ee), (.int (0 : Int32)), (.ref jd), (.ref jd)])
    refine rStI hs X36 hx hZ V_jd g_jd ⟨by decide, by decide⟩ 0 (by decide) (by simp) rfl rfl (hb hby at_116) (fun T37 h37 X37 W37 V_jd => ?_)
    have V_jd : Arv Z h37 jd k36 .int (1 : Int32) [(.int ee)] (.int (0 : Int32)) := V_jd
    have V_rl := V_rl.other W37 ne_rl_jd
    have Z0 := Nat.le_trans Z0 (Keep.of_wr W37).1
    show G T37 (mkF m 117 #[.val (.int nn), .val (.int a), .val (.int b), .val (.int cc), .val (.int dd), .val (.int ee), .val (.int (4 : Int32)), .val (.ref rl), .unset, .unset, .unset, .unset, .unset, .unset] [(.ref jd)])
    refine hs.go (fun _ kk_ => XS.astore X37.here hx rfl (hb hby at_117) rfl rfl (l' := #[.val (.int nn), .val (.int a), .val (.int b), .val (.int cc), .val (.int dd), .val (.int ee), .val (.int (4 : Int32)), .val (.ref rl), .val (.ref jd), .unset, .unset, .unset, .unset, .unset]) rfl kk_) ?_
    show G T37 (mkF m 119 #[.val (.int nn), .val (.int a), .val (.int b), .val (.int cc), .val (.int dd), .val (.int ee), .val (.int (4 : Int32)), .val (.ref rl), .val (.ref jd), .unset, .unset, .unset, .unset, .unset] [])
    refine rNewO hs X37 hx hZ hown (hw _ (List.mem_of_getElem? (i := 2) rfl)) (hw _ (List.mem_of_getElem? (i := 3) rfl)) (hw _ (List.mem_of_getElem? (i := 4) rfl)) rfl (hb hby at_119) (by decide) (by decide) (fun T38 h38 ob g38 X38 E38 E_ob D38 => ?_)
    have g_ob : n0 ≤ ob := by rw [g38]; exact Z0
    have Z0 := Nat.le_trans Z0 E38.1
    have ne_rl_ob : rl ≠ ob := Nat.ne_of_lt (Nat.lt_of_lt_of_le V_rl.lt (Nat.le_of_eq g38.symm))
    have ne_jd_ob : jd ≠ ob := Nat.ne_of_lt (Nat.lt_of_lt_of_le V_jd.lt (Nat.le_of_eq g38.symm))
    have V_rl := V_rl.ext E38
    have V_jd := V_jd.ext E38
    have F_relevance_ob : Fld Z h38 ob "com/example/ranked_odds/rankedodds/eval/JudgedRanking" "relevance" "[I" .null := D38 (Or.inr (hw _ (List.mem_of_getElem? (i := 17) rfl))) (ty := (.array .int)) (by decide)
    have F_judged_ob : Fld Z h38 ob "com/example/ranked_odds/rankedodds/eval/JudgedRanking" "judged" "[I" .null := D38 (Or.inr (hw _ (List.mem_of_getElem? (i := 19) rfl))) (ty := (.array .int)) (by decide)
    show G T38 (mkF m 122 #[.val (.int nn), .val (.int a), .val (.int b), .val (.int cc), .val (.int dd), .val (.int ee), .val (.int (4 : Int32)), .val (.ref rl), .val (.ref jd), .unset, .unset, .unset, .unset, .unset] [(.ref ob)])
    refine hs.go (fun _ kk_ => XS.dup X38.here hx rfl (hb hby at_122) rfl rfl kk_) ?_
    show G T38 (mkF m 123 #[.val (.int nn), .val (.int a), .val (.int b), .val (.int cc), .val (.int dd), .val (.int ee), .val (.int (4 : Int32)), .val (.ref rl), .val (.ref jd), .unset, .unset, .unset, .unset, .unset] [(.ref ob), (.ref ob)])
    refine hs.go (fun _ kk_ => XS.aload X38.here hx rfl (hb hby at_123) rfl rfl kk_) ?_
    show G T38 (mkF m 125 #[.val (.int nn), .val (.int a), .val (.int b), .val (.int cc), .val (.int dd), .val (.int ee), .val (.int (4 : Int32)), .val (.ref rl), .val (.ref jd), .unset, .unset, .unset, .unset, .unset] [(.ref rl), (.ref ob), (.ref ob)])
    refine hs.go (fun _ kk_ => XS.aload X38.here hx rfl (hb hby at_125) rfl rfl kk_) ?_
    show G T38 (mkF m 127 #[.val (.int nn), .val (.int a), .val (.int b), .val (.int cc), .val (.int dd), .val (.int ee), .val (.int (4 : Int32)), .val (.ref rl), .val (.ref jd), .unset, .unset, .unset, .unset, .unset] [(.ref jd), (.ref rl), (.ref ob), (.ref ob)])
    refine rCallI hs X38 hx hZ (as' := [(.ref rl), (.ref jd)]) (rm1 l Z a0 hw [] ob rl jd h38 n0 Z0 E_ob g_ob F_relevance_ob F_judged_ob) rfl hown (hw _ (List.mem_of_getElem? (i := 5) rfl)) (hw _ (List.mem_of_getElem? (i := 6) rfl)) (hw _ (List.mem_of_getElem? (i := 4) rfl)) (hw _ (List.mem_of_getElem? (i := 7) rfl)) hy_1 rfl (by rw [hml]; rfl) [(.ref ob)] (lenOf pd_1 rfl) rfl 1 (by show 2 * 0 + _ ≤ _; exact Nat.le_of_eq rfl) (hb hby at_127) (by decide) (by decide) (by decide) (by decide) (fun r39 T39 h39 X39 q39 => ?_)
    obtain ⟨rfl, Kc39, E_ob, F_relevance_ob⟩ := q39
    have Z0 := Nat.le_trans Z0 Kc39.1
    have V_rl := V_rl.keep Kc39 (ninS ne_rl_ob nin0)
    have V_jd := V_jd.keep Kc39 (ninS ne_jd_ob nin0)
    show G T39 (mkF m 130 #[.val (.int nn), .val (.int a), .val (.int b), .val (.int cc), .val (.int dd), .val (.int ee), .val (.int (4 : Int32)), .val (.ref rl), .val (.ref jd), .unset, .unset, .unset, .unset, .unset] [(.ref ob)])
    refine hs.go (fun _ kk_ => XS.astore X39.here hx rfl (hb hby at_130) rfl rfl (l' := #[.val (.int nn), .val (.int a), .val (.int b), .val (.int cc), .val (.int dd), .val (.int ee), .val (.int (4 : Int32)), .val (.ref rl), .val (.ref jd), .val (.ref ob), .unset, .unset, .unset, .unset]) rfl kk_) ?_
    show G T39 (mkF m 132 #[.val (.int nn), .val (.int a), .val (.int b), .val (.int cc), .val (.int dd), .val (.int ee), .val (.int (4 : Int32)), .val (.ref rl), .val (.ref jd), .val (.ref ob), .unset, .unset, .unset, .unset] [])
    refine hs.go (fun _ kk_ => XS.aload X39.here hx rfl (hb hby at_132) rfl rfl kk_) ?_
    show G T39 (mkF m 134 #[.val (.int nn), .val (.int a), .val (.int b), .val (.int cc), .val (.int dd), .val (.int ee), .val (.int (4 : Int32)), .val (.ref rl), .val (.ref jd), .val (.ref ob), .unset, .unset, .unset, .unset] [(.ref ob)])
    refine rCallV hs X39 hx hZ (as' := []) (rm4 l Z a0 hw [] ob rl (4 : Int32) [a, b, cc, dd] k31 h39 n0 Z0 F_relevance_ob V_rl rfl (by simp)) E_ob hown (hw _ (List.mem_of_getElem? (i := 20) rfl)) (hw _ (List.mem_of_getElem? (i := 21) rfl)) (hw _ (List.mem_of_getElem? (i := 23) rfl)) (hw _ (List.mem_of_getElem? (i := 22) rfl)) (hw _ (List.mem_of_getElem? (i := 4) rfl)) (hw _ (List.mem_of_getElem? (i := 24) rfl)) hy_4 rfl (by rw [hml]; rfl) [] (lenOf pd_2 rfl) rfl 0 (by show 2 * 0 + _ ≤ _; exact Nat.le_of_eq rfl) (hb hby at_134) (by decide) (by decide) (by decide) (by decide) (fun r40 T40 h40 X40 q40 => ?_)
    obtain ⟨rfl, qh40⟩ := q40
    rw [qh40] at X40
    show G T40 (mkF m 137 #[.val (.int nn), .val (.int a), .val (.int b), .val (.int cc), .val (.int dd), .val (.int ee), .val (.int (4 : Int32)), .val (.ref rl), .val (.ref jd), .val (.ref ob), .unset, .unset, .unset, .unset] [(.double (rr [a, b, cc, dd] 0))])
    refine nameIt (P := fun zz_ : UInt64 => G T40 (mkF m 137 #[.val (.int nn), .val (.int a), .val (.int b), .val (.int cc), .val (.int dd), .val (.int ee), .val (.int (4 : Int32)), .val (.ref rl), .val (.ref jd), .val (.ref ob), .unset, .unset, .unset, .unset] [(.double zz_)])) (rr [a, b, cc, dd] 0) (fun gt hgt => ?_)
    show G T40 (mkF m 137 #[.val (.int nn), .val (.int a), .val (.int b), .val (.int cc), .val (.int dd), .val (.int ee), .val (.int (4 : Int32)), .val (.ref rl), .val (.ref jd), .val (.ref ob), .unset, .unset, .unset, .unset] [(.double gt)])
    refine hs.go (fun _ kk_ => XS.dstore X40.here hx rfl (hb hby at_137) rfl (l' := #[.val (.int nn), .val (.int a), .val (.int b), .val (.int cc), .val (.int dd), .val (.int ee), .val (.int (4 : Int32)), .val (.ref rl), .val (.ref jd), .val (.ref ob), .val (.double gt), .second, .unset, .unset]) rfl kk_) ?_
    show G T40 (mkF m 139 #[.val (.int nn), .val (.int a), .val (.int b), .val (.int cc), .val (.int dd), .val (.int ee), .val (.int (4 : Int32)), .val (.ref rl), .val (.ref jd), .val (.ref ob), .val (.double gt), .second, .unset, .unset] [])
    refine hs.go (fun _ kk_ => XS.iload X40.here hx rfl (hb hby at_139) rfl  kk_) ?_
    show G T40 (mkF m 141 #[.val (.int nn), .val (.int a), .val (.int b), .val (.int cc), .val (.int dd), .val (.int ee), .val (.int (4 : Int32)), .val (.ref rl), .val (.ref jd), .val (.ref ob), .val (.double gt), .second, .unset, .unset] [(.int (4 : Int32))])
    refine hs.go (fun _ kk_ => XS.iconst X40.here hx rfl (hb hby at_141) kk_) ?_
    show G T40 (mkF m 142 #[.val (.int nn), .val (.int a), .val (.int b), .val (.int cc), .val (.int dd), .val (.int ee), .val (.int (4 : Int32)), .val (.ref rl), .val (.ref jd), .val (.ref ob), .val (.double gt), .second, .unset, .unset] [(.int (1 : Int32)), (.int (4 : Int32))])
    refine hs.go (fun _ kk_ => XS.icmpNo X40.here hx rfl (hb hby at_142) rfl (flt ((by decide) : ¬ ((4 : Int32) < (1 : Int32)))).1 kk_) ?_
    show G T40 (mkF m 145 #[.val (.int nn), .val (.int a), .val (.int b), .val (.int cc), .val (.int dd), .val (.int ee), .val (.int (4 : Int32)), .val (.ref rl), .val (.ref jd), .val (.ref ob), .val (.double gt), .second, .unset, .unset] [])
    refine hs.go (fun _ kk_ => XS.iloadN X40.here hx rfl (hb hby at_145) rfl  kk_) ?_
    show G T40 (mkF m 146 #[.val (.int nn), .val (.int a), .val (.int b), .val (.int cc), .val (.int dd), .val (.int ee), .val (.int (4 : Int32)), .val (.ref rl), .val (.ref jd), .val (.ref ob), .val (.double gt), .second, .unset, .unset] [(.int a)])
    by_cases c146 : (0 : Int32) < a
    · refine hs.go (fun _ kk_ => XS.ifNo X40.here hx rfl (hb hby at_146) rfl ((if0 _ _).trans (tlt c146).2.2.2) kk_) ?_
      show G T40 (mkF m 149 #[.val (.int nn), .val (.int a), .val (.int b), .val (.int cc), .val (.int dd), .val (.int ee), .val (.int (4 : Int32)), .val (.ref rl), .val (.ref jd), .val (.ref ob), .val (.double gt), .second, .unset, .unset] [])
      refine hs.go (fun _ kk_ => XS.dconst1 X40.here hx rfl (hb hby at_149) (v := (4607182418800017408 : UInt64)) (by decide +kernel) kk_) ?_
      show G T40 (mkF m 150 #[.val (.int nn), .val (.int a), .val (.int b), .val (.int cc), .val (.int dd), .val (.int ee), .val (.int (4 : Int32)), .val (.ref rl), .val (.ref jd), .val (.ref ob), .val (.double gt), .second, .unset, .unset] [(.double (4607182418800017408 : UInt64))])
      refine hs.go (fun _ kk_ => XS.dstore X40.here hx rfl (hb hby at_150) rfl (l' := #[.val (.int nn), .val (.int a), .val (.int b), .val (.int cc), .val (.int dd), .val (.int ee), .val (.int (4 : Int32)), .val (.ref rl), .val (.ref jd), .val (.ref ob), .val (.double gt), .second, .val (.double (4607182418800017408 : UInt64)), .second]) rfl kk_) ?_
      show G T40 (mkF m 152 #[.val (.int nn), .val (.int a), .val (.int b), .val (.int cc), .val (.int dd), .val (.int ee), .val (.int (4 : Int32)), .val (.ref rl), .val (.ref jd), .val (.ref ob), .val (.double gt), .second, .val (.double (4607182418800017408 : UInt64)), .second] [])
      refine hs.go (fun _ kk_ => XS.goto X40.here hx rfl (pc0 := 152) (pc' := 213) rfl (hb hby at_152) (by decide) (by decide) kk_) ?_
      show G T40 (mkF m 213 #[.val (.int nn), .val (.int a), .val (.int b), .val (.int cc), .val (.int dd), .val (.int ee), .val (.int (4 : Int32)), .val (.ref rl), .val (.ref jd), .val (.ref ob), .val (.double gt), .second, .val (.double (4607182418800017408 : UInt64)), .second] [])
      refine hs.go (fun _ kk_ => XS.dload X40.here hx rfl (hb hby at_213) rfl  kk_) ?_
      show G T40 (mkF m 215 #[.val (.int nn), .val (.int a), .val (.int b), .val (.int cc), .val (.int dd), .val (.int ee), .val (.int (4 : Int32)), .val (.ref rl), .val (.ref jd), .val (.ref ob), .val (.double gt), .second, .val (.double (4607182418800017408 : UInt64)), .second] [(.double gt)])
      refine hs.go (fun _ kk_ => XS.dload X40.here hx rfl (hb hby at_215) rfl  kk_) ?_
      show G T40 (mkF m 217 #[.val (.int nn), .val (.int a), .val (.int b), .val (.int cc), .val (.int dd), .val (.int ee), .val (.int (4 : Int32)), .val (.ref rl), .val (.ref jd), .val (.ref ob), .val (.double gt), .second, .val (.double (4607182418800017408 : UInt64)), .second] [(.double (4607182418800017408 : UInt64)), (.double gt)])
      refine hs.go (fun _ kk_ => XS.dcmpS X40.here hx rfl (hb hby at_217) rfl (v := (0 : Int32)) (by rw [hgt]; simp only [rr, c146, if_true, if_false]; decide +kernel) kk_) ?_
      show G T40 (mkF m 218 #[.val (.int nn), .val (.int a), .val (.int b), .val (.int cc), .val (.int dd), .val (.int ee), .val (.int (4 : Int32)), .val (.ref rl), .val (.ref jd), .val (.ref ob), .val (.double gt), .second, .val (.double (4607182418800017408 : UInt64)), .second] [(.int (0 : Int32))])
      refine hs.go (fun _ kk_ => XS.ifNo X40.here hx rfl (hb hby at_218) rfl ((if0 _ _).trans (teq (rfl : (0 : Int32) = (0 : Int32))).2) kk_) ?_
      show G T40 (mkF m 221 #[.val (.int nn), .val (.int a), .val (.int b), .val (.int cc), .val (.int dd), .val (.int ee), .val (.int (4 : Int32)), .val (.ref rl), .val (.ref jd), .val (.ref ob), .val (.double gt), .second, .val (.double (4607182418800017408 : UInt64)), .second] [])
      refine hs.go (fun _ kk_ => XS.iconst X40.here hx rfl (hb hby at_221) kk_) ?_
      show G T40 (mkF m 222 #[.val (.int nn), .val (.int a), .val (.int b), .val (.int cc), .val (.int dd), .val (.int ee), .val (.int (4 : Int32)), .val (.ref rl), .val (.ref jd), .val (.ref ob), .val (.double gt), .second, .val (.double (4607182418800017408 : UInt64)), .second] [(.int (1 : Int32))])
      refine hs.go (fun _ kk_ => XS.goto X40.here hx rfl (pc0 := 222) (pc' := 226) rfl (hb hby at_222) (by decide) (by decide) kk_) ?_
      show G T40 (mkF m 226 #[.val (.int nn), .val (.int a), .val (.int b), .val (.int cc), .val (.int dd), .val (.int ee), .val (.int (4 : Int32)), .val (.ref rl), .val (.ref jd), .val (.ref ob), .val (.double gt), .second, .val (.double (4607182418800017408 : UInt64)), .second] [(.int (1 : Int32))])
      exact rRetN fin X40 hx (by decide) (by decide) hret (by simp) (hb hby at_226) (z' := (1 : Int32)) (by decide) rfl
    · refine hs.go (fun _ kk_ => XS.ifYes X40.here hx rfl (pc0 := 146) (pc' := 155) rfl (hb hby at_146) rfl ((if0 _ _).trans (flt c146).2.2.2) (by decide) (by decide) kk_) ?_
      show G T40 (mkF m 155 #[.val (.int nn), .val (.int a), .val (.int b), .val (.int cc), .val (.int dd), .val (.int ee), .val (.int (4 : Int32)), .val (.ref rl), .val (.ref jd), .val (.ref ob), .val (.double gt), .second, .unset, .unset] [])
      refine hs.go (fun _ kk_ => XS.iload X40.here hx rfl (hb hby at_155) rfl  kk_) ?_
      show G T40 (mkF m 157 #[.val (.int nn), .val (.int a), .val (.int b), .val (.int cc), .val (.int dd), .val (.int ee), .val (.int (4 : Int32)), .val (.ref rl), .val (.ref jd), .val (.ref ob), .val (.double gt), .second, .unset, .unset] [(.int (4 : Int32))])
      refine hs.go (fun _ kk_ => XS.iconst X40.here hx rfl (hb hby at_157) kk_) ?_
      show G T40 (mkF m 158 #[.val (.int nn), .val (.int a), .val (.int b), .val (.int cc), .val (.int dd), .val (.int ee), .val (.int (4 : Int32)), .val (.ref rl), .val (.ref jd), .val (.ref ob), .val (.double gt), .second, .unset, .unset] [(.int (2 : Int32)), (.int (4 : Int32))])
      refine hs.go (fun _ kk_ => XS.icmpNo X40.here hx rfl (hb hby at_158) rfl (flt ((by decide) : ¬ ((4 : Int32) < (2 : Int32)))).1 kk_) ?_
      show G T40 (mkF m 161 #[.val (.int nn), .val (.int a), .val (.int b), .val (.int cc), .val (.int dd), .val (.int ee), .val (.int (4 : Int32)), .val (.ref rl), .val (.ref jd), .val (.ref ob), .val (.double gt), .second, .unset, .unset] [])
      refine hs.go (fun _ kk_ => XS.iloadN X40.here hx rfl (hb hby at_161) rfl  kk_) ?_
      show G T40 (mkF m 162 #[.val (.int nn), .val (.int a), .val (.int b), .val (.int cc), .val (.int dd), .val (.int ee), .val (.int (4 : Int32)), .val (.ref rl), .val (.ref jd), .val (.ref ob), .val (.double gt), .second, .unset, .unset] [(.int b)])
      by_cases c162 : (0 : Int32) < b
      · refine hs.go (fun _ kk_ => XS.ifNo X40.here hx rfl (hb hby at_162) rfl ((if0 _ _).trans (tlt c162).2.2.2) kk_) ?_
        show G T40 (mkF m 165 #[.val (.int nn), .val (.int a), .val (.int b), .val (.int cc), .val (.int dd), .val (.int ee), .val (.int (4 : Int32)), .val (.ref rl), .val (.ref jd), .val (.ref ob), .val (.double gt), .second, .unset, .unset] [])
        refine rLdcD hs X40 hx hZ hown (hw _ (List.mem_of_getElem? (i := 25) rfl)) rfl (hb hby at_165) ?_
        show G T40 (mkF m 168 #[.val (.int nn), .val (.int a), .val (.int b), .val (.int cc), .val (.int dd), .val (.int ee), .val (.int (4 : Int32)), .val (.ref rl), .val (.ref jd), .val (.ref ob), .val (.double gt), .second, .unset, .unset] [(.double (4602678819172646912 : UInt64))])
        refine hs.go (fun _ kk_ => XS.dstore X40.here hx rfl (hb hby at_168) rfl (l' := #[.val (.int nn), .val (.int a), .val (.int b), .val (.int cc), .val (.int dd), .val (.int ee), .val (.int (4 : Int32)), .val (.ref rl), .val (.ref jd), .val (.ref ob), .val (.double gt), .second, .val (.double (4602678819172646912 : UInt64)), .second]) rfl kk_) ?_
        show G T40 (mkF m 170 #[.val (.int nn), .val (.int a), .val (.int b), .val (.int cc), .val (.int dd), .val (.int ee), .val (.int (4 : Int32)), .val (.ref rl), .val (.ref jd), .val (.ref ob), .val (.double gt), .second, .val (.double (4602678819172646912 : UInt64)), .second] [])
        refine hs.go (fun _ kk_ => XS.goto X40.here hx rfl (pc0 := 170) (pc' := 213) rfl (hb hby at_170) (by decide) (by decide) kk_) ?_
        show G T40 (mkF m 213 #[.val (.int nn), .val (.int a), .val (.int b), .val (.int cc), .val (.int dd), .val (.int ee), .val (.int (4 : Int32)), .val (.ref rl), .val (.ref jd), .val (.ref ob), .val (.double gt), .second, .val (.double (4602678819172646912 : UInt64)), .second] [])
        refine hs.go (fun _ kk_ => XS.dload X40.here hx rfl (hb hby at_213) rfl  kk_) ?_
        show G T40 (mkF m 215 #[.val (.int nn), .val (.int a), .val (.int b), .val (.int cc), .val (.int dd), .val (.int ee), .val (.int (4 : Int32)), .val (.ref rl), .val (.ref jd), .val (.ref ob), .val (.double gt), .second, .val (.double (4602678819172646912 : UInt64)), .second] [(.double gt)])
        refine hs.go (fun _ kk_ => XS.dload X40.here hx rfl (hb hby at_215) rfl  kk_) ?_
        show G T40 (mkF m 217 #[.val (.int nn), .val (.int a), .val (.int b), .val (.int cc), .val (.int dd), .val (.int ee), .val (.int (4 : Int32)), .val (.ref rl), .val (.ref jd), .val (.ref ob), .val (.double gt), .second, .val (.double (4602678819172646912 : UInt64)), .second] [(.double (4602678819172646912 : UInt64)), (.double gt)])
        refine hs.go (fun _ kk_ => XS.dcmpS X40.here hx rfl (hb hby at_217) rfl (v := (0 : Int32)) (by rw [hgt]; simp only [rr, c146, c162, if_true, if_false]; decide +kernel) kk_) ?_
        show G T40 (mkF m 218 #[.val (.int nn), .val (.int a), .val (.int b), .val (.int cc), .val (.int dd), .val (.int ee), .val (.int (4 : Int32)), .val (.ref rl), .val (.ref jd), .val (.ref ob), .val (.double gt), .second, .val (.double (4602678819172646912 : UInt64)), .second] [(.int (0 : Int32))])
        refine hs.go (fun _ kk_ => XS.ifNo X40.here hx rfl (hb hby at_218) rfl ((if0 _ _).trans (teq (rfl : (0 : Int32) = (0 : Int32))).2) kk_) ?_
        show G T40 (mkF m 221 #[.val (.int nn), .val (.int a), .val (.int b), .val (.int cc), .val (.int dd), .val (.int ee), .val (.int (4 : Int32)), .val (.ref rl), .val (.ref jd), .val (.ref ob), .val (.double gt), .second, .val (.double (4602678819172646912 : UInt64)), .second] [])
        refine hs.go (fun _ kk_ => XS.iconst X40.here hx rfl (hb hby at_221) kk_) ?_
        show G T40 (mkF m 222 #[.val (.int nn), .val (.int a), .val (.int b), .val (.int cc), .val (.int dd), .val (.int ee), .val (.int (4 : Int32)), .val (.ref rl), .val (.ref jd), .val (.ref ob), .val (.double gt), .second, .val (.double (4602678819172646912 : UInt64)), .second] [(.int (1 : Int32))])
        refine hs.go (fun _ kk_ => XS.goto X40.here hx rfl (pc0 := 222) (pc' := 226) rfl (hb hby at_222) (by decide) (by decide) kk_) ?_
        show G T40 (mkF m 226 #[.val (.int nn), .val (.int a), .val (.int b), .val (.int cc), .val (.int dd), .val (.int ee), .val (.int (4 : Int32)), .val (.ref rl), .val (.ref jd), .val (.ref ob), .val (.double gt), .second, .val (.double (4602678819172646912 : UInt64)), .second] [(.int (1 : Int32))])
        exact rRetN fin X40 hx (by decide) (by decide) hret (by simp) (hb hby at_226) (z' := (1 : Int32)) (by decide) rfl
      · refine hs.go (fun _ kk_ => XS.ifYes X40.here hx rfl (pc0 := 162) (pc' := 173) rfl (hb hby at_162) rfl ((if0 _ _).trans (flt c162).2.2.2) (by decide) (by decide) kk_) ?_
        show G T40 (mkF m 173 #[.val (.int nn), .val (.int a), .val (.int b), .val (.int cc), .val (.int dd), .val (.int ee), .val (.int (4 : Int32)), .val (.ref rl), .val (.ref jd), .val (.ref ob), .val (.double gt), .second, .unset, .unset] [])
        refine hs.go (fun _ kk_ => XS.iload X40.here hx rfl (hb hby at_173) rfl  kk_) ?_
        show G T40 (mkF m 175 #[.val (.int nn), .val (.int a), .val (.int b), .val (.int cc), .val (.int dd), .val (.int ee), .val (.int (4 : Int32)), .val (.ref rl), .val (.ref jd), .val (.ref ob), .val (.double gt), .second, .unset, .unset] [(.int (4 : Int32))])
        refine hs.go (fun _ kk_ => XS.iconst X40.here hx rfl (hb hby at_175) kk_) ?_
        show G T40 (mkF m 176 #[.val (.int nn), .val (.int a), .val (.int b), .val (.int cc), .val (.int dd), .val (.int ee), .val (.int (4 : Int32)), .val (.ref rl), .val (.ref jd), .val (.ref ob), .val (.double gt), .second, .unset, .unset] [(.int (3 : Int32)), (.int (4 : Int32))])
        refine hs.go (fun _ kk_ => XS.icmpNo X40.here hx rfl (hb hby at_176) rfl (flt ((by decide) : ¬ ((4 : Int32) < (3 : Int32)))).1 kk_) ?_
        show G T40 (mkF m 179 #[.val (.int nn), .val (.int a), .val (.int b), .val (.int cc), .val (.int dd), .val (.int ee), .val (.int (4 : Int32)), .val (.ref rl), .val (.ref jd), .val (.ref ob), .val (.double gt), .second, .unset, .unset] [])
        refine hs.go (fun _ kk_ => XS.iloadN X40.here hx rfl (hb hby at_179) rfl  kk_) ?_
        show G T40 (mkF m 180 #[.val (.int nn), .val (.int a), .val (.int b), .val (.int cc), .val (.int dd), .val (.int ee), .val (.int (4 : Int32)), .val (.ref rl), .val (.ref jd), .val (.ref ob), .val (.double gt), .second, .unset, .unset] [(.int cc)])
        by_cases c180 : (0 : Int32) < cc
        · refine hs.go (fun _ kk_ => XS.ifNo X40.here hx rfl (hb hby at_180) rfl ((if0 _ _).trans (tlt c180).2.2.2) kk_) ?_
          show G T40 (mkF m 183 #[.val (.int nn), .val (.int a), .val (.int b), .val (.int cc), .val (.int dd), .val (.int ee), .val (.int (4 : Int32)), .val (.ref rl), .val (.ref jd), .val (.ref ob), .val (.double gt), .second, .unset, .unset] [])
          refine rLdcD hs X40 hx hZ hown (hw _ (List.mem_of_getElem? (i := 26) rfl)) rfl (hb hby at_183) ?_
          show G T40 (mkF m 186 #[.val (.int nn), .val (.int a), .val (.int b), .val (.int cc), .val (.int dd), .val (.int ee), .val (.int (4 : Int32)), .val (.ref rl), .val (.ref jd), .val (.ref ob), .val (.double gt), .second, .unset, .unset] [(.double (4599676419421066581 : UInt64))])
          refine hs.go (fun _ kk_ => XS.dstore X40.here hx rfl (hb hby at_186) rfl (l' := #[.val (.int nn), .val (.int a), .val (.int b), .val (.int cc), .val (.int dd), .val (.int ee), .val (.int (4 : Int32)), .val (.ref rl), .val (.ref jd), .val (.ref ob), .val (.double gt), .second, .val (.double (4599676419421066581 : UInt64)), .second]) rfl kk_) ?_
          show G T40 (mkF m 188 #[.val (.int nn), .val (.int a), .val (.int b), .val (.int cc), .val (.int dd), .val (.int ee), .val (.int (4 : Int32)), .val (.ref rl), .val (.ref jd), .val (.ref ob), .val (.double gt), .second, .val (.double (4599676419421066581 : UInt64)), .second] [])
          refine hs.go (fun _ kk_ => XS.goto X40.here hx rfl (pc0 := 188) (pc' := 213) rfl (hb hby at_188) (by decide) (by decide) kk_) ?_
          show G T40 (mkF m 213 #[.val (.int nn), .val (.int a), .val (.int b), .val (.int cc), .val (.int dd), .val (.int ee), .val (.int (4 : Int32)), .val (.ref rl), .val (.ref jd), .val (.ref ob), .val (.double gt), .second, .val (.double (4599676419421066581 : UInt64)), .second] [])
          refine hs.go (fun _ kk_ => XS.dload X40.here hx rfl (hb hby at_213) rfl  kk_) ?_
          show G T40 (mkF m 215 #[.val (.int nn), .val (.int a), .val (.int b), .val (.int cc), .val (.int dd), .val (.int ee), .val (.int (4 : Int32)), .val (.ref rl), .val (.ref jd), .val (.ref ob), .val (.double gt), .second, .val (.double (4599676419421066581 : UInt64)), .second] [(.double gt)])
          refine hs.go (fun _ kk_ => XS.dload X40.here hx rfl (hb hby at_215) rfl  kk_) ?_
          show G T40 (mkF m 217 #[.val (.int nn), .val (.int a), .val (.int b), .val (.int cc), .val (.int dd), .val (.int ee), .val (.int (4 : Int32)), .val (.ref rl), .val (.ref jd), .val (.ref ob), .val (.double gt), .second, .val (.double (4599676419421066581 : UInt64)), .second] [(.double (4599676419421066581 : UInt64)), (.double gt)])
          refine hs.go (fun _ kk_ => XS.dcmpS X40.here hx rfl (hb hby at_217) rfl (v := (0 : Int32)) (by rw [hgt]; simp only [rr, c146, c162, c180, if_true, if_false]; decide +kernel) kk_) ?_
          show G T40 (mkF m 218 #[.val (.int nn), .val (.int a), .val (.int b), .val (.int cc), .val (.int dd), .val (.int ee), .val (.int (4 : Int32)), .val (.ref rl), .val (.ref jd), .val (.ref ob), .val (.double gt), .second, .val (.double (4599676419421066581 : UInt64)), .second] [(.int (0 : Int32))])
          refine hs.go (fun _ kk_ => XS.ifNo X40.here hx rfl (hb hby at_218) rfl ((if0 _ _).trans (teq (rfl : (0 : Int32) = (0 : Int32))).2) kk_) ?_
          show G T40 (mkF m 221 #[.val (.int nn), .val (.int a), .val (.int b), .val (.int cc), .val (.int dd), .val (.int ee), .val (.int (4 : Int32)), .val (.ref rl), .val (.ref jd), .val (.ref ob), .val (.double gt), .second, .val (.double (4599676419421066581 : UInt64)), .second] [])
          refine hs.go (fun _ kk_ => XS.iconst X40.here hx rfl (hb hby at_221) kk_) ?_
          show G T40 (mkF m 222 #[.val (.int nn), .val (.int a), .val (.int b), .val (.int cc), .val (.int dd), .val (.int ee), .val (.int (4 : Int32)), .val (.ref rl), .val (.ref jd), .val (.ref ob), .val (.double gt), .second, .val (.double (4599676419421066581 : UInt64)), .second] [(.int (1 : Int32))])
          refine hs.go (fun _ kk_ => XS.goto X40.here hx rfl (pc0 := 222) (pc' := 226) rfl (hb hby at_222) (by decide) (by decide) kk_) ?_
          show G T40 (mkF m 226 #[.val (.int nn), .val (.int a), .val (.int b), .val (.int cc), .val (.int dd), .val (.int ee), .val (.int (4 : Int32)), .val (.ref rl), .val (.ref jd), .val (.ref ob), .val (.double gt), .second, .val (.double (4599676419421066581 : UInt64)), .second] [(.int (1 : Int32))])
          exact rRetN fin X40 hx (by decide) (by decide) hret (by simp) (hb hby at_226) (z' := (1 : Int32)) (by decide) rfl
        · refine hs.go (fun _ kk_ => XS.ifYes X40.here hx rfl (pc0 := 180) (pc' := 191) rfl (hb hby at_180) rfl ((if0 _ _).trans (flt c180).2.2.2) (by decide) (by decide) kk_) ?_
          show G T40 (mkF m 191 #[.val (.int nn), .val (.int a), .val (.int b), .val (.int cc), .val (.int dd), .val (.int ee), .val (.int (4 : Int32)), .val (.ref rl), .val (.ref jd), .val (.ref ob), .val (.double gt), .second, .unset, .unset] [])
          refine hs.go (fun _ kk_ => XS.iload X40.here hx rfl (hb hby at_191) rfl  kk_) ?_
          show G T40 (mkF m 193 #[.val (.int nn), .val (.int a), .val (.int b), .val (.int cc), .val (.int dd), .val (.int ee), .val (.int (4 : Int32)), .val (.ref rl), .val (.ref jd), .val (.ref ob), .val (.double gt), .second, .unset, .unset] [(.int (4 : Int32))])
          refine hs.go (fun _ kk_ => XS.iconst X40.here hx rfl (hb hby at_193) kk_) ?_
          show G T40 (mkF m 194 #[.val (.int nn), .val (.int a), .val (.int b), .val (.int cc), .val (.int dd), .val (.int ee), .val (.int (4 : Int32)), .val (.ref rl), .val (.ref jd), .val (.ref ob), .val (.double gt), .second, .unset, .unset] [(.int (4 : Int32)), (.int (4 : Int32))])
          refine hs.go (fun _ kk_ => XS.icmpNo X40.here hx rfl (hb hby at_194) rfl (flt ((by decide) : ¬ ((4 : Int32) < (4 : Int32)))).1 kk_) ?_
          show G T40 (mkF m 197 #[.val (.int nn), .val (.int a), .val (.int b), .val (.int cc), .val (.int dd), .val (.int ee), .val (.int (4 : Int32)), .val (.ref rl), .val (.ref jd), .val (.ref ob), .val (.double gt), .second, .unset, .unset] [])
          refine hs.go (fun _ kk_ => XS.iload X40.here hx rfl (hb hby at_197) rfl  kk_) ?_
          show G T40 (mkF m 199 #[.val (.int nn), .val (.int a), .val (.int b), .val (.int cc), .val (.int dd), .val (.int ee), .val (.int (4 : Int32)), .val (.ref rl), .val (.ref jd), .val (.ref ob), .val (.double gt), .second, .unset, .unset] [(.int dd)])
          by_cases c199 : (0 : Int32) < dd
          · refine hs.go (fun _ kk_ => XS.ifNo X40.here hx rfl (hb hby at_199) rfl ((if0 _ _).trans (tlt c199).2.2.2) kk_) ?_
            show G T40 (mkF m 202 #[.val (.int nn), .val (.int a), .val (.int b), .val (.int cc), .val (.int dd), .val (.int ee), .val (.int (4 : Int32)), .val (.ref rl), .val (.ref jd), .val (.ref ob), .val (.double gt), .second, .unset, .unset] [])
            refine rLdcD hs X40 hx hZ hown (hw _ (List.mem_of_getElem? (i := 27) rfl)) rfl (hb hby at_202) ?_
            show G T40 (mkF m 205 #[.val (.int nn), .val (.int a), .val (.int b), .val (.int cc), .val (.int dd), .val (.int ee), .val (.int (4 : Int32)), .val (.ref rl), .val (.ref jd), .val (.ref ob), .val (.double gt), .second, .unset, .unset] [(.double (4598175219545276416 : UInt64))])
            refine hs.go (fun _ kk_ => XS.dstore X40.here hx rfl (hb hby at_205) rfl (l' := #[.val (.int nn), .val (.int a), .val (.int b), .val (.int cc), .val (.int dd), .val (.int ee), .val (.int (4 : Int32)), .val (.ref rl), .val (.ref jd), .val (.ref ob), .val (.double gt), .second, .val (.double (4598175219545276416 : UInt64)), .second]) rfl kk_) ?_
            show G T40 (mkF m 207 #[.val (.int nn), .val (.int a), .val (.int b), .val (.int cc), .val (.int dd), .val (.int ee), .val (.int (4 : Int32)), .val (.ref rl), .val (.ref jd), .val (.ref ob), .val (.double gt), .second, .val (.double (4598175219545276416 : UInt64)), .second] [])
            refine hs.go (fun _ kk_ => XS.goto X40.here hx rfl (pc0 := 207) (pc' := 213) rfl (hb hby at_207) (by decide) (by decide) kk_) ?_
            show G T40 (mkF m 213 #[.val (.int nn), .val (.int a), .val (.int b), .val (.int cc), .val (.int dd), .val (.int ee), .val (.int (4 : Int32)), .val (.ref rl), .val (.ref jd), .val (.ref ob), .val (.double gt), .second, .val (.double (4598175219545276416 : UInt64)), .second] [])
            refine hs.go (fun _ kk_ => XS.dload X40.here hx rfl (hb hby at_213) rfl  kk_) ?_
            show G T40 (mkF m 215 #[.val (.int nn), .val (.int a), .val (.int b), .val (.int cc), .val (.int dd), .val (.int ee), .val (.int (4 : Int32)), .val (.ref rl), .val (.ref jd), .val (.ref ob), .val (.double gt), .second, .val (.double (4598175219545276416 : UInt64)), .second] [(.double gt)])
            refine hs.go (fun _ kk_ => XS.dload X40.here hx rfl (hb hby at_215) rfl  kk_) ?_
            show G T40 (mkF m 217 #[.val (.int nn), .val (.int a), .val (.int b), .val (.int cc), .val (.int dd), .val (.int ee), .val (.int (4 : Int32)), .val (.ref rl), .val (.ref jd), .val (.ref ob), .val (.double gt), .second, .val (.double (4598175219545276416 : UInt64)), .second] [(.double (4598175219545276416 : UInt64)), (.double gt)])
            refine hs.go (fun _ kk_ => XS.dcmpS X40.here hx rfl (hb hby at_217) rfl (v := (0 : Int32)) (by rw [hgt]; simp only [rr, c146, c162, c180, c199, if_true, if_false]; decide +kernel) kk_) ?_
            show G T40 (mkF m 218 #[.val (.int nn), .val (.int a), .val (.int b), .val (.int cc), .val (.int dd), .val (.int ee), .val (.int (4 : Int32)), .val (.ref rl), .val (.ref jd), .val (.ref ob), .val (.double gt), .second, .val (.double (4598175219545276416 : UInt64)), .second] [(.int (0 : Int32))])
            refine hs.go (fun _ kk_ => XS.ifNo X40.here hx rfl (hb hby at_218) rfl ((if0 _ _).trans (teq (rfl : (0 : Int32) = (0 : Int32))).2) kk_) ?_
            show G T40 (mkF m 221 #[.val (.int nn), .val (.int a), .val (.int b), .val (.int cc), .val (.int dd), .val (.int ee), .val (.int (4 : Int32)), .val (.ref rl), .val (.ref jd), .val (.ref ob), .val (.double gt), .second, .val (.double (4598175219545276416 : UInt64)), .second] [])
            refine hs.go (fun _ kk_ => XS.iconst X40.here hx rfl (hb hby at_221) kk_) ?_
            show G T40 (mkF m 222 #[.val (.int nn), .val (.int a), .val (.int b), .val (.int cc), .val (.int dd), .val (.int ee), .val (.int (4 : Int32)), .val (.ref rl), .val (.ref jd), .val (.ref ob), .val (.double gt), .second, .val (.double (4598175219545276416 : UInt64)), .second] [(.int (1 : Int32))])
            refine hs.go (fun _ kk_ => XS.goto X40.here hx rfl (pc0 := 222) (pc' := 226) rfl (hb hby at_222) (by decide) (by decide) kk_) ?_
            show G T40 (mkF m 226 #[.val (.int nn), .val (.int a), .val (.int b), .val (.int cc), .val (.int dd), .val (.int ee), .val (.int (4 : Int32)), .val (.ref rl), .val (.ref jd), .val (.ref ob), .val (.double gt), .second, .val (.double (4598175219545276416 : UInt64)), .second] [(.int (1 : Int32))])
            exact rRetN fin X40 hx (by decide) (by decide) hret (by simp) (hb hby at_226) (z' := (1 : Int32)) (by decide) rfl
          · refine hs.go (fun _ kk_ => XS.ifYes X40.here hx rfl (pc0 := 199) (pc' := 210) rfl (hb hby at_199) rfl ((if0 _ _).trans (flt c199).2.2.2) (by decide) (by decide) kk_) ?_
            show G T40 (mkF m 210 #[.val (.int nn), .val (.int a), .val (.int b), .val (.int cc), .val (.int dd), .val (.int ee), .val (.int (4 : Int32)), .val (.ref rl), .val (.ref jd), .val (.ref ob), .val (.double gt), .second, .unset, .unset] [])
            refine hs.go (fun _ kk_ => XS.dconst0 X40.here hx rfl (hb hby at_210) (v := (0 : UInt64)) (by decide +kernel) kk_) ?_
            show G T40 (mkF m 211 #[.val (.int nn), .val (.int a), .val (.int b), .val (.int cc), .val (.int dd), .val (.int ee), .val (.int (4 : Int32)), .val (.ref rl), .val (.ref jd), .val (.ref ob), .val (.double gt), .second, .unset, .unset] [(.double (0 : UInt64))])
            refine hs.go (fun _ kk_ => XS.dstore X40.here hx rfl (hb hby at_211) rfl (l' := #[.val (.int nn), .val (.int a), .val (.int b), .val (.int cc), .val (.int dd), .val (.int ee), .val (.int (4 : Int32)), .val (.ref rl), .val (.ref jd), .val (.ref ob), .val (.double gt), .second, .val (.double (0 : UInt64)), .second]) rfl kk_) ?_
            show G T40 (mkF m 213 #[.val (.int nn), .val (.int a), .val (.int b), .val (.int cc), .val (.int dd), .val (.int ee), .val (.int (4 : Int32)), .val (.ref rl), .val (.ref jd), .val (.ref ob), .val (.double gt), .second, .val (.double (0 : UInt64)), .second] [])
            refine hs.go (fun _ kk_ => XS.dload X40.here hx rfl (hb hby at_213) rfl  kk_) ?_
            show G T40 (mkF m 215 #[.val (.int nn), .val (.int a), .val (.int b), .val (.int cc), .val (.int dd), .val (.int ee), .val (.int (4 : Int32)), .val (.ref rl), .val (.ref jd), .val (.ref ob), .val (.double gt), .second, .val (.double (0 : UInt64)), .second] [(.double gt)])
            refine hs.go (fun _ kk_ => XS.dload X40.here hx rfl (hb hby at_215) rfl  kk_) ?_
            show G T40 (mkF m 217 #[.val (.int nn), .val (.int a), .val (.int b), .val (.int cc), .val (.int dd), .val (.int ee), .val (.int (4 : Int32)), .val (.ref rl), .val (.ref jd), .val (.ref ob), .val (.double gt), .second, .val (.double (0 : UInt64)), .second] [(.double (0 : UInt64)), (.double gt)])
            refine hs.go (fun _ kk_ => XS.dcmpS X40.here hx rfl (hb hby at_217) rfl (v := (0 : Int32)) (by rw [hgt]; simp only [rr, c146, c162, c180, c199, if_true, if_false]; decide +kernel) kk_) ?_
            show G T40 (mkF m 218 #[.val (.int nn), .val (.int a), .val (.int b), .val (.int cc), .val (.int dd), .val (.int ee), .val (.int (4 : Int32)), .val (.ref rl), .val (.ref jd), .val (.ref ob), .val (.double gt), .second, .val (.double (0 : UInt64)), .second] [(.int (0 : Int32))])
            refine hs.go (fun _ kk_ => XS.ifNo X40.here hx rfl (hb hby at_218) rfl ((if0 _ _).trans (teq (rfl : (0 : Int32) = (0 : Int32))).2) kk_) ?_
            show G T40 (mkF m 221 #[.val (.int nn), .val (.int a), .val (.int b), .val (.int cc), .val (.int dd), .val (.int ee), .val (.int (4 : Int32)), .val (.ref rl), .val (.ref jd), .val (.ref ob), .val (.double gt), .second, .val (.double (0 : UInt64)), .second] [])
            refine hs.go (fun _ kk_ => XS.iconst X40.here hx rfl (hb hby at_221) kk_) ?_
            show G T40 (mkF m 222 #[.val (.int nn), .val (.int a), .val (.int b), .val (.int cc), .val (.int dd), .val (.int ee), .val (.int (4 : Int32)), .val (.ref rl), .val (.ref jd), .val (.ref ob), .val (.double gt), .second, .val (.double (0 : UInt64)), .second] [(.int (1 : Int32))])
            refine hs.go (fun _ kk_ => XS.goto X40.here hx rfl (pc0 := 222) (pc' := 226) rfl (hb hby at_222) (by decide) (by decide) kk_) ?_
            show G T40 (mkF m 226 #[.val (.int nn), .val (.int a), .val (.int b), .val (.int cc), .val (.int dd), .val (.int ee), .val (.int (4 : Int32)), .val (.ref rl), .val (.ref jd), .val (.ref ob), .val (.double gt), .second, .val (.double (0 : UInt64)), .second] [(.int (1 : Int32))])
            exact rRetN fin X40 hx (by decide) (by decide) hret (by simp) (hb hby at_226) (z' := (1 : Int32)) (by decide) rfl
set_option maxRecDepth 65536 in
set_option maxHeartbeats 40000000 in
theorem comes_1 {Post : Tables → Env → Array Value → State → Outcome → State → Prop} (hpost : ∀ tb e args s v u, (limb_1_1.after args s (.returned v) u = true ∧ limb_1_2.after args s (.returned v) u = true ∧ True) → FrameEnd s (.returned v) u (Jvm.fieldLocs frame_1_writes args s ++ Jvm.arrayLocs frame_1_arrays args s ++ Jvm.staticLocs frame_1_statics s) 16 128 → Post tb e args s (.returned v) u) :
    ArmFor flags0 classFile x code maxLocals ret World_1 tables_1 room_1 Calls_1 rest_1 Pre_1 Post := by
  intro l hfl _ _ p e ha hc hk s m args below hf hA hF happ hP
  obtain ⟨hcalls, hrest, hpre⟩ := hP
  obtain ⟨-, -, -, hnamed, -, -, -, hat⟩ := (Spec.applies_iff hf).mp happ
  obtain ⟨hg, hn⟩ := and_e (Cond.before_iff.mp (show (Jvm.Cond.and given_1 narrow_1).before args s = true from hpre))
  obtain ⟨hcnt, hg0⟩ := and_e hg
  obtain ⟨t0, hg1⟩ := and_e hg0
  obtain ⟨t1, hg2⟩ := and_e hg1
  obtain ⟨t2, hg3⟩ := and_e hg2
  obtain ⟨t3, hg4⟩ := and_e hg3
  obtain ⟨t4, hg5⟩ := and_e hg4
  have t5 := hg5
  obtain ⟨w0, w1, w2, w3, w4, w5, rfl⟩ : ∃ w0 w1 w2 w3 w4 w5 : Value, args = #[w0, w1, w2, w3, w4, w5] := by
    have hs : args.size = 6 := by simpa [Cond.value, given_1] using hcnt
    obtain ⟨L⟩ := args
    match L, hs with
    | [w0, w1, w2, w3, w4, w5], _ => exact ⟨w0, w1, w2, w3, w4, w5, rfl⟩
  have hw := fun d (hd : d ∈ tables_1) => atoms_spec (ws := Jvm.Cond.code x code maxLocals ret :: tables_1) hat d (List.mem_cons_of_mem _ hd)
  have hfit : Fit s := fun {y c} hc i hi => by
    obtain ⟨ha, rfl⟩ := Array.getElem?_eq_some_iff.mp hc
    have q := List.all_eq_true.mp ((Array.all_eq_true_iff_forall_mem.mp hF) _ (Array.getElem_mem ha)) i (List.mem_range.mpr hi)
    simpa [Array.getElem?_eq_getElem hi] using q
  obtain ⟨i0, ei0⟩ := is_v t0
  obtain rfl : w0 = (.int i0) := Option.some.inj ei0
  obtain ⟨i1, ei1⟩ := is_v t1
  obtain rfl : w1 = (.int i1) := Option.some.inj ei1
  obtain ⟨i2, ei2⟩ := is_v t2
  obtain rfl : w2 = (.int i2) := Option.some.inj ei2
  obtain ⟨i3, ei3⟩ := is_v t3
  obtain rfl : w3 = (.int i3) := Option.some.inj ei3
  obtain ⟨i4, ei4⟩ := is_v t4
  obtain rfl : w4 = (.int i4) := Option.some.inj ei4
  obtain ⟨i5, ei5⟩ := is_v t5
  obtain rfl : w5 = (.int i5) := Option.some.inj ei5
  obtain ⟨n, o, h1, h2, h3, _, L, rfl, ⟨rfl, N⟩, hq⟩ := rm0 l s _ hw tables_1 i0 i1 i2 i3 i4 i5  s.heap s.heap.size (Nat.le_refl _)  p e ha hc hk s m _ below hf ((Spec.applies_iff_loose hf).mp happ).1 ⟨rfl, State.Warmed39.refl s, rfl⟩ trivial
  refine ⟨n, _, h1, h2, h3, hpost _ _ _ _ _ _ ⟨Cond.after_iff.mpr rfl, Cond.after_iff.mpr (eq_i res_at (Term.int_eval (1)) rfl), trivial⟩ ⟨hq.1, hq.2.1, (hq.2.2.sift fun y hy => Or.inr (N y hy)).mono (by decide) (by decide)⟩⟩
theorem main_1_1 : Claimed_1_1 := comes_1 fun _ _ _ _ _ _ h hF => ⟨h.1, hF⟩
theorem main_1_2 : Claimed_1_2 := comes_1 fun _ _ _ _ _ _ h hF => ⟨h.2.1, hF⟩
end Jvm.Pilot.@@N@@
namespace Jvm.Pilot.@@N@@
open Jvm Jvm.ClassFile Sem Op Lib Jvm.Free Jvm.Stand Jvm.Pilot.@@N@@.Jvm.D
/-! MADE BY PROGRAM (witnessworld.py) out of the Statement's table words and the real class files: 10 classes; the members and pool entries that the words name. The judged class is class 1, her method 1. -/
namespace start1
open Jvm.ClassFile
def u (s : String) : CpInfo := .utf8 (stringToUtf16 s)
/-- a pool by its gaps: so many unusable entries, then the entry; so many at the end -/
def gap : Nat → List CpInfo → List CpInfo
  | 0, r => r
  | n + 1, r => .unusable :: gap n r
def poolList (es : List (Nat × CpInfo)) (last : Nat) : List CpInfo := es.foldr (fun e r => gap e.1 (e.2 :: r)) (gap last [])
def pool (es : List (Nat × CpInfo)) (last : Nat) : Array CpInfo := ⟨poolList es last⟩
def fileOf (pool : Array CpInfo) (this : Nat) (attrs : Array Attribute := #[]) (ms : Array MethodInfo := #[]) (fl : Nat := 33) (sup : Nat := 0) (ifs : Array Nat := #[]) (fds : Array FieldInfo := #[]) : ClassFile where
  minorVersion := 0
  majorVersion := 65
  constantPool := pool
  accessFlags := fl
  thisClass := this
  superClass := sup
  interfaces := ifs
  fields := fds
  methods := ms
  attributes := attrs
def plain (name : String) (sup : Option ClassId) : Class where
  name := name
  kind := .ordinary
  loader := none
  accessFlags := 33
  super := sup
  interfaces := #[]
  cf := none
  fields := #[]
  methods := #[]
  instanceTypes := #[]
  staticTypes := #[]
  resolved := #[]
  callSites := []
  init := .initialized
  statics := none
  mirror := none

def pool0 : Array CpInfo := pool [(5, u "<init>"), (0, u "()V"), (1, .class_ 10), (1, u "java/lang/Object")] 113

def k0c0 : Code := { maxStack := 0, maxLocals := 1, code := object_method_1_code, exceptionTable := #[], attributes := #[] }
def k0m0 : Method := { name := "<init>", desc := "()V", sig := { parameters := [], returnType := none }, accessFlags := 1, code := some k0c0 }
/-- java/lang/Object -/
def k0 : Class := { plain "java/lang/Object" none with
  accessFlags := 33
  interfaces := #[]
  cf := some (fileOf pool0 8 #[] #[{ accessFlags := 1, nameIndex := 5, descriptorIndex := 6, attributes := #[] }] 33 0 #[] #[])
  fields := #[]
  methods := #[k0m0]
  instanceTypes := #[]
  staticTypes := #[]
  resolved := Array.replicate 124 none
  statics := none }

def pool1 : Array CpInfo := pool [(2, .class_ 4), (1, u "java/lang/Object"), (0, u "<init>"), (0, u "()V"), (0, .integer 2147483647), (0, .class_ 9), (0, u "com/example/ranked_odds/rankedodds/eval/JudgedRanking"), (0, .methodref 8 11), (0, .nameAndType 5 12), (0, u "([I[I)V"), (0, .methodref 8 14), (0, .nameAndType 15 16), (0, u "reciprocalRank"), (0, u "()D"), (0, .double 4602678819172646912), (1, .double 4599676419421066581), (1, .double 4598175219545276416), (1, .class_ 24), (0, u "com/example/ranked_odds/rankedodds/eval/JudgedRankingReciprocalRankPinLaw"), (2, u "law"), (0, u "(IIIIII)Z")] 5

def k1m0 : Method := { name := "<init>", desc := "()V", sig := { parameters := [], returnType := none }, accessFlags := 1, code := none }
def k1c1 : Code := { maxStack := 4, maxLocals := 14, code := code, exceptionTable := #[], attributes := #[] }
def k1m1 : Method := { name := "law", desc := "(IIIIII)Z", sig := { parameters := [.int, .int, .int, .int, .int, .int], returnType := some .boolean }, accessFlags := 9, code := some k1c1 }
/-- com/example/ranked_odds/rankedodds/eval/JudgedRankingReciprocalRankPinLaw -/
def k1 : Class := { plain "com/example/ranked_odds/rankedodds/eval/JudgedRankingReciprocalRankPinLaw" (some 0) with
  accessFlags := 49
  interfaces := #[]
  cf := some (fileOf pool1 23 #[] #[{ accessFlags := 1, nameIndex := 5, descriptorIndex := 6, attributes := #[] }, { accessFlags := 9, nameIndex := 27, descriptorIndex := 28, attributes := #[] }] 49 2 #[] #[])
  fields := #[]
  methods := #[k1m0, k1m1]
  instanceTypes := #[]
  staticTypes := #[]
  resolved := Array.replicate 34 none
  statics := none }

def pool2 : Array CpInfo := pool [(1, .methodref 2 3), (0, .class_ 4), (0, .nameAndType 5 6), (0, u "java/lang/Object"), (0, u "<init>"), (0, u "()V"), (0, .class_ 8), (0, u "java/lang/Record")] 13

def k2c0 : Code := { maxStack := 1, maxLocals := 1, code := jdk_30_method_1_code, exceptionTable := #[], attributes := #[] }
def k2m0 : Method := { name := "<init>", desc := "()V", sig := { parameters := [], returnType := none }, accessFlags := 4, code := some k2c0 }
/-- java/lang/Record -/
def k2 : Class := { plain "java/lang/Record" (some 0) with
  accessFlags := 1057
  interfaces := #[]
  cf := some (fileOf pool2 7 #[] #[{ accessFlags := 4, nameIndex := 5, descriptorIndex := 6, attributes := #[] }] 1057 2 #[] #[])
  fields := #[]
  methods := #[k2m0]
  instanceTypes := #[]
  staticTypes := #[]
  resolved := Array.replicate 22 none
  statics := none }

def pool3 : Array CpInfo := pool [(1, .methodref 2 3), (0, .class_ 4), (0, .nameAndType 5 6), (0, u "java/lang/Record"), (0, u "<init>"), (0, u "()V"), (0, .fieldref 8 9), (0, .class_ 10), (0, .nameAndType 11 12), (0, u "com/example/ranked_odds/rankedodds/eval/JudgedRanking"), (0, u "relevance"), (0, u "[I"), (0, .fieldref 8 14), (0, .nameAndType 15 12), (0, u "judged"), (48, u "([I[I)V"), (57, u "()D"), (0, u "reciprocalRank")] 25

def k3c0 : Code := { maxStack := 2, maxLocals := 3, code := prog_5_method_1_code, exceptionTable := #[], attributes := #[] }
def k3m0 : Method := { name := "<init>", desc := "([I[I)V", sig := { parameters := [(.array .int), (.array .int)], returnType := none }, accessFlags := 0, code := some k3c0 }
def k3c1 : Code := { maxStack := 4, maxLocals := 2, code := prog_5_method_8_code, exceptionTable := #[], attributes := #[] }
def k3m1 : Method := { name := "reciprocalRank", desc := "()D", sig := { parameters := [], returnType := some .double }, accessFlags := 0, code := some k3c1 }
/-- com/example/ranked_odds/rankedodds/eval/JudgedRanking -/
def k3 : Class := { plain "com/example/ranked_odds/rankedodds/eval/JudgedRanking" (some 2) with
  accessFlags := 48
  interfaces := #[]
  cf := some (fileOf pool3 8 #[] #[{ accessFlags := 0, nameIndex := 5, descriptorIndex := 64, attributes := #[] }, { accessFlags := 0, nameIndex := 123, descriptorIndex := 122, attributes := #[] }] 48 2 #[] #[{ accessFlags := 18, nameIndex := 11, descriptorIndex := 12, attributes := #[] }, { accessFlags := 18, nameIndex := 15, descriptorIndex := 12, attributes := #[] }])
  fields := #[{ name := "relevance", type := (.array .int), accessFlags := 18, slot := 0, constantValue := 0 }, { name := "judged", type := (.array .int), accessFlags := 18, slot := 1, constantValue := 0 }]
  methods := #[k3m0, k3m1]
  instanceTypes := #[(.array .int), (.array .int)]
  staticTypes := #[]
  resolved := Array.replicate 149 none
  statics := none }

def pool4 : Array CpInfo := pool [(1, u "java/lang/Cloneable"), (0, .class_ 1), (0, u "java/lang/Object"), (0, .class_ 3)] 3

/-- java/lang/Cloneable -/
def k4 : Class := { plain "java/lang/Cloneable" (some 0) with
  accessFlags := 1537
  interfaces := #[]
  cf := some (fileOf pool4 2 #[] #[] 1537 4 #[] #[])
  fields := #[]
  methods := #[]
  instanceTypes := #[]
  staticTypes := #[]
  resolved := Array.replicate 8 none
  statics := none }

def pool5 : Array CpInfo := pool [(1, u "java/io/Serializable"), (0, .class_ 1), (0, u "java/lang/Object"), (0, .class_ 3)] 3

/-- java/io/Serializable -/
def k5 : Class := { plain "java/io/Serializable" (some 0) with
  accessFlags := 1537
  interfaces := #[]
  cf := some (fileOf pool5 2 #[] #[] 1537 4 #[] #[])
  fields := #[]
  methods := #[]
  instanceTypes := #[]
  staticTypes := #[]
  resolved := Array.replicate 8 none
  statics := none }

/-- the primitive byte -/
def k6 : Class := { plain "byte" none with kind := .primitive 'B', accessFlags := 0x411 }
/-- [B -/
def k7 : Class := { plain "[B" (some 0) with kind := .array 6 .byte, interfaces := #[4, 5], accessFlags := 1041 }

/-- the primitive int -/
def k8 : Class := { plain "int" none with kind := .primitive 'I', accessFlags := 0x411 }
/-- [I -/
def k9 : Class := { plain "[I" (some 0) with kind := .array 8 .int, interfaces := #[4, 5], accessFlags := 1041 }

def heap : Heap := #[]
def classes : Array Class := #[k0, k1, k2, k3, k4, k5, k6, k7, k8, k9]
def interned : List (Array UInt16 × Addr) := []
def slotsUsed : Nat := 0
def theMethod : MethodId := ⟨1, 1⟩
def args0 : Array Value := #[.int 5, .int 5, .int 5, .int 5, .int 5, .int 5]
def aboutOver (below : List Frame) : State where
  vm := { classes := classes, interned := interned.toArray }
  heap := heap
  slotsUsed := slotsUsed
  threads := #[{ frames := .invoking theMethod args0 :: below }]
def below0 : List Frame := [.native { method := ⟨0, 0⟩, args := #[] }]
def about1 : State := aboutOver below0
def p0 : Program := .bare "" "" ""
def e0 : Env := launch0.env 0 0 0
theorem w_frames : about1.frames = Frame.invoking theMethod args0 :: below0 := rfl
set_option maxRecDepth 65536 in
theorem w_args : argsFit about1.vm theMethod args0 = true := by decide +kernel
set_option maxRecDepth 65536 in
theorem w_heap : heapFits about1 = true := by decide +kernel
set_option maxRecDepth 65536 in
theorem w_runnable : about1.curStatus? = some .runnable := by decide +kernel
set_option maxRecDepth 65536 in
theorem w_alone : about1.alone = true := by decide +kernel
set_option maxRecDepth 65536 in
theorem w_named : about1.methodNamed? x = some theMethod := by decide +kernel
set_option maxRecDepth 65536 in
theorem w_hears : about1.hears theMethod below0 = true := by decide +kernel
set_option maxRecDepth 65536 in
theorem w_ripe : about1.ripe theMethod args0 below0 = true := by decide +kernel
theorem w_running : about1.status = .running := rfl
set_option maxRecDepth 65536 in
theorem w_room : about1.hasRoom e0.platform room_1 = true :=
  launch0.hasRoom_least _ room_1 (by decide +kernel) (by decide +kernel) (by decide +kernel) (by decide +kernel) (by decide +kernel) (by decide +kernel)
theorem allAtoms_all (ts : List Jvm.Cond) (a : Array Jvm.Value) (st : Jvm.State) : (allAtoms ts).before a st = ts.all (fun c => c.before a st) := by
  induction ts with
  | nil => rfl
  | cons c t ih =>
    show (Jvm.Cond.and c (allAtoms t)).before a st = _
    rw [Jvm.Cond.before_and, ih, List.all_cons]
def words1 : List Jvm.Cond := Jvm.Cond.code x code maxLocals ret :: tables_1
/-- a 'code' word, met by the world's own term for the bytes: nothing is compared byte by byte -/
theorem code_word {y : MethodName} {bytes : ByteArray} {mx : Nat} {rt : Option FieldType} {a : Array Value} {s : State} {m : MethodId} {meth : Method} {c : Code} (h1 : s.methodNamed? y = some m) (h2 : s.vm.method? m = some meth) (h3 : meth.code = some c) (h4 : c.code = bytes)
    (h5 : (c.maxLocals == mx && c.exceptionTable.isEmpty && decide (c.maxStack ≤ mostOperands) && decide (meth.sig.returnType = rt) && !meth.locks && decide (parseMethodDescriptor y.desc = some meth.sig)) = true) : (Jvm.Cond.code y bytes mx rt).before a s = true := by
  simp only [Bool.and_eq_true, beq_iff_eq, Bool.not_eq_true', decide_eq_true_eq] at h5
  obtain ⟨⟨⟨⟨⟨g1, g2⟩, g3⟩, g4⟩, g5⟩, g6⟩ := h5
  simp [Cond.before, Cond.holds, Cond.value, h1, h2, h3, h4, g1, g2, g3, g4, g5, g6]
def isCode : Jvm.Cond → Bool
  | .code _ _ _ _ => true
  | _ => false
theorem all_split {L : List Jvm.Cond} {P : Jvm.Cond → Bool} (h1 : L.all (fun c => isCode c || P c) = true) (h2 : ∀ c ∈ L.filter isCode, P c = true) : L.all P = true := by
  refine List.all_eq_true.mpr fun c hc => ?_
  have h := List.all_eq_true.mp h1 c hc
  rcases Bool.eq_false_or_eq_true (isCode c) with hi | hi
  · exact h2 c (List.mem_filter.mpr ⟨hc, hi⟩)
  · simpa [hi] using h
set_option maxRecDepth 65536 in
theorem w_c0 : (Jvm.Cond.code x code maxLocals ret).before args0 about1 = true := code_word (m := ⟨1, 1⟩) (meth := k1m1) (c := k1c1) (by decide +kernel) rfl rfl rfl (by decide +kernel)
set_option maxRecDepth 65536 in
theorem w_c1 : (Jvm.Cond.code ({ cls := "com/example/ranked_odds/rankedodds/eval/JudgedRanking", name := "<init>", desc := "([I[I)V" } : Jvm.MethodName) prog_5_method_1_code (3 : Nat) (Option.none : Option Jvm.ClassFile.FieldType)).before args0 about1 = true := code_word (m := ⟨3, 0⟩) (meth := k3m0) (c := k3c0) (by decide +kernel) rfl rfl rfl (by decide +kernel)
set_option maxRecDepth 65536 in
theorem w_c2 : (Jvm.Cond.code ({ cls := "java/lang/Record", name := "<init>", desc := "()V" } : Jvm.MethodName) jdk_30_method_1_code (1 : Nat) (Option.none : Option Jvm.ClassFile.FieldType)).before args0 about1 = true := code_word (m := ⟨2, 0⟩) (meth := k2m0) (c := k2c0) (by decide +kernel) rfl rfl rfl (by decide +kernel)
set_option maxRecDepth 65536 in
theorem w_c3 : (Jvm.Cond.code ({ cls := "java/lang/Object", name := "<init>", desc := "()V" } : Jvm.MethodName) object_method_1_code (1 : Nat) (Option.none : Option Jvm.ClassFile.FieldType)).before args0 about1 = true := code_word (m := ⟨0, 0⟩) (meth := k0m0) (c := k0c0) (by decide +kernel) rfl rfl rfl (by decide +kernel)
set_option maxRecDepth 65536 in
theorem w_c4 : (Jvm.Cond.code ({ cls := "com/example/ranked_odds/rankedodds/eval/JudgedRanking", name := "reciprocalRank", desc := "()D" } : Jvm.MethodName) prog_5_method_8_code (2 : Nat) (Option.some Jvm.ClassFile.FieldType.double)).before args0 about1 = true := code_word (m := ⟨3, 1⟩) (meth := k3m1) (c := k3c1) (by decide +kernel) rfl rfl rfl (by decide +kernel)
def codes1 : List Jvm.Cond := [Jvm.Cond.code x code maxLocals ret, Jvm.Cond.code ({ cls := "com/example/ranked_odds/rankedodds/eval/JudgedRanking", name := "<init>", desc := "([I[I)V" } : Jvm.MethodName) prog_5_method_1_code (3 : Nat) (Option.none : Option Jvm.ClassFile.FieldType), Jvm.Cond.code ({ cls := "java/lang/Record", name := "<init>", desc := "()V" } : Jvm.MethodName) jdk_30_method_1_code (1 : Nat) (Option.none : Option Jvm.ClassFile.FieldType), Jvm.Cond.code ({ cls := "java/lang/Object", name := "<init>", desc := "()V" } : Jvm.MethodName) object_method_1_code (1 : Nat) (Option.none : Option Jvm.ClassFile.FieldType), Jvm.Cond.code ({ cls := "com/example/ranked_odds/rankedodds/eval/JudgedRanking", name := "reciprocalRank", desc := "()D" } : Jvm.MethodName) prog_5_method_8_code (2 : Nat) (Option.some Jvm.ClassFile.FieldType.double)]
set_option maxRecDepth 65536 in
theorem codes_eq : words1.filter isCode = codes1 := rfl
theorem w_codes : ∀ c ∈ words1.filter isCode, c.before args0 about1 = true := by
  rw [codes_eq]
  intro c hc
  simp only [codes1, List.mem_cons, List.not_mem_nil, or_false] at hc
  rcases hc with rfl | rfl | rfl | rfl | rfl
  · exact w_c0
  · exact w_c1
  · exact w_c2
  · exact w_c3
  · exact w_c4
set_option maxRecDepth 65536 in
theorem w_t1 : (words1.take 24).all (fun c => isCode c || c.before args0 about1) = true := by decide +kernel
set_option maxRecDepth 65536 in
theorem w_t2 : (words1.drop 24).all (fun c => isCode c || c.before args0 about1) = true := by decide +kernel
theorem w_tables : (allAtoms (Jvm.Cond.code x code maxLocals ret :: tables_1)).before args0 about1 = true := by
  rw [allAtoms_all]
  show words1.all (fun c => c.before args0 about1) = true
  refine all_split ?_ w_codes
  rw [← List.take_append_drop 24 words1, List.all_append, w_t1, w_t2]
  rfl
set_option maxRecDepth 65536 in
theorem w_case : (Jvm.Cond.and given_1 narrow_1).before args0 about1 = true := by decide +kernel
theorem w_applies : (headSpec (Jvm.Cond.code x code maxLocals ret :: tables_1) room_1).applies x e0.platform about1 = true :=
  (Spec.applies_iff w_frames).mpr ⟨w_running, w_runnable, w_alone, w_named, w_hears, w_ripe, w_room, w_tables⟩
theorem atStart : AtStart classFile x code maxLocals ret World_1 tables_1 room_1 Calls_1 rest_1 Pre_1 launch0 p0 e0 about1 theMethod args0 below0 :=
  ⟨lists_1, trivial, launch0.admits_env _ _ _, launch0.least_env, fairChoices_fair.cas, fairChoices_fair.clock, w_frames, w_args, w_heap, w_applies, trivial, trivial, w_case⟩
end start1
theorem witness_1 : WitnessClaimed_1 := ⟨start1.p0, start1.e0, start1.about1, start1.theMethod, start1.args0, start1.below0, start1.atStart⟩
end Jvm.Pilot.@@N@@
