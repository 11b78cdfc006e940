import JvmDerived
import JvmDerived.Pilot.@@N@@Statement
import JvmDerived.Pilot.@@N@@Code
set_option linter.unusedVariables false
set_option linter.unusedSimpArgs false
namespace Jvm.Pilot.@@N@@
open Jvm Jvm.ClassFile Sem Op Lib Jvm.Free Jvm.Stand Jvm.LawKit Jvm.RoadKit Bundle Jvm.Pilot.@@N@@.Jvm.D
/-! ## the walking judgement -/
section Core
variable {w : Bool} {Z : State} {EL : List (String × Nat)} {own nm : String} {bytes : ByteArray} {ml : Nat} {ret : Option FieldType} {R : Room} {hS : Heap} {ws : List Addr} {Q : Option Value → Heap → Prop} {os : List Addr} {cells slots : Nat} {h h' : Heap} {pc pc' : Nat} {Ls Ls' : Array Slot} {rest : List Value} {a0 : Array Value}
def Ok (p : Program) (s : State) (m : MethodId) (meth : Method) (c : Code) (Z : State) (own nm : String) (bytes : ByteArray) (ml : Nat) (ret : Option FieldType) : Prop :=
  p.tables.exec = Jvm.exec ∧ c.code = bytes ∧ c.maxLocals = ml ∧ Z.Warmed39 s.vm ∧ s.vm.findClass own = some m.cls ∧ meth.name = nm ∧ meth.sig.returnType = ret ∧ meth.locks = false
/-- what is known of the tables at hand: in a plain walk they are the start's; in a wide one literals may have been loaded -/
def Sn : Bool → State → List (String × Nat) → State → Vm → Heap → List Addr → Prop
  | false, _, _, s, vm0, _, _ => vm0 = s.vm
  | true, Z, EL, s, vm0, h, os => (∃ k0, s.Since vm0 k0 ∧ k0 ≤ h.size) ∧ CHr Z EL s.vm s.heap vm0 h ∧ (∃ a0, EW Z a0 EL) ∧ ∀ x ∈ os, x < h.size ∧ Safe Z EL vm0 h x
def EndC : Bool → State → List (String × Nat) → State → Outcome → State → List Loc → Nat → Nat → Prop
  | false, _, _, s, o, t, L, k, n => FrameEnd s o t L k n
  | true, Z, EL, s, o, t, L, k, n => CHr Z EL s.vm s.heap t.vm t.heap ∧ ReturnedEndW s o t L k n
def Go (w : Bool) (Z : State) (EL : List (String × Nat)) (p : Program) (e : Env) (s : State) (below : List Frame) (R : Room) (hS : Heap) (ws : List Addr) (Q : Option Value → Heap → Prop) (S : State) : Prop :=
  ∃ s₂ o, Steps p.tables e below S s₂ ∧ s₂.status = .running ∧ Ended s₂ below o ∧ ∃ v L, o = .returned v ∧ (Fr Z.heap.size L ∧ Keep hS s₂.heap ws ∧ Q v s₂.heap) ∧ EndC w Z EL s o s₂ L R.cells R.slots
/-- the walk stands at pc over the heap h and ends as Q says -/
def Rn (w : Bool) (Z : State) (EL : List (String × Nat)) (own nm : String) (bytes : ByteArray) (ml : Nat) (ret : Option FieldType) (R : Room) (hS : Heap) (ws : List Addr) (Q : Option Value → Heap → Prop) (os : List Addr) (cells slots : Nat) (h : Heap) (pc : Nat) (Ls : Array Slot) (st : List Value) : Prop :=
  ∀ (p : Program) (l : Launch) (e : Env) (s : State) (vm0 : Vm) (m : MethodId) (args : Array Value) (below : List Frame) (meth : Method) (c : Code) (T : State) (locs : List Loc),
    Ok p (s.setVm vm0) m meth c Z own nm bytes ml ret → Stand p l e R (s.setVm vm0) m args below meth c T locs cells slots → Sn w Z EL s vm0 h os → Fr Z.heap.size locs → Keep hS h ws → (Ext Z.heap hS ∧ ∀ x ∈ ws, Z.heap.size ≤ x) → T.heap = h →
    Go w Z EL p e s below R hS ws Q (T.setTop (mkF m pc Ls st))
theorem Go.pre {p : Program} {e : Env} {s : State} {below : List Frame} {S S' : State} (k : ∀ t, Steps p.tables e below S' t → Steps p.tables e below S t) (g : Go w Z EL p e s below R hS ws Q S') : Go w Z EL p e s below R hS ws Q S := by
  obtain ⟨s₂, o, h1, r⟩ := g
  exact ⟨s₂, o, k _ h1, r⟩
/-- a step that moves nothing but the frame -/
theorem Rn.pure {st st' : List Value} (k : Rn w Z EL own nm bytes ml ret R hS ws Q os cells slots h pc' Ls' st')
    (f : ∀ (p : Program) (l : Launch) (e : Env) (s : State) (m : MethodId) (args : Array Value) (below : List Frame) (meth : Method) (c : Code) (T : State) (locs : List Loc), p.tables.exec = Jvm.exec → c.code = bytes → Stand p l e R s m args below meth c T locs cells slots → Z.Warmed39 s.vm → s.vm.findClass own = some m.cls → T.heap = h → ∀ t, Steps p.tables e below (T.setTop (mkF m pc' Ls' st')) t → Steps p.tables e below (T.setTop (mkF m pc Ls st)) t) :
    Rn w Z EL own nm bytes ml ret R hS ws Q os cells slots h pc Ls st := by
  intro p l e s vm0 m args below meth c T locs ok X sn fr K O eT
  exact (k p l e s vm0 m args below meth c T locs ok X sn fr K O eT).pre (f p l e _ m args below meth c T locs ok.1 ok.2.1 X ok.2.2.2.1 ok.2.2.2.2.1 eT)
/-- a step that may resolve an entry of the tables, and moves nothing else but the frame -/
theorem Rn.note {st st' : List Value} (k : Rn w Z EL own nm bytes ml ret R hS ws Q os cells slots h pc' Ls' st')
    (f : ∀ (p : Program) (l : Launch) (e : Env) (s : State) (m : MethodId) (args : Array Value) (below : List Frame) (meth : Method) (c : Code) (T : State) (locs : List Loc), p.tables.exec = Jvm.exec → c.code = bytes → c.maxLocals = ml → Stand p l e R s m args below meth c T locs cells slots → Z.Warmed39 s.vm → s.vm.findClass own = some m.cls → T.heap = h → ∃ T', Stand p l e R s m args below meth c T' locs cells slots ∧ T'.heap = h ∧ ∀ t, Steps p.tables e below (T'.setTop (mkF m pc' Ls' st')) t → Steps p.tables e below (T.setTop (mkF m pc Ls st)) t) :
    Rn w Z EL own nm bytes ml ret R hS ws Q os cells slots h pc Ls st := by
  intro p l e s vm0 m args below meth c T locs ok X sn fr K O eT
  obtain ⟨T', X', e', stp⟩ := f p l e _ m args below meth c T locs ok.1 ok.2.1 ok.2.2.1 X ok.2.2.2.1 ok.2.2.2.2.1 eT
  exact (k p l e s vm0 m args below meth c T' locs ok X' sn fr K O e').pre stp
theorem Sn.ext {s : State} {vm0 : Vm} (E : Ext h h') (sn : Sn w Z EL s vm0 h os) : Sn w Z EL s vm0 h' os := by
  cases w
  · exact sn
  · obtain ⟨⟨k0, a, b⟩, c, d, f⟩ := sn
    exact ⟨⟨k0, a, Nat.le_trans b E.1⟩, c.trans (CHr.ext E c.1), d, fun x hx => ⟨Nat.lt_of_lt_of_le (f x hx).1 E.1, (f x hx).2.ext E c.1⟩⟩
/-- the address may be written: no literal's cell -/
def Sf (w : Bool) (Z : State) (EL : List (String × Nat)) (os : List Addr) (h : Heap) (a : Addr) : Prop := w = true → a ∈ os ∨ ∀ vm, Z.vm.Alike vm → Safe Z EL vm h a
theorem Sf.no {a : Addr} : Sf false Z EL os h a := fun q => nomatch q
theorem Sf.mem {a : Addr} (q : a ∈ os) : Sf w Z EL os h a := fun _ => Or.inl q
theorem Sf.exa {a : Addr} {C : String} (E : Exa Z h a C) (h1 : C ≠ "java/lang/String") (h2 : C ≠ "[B") : Sf w Z EL os h a := fun _ => Or.inr fun _ al => Safe.exa al E h1 h2
theorem Sf.arr {a : Addr} {cl : Cell} {ty : FieldType} (A : Arr Z h a cl ty) (ht : ty ≠ .byte) : Sf w Z EL os h a := fun _ => Or.inr fun _ al => Safe.arr al A ht
theorem Sn.keep {s : State} {vm0 : Vm} {ws' : List Addr} (hZ : Z.Warmed39 vm0) (K : Keep h h' ws') (q : ∀ x ∈ ws', Sf w Z EL os h x) (sn : Sn w Z EL s vm0 h os) : Sn w Z EL s vm0 h' os := by
  cases w
  · exact sn
  · obtain ⟨⟨k0, a, b⟩, c, d, f⟩ := sn
    have q' : ∀ x ∈ ws', Safe Z EL vm0 h x := fun x hx => ((q x hx) rfl).elim (fun z => (f x z).2) (fun z => z _ hZ.alike)
    exact ⟨⟨k0, a, Nat.le_trans b K.1⟩, c.trans (CHr.keep K q' c.1), d, fun x hx => ⟨Nat.lt_of_lt_of_le (f x hx).1 K.1, (f x hx).2.keep K q' c.1⟩⟩
theorem Sn.wr {s : State} {vm0 : Vm} {a : Addr} {sl : Nat} {v : Value} (hZ : Z.Warmed39 vm0) (W : Wr h h' a sl v) (q : Sf w Z EL os h a) (sn : Sn w Z EL s vm0 h os) : Sn w Z EL s vm0 h' os :=
  sn.keep hZ (Keep.of_wr W) fun x hx => by cases List.mem_singleton.mp hx; exact q
theorem ge_of {a : Addr} (O : Ext Z.heap hS ∧ ∀ x ∈ ws, Z.heap.size ≤ x) (q : a ∈ ws ∨ hS.size ≤ a) : Z.heap.size ≤ a := q.elim (O.2 a) fun z => Nat.le_trans O.1.1 z
theorem Rn.wrote {st st' : List Value} {a : Addr} {sl : Nat} {v : Value} (q : a ∈ ws ∨ hS.size ≤ a) (sf : Sf w Z EL os h a) (k : ∀ h', Wr h h' a sl v → Rn w Z EL own nm bytes ml ret R hS ws Q os cells slots h' pc' Ls' st')
    (f : ∀ (p : Program) (l : Launch) (e : Env) (s : State) (m : MethodId) (args : Array Value) (below : List Frame) (meth : Method) (c : Code) (T : State) (locs : List Loc), p.tables.exec = Jvm.exec → c.code = bytes → meth.name = nm → Stand p l e R s m args below meth c T locs cells slots → Z.Warmed39 s.vm → s.vm.findClass own = some m.cls → T.heap = h → ∃ T' h', Stand p l e R s m args below meth c T' (locs ++ [⟨a, sl⟩]) cells slots ∧ T'.heap = h' ∧ Wr h h' a sl v ∧ ∀ t, Steps p.tables e below (T'.setTop (mkF m pc' Ls' st')) t → Steps p.tables e below (T.setTop (mkF m pc Ls st)) t) :
    Rn w Z EL own nm bytes ml ret R hS ws Q os cells slots h pc Ls st := by
  intro p l e s vm0 m args below meth c T locs ok X sn fr K O eT
  obtain ⟨T', h', X', e', W, stp⟩ := f p l e _ m args below meth c T locs ok.1 ok.2.1 ok.2.2.2.2.2.1 X ok.2.2.2.1 ok.2.2.2.2.1 eT
  exact (k h' W p l e s vm0 m args below meth c T' _ ok X' (sn.wr ok.2.2.2.1 W sf) (Fr.snoc X' fr (ge_of O q)) (K.wr W q) O e').pre stp
theorem Rn.made {st st' : Addr → List Value} {st0 : List Value} {G : Heap → Addr → Prop} {c1 s1 : Nat} (k : ∀ h' a, a = h.size → hS.size ≤ a → Ext h h' → G h' a → Rn w Z EL own nm bytes ml ret R hS ws Q (a :: os) (cells + c1) (slots + s1) h' pc' Ls' (st' a))
    (lt : ∀ h', G h' h.size → h.size < h'.size)
    (f : ∀ (p : Program) (l : Launch) (e : Env) (s : State) (m : MethodId) (args : Array Value) (below : List Frame) (meth : Method) (c : Code) (T : State) (locs : List Loc), p.tables.exec = Jvm.exec → c.code = bytes → Stand p l e R s m args below meth c T locs cells slots → Z.Warmed39 s.vm → s.vm.findClass own = some m.cls → T.heap = h → ∃ T' h', Stand p l e R s m args below meth c T' locs (cells + c1) (slots + s1) ∧ T'.heap = h' ∧ Ext h h' ∧ G h' h.size ∧ ∀ t, Steps p.tables e below (T'.setTop (mkF m pc' Ls' (st' h.size))) t → Steps p.tables e below (T.setTop (mkF m pc Ls st0)) t) :
    Rn w Z EL own nm bytes ml ret R hS ws Q os cells slots h pc Ls st0 := by
  intro p l e s vm0 m args below meth c T locs ok X sn fr K O eT
  obtain ⟨T', h', X', e', E, g, stp⟩ := f p l e _ m args below meth c T locs ok.1 ok.2.1 X ok.2.2.2.1 ok.2.2.2.2.1 eT
  have sn1 : Sn w Z EL s vm0 h' os := sn.ext E
  have sn' : Sn w Z EL s vm0 h' (h.size :: os) := by
    cases w
    · exact sn1
    · refine ⟨sn1.1, sn1.2.1, sn1.2.2.1, fun x hx => ?_⟩
      rcases List.mem_cons.mp hx with rfl | hx
      · exact ⟨lt h' g, (Safe.new (Nat.le_refl _)).ext E sn.2.1.1⟩
      · exact sn1.2.2.2 x hx
  exact (k h' h.size rfl K.1 E g p l e s vm0 m args below meth c T' _ ok X' sn' fr (K.ext E) O e').pre stp
theorem Rn.old (k : Ext Z.heap h → Keep hS h ws → Rn w Z EL own nm bytes ml ret R hS ws Q os cells slots h pc Ls rest) : Rn w Z EL own nm bytes ml ret R hS ws Q os cells slots h pc Ls rest := by
  intro p l e s vm0 m args below meth c T locs ok X sn fr K O eT
  have X0 : Old Z Z.heap.size h := Old.keep (h := hS) ⟨rfl, O.1⟩ K O.2
  exact k X0.2 K p l e s vm0 m args below meth c T locs ok X sn fr K O eT
theorem Rn.more {c2 s2 : Nat} (hc : cells ≤ c2) (hs : slots ≤ s2) (k : Rn w Z EL own nm bytes ml ret R hS ws Q os c2 s2 h pc Ls rest) : Rn w Z EL own nm bytes ml ret R hS ws Q os cells slots h pc Ls rest := by
  intro p l e s vm0 m args below meth c T locs ok X sn fr K O eT
  exact k p l e s vm0 m args below meth c T locs ok (X.more hc hs) sn fr K O eT
theorem Rn.less {os' : List Addr} (q : ∀ x ∈ os', x ∈ os) (k : Rn w Z EL own nm bytes ml ret R hS ws Q os' cells slots h pc Ls rest) : Rn w Z EL own nm bytes ml ret R hS ws Q os cells slots h pc Ls rest := by
  intro p l e s vm0 m args below meth c T locs ok X sn fr K O eT
  refine k p l e s vm0 m args below meth c T locs ok X ?_ fr K O eT
  cases w
  · exact sn
  · exact ⟨sn.1, sn.2.1, sn.2.2.1, fun x hx => sn.2.2.2 x (q x hx)⟩
/-! ### the ends -/
theorem Rn.leave {v : Option Value} {st : List Value} (hc : cells ≤ R.cells) (hs : slots ≤ R.slots) (hv : ret = none → v = none) (q : Q v h)
    (f : ∀ (p : Program) (l : Launch) (e : Env) (s : State) (m : MethodId) (args : Array Value) (below : List Frame) (meth : Method) (c : Code) (T : State) (locs : List Loc) (fs : List Frame), p.tables.exec = Jvm.exec → c.code = bytes → meth.sig.returnType = ret → Stand p l e R s m args below meth c T locs cells slots → (∀ (f : JFrame) (acts : List Action), f.method = m → f.locked = none → f.entered = [] → (doReturn e (T.setTop f) acts v).1 = T.setFrames fs) → Steps p.tables e below (T.setTop (mkF m pc Ls st)) (T.setFrames fs)) :
    Rn w Z EL own nm bytes ml ret R hS ws Q os cells slots h pc Ls st := by
  intro p l e s vm0 m args below meth c T locs ok X sn fr K O eT
  obtain ⟨hx, hby, hml, hZ, hown, hnm, hret, hlk⟩ := ok
  subst eT
  cases w
  · cases (sn : vm0 = s.vm)
    obtain ⟨fs, hr, hrun, hended, hW, hsame⟩ := X.leave (v := v) (fun z => hv (hret.symm.trans z)) hlk
    exact ⟨_, _, f p l e _ m args below meth c T locs fs hx hby hret X hr, hrun, hended, _, _, rfl, ⟨fr, K, q⟩, ⟨_, rfl⟩, hW, hsame.mono hc hs⟩
  · obtain ⟨⟨k0, hS0, hk⟩, hC, ⟨b0, hE⟩, -⟩ := sn
    obtain ⟨fs, hr, hrun, hended, h1, h2, h3, h4⟩ := Jvm.Stand.leaveW X hS0 hk (v := v) (fun z => hv (hret.symm.trans z)) hlk
    exact ⟨_, _, f p l e _ m args below meth c T locs fs hx hby hret X hr, hrun, hended, _, _, rfl, ⟨fr, K, q⟩, (show CHr Z EL s.vm s.heap T.vm T.heap from hC.trans (CHv.at X hZ hE hC.1)), h1, h2, h3, h4.mono hc hs⟩
theorem Rn.retV (hr : ret = none) (hd : decode bytes pc = .ok (.return_, 1)) (hc : cells ≤ R.cells) (hs : slots ≤ R.slots) (q : Q none h) : Rn w Z EL own nm bytes ml ret R hS ws Q os cells slots h pc Ls [] :=
  Rn.leave (v := none) hc hs (fun _ => rfl) q fun p l e s m args below meth c T locs fs hx hby hret X hl => X.returnOut hx (hret.trans hr) (hb hby hd) hl
theorem Rn.retN {t : FieldType} {z : Int32} (hr : ret = some t) (ht : t = .boolean ∨ t = .byte ∨ t = .char ∨ t = .short) (hd : decode bytes pc = .ok (.ireturn, 1)) (hc : cells ≤ R.cells) (hs : slots ≤ R.slots) (q : Q (some (.int (nar t z))) h) : Rn w Z EL own nm bytes ml ret R hS ws Q os cells slots h pc Ls (.int z :: rest) :=
  Rn.leave (v := some (.int (nar t z))) hc hs (fun z => by rw [hr] at z; cases z) q fun p l e s m args below meth c T locs fs hx hby hret X hl => Jvm.RoadKit.retN X hx (hret.trans hr) ht (hb hby hd) hl
theorem Rn.retO {t : FieldType} {v : Value} {i : Instr} (hr : ret = some t) (hn : narrow t v = v) (hi : (i = .ireturn ∧ (t = .int ∨ t = .boolean ∨ t = .byte ∨ t = .char ∨ t = .short) ∧ ∃ z, v = .int z) ∨ (i = .lreturn ∧ t = .long ∧ ∃ z, v = .long z) ∨ (i = .dreturn ∧ t = .double ∧ ∃ z, v = .double z) ∨ (i = .freturn ∧ t = .float ∧ ∃ z, v = .float z) ∨ (i = .areturn ∧ t.isReference = true ∧ v.isRef = true)) (hd : decode bytes pc = .ok (i, 1)) (hc : cells ≤ R.cells) (hs : slots ≤ R.slots) (q : Q (some v) h) : Rn w Z EL own nm bytes ml ret R hS ws Q os cells slots h pc Ls (v :: rest) :=
  Rn.leave (v := some v) hc hs (fun z => by rw [hr] at z; cases z) q fun p l e s m args below meth c T locs fs hx hby hret X hl => retOut X hx (hret.trans hr) hn hi (hb hby hd) hl
theorem Rn.retI {z : Int32} (hr : ret = some .int) (hd : decode bytes pc = .ok (.ireturn, 1)) (hc : cells ≤ R.cells) (hs : slots ≤ R.slots) (q : Q (some (.int z)) h) : Rn w Z EL own nm bytes ml ret R hS ws Q os cells slots h pc Ls (.int z :: rest) :=
  Rn.retO hr rfl (Or.inl ⟨rfl, Or.inl rfl, _, rfl⟩) hd hc hs q
theorem Rn.retJ {z : Int64} (hr : ret = some .long) (hd : decode bytes pc = .ok (.lreturn, 1)) (hc : cells ≤ R.cells) (hs : slots ≤ R.slots) (q : Q (some (.long z)) h) : Rn w Z EL own nm bytes ml ret R hS ws Q os cells slots h pc Ls (.long z :: rest) :=
  Rn.retO hr rfl (Or.inr (Or.inl ⟨rfl, rfl, _, rfl⟩)) hd hc hs q
theorem Rn.retD {z : UInt64} (hr : ret = some .double) (hd : decode bytes pc = .ok (.dreturn, 1)) (hc : cells ≤ R.cells) (hs : slots ≤ R.slots) (q : Q (some (.double z)) h) : Rn w Z EL own nm bytes ml ret R hS ws Q os cells slots h pc Ls (.double z :: rest) :=
  Rn.retO hr rfl (Or.inr (Or.inr (Or.inl ⟨rfl, rfl, _, rfl⟩))) hd hc hs q
theorem Rn.retA {t : FieldType} {v : Value} (hr : ret = some t) (ht : t.isReference = true) (hv : v.isRef = true) (hd : decode bytes pc = .ok (.areturn, 1)) (hc : cells ≤ R.cells) (hs : slots ≤ R.slots) (q : Q (some v) h) : Rn w Z EL own nm bytes ml ret R hS ws Q os cells slots h pc Ls (v :: rest) :=
  Rn.retO hr (by rcases ref_cases hv with rfl | ⟨a, rfl⟩ <;> cases t <;> simp [FieldType.isReference] at ht <;> rfl) (Or.inr (Or.inr (Or.inr (Or.inr ⟨rfl, ht, hv⟩)))) hd hc hs q
end Core
section Steps
variable {w : Bool} {Z : State} {EL : List (String × Nat)} {own nm : String} {bytes : ByteArray} {ml : Nat} {ret : Option FieldType} {R : Room} {hS : Heap} {ws : List Addr} {Q : Option Value → Heap → Prop} {os : List Addr} {cells slots : Nat} {h h' : Heap} {pc pc' : Nat} {Ls Ls' : Array Slot} {rest : List Value} {a0 : Array Value}
theorem Rn.iconst {i : Int} {v : Int32} (hd : decode bytes pc = .ok (.iconst i, 1)) (hv : Int32.ofInt i = v) (hp : pc + 1 = pc') (k : Rn w Z EL own nm bytes ml ret R hS ws Q os cells slots h pc' Ls (.int v :: rest)) : Rn w Z EL own nm bytes ml ret R hS ws Q os cells slots h pc Ls rest :=
  k.pure fun p l e s m args below meth c T locs hx hby X hZ hown eT t r => by subst hp; exact XS.iconst X.here hx rfl (hb hby hd) (hv ▸ r)
theorem Rn.bipush {i : Int} {v : Int32} (hd : decode bytes pc = .ok (.bipush i, 2)) (hv : (Int8.ofInt i).toInt32 = v) (hp : pc + 2 = pc') (k : Rn w Z EL own nm bytes ml ret R hS ws Q os cells slots h pc' Ls (.int v :: rest)) : Rn w Z EL own nm bytes ml ret R hS ws Q os cells slots h pc Ls rest :=
  k.pure fun p l e s m args below meth c T locs hx hby X hZ hown eT t r => by subst hp; exact XS.bipush X.here hx rfl (hb hby hd) (hv ▸ r)
theorem Rn.sipush {i : Int} {v : Int32} (hd : decode bytes pc = .ok (.sipush i, 3)) (hv : (Int16.ofInt i).toInt32 = v) (hp : pc + 3 = pc') (k : Rn w Z EL own nm bytes ml ret R hS ws Q os cells slots h pc' Ls (.int v :: rest)) : Rn w Z EL own nm bytes ml ret R hS ws Q os cells slots h pc Ls rest :=
  k.pure fun p l e s m args below meth c T locs hx hby X hZ hown eT t r => by subst hp; exact XS.sipush X.here hx rfl (hb hby hd) (hv ▸ r)
theorem Rn.lconst {i : Fin 2} {v : Int64} (hd : decode bytes pc = .ok (.lconst i, 1)) (hv : Int64.ofNat i = v) (hp : pc + 1 = pc') (k : Rn w Z EL own nm bytes ml ret R hS ws Q os cells slots h pc' Ls (.long v :: rest)) : Rn w Z EL own nm bytes ml ret R hS ws Q os cells slots h pc Ls rest :=
  k.pure fun p l e s m args below meth c T locs hx hby X hZ hown eT t r => by subst hp; exact XT.lconst X.here hx rfl (hb hby hd) (hv ▸ r)
theorem Rn.dconst0 {v : UInt64} (hd : decode bytes pc = .ok (.dconst 0, 1)) (hv : FP.dconst0 = v) (hp : pc + 1 = pc') (k : Rn w Z EL own nm bytes ml ret R hS ws Q os cells slots h pc' Ls (.double v :: rest)) : Rn w Z EL own nm bytes ml ret R hS ws Q os cells slots h pc Ls rest :=
  k.pure fun p l e s m args below meth c T locs hx hby X hZ hown eT t r => by subst hp; exact XS.dconst0 X.here hx rfl (hb hby hd) hv r
theorem Rn.dconst1 {v : UInt64} (hd : decode bytes pc = .ok (.dconst 1, 1)) (hv : FP.dconst1 = v) (hp : pc + 1 = pc') (k : Rn w Z EL own nm bytes ml ret R hS ws Q os cells slots h pc' Ls (.double v :: rest)) : Rn w Z EL own nm bytes ml ret R hS ws Q os cells slots h pc Ls rest :=
  k.pure fun p l e s m args below meth c T locs hx hby X hZ hown eT t r => by subst hp; exact XS.dconst1 X.here hx rfl (hb hby hd) hv r
theorem Rn.aconst_null  (hd : decode bytes pc = .ok (.aconst_null, 1)) (hp : pc + 1 = pc') (k : Rn w Z EL own nm bytes ml ret R hS ws Q os cells slots h pc' Ls (.null :: rest)) : Rn w Z EL own nm bytes ml ret R hS ws Q os cells slots h pc Ls rest :=
  k.pure fun p l e s m args below meth c T locs hx hby X hZ hown eT t r => by subst hp; exact XS.aconstNull X.here hx rfl (hb hby hd) r
theorem Rn.iload {n : Nat} {v : Int32} (hd : decode bytes pc = .ok (.iload n, 2)) (hl : Ls[n]? = some (.val (.int v))) (hp : pc + 2 = pc') (k : Rn w Z EL own nm bytes ml ret R hS ws Q os cells slots h pc' Ls (.int v :: rest)) : Rn w Z EL own nm bytes ml ret R hS ws Q os cells slots h pc Ls rest :=
  k.pure fun p l e s m args below meth c T locs hx hby X hZ hown eT t r => by subst hp; exact XS.iload X.here hx rfl (hb hby hd) hl r
theorem Rn.iloadN {n : Fin 4} {v : Int32} (hd : decode bytes pc = .ok (.iload_n n, 1)) (hl : Ls[n.val]? = some (.val (.int v))) (hp : pc + 1 = pc') (k : Rn w Z EL own nm bytes ml ret R hS ws Q os cells slots h pc' Ls (.int v :: rest)) : Rn w Z EL own nm bytes ml ret R hS ws Q os cells slots h pc Ls rest :=
  k.pure fun p l e s m args below meth c T locs hx hby X hZ hown eT t r => by subst hp; exact XS.iloadN X.here hx rfl (hb hby hd) hl r
theorem Rn.istore {n : Nat} {v : Int32} (hd : decode bytes pc = .ok (.istore n, 2)) (hl : storeLocals Ls n (.int v) = some Ls') (hp : pc + 2 = pc') (k : Rn w Z EL own nm bytes ml ret R hS ws Q os cells slots h pc' Ls' rest) : Rn w Z EL own nm bytes ml ret R hS ws Q os cells slots h pc Ls (.int v :: rest) :=
  k.pure fun p l e s m args below meth c T locs hx hby X hZ hown eT t r => by subst hp; exact XS.istore X.here hx rfl (hb hby hd) rfl hl r
theorem Rn.istoreN {n : Fin 4} {v : Int32} (hd : decode bytes pc = .ok (.istore_n n, 1)) (hl : storeLocals Ls n.val (.int v) = some Ls') (hp : pc + 1 = pc') (k : Rn w Z EL own nm bytes ml ret R hS ws Q os cells slots h pc' Ls' rest) : Rn w Z EL own nm bytes ml ret R hS ws Q os cells slots h pc Ls (.int v :: rest) :=
  k.pure fun p l e s m args below meth c T locs hx hby X hZ hown eT t r => by subst hp; exact XS.istoreN X.here hx rfl (hb hby hd) rfl hl r
theorem Rn.lload {n : Nat} {v : Int64} (hd : decode bytes pc = .ok (.lload n, 2)) (hl : Ls[n]? = some (.val (.long v))) (hp : pc + 2 = pc') (k : Rn w Z EL own nm bytes ml ret R hS ws Q os cells slots h pc' Ls (.long v :: rest)) : Rn w Z EL own nm bytes ml ret R hS ws Q os cells slots h pc Ls rest :=
  k.pure fun p l e s m args below meth c T locs hx hby X hZ hown eT t r => by subst hp; exact XT.lload X.here hx rfl (hb hby hd) hl r
theorem Rn.lloadN {n : Fin 4} {v : Int64} (hd : decode bytes pc = .ok (.lload_n n, 1)) (hl : Ls[n.val]? = some (.val (.long v))) (hp : pc + 1 = pc') (k : Rn w Z EL own nm bytes ml ret R hS ws Q os cells slots h pc' Ls (.long v :: rest)) : Rn w Z EL own nm bytes ml ret R hS ws Q os cells slots h pc Ls rest :=
  k.pure fun p l e s m args below meth c T locs hx hby X hZ hown eT t r => by subst hp; exact XT.lloadN X.here hx rfl (hb hby hd) hl r
theorem Rn.lstore {n : Nat} {v : Int64} (hd : decode bytes pc = .ok (.lstore n, 2)) (hl : storeLocals Ls n (.long v) = some Ls') (hp : pc + 2 = pc') (k : Rn w Z EL own nm bytes ml ret R hS ws Q os cells slots h pc' Ls' rest) : Rn w Z EL own nm bytes ml ret R hS ws Q os cells slots h pc Ls (.long v :: rest) :=
  k.pure fun p l e s m args below meth c T locs hx hby X hZ hown eT t r => by subst hp; exact XT.lstore X.here hx rfl (hb hby hd) rfl hl r
theorem Rn.lstoreN {n : Fin 4} {v : Int64} (hd : decode bytes pc = .ok (.lstore_n n, 1)) (hl : storeLocals Ls n.val (.long v) = some Ls') (hp : pc + 1 = pc') (k : Rn w Z EL own nm bytes ml ret R hS ws Q os cells slots h pc' Ls' rest) : Rn w Z EL own nm bytes ml ret R hS ws Q os cells slots h pc Ls (.long v :: rest) :=
  k.pure fun p l e s m args below meth c T locs hx hby X hZ hown eT t r => by subst hp; exact XT.lstoreN X.here hx rfl (hb hby hd) rfl hl r
theorem Rn.dload {n : Nat} {v : UInt64} (hd : decode bytes pc = .ok (.dload n, 2)) (hl : Ls[n]? = some (.val (.double v))) (hp : pc + 2 = pc') (k : Rn w Z EL own nm bytes ml ret R hS ws Q os cells slots h pc' Ls (.double v :: rest)) : Rn w Z EL own nm bytes ml ret R hS ws Q os cells slots h pc Ls rest :=
  k.pure fun p l e s m args below meth c T locs hx hby X hZ hown eT t r => by subst hp; exact XS.dload X.here hx rfl (hb hby hd) hl r
theorem Rn.dloadN {n : Fin 4} {v : UInt64} (hd : decode bytes pc = .ok (.dload_n n, 1)) (hl : Ls[n.val]? = some (.val (.double v))) (hp : pc + 1 = pc') (k : Rn w Z EL own nm bytes ml ret R hS ws Q os cells slots h pc' Ls (.double v :: rest)) : Rn w Z EL own nm bytes ml ret R hS ws Q os cells slots h pc Ls rest :=
  k.pure fun p l e s m args below meth c T locs hx hby X hZ hown eT t r => by subst hp; exact XS.dloadN X.here hx rfl (hb hby hd) hl r
theorem Rn.dstore {n : Nat} {v : UInt64} (hd : decode bytes pc = .ok (.dstore n, 2)) (hl : storeLocals Ls n (.double v) = some Ls') (hp : pc + 2 = pc') (k : Rn w Z EL own nm bytes ml ret R hS ws Q os cells slots h pc' Ls' rest) : Rn w Z EL own nm bytes ml ret R hS ws Q os cells slots h pc Ls (.double v :: rest) :=
  k.pure fun p l e s m args below meth c T locs hx hby X hZ hown eT t r => by subst hp; exact XS.dstore X.here hx rfl (hb hby hd) rfl hl r
theorem Rn.dstoreN {n : Fin 4} {v : UInt64} (hd : decode bytes pc = .ok (.dstore_n n, 1)) (hl : storeLocals Ls n.val (.double v) = some Ls') (hp : pc + 1 = pc') (k : Rn w Z EL own nm bytes ml ret R hS ws Q os cells slots h pc' Ls' rest) : Rn w Z EL own nm bytes ml ret R hS ws Q os cells slots h pc Ls (.double v :: rest) :=
  k.pure fun p l e s m args below meth c T locs hx hby X hZ hown eT t r => by subst hp; exact XS.dstoreN X.here hx rfl (hb hby hd) rfl hl r
theorem Rn.aload {n : Nat} {v : Value} (hd : decode bytes pc = .ok (.aload n, 2)) (hl : Ls[n]? = some (.val v)) (hv : v.isRef = true) (hp : pc + 2 = pc') (k : Rn w Z EL own nm bytes ml ret R hS ws Q os cells slots h pc' Ls (v :: rest)) : Rn w Z EL own nm bytes ml ret R hS ws Q os cells slots h pc Ls rest :=
  k.pure fun p l e s m args below meth c T locs hx hby X hZ hown eT t r => by subst hp; exact XS.aload X.here hx rfl (hb hby hd) hl hv r
theorem Rn.aloadN {n : Fin 4} {v : Value} (hd : decode bytes pc = .ok (.aload_n n, 1)) (hl : Ls[n.val]? = some (.val v)) (hv : v.isRef = true) (hp : pc + 1 = pc') (k : Rn w Z EL own nm bytes ml ret R hS ws Q os cells slots h pc' Ls (v :: rest)) : Rn w Z EL own nm bytes ml ret R hS ws Q os cells slots h pc Ls rest :=
  k.pure fun p l e s m args below meth c T locs hx hby X hZ hown eT t r => by subst hp; exact XS.aloadN X.here hx rfl (hb hby hd) hl hv r
theorem Rn.astore {n : Nat} {v : Value} (hd : decode bytes pc = .ok (.astore n, 2)) (hv : v.isRef = true) (hl : storeLocals Ls n v = some Ls') (hp : pc + 2 = pc') (k : Rn w Z EL own nm bytes ml ret R hS ws Q os cells slots h pc' Ls' rest) : Rn w Z EL own nm bytes ml ret R hS ws Q os cells slots h pc Ls (v :: rest) :=
  k.pure fun p l e s m args below meth c T locs hx hby X hZ hown eT t r => by subst hp; exact XS.astore X.here hx rfl (hb hby hd) rfl hv hl r
theorem Rn.astoreN {n : Fin 4} {v : Value} (hd : decode bytes pc = .ok (.astore_n n, 1)) (hv : v.isRef = true) (hl : storeLocals Ls n.val v = some Ls') (hp : pc + 1 = pc') (k : Rn w Z EL own nm bytes ml ret R hS ws Q os cells slots h pc' Ls' rest) : Rn w Z EL own nm bytes ml ret R hS ws Q os cells slots h pc Ls (v :: rest) :=
  k.pure fun p l e s m args below meth c T locs hx hby X hZ hown eT t r => by subst hp; exact XS.astoreN X.here hx rfl (hb hby hd) rfl hv hl r
theorem Rn.iinc {n : Nat} {ct : Int} {x v : Int32} (hd : decode bytes pc = .ok (.iinc n ct, 3)) (hl : Ls[n]? = some (.val (.int x))) (hv : x + Int32.ofInt ct = v) (hl' : storeLocals Ls n (.int v) = some Ls') (hp : pc + 3 = pc') (k : Rn w Z EL own nm bytes ml ret R hS ws Q os cells slots h pc' Ls' rest) : Rn w Z EL own nm bytes ml ret R hS ws Q os cells slots h pc Ls rest :=
  k.pure fun p l e s m args below meth c T locs hx hby X hZ hown eT t r => by subst hp; exact XS.iinc X.here hx rfl (hb hby hd) hl (hv ▸ hl') r
theorem Rn.iadd {x y v : Int32} (hd : decode bytes pc = .ok (.iadd, 1)) (hv : x + y = v) (hp : pc + 1 = pc') (k : Rn w Z EL own nm bytes ml ret R hS ws Q os cells slots h pc' Ls (.int v :: rest)) : Rn w Z EL own nm bytes ml ret R hS ws Q os cells slots h pc Ls (.int y :: .int x :: rest) :=
  k.pure fun p l e s m args below meth c T locs hx hby X hZ hown eT t r => by subst hp; exact XS.iadd X.here hx rfl (hb hby hd) rfl (hv ▸ r)
theorem Rn.isub {x y v : Int32} (hd : decode bytes pc = .ok (.isub, 1)) (hv : x - y = v) (hp : pc + 1 = pc') (k : Rn w Z EL own nm bytes ml ret R hS ws Q os cells slots h pc' Ls (.int v :: rest)) : Rn w Z EL own nm bytes ml ret R hS ws Q os cells slots h pc Ls (.int y :: .int x :: rest) :=
  k.pure fun p l e s m args below meth c T locs hx hby X hZ hown eT t r => by subst hp; exact XS.isub X.here hx rfl (hb hby hd) rfl (hv ▸ r)
theorem Rn.imul {x y v : Int32} (hd : decode bytes pc = .ok (.imul, 1)) (hv : x * y = v) (hp : pc + 1 = pc') (k : Rn w Z EL own nm bytes ml ret R hS ws Q os cells slots h pc' Ls (.int v :: rest)) : Rn w Z EL own nm bytes ml ret R hS ws Q os cells slots h pc Ls (.int y :: .int x :: rest) :=
  k.pure fun p l e s m args below meth c T locs hx hby X hZ hown eT t r => by subst hp; exact XS.imul X.here hx rfl (hb hby hd) rfl (hv ▸ r)
theorem Rn.iand {x y v : Int32} (hd : decode bytes pc = .ok (.iand, 1)) (hv : x &&& y = v) (hp : pc + 1 = pc') (k : Rn w Z EL own nm bytes ml ret R hS ws Q os cells slots h pc' Ls (.int v :: rest)) : Rn w Z EL own nm bytes ml ret R hS ws Q os cells slots h pc Ls (.int y :: .int x :: rest) :=
  k.pure fun p l e s m args below meth c T locs hx hby X hZ hown eT t r => by subst hp; exact XS.iand X.here hx rfl (hb hby hd) rfl (hv ▸ r)
theorem Rn.ior {x y v : Int32} (hd : decode bytes pc = .ok (.ior, 1)) (hv : x ||| y = v) (hp : pc + 1 = pc') (k : Rn w Z EL own nm bytes ml ret R hS ws Q os cells slots h pc' Ls (.int v :: rest)) : Rn w Z EL own nm bytes ml ret R hS ws Q os cells slots h pc Ls (.int y :: .int x :: rest) :=
  k.pure fun p l e s m args below meth c T locs hx hby X hZ hown eT t r => by subst hp; exact XT.ior X.here hx rfl (hb hby hd) rfl (hv ▸ r)
theorem Rn.ixor {x y v : Int32} (hd : decode bytes pc = .ok (.ixor, 1)) (hv : x ^^^ y = v) (hp : pc + 1 = pc') (k : Rn w Z EL own nm bytes ml ret R hS ws Q os cells slots h pc' Ls (.int v :: rest)) : Rn w Z EL own nm bytes ml ret R hS ws Q os cells slots h pc Ls (.int y :: .int x :: rest) :=
  k.pure fun p l e s m args below meth c T locs hx hby X hZ hown eT t r => by subst hp; exact XT.ixor X.here hx rfl (hb hby hd) rfl (hv ▸ r)
theorem Rn.ishl {x y v : Int32} (hd : decode bytes pc = .ok (.ishl, 1)) (hv : x <<< (y &&& 31) = v) (hp : pc + 1 = pc') (k : Rn w Z EL own nm bytes ml ret R hS ws Q os cells slots h pc' Ls (.int v :: rest)) : Rn w Z EL own nm bytes ml ret R hS ws Q os cells slots h pc Ls (.int y :: .int x :: rest) :=
  k.pure fun p l e s m args below meth c T locs hx hby X hZ hown eT t r => by subst hp; exact XT.ishl X.here hx rfl (hb hby hd) rfl (hv ▸ r)
theorem Rn.ishr {x y v : Int32} (hd : decode bytes pc = .ok (.ishr, 1)) (hv : x >>> (y &&& 31) = v) (hp : pc + 1 = pc') (k : Rn w Z EL own nm bytes ml ret R hS ws Q os cells slots h pc' Ls (.int v :: rest)) : Rn w Z EL own nm bytes ml ret R hS ws Q os cells slots h pc Ls (.int y :: .int x :: rest) :=
  k.pure fun p l e s m args below meth c T locs hx hby X hZ hown eT t r => by subst hp; exact XT.ishr X.here hx rfl (hb hby hd) rfl (hv ▸ r)
theorem Rn.iushr {x y v : Int32} (hd : decode bytes pc = .ok (.iushr, 1)) (hv : XT.ushr x y = v) (hp : pc + 1 = pc') (k : Rn w Z EL own nm bytes ml ret R hS ws Q os cells slots h pc' Ls (.int v :: rest)) : Rn w Z EL own nm bytes ml ret R hS ws Q os cells slots h pc Ls (.int y :: .int x :: rest) :=
  k.pure fun p l e s m args below meth c T locs hx hby X hZ hown eT t r => by subst hp; exact XT.iushr X.here hx rfl (hb hby hd) rfl (hv ▸ r)
theorem Rn.idiv {x y v : Int32} (hd : decode bytes pc = .ok (.idiv, 1)) (hy : y ≠ 0) (hv : x / y = v) (hp : pc + 1 = pc') (k : Rn w Z EL own nm bytes ml ret R hS ws Q os cells slots h pc' Ls (.int v :: rest)) : Rn w Z EL own nm bytes ml ret R hS ws Q os cells slots h pc Ls (.int y :: .int x :: rest) :=
  k.pure fun p l e s m args below meth c T locs hx hby X hZ hown eT t r => by subst hp; exact XS.idiv X.here hx rfl (hb hby hd) rfl hy (hv ▸ r)
theorem Rn.irem {x y v : Int32} (hd : decode bytes pc = .ok (.irem, 1)) (hy : y ≠ 0) (hv : x % y = v) (hp : pc + 1 = pc') (k : Rn w Z EL own nm bytes ml ret R hS ws Q os cells slots h pc' Ls (.int v :: rest)) : Rn w Z EL own nm bytes ml ret R hS ws Q os cells slots h pc Ls (.int y :: .int x :: rest) :=
  k.pure fun p l e s m args below meth c T locs hx hby X hZ hown eT t r => by subst hp; exact iremM X hx rfl (hb hby hd) rfl hy (hv ▸ r)
theorem Rn.ineg {x v : Int32} (hd : decode bytes pc = .ok (.ineg, 1)) (hv : -x = v) (hp : pc + 1 = pc') (k : Rn w Z EL own nm bytes ml ret R hS ws Q os cells slots h pc' Ls (.int v :: rest)) : Rn w Z EL own nm bytes ml ret R hS ws Q os cells slots h pc Ls (.int x :: rest) :=
  k.pure fun p l e s m args below meth c T locs hx hby X hZ hown eT t r => by subst hp; exact XS.ineg X.here hx rfl (hb hby hd) rfl (hv ▸ r)
theorem Rn.ladd {x y v : Int64} (hd : decode bytes pc = .ok (.ladd, 1)) (hv : x + y = v) (hp : pc + 1 = pc') (k : Rn w Z EL own nm bytes ml ret R hS ws Q os cells slots h pc' Ls (.long v :: rest)) : Rn w Z EL own nm bytes ml ret R hS ws Q os cells slots h pc Ls (.long y :: .long x :: rest) :=
  k.pure fun p l e s m args below meth c T locs hx hby X hZ hown eT t r => by subst hp; exact XT.ladd X.here hx rfl (hb hby hd) rfl (hv ▸ r)
theorem Rn.lsub {x y v : Int64} (hd : decode bytes pc = .ok (.lsub, 1)) (hv : x - y = v) (hp : pc + 1 = pc') (k : Rn w Z EL own nm bytes ml ret R hS ws Q os cells slots h pc' Ls (.long v :: rest)) : Rn w Z EL own nm bytes ml ret R hS ws Q os cells slots h pc Ls (.long y :: .long x :: rest) :=
  k.pure fun p l e s m args below meth c T locs hx hby X hZ hown eT t r => by subst hp; exact XT.lsub X.here hx rfl (hb hby hd) rfl (hv ▸ r)
theorem Rn.lmul {x y v : Int64} (hd : decode bytes pc = .ok (.lmul, 1)) (hv : x * y = v) (hp : pc + 1 = pc') (k : Rn w Z EL own nm bytes ml ret R hS ws Q os cells slots h pc' Ls (.long v :: rest)) : Rn w Z EL own nm bytes ml ret R hS ws Q os cells slots h pc Ls (.long y :: .long x :: rest) :=
  k.pure fun p l e s m args below meth c T locs hx hby X hZ hown eT t r => by subst hp; exact XT.lmul X.here hx rfl (hb hby hd) rfl (hv ▸ r)
theorem Rn.land {x y v : Int64} (hd : decode bytes pc = .ok (.land, 1)) (hv : x &&& y = v) (hp : pc + 1 = pc') (k : Rn w Z EL own nm bytes ml ret R hS ws Q os cells slots h pc' Ls (.long v :: rest)) : Rn w Z EL own nm bytes ml ret R hS ws Q os cells slots h pc Ls (.long y :: .long x :: rest) :=
  k.pure fun p l e s m args below meth c T locs hx hby X hZ hown eT t r => by subst hp; exact XT.land X.here hx rfl (hb hby hd) rfl (hv ▸ r)
theorem Rn.lor {x y v : Int64} (hd : decode bytes pc = .ok (.lor, 1)) (hv : x ||| y = v) (hp : pc + 1 = pc') (k : Rn w Z EL own nm bytes ml ret R hS ws Q os cells slots h pc' Ls (.long v :: rest)) : Rn w Z EL own nm bytes ml ret R hS ws Q os cells slots h pc Ls (.long y :: .long x :: rest) :=
  k.pure fun p l e s m args below meth c T locs hx hby X hZ hown eT t r => by subst hp; exact XT.lor X.here hx rfl (hb hby hd) rfl (hv ▸ r)
theorem Rn.lxor {x y v : Int64} (hd : decode bytes pc = .ok (.lxor, 1)) (hv : x ^^^ y = v) (hp : pc + 1 = pc') (k : Rn w Z EL own nm bytes ml ret R hS ws Q os cells slots h pc' Ls (.long v :: rest)) : Rn w Z EL own nm bytes ml ret R hS ws Q os cells slots h pc Ls (.long y :: .long x :: rest) :=
  k.pure fun p l e s m args below meth c T locs hx hby X hZ hown eT t r => by subst hp; exact XT.lxor X.here hx rfl (hb hby hd) rfl (hv ▸ r)
theorem Rn.lshl {x v : Int64} {y : Int32} (hd : decode bytes pc = .ok (.lshl, 1)) (hv : x <<< (y.toInt64 &&& 63) = v) (hp : pc + 1 = pc') (k : Rn w Z EL own nm bytes ml ret R hS ws Q os cells slots h pc' Ls (.long v :: rest)) : Rn w Z EL own nm bytes ml ret R hS ws Q os cells slots h pc Ls (.int y :: .long x :: rest) :=
  k.pure fun p l e s m args below meth c T locs hx hby X hZ hown eT t r => by subst hp; exact XT.lshl X.here hx rfl (hb hby hd) rfl (hv ▸ r)
theorem Rn.lshr {x v : Int64} {y : Int32} (hd : decode bytes pc = .ok (.lshr, 1)) (hv : x >>> (y.toInt64 &&& 63) = v) (hp : pc + 1 = pc') (k : Rn w Z EL own nm bytes ml ret R hS ws Q os cells slots h pc' Ls (.long v :: rest)) : Rn w Z EL own nm bytes ml ret R hS ws Q os cells slots h pc Ls (.int y :: .long x :: rest) :=
  k.pure fun p l e s m args below meth c T locs hx hby X hZ hown eT t r => by subst hp; exact XT.lshr X.here hx rfl (hb hby hd) rfl (hv ▸ r)
theorem Rn.lushr {x v : Int64} {y : Int32} (hd : decode bytes pc = .ok (.lushr, 1)) (hv : XT.ushrL x y = v) (hp : pc + 1 = pc') (k : Rn w Z EL own nm bytes ml ret R hS ws Q os cells slots h pc' Ls (.long v :: rest)) : Rn w Z EL own nm bytes ml ret R hS ws Q os cells slots h pc Ls (.int y :: .long x :: rest) :=
  k.pure fun p l e s m args below meth c T locs hx hby X hZ hown eT t r => by subst hp; exact XT.lushr X.here hx rfl (hb hby hd) rfl (hv ▸ r)
theorem Rn.lneg {x v : Int64} (hd : decode bytes pc = .ok (.lneg, 1)) (hv : -x = v) (hp : pc + 1 = pc') (k : Rn w Z EL own nm bytes ml ret R hS ws Q os cells slots h pc' Ls (.long v :: rest)) : Rn w Z EL own nm bytes ml ret R hS ws Q os cells slots h pc Ls (.long x :: rest) :=
  k.pure fun p l e s m args below meth c T locs hx hby X hZ hown eT t r => by subst hp; exact XT.lneg X.here hx rfl (hb hby hd) rfl (hv ▸ r)
theorem Rn.i2l {x : Int32} {v : Int64} (hd : decode bytes pc = .ok (.i2l, 1)) (hv : x.toInt64 = v) (hp : pc + 1 = pc') (k : Rn w Z EL own nm bytes ml ret R hS ws Q os cells slots h pc' Ls (.long v :: rest)) : Rn w Z EL own nm bytes ml ret R hS ws Q os cells slots h pc Ls (.int x :: rest) :=
  k.pure fun p l e s m args below meth c T locs hx hby X hZ hown eT t r => by subst hp; exact XT.i2l X.here hx rfl (hb hby hd) rfl (hv ▸ r)
theorem Rn.l2i {x : Int64} {v : Int32} (hd : decode bytes pc = .ok (.l2i, 1)) (hv : x.toInt32 = v) (hp : pc + 1 = pc') (k : Rn w Z EL own nm bytes ml ret R hS ws Q os cells slots h pc' Ls (.int v :: rest)) : Rn w Z EL own nm bytes ml ret R hS ws Q os cells slots h pc Ls (.long x :: rest) :=
  k.pure fun p l e s m args below meth c T locs hx hby X hZ hown eT t r => by subst hp; exact XT.l2i X.here hx rfl (hb hby hd) rfl (hv ▸ r)
theorem Rn.i2b {x : Int32} {v : Int32} (hd : decode bytes pc = .ok (.i2b, 1)) (hv : x.toInt8.toInt32 = v) (hp : pc + 1 = pc') (k : Rn w Z EL own nm bytes ml ret R hS ws Q os cells slots h pc' Ls (.int v :: rest)) : Rn w Z EL own nm bytes ml ret R hS ws Q os cells slots h pc Ls (.int x :: rest) :=
  k.pure fun p l e s m args below meth c T locs hx hby X hZ hown eT t r => by subst hp; exact XT.i2b X.here hx rfl (hb hby hd) rfl (hv ▸ r)
theorem Rn.i2c {x : Int32} {v : Int32} (hd : decode bytes pc = .ok (.i2c, 1)) (hv : x.toUInt32.toUInt16.toUInt32.toInt32 = v) (hp : pc + 1 = pc') (k : Rn w Z EL own nm bytes ml ret R hS ws Q os cells slots h pc' Ls (.int v :: rest)) : Rn w Z EL own nm bytes ml ret R hS ws Q os cells slots h pc Ls (.int x :: rest) :=
  k.pure fun p l e s m args below meth c T locs hx hby X hZ hown eT t r => by subst hp; exact XT.i2c X.here hx rfl (hb hby hd) rfl (hv ▸ r)
theorem Rn.i2s {x : Int32} {v : Int32} (hd : decode bytes pc = .ok (.i2s, 1)) (hv : x.toInt16.toInt32 = v) (hp : pc + 1 = pc') (k : Rn w Z EL own nm bytes ml ret R hS ws Q os cells slots h pc' Ls (.int v :: rest)) : Rn w Z EL own nm bytes ml ret R hS ws Q os cells slots h pc Ls (.int x :: rest) :=
  k.pure fun p l e s m args below meth c T locs hx hby X hZ hown eT t r => by subst hp; exact XT.i2s X.here hx rfl (hb hby hd) rfl (hv ▸ r)
theorem Rn.i2d {x : Int32} {v : UInt64} (hd : decode bytes pc = .ok (.i2d, 1)) (hv : FP.i2d x = v) (hp : pc + 1 = pc') (k : Rn w Z EL own nm bytes ml ret R hS ws Q os cells slots h pc' Ls (.double v :: rest)) : Rn w Z EL own nm bytes ml ret R hS ws Q os cells slots h pc Ls (.int x :: rest) :=
  k.pure fun p l e s m args below meth c T locs hx hby X hZ hown eT t r => by subst hp; exact XS.i2dS X.here hx rfl (hb hby hd) rfl hv r
theorem Rn.l2d {x : Int64} {v : UInt64} (hd : decode bytes pc = .ok (.l2d, 1)) (hv : FP.l2d x = v) (hp : pc + 1 = pc') (k : Rn w Z EL own nm bytes ml ret R hS ws Q os cells slots h pc' Ls (.double v :: rest)) : Rn w Z EL own nm bytes ml ret R hS ws Q os cells slots h pc Ls (.long x :: rest) :=
  k.pure fun p l e s m args below meth c T locs hx hby X hZ hown eT t r => by subst hp; exact XS.l2dS X.here hx rfl (hb hby hd) rfl hv r
theorem Rn.d2i {x : UInt64} {v : Int32} (hd : decode bytes pc = .ok (.d2i, 1)) (hv : FP.d2i x = v) (hp : pc + 1 = pc') (k : Rn w Z EL own nm bytes ml ret R hS ws Q os cells slots h pc' Ls (.int v :: rest)) : Rn w Z EL own nm bytes ml ret R hS ws Q os cells slots h pc Ls (.double x :: rest) :=
  k.pure fun p l e s m args below meth c T locs hx hby X hZ hown eT t r => by subst hp; exact XS.d2iS X.here hx rfl (hb hby hd) rfl hv r
theorem Rn.d2l {x : UInt64} {v : Int64} (hd : decode bytes pc = .ok (.d2l, 1)) (hv : FP.d2l x = v) (hp : pc + 1 = pc') (k : Rn w Z EL own nm bytes ml ret R hS ws Q os cells slots h pc' Ls (.long v :: rest)) : Rn w Z EL own nm bytes ml ret R hS ws Q os cells slots h pc Ls (.double x :: rest) :=
  k.pure fun p l e s m args below meth c T locs hx hby X hZ hown eT t r => by subst hp; exact XS.d2lS X.here hx rfl (hb hby hd) rfl hv r
theorem Rn.dneg {x : UInt64} {v : UInt64} (hd : decode bytes pc = .ok (.dneg, 1)) (hv : FP.dneg x = v) (hp : pc + 1 = pc') (k : Rn w Z EL own nm bytes ml ret R hS ws Q os cells slots h pc' Ls (.double v :: rest)) : Rn w Z EL own nm bytes ml ret R hS ws Q os cells slots h pc Ls (.double x :: rest) :=
  k.pure fun p l e s m args below meth c T locs hx hby X hZ hown eT t r => by subst hp; exact XS.dnegS X.here hx rfl (hb hby hd) rfl hv r
theorem Rn.dadd {x y v : UInt64} (hd : decode bytes pc = .ok (.dadd, 1)) (hn : Jvm.Free.Fl.NoNaN64 v) (hv : FP.dadd x y = v) (hp : pc + 1 = pc') (k : Rn w Z EL own nm bytes ml ret R hS ws Q os cells slots h pc' Ls (.double v :: rest)) : Rn w Z EL own nm bytes ml ret R hS ws Q os cells slots h pc Ls (.double y :: .double x :: rest) :=
  k.pure fun p l e s m args below meth c T locs hx hby X hZ hown eT t r => by subst hp; exact XS.daddS X.here hx rfl (hb hby hd) rfl (hv.symm ▸ hn) hv r
theorem Rn.dsub {x y v : UInt64} (hd : decode bytes pc = .ok (.dsub, 1)) (hn : Jvm.Free.Fl.NoNaN64 v) (hv : FP.dsub x y = v) (hp : pc + 1 = pc') (k : Rn w Z EL own nm bytes ml ret R hS ws Q os cells slots h pc' Ls (.double v :: rest)) : Rn w Z EL own nm bytes ml ret R hS ws Q os cells slots h pc Ls (.double y :: .double x :: rest) :=
  k.pure fun p l e s m args below meth c T locs hx hby X hZ hown eT t r => by subst hp; exact XS.dsubS X.here hx rfl (hb hby hd) rfl (hv.symm ▸ hn) hv r
theorem Rn.dmul {x y v : UInt64} (hd : decode bytes pc = .ok (.dmul, 1)) (hn : Jvm.Free.Fl.NoNaN64 v) (hv : FP.dmul x y = v) (hp : pc + 1 = pc') (k : Rn w Z EL own nm bytes ml ret R hS ws Q os cells slots h pc' Ls (.double v :: rest)) : Rn w Z EL own nm bytes ml ret R hS ws Q os cells slots h pc Ls (.double y :: .double x :: rest) :=
  k.pure fun p l e s m args below meth c T locs hx hby X hZ hown eT t r => by subst hp; exact XS.dmulS X.here hx rfl (hb hby hd) rfl (hv.symm ▸ hn) hv r
theorem Rn.ddiv {x y v : UInt64} (hd : decode bytes pc = .ok (.ddiv, 1)) (hn : Jvm.Free.Fl.NoNaN64 v) (hv : FP.ddiv x y = v) (hp : pc + 1 = pc') (k : Rn w Z EL own nm bytes ml ret R hS ws Q os cells slots h pc' Ls (.double v :: rest)) : Rn w Z EL own nm bytes ml ret R hS ws Q os cells slots h pc Ls (.double y :: .double x :: rest) :=
  k.pure fun p l e s m args below meth c T locs hx hby X hZ hown eT t r => by subst hp; exact XS.ddivS X.here hx rfl (hb hby hd) rfl (hv.symm ▸ hn) hv r
theorem Rn.dcmp {o : CmpOp} {x y : UInt64} {v : Int32} (hd : decode bytes pc = .ok (.dcmp o, 1)) (hv : cmpValue (FP.dcmp x y) o = v) (hp : pc + 1 = pc') (k : Rn w Z EL own nm bytes ml ret R hS ws Q os cells slots h pc' Ls (.int v :: rest)) : Rn w Z EL own nm bytes ml ret R hS ws Q os cells slots h pc Ls (.double y :: .double x :: rest) :=
  k.pure fun p l e s m args below meth c T locs hx hby X hZ hown eT t r => by subst hp; exact XS.dcmpS X.here hx rfl (hb hby hd) rfl hv r
theorem Rn.lcmp {x y : Int64} {v : Int32} (hd : decode bytes pc = .ok (.lcmp, 1)) (hv : XT.cmpL x y = v) (hp : pc + 1 = pc') (k : Rn w Z EL own nm bytes ml ret R hS ws Q os cells slots h pc' Ls (.int v :: rest)) : Rn w Z EL own nm bytes ml ret R hS ws Q os cells slots h pc Ls (.long y :: .long x :: rest) :=
  k.pure fun p l e s m args below meth c T locs hx hby X hZ hown eT t r => by subst hp; exact XT.lcmp X.here hx rfl (hb hby hd) rfl (hv ▸ r)
theorem Rn.pop {x : Value} (hd : decode bytes pc = .ok (.pop, 1)) (hc : x.category = 1) (hp : pc + 1 = pc') (k : Rn w Z EL own nm bytes ml ret R hS ws Q os cells slots h pc' Ls rest) : Rn w Z EL own nm bytes ml ret R hS ws Q os cells slots h pc Ls (x :: rest) :=
  k.pure fun p l e s m args below meth c T locs hx hby X hZ hown eT t r => by subst hp; exact XT.pop X.here hx rfl (hb hby hd) rfl hc r
theorem Rn.dup {x : Value} (hd : decode bytes pc = .ok (.dup, 1)) (hc : x.category = 1) (hp : pc + 1 = pc') (k : Rn w Z EL own nm bytes ml ret R hS ws Q os cells slots h pc' Ls (x :: x :: rest)) : Rn w Z EL own nm bytes ml ret R hS ws Q os cells slots h pc Ls (x :: rest) :=
  k.pure fun p l e s m args below meth c T locs hx hby X hZ hown eT t r => by subst hp; exact XS.dup X.here hx rfl (hb hby hd) rfl hc r
theorem Rn.dup_x1 {x y : Value} (hd : decode bytes pc = .ok (.dup_x1, 1)) (hc : x.category = 1) (hc' : y.category = 1) (hp : pc + 1 = pc') (k : Rn w Z EL own nm bytes ml ret R hS ws Q os cells slots h pc' Ls (x :: y :: x :: rest)) : Rn w Z EL own nm bytes ml ret R hS ws Q os cells slots h pc Ls (x :: y :: rest) :=
  k.pure fun p l e s m args below meth c T locs hx hby X hZ hown eT t r => by subst hp; exact XT.dupX1 X.here hx rfl (hb hby hd) rfl hc hc' r
theorem Rn.dup2 {x y : Value} (hd : decode bytes pc = .ok (.dup2, 1)) (hc : x.category = 1) (hc' : y.category = 1) (hp : pc + 1 = pc') (k : Rn w Z EL own nm bytes ml ret R hS ws Q os cells slots h pc' Ls (x :: y :: x :: y :: rest)) : Rn w Z EL own nm bytes ml ret R hS ws Q os cells slots h pc Ls (x :: y :: rest) :=
  k.pure fun p l e s m args below meth c T locs hx hby X hZ hown eT t r => by subst hp; exact XT.dup2 X.here hx rfl (hb hby hd) rfl hc hc' r
theorem Rn.goto {o : Int} (hd : decode bytes pc = .ok (.goto o, 3)) (ho : 0 ≤ (pc : Int) + o) (hp : ((pc : Int) + o).toNat = pc') (k : Rn w Z EL own nm bytes ml ret R hS ws Q os cells slots h pc' Ls rest) : Rn w Z EL own nm bytes ml ret R hS ws Q os cells slots h pc Ls rest :=
  k.pure fun p l e s m args below meth c T locs hx hby X hZ hown eT t r => XS.goto X.here hx rfl rfl (hb hby hd) ho hp r
theorem Rn.icmp_eq {x y : Int32} {o : Int} {pn : Nat} (hd : decode bytes pc = .ok (.if_icmp .eq o, 3)) (ho : 0 ≤ (pc : Int) + o) (hp : ((pc : Int) + o).toNat = pc') (hn : pc + 3 = pn) (ky : x = y → Rn w Z EL own nm bytes ml ret R hS ws Q os cells slots h pc' Ls rest) (kn : ¬ x = y → Rn w Z EL own nm bytes ml ret R hS ws Q os cells slots h pn Ls rest) : Rn w Z EL own nm bytes ml ret R hS ws Q os cells slots h pc Ls (.int y :: .int x :: rest) := by
  by_cases q : x = y
  · exact (ky q).pure fun p l e s m args below meth c T locs hx hby X hZ hown eT t r => XS.icmpYes X.here hx rfl rfl (hb hby hd) rfl (teq q).1 ho hp r
  · exact (kn q).pure fun p l e s m args below meth c T locs hx hby X hZ hown eT t r => by subst hn; exact XS.icmpNo X.here hx rfl (hb hby hd) rfl (feq q).1 r
theorem Rn.if_eq {x : Int32} {o : Int} {pn : Nat} (hd : decode bytes pc = .ok (.ifCond .eq o, 3)) (ho : 0 ≤ (pc : Int) + o) (hp : ((pc : Int) + o).toNat = pc') (hn : pc + 3 = pn) (ky : x = 0 → Rn w Z EL own nm bytes ml ret R hS ws Q os cells slots h pc' Ls rest) (kn : ¬ x = 0 → Rn w Z EL own nm bytes ml ret R hS ws Q os cells slots h pn Ls rest) : Rn w Z EL own nm bytes ml ret R hS ws Q os cells slots h pc Ls (.int x :: rest) := by
  by_cases q : x = 0
  · exact (ky q).pure fun p l e s m args below meth c T locs hx hby X hZ hown eT t r => XS.ifYes X.here hx rfl rfl (hb hby hd) rfl (by rw [if0]; exact (teq q).1) ho hp r
  · exact (kn q).pure fun p l e s m args below meth c T locs hx hby X hZ hown eT t r => by subst hn; exact XS.ifNo X.here hx rfl (hb hby hd) rfl (by rw [if0]; exact (feq q).1) r
theorem Rn.icmp_ne {x y : Int32} {o : Int} {pn : Nat} (hd : decode bytes pc = .ok (.if_icmp .ne o, 3)) (ho : 0 ≤ (pc : Int) + o) (hp : ((pc : Int) + o).toNat = pc') (hn : pc + 3 = pn) (ky : ¬ x = y → Rn w Z EL own nm bytes ml ret R hS ws Q os cells slots h pc' Ls rest) (kn : x = y → Rn w Z EL own nm bytes ml ret R hS ws Q os cells slots h pn Ls rest) : Rn w Z EL own nm bytes ml ret R hS ws Q os cells slots h pc Ls (.int y :: .int x :: rest) := by
  by_cases q : x = y
  · exact (kn q).pure fun p l e s m args below meth c T locs hx hby X hZ hown eT t r => by subst hn; exact XS.icmpNo X.here hx rfl (hb hby hd) rfl (teq q).2 r
  · exact (ky q).pure fun p l e s m args below meth c T locs hx hby X hZ hown eT t r => XS.icmpYes X.here hx rfl rfl (hb hby hd) rfl (feq q).2 ho hp r
theorem Rn.if_ne {x : Int32} {o : Int} {pn : Nat} (hd : decode bytes pc = .ok (.ifCond .ne o, 3)) (ho : 0 ≤ (pc : Int) + o) (hp : ((pc : Int) + o).toNat = pc') (hn : pc + 3 = pn) (ky : ¬ x = 0 → Rn w Z EL own nm bytes ml ret R hS ws Q os cells slots h pc' Ls rest) (kn : x = 0 → Rn w Z EL own nm bytes ml ret R hS ws Q os cells slots h pn Ls rest) : Rn w Z EL own nm bytes ml ret R hS ws Q os cells slots h pc Ls (.int x :: rest) := by
  by_cases q : x = 0
  · exact (kn q).pure fun p l e s m args below meth c T locs hx hby X hZ hown eT t r => by subst hn; exact XS.ifNo X.here hx rfl (hb hby hd) rfl (by rw [if0]; exact (teq q).2) r
  · exact (ky q).pure fun p l e s m args below meth c T locs hx hby X hZ hown eT t r => XS.ifYes X.here hx rfl rfl (hb hby hd) rfl (by rw [if0]; exact (feq q).2) ho hp r
theorem Rn.icmp_lt {x y : Int32} {o : Int} {pn : Nat} (hd : decode bytes pc = .ok (.if_icmp .lt o, 3)) (ho : 0 ≤ (pc : Int) + o) (hp : ((pc : Int) + o).toNat = pc') (hn : pc + 3 = pn) (ky : x < y → Rn w Z EL own nm bytes ml ret R hS ws Q os cells slots h pc' Ls rest) (kn : ¬ x < y → Rn w Z EL own nm bytes ml ret R hS ws Q os cells slots h pn Ls rest) : Rn w Z EL own nm bytes ml ret R hS ws Q os cells slots h pc Ls (.int y :: .int x :: rest) := by
  by_cases q : x < y
  · exact (ky q).pure fun p l e s m args below meth c T locs hx hby X hZ hown eT t r => XS.icmpYes X.here hx rfl rfl (hb hby hd) rfl (tlt q).1 ho hp r
  · exact (kn q).pure fun p l e s m args below meth c T locs hx hby X hZ hown eT t r => by subst hn; exact XS.icmpNo X.here hx rfl (hb hby hd) rfl (flt q).1 r
theorem Rn.if_lt {x : Int32} {o : Int} {pn : Nat} (hd : decode bytes pc = .ok (.ifCond .lt o, 3)) (ho : 0 ≤ (pc : Int) + o) (hp : ((pc : Int) + o).toNat = pc') (hn : pc + 3 = pn) (ky : x < 0 → Rn w Z EL own nm bytes ml ret R hS ws Q os cells slots h pc' Ls rest) (kn : ¬ x < 0 → Rn w Z EL own nm bytes ml ret R hS ws Q os cells slots h pn Ls rest) : Rn w Z EL own nm bytes ml ret R hS ws Q os cells slots h pc Ls (.int x :: rest) := by
  by_cases q : x < 0
  · exact (ky q).pure fun p l e s m args below meth c T locs hx hby X hZ hown eT t r => XS.ifYes X.here hx rfl rfl (hb hby hd) rfl (by rw [if0]; exact (tlt q).1) ho hp r
  · exact (kn q).pure fun p l e s m args below meth c T locs hx hby X hZ hown eT t r => by subst hn; exact XS.ifNo X.here hx rfl (hb hby hd) rfl (by rw [if0]; exact (flt q).1) r
theorem Rn.icmp_ge {x y : Int32} {o : Int} {pn : Nat} (hd : decode bytes pc = .ok (.if_icmp .ge o, 3)) (ho : 0 ≤ (pc : Int) + o) (hp : ((pc : Int) + o).toNat = pc') (hn : pc + 3 = pn) (ky : ¬ x < y → Rn w Z EL own nm bytes ml ret R hS ws Q os cells slots h pc' Ls rest) (kn : x < y → Rn w Z EL own nm bytes ml ret R hS ws Q os cells slots h pn Ls rest) : Rn w Z EL own nm bytes ml ret R hS ws Q os cells slots h pc Ls (.int y :: .int x :: rest) := by
  by_cases q : x < y
  · exact (kn q).pure fun p l e s m args below meth c T locs hx hby X hZ hown eT t r => by subst hn; exact XS.icmpNo X.here hx rfl (hb hby hd) rfl (tlt q).2.1 r
  · exact (ky q).pure fun p l e s m args below meth c T locs hx hby X hZ hown eT t r => XS.icmpYes X.here hx rfl rfl (hb hby hd) rfl (flt q).2.1 ho hp r
theorem Rn.if_ge {x : Int32} {o : Int} {pn : Nat} (hd : decode bytes pc = .ok (.ifCond .ge o, 3)) (ho : 0 ≤ (pc : Int) + o) (hp : ((pc : Int) + o).toNat = pc') (hn : pc + 3 = pn) (ky : ¬ x < 0 → Rn w Z EL own nm bytes ml ret R hS ws Q os cells slots h pc' Ls rest) (kn : x < 0 → Rn w Z EL own nm bytes ml ret R hS ws Q os cells slots h pn Ls rest) : Rn w Z EL own nm bytes ml ret R hS ws Q os cells slots h pc Ls (.int x :: rest) := by
  by_cases q : x < 0
  · exact (kn q).pure fun p l e s m args below meth c T locs hx hby X hZ hown eT t r => by subst hn; exact XS.ifNo X.here hx rfl (hb hby hd) rfl (by rw [if0]; exact (tlt q).2.1) r
  · exact (ky q).pure fun p l e s m args below meth c T locs hx hby X hZ hown eT t r => XS.ifYes X.here hx rfl rfl (hb hby hd) rfl (by rw [if0]; exact (flt q).2.1) ho hp r
theorem Rn.icmp_gt {x y : Int32} {o : Int} {pn : Nat} (hd : decode bytes pc = .ok (.if_icmp .gt o, 3)) (ho : 0 ≤ (pc : Int) + o) (hp : ((pc : Int) + o).toNat = pc') (hn : pc + 3 = pn) (ky : y < x → Rn w Z EL own nm bytes ml ret R hS ws Q os cells slots h pc' Ls rest) (kn : ¬ y < x → Rn w Z EL own nm bytes ml ret R hS ws Q os cells slots h pn Ls rest) : Rn w Z EL own nm bytes ml ret R hS ws Q os cells slots h pc Ls (.int y :: .int x :: rest) := by
  by_cases q : y < x
  · exact (ky q).pure fun p l e s m args below meth c T locs hx hby X hZ hown eT t r => XS.icmpYes X.here hx rfl rfl (hb hby hd) rfl (tlt q).2.2.1 ho hp r
  · exact (kn q).pure fun p l e s m args below meth c T locs hx hby X hZ hown eT t r => by subst hn; exact XS.icmpNo X.here hx rfl (hb hby hd) rfl (flt q).2.2.1 r
theorem Rn.if_gt {x : Int32} {o : Int} {pn : Nat} (hd : decode bytes pc = .ok (.ifCond .gt o, 3)) (ho : 0 ≤ (pc : Int) + o) (hp : ((pc : Int) + o).toNat = pc') (hn : pc + 3 = pn) (ky : 0 < x → Rn w Z EL own nm bytes ml ret R hS ws Q os cells slots h pc' Ls rest) (kn : ¬ 0 < x → Rn w Z EL own nm bytes ml ret R hS ws Q os cells slots h pn Ls rest) : Rn w Z EL own nm bytes ml ret R hS ws Q os cells slots h pc Ls (.int x :: rest) := by
  by_cases q : 0 < x
  · exact (ky q).pure fun p l e s m args below meth c T locs hx hby X hZ hown eT t r => XS.ifYes X.here hx rfl rfl (hb hby hd) rfl (by rw [if0]; exact (tlt q).2.2.1) ho hp r
  · exact (kn q).pure fun p l e s m args below meth c T locs hx hby X hZ hown eT t r => by subst hn; exact XS.ifNo X.here hx rfl (hb hby hd) rfl (by rw [if0]; exact (flt q).2.2.1) r
theorem Rn.icmp_le {x y : Int32} {o : Int} {pn : Nat} (hd : decode bytes pc = .ok (.if_icmp .le o, 3)) (ho : 0 ≤ (pc : Int) + o) (hp : ((pc : Int) + o).toNat = pc') (hn : pc + 3 = pn) (ky : ¬ y < x → Rn w Z EL own nm bytes ml ret R hS ws Q os cells slots h pc' Ls rest) (kn : y < x → Rn w Z EL own nm bytes ml ret R hS ws Q os cells slots h pn Ls rest) : Rn w Z EL own nm bytes ml ret R hS ws Q os cells slots h pc Ls (.int y :: .int x :: rest) := by
  by_cases q : y < x
  · exact (kn q).pure fun p l e s m args below meth c T locs hx hby X hZ hown eT t r => by subst hn; exact XS.icmpNo X.here hx rfl (hb hby hd) rfl (tlt q).2.2.2 r
  · exact (ky q).pure fun p l e s m args below meth c T locs hx hby X hZ hown eT t r => XS.icmpYes X.here hx rfl rfl (hb hby hd) rfl (flt q).2.2.2 ho hp r
theorem Rn.if_le {x : Int32} {o : Int} {pn : Nat} (hd : decode bytes pc = .ok (.ifCond .le o, 3)) (ho : 0 ≤ (pc : Int) + o) (hp : ((pc : Int) + o).toNat = pc') (hn : pc + 3 = pn) (ky : ¬ 0 < x → Rn w Z EL own nm bytes ml ret R hS ws Q os cells slots h pc' Ls rest) (kn : 0 < x → Rn w Z EL own nm bytes ml ret R hS ws Q os cells slots h pn Ls rest) : Rn w Z EL own nm bytes ml ret R hS ws Q os cells slots h pc Ls (.int x :: rest) := by
  by_cases q : 0 < x
  · exact (kn q).pure fun p l e s m args below meth c T locs hx hby X hZ hown eT t r => by subst hn; exact XS.ifNo X.here hx rfl (hb hby hd) rfl (by rw [if0]; exact (tlt q).2.2.2) r
  · exact (ky q).pure fun p l e s m args below meth c T locs hx hby X hZ hown eT t r => XS.ifYes X.here hx rfl rfl (hb hby hd) rfl (by rw [if0]; exact (flt q).2.2.2) ho hp r
theorem Rn.ifnull_y {o : Int} (hd : decode bytes pc = .ok (.ifnull o, 3)) (ho : 0 ≤ (pc : Int) + o) (hp : ((pc : Int) + o).toNat = pc') (k : Rn w Z EL own nm bytes ml ret R hS ws Q os cells slots h pc' Ls rest) : Rn w Z EL own nm bytes ml ret R hS ws Q os cells slots h pc Ls (.null :: rest) :=
  k.pure fun p l e s m args below meth c T locs hx hby X hZ hown eT t r => XS.ifnullYes X.here hx rfl rfl (hb hby hd) rfl ho hp r
theorem Rn.ifnull_n {o : Int} {a : Addr} (hd : decode bytes pc = .ok (.ifnull o, 3)) (hn : pc + 3 = pc') (k : Rn w Z EL own nm bytes ml ret R hS ws Q os cells slots h pc' Ls rest) : Rn w Z EL own nm bytes ml ret R hS ws Q os cells slots h pc Ls (.ref a :: rest) :=
  k.pure fun p l e s m args below meth c T locs hx hby X hZ hown eT t r => by subst hn; exact XS.ifnullNo X.here hx rfl (hb hby hd) rfl r
theorem Rn.ifnonnull_y {o : Int} {a : Addr} (hd : decode bytes pc = .ok (.ifnonnull o, 3)) (ho : 0 ≤ (pc : Int) + o) (hp : ((pc : Int) + o).toNat = pc') (k : Rn w Z EL own nm bytes ml ret R hS ws Q os cells slots h pc' Ls rest) : Rn w Z EL own nm bytes ml ret R hS ws Q os cells slots h pc Ls (.ref a :: rest) :=
  k.pure fun p l e s m args below meth c T locs hx hby X hZ hown eT t r => XT.ifnonnullYes X.here hx rfl rfl (hb hby hd) rfl ho hp r
theorem Rn.ifnonnull_n {o : Int} (hd : decode bytes pc = .ok (.ifnonnull o, 3)) (hn : pc + 3 = pc') (k : Rn w Z EL own nm bytes ml ret R hS ws Q os cells slots h pc' Ls rest) : Rn w Z EL own nm bytes ml ret R hS ws Q os cells slots h pc Ls (.null :: rest) :=
  k.pure fun p l e s m args below meth c T locs hx hby X hZ hown eT t r => by subst hn; exact XT.ifnonnullNo X.here hx rfl (hb hby hd) rfl r
theorem Rn.acmp_eq {x y : Value} {o : Int} {pn : Nat} (h1 : x.isRef = true) (h2 : y.isRef = true) (hd : decode bytes pc = .ok (.if_acmp .eq o, 3)) (ho : 0 ≤ (pc : Int) + o) (hp : ((pc : Int) + o).toNat = pc') (hn : pc + 3 = pn) (ky : x = y → Rn w Z EL own nm bytes ml ret R hS ws Q os cells slots h pc' Ls rest) (kn : ¬ x = y → Rn w Z EL own nm bytes ml ret R hS ws Q os cells slots h pn Ls rest) : Rn w Z EL own nm bytes ml ret R hS ws Q os cells slots h pc Ls (y :: x :: rest) := by
  by_cases q : x = y
  · exact (ky q).pure fun p l e s m args below meth c T locs hx hby X hZ hown eT t r => by exact acmp X hx rfl h1 h2 (same := true) rfl (hb hby hd) rfl (by simp [q]) ho (by simp [acV, hp]) r
  · exact (kn q).pure fun p l e s m args below meth c T locs hx hby X hZ hown eT t r => by exact acmp X hx rfl h1 h2 (same := false) rfl (hb hby hd) rfl (by simp [q]) ho (by simp [acV, hn]) r
theorem Rn.acmp_ne {x y : Value} {o : Int} {pn : Nat} (h1 : x.isRef = true) (h2 : y.isRef = true) (hd : decode bytes pc = .ok (.if_acmp .ne o, 3)) (ho : 0 ≤ (pc : Int) + o) (hp : ((pc : Int) + o).toNat = pc') (hn : pc + 3 = pn) (ky : ¬ x = y → Rn w Z EL own nm bytes ml ret R hS ws Q os cells slots h pc' Ls rest) (kn : x = y → Rn w Z EL own nm bytes ml ret R hS ws Q os cells slots h pn Ls rest) : Rn w Z EL own nm bytes ml ret R hS ws Q os cells slots h pc Ls (y :: x :: rest) := by
  by_cases q : x = y
  · exact (kn q).pure fun p l e s m args below meth c T locs hx hby X hZ hown eT t r => by exact acmp X hx rfl h1 h2 (same := true) rfl (hb hby hd) rfl (by simp [q]) ho (by simp [acV, hn]) r
  · exact (ky q).pure fun p l e s m args below meth c T locs hx hby X hZ hown eT t r => by exact acmp X hx rfl h1 h2 (same := false) rfl (hb hby hd) rfl (by simp [q]) ho (by simp [acV, hp]) r
theorem Rn.tsw {dflt low high : Int} {offs : Array Int} {len : Nat} {o : Int} {i : Int32} (hd : decode bytes pc = .ok (.tableswitch dflt low high offs, len)) (hin : ¬ (i.toInt < low ∨ i.toInt > high)) (hoff : offs[(i.toInt - low).toNat]? = some o) (ho : 0 ≤ (pc : Int) + o) (hp : ((pc : Int) + o).toNat = pc') (k : Rn w Z EL own nm bytes ml ret R hS ws Q os cells slots h pc' Ls rest) : Rn w Z EL own nm bytes ml ret R hS ws Q os cells slots h pc Ls (.int i :: rest) :=
  k.pure fun p l e s m args below meth c T locs hx hby X hZ hown eT t r => XS.tswIn X.here hx rfl rfl (hb hby hd) rfl hin hoff ho hp r
theorem Rn.tswD {dflt low high : Int} {offs : Array Int} {len : Nat} {i : Int32} (hd : decode bytes pc = .ok (.tableswitch dflt low high offs, len)) (hout : i.toInt < low ∨ i.toInt > high) (ho : 0 ≤ (pc : Int) + dflt) (hp : ((pc : Int) + dflt).toNat = pc') (k : Rn w Z EL own nm bytes ml ret R hS ws Q os cells slots h pc' Ls rest) : Rn w Z EL own nm bytes ml ret R hS ws Q os cells slots h pc Ls (.int i :: rest) :=
  k.pure fun p l e s m args below meth c T locs hx hby X hZ hown eT t r => XS.tswOut X.here hx rfl rfl (hb hby hd) rfl hout ho hp r
theorem Rn.ldcI {ix : Nat} {v : Int32} (wd : (Jvm.Cond.constant own ix v).before a0 Z = true) (hd : decode bytes pc = .ok (.ldc ix, 2)) (hp : pc + 2 = pc') (k : Rn w Z EL own nm bytes ml ret R hS ws Q os cells slots h pc' Ls (.int v :: rest)) : Rn w Z EL own nm bytes ml ret R hS ws Q os cells slots h pc Ls rest :=
  k.pure fun p l e s m args below meth c T locs hx hby X hZ hown eT t r => by subst hp; exact X.ldcInt hx hown (mvT hZ wd) (g := mkF m pc Ls rest) rfl (hb hby hd) t r
theorem Rn.ldcJ {ix : Nat} {v : Int64} (wd : (Jvm.Cond.constantLong own ix v).before a0 Z = true) (hd : decode bytes pc = .ok (.ldc2_w ix, 3)) (hp : pc + 3 = pc') (k : Rn w Z EL own nm bytes ml ret R hS ws Q os cells slots h pc' Ls (.long v :: rest)) : Rn w Z EL own nm bytes ml ret R hS ws Q os cells slots h pc Ls rest :=
  k.pure fun p l e s m args below meth c T locs hx hby X hZ hown eT t r => by subst hp; exact X.ldc2Long hx hown (mvT hZ wd) (g := mkF m pc Ls rest) rfl (hb hby hd) t r
theorem Rn.ldcD {ix : Nat} {v : UInt64} (wd : (Jvm.Cond.constantDouble own ix v).before a0 Z = true) (hd : decode bytes pc = .ok (.ldc2_w ix, 3)) (hp : pc + 3 = pc') (k : Rn w Z EL own nm bytes ml ret R hS ws Q os cells slots h pc' Ls (.double v :: rest)) : Rn w Z EL own nm bytes ml ret R hS ws Q os cells slots h pc Ls rest :=
  k.pure fun p l e s m args below meth c T locs hx hby X hZ hown eT t r => by subst hp; exact X.ldc2DoubleC hx hown (mvT hZ wd) (g := mkF m pc Ls rest) rfl (hb hby hd) t r
/-- an array and all that it holds -/
def Ax (Z : State) (h : Heap) (a : Addr) (ty : FieldType) (vs : List Value) : Prop := ∃ c : Cell, Arr Z h a c ty ∧ c.slots = vs.toArray ∧ vs.length < 2 ^ 31
section AxFacts
variable {a b : Addr} {ty : FieldType} {vs : List Value} {sl : Nat} {v : Value}
theorem Ax.lt (F : Ax Z h a ty vs) : a < h.size := by obtain ⟨c, A, -⟩ := F; exact A.lt
theorem Ax.ext (F : Ax Z h a ty vs) (E : Ext h h') : Ax Z h' a ty vs := by obtain ⟨c, A, r⟩ := F; exact ⟨c, A.ext E, r⟩
theorem Ax.other (F : Ax Z h b ty vs) (W : Wr h h' a sl v) (q : b ≠ a) : Ax Z h' b ty vs := by obtain ⟨c, A, r⟩ := F; exact ⟨c, A.other W q, r⟩
theorem Ax.keep {ws : List Addr} (F : Ax Z h a ty vs) (K : Keep h h' ws) (q : a ∉ ws) : Ax Z h' a ty vs := by obtain ⟨c, A, r⟩ := F; exact ⟨c, ⟨K.2.1 a c A.1 q, A.2⟩, r⟩
theorem Ax.set (F : Ax Z h a ty vs) (W : Wr h h' a sl v) : Ax Z h' a ty (vs.set sl v) := by
  obtain ⟨c, A, r, q⟩ := F
  refine ⟨_, A.same W, ?_, by simpa using q⟩
  simp [Cell.setSlot, r]
theorem Ax.new {cA : ClassId} {n : Int32} (A : Arr Z h a (newA cA ty n) ty) (q : ¬ n < 0) : Ax Z h a ty (List.replicate n.toNatClampNeg (defaultValue ty)) := by
  refine ⟨_, A, ?_, by simpa using (back32 q).2⟩
  simp [newA]
theorem Ax.sf {w : Bool} {EL : List (String × Nat)} {os : List Addr} (F : Ax Z h a ty vs) (ht : ty ≠ .byte) : Sf w Z EL os h a := by obtain ⟨c, A, -⟩ := F; exact Sf.arr A ht
theorem Ax.arv {d : Value} (F : Ax Z h a ty vs) (hf : ∀ x ∈ vs, fits ty x = true) (n : Int32) (hn : n.toNatClampNeg = vs.length) (h0 : ¬ n < 0) : ∃ k, Arv Z h a k ty n vs d := by
  obtain ⟨c, A, r, q⟩ := F
  refine ⟨c.cls, c, A, rfl, by simp [r, hn], h0, fun k hk => ?_, fun i hi => ?_⟩
  · have : k < vs.length := by simpa [r] using hk
    simp [r, this]
  · have : i < vs.length := by simpa [r] using hi
    simp only [List.getD_eq_getElem?_getD, List.getElem?_eq_getElem this, Option.getD_some]
    exact hf _ (List.getElem_mem this)
theorem Ax.ofArv {k : ClassId} {n : Int32} {d : Value} (F : Arv Z h a k ty n vs d) (hl : vs.length = n.toNatClampNeg) : Ax Z h a ty vs := by
  obtain ⟨c, A, -, S, N, H, -⟩ := F
  refine ⟨c, A, ?_, by rw [hl]; exact (back32 N).2⟩
  apply Array.ext_getElem?
  intro i
  by_cases q : i < c.slots.size
  · have q2 : i < vs.length := by rw [hl, ← S]; exact q
    rw [H i q]; simp [q2]
  · have q2 : ¬ i < vs.length := by rw [hl, ← S]; exact q
    rw [Array.getElem?_eq_none (Nat.le_of_not_lt q)]; simp [Nat.le_of_not_lt q2]
theorem Ax.at {j : Int32} (c : Cell) (r : c.slots = vs.toArray) (h0 : ¬ j < 0) (hv : vs[j.toNatClampNeg]? = some v) : ¬ (j < 0 ∨ c.slots.size ≤ j.toNatClampNeg) ∧ c.slots[j.toNatClampNeg]? = some v := by
  have q := (List.getElem?_eq_some_iff.mp hv).1
  refine ⟨fun z => z.elim h0 fun z => ?_, by simpa [r] using hv⟩
  simp [r] at z; omega
end AxFacts
theorem Rn.iaload {a : Addr} {vs : List Value} {j : Int32} {v : Value} (A : Ax Z h a .int vs) (h0 : ¬ j < 0) (hv : vs[j.toNatClampNeg]? = some v) (hd : decode bytes pc = .ok (.iaload, 1)) (hp : pc + 1 = pc') (k : Rn w Z EL own nm bytes ml ret R hS ws Q os cells slots h pc' Ls (v :: rest)) : Rn w Z EL own nm bytes ml ret R hS ws Q os cells slots h pc Ls (.int j :: .ref a :: rest) := by
  obtain ⟨cl, Ar, r1, -⟩ := A
  obtain ⟨q1, q2⟩ := Ax.at cl r1 h0 hv
  exact k.pure fun p l e s m args below meth c T locs hx hby X hZ hown eT t r => by subst hp; exact X.iaload hx (j := j) (v := v) (by rw [eT]; exact Ar.1) (State.isArrayOf_alike hZ.alike Ar.2.1) Ar.2.2 q1 q2 (g := mkF m pc Ls (.int j :: .ref a :: rest)) rfl rfl (hb hby hd) t r
theorem Rn.caload {a : Addr} {vs : List Value} {j : Int32} {v : Value} (A : Ax Z h a .char vs) (h0 : ¬ j < 0) (hv : vs[j.toNatClampNeg]? = some v) (hd : decode bytes pc = .ok (.caload, 1)) (hp : pc + 1 = pc') (k : Rn w Z EL own nm bytes ml ret R hS ws Q os cells slots h pc' Ls (v :: rest)) : Rn w Z EL own nm bytes ml ret R hS ws Q os cells slots h pc Ls (.int j :: .ref a :: rest) := by
  obtain ⟨cl, Ar, r1, -⟩ := A
  obtain ⟨q1, q2⟩ := Ax.at cl r1 h0 hv
  exact k.pure fun p l e s m args below meth c T locs hx hby X hZ hown eT t r => by subst hp; exact X.caload hx (j := j) (v := v) (by rw [eT]; exact Ar.1) (State.isArrayOf_alike hZ.alike Ar.2.1) Ar.2.2 q1 q2 (g := mkF m pc Ls (.int j :: .ref a :: rest)) rfl rfl (hb hby hd) t r
theorem Rn.laload {a : Addr} {vs : List Value} {j : Int32} {v : Value} (A : Ax Z h a .long vs) (h0 : ¬ j < 0) (hv : vs[j.toNatClampNeg]? = some v) (hd : decode bytes pc = .ok (.laload, 1)) (hp : pc + 1 = pc') (k : Rn w Z EL own nm bytes ml ret R hS ws Q os cells slots h pc' Ls (v :: rest)) : Rn w Z EL own nm bytes ml ret R hS ws Q os cells slots h pc Ls (.int j :: .ref a :: rest) := by
  obtain ⟨cl, Ar, r1, -⟩ := A
  obtain ⟨q1, q2⟩ := Ax.at cl r1 h0 hv
  exact k.pure fun p l e s m args below meth c T locs hx hby X hZ hown eT t r => by subst hp; exact X.laload hx (j := j) (v := v) (by rw [eT]; exact Ar.1) (State.isArrayOf_alike hZ.alike Ar.2.1) Ar.2.2 q1 q2 (g := mkF m pc Ls (.int j :: .ref a :: rest)) rfl rfl (hb hby hd) t r
theorem Rn.baload {a : Addr} {vs : List Value} {j : Int32} {v : Value} (A : Ax Z h a .byte vs) (h0 : ¬ j < 0) (hv : vs[j.toNatClampNeg]? = some v) (hd : decode bytes pc = .ok (.baload, 1)) (hp : pc + 1 = pc') (k : Rn w Z EL own nm bytes ml ret R hS ws Q os cells slots h pc' Ls (v :: rest)) : Rn w Z EL own nm bytes ml ret R hS ws Q os cells slots h pc Ls (.int j :: .ref a :: rest) := by
  obtain ⟨cl, Ar, r1, -⟩ := A
  obtain ⟨q1, q2⟩ := Ax.at cl r1 h0 hv
  exact k.pure fun p l e s m args below meth c T locs hx hby X hZ hown eT t r => by subst hp; exact X.baloadBytes hx (j := j) (v := v) (by rw [eT]; exact Ar.1) (State.isArrayOf_alike hZ.alike Ar.2.1) Ar.2.2 q1 q2 (g := mkF m pc Ls (.int j :: .ref a :: rest)) rfl rfl (hb hby hd) t r
theorem Rn.daload {a : Addr} {vs : List Value} {j : Int32} {v : Value} (A : Ax Z h a .double vs) (h0 : ¬ j < 0) (hv : vs[j.toNatClampNeg]? = some v) (hd : decode bytes pc = .ok (.daload, 1)) (hp : pc + 1 = pc') (k : Rn w Z EL own nm bytes ml ret R hS ws Q os cells slots h pc' Ls (v :: rest)) : Rn w Z EL own nm bytes ml ret R hS ws Q os cells slots h pc Ls (.int j :: .ref a :: rest) := by
  obtain ⟨cl, Ar, r1, -⟩ := A
  obtain ⟨q1, q2⟩ := Ax.at cl r1 h0 hv
  exact k.pure fun p l e s m args below meth c T locs hx hby X hZ hown eT t r => by subst hp; exact X.daload hx (j := j) (v := v) (by rw [eT]; exact Ar.1) (State.isArrayOf_alike hZ.alike Ar.2.1) Ar.2.2 q1 q2 (g := mkF m pc Ls (.int j :: .ref a :: rest)) rfl rfl (hb hby hd) t r
theorem Rn.saload {a : Addr} {vs : List Value} {j : Int32} {v : Value} (A : Ax Z h a .short vs) (h0 : ¬ j < 0) (hv : vs[j.toNatClampNeg]? = some v) (hd : decode bytes pc = .ok (.saload, 1)) (hp : pc + 1 = pc') (k : Rn w Z EL own nm bytes ml ret R hS ws Q os cells slots h pc' Ls (v :: rest)) : Rn w Z EL own nm bytes ml ret R hS ws Q os cells slots h pc Ls (.int j :: .ref a :: rest) := by
  obtain ⟨cl, Ar, r1, -⟩ := A
  obtain ⟨q1, q2⟩ := Ax.at cl r1 h0 hv
  exact k.pure fun p l e s m args below meth c T locs hx hby X hZ hown eT t r => by subst hp; exact X.saload hx (j := j) (v := v) (by rw [eT]; exact Ar.1) (State.isArrayOf_alike hZ.alike Ar.2.1) Ar.2.2 q1 q2 (g := mkF m pc Ls (.int j :: .ref a :: rest)) rfl rfl (hb hby hd) t r
theorem Rn.aaload {a : Addr} {ty : FieldType} {vs : List Value} {j : Int32} {v : Value} (A : Ax Z h a ty vs) (ht : ty.isReference = true) (h0 : ¬ j < 0) (hv : vs[j.toNatClampNeg]? = some v) (hd : decode bytes pc = .ok (.aaload, 1)) (hp : pc + 1 = pc') (k : Rn w Z EL own nm bytes ml ret R hS ws Q os cells slots h pc' Ls (v :: rest)) : Rn w Z EL own nm bytes ml ret R hS ws Q os cells slots h pc Ls (.int j :: .ref a :: rest) := by
  obtain ⟨cl, Ar, r1, -⟩ := A
  obtain ⟨q1, q2⟩ := Ax.at cl r1 h0 hv
  exact k.pure fun p l e s m args below meth c T locs hx hby X hZ hown eT t r => by subst hp; exact X.aaload hx (j := j) (v := v) (by rw [eT]; exact Ar.1) (State.isArrayOf_alike hZ.alike Ar.2.1) ht Ar.2.2 q1 q2 (g := mkF m pc Ls (.int j :: .ref a :: rest)) rfl rfl (hb hby hd) t r
theorem Rn.arraylength {a : Addr} {ty : FieldType} {vs : List Value} {n : Int32} (A : Ax Z h a ty vs) (hn : vs.length.toInt32 = n) (hd : decode bytes pc = .ok (.arraylength, 1)) (hp : pc + 1 = pc') (k : Rn w Z EL own nm bytes ml ret R hS ws Q os cells slots h pc' Ls (.int n :: rest)) : Rn w Z EL own nm bytes ml ret R hS ws Q os cells slots h pc Ls (.ref a :: rest) := by
  obtain ⟨cl, Ar, r1, -⟩ := A
  have e1 : cl.slots.size.toInt32 = n := by rw [r1, ← hn]; simp
  exact k.pure fun p l e s m args below meth c T locs hx hby X hZ hown eT t r => by subst hp; exact X.arraylength hx (by rw [eT]; exact Ar.1) (State.isArrayOf_alike hZ.alike Ar.2.1) (g := mkF m pc Ls (.ref a :: rest)) rfl rfl (hb hby hd) t (by rw [e1]; exact r)
theorem Rn.iastore {a : Addr} {vs : List Value} {j : Int32} {x : Int32} {v : Value} (A : Ax Z h a .int vs) (h0 : ¬ j < 0) (hi : j.toNatClampNeg < vs.length) (hv : (.int x : Value) = v) (q : a ∈ ws ∨ hS.size ≤ a) (sf : Sf w Z EL os h a) (hd : decode bytes pc = .ok (.iastore, 1)) (hp : pc + 1 = pc') (k : ∀ h', Wr h h' a j.toNatClampNeg v → Ax Z h' a .int (vs.set j.toNatClampNeg v) → Rn w Z EL own nm bytes ml ret R hS ws Q os cells slots h' pc' Ls rest) : Rn w Z EL own nm bytes ml ret R hS ws Q os cells slots h pc Ls (.int x :: .int j :: .ref a :: rest) := by
  obtain ⟨cl, Ar, r1, -⟩ := id A
  have q1 : ¬ (j < 0 ∨ cl.slots.size ≤ j.toNatClampNeg) := fun z => z.elim h0 fun z => by simp [r1] at z; omega
  subst hv
  exact Rn.wrote q sf (fun h' W => k h' W (A.set W)) fun p l e s m args below meth c T locs hx hby hnm X hZ hown eT => by subst hp; exact stI X hx hZ eT Ar q1 (g := mkF m pc Ls (.int x :: .int j :: .ref a :: rest)) rfl rfl (hb hby hd)
theorem Rn.lastore {a : Addr} {vs : List Value} {j : Int32} {x : Int64} {v : Value} (A : Ax Z h a .long vs) (h0 : ¬ j < 0) (hi : j.toNatClampNeg < vs.length) (hv : (.long x : Value) = v) (q : a ∈ ws ∨ hS.size ≤ a) (sf : Sf w Z EL os h a) (hd : decode bytes pc = .ok (.lastore, 1)) (hp : pc + 1 = pc') (k : ∀ h', Wr h h' a j.toNatClampNeg v → Ax Z h' a .long (vs.set j.toNatClampNeg v) → Rn w Z EL own nm bytes ml ret R hS ws Q os cells slots h' pc' Ls rest) : Rn w Z EL own nm bytes ml ret R hS ws Q os cells slots h pc Ls (.long x :: .int j :: .ref a :: rest) := by
  obtain ⟨cl, Ar, r1, -⟩ := id A
  have q1 : ¬ (j < 0 ∨ cl.slots.size ≤ j.toNatClampNeg) := fun z => z.elim h0 fun z => by simp [r1] at z; omega
  subst hv
  exact Rn.wrote q sf (fun h' W => k h' W (A.set W)) fun p l e s m args below meth c T locs hx hby hnm X hZ hown eT => by subst hp; exact stJ X hx hZ eT Ar q1 (g := mkF m pc Ls (.long x :: .int j :: .ref a :: rest)) rfl rfl (hb hby hd)
theorem Rn.dastore {a : Addr} {vs : List Value} {j : Int32} {x : UInt64} {v : Value} (A : Ax Z h a .double vs) (h0 : ¬ j < 0) (hi : j.toNatClampNeg < vs.length) (hv : (.double x : Value) = v) (q : a ∈ ws ∨ hS.size ≤ a) (sf : Sf w Z EL os h a) (hd : decode bytes pc = .ok (.dastore, 1)) (hp : pc + 1 = pc') (k : ∀ h', Wr h h' a j.toNatClampNeg v → Ax Z h' a .double (vs.set j.toNatClampNeg v) → Rn w Z EL own nm bytes ml ret R hS ws Q os cells slots h' pc' Ls rest) : Rn w Z EL own nm bytes ml ret R hS ws Q os cells slots h pc Ls (.double x :: .int j :: .ref a :: rest) := by
  obtain ⟨cl, Ar, r1, -⟩ := id A
  have q1 : ¬ (j < 0 ∨ cl.slots.size ≤ j.toNatClampNeg) := fun z => z.elim h0 fun z => by simp [r1] at z; omega
  subst hv
  exact Rn.wrote q sf (fun h' W => k h' W (A.set W)) fun p l e s m args below meth c T locs hx hby hnm X hZ hown eT => by subst hp; exact stD X hx hZ eT Ar q1 (g := mkF m pc Ls (.double x :: .int j :: .ref a :: rest)) rfl rfl (hb hby hd)
theorem Rn.castore {a : Addr} {vs : List Value} {j : Int32} {x : Int32} {v : Value} (A : Ax Z h a .char vs) (h0 : ¬ j < 0) (hi : j.toNatClampNeg < vs.length) (hv : (.int (nar .char x) : Value) = v) (q : a ∈ ws ∨ hS.size ≤ a) (sf : Sf w Z EL os h a) (hd : decode bytes pc = .ok (.castore, 1)) (hp : pc + 1 = pc') (k : ∀ h', Wr h h' a j.toNatClampNeg v → Ax Z h' a .char (vs.set j.toNatClampNeg v) → Rn w Z EL own nm bytes ml ret R hS ws Q os cells slots h' pc' Ls rest) : Rn w Z EL own nm bytes ml ret R hS ws Q os cells slots h pc Ls (.int x :: .int j :: .ref a :: rest) := by
  obtain ⟨cl, Ar, r1, -⟩ := id A
  have q1 : ¬ (j < 0 ∨ cl.slots.size ≤ j.toNatClampNeg) := fun z => z.elim h0 fun z => by simp [r1] at z; omega
  subst hv
  exact Rn.wrote q sf (fun h' W => k h' W (A.set W)) fun p l e s m args below meth c T locs hx hby hnm X hZ hown eT => by subst hp; exact stC X hx hZ eT Ar q1 (g := mkF m pc Ls (.int x :: .int j :: .ref a :: rest)) rfl rfl (hb hby hd)
theorem Rn.bastore {a : Addr} {vs : List Value} {j : Int32} {x : Int32} {v : Value} (A : Ax Z h a .byte vs) (h0 : ¬ j < 0) (hi : j.toNatClampNeg < vs.length) (hv : (.int (nar .byte x) : Value) = v) (q : a ∈ ws ∨ hS.size ≤ a) (sf : Sf w Z EL os h a) (hd : decode bytes pc = .ok (.bastore, 1)) (hp : pc + 1 = pc') (k : ∀ h', Wr h h' a j.toNatClampNeg v → Ax Z h' a .byte (vs.set j.toNatClampNeg v) → Rn w Z EL own nm bytes ml ret R hS ws Q os cells slots h' pc' Ls rest) : Rn w Z EL own nm bytes ml ret R hS ws Q os cells slots h pc Ls (.int x :: .int j :: .ref a :: rest) := by
  obtain ⟨cl, Ar, r1, -⟩ := id A
  have q1 : ¬ (j < 0 ∨ cl.slots.size ≤ j.toNatClampNeg) := fun z => z.elim h0 fun z => by simp [r1] at z; omega
  subst hv
  exact Rn.wrote q sf (fun h' W => k h' W (A.set W)) fun p l e s m args below meth c T locs hx hby hnm X hZ hown eT => by subst hp; exact stB X hx hZ eT Ar q1 (g := mkF m pc Ls (.int x :: .int j :: .ref a :: rest)) rfl rfl (hb hby hd)
theorem Rn.aastore {a : Addr} {ty : FieldType} {vs : List Value} {j : Int32} {v : Value} (A : Ax Z h a ty vs) (ht : ty.isReference = true) (F : Sto Z h a v) (h0 : ¬ j < 0) (hi : j.toNatClampNeg < vs.length) (hv : v.isRef = true) (q : a ∈ ws ∨ hS.size ≤ a) (sf : Sf w Z EL os h a) (hd : decode bytes pc = .ok (.aastore, 1)) (hp : pc + 1 = pc') (k : ∀ h', Wr h h' a j.toNatClampNeg v → Ax Z h' a ty (vs.set j.toNatClampNeg v) → Rn w Z EL own nm bytes ml ret R hS ws Q os cells slots h' pc' Ls rest) : Rn w Z EL own nm bytes ml ret R hS ws Q os cells slots h pc Ls (v :: .int j :: .ref a :: rest) := by
  obtain ⟨cl, Ar, r1, -⟩ := id A
  have q1 : ¬ (j < 0 ∨ cl.slots.size ≤ j.toNatClampNeg) := fun z => z.elim h0 fun z => by simp [r1] at z; omega
  exact Rn.wrote q sf (fun h' W => k h' W (A.set W)) fun p l e s m args below meth c T locs hx hby hnm X hZ hown eT => by subst hp; exact stR X hx hZ eT Ar q1 ht F (g := mkF m pc Ls (v :: .int j :: .ref a :: rest)) rfl rfl (hb hby hd)
end Steps
section Objs
variable {w : Bool} {Z : State} {EL : List (String × Nat)} {own nm : String} {bytes : ByteArray} {ml : Nat} {ret : Option FieldType} {R : Room} {hS : Heap} {ws : List Addr} {Q : Option Value → Heap → Prop} {os : List Addr} {cells slots : Nat} {h h' : Heap} {pc pc' : Nat} {Ls Ls' : Array Slot} {rest : List Value} {a0 : Array Value}
theorem Rn.getF {ix : Nat} {R0 O n d host : String} {a : Addr} {v : Value} (wd : (Jvm.Cond.fieldLink own ix R0 n d).before a0 Z = true ∨ (Jvm.Cond.fieldLinkNest own ix R0 n d host).before a0 Z = true) (via : Via Z R0 O n d) (F : Fld Z h a O n d v) (hd : decode bytes pc = .ok (.getfield ix, 3)) (hp : pc + 3 = pc') (k : Rn w Z EL own nm bytes ml ret R hS ws Q os cells slots h pc' Ls (v :: rest)) : Rn w Z EL own nm bytes ml ret R hS ws Q os cells slots h pc Ls (.ref a :: rest) :=
  k.note fun p l e s m args below meth c T locs hx hby hml X hZ hown eT => by subst hp; exact Jvm.RoadKit.getF X hx hZ hown wd via eT F (g := mkF m pc Ls (.ref a :: rest)) rfl rfl (hb hby hd)
theorem Rn.getS {ix : Nat} {R0 O n d : String} {v : Value} (wd : (Jvm.Cond.fieldLink own ix R0 n d).before a0 Z = true) (via : Via Z R0 O n d) (F : Sta Z h O n d v) (hd : decode bytes pc = .ok (.getstatic ix, 3)) (hp : pc + 3 = pc') (k : Rn w Z EL own nm bytes ml ret R hS ws Q os cells slots h pc' Ls (v :: rest)) : Rn w Z EL own nm bytes ml ret R hS ws Q os cells slots h pc Ls rest :=
  k.note fun p l e s m args below meth c T locs hx hby hml X hZ hown eT => by subst hp; exact Jvm.RoadKit.getS X hx hZ hown (host := "") wd via eT F (g := mkF m pc Ls rest) rfl (hb hby hd)
theorem Rn.putF {ix kk : Nat} {R0 O n d C : String} {ty : FieldType} {a : Addr} {v old : Value} (wd : (Jvm.Cond.fieldLink own ix R0 n d).before a0 Z = true) (via : Via Z R0 O n d) (F : Fld Z h a O n d old) (E : Exa Z h a C) (L : (Jvm.Cond.lays C O n d).before a0 Z = true ∨ ((Jvm.Cond.laysFinal C O n d).before a0 Z = true ∧ own = O ∧ nm = "<init>")) (wi : (Jvm.Cond.instantiable C kk).before a0 Z = true)
    (hty : parseFieldDescriptor d = some ty) (hn : narrow ty v = v) (hf : fits ty v = true) (q : a ∈ ws ∨ hS.size ≤ a) (sf : Sf w Z EL os h a) (hd : decode bytes pc = .ok (.putfield ix, 3)) (hp : pc + 3 = pc') (k : ∀ h', Wr h h' a (Jvm.RoadKit.slotOf Z O n d) v → Rn w Z EL own nm bytes ml ret R hS ws Q os cells slots h' pc' Ls rest) : Rn w Z EL own nm bytes ml ret R hS ws Q os cells slots h pc Ls (v :: .ref a :: rest) :=
  Rn.wrote q sf k fun p l e s m args below meth c T locs hx hby hnm X hZ hown eT => by
    subst hp
    exact Jvm.RoadKit.putF X hx hZ hown (host := "") (Or.inl wd) via eT F E (L.imp id fun z => ⟨z.1, z.2.1, hnm.trans z.2.2⟩) wi hty hn hf (g := mkF m pc Ls (v :: .ref a :: rest)) rfl rfl (hb hby hd)
theorem Rn.newO {ix n : Nat} {C : String} (w1 : (Jvm.Cond.classLink own ix C).before a0 Z = true) (w2 : (Jvm.Cond.instantiable C n).before a0 Z = true) (w3 : (Jvm.Cond.initialized C).before a0 Z = true) (hd : decode bytes pc = .ok (.new ix, 3)) (hc : cells + 1 ≤ R.cells) (hs : slots + n ≤ R.slots) (hp : pc + 3 = pc')
    (k : ∀ h' a, a = h.size → hS.size ≤ a → Ext h h' → (Exa Z h' a C ∧ (∀ {O nm d : String} {ty : FieldType}, Laid Z a0 C O nm d → parseFieldDescriptor d = some ty → Fld Z h' a O nm d (defaultValue ty)) ∧ (∃ cell : Cell, h'[a]? = some cell ∧ cell.vm = .none ∧ cell.monitor = {})) → Rn w Z EL own nm bytes ml ret R hS ws Q (a :: os) (cells + 1) (slots + n) h' pc' Ls (.ref a :: rest)) : Rn w Z EL own nm bytes ml ret R hS ws Q os cells slots h pc Ls rest :=
  Rn.made (G := fun h' a => Exa Z h' a C ∧ (∀ {O nm d : String} {ty : FieldType}, Laid Z a0 C O nm d → parseFieldDescriptor d = some ty → Fld Z h' a O nm d (defaultValue ty)) ∧ (∃ cell : Cell, h'[a]? = some cell ∧ cell.vm = .none ∧ cell.monitor = {})) (st' := fun a => .ref a :: rest) (st := fun _ => rest) k (fun h' g => g.1.lt) fun p l e s m args below meth c T locs hx hby X hZ hown eT => by
    subst hp
    obtain ⟨T', h', X', e', E, A, D, U, st⟩ := Jvm.RoadKit.newO X hx hZ hown w1 w2 w3 eT (g := mkF m pc Ls rest) rfl (hb hby hd) hc hs
    exact ⟨T', h', X', e', E, ⟨A, D, U⟩, st⟩
theorem Rn.newP {aty : ArrayType} {n : Int32} {cap : Nat} {ty : FieldType} {ad : String} (wd : (Jvm.Cond.arrayClass ty).before a0 Z = true) (hty : newarray.typeOf aty = ty) (had : "[" ++ ty.toString = ad) (hd : decode bytes pc = .ok (.newarray aty, 2)) (hn : ¬ n < 0) (hcap : n.toNatClampNeg ≤ cap) (hb8 : cap * 8 ≤ 536870912) (hc : cells + 1 ≤ R.cells) (hs : slots + cap ≤ R.slots) (hp : pc + 2 = pc')
    (k : ∀ h' a, a = h.size → hS.size ≤ a → Ext h h' → (Ax Z h' a ty (List.replicate n.toNatClampNeg (defaultValue ty)) ∧ Exa Z h' a ad) → Rn w Z EL own nm bytes ml ret R hS ws Q (a :: os) (cells + 1) (slots + cap) h' pc' Ls (.ref a :: rest)) : Rn w Z EL own nm bytes ml ret R hS ws Q os cells slots h pc Ls (.int n :: rest) := by
  subst hty
  refine Rn.made (G := fun h' a => Ax Z h' a (newarray.typeOf aty) (List.replicate n.toNatClampNeg (defaultValue (newarray.typeOf aty))) ∧ Exa Z h' a ad) (st' := fun a => .ref a :: rest) (st := fun _ => rest) k (fun h' g => g.1.lt) fun p l e s m args below meth c T locs hx hby X hZ hown eT => ?_
  subst hp
  obtain ⟨T', h', cA, X', e', E, A, B, st⟩ := Jvm.RoadKit.newPE X hx hZ wd eT (g := mkF m pc Ls (.int n :: rest)) rfl (hb hby hd) rfl hn hcap hb8 hc hs had
  exact ⟨T', h', X', e', E, ⟨Ax.new A hn, B⟩, st⟩
theorem Rn.castY {ix : Nat} {K : String} {a : Addr} (wd : (Jvm.Cond.classLink own ix K).before a0 Z = true) (F : Ins Z h a K true) (hd : decode bytes pc = .ok (.checkcast ix, 3)) (hp : pc + 3 = pc') (k : Rn w Z EL own nm bytes ml ret R hS ws Q os cells slots h pc' Ls (.ref a :: rest)) : Rn w Z EL own nm bytes ml ret R hS ws Q os cells slots h pc Ls (.ref a :: rest) :=
  k.note fun p l e s m args below meth c T locs hx hby hml X hZ hown eT => by subst hp; exact Jvm.RoadKit.castY X hx hZ hown wd eT F (g := mkF m pc Ls (.ref a :: rest)) rfl rfl (hb hby hd)
theorem Rn.instY {ix : Nat} {K : String} {a : Addr} (wd : (Jvm.Cond.classLink own ix K).before a0 Z = true) (F : Ins Z h a K true) (hd : decode bytes pc = .ok (.instanceof ix, 3)) (hp : pc + 3 = pc') (k : Rn w Z EL own nm bytes ml ret R hS ws Q os cells slots h pc' Ls (.int 1 :: rest)) : Rn w Z EL own nm bytes ml ret R hS ws Q os cells slots h pc Ls (.ref a :: rest) :=
  k.note fun p l e s m args below meth c T locs hx hby hml X hZ hown eT => by subst hp; exact Jvm.RoadKit.instY X hx hZ hown wd eT F (g := mkF m pc Ls (.ref a :: rest)) rfl rfl (hb hby hd)
theorem Rn.instNo {ix : Nat} {K C : String} {a : Addr} (wd : (Jvm.Cond.classLink own ix K).before a0 Z = true) (E : Exa Z h a C) (F : ∃ c t, Z.vm.findClass C = some c ∧ Z.vm.findClass K = some t ∧ Z.vm.assignable c t = false) (hd : decode bytes pc = .ok (.instanceof ix, 3)) (hp : pc + 3 = pc') (k : Rn w Z EL own nm bytes ml ret R hS ws Q os cells slots h pc' Ls (.int 0 :: rest)) : Rn w Z EL own nm bytes ml ret R hS ws Q os cells slots h pc Ls (.ref a :: rest) :=
  k.note fun p l e s m args below meth c T locs hx hby hml X hZ hown eT => by subst hp; exact Jvm.RoadKit.instNo X hx hZ hown wd eT E F (g := mkF m pc Ls (.ref a :: rest)) rfl rfl (hb hby hd)
theorem Rn.initO {ix : Nat} {a : Addr} (w1 : (Jvm.Cond.methodLink own ix Lib.objectInit).before a0 Z = true) (w2 : (Jvm.Cond.instanceMethod Lib.objectInit).before a0 Z = true) (w3 : (Jvm.Cond.code Lib.objectInit ⟨#[0xb1]⟩ 1 none).before a0 Z = true) (hsz : Ls.size = ml) (hd : decode bytes pc = .ok (.invokespecial ix, 3)) (hf : 1 ≤ R.frames) (hl : (rest.map fun v => v.category).sum + 12 ≤ R.locals) (hp : pc + 3 = pc') (k : Rn w Z EL own nm bytes ml ret R hS ws Q os cells slots h pc' Ls rest) : Rn w Z EL own nm bytes ml ret R hS ws Q os cells slots h pc Ls (.ref a :: rest) :=
  k.note fun p l e s m args below meth c T locs hx hby hml X hZ hown eT => by subst hp; exact Jvm.RoadKit.initO X hx hZ hown w1 w2 w3 eT (g := mkF m pc Ls (.ref a :: rest)) rfl (hsz.trans hml.symm) rfl (hb hby hd) hf (W := (rest.map fun v => v.category).sum) (by show 2 * 0 + _ ≤ _; omega) hl
/-! ### contracts -/
/-- the contract of a method, in a walk that loads no literal: called with as over the heap h it returns as Q says and writes nothing but cells at ws and cells of its own -/
def Ct (Z : State) (y : MethodName) (bytes : ByteArray) (ml : Nat) (ret : Option FieldType) (rm : Room) (as : Array Value) (h : Heap) (ws : List Addr) (Q : Option Value → Heap → Prop) : Prop :=
  Ext Z.heap h → (∀ x ∈ ws, Z.heap.size ≤ x) → ∀ l, MetFree l y (head1 [Jvm.Cond.code y bytes ml ret] rm) (fun a U => a = as ∧ Z.Warmed39 U.vm ∧ U.heap = h) (fun _ _ _ _ _ => True) (fun _ U o U' => ∃ v L, o = .returned v ∧ (Fr Z.heap.size L ∧ Keep h U'.heap ws ∧ Q v U'.heap) ∧ FrameEnd U o U' L rm.cells rm.slots)
theorem met_of {wsT : List Jvm.Cond} {cls d : String} {as : Array Value} (pn : plainName cls = true) (ef : ∀ m, entryFrame m as ml = mkF m 0 Ls []) (hO : Ext Z.heap h) (hW : ∀ x ∈ ws, Z.heap.size ≤ x) (l : Launch) (k : Rn false Z [] cls nm bytes ml ret R h ws Q [] 0 0 h 0 Ls []) :
    MetFree l ⟨cls, nm, d⟩ (head1 (Jvm.Cond.code ⟨cls, nm, d⟩ bytes ml ret :: wsT) R) (fun a U => a = as ∧ Z.Warmed39 U.vm ∧ U.heap = h) (fun _ _ _ _ _ => True) (fun _ U o U' => ∃ v L, o = .returned v ∧ (Fr Z.heap.size L ∧ Keep h U'.heap ws ∧ Q v U'.heap) ∧ FrameEnd U o U' L R.cells R.slots) := by
  refine MetFree.of_bodySF (plainFor_of_name pn) hisR ?_
  intro p e s m args below meth c s₁ Bd hml0 hP hK
  obtain ⟨rfl, hZ, hh⟩ := hP
  have g := k p l e s s.vm m args below meth c s₁ [] ⟨Bd.exec, Bd.bytes, hml0, hZ, findClass_of_methodNamed Bd.named, (name_of_methodNamed Bd.named Bd.method).1, Bd.returns, Bd.notSynchronized⟩ (Stand.of_body Bd) rfl (Fr.nil _) (Keep.refl _ _) ⟨hO, hW⟩ (by rw [← hh, Bd.state]; rfl)
  obtain ⟨s₂, o, h1, h2, h3, h4⟩ := g
  exact ⟨s₂, o, castTop (ef m) h1, h2, h3, h4⟩
theorem Ct.intro {cls d : String} {as : Array Value} (pn : plainName cls = true) (ef : ∀ m, entryFrame m as ml = mkF m 0 Ls []) (k : Rn false Z [] cls nm bytes ml ret R h ws Q [] 0 0 h 0 Ls []) : Ct Z ⟨cls, nm, d⟩ bytes ml ret R as h ws Q :=
  fun hO hW l => met_of pn ef hO hW l k
theorem Ct.weaken {y : MethodName} {as : Array Value} {Q' : Option Value → Heap → Prop} (C : Ct Z y bytes ml ret R as h ws Q) (q : ∀ v h', Keep h h' ws → Q v h' → Q' v h') : Ct Z y bytes ml ret R as h ws Q' := by
  intro hO hW l p e ha hc hk s m args below hf happ hP hK
  obtain ⟨n, o, h1, h2, h3, v, L, h4, ⟨h5, h6, h7⟩, h8⟩ := C hO hW l p e ha hc hk s m args below hf happ hP hK
  exact ⟨n, o, h1, h2, h3, v, L, h4, ⟨h5, h6, q v _ h6 h7⟩, h8⟩
/-- behind a call by a plain contract -/
theorem Rn.called {st : List Value} {ws' : List Addr} {Q' : Option Value → Heap → Prop} {rm : Room} (hws : ∀ x ∈ ws', x ∈ ws ∨ hS.size ≤ x) (hsf : ∀ x ∈ ws', Sf w Z EL os h x)
    (k : ∀ v h', Keep h h' ws' → Q' v h' → Rn w Z EL own nm bytes ml ret R hS ws Q os (cells + rm.cells) (slots + rm.slots) h' pc' Ls (v.toList ++ rest))
    (f : ∀ (p : Program) (l : Launch) (e : Env) (s : State) (m : MethodId) (args : Array Value) (below : List Frame) (meth : Method) (c : Code) (T : State) (locs : List Loc), p.tables.exec = Jvm.exec → c.code = bytes → c.maxLocals = ml → Stand p l e R s m args below meth c T locs cells slots → Z.Warmed39 s.vm → s.vm.findClass own = some m.cls → T.heap = h → Ext Z.heap h → (∀ x ∈ ws', Z.heap.size ≤ x) →
      ∃ (v : Option Value) (B : Pt), Stand p l e R s m args below meth c B.U B.locs B.cells B.slots ∧ (∃ L, (Fr Z.heap.size L ∧ Keep h B.U.heap ws' ∧ Q' v B.U.heap) ∧ B.locs = locs ++ L ∧ B.cells = cells + rm.cells ∧ B.slots = slots + rm.slots) ∧ ∀ t, Steps p.tables e below (B.U.setTop (mkF m pc' Ls (v.toList ++ rest))) t → Steps p.tables e below (T.setTop (mkF m pc Ls st)) t) :
    Rn w Z EL own nm bytes ml ret R hS ws Q os cells slots h pc Ls st := by
  intro p l e s vm0 m args below meth c T locs ok X sn fr K O eT
  have X0 : Old Z Z.heap.size h := Old.keep (h := hS) ⟨rfl, O.1⟩ K O.2
  obtain ⟨v, ⟨U, L', c', s'⟩, X', ⟨L, ⟨f1, K', q'⟩, e1, e2, e3⟩, stp⟩ := f p l e _ m args below meth c T locs ok.1 ok.2.1 ok.2.2.1 X ok.2.2.2.1 ok.2.2.2.2.1 eT X0.2 (fun x hx => ge_of O (hws x hx))
  dsimp only [Pt.U, Pt.locs, Pt.cells, Pt.slots] at X' K' q' e1 e2 e3 stp
  subst e1 e2 e3
  exact (k v U.heap K' q' p l e s vm0 m args below meth c U _ ok X' (sn.keep ok.2.2.2.1 K' hsf) (fr.app f1) (K.trans K' hws) O rfl).pre stp
theorem Rn.callS {ix : Nat} {y : MethodName} {yb : ByteArray} {yl : Nat} {yr : Option FieldType} {rm : Room} {as : Array Value} {ws' : List Addr} {Q' : Option Value → Heap → Prop} {argsL : List Value} {st : List Value}
    (C : Ct Z y yb yl yr rm as h ws' Q') (w1 : (Jvm.Cond.methodLink own ix y).before a0 Z = true) (w2 : (Jvm.Cond.static y).before a0 Z = true) (w3 : (Jvm.Cond.initialized y.cls).before a0 Z = true) (w4 : (Jvm.Cond.code y yb yl yr).before a0 Z = true) (hy : y.cls ≠ "java/lang/invoke/MethodHandle" ∧ y.cls ≠ "java/lang/invoke/VarHandle")
    (hst : st = argsL.reverse ++ rest) (has : argsL.toArray = as) (hlen : ∀ sig, parseMethodDescriptor y.desc = some sig → argsL.length = sig.parameters.length) (hsz : Ls.size = ml) (hd : decode bytes pc = .ok (.invokestatic ix, 3)) (hp : pc + 3 = pc')
    (hf : rm.frames + 1 ≤ R.frames) (hl : (rest.map fun v => v.category).sum + (yl + 11) + rm.locals ≤ R.locals) (hc : cells + rm.cells ≤ R.cells) (hs : slots + rm.slots ≤ R.slots) (hws : ∀ x ∈ ws', x ∈ ws ∨ hS.size ≤ x) (hsf : ∀ x ∈ ws', Sf w Z EL os h x)
    (k : ∀ v h', Keep h h' ws' → Q' v h' → Rn w Z EL own nm bytes ml ret R hS ws Q os (cells + rm.cells) (slots + rm.slots) h' pc' Ls (v.toList ++ rest)) : Rn w Z EL own nm bytes ml ret R hS ws Q os cells slots h pc Ls st := by
  refine Rn.called hws hsf k fun p l e s m args below meth c T locs hx hby hml X hZ hown eT hO hge => ?_
  obtain ⟨v, vm1, B, -, X', ⟨L, q⟩, stp⟩ := Jvm.LawKit.callS X hx (y := y) hown (mvT hZ w1) (mvT hZ w2) (mvT hZ w3) (mvT hZ w4) hy (backOf (W := (rest.map fun v => v.category).sum) (Q := fun v h2 L => Fr Z.heap.size L ∧ Keep h h2 ws' ∧ Q' v h2) (C hO hge l) hZ w4 w3 hf hl) (g := mkF m pc Ls st) rfl (hsz.trans hml.symm) (argsL := argsL) (rest := rest) hlen hst (by show 2 * 0 + _ ≤ _; omega) (hb hby hd) (fun _ _ => ⟨has, eT, hc, hs⟩)
  subst hp
  exact ⟨v, B, X', ⟨L, q⟩, stp⟩
theorem Rn.callI {ix : Nat} {y : MethodName} {yb : ByteArray} {yl : Nat} {rm : Room} {as : Array Value} {ws' : List Addr} {Q' : Option Value → Heap → Prop} {a : Addr} {argsL : List Value} {st : List Value}
    (C : Ct Z y yb yl none rm as h ws' Q') (hy1 : y.name = "<init>") (w1 : (Jvm.Cond.methodLink own ix y).before a0 Z = true) (w2 : (Jvm.Cond.instanceMethod y).before a0 Z = true) (w3 : (Jvm.Cond.initialized y.cls).before a0 Z = true) (w4 : (Jvm.Cond.code y yb yl none).before a0 Z = true) (hy : y.cls ≠ "java/lang/invoke/MethodHandle" ∧ y.cls ≠ "java/lang/invoke/VarHandle")
    (hst : st = argsL.reverse ++ .ref a :: rest) (has : (.ref a :: argsL).toArray = as) (hlen : ∀ sig, parseMethodDescriptor y.desc = some sig → argsL.length = sig.parameters.length) (hsz : Ls.size = ml) (hd : decode bytes pc = .ok (.invokespecial ix, 3)) (hp : pc + 3 = pc')
    (hf : rm.frames + 1 ≤ R.frames) (hl : (rest.map fun v => v.category).sum + (yl + 11) + rm.locals ≤ R.locals) (hc : cells + rm.cells ≤ R.cells) (hs : slots + rm.slots ≤ R.slots) (hws : ∀ x ∈ ws', x ∈ ws ∨ hS.size ≤ x) (hsf : ∀ x ∈ ws', Sf w Z EL os h x)
    (k : ∀ v h', Keep h h' ws' → Q' v h' → Rn w Z EL own nm bytes ml ret R hS ws Q os (cells + rm.cells) (slots + rm.slots) h' pc' Ls (v.toList ++ rest)) : Rn w Z EL own nm bytes ml ret R hS ws Q os cells slots h pc Ls st := by
  refine Rn.called hws hsf k fun p l e s m args below meth c T locs hx hby hml X hZ hown eT hO hge => ?_
  obtain ⟨v, vm1, B, -, X', ⟨L, q⟩, stp⟩ := X.specialBack hx (y := y) hy1 hown (mvT hZ w1) (mvT hZ w2) (mvT hZ w4) hy (backOf (W := (rest.map fun v => v.category).sum) (Q := fun v h2 L => Fr Z.heap.size L ∧ Keep h h2 ws' ∧ Q' v h2) (C hO hge l) hZ w4 w3 hf hl) (g := mkF m pc Ls st) rfl (hsz.trans hml.symm) (Steps.refl _) (a := a) (argsL := argsL) (rest := rest) hlen hst (by show 2 * 0 + _ ≤ _; omega) (hb hby hd) (fun _ _ => ⟨has, eT, hc, hs⟩)
  subst hp
  exact ⟨v, B, X', ⟨L, q⟩, fun t r => stp.trans r⟩
theorem Rn.callV {ix : Nat} {C0 : String} {y z : MethodName} {yb : ByteArray} {yl : Nat} {yr : Option FieldType} {rm : Room} {as : Array Value} {ws' : List Addr} {Q' : Option Value → Heap → Prop} {a : Addr} {argsL : List Value} {st : List Value}
    (C : Ct Z z yb yl yr rm as h ws' Q') (E : Exa Z h a C0) (w1 : (Jvm.Cond.methodLink own ix y).before a0 Z = true) (w2 : (Jvm.Cond.declares y).before a0 Z = true) (nf : ∀ s : State, Z.Warmed39 s.vm → NotFace s y) (w5 : (Jvm.Cond.selects C0 y z).before a0 Z = true) (w6 : (Jvm.Cond.instanceMethod z).before a0 Z = true) (w3 : (Jvm.Cond.initialized z.cls).before a0 Z = true) (w4 : (Jvm.Cond.code z yb yl yr).before a0 Z = true) (hy : y.cls ≠ "java/lang/invoke/MethodHandle" ∧ y.cls ≠ "java/lang/invoke/VarHandle")
    (hst : st = argsL.reverse ++ .ref a :: rest) (has : (.ref a :: argsL).toArray = as) (hlen : ∀ sig, parseMethodDescriptor y.desc = some sig → argsL.length = sig.parameters.length) (hsz : Ls.size = ml) (hd : decode bytes pc = .ok (.invokevirtual ix, 3)) (hp : pc + 3 = pc')
    (hf : rm.frames + 1 ≤ R.frames) (hl : (rest.map fun v => v.category).sum + (yl + 11) + rm.locals ≤ R.locals) (hc : cells + rm.cells ≤ R.cells) (hs : slots + rm.slots ≤ R.slots) (hws : ∀ x ∈ ws', x ∈ ws ∨ hS.size ≤ x) (hsf : ∀ x ∈ ws', Sf w Z EL os h x)
    (k : ∀ v h', Keep h h' ws' → Q' v h' → Rn w Z EL own nm bytes ml ret R hS ws Q os (cells + rm.cells) (slots + rm.slots) h' pc' Ls (v.toList ++ rest)) : Rn w Z EL own nm bytes ml ret R hS ws Q os cells slots h pc Ls st := by
  refine Rn.called hws hsf k fun p l e s m args below meth c T locs hx hby hml X hZ hown eT hO hge => ?_
  obtain ⟨cq, kq, qa, qb, qc⟩ := isOf hZ eT E
  obtain ⟨v, vm1, B, -, X', ⟨L, q⟩, stp⟩ := X.virtualBack hx (y := y) (z := z) hown (mvT hZ w1) (mvT hZ w2) (nf s hZ) (mvT hZ w5) (mvT hZ w6) hy (backOf (W := (rest.map fun v => v.category).sum) (Q := fun v h2 L => Fr Z.heap.size L ∧ Keep h h2 ws' ∧ Q' v h2) (C hO hge l) hZ w4 w3 hf hl) qa qc (g := mkF m pc Ls st) rfl (hsz.trans hml.symm) (Steps.refl _) (argsL := argsL) (rest := rest) hlen hst (by show 2 * 0 + _ ≤ _; omega) (hb hby hd) (fun _ _ => ⟨has, eT, hc, hs⟩)
  subst hp
  exact ⟨v, B, X', ⟨L, q⟩, fun t r => stp.trans r⟩
end Objs
section Objs2
variable {w : Bool} {Z : State} {EL : List (String × Nat)} {own nm : String} {bytes : ByteArray} {ml : Nat} {ret : Option FieldType} {R : Room} {hS : Heap} {ws : List Addr} {Q : Option Value → Heap → Prop} {os : List Addr} {cells slots : Nat} {h h' : Heap} {pc pc' : Nat} {Ls Ls' : Array Slot} {rest : List Value} {a0 : Array Value}
theorem Rn.callU {ix : Nat} {C0 owner : String} {y z : MethodName} {yb : ByteArray} {yl : Nat} {yr : Option FieldType} {rm : Room} {as : Array Value} {ws' : List Addr} {Q' : Option Value → Heap → Prop} {a : Addr} {argsL : List Value} {st : List Value}
    (C : Ct Z z yb yl yr rm as h ws' Q') (E : Exa Z h a C0) (w1 : (Jvm.Cond.methodLink own ix y).before a0 Z = true) (w2 : (Jvm.Cond.sameMethod y.cls owner y.name y.desc).before a0 Z = true) (w7 : (Jvm.Cond.declares ⟨owner, y.name, y.desc⟩).before a0 Z = true) (hy : owner ≠ "java/lang/invoke/MethodHandle" ∧ owner ≠ "java/lang/invoke/VarHandle") (w5 : (Jvm.Cond.selects C0 y z).before a0 Z = true) (w6 : (Jvm.Cond.instanceMethod z).before a0 Z = true) (w3 : (Jvm.Cond.initialized z.cls).before a0 Z = true) (w4 : (Jvm.Cond.code z yb yl yr).before a0 Z = true)
    (hst : st = argsL.reverse ++ .ref a :: rest) (has : (.ref a :: argsL).toArray = as) (hlen : ∀ sig, parseMethodDescriptor y.desc = some sig → argsL.length = sig.parameters.length) (hsz : Ls.size = ml) (hd : decode bytes pc = .ok (.invokevirtual ix, 3)) (hp : pc + 3 = pc')
    (hf : rm.frames + 1 ≤ R.frames) (hl : (rest.map fun v => v.category).sum + (yl + 11) + rm.locals ≤ R.locals) (hc : cells + rm.cells ≤ R.cells) (hs : slots + rm.slots ≤ R.slots) (hws : ∀ x ∈ ws', x ∈ ws ∨ hS.size ≤ x) (hsf : ∀ x ∈ ws', Sf w Z EL os h x)
    (k : ∀ v h', Keep h h' ws' → Q' v h' → Rn w Z EL own nm bytes ml ret R hS ws Q os (cells + rm.cells) (slots + rm.slots) h' pc' Ls (v.toList ++ rest)) : Rn w Z EL own nm bytes ml ret R hS ws Q os cells slots h pc Ls st := by
  refine Rn.called hws hsf k fun p l e s m args below meth c T locs hx hby hml X hZ hown eT hO hge => ?_
  obtain ⟨cq, kq, qa, qb, qc⟩ := isOf hZ eT E
  obtain ⟨v, vm1, B, -, X', ⟨L, q⟩, stp⟩ := X.virtualBackUp hx (x := y) (y := z) hown (mvT hZ w1) (mvT hZ w2) (mvT hZ w7) hy (mvT hZ w5) (mvT hZ w6) (backOf (W := (rest.map fun v => v.category).sum) (Q := fun v h2 L => Fr Z.heap.size L ∧ Keep h h2 ws' ∧ Q' v h2) (C hO hge l) hZ w4 w3 hf hl) qa qc (g := mkF m pc Ls st) rfl (hsz.trans hml.symm) (Steps.refl _) (argsL := argsL) (rest := rest) hlen hst (by show 2 * 0 + _ ≤ _; omega) (hb hby hd) (fun _ _ => ⟨has, eT, hc, hs⟩)
  subst hp
  exact ⟨v, B, X', ⟨L, q⟩, fun t r => stp.trans r⟩
end Objs2
section Objs3
variable {w : Bool} {Z : State} {EL : List (String × Nat)} {own nm : String} {bytes : ByteArray} {ml : Nat} {ret : Option FieldType} {R : Room} {hS : Heap} {ws : List Addr} {Q : Option Value → Heap → Prop} {os : List Addr} {cells slots : Nat} {h h' : Heap} {pc pc' : Nat} {Ls Ls' : Array Slot} {rest : List Value} {a0 : Array Value}
theorem Rn.instNull {ix : Nat} (hd : decode bytes pc = .ok (.instanceof ix, 3)) (hp : pc + 3 = pc') (k : Rn w Z EL own nm bytes ml ret R hS ws Q os cells slots h pc' Ls (.int 0 :: rest)) : Rn w Z EL own nm bytes ml ret R hS ws Q os cells slots h pc Ls (.null :: rest) :=
  k.pure fun p l e s m args below meth c T locs hx hby X hZ hown eT t r => by subst hp; exact Jvm.Stand.instanceofNull X hx (g := mkF m pc Ls (.null :: rest)) rfl rfl (hb hby hd) t r
theorem Rn.castNull {ix : Nat} (hd : decode bytes pc = .ok (.checkcast ix, 3)) (hp : pc + 3 = pc') (k : Rn w Z EL own nm bytes ml ret R hS ws Q os cells slots h pc' Ls (.null :: rest)) : Rn w Z EL own nm bytes ml ret R hS ws Q os cells slots h pc Ls (.null :: rest) :=
  k.pure fun p l e s m args below meth c T locs hx hby X hZ hown eT t r => by subst hp; exact Jvm.Stand.checkcastNull X hx (g := mkF m pc Ls (.null :: rest)) rfl rfl (hb hby hd) t r
theorem ni_of {C C0 : String} {y z : MethodName} (w5 : (Jvm.Cond.selects C y z).before a0 Z = true) (e : z.cls = C0) (s : State) (hZ : Z.Warmed39 s.vm) : ∃ c k, s.vm.findClass C0 = some c ∧ s.vm.classes[c]? = some k ∧ k.isInterface = false := by
  subst e
  obtain ⟨c2, r2, m2, -, -, q3, -, kP, hkP, hkPi⟩ := Cond.selects_spec (mvT (args := #[]) (s := s) hZ w5)
  exact ⟨_, kP, findClass_of_methodNamed q3, hkP, hkPi⟩
theorem Rn.callP {ix : Nat} {C0 : String} {y : MethodName} {yb : ByteArray} {yl : Nat} {yr : Option FieldType} {rm : Room} {as : Array Value} {ws' : List Addr} {Q' : Option Value → Heap → Prop} {a : Addr} {argsL : List Value} {st : List Value}
    (C : Ct Z y yb yl yr rm as h ws' Q') (E : Exa Z h a C0) (w1 : (Jvm.Cond.methodLink own ix y).before a0 Z = true) (w6 : (Jvm.Cond.instanceMethod y).before a0 Z = true) (w7 : (Jvm.Cond.privateMethod y).before a0 Z = true) (ni : ∀ s : State, Z.Warmed39 s.vm → ∃ c k, s.vm.findClass y.cls = some c ∧ s.vm.classes[c]? = some k ∧ k.isInterface = false) (w3 : (Jvm.Cond.initialized y.cls).before a0 Z = true) (w4 : (Jvm.Cond.code y yb yl yr).before a0 Z = true) (hy : y.cls ≠ "java/lang/invoke/MethodHandle" ∧ y.cls ≠ "java/lang/invoke/VarHandle")
    (hst : st = argsL.reverse ++ .ref a :: rest) (has : (.ref a :: argsL).toArray = as) (hlen : ∀ sig, parseMethodDescriptor y.desc = some sig → argsL.length = sig.parameters.length) (hsz : Ls.size = ml) (hd : decode bytes pc = .ok (.invokevirtual ix, 3)) (hp : pc + 3 = pc')
    (hf : rm.frames + 1 ≤ R.frames) (hl : (rest.map fun v => v.category).sum + (yl + 11) + rm.locals ≤ R.locals) (hc : cells + rm.cells ≤ R.cells) (hs : slots + rm.slots ≤ R.slots) (hws : ∀ x ∈ ws', x ∈ ws ∨ hS.size ≤ x) (hsf : ∀ x ∈ ws', Sf w Z EL os h x)
    (k : ∀ v h', Keep h h' ws' → Q' v h' → Rn w Z EL own nm bytes ml ret R hS ws Q os (cells + rm.cells) (slots + rm.slots) h' pc' Ls (v.toList ++ rest)) : Rn w Z EL own nm bytes ml ret R hS ws Q os cells slots h pc Ls st := by
  refine Rn.called hws hsf k fun p l e s m args below meth c T locs hx hby hml X hZ hown eT hO hge => ?_
  obtain ⟨cl, e1, e2⟩ := E.cell
  obtain ⟨c9, k9, z1, z2, z3⟩ := ni s hZ
  have hpv : s.PrivateAt y := Cond.privateMethod_at (mvP (args := #[]) hZ w7)
  have hin : (Jvm.Cond.instanceMethod y).before args s = true := mvT hZ w6
  have hsel : (Jvm.Cond.selects y.cls y y).before args s = true := selects_self_of_private z1 z2 z3 hpv hin hy
  obtain ⟨v, vm1, B, -, X', ⟨L, q⟩, stp⟩ := X.privateBack hx (y := y) hown (mvT hZ w1) hin hsel hpv (mvT hZ w4) hy (backOf (W := (rest.map fun v => v.category).sum) (Q := fun v h2 L => Fr Z.heap.size L ∧ Keep h h2 ws' ∧ Q' v h2) (C hO hge l) hZ w4 w3 hf hl) (g := mkF m pc Ls st) rfl (hsz.trans hml.symm) (Steps.refl _) (a := a) (cell := cl) (by rw [eT]; exact e1) e2 (argsL := argsL) (rest := rest) hlen hst (by show 2 * 0 + _ ≤ _; omega) (hb hby hd) (fun _ _ => ⟨has, eT, hc, hs⟩)
  subst hp
  exact ⟨v, B, X', ⟨L, q⟩, fun t r => stp.trans r⟩
/-- 'anewarray' of an array type -/
theorem Rn.newRA {ix : Nat} {n : Int32} {cap : Nat} {ty : FieldType} {C ad : String} (w1 : (Jvm.Cond.classLink own ix C).before a0 Z = true) (w2 : (Jvm.Cond.arrayOver (.array ty)).before a0 Z = true) (hC : (FieldType.array ty).toString = C) (had : "[" ++ C = ad) (hd : decode bytes pc = .ok (.anewarray ix, 3)) (hn : ¬ n < 0) (hcap : n.toNatClampNeg ≤ cap) (hb8 : cap * 8 ≤ 536870912) (hc : cells + 1 ≤ R.cells) (hs : slots + cap ≤ R.slots) (hp : pc + 3 = pc')
    (k : ∀ h' a, a = h.size → hS.size ≤ a → Ext h h' → (Ax Z h' a (.array ty) (List.replicate n.toNatClampNeg .null) ∧ Exa Z h' a ad ∧ ∀ y, ∀ {h2 : Heap} {vs : List Value}, Ax Z h2 a (.array ty) vs → (∃ cl, h2[a]? = some cl ∧ ∃ cl', h'[a]? = some cl' ∧ cl.cls = cl'.cls) → Ins Z h2 y C true → Sto Z h2 a (.ref y)) → Rn w Z EL own nm bytes ml ret R hS ws Q (a :: os) (cells + 1) (slots + cap) h' pc' Ls (.ref a :: rest)) : Rn w Z EL own nm bytes ml ret R hS ws Q os cells slots h pc Ls (.int n :: rest) := by
  refine Rn.made (G := fun h' a => Ax Z h' a (.array ty) (List.replicate n.toNatClampNeg .null) ∧ Exa Z h' a ad ∧ ∀ y, ∀ {h2 : Heap} {vs : List Value}, Ax Z h2 a (.array ty) vs → (∃ cl, h2[a]? = some cl ∧ ∃ cl', h'[a]? = some cl' ∧ cl.cls = cl'.cls) → Ins Z h2 y C true → Sto Z h2 a (.ref y)) (st' := fun a => .ref a :: rest) (st := fun _ => rest) k (fun h' g => g.1.lt) fun p l e s m args below meth c T locs hx hby X hZ hown eT => ?_
  subst hp
  obtain ⟨T', h', cA, X', e', E, A, B, O, st⟩ := Jvm.RoadKit.newRA X hx hZ hown hC w1 w2 eT (g := mkF m pc Ls (.int n :: rest)) rfl (hb hby hd) rfl hn hcap hb8 hc hs had
  refine ⟨T', h', X', e', E, ⟨Ax.new A hn, B, fun y h2 vs A2 ⟨cl, q1, cl', q2, q3⟩ I => ?_⟩, st⟩
  obtain ⟨c2, A3, -⟩ := A2
  cases q1.symm.trans A3.1
  cases q2.symm.trans A.1
  exact Sto.ofVA A3 q3 O I
/-- 'System.arraycopy' between arrays of one primitive type (or one array and itself) -/
theorem Rn.arraycopy {ix : Nat} {a b : Addr} {ty : FieldType} {vs vd vs' : List Value} {sp dp nn : Int32} (A : Ax Z h a ty vs) (B : Ax Z h b ty vd) (fa : ∀ x ∈ vs, fits ty x = true) (fb : ∀ x ∈ vd, fits ty x = true) (hty : refKind ty = false)
    (w1 : (Jvm.Cond.methodLink own ix Jvm.Stand.acN).before a0 Z = true) (w2 : (Jvm.Cond.native Jvm.Stand.acN).before a0 Z = true) (w3 : (Jvm.Cond.static Jvm.Stand.acN).before a0 Z = true) (w4 : (Jvm.Cond.initialized "java/lang/System").before a0 Z = true)
    (h1 : ¬ sp < 0) (h2 : ¬ dp < 0) (h3 : ¬ nn < 0) (h4 : sp.toNatClampNeg + nn.toNatClampNeg ≤ vs.length) (h5 : dp.toNatClampNeg + nn.toNatClampNeg ≤ vd.length)
    (hv : vd.take dp.toNatClampNeg ++ (List.range nn.toNatClampNeg).map (fun i => vs.getD (sp.toNatClampNeg + i) (.int 0)) ++ vd.drop (dp.toNatClampNeg + nn.toNatClampNeg) = vs')
    (hsz : Ls.size = ml) (hd : decode bytes pc = .ok (.invokestatic ix, 3)) (hf : 1 ≤ R.frames) (hl : (rest.map fun v => v.category).sum + 18 ≤ R.locals) (q : b ∈ ws ∨ hS.size ≤ b) (sf : Sf w Z EL os h b) (hp : pc + 3 = pc')
    (k : ∀ h', Keep h h' [b] → Ax Z h' b ty vs' → Rn w Z EL own nm bytes ml ret R hS ws Q os cells slots h' pc' Ls rest) : Rn w Z EL own nm bytes ml ret R hS ws Q os cells slots h pc Ls (.int nn :: .int dp :: .ref b :: .int sp :: .ref a :: rest) := by
  intro p l e s vm0 m args below meth c T locs ok X sn fr K O eT
  have hlen : ∀ {xs : List Value}, xs.length < 2 ^ 31 → (Int32.ofNat xs.length).toNatClampNeg = xs.length ∧ ¬ Int32.ofNat xs.length < 0 := fun {xs} hx => by
    have e1 : (Int32.ofNat xs.length).toInt = xs.length := Int32.toInt_ofNat_of_lt hx
    refine ⟨by simp [Int32.toNatClampNeg, e1], ?_⟩
    rw [Int32.lt_iff_toInt_lt, e1]; have : (0 : Int32).toInt = 0 := rfl; omega
  obtain ⟨la, na⟩ := hlen (xs := vs) (by obtain ⟨_, _, _, z⟩ := A; exact z)
  obtain ⟨lb, nb⟩ := hlen (xs := vd) (by obtain ⟨_, _, _, z⟩ := B; exact z)
  obtain ⟨ka, Aa⟩ := A.arv (d := .int 0) fa _ la na
  obtain ⟨kb, Bb⟩ := B.arv (d := .int 0) fb _ lb nb
  obtain ⟨T', h', L, X', e', N', K', A', stp⟩ := cpA X ok.1 ok.2.2.2.1 ok.2.2.2.2.1 w1 w2 w3 w4 eT Aa Bb (Or.inl ⟨rfl, hty⟩) h1 h2 h3 (by rw [la]; exact h4) (by rw [lb]; exact h5) rfl h5 fr (ge_of O q) (g := mkF m pc Ls (.int nn :: .int dp :: .ref b :: .int sp :: .ref a :: rest)) rfl (hsz.trans ok.2.2.1.symm) rfl (hb ok.2.1 hd) hf (W := (rest.map fun v => v.category).sum) (by show 2 * 0 + _ ≤ _; omega) hl
  have A2 : Ax Z h' b ty vs' := by
    rw [← hv]
    refine Ax.ofArv A' ?_
    simp only [List.length_append, List.length_take, List.length_map, List.length_range, List.length_drop]; omega
  subst hp
  exact (k h' K' A2 p l e s vm0 m args below meth c T' L ok X' (sn.keep ok.2.2.2.1 K' fun x hx => by cases List.mem_singleton.mp hx; exact sf) N' (K.trans K' fun x hx => by cases List.mem_singleton.mp hx; exact q) O e').pre stp
end Objs3
theorem ns_root {Z : State} {a0 : Array Value} {O K : String} {n : Nat} (w : (Jvm.Cond.noSuperclass O).before a0 Z = true) (wi : (Jvm.Cond.instantiable K n).before a0 Z = true) (hn : O ≠ K) : NS Z O K := by
  obtain ⟨c, k, h1, h2, h3, -, -⟩ := Cond.noSuperclass_spec w
  obtain ⟨t, kt, g1, -⟩ := Cond.instantiable_spec wi
  have ne := ids_ne h1 g1 hn
  refine ⟨c, t, h1, g1, fun fuel => ?_⟩
  cases fuel with
  | zero => rfl
  | succ f => simp [Vm.isSubclassAux, ne, h2, h3]
theorem ns_no {Z : State} {a0 : Array Value} {C S K : String} {n : Nat} (w : (Jvm.Cond.superclass C S).before a0 Z = true) (wi : (Jvm.Cond.instantiable K n).before a0 Z = true) (nn : NS Z C K) (hn : C ≠ K) : ∃ c t, Z.vm.findClass C = some c ∧ Z.vm.findClass K = some t ∧ Z.vm.assignable c t = false := by
  obtain ⟨c, t, h0, g0, n3⟩ := nn
  obtain ⟨p, k, kp, h1, h2, h3, h4, h5, -, h7⟩ := Cond.superclass_spec h0 w
  obtain ⟨t', k', g1, g2, g5, g7, -⟩ := Cond.instantiable_spec wi
  cases g0.symm.trans g1
  have g8 : k'.isInterface = false := by cases q : k'.isInterface <;> simp [q] at g7 ⊢
  have ne := ids_ne h0 g0 hn
  refine ⟨c, t, h0, g0, ?_⟩
  show Z.vm.assignableAux (255 + 1) c t = false
  simp [Vm.assignableAux, ne, h2, g2, h5, g5, g8, Vm.isSubclass, n3]
theorem pd_0 : parseMethodDescriptor "()V" = some ⟨[], none⟩ := by decide +kernel
theorem pd_1 : parseMethodDescriptor "()I" = some ⟨[], some .int⟩ := by decide +kernel
theorem pd_2 : parseMethodDescriptor "(I)Lcom/example/pathlamp/pathlamp/maps/CostConstraint$Operator;" = some ⟨[.int], some (.object "com/example/pathlamp/pathlamp/maps/CostConstraint$Operator")⟩ := by decide +kernel
theorem pd_3 : parseMethodDescriptor "(Lcom/example/pathlamp/pathlamp/maps/CostConstraint$Operator;D)V" = some ⟨[(.object "com/example/pathlamp/pathlamp/maps/CostConstraint$Operator"), .double], none⟩ := by decide +kernel
theorem pd_4 : parseMethodDescriptor "(D)Z" = some ⟨[.double], some .boolean⟩ := by decide +kernel
theorem pn_0 : plainName "com/example/pathlamp/pathlamp/maps/CostConstraintKeptByPinLaw" = true := by first | (simp [plainName, overriddenIn]; done) | decide +kernel
theorem pn_1 : plainName "java/lang/Record" = true := by first | (simp [plainName, overriddenIn]; done) | decide +kernel
theorem pn_2 : plainName "com/example/pathlamp/pathlamp/maps/CostConstraint" = true := by first | (simp [plainName, overriddenIn]; done) | decide +kernel
theorem pn_3 : plainName "java/lang/Enum" = true := by first | (simp [plainName, overriddenIn]; done) | decide +kernel
/-- the constants of the enum, by their ordinal -/
def own_En (Z : State) (n : String) (o : Int32) (a : Addr) : Prop := Sta Z Z.heap "com/example/pathlamp/pathlamp/maps/CostConstraint$Operator" n "Lcom/example/pathlamp/pathlamp/maps/CostConstraint$Operator;" (.ref a) ∧ Exa Z Z.heap a "com/example/pathlamp/pathlamp/maps/CostConstraint$Operator" ∧ Fld Z Z.heap a "java/lang/Enum" "ordinal" "I" (.int o)
def own_cmp (c v : Int32) : Int32 := if c < v then -1 else if c = v then 0 else 1
theorem own_lcmp (c v : Int32) : lcmpW c.toInt64 v.toInt64 = own_cmp c v := by
  have h := c_lcmp c.toInt64 v.toInt64
  rw [Int32.toInt_toInt64, Int32.toInt_toInt64] at h
  unfold own_cmp
  split
  · rename_i q; exact Int32.toInt_inj.mp ((h.1 (Int32.lt_iff_toInt_lt.mp q)).trans rfl)
  · split
    · rename_i q; exact Int32.toInt_inj.mp ((h.2.1 (congrArg Int32.toInt q)).trans rfl)
    · rename_i q1 q2
      rw [Int32.lt_iff_toInt_lt] at q1
      have q3 : ¬ c.toInt = v.toInt := fun z => q2 (Int32.toInt_inj.mp z)
      exact Int32.toInt_inj.mp ((h.2.2 (by omega)).trans rfl)
theorem own_b53 (c : Int32) : B53 c.toInt64 := by
  have := rng32 c
  unfold B53; rw [Int32.toInt_toInt64]; omega
theorem own_dc (c v : Int32) (o : CmpOp) : cmpValue (FP.dcmp (FP.i2d c) (FP.i2d v)) o = own_cmp c v := by
  rw [i2d_w c, i2d_w v, dcmpV_w (own_b53 c) (own_b53 v), own_lcmp]
theorem own_lt0 {c v : Int32} : own_cmp c v < 0 ↔ c < v := by unfold own_cmp; split <;> (try split) <;> simp_all <;> decide
theorem own_gt0 {c v : Int32} : 0 < own_cmp c v ↔ v < c := by
  unfold own_cmp; split
  · rename_i q; constructor
    · intro z; exact absurd z (by decide)
    · intro z; rw [Int32.lt_iff_toInt_lt] at *; omega
  · split
    · rename_i q1 q2; subst q2; constructor
      · intro z; exact absurd z (by decide)
      · intro z; exact absurd z q1
    · rename_i q1 q2; constructor
      · intro _; have q3 : ¬ c.toInt = v.toInt := fun z => q2 (Int32.toInt_inj.mp z)
        rw [Int32.lt_iff_toInt_lt] at *; omega
      · intro _; decide
theorem own_eq0 {c v : Int32} : own_cmp c v = 0 ↔ c = v := by
  unfold own_cmp; split
  · rename_i q; constructor
    · intro z; exact absurd z (by decide)
    · intro z; subst z; rw [Int32.lt_iff_toInt_lt] at q; omega
  · split
    · rename_i q1 q2; simp [q2]
    · rename_i q1 q2; simp [q2]
/-- what keptBy answers -/
def own_keep (o c v : Int32) : Int32 :=
  if o = 0 then (if v < c then 1 else 0) else if o = 1 then (if c < v then 1 else 0) else if o = 2 then (if c < v then 0 else 1) else if o = 3 then (if v < c then 0 else 1) else (if c = v then 1 else 0)
theorem own_k5 (x : Int32) : ∃ k, (x &&& (2147483647 : Int32)) % (5 : Int32) = k ∧ (k = 0 ∨ k = 1 ∨ k = 2 ∨ k = 3 ∨ k = 4) := by
  refine ⟨_, rfl, ?_⟩
  have h1 := (c_and x 2147483647 (by decide)).1
  have h2 := (c_irem (x &&& (2147483647 : Int32)) 5 5 rfl).1 h1
  obtain ⟨k, ek⟩ : ∃ k, k = (x &&& (2147483647 : Int32)) % (5 : Int32) := ⟨_, rfl⟩
  rw [← ek] at h2 ⊢
  have t : ∀ j : Int32, k.toInt = j.toInt → k = j := fun j q => Int32.toInt_inj.mp q
  rcases (by omega : k.toInt = 0 ∨ k.toInt = 1 ∨ k.toInt = 2 ∨ k.toInt = 3 ∨ k.toInt = 4) with q | q | q | q | q
  · exact Or.inl (t 0 q)
  · exact Or.inr (Or.inl (t 1 q))
  · exact Or.inr (Or.inr (Or.inl (t 2 q)))
  · exact Or.inr (Or.inr (Or.inr (Or.inl (t 3 q))))
  · exact Or.inr (Or.inr (Or.inr (Or.inr (t 4 q))))
theorem d0_0 : decode method_2_code 0 = .ok (.iload_n 0, 1) := by decide +kernel
theorem d0_1 : decode method_2_code 1 = .ok (.ifCond .ne 7, 3) := by decide +kernel
theorem d0_4 : decode method_2_code 4 = .ok (.getstatic 7, 3) := by decide +kernel
theorem d0_7 : decode method_2_code 7 = .ok (.areturn, 1) := by decide +kernel
theorem d0_8 : decode method_2_code 8 = .ok (.iload_n 0, 1) := by decide +kernel
theorem d0_9 : decode method_2_code 9 = .ok (.iconst 1, 1) := by decide +kernel
theorem d0_10 : decode method_2_code 10 = .ok (.if_icmp .ne 7, 3) := by decide +kernel
theorem d0_13 : decode method_2_code 13 = .ok (.getstatic 13, 3) := by decide +kernel
theorem d0_16 : decode method_2_code 16 = .ok (.areturn, 1) := by decide +kernel
theorem d0_17 : decode method_2_code 17 = .ok (.iload_n 0, 1) := by decide +kernel
theorem d0_18 : decode method_2_code 18 = .ok (.iconst 2, 1) := by decide +kernel
theorem d0_19 : decode method_2_code 19 = .ok (.if_icmp .ne 7, 3) := by decide +kernel
theorem d0_22 : decode method_2_code 22 = .ok (.getstatic 16, 3) := by decide +kernel
theorem d0_25 : decode method_2_code 25 = .ok (.areturn, 1) := by decide +kernel
theorem d0_26 : decode method_2_code 26 = .ok (.iload_n 0, 1) := by decide +kernel
theorem d0_27 : decode method_2_code 27 = .ok (.iconst 3, 1) := by decide +kernel
theorem d0_28 : decode method_2_code 28 = .ok (.if_icmp .ne 7, 3) := by decide +kernel
theorem d0_31 : decode method_2_code 31 = .ok (.getstatic 19, 3) := by decide +kernel
theorem d0_34 : decode method_2_code 34 = .ok (.areturn, 1) := by decide +kernel
theorem d0_35 : decode method_2_code 35 = .ok (.getstatic 22, 3) := by decide +kernel
theorem d0_38 : decode method_2_code 38 = .ok (.areturn, 1) := by decide +kernel
set_option maxRecDepth 65536 in
set_option maxHeartbeats 40000000 in
theorem ct_op (Z : State) (a0 : Array Value) (hw : ∀ d ∈ tables_1, d.before a0 Z = true) (k : Int32) (hk : k = 0 ∨ k = 1 ∨ k = 2 ∨ k = 3 ∨ k = 4) (h0 : Heap) (z0 : Addr) (n0 : own_En Z "GT" 0 z0) (z1 : Addr) (n1 : own_En Z "LT" 1 z1) (z2 : Addr) (n2 : own_En Z "GE" 2 z2) (z3 : Addr) (n3 : own_En Z "LE" 3 z3) (z4 : Addr) (n4 : own_En Z "EQ" 4 z4) :
    Ct Z ⟨"com/example/pathlamp/pathlamp/maps/CostConstraintKeptByPinLaw", "op", "(I)Lcom/example/pathlamp/pathlamp/maps/CostConstraint$Operator;"⟩ method_2_code 1 (Option.some (FieldType.object "com/example/pathlamp/pathlamp/maps/CostConstraint$Operator")) ({ frames := 0, cells := 0, slots := 0, locals := 0 } : Room) #[(.int k)] h0 [] (fun v h => ∃ a, v = some (.ref a) ∧ h0 = h ∧ Exa Z Z.heap a "com/example/pathlamp/pathlamp/maps/CostConstraint$Operator" ∧ Fld Z Z.heap a "java/lang/Enum" "ordinal" "I" (.int k)) := by
  refine Ct.intro (Ls := #[.val (.int k)]) pn_0 (by intro m; first | (simp [entryFrame, mkF, argsToLocals, Value.category]; done) | rfl) ?_
  refine Rn.iloadN (pc' := 1) d0_0 rfl rfl ?_
  refine Rn.if_ne (pc' := 8) (pn := 4) d0_1 (by decide) (by decide) rfl (fun cq1 => ?_) (fun cq1 => ?_)
  ·
    refine Rn.iloadN (pc' := 9) d0_8 rfl rfl ?_
    refine Rn.iconst (pc' := 10) (v := (1 : Int32)) d0_9 rfl rfl ?_
    refine Rn.icmp_ne (pc' := 17) (pn := 13) d0_10 (by decide) (by decide) rfl (fun cq2 => ?_) (fun cq2 => ?_)
    ·
      refine Rn.iloadN (pc' := 18) d0_17 rfl rfl ?_
      refine Rn.iconst (pc' := 19) (v := (2 : Int32)) d0_18 rfl rfl ?_
      refine Rn.icmp_ne (pc' := 26) (pn := 22) d0_19 (by decide) (by decide) rfl (fun cq3 => ?_) (fun cq3 => ?_)
      ·
        refine Rn.iloadN (pc' := 27) d0_26 rfl rfl ?_
        refine Rn.iconst (pc' := 28) (v := (3 : Int32)) d0_27 rfl rfl ?_
        refine Rn.icmp_ne (pc' := 35) (pn := 31) d0_28 (by decide) (by decide) rfl (fun cq4 => ?_) (fun cq4 => ?_)
        ·
          refine Rn.old fun Oq5 _ => ?_
          refine Rn.getS (pc' := 38) (hw _ (List.mem_of_getElem? (i := 42) rfl)) Via.refl (n4.1.ext Oq5) d0_35 rfl ?_
          refine Rn.retA (t := (.object "com/example/pathlamp/pathlamp/maps/CostConstraint$Operator")) rfl rfl rfl d0_38 (Nat.le_of_ble_eq_true rfl) (Nat.le_of_ble_eq_true rfl) ?_
          exact ⟨z4, rfl, rfl, (by rcases hk with q | q | q | q | q <;> first | (exact q ▸ n4.2) | contradiction)⟩
        ·
          refine Rn.old fun Oq6 _ => ?_
          refine Rn.getS (pc' := 34) (hw _ (List.mem_of_getElem? (i := 46) rfl)) Via.refl (n3.1.ext Oq6) d0_31 rfl ?_
          refine Rn.retA (t := (.object "com/example/pathlamp/pathlamp/maps/CostConstraint$Operator")) rfl rfl rfl d0_34 (Nat.le_of_ble_eq_true rfl) (Nat.le_of_ble_eq_true rfl) ?_
          exact ⟨z3, rfl, rfl, (by first | (rename_i q; exact q ▸ n3.2) | exact (‹k = 3› ▸ n3.2))⟩
      ·
        refine Rn.old fun Oq7 _ => ?_
        refine Rn.getS (pc' := 25) (hw _ (List.mem_of_getElem? (i := 40) rfl)) Via.refl (n2.1.ext Oq7) d0_22 rfl ?_
        refine Rn.retA (t := (.object "com/example/pathlamp/pathlamp/maps/CostConstraint$Operator")) rfl rfl rfl d0_25 (Nat.le_of_ble_eq_true rfl) (Nat.le_of_ble_eq_true rfl) ?_
        exact ⟨z2, rfl, rfl, (by first | (rename_i q; exact q ▸ n2.2) | exact (‹k = 2› ▸ n2.2))⟩
    ·
      refine Rn.old fun Oq8 _ => ?_
      refine Rn.getS (pc' := 16) (hw _ (List.mem_of_getElem? (i := 44) rfl)) Via.refl (n1.1.ext Oq8) d0_13 rfl ?_
      refine Rn.retA (t := (.object "com/example/pathlamp/pathlamp/maps/CostConstraint$Operator")) rfl rfl rfl d0_16 (Nat.le_of_ble_eq_true rfl) (Nat.le_of_ble_eq_true rfl) ?_
      exact ⟨z1, rfl, rfl, (by first | (rename_i q; exact q ▸ n1.2) | exact (‹k = 1› ▸ n1.2))⟩
  ·
    refine Rn.old fun Oq9 _ => ?_
    refine Rn.getS (pc' := 7) (hw _ (List.mem_of_getElem? (i := 8) rfl)) Via.refl (n0.1.ext Oq9) d0_4 rfl ?_
    refine Rn.retA (t := (.object "com/example/pathlamp/pathlamp/maps/CostConstraint$Operator")) rfl rfl rfl d0_7 (Nat.le_of_ble_eq_true rfl) (Nat.le_of_ble_eq_true rfl) ?_
    exact ⟨z0, rfl, rfl, (by first | (rename_i q; exact q ▸ n0.2) | exact (‹k = 0› ▸ n0.2))⟩
theorem d2_0 : decode jdk_30_method_1_code 0 = .ok (.aload_n 0, 1) := by decide +kernel
theorem d2_1 : decode jdk_30_method_1_code 1 = .ok (.invokespecial 1, 3) := by decide +kernel
theorem d2_4 : decode jdk_30_method_1_code 4 = .ok (.return_, 1) := by decide +kernel
set_option maxRecDepth 65536 in
set_option maxHeartbeats 40000000 in
theorem ct_rec (Z : State) (a0 : Array Value) (hw : ∀ d ∈ tables_1, d.before a0 Z = true) (a : Addr) (h0 : Heap) :
    Ct Z ⟨"java/lang/Record", "<init>", "()V"⟩ jdk_30_method_1_code 1 (Option.none : Option FieldType) ({ frames := 1, cells := 0, slots := 0, locals := 12 } : Room) #[(.ref a)] h0 [] (fun v h => v = none ∧ h0 = h) := by
  refine Ct.intro (Ls := #[.val (.ref a)]) pn_1 (by intro m; first | (simp [entryFrame, mkF, argsToLocals, Value.category]; done) | rfl) ?_
  refine Rn.aloadN (pc' := 1) d2_0 rfl rfl rfl ?_
  refine Rn.initO (pc' := 4) (hw _ (List.mem_of_getElem? (i := 19) rfl)) (hw _ (List.mem_of_getElem? (i := 20) rfl)) (hw _ (List.mem_of_getElem? (i := 21) rfl)) rfl d2_1 (Nat.le_of_ble_eq_true rfl) (Nat.le_of_ble_eq_true rfl) rfl ?_
  refine Rn.retV rfl d2_4 (Nat.le_of_ble_eq_true rfl) (Nat.le_of_ble_eq_true rfl) ?_
  exact ⟨rfl, rfl⟩
theorem d1_0 : decode prog_8_method_1_code 0 = .ok (.aload_n 0, 1) := by decide +kernel
theorem d1_1 : decode prog_8_method_1_code 1 = .ok (.invokespecial 1, 3) := by decide +kernel
theorem d1_4 : decode prog_8_method_1_code 4 = .ok (.aload_n 0, 1) := by decide +kernel
theorem d1_5 : decode prog_8_method_1_code 5 = .ok (.aload_n 1, 1) := by decide +kernel
theorem d1_6 : decode prog_8_method_1_code 6 = .ok (.putfield 7, 3) := by decide +kernel
theorem d1_9 : decode prog_8_method_1_code 9 = .ok (.aload_n 0, 1) := by decide +kernel
theorem d1_10 : decode prog_8_method_1_code 10 = .ok (.dload_n 2, 1) := by decide +kernel
theorem d1_11 : decode prog_8_method_1_code 11 = .ok (.putfield 13, 3) := by decide +kernel
theorem d1_14 : decode prog_8_method_1_code 14 = .ok (.return_, 1) := by decide +kernel
set_option maxRecDepth 65536 in
set_option maxHeartbeats 40000000 in
theorem ct_cc (Z : State) (a0 : Array Value) (hw : ∀ d ∈ tables_1, d.before a0 Z = true) (c a : Addr) (x : UInt64) (h0 : Heap) (E : Exa Z h0 c "com/example/pathlamp/pathlamp/maps/CostConstraint") (F1 : Fld Z h0 c "com/example/pathlamp/pathlamp/maps/CostConstraint" "operator" "Lcom/example/pathlamp/pathlamp/maps/CostConstraint$Operator;" .null) (F2 : Fld Z h0 c "com/example/pathlamp/pathlamp/maps/CostConstraint" "value" "D" (.double (0 : UInt64))) :
    Ct Z ⟨"com/example/pathlamp/pathlamp/maps/CostConstraint", "<init>", "(Lcom/example/pathlamp/pathlamp/maps/CostConstraint$Operator;D)V"⟩ prog_8_method_1_code 4 (Option.none : Option FieldType) ({ frames := 2, cells := 0, slots := 0, locals := 24 } : Room) #[(.ref c), (.ref a), (.double x)] h0 [c] (fun v h => v = none ∧ Exa Z h c "com/example/pathlamp/pathlamp/maps/CostConstraint" ∧ Fld Z h c "com/example/pathlamp/pathlamp/maps/CostConstraint" "operator" "Lcom/example/pathlamp/pathlamp/maps/CostConstraint$Operator;" (.ref a) ∧ Fld Z h c "com/example/pathlamp/pathlamp/maps/CostConstraint" "value" "D" (.double x)) := by
  refine Ct.intro (Ls := #[.val (.ref c), .val (.ref a), .val (.double x), .second]) pn_2 (by intro m; first | (simp [entryFrame, mkF, argsToLocals, Value.category]; done) | rfl) ?_
  refine Rn.aloadN (pc' := 1) d1_0 rfl rfl rfl ?_
  refine Rn.callI (pc' := 4) (argsL := []) (a := c) (rest := []) (ct_rec Z a0 hw c h0) rfl (hw _ (List.mem_of_getElem? (i := 14) rfl)) (hw _ (List.mem_of_getElem? (i := 15) rfl)) (hw _ (List.mem_of_getElem? (i := 17) rfl)) (hw _ (List.mem_of_getElem? (i := 18) rfl)) (by decide) rfl rfl (lenOf pd_0 rfl) rfl d1_1 rfl (Nat.le_of_ble_eq_true rfl) (Nat.le_of_ble_eq_true rfl) (Nat.le_of_ble_eq_true rfl) (Nat.le_of_ble_eq_true rfl) (fun _ z => nomatch z) (fun _ z => nomatch z) (fun vq1 hq2 Kq3 qq4 => ?_)
  obtain ⟨rfl, rfl⟩ := qq4
  simp only [Option.toList, List.cons_append, List.nil_append]
  refine Rn.aloadN (pc' := 5) d1_4 rfl rfl rfl ?_
  refine Rn.aloadN (pc' := 6) d1_5 rfl rfl rfl ?_
  refine Rn.putF (pc' := 9) (hw _ (List.mem_of_getElem? (i := 22) rfl)) Via.refl F1 E (Or.inr ⟨(hw _ (List.mem_of_getElem? (i := 23) rfl)), rfl, rfl⟩) (hw _ (List.mem_of_getElem? (i := 2) rfl)) (ty := (.object "com/example/pathlamp/pathlamp/maps/CostConstraint$Operator")) (by decide) rfl rfl (Or.inl (List.mem_of_getElem? (i := 0) rfl)) Sf.no d1_6 rfl (fun hq6 Wq5 => ?_)
  have Fq7 := F1.same Wq5
  refine Rn.aloadN (pc' := 10) d1_9 rfl rfl rfl ?_
  refine Rn.dloadN (pc' := 11) d1_10 rfl rfl ?_
  have Fq8 := F2.other Wq5 (Or.inr (slot_ne (t := .double) (t' := (.object "com/example/pathlamp/pathlamp/maps/CostConstraint$Operator")) (Or.inr (hw _ (List.mem_of_getElem? (i := 25) rfl))) (Or.inr (hw _ (List.mem_of_getElem? (i := 23) rfl))) (by decide) (by decide) (by decide)))
  have Fq9 := E.wr Wq5
  refine Rn.putF (pc' := 14) (hw _ (List.mem_of_getElem? (i := 24) rfl)) Via.refl Fq8 Fq9 (Or.inr ⟨(hw _ (List.mem_of_getElem? (i := 25) rfl)), rfl, rfl⟩) (hw _ (List.mem_of_getElem? (i := 2) rfl)) (ty := .double) (by decide) rfl rfl (Or.inl (List.mem_of_getElem? (i := 0) rfl)) Sf.no d1_11 rfl (fun hq11 Wq10 => ?_)
  have Fq12 := Fq8.same Wq10
  refine Rn.retV rfl d1_14 (Nat.le_of_ble_eq_true rfl) (Nat.le_of_ble_eq_true rfl) ?_
  have Fq13 := Fq7.other Wq10 (Or.inr (slot_ne (t := (.object "com/example/pathlamp/pathlamp/maps/CostConstraint$Operator")) (t' := .double) (Or.inr (hw _ (List.mem_of_getElem? (i := 23) rfl))) (Or.inr (hw _ (List.mem_of_getElem? (i := 25) rfl))) (by decide) (by decide) (by decide)))
  have Fq14 := Fq9.wr Wq10
  exact ⟨rfl, Fq14, Fq13, Fq12⟩
theorem d5_0 : decode jdk_37_method_2_code 0 = .ok (.aload_n 0, 1) := by decide +kernel
theorem d5_1 : decode jdk_37_method_2_code 1 = .ok (.getfield 7, 3) := by decide +kernel
theorem d5_4 : decode jdk_37_method_2_code 4 = .ok (.ireturn, 1) := by decide +kernel
set_option maxRecDepth 65536 in
set_option maxHeartbeats 40000000 in
theorem ct_ord (Z : State) (a0 : Array Value) (hw : ∀ d ∈ tables_1, d.before a0 Z = true) (a : Addr) (o : Int32) (h0 : Heap) (F : Fld Z h0 a "java/lang/Enum" "ordinal" "I" (.int o)) :
    Ct Z ⟨"java/lang/Enum", "ordinal", "()I"⟩ jdk_37_method_2_code 1 (Option.some FieldType.int) ({ frames := 0, cells := 0, slots := 0, locals := 0 } : Room) #[(.ref a)] h0 [] (fun v h => v = some (.int o) ∧ h0 = h) := by
  refine Ct.intro (Ls := #[.val (.ref a)]) pn_3 (by intro m; first | (simp [entryFrame, mkF, argsToLocals, Value.category]; done) | rfl) ?_
  refine Rn.aloadN (pc' := 1) d5_0 rfl rfl rfl ?_
  refine Rn.getF (pc' := 4) (host := "") (Or.inl (hw _ (List.mem_of_getElem? (i := 38) rfl))) Via.refl F d5_1 rfl ?_
  refine Rn.retI rfl d5_4 (Nat.le_of_ble_eq_true rfl) (Nat.le_of_ble_eq_true rfl) ?_
  exact ⟨rfl, rfl⟩
theorem d4_0 : decode prog_8_method_3_code 0 = .ok (.aload_n 0, 1) := by decide +kernel
theorem d4_1 : decode prog_8_method_3_code 1 = .ok (.getfield 7, 3) := by decide +kernel
theorem d4_4 : decode prog_8_method_3_code 4 = .ok (.invokevirtual 54, 3) := by decide +kernel
theorem d4_7 : decode prog_8_method_3_code 7 = .ok (.tableswitch 33 0 4 #[43, 60, 77, 94, 111], 33) := by decide +kernel
theorem d4_40 : decode prog_8_method_3_code 40 = .ok (.new 58, 3) := by decide +kernel
theorem d4_43 : decode prog_8_method_3_code 43 = .ok (.dup, 1) := by decide +kernel
theorem d4_44 : decode prog_8_method_3_code 44 = .ok (.aconst_null, 1) := by decide +kernel
theorem d4_45 : decode prog_8_method_3_code 45 = .ok (.aconst_null, 1) := by decide +kernel
theorem d4_46 : decode prog_8_method_3_code 46 = .ok (.invokespecial 60, 3) := by decide +kernel
theorem d4_49 : decode prog_8_method_3_code 49 = .ok (.athrow, 1) := by decide +kernel
theorem d4_50 : decode prog_8_method_3_code 50 = .ok (.dload_n 1, 1) := by decide +kernel
theorem d4_51 : decode prog_8_method_3_code 51 = .ok (.aload_n 0, 1) := by decide +kernel
theorem d4_52 : decode prog_8_method_3_code 52 = .ok (.getfield 13, 3) := by decide +kernel
theorem d4_55 : decode prog_8_method_3_code 55 = .ok (.dcmp .l, 1) := by decide +kernel
theorem d4_56 : decode prog_8_method_3_code 56 = .ok (.ifCond .le 7, 3) := by decide +kernel
theorem d4_59 : decode prog_8_method_3_code 59 = .ok (.iconst 1, 1) := by decide +kernel
theorem d4_60 : decode prog_8_method_3_code 60 = .ok (.goto 72, 3) := by decide +kernel
theorem d4_63 : decode prog_8_method_3_code 63 = .ok (.iconst 0, 1) := by decide +kernel
theorem d4_64 : decode prog_8_method_3_code 64 = .ok (.goto 68, 3) := by decide +kernel
theorem d4_67 : decode prog_8_method_3_code 67 = .ok (.dload_n 1, 1) := by decide +kernel
theorem d4_68 : decode prog_8_method_3_code 68 = .ok (.aload_n 0, 1) := by decide +kernel
theorem d4_69 : decode prog_8_method_3_code 69 = .ok (.getfield 13, 3) := by decide +kernel
theorem d4_72 : decode prog_8_method_3_code 72 = .ok (.dcmp .g, 1) := by decide +kernel
theorem d4_73 : decode prog_8_method_3_code 73 = .ok (.ifCond .ge 7, 3) := by decide +kernel
theorem d4_76 : decode prog_8_method_3_code 76 = .ok (.iconst 1, 1) := by decide +kernel
theorem d4_77 : decode prog_8_method_3_code 77 = .ok (.goto 55, 3) := by decide +kernel
theorem d4_80 : decode prog_8_method_3_code 80 = .ok (.iconst 0, 1) := by decide +kernel
theorem d4_81 : decode prog_8_method_3_code 81 = .ok (.goto 51, 3) := by decide +kernel
theorem d4_84 : decode prog_8_method_3_code 84 = .ok (.dload_n 1, 1) := by decide +kernel
theorem d4_85 : decode prog_8_method_3_code 85 = .ok (.aload_n 0, 1) := by decide +kernel
theorem d4_86 : decode prog_8_method_3_code 86 = .ok (.getfield 13, 3) := by decide +kernel
theorem d4_89 : decode prog_8_method_3_code 89 = .ok (.dcmp .l, 1) := by decide +kernel
theorem d4_90 : decode prog_8_method_3_code 90 = .ok (.ifCond .lt 7, 3) := by decide +kernel
theorem d4_93 : decode prog_8_method_3_code 93 = .ok (.iconst 1, 1) := by decide +kernel
theorem d4_94 : decode prog_8_method_3_code 94 = .ok (.goto 38, 3) := by decide +kernel
theorem d4_97 : decode prog_8_method_3_code 97 = .ok (.iconst 0, 1) := by decide +kernel
theorem d4_98 : decode prog_8_method_3_code 98 = .ok (.goto 34, 3) := by decide +kernel
theorem d4_101 : decode prog_8_method_3_code 101 = .ok (.dload_n 1, 1) := by decide +kernel
theorem d4_102 : decode prog_8_method_3_code 102 = .ok (.aload_n 0, 1) := by decide +kernel
theorem d4_103 : decode prog_8_method_3_code 103 = .ok (.getfield 13, 3) := by decide +kernel
theorem d4_106 : decode prog_8_method_3_code 106 = .ok (.dcmp .g, 1) := by decide +kernel
theorem d4_107 : decode prog_8_method_3_code 107 = .ok (.ifCond .gt 7, 3) := by decide +kernel
theorem d4_110 : decode prog_8_method_3_code 110 = .ok (.iconst 1, 1) := by decide +kernel
theorem d4_111 : decode prog_8_method_3_code 111 = .ok (.goto 21, 3) := by decide +kernel
theorem d4_114 : decode prog_8_method_3_code 114 = .ok (.iconst 0, 1) := by decide +kernel
theorem d4_115 : decode prog_8_method_3_code 115 = .ok (.goto 17, 3) := by decide +kernel
theorem d4_118 : decode prog_8_method_3_code 118 = .ok (.dload_n 1, 1) := by decide +kernel
theorem d4_119 : decode prog_8_method_3_code 119 = .ok (.aload_n 0, 1) := by decide +kernel
theorem d4_120 : decode prog_8_method_3_code 120 = .ok (.getfield 13, 3) := by decide +kernel
theorem d4_123 : decode prog_8_method_3_code 123 = .ok (.dcmp .l, 1) := by decide +kernel
theorem d4_124 : decode prog_8_method_3_code 124 = .ok (.ifCond .ne 7, 3) := by decide +kernel
theorem d4_127 : decode prog_8_method_3_code 127 = .ok (.iconst 1, 1) := by decide +kernel
theorem d4_128 : decode prog_8_method_3_code 128 = .ok (.goto 4, 3) := by decide +kernel
theorem d4_131 : decode prog_8_method_3_code 131 = .ok (.iconst 0, 1) := by decide +kernel
theorem d4_132 : decode prog_8_method_3_code 132 = .ok (.ireturn, 1) := by decide +kernel
set_option maxRecDepth 65536 in
set_option maxHeartbeats 40000000 in
theorem ct_kb (Z : State) (a0 : Array Value) (hw : ∀ d ∈ tables_1, d.before a0 Z = true) (cc a : Addr) (o c v : Int32) (ho : o = 0 ∨ o = 1 ∨ o = 2 ∨ o = 3 ∨ o = 4) (h0 : Heap) (F1 : Fld Z h0 cc "com/example/pathlamp/pathlamp/maps/CostConstraint" "operator" "Lcom/example/pathlamp/pathlamp/maps/CostConstraint$Operator;" (.ref a)) (F2 : Fld Z h0 cc "com/example/pathlamp/pathlamp/maps/CostConstraint" "value" "D" (.double (FP.i2d v))) (Ea : Exa Z h0 a "com/example/pathlamp/pathlamp/maps/CostConstraint$Operator") (Fo : Fld Z h0 a "java/lang/Enum" "ordinal" "I" (.int o)) :
    Ct Z ⟨"com/example/pathlamp/pathlamp/maps/CostConstraint", "keptBy", "(D)Z"⟩ prog_8_method_3_code 3 (Option.some FieldType.boolean) ({ frames := 1, cells := 0, slots := 0, locals := 15 } : Room) #[(.ref cc), (.double (FP.i2d c))] h0 [] (fun r h => r = some (.int (own_keep o c v)) ∧ h0 = h) := by
  refine Ct.intro (Ls := #[.val (.ref cc), .val (.double (FP.i2d c)), .second]) pn_2 (by intro m; first | (simp [entryFrame, mkF, argsToLocals, Value.category]; done) | rfl) ?_
  rcases ho with rfl | rfl | rfl | rfl | rfl
  ·
    refine Rn.aloadN (pc' := 1) d4_0 rfl rfl rfl ?_
    refine Rn.getF (pc' := 4) (host := "") (Or.inl (hw _ (List.mem_of_getElem? (i := 22) rfl))) Via.refl F1 d4_1 rfl ?_
    refine Rn.callU (pc' := 7) (argsL := []) (a := a) (rest := []) (ct_ord Z a0 hw a (0 : Int32) h0 Fo) Ea (hw _ (List.mem_of_getElem? (i := 31) rfl)) (hw _ (List.mem_of_getElem? (i := 32) rfl)) (hw _ (List.mem_of_getElem? (i := 33) rfl)) (by decide) (hw _ (List.mem_of_getElem? (i := 35) rfl)) (hw _ (List.mem_of_getElem? (i := 34) rfl)) (hw _ (List.mem_of_getElem? (i := 36) rfl)) (hw _ (List.mem_of_getElem? (i := 37) rfl)) rfl rfl (lenOf pd_1 rfl) rfl d4_4 rfl (Nat.le_of_ble_eq_true rfl) (Nat.le_of_ble_eq_true rfl) (Nat.le_of_ble_eq_true rfl) (Nat.le_of_ble_eq_true rfl) (fun _ z => nomatch z) (fun _ z => nomatch z) (fun vq1 hq2 Kq3 qq4 => ?_)
    obtain ⟨rfl, rfl⟩ := qq4
    simp only [Option.toList, List.cons_append, List.nil_append]
    refine Rn.tsw (pc' := 50) d4_7 (by decide) rfl (by decide) (by decide) ?_
    refine Rn.dloadN (pc' := 51) d4_50 rfl rfl ?_
    refine Rn.aloadN (pc' := 52) d4_51 rfl rfl rfl ?_
    refine Rn.getF (pc' := 55) (host := "") (Or.inl (hw _ (List.mem_of_getElem? (i := 24) rfl))) Via.refl F2 d4_52 rfl ?_
    refine Rn.dcmp (pc' := 56) (v := (own_cmp c v)) d4_55 (own_dc c v _) rfl ?_
    refine Rn.if_le (pc' := 63) (pn := 59) d4_56 (by decide) (by decide) rfl (fun cq5 => ?_) (fun cq5 => ?_)
    ·
      refine Rn.iconst (pc' := 64) (v := (0 : Int32)) d4_63 rfl rfl ?_
      refine Rn.goto (pc' := 132) d4_64 (by decide) (by decide) ?_
      refine Rn.retN (t := .boolean) rfl (by simp) d4_132 (Nat.le_of_ble_eq_true rfl) (Nat.le_of_ble_eq_true rfl) ?_
      refine ⟨?_, rfl⟩
      simp only [own_lt0, own_gt0, own_eq0] at *
      simp [own_keep, *]
      try rfl
    ·
      refine Rn.iconst (pc' := 60) (v := (1 : Int32)) d4_59 rfl rfl ?_
      refine Rn.goto (pc' := 132) d4_60 (by decide) (by decide) ?_
      refine Rn.retN (t := .boolean) rfl (by simp) d4_132 (Nat.le_of_ble_eq_true rfl) (Nat.le_of_ble_eq_true rfl) ?_
      refine ⟨?_, rfl⟩
      simp only [own_lt0, own_gt0, own_eq0] at *
      simp [own_keep, *]
      try rfl
  ·
    refine Rn.aloadN (pc' := 1) d4_0 rfl rfl rfl ?_
    refine Rn.getF (pc' := 4) (host := "") (Or.inl (hw _ (List.mem_of_getElem? (i := 22) rfl))) Via.refl F1 d4_1 rfl ?_
    refine Rn.callU (pc' := 7) (argsL := []) (a := a) (rest := []) (ct_ord Z a0 hw a (1 : Int32) h0 Fo) Ea (hw _ (List.mem_of_getElem? (i := 31) rfl)) (hw _ (List.mem_of_getElem? (i := 32) rfl)) (hw _ (List.mem_of_getElem? (i := 33) rfl)) (by decide) (hw _ (List.mem_of_getElem? (i := 35) rfl)) (hw _ (List.mem_of_getElem? (i := 34) rfl)) (hw _ (List.mem_of_getElem? (i := 36) rfl)) (hw _ (List.mem_of_getElem? (i := 37) rfl)) rfl rfl (lenOf pd_1 rfl) rfl d4_4 rfl (Nat.le_of_ble_eq_true rfl) (Nat.le_of_ble_eq_true rfl) (Nat.le_of_ble_eq_true rfl) (Nat.le_of_ble_eq_true rfl) (fun _ z => nomatch z) (fun _ z => nomatch z) (fun vq6 hq7 Kq8 qq9 => ?_)
    obtain ⟨rfl, rfl⟩ := qq9
    simp only [Option.toList, List.cons_append, List.nil_append]
    refine Rn.tsw (pc' := 67) d4_7 (by decide) rfl (by decide) (by decide) ?_
    refine Rn.dloadN (pc' := 68) d4_67 rfl rfl ?_
    refine Rn.aloadN (pc' := 69) d4_68 rfl rfl rfl ?_
    refine Rn.getF (pc' := 72) (host := "") (Or.inl (hw _ (List.mem_of_getElem? (i := 24) rfl))) Via.refl F2 d4_69 rfl ?_
    refine Rn.dcmp (pc' := 73) (v := (own_cmp c v)) d4_72 (own_dc c v _) rfl ?_
    refine Rn.if_ge (pc' := 80) (pn := 76) d4_73 (by decide) (by decide) rfl (fun cq10 => ?_) (fun cq10 => ?_)
    ·
      refine Rn.iconst (pc' := 81) (v := (0 : Int32)) d4_80 rfl rfl ?_
      refine Rn.goto (pc' := 132) d4_81 (by decide) (by decide) ?_
      refine Rn.retN (t := .boolean) rfl (by simp) d4_132 (Nat.le_of_ble_eq_true rfl) (Nat.le_of_ble_eq_true rfl) ?_
      refine ⟨?_, rfl⟩
      simp only [own_lt0, own_gt0, own_eq0] at *
      simp [own_keep, *]
      try rfl
    ·
      refine Rn.iconst (pc' := 77) (v := (1 : Int32)) d4_76 rfl rfl ?_
      refine Rn.goto (pc' := 132) d4_77 (by decide) (by decide) ?_
      refine Rn.retN (t := .boolean) rfl (by simp) d4_132 (Nat.le_of_ble_eq_true rfl) (Nat.le_of_ble_eq_true rfl) ?_
      refine ⟨?_, rfl⟩
      simp only [own_lt0, own_gt0, own_eq0] at *
      simp [own_keep, *]
      try rfl
  ·
    refine Rn.aloadN (pc' := 1) d4_0 rfl rfl rfl ?_
    refine Rn.getF (pc' := 4) (host := "") (Or.inl (hw _ (List.mem_of_getElem? (i := 22) rfl))) Via.refl F1 d4_1 rfl ?_
    refine Rn.callU (pc' := 7) (argsL := []) (a := a) (rest := []) (ct_ord Z a0 hw a (2 : Int32) h0 Fo) Ea (hw _ (List.mem_of_getElem? (i := 31) rfl)) (hw _ (List.mem_of_getElem? (i := 32) rfl)) (hw _ (List.mem_of_getElem? (i := 33) rfl)) (by decide) (hw _ (List.mem_of_getElem? (i := 35) rfl)) (hw _ (List.mem_of_getElem? (i := 34) rfl)) (hw _ (List.mem_of_getElem? (i := 36) rfl)) (hw _ (List.mem_of_getElem? (i := 37) rfl)) rfl rfl (lenOf pd_1 rfl) rfl d4_4 rfl (Nat.le_of_ble_eq_true rfl) (Nat.le_of_ble_eq_true rfl) (Nat.le_of_ble_eq_true rfl) (Nat.le_of_ble_eq_true rfl) (fun _ z => nomatch z) (fun _ z => nomatch z) (fun vq11 hq12 Kq13 qq14 => ?_)
    obtain ⟨rfl, rfl⟩ := qq14
    simp only [Option.toList, List.cons_append, List.nil_append]
    refine Rn.tsw (pc' := 84) d4_7 (by decide) rfl (by decide) (by decide) ?_
    refine Rn.dloadN (pc' := 85) d4_84 rfl rfl ?_
    refine Rn.aloadN (pc' := 86) d4_85 rfl rfl rfl ?_
    refine Rn.getF (pc' := 89) (host := "") (Or.inl (hw _ (List.mem_of_getElem? (i := 24) rfl))) Via.refl F2 d4_86 rfl ?_
    refine Rn.dcmp (pc' := 90) (v := (own_cmp c v)) d4_89 (own_dc c v _) rfl ?_
    refine Rn.if_lt (pc' := 97) (pn := 93) d4_90 (by decide) (by decide) rfl (fun cq15 => ?_) (fun cq15 => ?_)
    ·
      refine Rn.iconst (pc' := 98) (v := (0 : Int32)) d4_97 rfl rfl ?_
      refine Rn.goto (pc' := 132) d4_98 (by decide) (by decide) ?_
      refine Rn.retN (t := .boolean) rfl (by simp) d4_132 (Nat.le_of_ble_eq_true rfl) (Nat.le_of_ble_eq_true rfl) ?_
      refine ⟨?_, rfl⟩
      simp only [own_lt0, own_gt0, own_eq0] at *
      simp [own_keep, *]
      try rfl
    ·
      refine Rn.iconst (pc' := 94) (v := (1 : Int32)) d4_93 rfl rfl ?_
      refine Rn.goto (pc' := 132) d4_94 (by decide) (by decide) ?_
      refine Rn.retN (t := .boolean) rfl (by simp) d4_132 (Nat.le_of_ble_eq_true rfl) (Nat.le_of_ble_eq_true rfl) ?_
      refine ⟨?_, rfl⟩
      simp only [own_lt0, own_gt0, own_eq0] at *
      simp [own_keep, *]
      try rfl
  ·
    refine Rn.aloadN (pc' := 1) d4_0 rfl rfl rfl ?_
    refine Rn.getF (pc' := 4) (host := "") (Or.inl (hw _ (List.mem_of_getElem? (i := 22) rfl))) Via.refl F1 d4_1 rfl ?_
    refine Rn.callU (pc' := 7) (argsL := []) (a := a) (rest := []) (ct_ord Z a0 hw a (3 : Int32) h0 Fo) Ea (hw _ (List.mem_of_getElem? (i := 31) rfl)) (hw _ (List.mem_of_getElem? (i := 32) rfl)) (hw _ (List.mem_of_getElem? (i := 33) rfl)) (by decide) (hw _ (List.mem_of_getElem? (i := 35) rfl)) (hw _ (List.mem_of_getElem? (i := 34) rfl)) (hw _ (List.mem_of_getElem? (i := 36) rfl)) (hw _ (List.mem_of_getElem? (i := 37) rfl)) rfl rfl (lenOf pd_1 rfl) rfl d4_4 rfl (Nat.le_of_ble_eq_true rfl) (Nat.le_of_ble_eq_true rfl) (Nat.le_of_ble_eq_true rfl) (Nat.le_of_ble_eq_true rfl) (fun _ z => nomatch z) (fun _ z => nomatch z) (fun vq16 hq17 Kq18 qq19 => ?_)
    obtain ⟨rfl, rfl⟩ := qq19
    simp only [Option.toList, List.cons_append, List.nil_append]
    refine Rn.tsw (pc' := 101) d4_7 (by decide) rfl (by decide) (by decide) ?_
    refine Rn.dloadN (pc' := 102) d4_101 rfl rfl ?_
    refine Rn.aloadN (pc' := 103) d4_102 rfl rfl rfl ?_
    refine Rn.getF (pc' := 106) (host := "") (Or.inl (hw _ (List.mem_of_getElem? (i := 24) rfl))) Via.refl F2 d4_103 rfl ?_
    refine Rn.dcmp (pc' := 107) (v := (own_cmp c v)) d4_106 (own_dc c v _) rfl ?_
    refine Rn.if_gt (pc' := 114) (pn := 110) d4_107 (by decide) (by decide) rfl (fun cq20 => ?_) (fun cq20 => ?_)
    ·
      refine Rn.iconst (pc' := 115) (v := (0 : Int32)) d4_114 rfl rfl ?_
      refine Rn.goto (pc' := 132) d4_115 (by decide) (by decide) ?_
      refine Rn.retN (t := .boolean) rfl (by simp) d4_132 (Nat.le_of_ble_eq_true rfl) (Nat.le_of_ble_eq_true rfl) ?_
      refine ⟨?_, rfl⟩
      simp only [own_lt0, own_gt0, own_eq0] at *
      simp [own_keep, *]
      try rfl
    ·
      refine Rn.iconst (pc' := 111) (v := (1 : Int32)) d4_110 rfl rfl ?_
      refine Rn.goto (pc' := 132) d4_111 (by decide) (by decide) ?_
      refine Rn.retN (t := .boolean) rfl (by simp) d4_132 (Nat.le_of_ble_eq_true rfl) (Nat.le_of_ble_eq_true rfl) ?_
      refine ⟨?_, rfl⟩
      simp only [own_lt0, own_gt0, own_eq0] at *
      simp [own_keep, *]
      try rfl
  ·
    refine Rn.aloadN (pc' := 1) d4_0 rfl rfl rfl ?_
    refine Rn.getF (pc' := 4) (host := "") (Or.inl (hw _ (List.mem_of_getElem? (i := 22) rfl))) Via.refl F1 d4_1 rfl ?_
    refine Rn.callU (pc' := 7) (argsL := []) (a := a) (rest := []) (ct_ord Z a0 hw a (4 : Int32) h0 Fo) Ea (hw _ (List.mem_of_getElem? (i := 31) rfl)) (hw _ (List.mem_of_getElem? (i := 32) rfl)) (hw _ (List.mem_of_getElem? (i := 33) rfl)) (by decide) (hw _ (List.mem_of_getElem? (i := 35) rfl)) (hw _ (List.mem_of_getElem? (i := 34) rfl)) (hw _ (List.mem_of_getElem? (i := 36) rfl)) (hw _ (List.mem_of_getElem? (i := 37) rfl)) rfl rfl (lenOf pd_1 rfl) rfl d4_4 rfl (Nat.le_of_ble_eq_true rfl) (Nat.le_of_ble_eq_true rfl) (Nat.le_of_ble_eq_true rfl) (Nat.le_of_ble_eq_true rfl) (fun _ z => nomatch z) (fun _ z => nomatch z) (fun vq21 hq22 Kq23 qq24 => ?_)
    obtain ⟨rfl, rfl⟩ := qq24
    simp only [Option.toList, List.cons_append, List.nil_append]
    refine Rn.tsw (pc' := 118) d4_7 (by decide) rfl (by decide) (by decide) ?_
    refine Rn.dloadN (pc' := 119) d4_118 rfl rfl ?_
    refine Rn.aloadN (pc' := 120) d4_119 rfl rfl rfl ?_
    refine Rn.getF (pc' := 123) (host := "") (Or.inl (hw _ (List.mem_of_getElem? (i := 24) rfl))) Via.refl F2 d4_120 rfl ?_
    refine Rn.dcmp (pc' := 124) (v := (own_cmp c v)) d4_123 (own_dc c v _) rfl ?_
    refine Rn.if_ne (pc' := 131) (pn := 127) d4_124 (by decide) (by decide) rfl (fun cq25 => ?_) (fun cq25 => ?_)
    ·
      refine Rn.iconst (pc' := 132) (v := (0 : Int32)) d4_131 rfl rfl ?_
      refine Rn.retN (t := .boolean) rfl (by simp) d4_132 (Nat.le_of_ble_eq_true rfl) (Nat.le_of_ble_eq_true rfl) ?_
      refine ⟨?_, rfl⟩
      simp only [own_lt0, own_gt0, own_eq0] at *
      simp [own_keep, *]
      try rfl
    ·
      refine Rn.iconst (pc' := 128) (v := (1 : Int32)) d4_127 rfl rfl ?_
      refine Rn.goto (pc' := 132) d4_128 (by decide) (by decide) ?_
      refine Rn.retN (t := .boolean) rfl (by simp) d4_132 (Nat.le_of_ble_eq_true rfl) (Nat.le_of_ble_eq_true rfl) ?_
      refine ⟨?_, rfl⟩
      simp only [own_lt0, own_gt0, own_eq0] at *
      simp [own_keep, *]
      try rfl
set_option maxRecDepth 65536 in
set_option maxHeartbeats 40000000 in
theorem own_law (Z : State) (a0 : Array Value) (hw : ∀ d ∈ tables_1, d.before a0 Z = true) (op v c mode k : Int32) (ek : (op &&& (2147483647 : Int32)) % (5 : Int32) = k) (hk : k = 0 ∨ k = 1 ∨ k = 2 ∨ k = 3 ∨ k = 4) (z0 : Addr) (n0 : own_En Z "GT" 0 z0) (z1 : Addr) (n1 : own_En Z "LT" 1 z1) (z2 : Addr) (n2 : own_En Z "GE" 2 z2) (z3 : Addr) (n3 : own_En Z "LE" 3 z3) (z4 : Addr) (n4 : own_En Z "EQ" 4 z4) :
    Rn false Z [] "com/example/pathlamp/pathlamp/maps/CostConstraintKeptByPinLaw" "law" code 11 ret room_1 Z.heap [] (fun v _ => v = some (.int 1)) [] 0 0 Z.heap 0 #[.val (.int op), .val (.int v), .val (.int c), .val (.int mode), .unset, .unset, .unset, .unset, .unset, .unset, .unset] [] := by
  refine Rn.iloadN (pc' := 1) at_0 rfl rfl ?_
  refine Rn.ldcI (pc' := 3) (hw _ (List.mem_of_getElem? (i := 0) rfl)) at_1 rfl ?_
  refine Rn.iand (pc' := 4) (v := (op &&& (2147483647 : Int32))) at_3 rfl rfl ?_
  refine Rn.iconst (pc' := 5) (v := (5 : Int32)) at_4 rfl rfl ?_
  refine Rn.irem (pc' := 6) (v := k) at_5 (by decide) ek rfl ?_
  refine Rn.istore (pc' := 8) (Ls' := #[.val (.int op), .val (.int v), .val (.int c), .val (.int mode), .val (.int k), .unset, .unset, .unset, .unset, .unset, .unset]) at_6 rfl rfl ?_
  refine Rn.iloadN (pc' := 9) at_8 rfl rfl ?_
  refine Rn.iconst (pc' := 10) (v := (3 : Int32)) at_9 rfl rfl ?_
  refine Rn.iand (pc' := 11) (v := (mode &&& (3 : Int32))) at_10 rfl rfl ?_
  refine Rn.istore (pc' := 13) (Ls' := #[.val (.int op), .val (.int v), .val (.int c), .val (.int mode), .val (.int k), .val (.int (mode &&& (3 : Int32))), .unset, .unset, .unset, .unset, .unset]) at_11 rfl rfl ?_
  have J : ∀ cost : Int32, Rn false Z [] "com/example/pathlamp/pathlamp/maps/CostConstraintKeptByPinLaw" "law" code 11 ret room_1 Z.heap [] (fun v _ => v = some (.int 1)) [] 0 0 Z.heap 55 #[.val (.int op), .val (.int v), .val (.int c), .val (.int mode), .val (.int k), .val (.int (mode &&& (3 : Int32))), .val (.int cost), .unset, .unset, .unset, .unset] [] := by
    intro cost
    refine Rn.newO (pc' := 58) (hw _ (List.mem_of_getElem? (i := 1) rfl)) (hw _ (List.mem_of_getElem? (i := 2) rfl)) (hw _ (List.mem_of_getElem? (i := 3) rfl)) at_55 (Nat.le_of_ble_eq_true rfl) (Nat.le_of_ble_eq_true rfl) rfl (fun hq2 aq1 eq3 gq4 Eq5 ⟨Aq6, Dq7, Uq8⟩ => ?_)
    have Fq9 : Fld Z hq2 aq1 "com/example/pathlamp/pathlamp/maps/CostConstraint" "operator" "Lcom/example/pathlamp/pathlamp/maps/CostConstraint$Operator;" (.null) := Dq7 (Or.inr (hw _ (List.mem_of_getElem? (i := 23) rfl))) (ty := (.object "com/example/pathlamp/pathlamp/maps/CostConstraint$Operator")) (by decide)
    have Fq10 : Fld Z hq2 aq1 "com/example/pathlamp/pathlamp/maps/CostConstraint" "value" "D" (.double (0 : UInt64)) := Dq7 (Or.inr (hw _ (List.mem_of_getElem? (i := 25) rfl))) (ty := .double) (by decide)
    refine Rn.dup (pc' := 59) at_58 rfl rfl ?_
    refine Rn.iload (pc' := 61) at_59 rfl rfl ?_
    refine Rn.callS (pc' := 64) (argsL := [.int k]) (rest := [.ref aq1, .ref aq1]) (ct_op Z a0 hw k hk hq2 z0 n0 z1 n1 z2 n2 z3 n3 z4 n4) (hw _ (List.mem_of_getElem? (i := 4) rfl)) (hw _ (List.mem_of_getElem? (i := 5) rfl)) (hw _ (List.mem_of_getElem? (i := 6) rfl)) (hw _ (List.mem_of_getElem? (i := 7) rfl)) (by decide) rfl rfl (lenOf pd_2 rfl) rfl at_61 rfl (Nat.le_of_ble_eq_true rfl) (Nat.le_of_ble_eq_true rfl) (Nat.le_of_ble_eq_true rfl) (Nat.le_of_ble_eq_true rfl) (fun _ z => nomatch z) (fun _ z => nomatch z) (fun vq11 hq12 Kq13 qq14 => ?_)
    obtain ⟨ao, rfl, rfl, Eo, Fo⟩ := qq14
    simp only [Option.toList, List.cons_append, List.nil_append]
    refine Rn.iloadN (pc' := 65) at_64 rfl rfl ?_
    refine Rn.i2d (pc' := 66) (v := (FP.i2d v)) at_65 rfl rfl ?_
    refine Rn.callI (pc' := 69) (argsL := [.ref ao, .double (FP.i2d v)]) (a := aq1) (rest := [.ref aq1]) (ct_cc Z a0 hw aq1 ao (FP.i2d v) hq2 Aq6 Fq9 Fq10) rfl (hw _ (List.mem_of_getElem? (i := 11) rfl)) (hw _ (List.mem_of_getElem? (i := 12) rfl)) (hw _ (List.mem_of_getElem? (i := 3) rfl)) (hw _ (List.mem_of_getElem? (i := 13) rfl)) (by decide) rfl rfl (lenOf pd_3 rfl) rfl at_66 rfl (Nat.le_of_ble_eq_true rfl) (Nat.le_of_ble_eq_true rfl) (Nat.le_of_ble_eq_true rfl) (Nat.le_of_ble_eq_true rfl) (allS (Or.inr gq4) all0) (allS Sf.no (all0)) (fun vq15 hq16 Kq17 qq18 => ?_)
    obtain ⟨rfl, Ecc, Fc1, Fc2⟩ := qq18
    simp only [Option.toList, List.cons_append, List.nil_append]
    refine Rn.astore (pc' := 71) (Ls' := #[.val (.int op), .val (.int v), .val (.int c), .val (.int mode), .val (.int k), .val (.int (mode &&& (3 : Int32))), .val (.int cost), .val (.ref aq1), .unset, .unset, .unset]) at_69 rfl rfl rfl ?_
    refine Rn.aload (pc' := 73) at_71 rfl rfl rfl ?_
    refine Rn.iload (pc' := 75) at_73 rfl rfl ?_
    refine Rn.i2d (pc' := 76) (v := (FP.i2d cost)) at_75 rfl rfl ?_
    refine Rn.old fun O1 _ => ?_
    refine Rn.callV (pc' := 79) (argsL := [.double (FP.i2d cost)]) (a := aq1) (rest := []) (ct_kb Z a0 hw aq1 ao k cost v hk hq16 Fc1 Fc2 (Eo.ext O1) (Fo.ext O1)) Ecc (hw _ (List.mem_of_getElem? (i := 26) rfl)) (hw _ (List.mem_of_getElem? (i := 27) rfl)) (fun _ hZ => notFace_of_selects (args := #[]) (mvT hZ (hw _ (List.mem_of_getElem? (i := 29) rfl)))) (hw _ (List.mem_of_getElem? (i := 29) rfl)) (hw _ (List.mem_of_getElem? (i := 28) rfl)) (hw _ (List.mem_of_getElem? (i := 3) rfl)) (hw _ (List.mem_of_getElem? (i := 30) rfl)) (by decide) rfl rfl (lenOf pd_4 rfl) rfl at_76 rfl (Nat.le_of_ble_eq_true rfl) (Nat.le_of_ble_eq_true rfl) (Nat.le_of_ble_eq_true rfl) (Nat.le_of_ble_eq_true rfl) (fun _ z => nomatch z) (fun _ z => nomatch z) (fun vq19 hq20 Kq21 qq22 => ?_)
    obtain ⟨rfl, rfl⟩ := qq22
    simp only [Option.toList, List.cons_append, List.nil_append]
    refine Rn.istore (pc' := 81) (Ls' := #[.val (.int op), .val (.int v), .val (.int c), .val (.int mode), .val (.int k), .val (.int (mode &&& (3 : Int32))), .val (.int cost), .val (.ref aq1), .val (.int (own_keep k cost v)), .unset, .unset]) at_79 rfl rfl ?_
    refine Rn.iload (pc' := 83) at_81 rfl rfl ?_
    refine Rn.iloadN (pc' := 84) at_83 rfl rfl ?_
    refine Rn.icmp_ge (pc' := 93) (pn := 87) at_84 (by decide) (by decide) rfl (fun cq23 => ?_) (fun cq23 => ?_)
    ·
      refine Rn.iload (pc' := 95) at_93 rfl rfl ?_
      refine Rn.iloadN (pc' := 96) at_95 rfl rfl ?_
      refine Rn.icmp_le (pc' := 105) (pn := 99) at_96 (by decide) (by decide) rfl (fun cq24 => ?_) (fun cq24 => ?_)
      ·
        refine Rn.iconst (pc' := 106) (v := (0 : Int32)) at_105 rfl rfl ?_
        refine Rn.istore (pc' := 108) (Ls' := #[.val (.int op), .val (.int v), .val (.int c), .val (.int mode), .val (.int k), .val (.int (mode &&& (3 : Int32))), .val (.int cost), .val (.ref aq1), .val (.int (own_keep k cost v)), .val (.int (0 : Int32)), .unset]) at_106 rfl rfl ?_
        refine Rn.iload (pc' := 110) at_108 rfl rfl ?_
        refine Rn.if_ne (pc' := 128) (pn := 113) at_110 (by decide) (by decide) rfl (fun cq25 => ?_) (fun cq25 => ?_)
        ·
          refine Rn.iload (pc' := 130) at_128 rfl rfl ?_
          refine Rn.iconst (pc' := 131) (v := (1 : Int32)) at_130 rfl rfl ?_
          refine Rn.icmp_ne (pc' := 149) (pn := 134) at_131 (by decide) (by decide) rfl (fun cq26 => ?_) (fun cq26 => ?_)
          ·
            refine Rn.iload (pc' := 151) at_149 rfl rfl ?_
            refine Rn.iconst (pc' := 152) (v := (2 : Int32)) at_151 rfl rfl ?_
            refine Rn.icmp_ne (pc' := 170) (pn := 155) at_152 (by decide) (by decide) rfl (fun cq27 => ?_) (fun cq27 => ?_)
            ·
              refine Rn.iload (pc' := 172) at_170 rfl rfl ?_
              refine Rn.iconst (pc' := 173) (v := (3 : Int32)) at_172 rfl rfl ?_
              refine Rn.icmp_ne (pc' := 191) (pn := 176) at_173 (by decide) (by decide) rfl (fun cq28 => ?_) (fun cq28 => ?_)
              ·
                refine Rn.iload (pc' := 193) at_191 rfl rfl ?_
                refine Rn.if_ne (pc' := 200) (pn := 196) at_193 (by decide) (by decide) rfl (fun cq29 => absurd cq29 (by decide)) (fun cq29 => ?_)
                refine Rn.iconst (pc' := 197) (v := (1 : Int32)) at_196 rfl rfl ?_
                refine Rn.goto (pc' := 201) at_197 (by decide) (by decide) ?_
                refine Rn.istore (pc' := 203) (Ls' := #[.val (.int op), .val (.int v), .val (.int c), .val (.int mode), .val (.int k), .val (.int (mode &&& (3 : Int32))), .val (.int cost), .val (.ref aq1), .val (.int (own_keep k cost v)), .val (.int (0 : Int32)), .val (.int (1 : Int32))]) at_201 rfl rfl ?_
                refine Rn.iload (pc' := 205) at_203 rfl rfl ?_
                refine Rn.iload (pc' := 207) at_205 rfl rfl ?_
                refine Rn.icmp_ne (pc' := 214) (pn := 210) at_207 (by decide) (by decide) rfl (fun cq30 => ?_) (fun cq30 => ?_)
                ·
                  refine Rn.iconst (pc' := 215) (v := (0 : Int32)) at_214 rfl rfl ?_
                  refine Rn.retN (t := .boolean) rfl (by simp) at_215 (Nat.le_of_ble_eq_true rfl) (Nat.le_of_ble_eq_true rfl) ?_
                  exfalso; revert ‹¬ own_keep k cost v = _›; rcases hk with rfl | rfl | rfl | rfl | rfl <;> (try simp_all [own_keep]) <;> (try (simp only [Int32.lt_iff_toInt_lt, Int32.le_iff_toInt_le, ← Int32.toInt_inj, Int32.not_lt, Int32.not_le] at *; omega))
                ·
                  refine Rn.iconst (pc' := 211) (v := (1 : Int32)) at_210 rfl rfl ?_
                  refine Rn.goto (pc' := 215) at_211 (by decide) (by decide) ?_
                  refine Rn.retN (t := .boolean) rfl (by simp) at_215 (Nat.le_of_ble_eq_true rfl) (Nat.le_of_ble_eq_true rfl) ?_
                  rfl
              ·
                refine Rn.iload (pc' := 178) at_176 rfl rfl ?_
                refine Rn.if_gt (pc' := 185) (pn := 181) at_178 (by decide) (by decide) rfl (fun cq31 => absurd cq31 (by decide)) (fun cq31 => ?_)
                refine Rn.iconst (pc' := 182) (v := (1 : Int32)) at_181 rfl rfl ?_
                refine Rn.goto (pc' := 186) at_182 (by decide) (by decide) ?_
                refine Rn.istore (pc' := 188) (Ls' := #[.val (.int op), .val (.int v), .val (.int c), .val (.int mode), .val (.int k), .val (.int (mode &&& (3 : Int32))), .val (.int cost), .val (.ref aq1), .val (.int (own_keep k cost v)), .val (.int (0 : Int32)), .val (.int (1 : Int32))]) at_186 rfl rfl ?_
                refine Rn.goto (pc' := 203) at_188 (by decide) (by decide) ?_
                refine Rn.iload (pc' := 205) at_203 rfl rfl ?_
                refine Rn.iload (pc' := 207) at_205 rfl rfl ?_
                refine Rn.icmp_ne (pc' := 214) (pn := 210) at_207 (by decide) (by decide) rfl (fun cq32 => ?_) (fun cq32 => ?_)
                ·
                  refine Rn.iconst (pc' := 215) (v := (0 : Int32)) at_214 rfl rfl ?_
                  refine Rn.retN (t := .boolean) rfl (by simp) at_215 (Nat.le_of_ble_eq_true rfl) (Nat.le_of_ble_eq_true rfl) ?_
                  exfalso; revert ‹¬ own_keep k cost v = _›; rcases hk with rfl | rfl | rfl | rfl | rfl <;> (try simp_all [own_keep]) <;> (try (simp only [Int32.lt_iff_toInt_lt, Int32.le_iff_toInt_le, ← Int32.toInt_inj, Int32.not_lt, Int32.not_le] at *; omega))
                ·
                  refine Rn.iconst (pc' := 211) (v := (1 : Int32)) at_210 rfl rfl ?_
                  refine Rn.goto (pc' := 215) at_211 (by decide) (by decide) ?_
                  refine Rn.retN (t := .boolean) rfl (by simp) at_215 (Nat.le_of_ble_eq_true rfl) (Nat.le_of_ble_eq_true rfl) ?_
                  rfl
            ·
              refine Rn.iload (pc' := 157) at_155 rfl rfl ?_
              refine Rn.if_lt (pc' := 164) (pn := 160) at_157 (by decide) (by decide) rfl (fun cq33 => absurd cq33 (by decide)) (fun cq33 => ?_)
              refine Rn.iconst (pc' := 161) (v := (1 : Int32)) at_160 rfl rfl ?_
              refine Rn.goto (pc' := 165) at_161 (by decide) (by decide) ?_
              refine Rn.istore (pc' := 167) (Ls' := #[.val (.int op), .val (.int v), .val (.int c), .val (.int mode), .val (.int k), .val (.int (mode &&& (3 : Int32))), .val (.int cost), .val (.ref aq1), .val (.int (own_keep k cost v)), .val (.int (0 : Int32)), .val (.int (1 : Int32))]) at_165 rfl rfl ?_
              refine Rn.goto (pc' := 203) at_167 (by decide) (by decide) ?_
              refine Rn.iload (pc' := 205) at_203 rfl rfl ?_
              refine Rn.iload (pc' := 207) at_205 rfl rfl ?_
              refine Rn.icmp_ne (pc' := 214) (pn := 210) at_207 (by decide) (by decide) rfl (fun cq34 => ?_) (fun cq34 => ?_)
              ·
                refine Rn.iconst (pc' := 215) (v := (0 : Int32)) at_214 rfl rfl ?_
                refine Rn.retN (t := .boolean) rfl (by simp) at_215 (Nat.le_of_ble_eq_true rfl) (Nat.le_of_ble_eq_true rfl) ?_
                exfalso; revert ‹¬ own_keep k cost v = _›; rcases hk with rfl | rfl | rfl | rfl | rfl <;> (try simp_all [own_keep]) <;> (try (simp only [Int32.lt_iff_toInt_lt, Int32.le_iff_toInt_le, ← Int32.toInt_inj, Int32.not_lt, Int32.not_le] at *; omega))
              ·
                refine Rn.iconst (pc' := 211) (v := (1 : Int32)) at_210 rfl rfl ?_
                refine Rn.goto (pc' := 215) at_211 (by decide) (by decide) ?_
                refine Rn.retN (t := .boolean) rfl (by simp) at_215 (Nat.le_of_ble_eq_true rfl) (Nat.le_of_ble_eq_true rfl) ?_
                rfl
          ·
            refine Rn.iload (pc' := 136) at_134 rfl rfl ?_
            refine Rn.if_ge (pc' := 143) (pn := 139) at_136 (by decide) (by decide) rfl (fun cq35 => ?_) (fun cq35 => absurd cq35 (by decide))
            refine Rn.iconst (pc' := 144) (v := (0 : Int32)) at_143 rfl rfl ?_
            refine Rn.istore (pc' := 146) (Ls' := #[.val (.int op), .val (.int v), .val (.int c), .val (.int mode), .val (.int k), .val (.int (mode &&& (3 : Int32))), .val (.int cost), .val (.ref aq1), .val (.int (own_keep k cost v)), .val (.int (0 : Int32)), .val (.int (0 : Int32))]) at_144 rfl rfl ?_
            refine Rn.goto (pc' := 203) at_146 (by decide) (by decide) ?_
            refine Rn.iload (pc' := 205) at_203 rfl rfl ?_
            refine Rn.iload (pc' := 207) at_205 rfl rfl ?_
            refine Rn.icmp_ne (pc' := 214) (pn := 210) at_207 (by decide) (by decide) rfl (fun cq36 => ?_) (fun cq36 => ?_)
            ·
              refine Rn.iconst (pc' := 215) (v := (0 : Int32)) at_214 rfl rfl ?_
              refine Rn.retN (t := .boolean) rfl (by simp) at_215 (Nat.le_of_ble_eq_true rfl) (Nat.le_of_ble_eq_true rfl) ?_
              exfalso; revert ‹¬ own_keep k cost v = _›; rcases hk with rfl | rfl | rfl | rfl | rfl <;> (try simp_all [own_keep]) <;> (try (simp only [Int32.lt_iff_toInt_lt, Int32.le_iff_toInt_le, ← Int32.toInt_inj, Int32.not_lt, Int32.not_le] at *; omega))
            ·
              refine Rn.iconst (pc' := 211) (v := (1 : Int32)) at_210 rfl rfl ?_
              refine Rn.goto (pc' := 215) at_211 (by decide) (by decide) ?_
              refine Rn.retN (t := .boolean) rfl (by simp) at_215 (Nat.le_of_ble_eq_true rfl) (Nat.le_of_ble_eq_true rfl) ?_
              rfl
        ·
          refine Rn.iload (pc' := 115) at_113 rfl rfl ?_
          refine Rn.if_le (pc' := 122) (pn := 118) at_115 (by decide) (by decide) rfl (fun cq37 => ?_) (fun cq37 => absurd cq37 (by decide))
          refine Rn.iconst (pc' := 123) (v := (0 : Int32)) at_122 rfl rfl ?_
          refine Rn.istore (pc' := 125) (Ls' := #[.val (.int op), .val (.int v), .val (.int c), .val (.int mode), .val (.int k), .val (.int (mode &&& (3 : Int32))), .val (.int cost), .val (.ref aq1), .val (.int (own_keep k cost v)), .val (.int (0 : Int32)), .val (.int (0 : Int32))]) at_123 rfl rfl ?_
          refine Rn.goto (pc' := 203) at_125 (by decide) (by decide) ?_
          refine Rn.iload (pc' := 205) at_203 rfl rfl ?_
          refine Rn.iload (pc' := 207) at_205 rfl rfl ?_
          refine Rn.icmp_ne (pc' := 214) (pn := 210) at_207 (by decide) (by decide) rfl (fun cq38 => ?_) (fun cq38 => ?_)
          ·
            refine Rn.iconst (pc' := 215) (v := (0 : Int32)) at_214 rfl rfl ?_
            refine Rn.retN (t := .boolean) rfl (by simp) at_215 (Nat.le_of_ble_eq_true rfl) (Nat.le_of_ble_eq_true rfl) ?_
            exfalso; revert ‹¬ own_keep k cost v = _›; rcases hk with rfl | rfl | rfl | rfl | rfl <;> (try simp_all [own_keep]) <;> (try (simp only [Int32.lt_iff_toInt_lt, Int32.le_iff_toInt_le, ← Int32.toInt_inj, Int32.not_lt, Int32.not_le] at *; omega))
          ·
            refine Rn.iconst (pc' := 211) (v := (1 : Int32)) at_210 rfl rfl ?_
            refine Rn.goto (pc' := 215) at_211 (by decide) (by decide) ?_
            refine Rn.retN (t := .boolean) rfl (by simp) at_215 (Nat.le_of_ble_eq_true rfl) (Nat.le_of_ble_eq_true rfl) ?_
            rfl
      ·
        refine Rn.iconst (pc' := 100) (v := (1 : Int32)) at_99 rfl rfl ?_
        refine Rn.istore (pc' := 102) (Ls' := #[.val (.int op), .val (.int v), .val (.int c), .val (.int mode), .val (.int k), .val (.int (mode &&& (3 : Int32))), .val (.int cost), .val (.ref aq1), .val (.int (own_keep k cost v)), .val (.int (1 : Int32)), .unset]) at_100 rfl rfl ?_
        refine Rn.goto (pc' := 108) at_102 (by decide) (by decide) ?_
        refine Rn.iload (pc' := 110) at_108 rfl rfl ?_
        refine Rn.if_ne (pc' := 128) (pn := 113) at_110 (by decide) (by decide) rfl (fun cq39 => ?_) (fun cq39 => ?_)
        ·
          refine Rn.iload (pc' := 130) at_128 rfl rfl ?_
          refine Rn.iconst (pc' := 131) (v := (1 : Int32)) at_130 rfl rfl ?_
          refine Rn.icmp_ne (pc' := 149) (pn := 134) at_131 (by decide) (by decide) rfl (fun cq40 => ?_) (fun cq40 => ?_)
          ·
            refine Rn.iload (pc' := 151) at_149 rfl rfl ?_
            refine Rn.iconst (pc' := 152) (v := (2 : Int32)) at_151 rfl rfl ?_
            refine Rn.icmp_ne (pc' := 170) (pn := 155) at_152 (by decide) (by decide) rfl (fun cq41 => ?_) (fun cq41 => ?_)
            ·
              refine Rn.iload (pc' := 172) at_170 rfl rfl ?_
              refine Rn.iconst (pc' := 173) (v := (3 : Int32)) at_172 rfl rfl ?_
              refine Rn.icmp_ne (pc' := 191) (pn := 176) at_173 (by decide) (by decide) rfl (fun cq42 => ?_) (fun cq42 => ?_)
              ·
                refine Rn.iload (pc' := 193) at_191 rfl rfl ?_
                refine Rn.if_ne (pc' := 200) (pn := 196) at_193 (by decide) (by decide) rfl (fun cq43 => ?_) (fun cq43 => absurd cq43 (by decide))
                refine Rn.iconst (pc' := 201) (v := (0 : Int32)) at_200 rfl rfl ?_
                refine Rn.istore (pc' := 203) (Ls' := #[.val (.int op), .val (.int v), .val (.int c), .val (.int mode), .val (.int k), .val (.int (mode &&& (3 : Int32))), .val (.int cost), .val (.ref aq1), .val (.int (own_keep k cost v)), .val (.int (1 : Int32)), .val (.int (0 : Int32))]) at_201 rfl rfl ?_
                refine Rn.iload (pc' := 205) at_203 rfl rfl ?_
                refine Rn.iload (pc' := 207) at_205 rfl rfl ?_
                refine Rn.icmp_ne (pc' := 214) (pn := 210) at_207 (by decide) (by decide) rfl (fun cq44 => ?_) (fun cq44 => ?_)
                ·
                  refine Rn.iconst (pc' := 215) (v := (0 : Int32)) at_214 rfl rfl ?_
                  refine Rn.retN (t := .boolean) rfl (by simp) at_215 (Nat.le_of_ble_eq_true rfl) (Nat.le_of_ble_eq_true rfl) ?_
                  exfalso; revert ‹¬ own_keep k cost v = _›; rcases hk with rfl | rfl | rfl | rfl | rfl <;> (try simp_all [own_keep]) <;> (try (simp only [Int32.lt_iff_toInt_lt, Int32.le_iff_toInt_le, ← Int32.toInt_inj, Int32.not_lt, Int32.not_le] at *; omega))
                ·
                  refine Rn.iconst (pc' := 211) (v := (1 : Int32)) at_210 rfl rfl ?_
                  refine Rn.goto (pc' := 215) at_211 (by decide) (by decide) ?_
                  refine Rn.retN (t := .boolean) rfl (by simp) at_215 (Nat.le_of_ble_eq_true rfl) (Nat.le_of_ble_eq_true rfl) ?_
                  rfl
              ·
                refine Rn.iload (pc' := 178) at_176 rfl rfl ?_
                refine Rn.if_gt (pc' := 185) (pn := 181) at_178 (by decide) (by decide) rfl (fun cq45 => ?_) (fun cq45 => absurd cq45 (by decide))
                refine Rn.iconst (pc' := 186) (v := (0 : Int32)) at_185 rfl rfl ?_
                refine Rn.istore (pc' := 188) (Ls' := #[.val (.int op), .val (.int v), .val (.int c), .val (.int mode), .val (.int k), .val (.int (mode &&& (3 : Int32))), .val (.int cost), .val (.ref aq1), .val (.int (own_keep k cost v)), .val (.int (1 : Int32)), .val (.int (0 : Int32))]) at_186 rfl rfl ?_
                refine Rn.goto (pc' := 203) at_188 (by decide) (by decide) ?_
                refine Rn.iload (pc' := 205) at_203 rfl rfl ?_
                refine Rn.iload (pc' := 207) at_205 rfl rfl ?_
                refine Rn.icmp_ne (pc' := 214) (pn := 210) at_207 (by decide) (by decide) rfl (fun cq46 => ?_) (fun cq46 => ?_)
                ·
                  refine Rn.iconst (pc' := 215) (v := (0 : Int32)) at_214 rfl rfl ?_
                  refine Rn.retN (t := .boolean) rfl (by simp) at_215 (Nat.le_of_ble_eq_true rfl) (Nat.le_of_ble_eq_true rfl) ?_
                  exfalso; revert ‹¬ own_keep k cost v = _›; rcases hk with rfl | rfl | rfl | rfl | rfl <;> (try simp_all [own_keep]) <;> (try (simp only [Int32.lt_iff_toInt_lt, Int32.le_iff_toInt_le, ← Int32.toInt_inj, Int32.not_lt, Int32.not_le] at *; omega))
                ·
                  refine Rn.iconst (pc' := 211) (v := (1 : Int32)) at_210 rfl rfl ?_
                  refine Rn.goto (pc' := 215) at_211 (by decide) (by decide) ?_
                  refine Rn.retN (t := .boolean) rfl (by simp) at_215 (Nat.le_of_ble_eq_true rfl) (Nat.le_of_ble_eq_true rfl) ?_
                  rfl
            ·
              refine Rn.iload (pc' := 157) at_155 rfl rfl ?_
              refine Rn.if_lt (pc' := 164) (pn := 160) at_157 (by decide) (by decide) rfl (fun cq47 => absurd cq47 (by decide)) (fun cq47 => ?_)
              refine Rn.iconst (pc' := 161) (v := (1 : Int32)) at_160 rfl rfl ?_
              refine Rn.goto (pc' := 165) at_161 (by decide) (by decide) ?_
              refine Rn.istore (pc' := 167) (Ls' := #[.val (.int op), .val (.int v), .val (.int c), .val (.int mode), .val (.int k), .val (.int (mode &&& (3 : Int32))), .val (.int cost), .val (.ref aq1), .val (.int (own_keep k cost v)), .val (.int (1 : Int32)), .val (.int (1 : Int32))]) at_165 rfl rfl ?_
              refine Rn.goto (pc' := 203) at_167 (by decide) (by decide) ?_
              refine Rn.iload (pc' := 205) at_203 rfl rfl ?_
              refine Rn.iload (pc' := 207) at_205 rfl rfl ?_
              refine Rn.icmp_ne (pc' := 214) (pn := 210) at_207 (by decide) (by decide) rfl (fun cq48 => ?_) (fun cq48 => ?_)
              ·
                refine Rn.iconst (pc' := 215) (v := (0 : Int32)) at_214 rfl rfl ?_
                refine Rn.retN (t := .boolean) rfl (by simp) at_215 (Nat.le_of_ble_eq_true rfl) (Nat.le_of_ble_eq_true rfl) ?_
                exfalso; revert ‹¬ own_keep k cost v = _›; rcases hk with rfl | rfl | rfl | rfl | rfl <;> (try simp_all [own_keep]) <;> (try (simp only [Int32.lt_iff_toInt_lt, Int32.le_iff_toInt_le, ← Int32.toInt_inj, Int32.not_lt, Int32.not_le] at *; omega))
              ·
                refine Rn.iconst (pc' := 211) (v := (1 : Int32)) at_210 rfl rfl ?_
                refine Rn.goto (pc' := 215) at_211 (by decide) (by decide) ?_
                refine Rn.retN (t := .boolean) rfl (by simp) at_215 (Nat.le_of_ble_eq_true rfl) (Nat.le_of_ble_eq_true rfl) ?_
                rfl
          ·
            refine Rn.iload (pc' := 136) at_134 rfl rfl ?_
            refine Rn.if_ge (pc' := 143) (pn := 139) at_136 (by decide) (by decide) rfl (fun cq49 => ?_) (fun cq49 => absurd cq49 (by decide))
            refine Rn.iconst (pc' := 144) (v := (0 : Int32)) at_143 rfl rfl ?_
            refine Rn.istore (pc' := 146) (Ls' := #[.val (.int op), .val (.int v), .val (.int c), .val (.int mode), .val (.int k), .val (.int (mode &&& (3 : Int32))), .val (.int cost), .val (.ref aq1), .val (.int (own_keep k cost v)), .val (.int (1 : Int32)), .val (.int (0 : Int32))]) at_144 rfl rfl ?_
            refine Rn.goto (pc' := 203) at_146 (by decide) (by decide) ?_
            refine Rn.iload (pc' := 205) at_203 rfl rfl ?_
            refine Rn.iload (pc' := 207) at_205 rfl rfl ?_
            refine Rn.icmp_ne (pc' := 214) (pn := 210) at_207 (by decide) (by decide) rfl (fun cq50 => ?_) (fun cq50 => ?_)
            ·
              refine Rn.iconst (pc' := 215) (v := (0 : Int32)) at_214 rfl rfl ?_
              refine Rn.retN (t := .boolean) rfl (by simp) at_215 (Nat.le_of_ble_eq_true rfl) (Nat.le_of_ble_eq_true rfl) ?_
              exfalso; revert ‹¬ own_keep k cost v = _›; rcases hk with rfl | rfl | rfl | rfl | rfl <;> (try simp_all [own_keep]) <;> (try (simp only [Int32.lt_iff_toInt_lt, Int32.le_iff_toInt_le, ← Int32.toInt_inj, Int32.not_lt, Int32.not_le] at *; omega))
            ·
              refine Rn.iconst (pc' := 211) (v := (1 : Int32)) at_210 rfl rfl ?_
              refine Rn.goto (pc' := 215) at_211 (by decide) (by decide) ?_
              refine Rn.retN (t := .boolean) rfl (by simp) at_215 (Nat.le_of_ble_eq_true rfl) (Nat.le_of_ble_eq_true rfl) ?_
              rfl
        ·
          refine Rn.iload (pc' := 115) at_113 rfl rfl ?_
          refine Rn.if_le (pc' := 122) (pn := 118) at_115 (by decide) (by decide) rfl (fun cq51 => absurd cq51 (by decide)) (fun cq51 => ?_)
          refine Rn.iconst (pc' := 119) (v := (1 : Int32)) at_118 rfl rfl ?_
          refine Rn.goto (pc' := 123) at_119 (by decide) (by decide) ?_
          refine Rn.istore (pc' := 125) (Ls' := #[.val (.int op), .val (.int v), .val (.int c), .val (.int mode), .val (.int k), .val (.int (mode &&& (3 : Int32))), .val (.int cost), .val (.ref aq1), .val (.int (own_keep k cost v)), .val (.int (1 : Int32)), .val (.int (1 : Int32))]) at_123 rfl rfl ?_
          refine Rn.goto (pc' := 203) at_125 (by decide) (by decide) ?_
          refine Rn.iload (pc' := 205) at_203 rfl rfl ?_
          refine Rn.iload (pc' := 207) at_205 rfl rfl ?_
          refine Rn.icmp_ne (pc' := 214) (pn := 210) at_207 (by decide) (by decide) rfl (fun cq52 => ?_) (fun cq52 => ?_)
          ·
            refine Rn.iconst (pc' := 215) (v := (0 : Int32)) at_214 rfl rfl ?_
            refine Rn.retN (t := .boolean) rfl (by simp) at_215 (Nat.le_of_ble_eq_true rfl) (Nat.le_of_ble_eq_true rfl) ?_
            exfalso; revert ‹¬ own_keep k cost v = _›; rcases hk with rfl | rfl | rfl | rfl | rfl <;> (try simp_all [own_keep]) <;> (try (simp only [Int32.lt_iff_toInt_lt, Int32.le_iff_toInt_le, ← Int32.toInt_inj, Int32.not_lt, Int32.not_le] at *; omega))
          ·
            refine Rn.iconst (pc' := 211) (v := (1 : Int32)) at_210 rfl rfl ?_
            refine Rn.goto (pc' := 215) at_211 (by decide) (by decide) ?_
            refine Rn.retN (t := .boolean) rfl (by simp) at_215 (Nat.le_of_ble_eq_true rfl) (Nat.le_of_ble_eq_true rfl) ?_
            rfl
    ·
      refine Rn.iconst (pc' := 88) (v := (-1 : Int32)) at_87 rfl rfl ?_
      refine Rn.istore (pc' := 90) (Ls' := #[.val (.int op), .val (.int v), .val (.int c), .val (.int mode), .val (.int k), .val (.int (mode &&& (3 : Int32))), .val (.int cost), .val (.ref aq1), .val (.int (own_keep k cost v)), .val (.int (-1 : Int32)), .unset]) at_88 rfl rfl ?_
      refine Rn.goto (pc' := 108) at_90 (by decide) (by decide) ?_
      refine Rn.iload (pc' := 110) at_108 rfl rfl ?_
      refine Rn.if_ne (pc' := 128) (pn := 113) at_110 (by decide) (by decide) rfl (fun cq53 => ?_) (fun cq53 => ?_)
      ·
        refine Rn.iload (pc' := 130) at_128 rfl rfl ?_
        refine Rn.iconst (pc' := 131) (v := (1 : Int32)) at_130 rfl rfl ?_
        refine Rn.icmp_ne (pc' := 149) (pn := 134) at_131 (by decide) (by decide) rfl (fun cq54 => ?_) (fun cq54 => ?_)
        ·
          refine Rn.iload (pc' := 151) at_149 rfl rfl ?_
          refine Rn.iconst (pc' := 152) (v := (2 : Int32)) at_151 rfl rfl ?_
          refine Rn.icmp_ne (pc' := 170) (pn := 155) at_152 (by decide) (by decide) rfl (fun cq55 => ?_) (fun cq55 => ?_)
          ·
            refine Rn.iload (pc' := 172) at_170 rfl rfl ?_
            refine Rn.iconst (pc' := 173) (v := (3 : Int32)) at_172 rfl rfl ?_
            refine Rn.icmp_ne (pc' := 191) (pn := 176) at_173 (by decide) (by decide) rfl (fun cq56 => ?_) (fun cq56 => ?_)
            ·
              refine Rn.iload (pc' := 193) at_191 rfl rfl ?_
              refine Rn.if_ne (pc' := 200) (pn := 196) at_193 (by decide) (by decide) rfl (fun cq57 => ?_) (fun cq57 => absurd cq57 (by decide))
              refine Rn.iconst (pc' := 201) (v := (0 : Int32)) at_200 rfl rfl ?_
              refine Rn.istore (pc' := 203) (Ls' := #[.val (.int op), .val (.int v), .val (.int c), .val (.int mode), .val (.int k), .val (.int (mode &&& (3 : Int32))), .val (.int cost), .val (.ref aq1), .val (.int (own_keep k cost v)), .val (.int (-1 : Int32)), .val (.int (0 : Int32))]) at_201 rfl rfl ?_
              refine Rn.iload (pc' := 205) at_203 rfl rfl ?_
              refine Rn.iload (pc' := 207) at_205 rfl rfl ?_
              refine Rn.icmp_ne (pc' := 214) (pn := 210) at_207 (by decide) (by decide) rfl (fun cq58 => ?_) (fun cq58 => ?_)
              ·
                refine Rn.iconst (pc' := 215) (v := (0 : Int32)) at_214 rfl rfl ?_
                refine Rn.retN (t := .boolean) rfl (by simp) at_215 (Nat.le_of_ble_eq_true rfl) (Nat.le_of_ble_eq_true rfl) ?_
                exfalso; revert ‹¬ own_keep k cost v = _›; rcases hk with rfl | rfl | rfl | rfl | rfl <;> (try simp_all [own_keep]) <;> (try (simp only [Int32.lt_iff_toInt_lt, Int32.le_iff_toInt_le, ← Int32.toInt_inj, Int32.not_lt, Int32.not_le] at *; omega))
              ·
                refine Rn.iconst (pc' := 211) (v := (1 : Int32)) at_210 rfl rfl ?_
                refine Rn.goto (pc' := 215) at_211 (by decide) (by decide) ?_
                refine Rn.retN (t := .boolean) rfl (by simp) at_215 (Nat.le_of_ble_eq_true rfl) (Nat.le_of_ble_eq_true rfl) ?_
                rfl
            ·
              refine Rn.iload (pc' := 178) at_176 rfl rfl ?_
              refine Rn.if_gt (pc' := 185) (pn := 181) at_178 (by decide) (by decide) rfl (fun cq59 => absurd cq59 (by decide)) (fun cq59 => ?_)
              refine Rn.iconst (pc' := 182) (v := (1 : Int32)) at_181 rfl rfl ?_
              refine Rn.goto (pc' := 186) at_182 (by decide) (by decide) ?_
              refine Rn.istore (pc' := 188) (Ls' := #[.val (.int op), .val (.int v), .val (.int c), .val (.int mode), .val (.int k), .val (.int (mode &&& (3 : Int32))), .val (.int cost), .val (.ref aq1), .val (.int (own_keep k cost v)), .val (.int (-1 : Int32)), .val (.int (1 : Int32))]) at_186 rfl rfl ?_
              refine Rn.goto (pc' := 203) at_188 (by decide) (by decide) ?_
              refine Rn.iload (pc' := 205) at_203 rfl rfl ?_
              refine Rn.iload (pc' := 207) at_205 rfl rfl ?_
              refine Rn.icmp_ne (pc' := 214) (pn := 210) at_207 (by decide) (by decide) rfl (fun cq60 => ?_) (fun cq60 => ?_)
              ·
                refine Rn.iconst (pc' := 215) (v := (0 : Int32)) at_214 rfl rfl ?_
                refine Rn.retN (t := .boolean) rfl (by simp) at_215 (Nat.le_of_ble_eq_true rfl) (Nat.le_of_ble_eq_true rfl) ?_
                exfalso; revert ‹¬ own_keep k cost v = _›; rcases hk with rfl | rfl | rfl | rfl | rfl <;> (try simp_all [own_keep]) <;> (try (simp only [Int32.lt_iff_toInt_lt, Int32.le_iff_toInt_le, ← Int32.toInt_inj, Int32.not_lt, Int32.not_le] at *; omega))
              ·
                refine Rn.iconst (pc' := 211) (v := (1 : Int32)) at_210 rfl rfl ?_
                refine Rn.goto (pc' := 215) at_211 (by decide) (by decide) ?_
                refine Rn.retN (t := .boolean) rfl (by simp) at_215 (Nat.le_of_ble_eq_true rfl) (Nat.le_of_ble_eq_true rfl) ?_
                rfl
          ·
            refine Rn.iload (pc' := 157) at_155 rfl rfl ?_
            refine Rn.if_lt (pc' := 164) (pn := 160) at_157 (by decide) (by decide) rfl (fun cq61 => ?_) (fun cq61 => absurd cq61 (by decide))
            refine Rn.iconst (pc' := 165) (v := (0 : Int32)) at_164 rfl rfl ?_
            refine Rn.istore (pc' := 167) (Ls' := #[.val (.int op), .val (.int v), .val (.int c), .val (.int mode), .val (.int k), .val (.int (mode &&& (3 : Int32))), .val (.int cost), .val (.ref aq1), .val (.int (own_keep k cost v)), .val (.int (-1 : Int32)), .val (.int (0 : Int32))]) at_165 rfl rfl ?_
            refine Rn.goto (pc' := 203) at_167 (by decide) (by decide) ?_
            refine Rn.iload (pc' := 205) at_203 rfl rfl ?_
            refine Rn.iload (pc' := 207) at_205 rfl rfl ?_
            refine Rn.icmp_ne (pc' := 214) (pn := 210) at_207 (by decide) (by decide) rfl (fun cq62 => ?_) (fun cq62 => ?_)
            ·
              refine Rn.iconst (pc' := 215) (v := (0 : Int32)) at_214 rfl rfl ?_
              refine Rn.retN (t := .boolean) rfl (by simp) at_215 (Nat.le_of_ble_eq_true rfl) (Nat.le_of_ble_eq_true rfl) ?_
              exfalso; revert ‹¬ own_keep k cost v = _›; rcases hk with rfl | rfl | rfl | rfl | rfl <;> (try simp_all [own_keep]) <;> (try (simp only [Int32.lt_iff_toInt_lt, Int32.le_iff_toInt_le, ← Int32.toInt_inj, Int32.not_lt, Int32.not_le] at *; omega))
            ·
              refine Rn.iconst (pc' := 211) (v := (1 : Int32)) at_210 rfl rfl ?_
              refine Rn.goto (pc' := 215) at_211 (by decide) (by decide) ?_
              refine Rn.retN (t := .boolean) rfl (by simp) at_215 (Nat.le_of_ble_eq_true rfl) (Nat.le_of_ble_eq_true rfl) ?_
              rfl
        ·
          refine Rn.iload (pc' := 136) at_134 rfl rfl ?_
          refine Rn.if_ge (pc' := 143) (pn := 139) at_136 (by decide) (by decide) rfl (fun cq63 => absurd cq63 (by decide)) (fun cq63 => ?_)
          refine Rn.iconst (pc' := 140) (v := (1 : Int32)) at_139 rfl rfl ?_
          refine Rn.goto (pc' := 144) at_140 (by decide) (by decide) ?_
          refine Rn.istore (pc' := 146) (Ls' := #[.val (.int op), .val (.int v), .val (.int c), .val (.int mode), .val (.int k), .val (.int (mode &&& (3 : Int32))), .val (.int cost), .val (.ref aq1), .val (.int (own_keep k cost v)), .val (.int (-1 : Int32)), .val (.int (1 : Int32))]) at_144 rfl rfl ?_
          refine Rn.goto (pc' := 203) at_146 (by decide) (by decide) ?_
          refine Rn.iload (pc' := 205) at_203 rfl rfl ?_
          refine Rn.iload (pc' := 207) at_205 rfl rfl ?_
          refine Rn.icmp_ne (pc' := 214) (pn := 210) at_207 (by decide) (by decide) rfl (fun cq64 => ?_) (fun cq64 => ?_)
          ·
            refine Rn.iconst (pc' := 215) (v := (0 : Int32)) at_214 rfl rfl ?_
            refine Rn.retN (t := .boolean) rfl (by simp) at_215 (Nat.le_of_ble_eq_true rfl) (Nat.le_of_ble_eq_true rfl) ?_
            exfalso; revert ‹¬ own_keep k cost v = _›; rcases hk with rfl | rfl | rfl | rfl | rfl <;> (try simp_all [own_keep]) <;> (try (simp only [Int32.lt_iff_toInt_lt, Int32.le_iff_toInt_le, ← Int32.toInt_inj, Int32.not_lt, Int32.not_le] at *; omega))
          ·
            refine Rn.iconst (pc' := 211) (v := (1 : Int32)) at_210 rfl rfl ?_
            refine Rn.goto (pc' := 215) at_211 (by decide) (by decide) ?_
            refine Rn.retN (t := .boolean) rfl (by simp) at_215 (Nat.le_of_ble_eq_true rfl) (Nat.le_of_ble_eq_true rfl) ?_
            rfl
      ·
        refine Rn.iload (pc' := 115) at_113 rfl rfl ?_
        refine Rn.if_le (pc' := 122) (pn := 118) at_115 (by decide) (by decide) rfl (fun cq65 => ?_) (fun cq65 => absurd cq65 (by decide))
        refine Rn.iconst (pc' := 123) (v := (0 : Int32)) at_122 rfl rfl ?_
        refine Rn.istore (pc' := 125) (Ls' := #[.val (.int op), .val (.int v), .val (.int c), .val (.int mode), .val (.int k), .val (.int (mode &&& (3 : Int32))), .val (.int cost), .val (.ref aq1), .val (.int (own_keep k cost v)), .val (.int (-1 : Int32)), .val (.int (0 : Int32))]) at_123 rfl rfl ?_
        refine Rn.goto (pc' := 203) at_125 (by decide) (by decide) ?_
        refine Rn.iload (pc' := 205) at_203 rfl rfl ?_
        refine Rn.iload (pc' := 207) at_205 rfl rfl ?_
        refine Rn.icmp_ne (pc' := 214) (pn := 210) at_207 (by decide) (by decide) rfl (fun cq66 => ?_) (fun cq66 => ?_)
        ·
          refine Rn.iconst (pc' := 215) (v := (0 : Int32)) at_214 rfl rfl ?_
          refine Rn.retN (t := .boolean) rfl (by simp) at_215 (Nat.le_of_ble_eq_true rfl) (Nat.le_of_ble_eq_true rfl) ?_
          exfalso; revert ‹¬ own_keep k cost v = _›; rcases hk with rfl | rfl | rfl | rfl | rfl <;> (try simp_all [own_keep]) <;> (try (simp only [Int32.lt_iff_toInt_lt, Int32.le_iff_toInt_le, ← Int32.toInt_inj, Int32.not_lt, Int32.not_le] at *; omega))
        ·
          refine Rn.iconst (pc' := 211) (v := (1 : Int32)) at_210 rfl rfl ?_
          refine Rn.goto (pc' := 215) at_211 (by decide) (by decide) ?_
          refine Rn.retN (t := .boolean) rfl (by simp) at_215 (Nat.le_of_ble_eq_true rfl) (Nat.le_of_ble_eq_true rfl) ?_
          rfl
  refine Rn.iload (pc' := 15) at_13 rfl rfl ?_
  refine Rn.if_ne (pc' := 24) (pn := 18) at_15 (by decide) (by decide) rfl (fun cq67 => ?_) (fun cq67 => ?_)
  ·
    refine Rn.iload (pc' := 26) at_24 rfl rfl ?_
    refine Rn.iconst (pc' := 27) (v := (1 : Int32)) at_26 rfl rfl ?_
    refine Rn.icmp_ne (pc' := 36) (pn := 30) at_27 (by decide) (by decide) rfl (fun cq68 => ?_) (fun cq68 => ?_)
    ·
      refine Rn.iload (pc' := 38) at_36 rfl rfl ?_
      refine Rn.iconst (pc' := 39) (v := (2 : Int32)) at_38 rfl rfl ?_
      refine Rn.icmp_ne (pc' := 50) (pn := 42) at_39 (by decide) (by decide) rfl (fun cq69 => ?_) (fun cq69 => ?_)
      ·
        refine Rn.iloadN (pc' := 51) at_50 rfl rfl ?_
        refine Rn.iconst (pc' := 52) (v := (1 : Int32)) at_51 rfl rfl ?_
        refine Rn.isub (pc' := 53) (v := (v - (1 : Int32))) at_52 rfl rfl ?_
        refine Rn.istore (pc' := 55) (Ls' := #[.val (.int op), .val (.int v), .val (.int c), .val (.int mode), .val (.int k), .val (.int (mode &&& (3 : Int32))), .val (.int (v - (1 : Int32))), .unset, .unset, .unset, .unset]) at_53 rfl rfl ?_
        exact J _
      ·
        refine Rn.iloadN (pc' := 43) at_42 rfl rfl ?_
        refine Rn.iconst (pc' := 44) (v := (1 : Int32)) at_43 rfl rfl ?_
        refine Rn.iadd (pc' := 45) (v := (v + (1 : Int32))) at_44 rfl rfl ?_
        refine Rn.istore (pc' := 47) (Ls' := #[.val (.int op), .val (.int v), .val (.int c), .val (.int mode), .val (.int k), .val (.int (mode &&& (3 : Int32))), .val (.int (v + (1 : Int32))), .unset, .unset, .unset, .unset]) at_45 rfl rfl ?_
        refine Rn.goto (pc' := 55) at_47 (by decide) (by decide) ?_
        exact J _
    ·
      refine Rn.iloadN (pc' := 31) at_30 rfl rfl ?_
      refine Rn.istore (pc' := 33) (Ls' := #[.val (.int op), .val (.int v), .val (.int c), .val (.int mode), .val (.int k), .val (.int (mode &&& (3 : Int32))), .val (.int v), .unset, .unset, .unset, .unset]) at_31 rfl rfl ?_
      refine Rn.goto (pc' := 55) at_33 (by decide) (by decide) ?_
      exact J _
  ·
    refine Rn.iloadN (pc' := 19) at_18 rfl rfl ?_
    refine Rn.istore (pc' := 21) (Ls' := #[.val (.int op), .val (.int v), .val (.int c), .val (.int mode), .val (.int k), .val (.int (mode &&& (3 : Int32))), .val (.int c), .unset, .unset, .unset, .unset]) at_19 rfl rfl ?_
    refine Rn.goto (pc' := 55) at_21 (by decide) (by decide) ?_
    exact J _
set_option maxRecDepth 65536 in
set_option maxHeartbeats 40000000 in
theorem comes_1 {Post : Tables → Env → Array Value → State → Outcome → State → Prop} (hpost : ∀ tb e args s v u, (limb_1_1.after args s (.returned v) u = true ∧ limb_1_2.after args s (.returned v) u = true ∧ True) → FrameEnd s (.returned v) u (Jvm.fieldLocs frame_1_writes args s ++ Jvm.arrayLocs frame_1_arrays args s ++ Jvm.staticLocs frame_1_statics s) 16 128 → Post tb e args s (.returned v) u) :
    ArmFor flags0 classFile x code maxLocals ret World_1 tables_1 room_1 Calls_1 rest_1 Pre_1 Post := by
  intro l hfl _ _ p e ha hc hk s m args below hf hA hF happ hP
  obtain ⟨hcalls, hrest, hpre⟩ := hP
  obtain ⟨-, -, -, hnamed, -, -, -, hat⟩ := (Spec.applies_iff hf).mp happ
  obtain ⟨hg, hn⟩ := and_e (Cond.before_iff.mp (show (Jvm.Cond.and given_1 narrow_1).before args s = true from hpre))
  obtain ⟨hn1, hg1⟩ := and_e hg
  obtain ⟨w0, w1, w2, w3, rfl⟩ : ∃ w0 w1 w2 w3 : Value, args = #[w0, w1, w2, w3] := by
    have hs : args.size = 4 := by simpa [Cond.value, given_1] using hn1
    obtain ⟨L⟩ := args
    match L, hs with
    | [w0, w1, w2, w3], _ => exact ⟨w0, w1, w2, w3, rfl⟩
  have hw := fun d (hd : d ∈ tables_1) => atoms_spec (ws := Jvm.Cond.code x code maxLocals ret :: tables_1) hat d (List.mem_cons_of_mem _ hd)
  have hfit : Fit s := fun {y c} hc i hi => by
    obtain ⟨ha, rfl⟩ := Array.getElem?_eq_some_iff.mp hc
    have q := List.all_eq_true.mp ((Array.all_eq_true_iff_forall_mem.mp hF) _ (Array.getElem_mem ha)) i (List.mem_range.mpr hi)
    simpa [Array.getElem?_eq_getElem hi] using q
  obtain ⟨ka0, kb0⟩ := and_e hg1
  obtain ⟨x0, e0⟩ := is_v ka0
  obtain rfl : w0 = (.int x0) := Option.some.inj e0
  obtain ⟨ka1, kb1⟩ := and_e kb0
  obtain ⟨x1, e1⟩ := is_v ka1
  obtain rfl : w1 = (.int x1) := Option.some.inj e1
  obtain ⟨ka2, kb2⟩ := and_e kb1
  obtain ⟨x2, e2⟩ := is_v ka2
  obtain rfl : w2 = (.int x2) := Option.some.inj e2
  obtain ⟨x3, e3⟩ := is_v kb2
  obtain rfl : w3 = (.int x3) := Option.some.inj e3
  obtain ⟨p0, r0⟩ := and_e hn
  obtain ⟨q0, s0⟩ := and_e r0
  obtain ⟨z0, ea0⟩ := exa_v p0
  have n0 : own_En s "GT" 0 z0 := ⟨Sta.start ea0 (Or.inr ⟨(hw _ (List.mem_of_getElem? (i := 9) rfl)), (hw _ (List.mem_of_getElem? (i := 10) rfl))⟩), Exa.start ea0 p0, Fld.start ((fld_at ea0).symm.trans (eqv_i rfl q0))⟩
  obtain ⟨p1, r1⟩ := and_e s0
  obtain ⟨q1, s1⟩ := and_e r1
  obtain ⟨z2, ea2⟩ := exa_v p1
  have n2 : own_En s "GE" 2 z2 := ⟨Sta.start ea2 (Or.inr ⟨(hw _ (List.mem_of_getElem? (i := 9) rfl)), (hw _ (List.mem_of_getElem? (i := 41) rfl))⟩), Exa.start ea2 p1, Fld.start ((fld_at ea2).symm.trans (eqv_i rfl q1))⟩
  obtain ⟨p2, r2⟩ := and_e s1
  obtain ⟨q2, s2⟩ := and_e r2
  obtain ⟨z4, ea4⟩ := exa_v p2
  have n4 : own_En s "EQ" 4 z4 := ⟨Sta.start ea4 (Or.inr ⟨(hw _ (List.mem_of_getElem? (i := 9) rfl)), (hw _ (List.mem_of_getElem? (i := 43) rfl))⟩), Exa.start ea4 p2, Fld.start ((fld_at ea4).symm.trans (eqv_i rfl q2))⟩
  obtain ⟨p3, r3⟩ := and_e s2
  obtain ⟨q3, s3⟩ := and_e r3
  obtain ⟨z1, ea1⟩ := exa_v p3
  have n1 : own_En s "LT" 1 z1 := ⟨Sta.start ea1 (Or.inr ⟨(hw _ (List.mem_of_getElem? (i := 9) rfl)), (hw _ (List.mem_of_getElem? (i := 45) rfl))⟩), Exa.start ea1 p3, Fld.start ((fld_at ea1).symm.trans (eqv_i rfl q3))⟩
  obtain ⟨p4, r4⟩ := and_e s3
  obtain ⟨z3, ea3⟩ := exa_v p4
  have n3 : own_En s "LE" 3 z3 := ⟨Sta.start ea3 (Or.inr ⟨(hw _ (List.mem_of_getElem? (i := 9) rfl)), (hw _ (List.mem_of_getElem? (i := 47) rfl))⟩), Exa.start ea3 p4, Fld.start ((fld_at ea3).symm.trans (eqv_i rfl r4))⟩
  obtain ⟨k, ek, hk5⟩ := own_k5 x0
  have M := met_of (ws := []) (wsT := tables_1) (as := #[(.int x0), (.int x1), (.int x2), (.int x3)]) (Ls := #[.val (.int x0), .val (.int x1), .val (.int x2), .val (.int x3), .unset, .unset, .unset, .unset, .unset, .unset, .unset]) (d := "(IIII)Z") pn_0 (by intro m; first | (simp [entryFrame, mkF, argsToLocals, Value.category, maxLocals]; done) | rfl) ⟨Nat.le_refl _, fun _ _ q => q⟩ (fun _ z => nomatch z) l (own_law s _ hw x0 x1 x2 x3 k ek hk5 z0 n0 z1 n1 z2 n2 z3 n3 z4 n4)
  obtain ⟨n, o, h1, h2, h3, v, L, rfl, ⟨N, -, rfl⟩, hq⟩ := M p e ha hc hk s m _ below hf ((Spec.applies_iff_loose hf).mp happ).1 ⟨rfl, State.Warmed39.refl s, rfl⟩ trivial
  refine ⟨n, _, h1, h2, h3, hpost _ _ _ _ _ _ ⟨Cond.after_iff.mpr rfl, Cond.after_iff.mpr (eq_i res_at (Term.int_eval (1)) rfl), trivial⟩ ⟨hq.1, hq.2.1, (hq.2.2.sift fun y hy => Or.inr (N y hy)).mono (by decide) (by decide)⟩⟩
theorem main_1_1 : Claimed_1_1 := comes_1 fun _ _ _ _ _ _ h hF => ⟨h.1, hF⟩
theorem main_1_2 : Claimed_1_2 := comes_1 fun _ _ _ _ _ _ h hF => ⟨h.2.1, hF⟩
end Jvm.Pilot.@@N@@
namespace Jvm.Pilot.@@N@@
open Jvm Jvm.ClassFile Sem Op Lib Jvm.Free Jvm.Stand Jvm.Pilot.@@N@@.Jvm.D
/-! MADE BY PROGRAM (witnessworld.py) out of the Statement's table words and the real class files: 14 classes; the members and pool entries that the words name. The judged class is class 1, her method 2. -/
namespace start1
open Jvm.ClassFile
def u (s : String) : CpInfo := .utf8 (stringToUtf16 s)
/-- a pool by its gaps: so many unusable entries, then the entry; so many at the end -/
def gap : Nat → List CpInfo → List CpInfo
  | 0, r => r
  | n + 1, r => .unusable :: gap n r
def poolList (es : List (Nat × CpInfo)) (last : Nat) : List CpInfo := es.foldr (fun e r => gap e.1 (e.2 :: r)) (gap last [])
def pool (es : List (Nat × CpInfo)) (last : Nat) : Array CpInfo := ⟨poolList es last⟩
def fileOf (pool : Array CpInfo) (this : Nat) (attrs : Array Attribute := #[]) (ms : Array MethodInfo := #[]) (fl : Nat := 33) (sup : Nat := 0) (ifs : Array Nat := #[]) (fds : Array FieldInfo := #[]) : ClassFile where
  minorVersion := 0
  majorVersion := 65
  constantPool := pool
  accessFlags := fl
  thisClass := this
  superClass := sup
  interfaces := ifs
  fields := fds
  methods := ms
  attributes := attrs
def plain (name : String) (sup : Option ClassId) : Class where
  name := name
  kind := .ordinary
  loader := none
  accessFlags := 33
  super := sup
  interfaces := #[]
  cf := none
  fields := #[]
  methods := #[]
  instanceTypes := #[]
  staticTypes := #[]
  resolved := #[]
  callSites := []
  init := .initialized
  statics := none
  mirror := none

def pool0 : Array CpInfo := pool [(5, u "<init>"), (0, u "()V"), (1, .class_ 10), (1, u "java/lang/Object")] 113

def k0c0 : Code := { maxStack := 0, maxLocals := 1, code := object_method_1_code, exceptionTable := #[], attributes := #[] }
def k0m0 : Method := { name := "<init>", desc := "()V", sig := { parameters := [], returnType := none }, accessFlags := 1, code := some k0c0 }
/-- java/lang/Object -/
def k0 : Class := { plain "java/lang/Object" none with
  accessFlags := 33
  interfaces := #[]
  cf := some (fileOf pool0 8 #[] #[{ accessFlags := 1, nameIndex := 5, descriptorIndex := 6, attributes := #[] }] 33 0 #[] #[])
  fields := #[]
  methods := #[k0m0]
  instanceTypes := #[]
  staticTypes := #[]
  resolved := Array.replicate 124 none
  statics := none }

def pool1 : Array CpInfo := pool [(2, .class_ 4), (1, u "java/lang/Object"), (0, u "<init>"), (0, u "()V"), (0, .fieldref 8 9), (0, .class_ 10), (0, .nameAndType 11 12), (0, u "com/example/pathlamp/pathlamp/maps/CostConstraint$Operator"), (0, u "GT"), (0, u "Lcom/example/pathlamp/pathlamp/maps/CostConstraint$Operator;"), (0, .fieldref 8 14), (0, .nameAndType 15 12), (0, u "LT"), (0, .fieldref 8 17), (0, .nameAndType 18 12), (0, u "GE"), (0, .fieldref 8 20), (0, .nameAndType 21 12), (0, u "LE"), (0, .fieldref 8 23), (0, .nameAndType 24 12), (0, u "EQ"), (0, .integer 2147483647), (0, .class_ 27), (0, u "com/example/pathlamp/pathlamp/maps/CostConstraint"), (0, .methodref 29 30), (0, .class_ 31), (0, .nameAndType 32 33), (0, u "com/example/pathlamp/pathlamp/maps/CostConstraintKeptByPinLaw"), (0, u "op"), (0, u "(I)Lcom/example/pathlamp/pathlamp/maps/CostConstraint$Operator;"), (0, .methodref 26 35), (0, .nameAndType 5 36), (0, u "(Lcom/example/pathlamp/pathlamp/maps/CostConstraint$Operator;D)V"), (0, .methodref 26 38), (0, .nameAndType 39 40), (0, u "keptBy"), (0, u "(D)Z"), (3, u "law"), (0, u "(IIII)Z")] 4

def k1m0 : Method := { name := "<init>", desc := "()V", sig := { parameters := [], returnType := none }, accessFlags := 1, code := none }
def k1c1 : Code := { maxStack := 2, maxLocals := 1, code := method_2_code, exceptionTable := #[], attributes := #[] }
def k1m1 : Method := { name := "op", desc := "(I)Lcom/example/pathlamp/pathlamp/maps/CostConstraint$Operator;", sig := { parameters := [.int], returnType := some (.object "com/example/pathlamp/pathlamp/maps/CostConstraint$Operator") }, accessFlags := 10, code := some k1c1 }
def k1c2 : Code := { maxStack := 5, maxLocals := 11, code := code, exceptionTable := #[], attributes := #[] }
def k1m2 : Method := { name := "law", desc := "(IIII)Z", sig := { parameters := [.int, .int, .int, .int], returnType := some .boolean }, accessFlags := 9, code := some k1c2 }
/-- com/example/pathlamp/pathlamp/maps/CostConstraintKeptByPinLaw -/
def k1 : Class := { plain "com/example/pathlamp/pathlamp/maps/CostConstraintKeptByPinLaw" (some 0) with
  accessFlags := 49
  interfaces := #[]
  cf := some (fileOf pool1 29 #[] #[{ accessFlags := 1, nameIndex := 5, descriptorIndex := 6, attributes := #[] }, { accessFlags := 10, nameIndex := 32, descriptorIndex := 33, attributes := #[] }, { accessFlags := 9, nameIndex := 44, descriptorIndex := 45, attributes := #[] }] 49 2 #[] #[])
  fields := #[]
  methods := #[k1m0, k1m1, k1m2]
  instanceTypes := #[]
  staticTypes := #[]
  resolved := Array.replicate 50 none
  statics := none }

def pool2 : Array CpInfo := pool [(1, .methodref 2 3), (0, .class_ 4), (0, .nameAndType 5 6), (0, u "java/lang/Object"), (0, u "<init>"), (0, u "()V"), (0, .class_ 8), (0, u "java/lang/Record")] 13

def k2c0 : Code := { maxStack := 1, maxLocals := 1, code := jdk_30_method_1_code, exceptionTable := #[], attributes := #[] }
def k2m0 : Method := { name := "<init>", desc := "()V", sig := { parameters := [], returnType := none }, accessFlags := 4, code := some k2c0 }
/-- java/lang/Record -/
def k2 : Class := { plain "java/lang/Record" (some 0) with
  accessFlags := 1057
  interfaces := #[]
  cf := some (fileOf pool2 7 #[] #[{ accessFlags := 4, nameIndex := 5, descriptorIndex := 6, attributes := #[] }] 1057 2 #[] #[])
  fields := #[]
  methods := #[k2m0]
  instanceTypes := #[]
  staticTypes := #[]
  resolved := Array.replicate 22 none
  statics := none }

def pool3 : Array CpInfo := pool [(1, .methodref 2 3), (0, .class_ 4), (0, .nameAndType 5 6), (0, u "java/lang/Record"), (0, u "<init>"), (0, u "()V"), (0, .fieldref 8 9), (0, .class_ 10), (0, .nameAndType 11 12), (0, u "com/example/pathlamp/pathlamp/maps/CostConstraint"), (0, u "operator"), (0, u "Lcom/example/pathlamp/pathlamp/maps/CostConstraint$Operator;"), (0, .fieldref 8 14), (0, .nameAndType 15 16), (0, u "value"), (0, u "D"), (2, u "FORM"), (0, u "Ljava/util/regex/Pattern;"), (18, .class_ 41), (1, u "com/example/pathlamp/pathlamp/maps/CostConstraint$Operator"), (11, u "(Lcom/example/pathlamp/pathlamp/maps/CostConstraint$Operator;D)V"), (0, .methodref 39 55), (0, .nameAndType 56 57), (0, u "ordinal"), (0, u "()I"), (22, u "keptBy"), (0, u "(D)Z")] 56

def k3c0 : Code := { maxStack := 3, maxLocals := 4, code := prog_8_method_1_code, exceptionTable := #[], attributes := #[] }
def k3m0 : Method := { name := "<init>", desc := "(Lcom/example/pathlamp/pathlamp/maps/CostConstraint$Operator;D)V", sig := { parameters := [(.object "com/example/pathlamp/pathlamp/maps/CostConstraint$Operator"), .double], returnType := none }, accessFlags := 1, code := some k3c0 }
def k3c1 : Code := { maxStack := 4, maxLocals := 3, code := prog_8_method_3_code, exceptionTable := #[], attributes := #[] }
def k3m1 : Method := { name := "keptBy", desc := "(D)Z", sig := { parameters := [.double], returnType := some .boolean }, accessFlags := 1, code := some k3c1 }
/-- com/example/pathlamp/pathlamp/maps/CostConstraint -/
def k3 : Class := { plain "com/example/pathlamp/pathlamp/maps/CostConstraint" (some 2) with
  accessFlags := 49
  interfaces := #[]
  cf := some (fileOf pool3 8 #[.nestMembers #[39]] #[{ accessFlags := 1, nameIndex := 5, descriptorIndex := 53, attributes := #[] }, { accessFlags := 1, nameIndex := 80, descriptorIndex := 81, attributes := #[] }] 49 2 #[] #[{ accessFlags := 18, nameIndex := 11, descriptorIndex := 12, attributes := #[] }, { accessFlags := 18, nameIndex := 15, descriptorIndex := 16, attributes := #[] }, { accessFlags := 26, nameIndex := 19, descriptorIndex := 20, attributes := #[] }])
  fields := #[{ name := "operator", type := (.object "com/example/pathlamp/pathlamp/maps/CostConstraint$Operator"), accessFlags := 18, slot := 0, constantValue := 0 }, { name := "value", type := .double, accessFlags := 18, slot := 1, constantValue := 0 }, { name := "FORM", type := (.object "java/util/regex/Pattern"), accessFlags := 26, slot := 0, constantValue := 0 }]
  methods := #[k3m0, k3m1]
  instanceTypes := #[(.object "com/example/pathlamp/pathlamp/maps/CostConstraint$Operator"), .double]
  staticTypes := #[(.object "java/util/regex/Pattern")]
  resolved := Array.replicate 138 none
  statics := none }

def pool4 : Array CpInfo := pool [(1, .class_ 2), (0, u "java/lang/constant/Constable"), (0, .class_ 4), (0, u "java/lang/Object")] 6

/-- java/lang/constant/Constable -/
def k4 : Class := { plain "java/lang/constant/Constable" (some 0) with
  accessFlags := 1537
  interfaces := #[]
  cf := some (fileOf pool4 1 #[] #[] 1537 3 #[] #[])
  fields := #[]
  methods := #[]
  instanceTypes := #[]
  staticTypes := #[]
  resolved := Array.replicate 11 none
  statics := none }

def pool5 : Array CpInfo := pool [(1, .class_ 2), (0, u "java/lang/Comparable"), (0, .class_ 4), (0, u "java/lang/Object")] 7

/-- java/lang/Comparable -/
def k5 : Class := { plain "java/lang/Comparable" (some 0) with
  accessFlags := 1537
  interfaces := #[]
  cf := some (fileOf pool5 1 #[] #[] 1537 3 #[] #[])
  fields := #[]
  methods := #[]
  instanceTypes := #[]
  staticTypes := #[]
  resolved := Array.replicate 12 none
  statics := none }

def pool6 : Array CpInfo := pool [(1, .class_ 2), (0, u "java/io/Serializable"), (0, .class_ 4), (0, u "java/lang/Object")] 2

/-- java/io/Serializable -/
def k6 : Class := { plain "java/io/Serializable" (some 0) with
  accessFlags := 1537
  interfaces := #[]
  cf := some (fileOf pool6 1 #[] #[] 1537 3 #[] #[])
  fields := #[]
  methods := #[]
  instanceTypes := #[]
  staticTypes := #[]
  resolved := Array.replicate 7 none
  statics := none }

def pool7 : Array CpInfo := pool [(2, .class_ 4), (1, u "java/lang/Enum"), (0, u "name"), (0, u "Ljava/lang/String;"), (0, .fieldref 2 8), (0, .nameAndType 9 10), (0, u "ordinal"), (0, u "I"), (1, .class_ 14), (1, u "java/lang/Object"), (4, u "hash"), (86, .class_ 108), (1, u "java/lang/Enum$EnumDesc"), (2, .class_ 112), (0, u "java/lang/constant/Constable"), (0, .class_ 114), (0, u "java/lang/Comparable"), (0, .class_ 116), (0, u "java/io/Serializable"), (9, u "()I")] 77

def k7c0 : Code := { maxStack := 1, maxLocals := 1, code := jdk_37_method_2_code, exceptionTable := #[], attributes := #[] }
def k7m0 : Method := { name := "ordinal", desc := "()I", sig := { parameters := [], returnType := some .int }, accessFlags := 17, code := some k7c0 }
/-- java/lang/Enum -/
def k7 : Class := { plain "java/lang/Enum" (some 0) with
  accessFlags := 1057
  interfaces := #[4, 5, 6]
  cf := some (fileOf pool7 2 #[.nestMembers #[106]] #[{ accessFlags := 17, nameIndex := 9, descriptorIndex := 126, attributes := #[] }] 1057 12 #[111, 113, 115] #[{ accessFlags := 18, nameIndex := 5, descriptorIndex := 6, attributes := #[] }, { accessFlags := 18, nameIndex := 9, descriptorIndex := 10, attributes := #[] }, { accessFlags := 2, nameIndex := 19, descriptorIndex := 10, attributes := #[] }])
  fields := #[{ name := "name", type := (.object "java/lang/String"), accessFlags := 18, slot := 0, constantValue := 0 }, { name := "ordinal", type := .int, accessFlags := 18, slot := 1, constantValue := 0 }, { name := "hash", type := .int, accessFlags := 2, slot := 2, constantValue := 0 }]
  methods := #[k7m0]
  instanceTypes := #[(.object "java/lang/String"), .int, .int]
  staticTypes := #[]
  resolved := Array.replicate 204 none
  statics := none }

def pool8 : Array CpInfo := pool [(1, .class_ 2), (0, u "com/example/pathlamp/pathlamp/maps/CostConstraint$Operator"), (2, u "GT"), (0, u "Lcom/example/pathlamp/pathlamp/maps/CostConstraint$Operator;"), (2, u "LT"), (2, u "GE"), (2, u "LE"), (2, u "EQ"), (2, u "$VALUES"), (0, u "[Lcom/example/pathlamp/pathlamp/maps/CostConstraint$Operator;"), (6, .class_ 31), (1, u "java/lang/Enum"), (52, .class_ 85), (0, u "com/example/pathlamp/pathlamp/maps/CostConstraint")] 2

/-- com/example/pathlamp/pathlamp/maps/CostConstraint$Operator -/
def k8 : Class := { plain "com/example/pathlamp/pathlamp/maps/CostConstraint$Operator" (some 7) with
  accessFlags := 16433
  interfaces := #[]
  cf := some (fileOf pool8 1 #[.nestHost 84] #[] 16433 29 #[] #[{ accessFlags := 16409, nameIndex := 5, descriptorIndex := 6, attributes := #[] }, { accessFlags := 16409, nameIndex := 9, descriptorIndex := 6, attributes := #[] }, { accessFlags := 16409, nameIndex := 12, descriptorIndex := 6, attributes := #[] }, { accessFlags := 16409, nameIndex := 15, descriptorIndex := 6, attributes := #[] }, { accessFlags := 16409, nameIndex := 18, descriptorIndex := 6, attributes := #[] }, { accessFlags := 4122, nameIndex := 21, descriptorIndex := 22, attributes := #[] }])
  fields := #[{ name := "GT", type := (.object "com/example/pathlamp/pathlamp/maps/CostConstraint$Operator"), accessFlags := 16409, slot := 0, constantValue := 0 }, { name := "LT", type := (.object "com/example/pathlamp/pathlamp/maps/CostConstraint$Operator"), accessFlags := 16409, slot := 1, constantValue := 0 }, { name := "GE", type := (.object "com/example/pathlamp/pathlamp/maps/CostConstraint$Operator"), accessFlags := 16409, slot := 2, constantValue := 0 }, { name := "LE", type := (.object "com/example/pathlamp/pathlamp/maps/CostConstraint$Operator"), accessFlags := 16409, slot := 3, constantValue := 0 }, { name := "EQ", type := (.object "com/example/pathlamp/pathlamp/maps/CostConstraint$Operator"), accessFlags := 16409, slot := 4, constantValue := 0 }, { name := "$VALUES", type := (.array (.object "com/example/pathlamp/pathlamp/maps/CostConstraint$Operator")), accessFlags := 4122, slot := 5, constantValue := 0 }]
  methods := #[]
  instanceTypes := #[(.object "java/lang/String"), .int, .int]
  staticTypes := #[(.object "com/example/pathlamp/pathlamp/maps/CostConstraint$Operator"), (.object "com/example/pathlamp/pathlamp/maps/CostConstraint$Operator"), (.object "com/example/pathlamp/pathlamp/maps/CostConstraint$Operator"), (.object "com/example/pathlamp/pathlamp/maps/CostConstraint$Operator"), (.object "com/example/pathlamp/pathlamp/maps/CostConstraint$Operator"), (.array (.object "com/example/pathlamp/pathlamp/maps/CostConstraint$Operator"))]
  resolved := Array.replicate 88 none
  statics := some 0 }

def pool9 : Array CpInfo := pool [(1, u "java/lang/Cloneable"), (0, .class_ 1), (0, u "java/lang/Object"), (0, .class_ 3)] 3

/-- java/lang/Cloneable -/
def k9 : Class := { plain "java/lang/Cloneable" (some 0) with
  accessFlags := 1537
  interfaces := #[]
  cf := some (fileOf pool9 2 #[] #[] 1537 4 #[] #[])
  fields := #[]
  methods := #[]
  instanceTypes := #[]
  staticTypes := #[]
  resolved := Array.replicate 8 none
  statics := none }

/-- the primitive byte -/
def k10 : Class := { plain "byte" none with kind := .primitive 'B', accessFlags := 0x411 }
/-- [B -/
def k11 : Class := { plain "[B" (some 0) with kind := .array 10 .byte, interfaces := #[9, 6], accessFlags := 1041 }

/-- the primitive int -/
def k12 : Class := { plain "int" none with kind := .primitive 'I', accessFlags := 0x411 }
/-- [I -/
def k13 : Class := { plain "[I" (some 0) with kind := .array 12 .int, interfaces := #[9, 6], accessFlags := 1041 }

def heap : Heap := #[{ cls := 8, slots := #[.ref 1, .ref 2, .ref 3, .ref 4, .ref 5, .null], vm := .statics 8 },
  { cls := 8, slots := #[.null, .int 0, .int 0], vm := .none },
  { cls := 8, slots := #[.null, .int 1, .int 0], vm := .none },
  { cls := 8, slots := #[.null, .int 2, .int 0], vm := .none },
  { cls := 8, slots := #[.null, .int 3, .int 0], vm := .none },
  { cls := 8, slots := #[.null, .int 4, .int 0], vm := .none }]
def classes : Array Class := #[k0, k1, k2, k3, k4, k5, k6, k7, k8, k9, k10, k11, k12, k13]
def interned : List (Array UInt16 × Addr) := []
def slotsUsed : Nat := 21
def theMethod : MethodId := ⟨1, 2⟩
def args0 : Array Value := #[.int 5, .int 3, .int 4, .int 1]
def aboutOver (below : List Frame) : State where
  vm := { classes := classes, interned := interned.toArray }
  heap := heap
  slotsUsed := slotsUsed
  threads := #[{ frames := .invoking theMethod args0 :: below }]
def below0 : List Frame := [.native { method := ⟨0, 0⟩, args := #[] }]
def about1 : State := aboutOver below0
def p0 : Program := .bare "" "" ""
def e0 : Env := launch0.env 0 0 0
theorem w_frames : about1.frames = Frame.invoking theMethod args0 :: below0 := rfl
set_option maxRecDepth 65536 in
theorem w_args : argsFit about1.vm theMethod args0 = true := by decide +kernel
set_option maxRecDepth 65536 in
theorem w_heap : heapFits about1 = true := by decide +kernel
set_option maxRecDepth 65536 in
theorem w_runnable : about1.curStatus? = some .runnable := by decide +kernel
set_option maxRecDepth 65536 in
theorem w_alone : about1.alone = true := by decide +kernel
set_option maxRecDepth 65536 in
theorem w_named : about1.methodNamed? x = some theMethod := by decide +kernel
set_option maxRecDepth 65536 in
theorem w_hears : about1.hears theMethod below0 = true := by decide +kernel
set_option maxRecDepth 65536 in
theorem w_ripe : about1.ripe theMethod args0 below0 = true := by decide +kernel
theorem w_running : about1.status = .running := rfl
set_option maxRecDepth 65536 in
theorem w_room : about1.hasRoom e0.platform room_1 = true :=
  launch0.hasRoom_least _ room_1 (by decide +kernel) (by decide +kernel) (by decide +kernel) (by decide +kernel) (by decide +kernel) (by decide +kernel)
theorem allAtoms_all (ts : List Jvm.Cond) (a : Array Jvm.Value) (st : Jvm.State) : (allAtoms ts).before a st = ts.all (fun c => c.before a st) := by
  induction ts with
  | nil => rfl
  | cons c t ih =>
    show (Jvm.Cond.and c (allAtoms t)).before a st = _
    rw [Jvm.Cond.before_and, ih, List.all_cons]
def words1 : List Jvm.Cond := Jvm.Cond.code x code maxLocals ret :: tables_1
/-- a 'code' word, met by the world's own term for the bytes: nothing is compared byte by byte -/
theorem code_word {y : MethodName} {bytes : ByteArray} {mx : Nat} {rt : Option FieldType} {a : Array Value} {s : State} {m : MethodId} {meth : Method} {c : Code} (h1 : s.methodNamed? y = some m) (h2 : s.vm.method? m = some meth) (h3 : meth.code = some c) (h4 : c.code = bytes)
    (h5 : (c.maxLocals == mx && c.exceptionTable.isEmpty && decide (c.maxStack ≤ mostOperands) && decide (meth.sig.returnType = rt) && !meth.locks && decide (parseMethodDescriptor y.desc = some meth.sig)) = true) : (Jvm.Cond.code y bytes mx rt).before a s = true := by
  simp only [Bool.and_eq_true, beq_iff_eq, Bool.not_eq_true', decide_eq_true_eq] at h5
  obtain ⟨⟨⟨⟨⟨g1, g2⟩, g3⟩, g4⟩, g5⟩, g6⟩ := h5
  simp [Cond.before, Cond.holds, Cond.value, h1, h2, h3, h4, g1, g2, g3, g4, g5, g6]
def isCode : Jvm.Cond → Bool
  | .code _ _ _ _ => true
  | _ => false
theorem all_split {L : List Jvm.Cond} {P : Jvm.Cond → Bool} (h1 : L.all (fun c => isCode c || P c) = true) (h2 : ∀ c ∈ L.filter isCode, P c = true) : L.all P = true := by
  refine List.all_eq_true.mpr fun c hc => ?_
  have h := List.all_eq_true.mp h1 c hc
  rcases Bool.eq_false_or_eq_true (isCode c) with hi | hi
  · exact h2 c (List.mem_filter.mpr ⟨hc, hi⟩)
  · simpa [hi] using h
set_option maxRecDepth 65536 in
theorem w_c0 : (Jvm.Cond.code x code maxLocals ret).before args0 about1 = true := code_word (m := ⟨1, 2⟩) (meth := k1m2) (c := k1c2) (by decide +kernel) rfl rfl rfl (by decide +kernel)
set_option maxRecDepth 65536 in
theorem w_c1 : (Jvm.Cond.code ({ cls := "com/example/pathlamp/pathlamp/maps/CostConstraintKeptByPinLaw", name := "op", desc := "(I)Lcom/example/pathlamp/pathlamp/maps/CostConstraint$Operator;" } : Jvm.MethodName) method_2_code (1 : Nat) (Option.some (Jvm.ClassFile.FieldType.object "com/example/pathlamp/pathlamp/maps/CostConstraint$Operator"))).before args0 about1 = true := code_word (m := ⟨1, 1⟩) (meth := k1m1) (c := k1c1) (by decide +kernel) rfl rfl rfl (by decide +kernel)
set_option maxRecDepth 65536 in
theorem w_c2 : (Jvm.Cond.code ({ cls := "com/example/pathlamp/pathlamp/maps/CostConstraint", name := "<init>", desc := "(Lcom/example/pathlamp/pathlamp/maps/CostConstraint$Operator;D)V" } : Jvm.MethodName) prog_8_method_1_code (4 : Nat) (Option.none : Option Jvm.ClassFile.FieldType)).before args0 about1 = true := code_word (m := ⟨3, 0⟩) (meth := k3m0) (c := k3c0) (by decide +kernel) rfl rfl rfl (by decide +kernel)
set_option maxRecDepth 65536 in
theorem w_c3 : (Jvm.Cond.code ({ cls := "java/lang/Record", name := "<init>", desc := "()V" } : Jvm.MethodName) jdk_30_method_1_code (1 : Nat) (Option.none : Option Jvm.ClassFile.FieldType)).before args0 about1 = true := code_word (m := ⟨2, 0⟩) (meth := k2m0) (c := k2c0) (by decide +kernel) rfl rfl rfl (by decide +kernel)
set_option maxRecDepth 65536 in
theorem w_c4 : (Jvm.Cond.code ({ cls := "java/lang/Object", name := "<init>", desc := "()V" } : Jvm.MethodName) object_method_1_code (1 : Nat) (Option.none : Option Jvm.ClassFile.FieldType)).before args0 about1 = true := code_word (m := ⟨0, 0⟩) (meth := k0m0) (c := k0c0) (by decide +kernel) rfl rfl rfl (by decide +kernel)
set_option maxRecDepth 65536 in
theorem w_c5 : (Jvm.Cond.code ({ cls := "com/example/pathlamp/pathlamp/maps/CostConstraint", name := "keptBy", desc := "(D)Z" } : Jvm.MethodName) prog_8_method_3_code (3 : Nat) (Option.some Jvm.ClassFile.FieldType.boolean)).before args0 about1 = true := code_word (m := ⟨3, 1⟩) (meth := k3m1) (c := k3c1) (by decide +kernel) rfl rfl rfl (by decide +kernel)
set_option maxRecDepth 65536 in
theorem w_c6 : (Jvm.Cond.code ({ cls := "java/lang/Enum", name := "ordinal", desc := "()I" } : Jvm.MethodName) jdk_37_method_2_code (1 : Nat) (Option.some Jvm.ClassFile.FieldType.int)).before args0 about1 = true := code_word (m := ⟨7, 0⟩) (meth := k7m0) (c := k7c0) (by decide +kernel) rfl rfl rfl (by decide +kernel)
def codes1 : List Jvm.Cond := [Jvm.Cond.code x code maxLocals ret, Jvm.Cond.code ({ cls := "com/example/pathlamp/pathlamp/maps/CostConstraintKeptByPinLaw", name := "op", desc := "(I)Lcom/example/pathlamp/pathlamp/maps/CostConstraint$Operator;" } : Jvm.MethodName) method_2_code (1 : Nat) (Option.some (Jvm.ClassFile.FieldType.object "com/example/pathlamp/pathlamp/maps/CostConstraint$Operator")), Jvm.Cond.code ({ cls := "com/example/pathlamp/pathlamp/maps/CostConstraint", name := "<init>", desc := "(Lcom/example/pathlamp/pathlamp/maps/CostConstraint$Operator;D)V" } : Jvm.MethodName) prog_8_method_1_code (4 : Nat) (Option.none : Option Jvm.ClassFile.FieldType), Jvm.Cond.code ({ cls := "java/lang/Record", name := "<init>", desc := "()V" } : Jvm.MethodName) jdk_30_method_1_code (1 : Nat) (Option.none : Option Jvm.ClassFile.FieldType), Jvm.Cond.code ({ cls := "java/lang/Object", name := "<init>", desc := "()V" } : Jvm.MethodName) object_method_1_code (1 : Nat) (Option.none : Option Jvm.ClassFile.FieldType), Jvm.Cond.code ({ cls := "com/example/pathlamp/pathlamp/maps/CostConstraint", name := "keptBy", desc := "(D)Z" } : Jvm.MethodName) prog_8_method_3_code (3 : Nat) (Option.some Jvm.ClassFile.FieldType.boolean), Jvm.Cond.code ({ cls := "java/lang/Enum", name := "ordinal", desc := "()I" } : Jvm.MethodName) jdk_37_method_2_code (1 : Nat) (Option.some Jvm.ClassFile.FieldType.int)]
set_option maxRecDepth 65536 in
theorem codes_eq : words1.filter isCode = codes1 := rfl
theorem w_codes : ∀ c ∈ words1.filter isCode, c.before args0 about1 = true := by
  rw [codes_eq]
  intro c hc
  simp only [codes1, List.mem_cons, List.not_mem_nil, or_false] at hc
  rcases hc with rfl | rfl | rfl | rfl | rfl | rfl | rfl
  · exact w_c0
  · exact w_c1
  · exact w_c2
  · exact w_c3
  · exact w_c4
  · exact w_c5
  · exact w_c6
set_option maxRecDepth 65536 in
theorem w_t1 : (words1.take 24).all (fun c => isCode c || c.before args0 about1) = true := by decide +kernel
set_option maxRecDepth 65536 in
theorem w_t2 : ((words1.drop 24).take 24).all (fun c => isCode c || c.before args0 about1) = true := by decide +kernel
set_option maxRecDepth 65536 in
theorem w_t3 : ((words1.drop 24).drop 24).all (fun c => isCode c || c.before args0 about1) = true := by decide +kernel
theorem w_tables : (allAtoms (Jvm.Cond.code x code maxLocals ret :: tables_1)).before args0 about1 = true := by
  rw [allAtoms_all]
  show words1.all (fun c => c.before args0 about1) = true
  refine all_split ?_ w_codes
  rw [← List.take_append_drop 24 words1, List.all_append, w_t1, ← List.take_append_drop 24 (words1.drop 24), List.all_append, w_t2, w_t3]
  rfl
set_option maxRecDepth 65536 in
theorem w_case : (Jvm.Cond.and given_1 narrow_1).before args0 about1 = true := by decide +kernel
theorem w_applies : (headSpec (Jvm.Cond.code x code maxLocals ret :: tables_1) room_1).applies x e0.platform about1 = true :=
  (Spec.applies_iff w_frames).mpr ⟨w_running, w_runnable, w_alone, w_named, w_hears, w_ripe, w_room, w_tables⟩
theorem atStart : AtStart classFile x code maxLocals ret World_1 tables_1 room_1 Calls_1 rest_1 Pre_1 launch0 p0 e0 about1 theMethod args0 below0 :=
  ⟨lists_1, trivial, launch0.admits_env _ _ _, launch0.least_env, fairChoices_fair.cas, fairChoices_fair.clock, w_frames, w_args, w_heap, w_applies, trivial, trivial, w_case⟩
end start1
theorem witness_1 : WitnessClaimed_1 := ⟨start1.p0, start1.e0, start1.about1, start1.theMethod, start1.args0, start1.below0, start1.atStart⟩
end Jvm.Pilot.@@N@@
