import JvmDerived
import JvmDerived.Pilot.@@N@@Statement
import JvmDerived.Pilot.@@N@@Code
set_option linter.unusedVariables false
set_option linter.unusedSimpArgs false
namespace Jvm.Pilot.@@N@@
open Jvm Jvm.ClassFile Sem Op Lib Jvm.Free Jvm.Stand Jvm.LawKit Jvm.RoadKit Bundle Jvm.Pilot.@@N@@.Jvm.D
/-! ## the walking judgement -/
section Core
variable {w : Bool} {Z : State} {EL : List (String × Nat)} {own nm : String} {bytes : ByteArray} {ml : Nat} {ret : Option FieldType} {R : Room} {hS : Heap} {ws : List Addr} {Q : Option Value → Heap → Prop} {os : List Addr} {cells slots : Nat} {h h' : Heap} {pc pc' : Nat} {Ls Ls' : Array Slot} {rest : List Value} {a0 : Array Value}
def Ok (p : Program) (s : State) (m : MethodId) (meth : Method) (c : Code) (Z : State) (own nm : String) (bytes : ByteArray) (ml : Nat) (ret : Option FieldType) : Prop :=
  p.tables.exec = Jvm.exec ∧ c.code = bytes ∧ c.maxLocals = ml ∧ Z.Warmed39 s.vm ∧ s.vm.findClass own = some m.cls ∧ meth.name = nm ∧ meth.sig.returnType = ret ∧ meth.locks = false
/-- what is known of the tables at hand: in a plain walk they are the start's; in a wide one literals may have been loaded -/
def Sn : Bool → State → List (String × Nat) → State → Vm → Heap → List Addr → Prop
  | false, _, _, s, vm0, _, _ => vm0 = s.vm
  | true, Z, EL, s, vm0, h, os => (∃ k0, s.Since vm0 k0 ∧ k0 ≤ h.size) ∧ CHr Z EL s.vm s.heap vm0 h ∧ (∃ a0, EW Z a0 EL) ∧ ∀ x ∈ os, x < h.size ∧ Safe Z EL vm0 h x
def EndC : Bool → State → List (String × Nat) → State → Outcome → State → List Loc → Nat → Nat → Prop
  | false, _, _, s, o, t, L, k, n => FrameEnd s o t L k n
  | true, Z, EL, s, o, t, L, k, n => CHr Z EL s.vm s.heap t.vm t.heap ∧ ReturnedEndW s o t L k n
def Go (w : Bool) (Z : State) (EL : List (String × Nat)) (p : Program) (e : Env) (s : State) (below : List Frame) (R : Room) (hS : Heap) (ws : List Addr) (Q : Option Value → Heap → Prop) (S : State) : Prop :=
  ∃ s₂ o, Steps p.tables e below S s₂ ∧ s₂.status = .running ∧ Ended s₂ below o ∧ ∃ v L, o = .returned v ∧ (Fr Z.heap.size L ∧ Keep hS s₂.heap ws ∧ Q v s₂.heap) ∧ EndC w Z EL s o s₂ L R.cells R.slots
/-- the walk stands at pc over the heap h and ends as Q says -/
def Rn (w : Bool) (Z : State) (EL : List (String × Nat)) (own nm : String) (bytes : ByteArray) (ml : Nat) (ret : Option FieldType) (R : Room) (hS : Heap) (ws : List Addr) (Q : Option Value → Heap → Prop) (os : List Addr) (cells slots : Nat) (h : Heap) (pc : Nat) (Ls : Array Slot) (st : List Value) : Prop :=
  ∀ (p : Program) (l : Launch) (e : Env) (s : State) (vm0 : Vm) (m : MethodId) (args : Array Value) (below : List Frame) (meth : Method) (c : Code) (T : State) (locs : List Loc),
    Ok p (s.setVm vm0) m meth c Z own nm bytes ml ret → Stand p l e R (s.setVm vm0) m args below meth c T locs cells slots → Sn w Z EL s vm0 h os → Fr Z.heap.size locs → Keep hS h ws → (Ext Z.heap hS ∧ ∀ x ∈ ws, Z.heap.size ≤ x) → T.heap = h →
    Go w Z EL p e s below R hS ws Q (T.setTop (mkF m pc Ls st))
theorem Go.pre {p : Program} {e : Env} {s : State} {below : List Frame} {S S' : State} (k : ∀ t, Steps p.tables e below S' t → Steps p.tables e below S t) (g : Go w Z EL p e s below R hS ws Q S') : Go w Z EL p e s below R hS ws Q S := by
  obtain ⟨s₂, o, h1, r⟩ := g
  exact ⟨s₂, o, k _ h1, r⟩
/-- a step that moves nothing but the frame -/
theorem Rn.pure {st st' : List Value} (k : Rn w Z EL own nm bytes ml ret R hS ws Q os cells slots h pc' Ls' st')
    (f : ∀ (p : Program) (l : Launch) (e : Env) (s : State) (m : MethodId) (args : Array Value) (below : List Frame) (meth : Method) (c : Code) (T : State) (locs : List Loc), p.tables.exec = Jvm.exec → c.code = bytes → Stand p l e R s m args below meth c T locs cells slots → Z.Warmed39 s.vm → s.vm.findClass own = some m.cls → T.heap = h → ∀ t, Steps p.tables e below (T.setTop (mkF m pc' Ls' st')) t → Steps p.tables e below (T.setTop (mkF m pc Ls st)) t) :
    Rn w Z EL own nm bytes ml ret R hS ws Q os cells slots h pc Ls st := by
  intro p l e s vm0 m args below meth c T locs ok X sn fr K O eT
  exact (k p l e s vm0 m args below meth c T locs ok X sn fr K O eT).pre (f p l e _ m args below meth c T locs ok.1 ok.2.1 X ok.2.2.2.1 ok.2.2.2.2.1 eT)
/-- a step that may resolve an entry of the tables, and moves nothing else but the frame -/
theorem Rn.note {st st' : List Value} (k : Rn w Z EL own nm bytes ml ret R hS ws Q os cells slots h pc' Ls' st')
    (f : ∀ (p : Program) (l : Launch) (e : Env) (s : State) (m : MethodId) (args : Array Value) (below : List Frame) (meth : Method) (c : Code) (T : State) (locs : List Loc), p.tables.exec = Jvm.exec → c.code = bytes → c.maxLocals = ml → Stand p l e R s m args below meth c T locs cells slots → Z.Warmed39 s.vm → s.vm.findClass own = some m.cls → T.heap = h → ∃ T', Stand p l e R s m args below meth c T' locs cells slots ∧ T'.heap = h ∧ ∀ t, Steps p.tables e below (T'.setTop (mkF m pc' Ls' st')) t → Steps p.tables e below (T.setTop (mkF m pc Ls st)) t) :
    Rn w Z EL own nm bytes ml ret R hS ws Q os cells slots h pc Ls st := by
  intro p l e s vm0 m args below meth c T locs ok X sn fr K O eT
  obtain ⟨T', X', e', stp⟩ := f p l e _ m args below meth c T locs ok.1 ok.2.1 ok.2.2.1 X ok.2.2.2.1 ok.2.2.2.2.1 eT
  exact (k p l e s vm0 m args below meth c T' locs ok X' sn fr K O e').pre stp
theorem Sn.ext {s : State} {vm0 : Vm} (E : Ext h h') (sn : Sn w Z EL s vm0 h os) : Sn w Z EL s vm0 h' os := by
  cases w
  · exact sn
  · obtain ⟨⟨k0, a, b⟩, c, d, f⟩ := sn
    exact ⟨⟨k0, a, Nat.le_trans b E.1⟩, c.trans (CHr.ext E c.1), d, fun x hx => ⟨Nat.lt_of_lt_of_le (f x hx).1 E.1, (f x hx).2.ext E c.1⟩⟩
/-- the address may be written: no literal's cell -/
def Sf (w : Bool) (Z : State) (EL : List (String × Nat)) (os : List Addr) (h : Heap) (a : Addr) : Prop := w = true → a ∈ os ∨ ∀ vm, Z.vm.Alike vm → Safe Z EL vm h a
theorem Sf.no {a : Addr} : Sf false Z EL os h a := fun q => nomatch q
theorem Sf.mem {a : Addr} (q : a ∈ os) : Sf w Z EL os h a := fun _ => Or.inl q
theorem Sf.exa {a : Addr} {C : String} (E : Exa Z h a C) (h1 : C ≠ "java/lang/String") (h2 : C ≠ "[B") : Sf w Z EL os h a := fun _ => Or.inr fun _ al => Safe.exa al E h1 h2
theorem Sf.arr {a : Addr} {cl : Cell} {ty : FieldType} (A : Arr Z h a cl ty) (ht : ty ≠ .byte) : Sf w Z EL os h a := fun _ => Or.inr fun _ al => Safe.arr al A ht
theorem Sn.keep {s : State} {vm0 : Vm} {ws' : List Addr} (hZ : Z.Warmed39 vm0) (K : Keep h h' ws') (q : ∀ x ∈ ws', Sf w Z EL os h x) (sn : Sn w Z EL s vm0 h os) : Sn w Z EL s vm0 h' os := by
  cases w
  · exact sn
  · obtain ⟨⟨k0, a, b⟩, c, d, f⟩ := sn
    have q' : ∀ x ∈ ws', Safe Z EL vm0 h x := fun x hx => ((q x hx) rfl).elim (fun z => (f x z).2) (fun z => z _ hZ.alike)
    exact ⟨⟨k0, a, Nat.le_trans b K.1⟩, c.trans (CHr.keep K q' c.1), d, fun x hx => ⟨Nat.lt_of_lt_of_le (f x hx).1 K.1, (f x hx).2.keep K q' c.1⟩⟩
theorem Sn.wr {s : State} {vm0 : Vm} {a : Addr} {sl : Nat} {v : Value} (hZ : Z.Warmed39 vm0) (W : Wr h h' a sl v) (q : Sf w Z EL os h a) (sn : Sn w Z EL s vm0 h os) : Sn w Z EL s vm0 h' os :=
  sn.keep hZ (Keep.of_wr W) fun x hx => by cases List.mem_singleton.mp hx; exact q
theorem ge_of {a : Addr} (O : Ext Z.heap hS ∧ ∀ x ∈ ws, Z.heap.size ≤ x) (q : a ∈ ws ∨ hS.size ≤ a) : Z.heap.size ≤ a := q.elim (O.2 a) fun z => Nat.le_trans O.1.1 z
theorem Rn.wrote {st st' : List Value} {a : Addr} {sl : Nat} {v : Value} (q : a ∈ ws ∨ hS.size ≤ a) (sf : Sf w Z EL os h a) (k : ∀ h', Wr h h' a sl v → Rn w Z EL own nm bytes ml ret R hS ws Q os cells slots h' pc' Ls' st')
    (f : ∀ (p : Program) (l : Launch) (e : Env) (s : State) (m : MethodId) (args : Array Value) (below : List Frame) (meth : Method) (c : Code) (T : State) (locs : List Loc), p.tables.exec = Jvm.exec → c.code = bytes → meth.name = nm → Stand p l e R s m args below meth c T locs cells slots → Z.Warmed39 s.vm → s.vm.findClass own = some m.cls → T.heap = h → ∃ T' h', Stand p l e R s m args below meth c T' (locs ++ [⟨a, sl⟩]) cells slots ∧ T'.heap = h' ∧ Wr h h' a sl v ∧ ∀ t, Steps p.tables e below (T'.setTop (mkF m pc' Ls' st')) t → Steps p.tables e below (T.setTop (mkF m pc Ls st)) t) :
    Rn w Z EL own nm bytes ml ret R hS ws Q os cells slots h pc Ls st := by
  intro p l e s vm0 m args below meth c T locs ok X sn fr K O eT
  obtain ⟨T', h', X', e', W, stp⟩ := f p l e _ m args below meth c T locs ok.1 ok.2.1 ok.2.2.2.2.2.1 X ok.2.2.2.1 ok.2.2.2.2.1 eT
  exact (k h' W p l e s vm0 m args below meth c T' _ ok X' (sn.wr ok.2.2.2.1 W sf) (Fr.snoc X' fr (ge_of O q)) (K.wr W q) O e').pre stp
theorem Rn.made {st st' : Addr → List Value} {st0 : List Value} {G : Heap → Addr → Prop} {c1 s1 : Nat} (k : ∀ h' a, a = h.size → hS.size ≤ a → Ext h h' → G h' a → Rn w Z EL own nm bytes ml ret R hS ws Q (a :: os) (cells + c1) (slots + s1) h' pc' Ls' (st' a))
    (lt : ∀ h', G h' h.size → h.size < h'.size)
    (f : ∀ (p : Program) (l : Launch) (e : Env) (s : State) (m : MethodId) (args : Array Value) (below : List Frame) (meth : Method) (c : Code) (T : State) (locs : List Loc), p.tables.exec = Jvm.exec → c.code = bytes → Stand p l e R s m args below meth c T locs cells slots → Z.Warmed39 s.vm → s.vm.findClass own = some m.cls → T.heap = h → ∃ T' h', Stand p l e R s m args below meth c T' locs (cells + c1) (slots + s1) ∧ T'.heap = h' ∧ Ext h h' ∧ G h' h.size ∧ ∀ t, Steps p.tables e below (T'.setTop (mkF m pc' Ls' (st' h.size))) t → Steps p.tables e below (T.setTop (mkF m pc Ls st0)) t) :
    Rn w Z EL own nm bytes ml ret R hS ws Q os cells slots h pc Ls st0 := by
  intro p l e s vm0 m args below meth c T locs ok X sn fr K O eT
  obtain ⟨T', h', X', e', E, g, stp⟩ := f p l e _ m args below meth c T locs ok.1 ok.2.1 X ok.2.2.2.1 ok.2.2.2.2.1 eT
  have sn1 : Sn w Z EL s vm0 h' os := sn.ext E
  have sn' : Sn w Z EL s vm0 h' (h.size :: os) := by
    cases w
    · exact sn1
    · refine ⟨sn1.1, sn1.2.1, sn1.2.2.1, fun x hx => ?_⟩
      rcases List.mem_cons.mp hx with rfl | hx
      · exact ⟨lt h' g, (Safe.new (Nat.le_refl _)).ext E sn.2.1.1⟩
      · exact sn1.2.2.2 x hx
  exact (k h' h.size rfl K.1 E g p l e s vm0 m args below meth c T' _ ok X' sn' fr (K.ext E) O e').pre stp
theorem Rn.old (k : Ext Z.heap h → Keep hS h ws → Rn w Z EL own nm bytes ml ret R hS ws Q os cells slots h pc Ls rest) : Rn w Z EL own nm bytes ml ret R hS ws Q os cells slots h pc Ls rest := by
  intro p l e s vm0 m args below meth c T locs ok X sn fr K O eT
  have X0 : Old Z Z.heap.size h := Old.keep (h := hS) ⟨rfl, O.1⟩ K O.2
  exact k X0.2 K p l e s vm0 m args below meth c T locs ok X sn fr K O eT
theorem Rn.more {c2 s2 : Nat} (hc : cells ≤ c2) (hs : slots ≤ s2) (k : Rn w Z EL own nm bytes ml ret R hS ws Q os c2 s2 h pc Ls rest) : Rn w Z EL own nm bytes ml ret R hS ws Q os cells slots h pc Ls rest := by
  intro p l e s vm0 m args below meth c T locs ok X sn fr K O eT
  exact k p l e s vm0 m args below meth c T locs ok (X.more hc hs) sn fr K O eT
theorem Rn.less {os' : List Addr} (q : ∀ x ∈ os', x ∈ os) (k : Rn w Z EL own nm bytes ml ret R hS ws Q os' cells slots h pc Ls rest) : Rn w Z EL own nm bytes ml ret R hS ws Q os cells slots h pc Ls rest := by
  intro p l e s vm0 m args below meth c T locs ok X sn fr K O eT
  refine k p l e s vm0 m args below meth c T locs ok X ?_ fr K O eT
  cases w
  · exact sn
  · exact ⟨sn.1, sn.2.1, sn.2.2.1, fun x hx => sn.2.2.2 x (q x hx)⟩
/-! ### the ends -/
theorem Rn.leave {v : Option Value} {st : List Value} (hc : cells ≤ R.cells) (hs : slots ≤ R.slots) (hv : ret = none → v = none) (q : Q v h)
    (f : ∀ (p : Program) (l : Launch) (e : Env) (s : State) (m : MethodId) (args : Array Value) (below : List Frame) (meth : Method) (c : Code) (T : State) (locs : List Loc) (fs : List Frame), p.tables.exec = Jvm.exec → c.code = bytes → meth.sig.returnType = ret → Stand p l e R s m args below meth c T locs cells slots → (∀ (f : JFrame) (acts : List Action), f.method = m → f.locked = none → f.entered = [] → (doReturn e (T.setTop f) acts v).1 = T.setFrames fs) → Steps p.tables e below (T.setTop (mkF m pc Ls st)) (T.setFrames fs)) :
    Rn w Z EL own nm bytes ml ret R hS ws Q os cells slots h pc Ls st := by
  intro p l e s vm0 m args below meth c T locs ok X sn fr K O eT
  obtain ⟨hx, hby, hml, hZ, hown, hnm, hret, hlk⟩ := ok
  subst eT
  cases w
  · cases (sn : vm0 = s.vm)
    obtain ⟨fs, hr, hrun, hended, hW, hsame⟩ := X.leave (v := v) (fun z => hv (hret.symm.trans z)) hlk
    exact ⟨_, _, f p l e _ m args below meth c T locs fs hx hby hret X hr, hrun, hended, _, _, rfl, ⟨fr, K, q⟩, ⟨_, rfl⟩, hW, hsame.mono hc hs⟩
  · obtain ⟨⟨k0, hS0, hk⟩, hC, ⟨b0, hE⟩, -⟩ := sn
    obtain ⟨fs, hr, hrun, hended, h1, h2, h3, h4⟩ := Jvm.Stand.leaveW X hS0 hk (v := v) (fun z => hv (hret.symm.trans z)) hlk
    exact ⟨_, _, f p l e _ m args below meth c T locs fs hx hby hret X hr, hrun, hended, _, _, rfl, ⟨fr, K, q⟩, (show CHr Z EL s.vm s.heap T.vm T.heap from hC.trans (CHv.at X hZ hE hC.1)), h1, h2, h3, h4.mono hc hs⟩
theorem Rn.retV (hr : ret = none) (hd : decode bytes pc = .ok (.return_, 1)) (hc : cells ≤ R.cells) (hs : slots ≤ R.slots) (q : Q none h) : Rn w Z EL own nm bytes ml ret R hS ws Q os cells slots h pc Ls [] :=
  Rn.leave (v := none) hc hs (fun _ => rfl) q fun p l e s m args below meth c T locs fs hx hby hret X hl => X.returnOut hx (hret.trans hr) (hb hby hd) hl
theorem Rn.retN {t : FieldType} {z : Int32} (hr : ret = some t) (ht : t = .boolean ∨ t = .byte ∨ t = .char ∨ t = .short) (hd : decode bytes pc = .ok (.ireturn, 1)) (hc : cells ≤ R.cells) (hs : slots ≤ R.slots) (q : Q (some (.int (nar t z))) h) : Rn w Z EL own nm bytes ml ret R hS ws Q os cells slots h pc Ls (.int z :: rest) :=
  Rn.leave (v := some (.int (nar t z))) hc hs (fun z => by rw [hr] at z; cases z) q fun p l e s m args below meth c T locs fs hx hby hret X hl => Jvm.RoadKit.retN X hx (hret.trans hr) ht (hb hby hd) hl
theorem Rn.retO {t : FieldType} {v : Value} {i : Instr} (hr : ret = some t) (hn : narrow t v = v) (hi : (i = .ireturn ∧ (t = .int ∨ t = .boolean ∨ t = .byte ∨ t = .char ∨ t = .short) ∧ ∃ z, v = .int z) ∨ (i = .lreturn ∧ t = .long ∧ ∃ z, v = .long z) ∨ (i = .dreturn ∧ t = .double ∧ ∃ z, v = .double z) ∨ (i = .freturn ∧ t = .float ∧ ∃ z, v = .float z) ∨ (i = .areturn ∧ t.isReference = true ∧ v.isRef = true)) (hd : decode bytes pc = .ok (i, 1)) (hc : cells ≤ R.cells) (hs : slots ≤ R.slots) (q : Q (some v) h) : Rn w Z EL own nm bytes ml ret R hS ws Q os cells slots h pc Ls (v :: rest) :=
  Rn.leave (v := some v) hc hs (fun z => by rw [hr] at z; cases z) q fun p l e s m args below meth c T locs fs hx hby hret X hl => retOut X hx (hret.trans hr) hn hi (hb hby hd) hl
theorem Rn.retI {z : Int32} (hr : ret = some .int) (hd : decode bytes pc = .ok (.ireturn, 1)) (hc : cells ≤ R.cells) (hs : slots ≤ R.slots) (q : Q (some (.int z)) h) : Rn w Z EL own nm bytes ml ret R hS ws Q os cells slots h pc Ls (.int z :: rest) :=
  Rn.retO hr rfl (Or.inl ⟨rfl, Or.inl rfl, _, rfl⟩) hd hc hs q
theorem Rn.retJ {z : Int64} (hr : ret = some .long) (hd : decode bytes pc = .ok (.lreturn, 1)) (hc : cells ≤ R.cells) (hs : slots ≤ R.slots) (q : Q (some (.long z)) h) : Rn w Z EL own nm bytes ml ret R hS ws Q os cells slots h pc Ls (.long z :: rest) :=
  Rn.retO hr rfl (Or.inr (Or.inl ⟨rfl, rfl, _, rfl⟩)) hd hc hs q
theorem Rn.retD {z : UInt64} (hr : ret = some .double) (hd : decode bytes pc = .ok (.dreturn, 1)) (hc : cells ≤ R.cells) (hs : slots ≤ R.slots) (q : Q (some (.double z)) h) : Rn w Z EL own nm bytes ml ret R hS ws Q os cells slots h pc Ls (.double z :: rest) :=
  Rn.retO hr rfl (Or.inr (Or.inr (Or.inl ⟨rfl, rfl, _, rfl⟩))) hd hc hs q
theorem Rn.retA {t : FieldType} {v : Value} (hr : ret = some t) (ht : t.isReference = true) (hv : v.isRef = true) (hd : decode bytes pc = .ok (.areturn, 1)) (hc : cells ≤ R.cells) (hs : slots ≤ R.slots) (q : Q (some v) h) : Rn w Z EL own nm bytes ml ret R hS ws Q os cells slots h pc Ls (v :: rest) :=
  Rn.retO hr (by rcases ref_cases hv with rfl | ⟨a, rfl⟩ <;> cases t <;> simp [FieldType.isReference] at ht <;> rfl) (Or.inr (Or.inr (Or.inr (Or.inr ⟨rfl, ht, hv⟩)))) hd hc hs q
end Core
section Steps
variable {w : Bool} {Z : State} {EL : List (String × Nat)} {own nm : String} {bytes : ByteArray} {ml : Nat} {ret : Option FieldType} {R : Room} {hS : Heap} {ws : List Addr} {Q : Option Value → Heap → Prop} {os : List Addr} {cells slots : Nat} {h h' : Heap} {pc pc' : Nat} {Ls Ls' : Array Slot} {rest : List Value} {a0 : Array Value}
theorem Rn.iconst {i : Int} {v : Int32} (hd : decode bytes pc = .ok (.iconst i, 1)) (hv : Int32.ofInt i = v) (hp : pc + 1 = pc') (k : Rn w Z EL own nm bytes ml ret R hS ws Q os cells slots h pc' Ls (.int v :: rest)) : Rn w Z EL own nm bytes ml ret R hS ws Q os cells slots h pc Ls rest :=
  k.pure fun p l e s m args below meth c T locs hx hby X hZ hown eT t r => by subst hp; exact XS.iconst X.here hx rfl (hb hby hd) (hv ▸ r)
theorem Rn.bipush {i : Int} {v : Int32} (hd : decode bytes pc = .ok (.bipush i, 2)) (hv : (Int8.ofInt i).toInt32 = v) (hp : pc + 2 = pc') (k : Rn w Z EL own nm bytes ml ret R hS ws Q os cells slots h pc' Ls (.int v :: rest)) : Rn w Z EL own nm bytes ml ret R hS ws Q os cells slots h pc Ls rest :=
  k.pure fun p l e s m args below meth c T locs hx hby X hZ hown eT t r => by subst hp; exact XS.bipush X.here hx rfl (hb hby hd) (hv ▸ r)
theorem Rn.sipush {i : Int} {v : Int32} (hd : decode bytes pc = .ok (.sipush i, 3)) (hv : (Int16.ofInt i).toInt32 = v) (hp : pc + 3 = pc') (k : Rn w Z EL own nm bytes ml ret R hS ws Q os cells slots h pc' Ls (.int v :: rest)) : Rn w Z EL own nm bytes ml ret R hS ws Q os cells slots h pc Ls rest :=
  k.pure fun p l e s m args below meth c T locs hx hby X hZ hown eT t r => by subst hp; exact XS.sipush X.here hx rfl (hb hby hd) (hv ▸ r)
theorem Rn.lconst {i : Fin 2} {v : Int64} (hd : decode bytes pc = .ok (.lconst i, 1)) (hv : Int64.ofNat i = v) (hp : pc + 1 = pc') (k : Rn w Z EL own nm bytes ml ret R hS ws Q os cells slots h pc' Ls (.long v :: rest)) : Rn w Z EL own nm bytes ml ret R hS ws Q os cells slots h pc Ls rest :=
  k.pure fun p l e s m args below meth c T locs hx hby X hZ hown eT t r => by subst hp; exact XT.lconst X.here hx rfl (hb hby hd) (hv ▸ r)
theorem Rn.dconst0 {v : UInt64} (hd : decode bytes pc = .ok (.dconst 0, 1)) (hv : FP.dconst0 = v) (hp : pc + 1 = pc') (k : Rn w Z EL own nm bytes ml ret R hS ws Q os cells slots h pc' Ls (.double v :: rest)) : Rn w Z EL own nm bytes ml ret R hS ws Q os cells slots h pc Ls rest :=
  k.pure fun p l e s m args below meth c T locs hx hby X hZ hown eT t r => by subst hp; exact XS.dconst0 X.here hx rfl (hb hby hd) hv r
theorem Rn.dconst1 {v : UInt64} (hd : decode bytes pc = .ok (.dconst 1, 1)) (hv : FP.dconst1 = v) (hp : pc + 1 = pc') (k : Rn w Z EL own nm bytes ml ret R hS ws Q os cells slots h pc' Ls (.double v :: rest)) : Rn w Z EL own nm bytes ml ret R hS ws Q os cells slots h pc Ls rest :=
  k.pure fun p l e s m args below meth c T locs hx hby X hZ hown eT t r => by subst hp; exact XS.dconst1 X.here hx rfl (hb hby hd) hv r
theorem Rn.aconst_null  (hd : decode bytes pc = .ok (.aconst_null, 1)) (hp : pc + 1 = pc') (k : Rn w Z EL own nm bytes ml ret R hS ws Q os cells slots h pc' Ls (.null :: rest)) : Rn w Z EL own nm bytes ml ret R hS ws Q os cells slots h pc Ls rest :=
  k.pure fun p l e s m args below meth c T locs hx hby X hZ hown eT t r => by subst hp; exact XS.aconstNull X.here hx rfl (hb hby hd) r
theorem Rn.iload {n : Nat} {v : Int32} (hd : decode bytes pc = .ok (.iload n, 2)) (hl : Ls[n]? = some (.val (.int v))) (hp : pc + 2 = pc') (k : Rn w Z EL own nm bytes ml ret R hS ws Q os cells slots h pc' Ls (.int v :: rest)) : Rn w Z EL own nm bytes ml ret R hS ws Q os cells slots h pc Ls rest :=
  k.pure fun p l e s m args below meth c T locs hx hby X hZ hown eT t r => by subst hp; exact XS.iload X.here hx rfl (hb hby hd) hl r
theorem Rn.iloadN {n : Fin 4} {v : Int32} (hd : decode bytes pc = .ok (.iload_n n, 1)) (hl : Ls[n.val]? = some (.val (.int v))) (hp : pc + 1 = pc') (k : Rn w Z EL own nm bytes ml ret R hS ws Q os cells slots h pc' Ls (.int v :: rest)) : Rn w Z EL own nm bytes ml ret R hS ws Q os cells slots h pc Ls rest :=
  k.pure fun p l e s m args below meth c T locs hx hby X hZ hown eT t r => by subst hp; exact XS.iloadN X.here hx rfl (hb hby hd) hl r
theorem Rn.istore {n : Nat} {v : Int32} (hd : decode bytes pc = .ok (.istore n, 2)) (hl : storeLocals Ls n (.int v) = some Ls') (hp : pc + 2 = pc') (k : Rn w Z EL own nm bytes ml ret R hS ws Q os cells slots h pc' Ls' rest) : Rn w Z EL own nm bytes ml ret R hS ws Q os cells slots h pc Ls (.int v :: rest) :=
  k.pure fun p l e s m args below meth c T locs hx hby X hZ hown eT t r => by subst hp; exact XS.istore X.here hx rfl (hb hby hd) rfl hl r
theorem Rn.istoreN {n : Fin 4} {v : Int32} (hd : decode bytes pc = .ok (.istore_n n, 1)) (hl : storeLocals Ls n.val (.int v) = some Ls') (hp : pc + 1 = pc') (k : Rn w Z EL own nm bytes ml ret R hS ws Q os cells slots h pc' Ls' rest) : Rn w Z EL own nm bytes ml ret R hS ws Q os cells slots h pc Ls (.int v :: rest) :=
  k.pure fun p l e s m args below meth c T locs hx hby X hZ hown eT t r => by subst hp; exact XS.istoreN X.here hx rfl (hb hby hd) rfl hl r
theorem Rn.lload {n : Nat} {v : Int64} (hd : decode bytes pc = .ok (.lload n, 2)) (hl : Ls[n]? = some (.val (.long v))) (hp : pc + 2 = pc') (k : Rn w Z EL own nm bytes ml ret R hS ws Q os cells slots h pc' Ls (.long v :: rest)) : Rn w Z EL own nm bytes ml ret R hS ws Q os cells slots h pc Ls rest :=
  k.pure fun p l e s m args below meth c T locs hx hby X hZ hown eT t r => by subst hp; exact XT.lload X.here hx rfl (hb hby hd) hl r
theorem Rn.lloadN {n : Fin 4} {v : Int64} (hd : decode bytes pc = .ok (.lload_n n, 1)) (hl : Ls[n.val]? = some (.val (.long v))) (hp : pc + 1 = pc') (k : Rn w Z EL own nm bytes ml ret R hS ws Q os cells slots h pc' Ls (.long v :: rest)) : Rn w Z EL own nm bytes ml ret R hS ws Q os cells slots h pc Ls rest :=
  k.pure fun p l e s m args below meth c T locs hx hby X hZ hown eT t r => by subst hp; exact XT.lloadN X.here hx rfl (hb hby hd) hl r
theorem Rn.lstore {n : Nat} {v : Int64} (hd : decode bytes pc = .ok (.lstore n, 2)) (hl : storeLocals Ls n (.long v) = some Ls') (hp : pc + 2 = pc') (k : Rn w Z EL own nm bytes ml ret R hS ws Q os cells slots h pc' Ls' rest) : Rn w Z EL own nm bytes ml ret R hS ws Q os cells slots h pc Ls (.long v :: rest) :=
  k.pure fun p l e s m args below meth c T locs hx hby X hZ hown eT t r => by subst hp; exact XT.lstore X.here hx rfl (hb hby hd) rfl hl r
theorem Rn.lstoreN {n : Fin 4} {v : Int64} (hd : decode bytes pc = .ok (.lstore_n n, 1)) (hl : storeLocals Ls n.val (.long v) = some Ls') (hp : pc + 1 = pc') (k : Rn w Z EL own nm bytes ml ret R hS ws Q os cells slots h pc' Ls' rest) : Rn w Z EL own nm bytes ml ret R hS ws Q os cells slots h pc Ls (.long v :: rest) :=
  k.pure fun p l e s m args below meth c T locs hx hby X hZ hown eT t r => by subst hp; exact XT.lstoreN X.here hx rfl (hb hby hd) rfl hl r
theorem Rn.dload {n : Nat} {v : UInt64} (hd : decode bytes pc = .ok (.dload n, 2)) (hl : Ls[n]? = some (.val (.double v))) (hp : pc + 2 = pc') (k : Rn w Z EL own nm bytes ml ret R hS ws Q os cells slots h pc' Ls (.double v :: rest)) : Rn w Z EL own nm bytes ml ret R hS ws Q os cells slots h pc Ls rest :=
  k.pure fun p l e s m args below meth c T locs hx hby X hZ hown eT t r => by subst hp; exact XS.dload X.here hx rfl (hb hby hd) hl r
theorem Rn.dloadN {n : Fin 4} {v : UInt64} (hd : decode bytes pc = .ok (.dload_n n, 1)) (hl : Ls[n.val]? = some (.val (.double v))) (hp : pc + 1 = pc') (k : Rn w Z EL own nm bytes ml ret R hS ws Q os cells slots h pc' Ls (.double v :: rest)) : Rn w Z EL own nm bytes ml ret R hS ws Q os cells slots h pc Ls rest :=
  k.pure fun p l e s m args below meth c T locs hx hby X hZ hown eT t r => by subst hp; exact XS.dloadN X.here hx rfl (hb hby hd) hl r
theorem Rn.dstore {n : Nat} {v : UInt64} (hd : decode bytes pc = .ok (.dstore n, 2)) (hl : storeLocals Ls n (.double v) = some Ls') (hp : pc + 2 = pc') (k : Rn w Z EL own nm bytes ml ret R hS ws Q os cells slots h pc' Ls' rest) : Rn w Z EL own nm bytes ml ret R hS ws Q os cells slots h pc Ls (.double v :: rest) :=
  k.pure fun p l e s m args below meth c T locs hx hby X hZ hown eT t r => by subst hp; exact XS.dstore X.here hx rfl (hb hby hd) rfl hl r
theorem Rn.dstoreN {n : Fin 4} {v : UInt64} (hd : decode bytes pc = .ok (.dstore_n n, 1)) (hl : storeLocals Ls n.val (.double v) = some Ls') (hp : pc + 1 = pc') (k : Rn w Z EL own nm bytes ml ret R hS ws Q os cells slots h pc' Ls' rest) : Rn w Z EL own nm bytes ml ret R hS ws Q os cells slots h pc Ls (.double v :: rest) :=
  k.pure fun p l e s m args below meth c T locs hx hby X hZ hown eT t r => by subst hp; exact XS.dstoreN X.here hx rfl (hb hby hd) rfl hl r
theorem Rn.aload {n : Nat} {v : Value} (hd : decode bytes pc = .ok (.aload n, 2)) (hl : Ls[n]? = some (.val v)) (hv : v.isRef = true) (hp : pc + 2 = pc') (k : Rn w Z EL own nm bytes ml ret R hS ws Q os cells slots h pc' Ls (v :: rest)) : Rn w Z EL own nm bytes ml ret R hS ws Q os cells slots h pc Ls rest :=
  k.pure fun p l e s m args below meth c T locs hx hby X hZ hown eT t r => by subst hp; exact XS.aload X.here hx rfl (hb hby hd) hl hv r
theorem Rn.aloadN {n : Fin 4} {v : Value} (hd : decode bytes pc = .ok (.aload_n n, 1)) (hl : Ls[n.val]? = some (.val v)) (hv : v.isRef = true) (hp : pc + 1 = pc') (k : Rn w Z EL own nm bytes ml ret R hS ws Q os cells slots h pc' Ls (v :: rest)) : Rn w Z EL own nm bytes ml ret R hS ws Q os cells slots h pc Ls rest :=
  k.pure fun p l e s m args below meth c T locs hx hby X hZ hown eT t r => by subst hp; exact XS.aloadN X.here hx rfl (hb hby hd) hl hv r
theorem Rn.astore {n : Nat} {v : Value} (hd : decode bytes pc = .ok (.astore n, 2)) (hv : v.isRef = true) (hl : storeLocals Ls n v = some Ls') (hp : pc + 2 = pc') (k : Rn w Z EL own nm bytes ml ret R hS ws Q os cells slots h pc' Ls' rest) : Rn w Z EL own nm bytes ml ret R hS ws Q os cells slots h pc Ls (v :: rest) :=
  k.pure fun p l e s m args below meth c T locs hx hby X hZ hown eT t r => by subst hp; exact XS.astore X.here hx rfl (hb hby hd) rfl hv hl r
theorem Rn.astoreN {n : Fin 4} {v : Value} (hd : decode bytes pc = .ok (.astore_n n, 1)) (hv : v.isRef = true) (hl : storeLocals Ls n.val v = some Ls') (hp : pc + 1 = pc') (k : Rn w Z EL own nm bytes ml ret R hS ws Q os cells slots h pc' Ls' rest) : Rn w Z EL own nm bytes ml ret R hS ws Q os cells slots h pc Ls (v :: rest) :=
  k.pure fun p l e s m args below meth c T locs hx hby X hZ hown eT t r => by subst hp; exact XS.astoreN X.here hx rfl (hb hby hd) rfl hv hl r
theorem Rn.iinc {n : Nat} {ct : Int} {x v : Int32} (hd : decode bytes pc = .ok (.iinc n ct, 3)) (hl : Ls[n]? = some (.val (.int x))) (hv : x + Int32.ofInt ct = v) (hl' : storeLocals Ls n (.int v) = some Ls') (hp : pc + 3 = pc') (k : Rn w Z EL own nm bytes ml ret R hS ws Q os cells slots h pc' Ls' rest) : Rn w Z EL own nm bytes ml ret R hS ws Q os cells slots h pc Ls rest :=
  k.pure fun p l e s m args below meth c T locs hx hby X hZ hown eT t r => by subst hp; exact XS.iinc X.here hx rfl (hb hby hd) hl (hv ▸ hl') r
theorem Rn.iadd {x y v : Int32} (hd : decode bytes pc = .ok (.iadd, 1)) (hv : x + y = v) (hp : pc + 1 = pc') (k : Rn w Z EL own nm bytes ml ret R hS ws Q os cells slots h pc' Ls (.int v :: rest)) : Rn w Z EL own nm bytes ml ret R hS ws Q os cells slots h pc Ls (.int y :: .int x :: rest) :=
  k.pure fun p l e s m args below meth c T locs hx hby X hZ hown eT t r => by subst hp; exact XS.iadd X.here hx rfl (hb hby hd) rfl (hv ▸ r)
theorem Rn.isub {x y v : Int32} (hd : decode bytes pc = .ok (.isub, 1)) (hv : x - y = v) (hp : pc + 1 = pc') (k : Rn w Z EL own nm bytes ml ret R hS ws Q os cells slots h pc' Ls (.int v :: rest)) : Rn w Z EL own nm bytes ml ret R hS ws Q os cells slots h pc Ls (.int y :: .int x :: rest) :=
  k.pure fun p l e s m args below meth c T locs hx hby X hZ hown eT t r => by subst hp; exact XS.isub X.here hx rfl (hb hby hd) rfl (hv ▸ r)
theorem Rn.imul {x y v : Int32} (hd : decode bytes pc = .ok (.imul, 1)) (hv : x * y = v) (hp : pc + 1 = pc') (k : Rn w Z EL own nm bytes ml ret R hS ws Q os cells slots h pc' Ls (.int v :: rest)) : Rn w Z EL own nm bytes ml ret R hS ws Q os cells slots h pc Ls (.int y :: .int x :: rest) :=
  k.pure fun p l e s m args below meth c T locs hx hby X hZ hown eT t r => by subst hp; exact XS.imul X.here hx rfl (hb hby hd) rfl (hv ▸ r)
theorem Rn.iand {x y v : Int32} (hd : decode bytes pc = .ok (.iand, 1)) (hv : x &&& y = v) (hp : pc + 1 = pc') (k : Rn w Z EL own nm bytes ml ret R hS ws Q os cells slots h pc' Ls (.int v :: rest)) : Rn w Z EL own nm bytes ml ret R hS ws Q os cells slots h pc Ls (.int y :: .int x :: rest) :=
  k.pure fun p l e s m args below meth c T locs hx hby X hZ hown eT t r => by subst hp; exact XS.iand X.here hx rfl (hb hby hd) rfl (hv ▸ r)
theorem Rn.ior {x y v : Int32} (hd : decode bytes pc = .ok (.ior, 1)) (hv : x ||| y = v) (hp : pc + 1 = pc') (k : Rn w Z EL own nm bytes ml ret R hS ws Q os cells slots h pc' Ls (.int v :: rest)) : Rn w Z EL own nm bytes ml ret R hS ws Q os cells slots h pc Ls (.int y :: .int x :: rest) :=
  k.pure fun p l e s m args below meth c T locs hx hby X hZ hown eT t r => by subst hp; exact XT.ior X.here hx rfl (hb hby hd) rfl (hv ▸ r)
theorem Rn.ixor {x y v : Int32} (hd : decode bytes pc = .ok (.ixor, 1)) (hv : x ^^^ y = v) (hp : pc + 1 = pc') (k : Rn w Z EL own nm bytes ml ret R hS ws Q os cells slots h pc' Ls (.int v :: rest)) : Rn w Z EL own nm bytes ml ret R hS ws Q os cells slots h pc Ls (.int y :: .int x :: rest) :=
  k.pure fun p l e s m args below meth c T locs hx hby X hZ hown eT t r => by subst hp; exact XT.ixor X.here hx rfl (hb hby hd) rfl (hv ▸ r)
theorem Rn.ishl {x y v : Int32} (hd : decode bytes pc = .ok (.ishl, 1)) (hv : x <<< (y &&& 31) = v) (hp : pc + 1 = pc') (k : Rn w Z EL own nm bytes ml ret R hS ws Q os cells slots h pc' Ls (.int v :: rest)) : Rn w Z EL own nm bytes ml ret R hS ws Q os cells slots h pc Ls (.int y :: .int x :: rest) :=
  k.pure fun p l e s m args below meth c T locs hx hby X hZ hown eT t r => by subst hp; exact XT.ishl X.here hx rfl (hb hby hd) rfl (hv ▸ r)
theorem Rn.ishr {x y v : Int32} (hd : decode bytes pc = .ok (.ishr, 1)) (hv : x >>> (y &&& 31) = v) (hp : pc + 1 = pc') (k : Rn w Z EL own nm bytes ml ret R hS ws Q os cells slots h pc' Ls (.int v :: rest)) : Rn w Z EL own nm bytes ml ret R hS ws Q os cells slots h pc Ls (.int y :: .int x :: rest) :=
  k.pure fun p l e s m args below meth c T locs hx hby X hZ hown eT t r => by subst hp; exact XT.ishr X.here hx rfl (hb hby hd) rfl (hv ▸ r)
theorem Rn.iushr {x y v : Int32} (hd : decode bytes pc = .ok (.iushr, 1)) (hv : XT.ushr x y = v) (hp : pc + 1 = pc') (k : Rn w Z EL own nm bytes ml ret R hS ws Q os cells slots h pc' Ls (.int v :: rest)) : Rn w Z EL own nm bytes ml ret R hS ws Q os cells slots h pc Ls (.int y :: .int x :: rest) :=
  k.pure fun p l e s m args below meth c T locs hx hby X hZ hown eT t r => by subst hp; exact XT.iushr X.here hx rfl (hb hby hd) rfl (hv ▸ r)
theorem Rn.idiv {x y v : Int32} (hd : decode bytes pc = .ok (.idiv, 1)) (hy : y ≠ 0) (hv : x / y = v) (hp : pc + 1 = pc') (k : Rn w Z EL own nm bytes ml ret R hS ws Q os cells slots h pc' Ls (.int v :: rest)) : Rn w Z EL own nm bytes ml ret R hS ws Q os cells slots h pc Ls (.int y :: .int x :: rest) :=
  k.pure fun p l e s m args below meth c T locs hx hby X hZ hown eT t r => by subst hp; exact XS.idiv X.here hx rfl (hb hby hd) rfl hy (hv ▸ r)
theorem Rn.irem {x y v : Int32} (hd : decode bytes pc = .ok (.irem, 1)) (hy : y ≠ 0) (hv : x % y = v) (hp : pc + 1 = pc') (k : Rn w Z EL own nm bytes ml ret R hS ws Q os cells slots h pc' Ls (.int v :: rest)) : Rn w Z EL own nm bytes ml ret R hS ws Q os cells slots h pc Ls (.int y :: .int x :: rest) :=
  k.pure fun p l e s m args below meth c T locs hx hby X hZ hown eT t r => by subst hp; exact iremM X hx rfl (hb hby hd) rfl hy (hv ▸ r)
theorem Rn.ineg {x v : Int32} (hd : decode bytes pc = .ok (.ineg, 1)) (hv : -x = v) (hp : pc + 1 = pc') (k : Rn w Z EL own nm bytes ml ret R hS ws Q os cells slots h pc' Ls (.int v :: rest)) : Rn w Z EL own nm bytes ml ret R hS ws Q os cells slots h pc Ls (.int x :: rest) :=
  k.pure fun p l e s m args below meth c T locs hx hby X hZ hown eT t r => by subst hp; exact XS.ineg X.here hx rfl (hb hby hd) rfl (hv ▸ r)
theorem Rn.ladd {x y v : Int64} (hd : decode bytes pc = .ok (.ladd, 1)) (hv : x + y = v) (hp : pc + 1 = pc') (k : Rn w Z EL own nm bytes ml ret R hS ws Q os cells slots h pc' Ls (.long v :: rest)) : Rn w Z EL own nm bytes ml ret R hS ws Q os cells slots h pc Ls (.long y :: .long x :: rest) :=
  k.pure fun p l e s m args below meth c T locs hx hby X hZ hown eT t r => by subst hp; exact XT.ladd X.here hx rfl (hb hby hd) rfl (hv ▸ r)
theorem Rn.lsub {x y v : Int64} (hd : decode bytes pc = .ok (.lsub, 1)) (hv : x - y = v) (hp : pc + 1 = pc') (k : Rn w Z EL own nm bytes ml ret R hS ws Q os cells slots h pc' Ls (.long v :: rest)) : Rn w Z EL own nm bytes ml ret R hS ws Q os cells slots h pc Ls (.long y :: .long x :: rest) :=
  k.pure fun p l e s m args below meth c T locs hx hby X hZ hown eT t r => by subst hp; exact XT.lsub X.here hx rfl (hb hby hd) rfl (hv ▸ r)
theorem Rn.lmul {x y v : Int64} (hd : decode bytes pc = .ok (.lmul, 1)) (hv : x * y = v) (hp : pc + 1 = pc') (k : Rn w Z EL own nm bytes ml ret R hS ws Q os cells slots h pc' Ls (.long v :: rest)) : Rn w Z EL own nm bytes ml ret R hS ws Q os cells slots h pc Ls (.long y :: .long x :: rest) :=
  k.pure fun p l e s m args below meth c T locs hx hby X hZ hown eT t r => by subst hp; exact XT.lmul X.here hx rfl (hb hby hd) rfl (hv ▸ r)
theorem Rn.land {x y v : Int64} (hd : decode bytes pc = .ok (.land, 1)) (hv : x &&& y = v) (hp : pc + 1 = pc') (k : Rn w Z EL own nm bytes ml ret R hS ws Q os cells slots h pc' Ls (.long v :: rest)) : Rn w Z EL own nm bytes ml ret R hS ws Q os cells slots h pc Ls (.long y :: .long x :: rest) :=
  k.pure fun p l e s m args below meth c T locs hx hby X hZ hown eT t r => by subst hp; exact XT.land X.here hx rfl (hb hby hd) rfl (hv ▸ r)
theorem Rn.lor {x y v : Int64} (hd : decode bytes pc = .ok (.lor, 1)) (hv : x ||| y = v) (hp : pc + 1 = pc') (k : Rn w Z EL own nm bytes ml ret R hS ws Q os cells slots h pc' Ls (.long v :: rest)) : Rn w Z EL own nm bytes ml ret R hS ws Q os cells slots h pc Ls (.long y :: .long x :: rest) :=
  k.pure fun p l e s m args below meth c T locs hx hby X hZ hown eT t r => by subst hp; exact XT.lor X.here hx rfl (hb hby hd) rfl (hv ▸ r)
theorem Rn.lxor {x y v : Int64} (hd : decode bytes pc = .ok (.lxor, 1)) (hv : x ^^^ y = v) (hp : pc + 1 = pc') (k : Rn w Z EL own nm bytes ml ret R hS ws Q os cells slots h pc' Ls (.long v :: rest)) : Rn w Z EL own nm bytes ml ret R hS ws Q os cells slots h pc Ls (.long y :: .long x :: rest) :=
  k.pure fun p l e s m args below meth c T locs hx hby X hZ hown eT t r => by subst hp; exact XT.lxor X.here hx rfl (hb hby hd) rfl (hv ▸ r)
theorem Rn.lshl {x v : Int64} {y : Int32} (hd : decode bytes pc = .ok (.lshl, 1)) (hv : x <<< (y.toInt64 &&& 63) = v) (hp : pc + 1 = pc') (k : Rn w Z EL own nm bytes ml ret R hS ws Q os cells slots h pc' Ls (.long v :: rest)) : Rn w Z EL own nm bytes ml ret R hS ws Q os cells slots h pc Ls (.int y :: .long x :: rest) :=
  k.pure fun p l e s m args below meth c T locs hx hby X hZ hown eT t r => by subst hp; exact XT.lshl X.here hx rfl (hb hby hd) rfl (hv ▸ r)
theorem Rn.lshr {x v : Int64} {y : Int32} (hd : decode bytes pc = .ok (.lshr, 1)) (hv : x >>> (y.toInt64 &&& 63) = v) (hp : pc + 1 = pc') (k : Rn w Z EL own nm bytes ml ret R hS ws Q os cells slots h pc' Ls (.long v :: rest)) : Rn w Z EL own nm bytes ml ret R hS ws Q os cells slots h pc Ls (.int y :: .long x :: rest) :=
  k.pure fun p l e s m args below meth c T locs hx hby X hZ hown eT t r => by subst hp; exact XT.lshr X.here hx rfl (hb hby hd) rfl (hv ▸ r)
theorem Rn.lushr {x v : Int64} {y : Int32} (hd : decode bytes pc = .ok (.lushr, 1)) (hv : XT.ushrL x y = v) (hp : pc + 1 = pc') (k : Rn w Z EL own nm bytes ml ret R hS ws Q os cells slots h pc' Ls (.long v :: rest)) : Rn w Z EL own nm bytes ml ret R hS ws Q os cells slots h pc Ls (.int y :: .long x :: rest) :=
  k.pure fun p l e s m args below meth c T locs hx hby X hZ hown eT t r => by subst hp; exact XT.lushr X.here hx rfl (hb hby hd) rfl (hv ▸ r)
theorem Rn.lneg {x v : Int64} (hd : decode bytes pc = .ok (.lneg, 1)) (hv : -x = v) (hp : pc + 1 = pc') (k : Rn w Z EL own nm bytes ml ret R hS ws Q os cells slots h pc' Ls (.long v :: rest)) : Rn w Z EL own nm bytes ml ret R hS ws Q os cells slots h pc Ls (.long x :: rest) :=
  k.pure fun p l e s m args below meth c T locs hx hby X hZ hown eT t r => by subst hp; exact XT.lneg X.here hx rfl (hb hby hd) rfl (hv ▸ r)
theorem Rn.i2l {x : Int32} {v : Int64} (hd : decode bytes pc = .ok (.i2l, 1)) (hv : x.toInt64 = v) (hp : pc + 1 = pc') (k : Rn w Z EL own nm bytes ml ret R hS ws Q os cells slots h pc' Ls (.long v :: rest)) : Rn w Z EL own nm bytes ml ret R hS ws Q os cells slots h pc Ls (.int x :: rest) :=
  k.pure fun p l e s m args below meth c T locs hx hby X hZ hown eT t r => by subst hp; exact XT.i2l X.here hx rfl (hb hby hd) rfl (hv ▸ r)
theorem Rn.l2i {x : Int64} {v : Int32} (hd : decode bytes pc = .ok (.l2i, 1)) (hv : x.toInt32 = v) (hp : pc + 1 = pc') (k : Rn w Z EL own nm bytes ml ret R hS ws Q os cells slots h pc' Ls (.int v :: rest)) : Rn w Z EL own nm bytes ml ret R hS ws Q os cells slots h pc Ls (.long x :: rest) :=
  k.pure fun p l e s m args below meth c T locs hx hby X hZ hown eT t r => by subst hp; exact XT.l2i X.here hx rfl (hb hby hd) rfl (hv ▸ r)
theorem Rn.i2b {x : Int32} {v : Int32} (hd : decode bytes pc = .ok (.i2b, 1)) (hv : x.toInt8.toInt32 = v) (hp : pc + 1 = pc') (k : Rn w Z EL own nm bytes ml ret R hS ws Q os cells slots h pc' Ls (.int v :: rest)) : Rn w Z EL own nm bytes ml ret R hS ws Q os cells slots h pc Ls (.int x :: rest) :=
  k.pure fun p l e s m args below meth c T locs hx hby X hZ hown eT t r => by subst hp; exact XT.i2b X.here hx rfl (hb hby hd) rfl (hv ▸ r)
theorem Rn.i2c {x : Int32} {v : Int32} (hd : decode bytes pc = .ok (.i2c, 1)) (hv : x.toUInt32.toUInt16.toUInt32.toInt32 = v) (hp : pc + 1 = pc') (k : Rn w Z EL own nm bytes ml ret R hS ws Q os cells slots h pc' Ls (.int v :: rest)) : Rn w Z EL own nm bytes ml ret R hS ws Q os cells slots h pc Ls (.int x :: rest) :=
  k.pure fun p l e s m args below meth c T locs hx hby X hZ hown eT t r => by subst hp; exact XT.i2c X.here hx rfl (hb hby hd) rfl (hv ▸ r)
theorem Rn.i2s {x : Int32} {v : Int32} (hd : decode bytes pc = .ok (.i2s, 1)) (hv : x.toInt16.toInt32 = v) (hp : pc + 1 = pc') (k : Rn w Z EL own nm bytes ml ret R hS ws Q os cells slots h pc' Ls (.int v :: rest)) : Rn w Z EL own nm bytes ml ret R hS ws Q os cells slots h pc Ls (.int x :: rest) :=
  k.pure fun p l e s m args below meth c T locs hx hby X hZ hown eT t r => by subst hp; exact XT.i2s X.here hx rfl (hb hby hd) rfl (hv ▸ r)
theorem Rn.i2d {x : Int32} {v : UInt64} (hd : decode bytes pc = .ok (.i2d, 1)) (hv : FP.i2d x = v) (hp : pc + 1 = pc') (k : Rn w Z EL own nm bytes ml ret R hS ws Q os cells slots h pc' Ls (.double v :: rest)) : Rn w Z EL own nm bytes ml ret R hS ws Q os cells slots h pc Ls (.int x :: rest) :=
  k.pure fun p l e s m args below meth c T locs hx hby X hZ hown eT t r => by subst hp; exact XS.i2dS X.here hx rfl (hb hby hd) rfl hv r
theorem Rn.l2d {x : Int64} {v : UInt64} (hd : decode bytes pc = .ok (.l2d, 1)) (hv : FP.l2d x = v) (hp : pc + 1 = pc') (k : Rn w Z EL own nm bytes ml ret R hS ws Q os cells slots h pc' Ls (.double v :: rest)) : Rn w Z EL own nm bytes ml ret R hS ws Q os cells slots h pc Ls (.long x :: rest) :=
  k.pure fun p l e s m args below meth c T locs hx hby X hZ hown eT t r => by subst hp; exact XS.l2dS X.here hx rfl (hb hby hd) rfl hv r
theorem Rn.d2i {x : UInt64} {v : Int32} (hd : decode bytes pc = .ok (.d2i, 1)) (hv : FP.d2i x = v) (hp : pc + 1 = pc') (k : Rn w Z EL own nm bytes ml ret R hS ws Q os cells slots h pc' Ls (.int v :: rest)) : Rn w Z EL own nm bytes ml ret R hS ws Q os cells slots h pc Ls (.double x :: rest) :=
  k.pure fun p l e s m args below meth c T locs hx hby X hZ hown eT t r => by subst hp; exact XS.d2iS X.here hx rfl (hb hby hd) rfl hv r
theorem Rn.d2l {x : UInt64} {v : Int64} (hd : decode bytes pc = .ok (.d2l, 1)) (hv : FP.d2l x = v) (hp : pc + 1 = pc') (k : Rn w Z EL own nm bytes ml ret R hS ws Q os cells slots h pc' Ls (.long v :: rest)) : Rn w Z EL own nm bytes ml ret R hS ws Q os cells slots h pc Ls (.double x :: rest) :=
  k.pure fun p l e s m args below meth c T locs hx hby X hZ hown eT t r => by subst hp; exact XS.d2lS X.here hx rfl (hb hby hd) rfl hv r
theorem Rn.dneg {x : UInt64} {v : UInt64} (hd : decode bytes pc = .ok (.dneg, 1)) (hv : FP.dneg x = v) (hp : pc + 1 = pc') (k : Rn w Z EL own nm bytes ml ret R hS ws Q os cells slots h pc' Ls (.double v :: rest)) : Rn w Z EL own nm bytes ml ret R hS ws Q os cells slots h pc Ls (.double x :: rest) :=
  k.pure fun p l e s m args below meth c T locs hx hby X hZ hown eT t r => by subst hp; exact XS.dnegS X.here hx rfl (hb hby hd) rfl hv r
theorem Rn.dadd {x y v : UInt64} (hd : decode bytes pc = .ok (.dadd, 1)) (hn : Jvm.Free.Fl.NoNaN64 v) (hv : FP.dadd x y = v) (hp : pc + 1 = pc') (k : Rn w Z EL own nm bytes ml ret R hS ws Q os cells slots h pc' Ls (.double v :: rest)) : Rn w Z EL own nm bytes ml ret R hS ws Q os cells slots h pc Ls (.double y :: .double x :: rest) :=
  k.pure fun p l e s m args below meth c T locs hx hby X hZ hown eT t r => by subst hp; exact XS.daddS X.here hx rfl (hb hby hd) rfl (hv.symm ▸ hn) hv r
theorem Rn.dsub {x y v : UInt64} (hd : decode bytes pc = .ok (.dsub, 1)) (hn : Jvm.Free.Fl.NoNaN64 v) (hv : FP.dsub x y = v) (hp : pc + 1 = pc') (k : Rn w Z EL own nm bytes ml ret R hS ws Q os cells slots h pc' Ls (.double v :: rest)) : Rn w Z EL own nm bytes ml ret R hS ws Q os cells slots h pc Ls (.double y :: .double x :: rest) :=
  k.pure fun p l e s m args below meth c T locs hx hby X hZ hown eT t r => by subst hp; exact XS.dsubS X.here hx rfl (hb hby hd) rfl (hv.symm ▸ hn) hv r
theorem Rn.dmul {x y v : UInt64} (hd : decode bytes pc = .ok (.dmul, 1)) (hn : Jvm.Free.Fl.NoNaN64 v) (hv : FP.dmul x y = v) (hp : pc + 1 = pc') (k : Rn w Z EL own nm bytes ml ret R hS ws Q os cells slots h pc' Ls (.double v :: rest)) : Rn w Z EL own nm bytes ml ret R hS ws Q os cells slots h pc Ls (.double y :: .double x :: rest) :=
  k.pure fun p l e s m args below meth c T locs hx hby X hZ hown eT t r => by subst hp; exact XS.dmulS X.here hx rfl (hb hby hd) rfl (hv.symm ▸ hn) hv r
theorem Rn.ddiv {x y v : UInt64} (hd : decode bytes pc = .ok (.ddiv, 1)) (hn : Jvm.Free.Fl.NoNaN64 v) (hv : FP.ddiv x y = v) (hp : pc + 1 = pc') (k : Rn w Z EL own nm bytes ml ret R hS ws Q os cells slots h pc' Ls (.double v :: rest)) : Rn w Z EL own nm bytes ml ret R hS ws Q os cells slots h pc Ls (.double y :: .double x :: rest) :=
  k.pure fun p l e s m args below meth c T locs hx hby X hZ hown eT t r => by subst hp; exact XS.ddivS X.here hx rfl (hb hby hd) rfl (hv.symm ▸ hn) hv r
theorem Rn.dcmp {o : CmpOp} {x y : UInt64} {v : Int32} (hd : decode bytes pc = .ok (.dcmp o, 1)) (hv : cmpValue (FP.dcmp x y) o = v) (hp : pc + 1 = pc') (k : Rn w Z EL own nm bytes ml ret R hS ws Q os cells slots h pc' Ls (.int v :: rest)) : Rn w Z EL own nm bytes ml ret R hS ws Q os cells slots h pc Ls (.double y :: .double x :: rest) :=
  k.pure fun p l e s m args below meth c T locs hx hby X hZ hown eT t r => by subst hp; exact XS.dcmpS X.here hx rfl (hb hby hd) rfl hv r
theorem Rn.lcmp {x y : Int64} {v : Int32} (hd : decode bytes pc = .ok (.lcmp, 1)) (hv : XT.cmpL x y = v) (hp : pc + 1 = pc') (k : Rn w Z EL own nm bytes ml ret R hS ws Q os cells slots h pc' Ls (.int v :: rest)) : Rn w Z EL own nm bytes ml ret R hS ws Q os cells slots h pc Ls (.long y :: .long x :: rest) :=
  k.pure fun p l e s m args below meth c T locs hx hby X hZ hown eT t r => by subst hp; exact XT.lcmp X.here hx rfl (hb hby hd) rfl (hv ▸ r)
theorem Rn.pop {x : Value} (hd : decode bytes pc = .ok (.pop, 1)) (hc : x.category = 1) (hp : pc + 1 = pc') (k : Rn w Z EL own nm bytes ml ret R hS ws Q os cells slots h pc' Ls rest) : Rn w Z EL own nm bytes ml ret R hS ws Q os cells slots h pc Ls (x :: rest) :=
  k.pure fun p l e s m args below meth c T locs hx hby X hZ hown eT t r => by subst hp; exact XT.pop X.here hx rfl (hb hby hd) rfl hc r
theorem Rn.dup {x : Value} (hd : decode bytes pc = .ok (.dup, 1)) (hc : x.category = 1) (hp : pc + 1 = pc') (k : Rn w Z EL own nm bytes ml ret R hS ws Q os cells slots h pc' Ls (x :: x :: rest)) : Rn w Z EL own nm bytes ml ret R hS ws Q os cells slots h pc Ls (x :: rest) :=
  k.pure fun p l e s m args below meth c T locs hx hby X hZ hown eT t r => by subst hp; exact XS.dup X.here hx rfl (hb hby hd) rfl hc r
theorem Rn.dup_x1 {x y : Value} (hd : decode bytes pc = .ok (.dup_x1, 1)) (hc : x.category = 1) (hc' : y.category = 1) (hp : pc + 1 = pc') (k : Rn w Z EL own nm bytes ml ret R hS ws Q os cells slots h pc' Ls (x :: y :: x :: rest)) : Rn w Z EL own nm bytes ml ret R hS ws Q os cells slots h pc Ls (x :: y :: rest) :=
  k.pure fun p l e s m args below meth c T locs hx hby X hZ hown eT t r => by subst hp; exact XT.dupX1 X.here hx rfl (hb hby hd) rfl hc hc' r
theorem Rn.dup2 {x y : Value} (hd : decode bytes pc = .ok (.dup2, 1)) (hc : x.category = 1) (hc' : y.category = 1) (hp : pc + 1 = pc') (k : Rn w Z EL own nm bytes ml ret R hS ws Q os cells slots h pc' Ls (x :: y :: x :: y :: rest)) : Rn w Z EL own nm bytes ml ret R hS ws Q os cells slots h pc Ls (x :: y :: rest) :=
  k.pure fun p l e s m args below meth c T locs hx hby X hZ hown eT t r => by subst hp; exact XT.dup2 X.here hx rfl (hb hby hd) rfl hc hc' r
theorem Rn.goto {o : Int} (hd : decode bytes pc = .ok (.goto o, 3)) (ho : 0 ≤ (pc : Int) + o) (hp : ((pc : Int) + o).toNat = pc') (k : Rn w Z EL own nm bytes ml ret R hS ws Q os cells slots h pc' Ls rest) : Rn w Z EL own nm bytes ml ret R hS ws Q os cells slots h pc Ls rest :=
  k.pure fun p l e s m args below meth c T locs hx hby X hZ hown eT t r => XS.goto X.here hx rfl rfl (hb hby hd) ho hp r
theorem Rn.icmp_eq {x y : Int32} {o : Int} {pn : Nat} (hd : decode bytes pc = .ok (.if_icmp .eq o, 3)) (ho : 0 ≤ (pc : Int) + o) (hp : ((pc : Int) + o).toNat = pc') (hn : pc + 3 = pn) (ky : x = y → Rn w Z EL own nm bytes ml ret R hS ws Q os cells slots h pc' Ls rest) (kn : ¬ x = y → Rn w Z EL own nm bytes ml ret R hS ws Q os cells slots h pn Ls rest) : Rn w Z EL own nm bytes ml ret R hS ws Q os cells slots h pc Ls (.int y :: .int x :: rest) := by
  by_cases q : x = y
  · exact (ky q).pure fun p l e s m args below meth c T locs hx hby X hZ hown eT t r => XS.icmpYes X.here hx rfl rfl (hb hby hd) rfl (teq q).1 ho hp r
  · exact (kn q).pure fun p l e s m args below meth c T locs hx hby X hZ hown eT t r => by subst hn; exact XS.icmpNo X.here hx rfl (hb hby hd) rfl (feq q).1 r
theorem Rn.if_eq {x : Int32} {o : Int} {pn : Nat} (hd : decode bytes pc = .ok (.ifCond .eq o, 3)) (ho : 0 ≤ (pc : Int) + o) (hp : ((pc : Int) + o).toNat = pc') (hn : pc + 3 = pn) (ky : x = 0 → Rn w Z EL own nm bytes ml ret R hS ws Q os cells slots h pc' Ls rest) (kn : ¬ x = 0 → Rn w Z EL own nm bytes ml ret R hS ws Q os cells slots h pn Ls rest) : Rn w Z EL own nm bytes ml ret R hS ws Q os cells slots h pc Ls (.int x :: rest) := by
  by_cases q : x = 0
  · exact (ky q).pure fun p l e s m args below meth c T locs hx hby X hZ hown eT t r => XS.ifYes X.here hx rfl rfl (hb hby hd) rfl (by rw [if0]; exact (teq q).1) ho hp r
  · exact (kn q).pure fun p l e s m args below meth c T locs hx hby X hZ hown eT t r => by subst hn; exact XS.ifNo X.here hx rfl (hb hby hd) rfl (by rw [if0]; exact (feq q).1) r
theorem Rn.icmp_ne {x y : Int32} {o : Int} {pn : Nat} (hd : decode bytes pc = .ok (.if_icmp .ne o, 3)) (ho : 0 ≤ (pc : Int) + o) (hp : ((pc : Int) + o).toNat = pc') (hn : pc + 3 = pn) (ky : ¬ x = y → Rn w Z EL own nm bytes ml ret R hS ws Q os cells slots h pc' Ls rest) (kn : x = y → Rn w Z EL own nm bytes ml ret R hS ws Q os cells slots h pn Ls rest) : Rn w Z EL own nm bytes ml ret R hS ws Q os cells slots h pc Ls (.int y :: .int x :: rest) := by
  by_cases q : x = y
  · exact (kn q).pure fun p l e s m args below meth c T locs hx hby X hZ hown eT t r => by subst hn; exact XS.icmpNo X.here hx rfl (hb hby hd) rfl (teq q).2 r
  · exact (ky q).pure fun p l e s m args below meth c T locs hx hby X hZ hown eT t r => XS.icmpYes X.here hx rfl rfl (hb hby hd) rfl (feq q).2 ho hp r
theorem Rn.if_ne {x : Int32} {o : Int} {pn : Nat} (hd : decode bytes pc = .ok (.ifCond .ne o, 3)) (ho : 0 ≤ (pc : Int) + o) (hp : ((pc : Int) + o).toNat = pc') (hn : pc + 3 = pn) (ky : ¬ x = 0 → Rn w Z EL own nm bytes ml ret R hS ws Q os cells slots h pc' Ls rest) (kn : x = 0 → Rn w Z EL own nm bytes ml ret R hS ws Q os cells slots h pn Ls rest) : Rn w Z EL own nm bytes ml ret R hS ws Q os cells slots h pc Ls (.int x :: rest) := by
  by_cases q : x = 0
  · exact (kn q).pure fun p l e s m args below meth c T locs hx hby X hZ hown eT t r => by subst hn; exact XS.ifNo X.here hx rfl (hb hby hd) rfl (by rw [if0]; exact (teq q).2) r
  · exact (ky q).pure fun p l e s m args below meth c T locs hx hby X hZ hown eT t r => XS.ifYes X.here hx rfl rfl (hb hby hd) rfl (by rw [if0]; exact (feq q).2) ho hp r
theorem Rn.icmp_lt {x y : Int32} {o : Int} {pn : Nat} (hd : decode bytes pc = .ok (.if_icmp .lt o, 3)) (ho : 0 ≤ (pc : Int) + o) (hp : ((pc : Int) + o).toNat = pc') (hn : pc + 3 = pn) (ky : x < y → Rn w Z EL own nm bytes ml ret R hS ws Q os cells slots h pc' Ls rest) (kn : ¬ x < y → Rn w Z EL own nm bytes ml ret R hS ws Q os cells slots h pn Ls rest) : Rn w Z EL own nm bytes ml ret R hS ws Q os cells slots h pc Ls (.int y :: .int x :: rest) := by
  by_cases q : x < y
  · exact (ky q).pure fun p l e s m args below meth c T locs hx hby X hZ hown eT t r => XS.icmpYes X.here hx rfl rfl (hb hby hd) rfl (tlt q).1 ho hp r
  · exact (kn q).pure fun p l e s m args below meth c T locs hx hby X hZ hown eT t r => by subst hn; exact XS.icmpNo X.here hx rfl (hb hby hd) rfl (flt q).1 r
theorem Rn.if_lt {x : Int32} {o : Int} {pn : Nat} (hd : decode bytes pc = .ok (.ifCond .lt o, 3)) (ho : 0 ≤ (pc : Int) + o) (hp : ((pc : Int) + o).toNat = pc') (hn : pc + 3 = pn) (ky : x < 0 → Rn w Z EL own nm bytes ml ret R hS ws Q os cells slots h pc' Ls rest) (kn : ¬ x < 0 → Rn w Z EL own nm bytes ml ret R hS ws Q os cells slots h pn Ls rest) : Rn w Z EL own nm bytes ml ret R hS ws Q os cells slots h pc Ls (.int x :: rest) := by
  by_cases q : x < 0
  · exact (ky q).pure fun p l e s m args below meth c T locs hx hby X hZ hown eT t r => XS.ifYes X.here hx rfl rfl (hb hby hd) rfl (by rw [if0]; exact (tlt q).1) ho hp r
  · exact (kn q).pure fun p l e s m args below meth c T locs hx hby X hZ hown eT t r => by subst hn; exact XS.ifNo X.here hx rfl (hb hby hd) rfl (by rw [if0]; exact (flt q).1) r
theorem Rn.icmp_ge {x y : Int32} {o : Int} {pn : Nat} (hd : decode bytes pc = .ok (.if_icmp .ge o, 3)) (ho : 0 ≤ (pc : Int) + o) (hp : ((pc : Int) + o).toNat = pc') (hn : pc + 3 = pn) (ky : ¬ x < y → Rn w Z EL own nm bytes ml ret R hS ws Q os cells slots h pc' Ls rest) (kn : x < y → Rn w Z EL own nm bytes ml ret R hS ws Q os cells slots h pn Ls rest) : Rn w Z EL own nm bytes ml ret R hS ws Q os cells slots h pc Ls (.int y :: .int x :: rest) := by
  by_cases q : x < y
  · exact (kn q).pure fun p l e s m args below meth c T locs hx hby X hZ hown eT t r => by subst hn; exact XS.icmpNo X.here hx rfl (hb hby hd) rfl (tlt q).2.1 r
  · exact (ky q).pure fun p l e s m args below meth c T locs hx hby X hZ hown eT t r => XS.icmpYes X.here hx rfl rfl (hb hby hd) rfl (flt q).2.1 ho hp r
theorem Rn.if_ge {x : Int32} {o : Int} {pn : Nat} (hd : decode bytes pc = .ok (.ifCond .ge o, 3)) (ho : 0 ≤ (pc : Int) + o) (hp : ((pc : Int) + o).toNat = pc') (hn : pc + 3 = pn) (ky : ¬ x < 0 → Rn w Z EL own nm bytes ml ret R hS ws Q os cells slots h pc' Ls rest) (kn : x < 0 → Rn w Z EL own nm bytes ml ret R hS ws Q os cells slots h pn Ls rest) : Rn w Z EL own nm bytes ml ret R hS ws Q os cells slots h pc Ls (.int x :: rest) := by
  by_cases q : x < 0
  · exact (kn q).pure fun p l e s m args below meth c T locs hx hby X hZ hown eT t r => by subst hn; exact XS.ifNo X.here hx rfl (hb hby hd) rfl (by rw [if0]; exact (tlt q).2.1) r
  · exact (ky q).pure fun p l e s m args below meth c T locs hx hby X hZ hown eT t r => XS.ifYes X.here hx rfl rfl (hb hby hd) rfl (by rw [if0]; exact (flt q).2.1) ho hp r
theorem Rn.icmp_gt {x y : Int32} {o : Int} {pn : Nat} (hd : decode bytes pc = .ok (.if_icmp .gt o, 3)) (ho : 0 ≤ (pc : Int) + o) (hp : ((pc : Int) + o).toNat = pc') (hn : pc + 3 = pn) (ky : y < x → Rn w Z EL own nm bytes ml ret R hS ws Q os cells slots h pc' Ls rest) (kn : ¬ y < x → Rn w Z EL own nm bytes ml ret R hS ws Q os cells slots h pn Ls rest) : Rn w Z EL own nm bytes ml ret R hS ws Q os cells slots h pc Ls (.int y :: .int x :: rest) := by
  by_cases q : y < x
  · exact (ky q).pure fun p l e s m args below meth c T locs hx hby X hZ hown eT t r => XS.icmpYes X.here hx rfl rfl (hb hby hd) rfl (tlt q).2.2.1 ho hp r
  · exact (kn q).pure fun p l e s m args below meth c T locs hx hby X hZ hown eT t r => by subst hn; exact XS.icmpNo X.here hx rfl (hb hby hd) rfl (flt q).2.2.1 r
theorem Rn.if_gt {x : Int32} {o : Int} {pn : Nat} (hd : decode bytes pc = .ok (.ifCond .gt o, 3)) (ho : 0 ≤ (pc : Int) + o) (hp : ((pc : Int) + o).toNat = pc') (hn : pc + 3 = pn) (ky : 0 < x → Rn w Z EL own nm bytes ml ret R hS ws Q os cells slots h pc' Ls rest) (kn : ¬ 0 < x → Rn w Z EL own nm bytes ml ret R hS ws Q os cells slots h pn Ls rest) : Rn w Z EL own nm bytes ml ret R hS ws Q os cells slots h pc Ls (.int x :: rest) := by
  by_cases q : 0 < x
  · exact (ky q).pure fun p l e s m args below meth c T locs hx hby X hZ hown eT t r => XS.ifYes X.here hx rfl rfl (hb hby hd) rfl (by rw [if0]; exact (tlt q).2.2.1) ho hp r
  · exact (kn q).pure fun p l e s m args below meth c T locs hx hby X hZ hown eT t r => by subst hn; exact XS.ifNo X.here hx rfl (hb hby hd) rfl (by rw [if0]; exact (flt q).2.2.1) r
theorem Rn.icmp_le {x y : Int32} {o : Int} {pn : Nat} (hd : decode bytes pc = .ok (.if_icmp .le o, 3)) (ho : 0 ≤ (pc : Int) + o) (hp : ((pc : Int) + o).toNat = pc') (hn : pc + 3 = pn) (ky : ¬ y < x → Rn w Z EL own nm bytes ml ret R hS ws Q os cells slots h pc' Ls rest) (kn : y < x → Rn w Z EL own nm bytes ml ret R hS ws Q os cells slots h pn Ls rest) : Rn w Z EL own nm bytes ml ret R hS ws Q os cells slots h pc Ls (.int y :: .int x :: rest) := by
  by_cases q : y < x
  · exact (kn q).pure fun p l e s m args below meth c T locs hx hby X hZ hown eT t r => by subst hn; exact XS.icmpNo X.here hx rfl (hb hby hd) rfl (tlt q).2.2.2 r
  · exact (ky q).pure fun p l e s m args below meth c T locs hx hby X hZ hown eT t r => XS.icmpYes X.here hx rfl rfl (hb hby hd) rfl (flt q).2.2.2 ho hp r
theorem Rn.if_le {x : Int32} {o : Int} {pn : Nat} (hd : decode bytes pc = .ok (.ifCond .le o, 3)) (ho : 0 ≤ (pc : Int) + o) (hp : ((pc : Int) + o).toNat = pc') (hn : pc + 3 = pn) (ky : ¬ 0 < x → Rn w Z EL own nm bytes ml ret R hS ws Q os cells slots h pc' Ls rest) (kn : 0 < x → Rn w Z EL own nm bytes ml ret R hS ws Q os cells slots h pn Ls rest) : Rn w Z EL own nm bytes ml ret R hS ws Q os cells slots h pc Ls (.int x :: rest) := by
  by_cases q : 0 < x
  · exact (kn q).pure fun p l e s m args below meth c T locs hx hby X hZ hown eT t r => by subst hn; exact XS.ifNo X.here hx rfl (hb hby hd) rfl (by rw [if0]; exact (tlt q).2.2.2) r
  · exact (ky q).pure fun p l e s m args below meth c T locs hx hby X hZ hown eT t r => XS.ifYes X.here hx rfl rfl (hb hby hd) rfl (by rw [if0]; exact (flt q).2.2.2) ho hp r
theorem Rn.ifnull_y {o : Int} (hd : decode bytes pc = .ok (.ifnull o, 3)) (ho : 0 ≤ (pc : Int) + o) (hp : ((pc : Int) + o).toNat = pc') (k : Rn w Z EL own nm bytes ml ret R hS ws Q os cells slots h pc' Ls rest) : Rn w Z EL own nm bytes ml ret R hS ws Q os cells slots h pc Ls (.null :: rest) :=
  k.pure fun p l e s m args below meth c T locs hx hby X hZ hown eT t r => XS.ifnullYes X.here hx rfl rfl (hb hby hd) rfl ho hp r
theorem Rn.ifnull_n {o : Int} {a : Addr} (hd : decode bytes pc = .ok (.ifnull o, 3)) (hn : pc + 3 = pc') (k : Rn w Z EL own nm bytes ml ret R hS ws Q os cells slots h pc' Ls rest) : Rn w Z EL own nm bytes ml ret R hS ws Q os cells slots h pc Ls (.ref a :: rest) :=
  k.pure fun p l e s m args below meth c T locs hx hby X hZ hown eT t r => by subst hn; exact XS.ifnullNo X.here hx rfl (hb hby hd) rfl r
theorem Rn.ifnonnull_y {o : Int} {a : Addr} (hd : decode bytes pc = .ok (.ifnonnull o, 3)) (ho : 0 ≤ (pc : Int) + o) (hp : ((pc : Int) + o).toNat = pc') (k : Rn w Z EL own nm bytes ml ret R hS ws Q os cells slots h pc' Ls rest) : Rn w Z EL own nm bytes ml ret R hS ws Q os cells slots h pc Ls (.ref a :: rest) :=
  k.pure fun p l e s m args below meth c T locs hx hby X hZ hown eT t r => XT.ifnonnullYes X.here hx rfl rfl (hb hby hd) rfl ho hp r
theorem Rn.ifnonnull_n {o : Int} (hd : decode bytes pc = .ok (.ifnonnull o, 3)) (hn : pc + 3 = pc') (k : Rn w Z EL own nm bytes ml ret R hS ws Q os cells slots h pc' Ls rest) : Rn w Z EL own nm bytes ml ret R hS ws Q os cells slots h pc Ls (.null :: rest) :=
  k.pure fun p l e s m args below meth c T locs hx hby X hZ hown eT t r => by subst hn; exact XT.ifnonnullNo X.here hx rfl (hb hby hd) rfl r
theorem Rn.acmp_eq {x y : Value} {o : Int} {pn : Nat} (h1 : x.isRef = true) (h2 : y.isRef = true) (hd : decode bytes pc = .ok (.if_acmp .eq o, 3)) (ho : 0 ≤ (pc : Int) + o) (hp : ((pc : Int) + o).toNat = pc') (hn : pc + 3 = pn) (ky : x = y → Rn w Z EL own nm bytes ml ret R hS ws Q os cells slots h pc' Ls rest) (kn : ¬ x = y → Rn w Z EL own nm bytes ml ret R hS ws Q os cells slots h pn Ls rest) : Rn w Z EL own nm bytes ml ret R hS ws Q os cells slots h pc Ls (y :: x :: rest) := by
  by_cases q : x = y
  · exact (ky q).pure fun p l e s m args below meth c T locs hx hby X hZ hown eT t r => by exact acmp X hx rfl h1 h2 (same := true) rfl (hb hby hd) rfl (by simp [q]) ho (by simp [acV, hp]) r
  · exact (kn q).pure fun p l e s m args below meth c T locs hx hby X hZ hown eT t r => by exact acmp X hx rfl h1 h2 (same := false) rfl (hb hby hd) rfl (by simp [q]) ho (by simp [acV, hn]) r
theorem Rn.acmp_ne {x y : Value} {o : Int} {pn : Nat} (h1 : x.isRef = true) (h2 : y.isRef = true) (hd : decode bytes pc = .ok (.if_acmp .ne o, 3)) (ho : 0 ≤ (pc : Int) + o) (hp : ((pc : Int) + o).toNat = pc') (hn : pc + 3 = pn) (ky : ¬ x = y → Rn w Z EL own nm bytes ml ret R hS ws Q os cells slots h pc' Ls rest) (kn : x = y → Rn w Z EL own nm bytes ml ret R hS ws Q os cells slots h pn Ls rest) : Rn w Z EL own nm bytes ml ret R hS ws Q os cells slots h pc Ls (y :: x :: rest) := by
  by_cases q : x = y
  · exact (kn q).pure fun p l e s m args below meth c T locs hx hby X hZ hown eT t r => by exact acmp X hx rfl h1 h2 (same := true) rfl (hb hby hd) rfl (by simp [q]) ho (by simp [acV, hn]) r
  · exact (ky q).pure fun p l e s m args below meth c T locs hx hby X hZ hown eT t r => by exact acmp X hx rfl h1 h2 (same := false) rfl (hb hby hd) rfl (by simp [q]) ho (by simp [acV, hp]) r
theorem Rn.tsw {dflt low high : Int} {offs : Array Int} {len : Nat} {o : Int} {i : Int32} (hd : decode bytes pc = .ok (.tableswitch dflt low high offs, len)) (hin : ¬ (i.toInt < low ∨ i.toInt > high)) (hoff : offs[(i.toInt - low).toNat]? = some o) (ho : 0 ≤ (pc : Int) + o) (hp : ((pc : Int) + o).toNat = pc') (k : Rn w Z EL own nm bytes ml ret R hS ws Q os cells slots h pc' Ls rest) : Rn w Z EL own nm bytes ml ret R hS ws Q os cells slots h pc Ls (.int i :: rest) :=
  k.pure fun p l e s m args below meth c T locs hx hby X hZ hown eT t r => XS.tswIn X.here hx rfl rfl (hb hby hd) rfl hin hoff ho hp r
theorem Rn.tswD {dflt low high : Int} {offs : Array Int} {len : Nat} {i : Int32} (hd : decode bytes pc = .ok (.tableswitch dflt low high offs, len)) (hout : i.toInt < low ∨ i.toInt > high) (ho : 0 ≤ (pc : Int) + dflt) (hp : ((pc : Int) + dflt).toNat = pc') (k : Rn w Z EL own nm bytes ml ret R hS ws Q os cells slots h pc' Ls rest) : Rn w Z EL own nm bytes ml ret R hS ws Q os cells slots h pc Ls (.int i :: rest) :=
  k.pure fun p l e s m args below meth c T locs hx hby X hZ hown eT t r => XS.tswOut X.here hx rfl rfl (hb hby hd) rfl hout ho hp r
theorem Rn.ldcI {ix : Nat} {v : Int32} (wd : (Jvm.Cond.constant own ix v).before a0 Z = true) (hd : decode bytes pc = .ok (.ldc ix, 2)) (hp : pc + 2 = pc') (k : Rn w Z EL own nm bytes ml ret R hS ws Q os cells slots h pc' Ls (.int v :: rest)) : Rn w Z EL own nm bytes ml ret R hS ws Q os cells slots h pc Ls rest :=
  k.pure fun p l e s m args below meth c T locs hx hby X hZ hown eT t r => by subst hp; exact X.ldcInt hx hown (mvT hZ wd) (g := mkF m pc Ls rest) rfl (hb hby hd) t r
theorem Rn.ldcJ {ix : Nat} {v : Int64} (wd : (Jvm.Cond.constantLong own ix v).before a0 Z = true) (hd : decode bytes pc = .ok (.ldc2_w ix, 3)) (hp : pc + 3 = pc') (k : Rn w Z EL own nm bytes ml ret R hS ws Q os cells slots h pc' Ls (.long v :: rest)) : Rn w Z EL own nm bytes ml ret R hS ws Q os cells slots h pc Ls rest :=
  k.pure fun p l e s m args below meth c T locs hx hby X hZ hown eT t r => by subst hp; exact X.ldc2Long hx hown (mvT hZ wd) (g := mkF m pc Ls rest) rfl (hb hby hd) t r
theorem Rn.ldcD {ix : Nat} {v : UInt64} (wd : (Jvm.Cond.constantDouble own ix v).before a0 Z = true) (hd : decode bytes pc = .ok (.ldc2_w ix, 3)) (hp : pc + 3 = pc') (k : Rn w Z EL own nm bytes ml ret R hS ws Q os cells slots h pc' Ls (.double v :: rest)) : Rn w Z EL own nm bytes ml ret R hS ws Q os cells slots h pc Ls rest :=
  k.pure fun p l e s m args below meth c T locs hx hby X hZ hown eT t r => by subst hp; exact X.ldc2DoubleC hx hown (mvT hZ wd) (g := mkF m pc Ls rest) rfl (hb hby hd) t r
/-- an array and all that it holds -/
def Ax (Z : State) (h : Heap) (a : Addr) (ty : FieldType) (vs : List Value) : Prop := ∃ c : Cell, Arr Z h a c ty ∧ c.slots = vs.toArray ∧ vs.length < 2 ^ 31
section AxFacts
variable {a b : Addr} {ty : FieldType} {vs : List Value} {sl : Nat} {v : Value}
theorem Ax.lt (F : Ax Z h a ty vs) : a < h.size := by obtain ⟨c, A, -⟩ := F; exact A.lt
theorem Ax.ext (F : Ax Z h a ty vs) (E : Ext h h') : Ax Z h' a ty vs := by obtain ⟨c, A, r⟩ := F; exact ⟨c, A.ext E, r⟩
theorem Ax.other (F : Ax Z h b ty vs) (W : Wr h h' a sl v) (q : b ≠ a) : Ax Z h' b ty vs := by obtain ⟨c, A, r⟩ := F; exact ⟨c, A.other W q, r⟩
theorem Ax.keep {ws : List Addr} (F : Ax Z h a ty vs) (K : Keep h h' ws) (q : a ∉ ws) : Ax Z h' a ty vs := by obtain ⟨c, A, r⟩ := F; exact ⟨c, ⟨K.2.1 a c A.1 q, A.2⟩, r⟩
theorem Ax.set (F : Ax Z h a ty vs) (W : Wr h h' a sl v) : Ax Z h' a ty (vs.set sl v) := by
  obtain ⟨c, A, r, q⟩ := F
  refine ⟨_, A.same W, ?_, by simpa using q⟩
  simp [Cell.setSlot, r]
theorem Ax.new {cA : ClassId} {n : Int32} (A : Arr Z h a (newA cA ty n) ty) (q : ¬ n < 0) : Ax Z h a ty (List.replicate n.toNatClampNeg (defaultValue ty)) := by
  refine ⟨_, A, ?_, by simpa using (back32 q).2⟩
  simp [newA]
theorem Ax.sf {w : Bool} {EL : List (String × Nat)} {os : List Addr} (F : Ax Z h a ty vs) (ht : ty ≠ .byte) : Sf w Z EL os h a := by obtain ⟨c, A, -⟩ := F; exact Sf.arr A ht
theorem Ax.arv {d : Value} (F : Ax Z h a ty vs) (hf : ∀ x ∈ vs, fits ty x = true) (n : Int32) (hn : n.toNatClampNeg = vs.length) (h0 : ¬ n < 0) : ∃ k, Arv Z h a k ty n vs d := by
  obtain ⟨c, A, r, q⟩ := F
  refine ⟨c.cls, c, A, rfl, by simp [r, hn], h0, fun k hk => ?_, fun i hi => ?_⟩
  · have : k < vs.length := by simpa [r] using hk
    simp [r, this]
  · have : i < vs.length := by simpa [r] using hi
    simp only [List.getD_eq_getElem?_getD, List.getElem?_eq_getElem this, Option.getD_some]
    exact hf _ (List.getElem_mem this)
theorem Ax.ofArv {k : ClassId} {n : Int32} {d : Value} (F : Arv Z h a k ty n vs d) (hl : vs.length = n.toNatClampNeg) : Ax Z h a ty vs := by
  obtain ⟨c, A, -, S, N, H, -⟩ := F
  refine ⟨c, A, ?_, by rw [hl]; exact (back32 N).2⟩
  apply Array.ext_getElem?
  intro i
  by_cases q : i < c.slots.size
  · have q2 : i < vs.length := by rw [hl, ← S]; exact q
    rw [H i q]; simp [q2]
  · have q2 : ¬ i < vs.length := by rw [hl, ← S]; exact q
    rw [Array.getElem?_eq_none (Nat.le_of_not_lt q)]; simp [Nat.le_of_not_lt q2]
theorem Ax.at {j : Int32} (c : Cell) (r : c.slots = vs.toArray) (h0 : ¬ j < 0) (hv : vs[j.toNatClampNeg]? = some v) : ¬ (j < 0 ∨ c.slots.size ≤ j.toNatClampNeg) ∧ c.slots[j.toNatClampNeg]? = some v := by
  have q := (List.getElem?_eq_some_iff.mp hv).1
  refine ⟨fun z => z.elim h0 fun z => ?_, by simpa [r] using hv⟩
  simp [r] at z; omega
end AxFacts
theorem Rn.iaload {a : Addr} {vs : List Value} {j : Int32} {v : Value} (A : Ax Z h a .int vs) (h0 : ¬ j < 0) (hv : vs[j.toNatClampNeg]? = some v) (hd : decode bytes pc = .ok (.iaload, 1)) (hp : pc + 1 = pc') (k : Rn w Z EL own nm bytes ml ret R hS ws Q os cells slots h pc' Ls (v :: rest)) : Rn w Z EL own nm bytes ml ret R hS ws Q os cells slots h pc Ls (.int j :: .ref a :: rest) := by
  obtain ⟨cl, Ar, r1, -⟩ := A
  obtain ⟨q1, q2⟩ := Ax.at cl r1 h0 hv
  exact k.pure fun p l e s m args below meth c T locs hx hby X hZ hown eT t r => by subst hp; exact X.iaload hx (j := j) (v := v) (by rw [eT]; exact Ar.1) (State.isArrayOf_alike hZ.alike Ar.2.1) Ar.2.2 q1 q2 (g := mkF m pc Ls (.int j :: .ref a :: rest)) rfl rfl (hb hby hd) t r
theorem Rn.caload {a : Addr} {vs : List Value} {j : Int32} {v : Value} (A : Ax Z h a .char vs) (h0 : ¬ j < 0) (hv : vs[j.toNatClampNeg]? = some v) (hd : decode bytes pc = .ok (.caload, 1)) (hp : pc + 1 = pc') (k : Rn w Z EL own nm bytes ml ret R hS ws Q os cells slots h pc' Ls (v :: rest)) : Rn w Z EL own nm bytes ml ret R hS ws Q os cells slots h pc Ls (.int j :: .ref a :: rest) := by
  obtain ⟨cl, Ar, r1, -⟩ := A
  obtain ⟨q1, q2⟩ := Ax.at cl r1 h0 hv
  exact k.pure fun p l e s m args below meth c T locs hx hby X hZ hown eT t r => by subst hp; exact X.caload hx (j := j) (v := v) (by rw [eT]; exact Ar.1) (State.isArrayOf_alike hZ.alike Ar.2.1) Ar.2.2 q1 q2 (g := mkF m pc Ls (.int j :: .ref a :: rest)) rfl rfl (hb hby hd) t r
theorem Rn.laload {a : Addr} {vs : List Value} {j : Int32} {v : Value} (A : Ax Z h a .long vs) (h0 : ¬ j < 0) (hv : vs[j.toNatClampNeg]? = some v) (hd : decode bytes pc = .ok (.laload, 1)) (hp : pc + 1 = pc') (k : Rn w Z EL own nm bytes ml ret R hS ws Q os cells slots h pc' Ls (v :: rest)) : Rn w Z EL own nm bytes ml ret R hS ws Q os cells slots h pc Ls (.int j :: .ref a :: rest) := by
  obtain ⟨cl, Ar, r1, -⟩ := A
  obtain ⟨q1, q2⟩ := Ax.at cl r1 h0 hv
  exact k.pure fun p l e s m args below meth c T locs hx hby X hZ hown eT t r => by subst hp; exact X.laload hx (j := j) (v := v) (by rw [eT]; exact Ar.1) (State.isArrayOf_alike hZ.alike Ar.2.1) Ar.2.2 q1 q2 (g := mkF m pc Ls (.int j :: .ref a :: rest)) rfl rfl (hb hby hd) t r
theorem Rn.baload {a : Addr} {vs : List Value} {j : Int32} {v : Value} (A : Ax Z h a .byte vs) (h0 : ¬ j < 0) (hv : vs[j.toNatClampNeg]? = some v) (hd : decode bytes pc = .ok (.baload, 1)) (hp : pc + 1 = pc') (k : Rn w Z EL own nm bytes ml ret R hS ws Q os cells slots h pc' Ls (v :: rest)) : Rn w Z EL own nm bytes ml ret R hS ws Q os cells slots h pc Ls (.int j :: .ref a :: rest) := by
  obtain ⟨cl, Ar, r1, -⟩ := A
  obtain ⟨q1, q2⟩ := Ax.at cl r1 h0 hv
  exact k.pure fun p l e s m args below meth c T locs hx hby X hZ hown eT t r => by subst hp; exact X.baloadBytes hx (j := j) (v := v) (by rw [eT]; exact Ar.1) (State.isArrayOf_alike hZ.alike Ar.2.1) Ar.2.2 q1 q2 (g := mkF m pc Ls (.int j :: .ref a :: rest)) rfl rfl (hb hby hd) t r
theorem Rn.daload {a : Addr} {vs : List Value} {j : Int32} {v : Value} (A : Ax Z h a .double vs) (h0 : ¬ j < 0) (hv : vs[j.toNatClampNeg]? = some v) (hd : decode bytes pc = .ok (.daload, 1)) (hp : pc + 1 = pc') (k : Rn w Z EL own nm bytes ml ret R hS ws Q os cells slots h pc' Ls (v :: rest)) : Rn w Z EL own nm bytes ml ret R hS ws Q os cells slots h pc Ls (.int j :: .ref a :: rest) := by
  obtain ⟨cl, Ar, r1, -⟩ := A
  obtain ⟨q1, q2⟩ := Ax.at cl r1 h0 hv
  exact k.pure fun p l e s m args below meth c T locs hx hby X hZ hown eT t r => by subst hp; exact X.daload hx (j := j) (v := v) (by rw [eT]; exact Ar.1) (State.isArrayOf_alike hZ.alike Ar.2.1) Ar.2.2 q1 q2 (g := mkF m pc Ls (.int j :: .ref a :: rest)) rfl rfl (hb hby hd) t r
theorem Rn.saload {a : Addr} {vs : List Value} {j : Int32} {v : Value} (A : Ax Z h a .short vs) (h0 : ¬ j < 0) (hv : vs[j.toNatClampNeg]? = some v) (hd : decode bytes pc = .ok (.saload, 1)) (hp : pc + 1 = pc') (k : Rn w Z EL own nm bytes ml ret R hS ws Q os cells slots h pc' Ls (v :: rest)) : Rn w Z EL own nm bytes ml ret R hS ws Q os cells slots h pc Ls (.int j :: .ref a :: rest) := by
  obtain ⟨cl, Ar, r1, -⟩ := A
  obtain ⟨q1, q2⟩ := Ax.at cl r1 h0 hv
  exact k.pure fun p l e s m args below meth c T locs hx hby X hZ hown eT t r => by subst hp; exact X.saload hx (j := j) (v := v) (by rw [eT]; exact Ar.1) (State.isArrayOf_alike hZ.alike Ar.2.1) Ar.2.2 q1 q2 (g := mkF m pc Ls (.int j :: .ref a :: rest)) rfl rfl (hb hby hd) t r
theorem Rn.aaload {a : Addr} {ty : FieldType} {vs : List Value} {j : Int32} {v : Value} (A : Ax Z h a ty vs) (ht : ty.isReference = true) (h0 : ¬ j < 0) (hv : vs[j.toNatClampNeg]? = some v) (hd : decode bytes pc = .ok (.aaload, 1)) (hp : pc + 1 = pc') (k : Rn w Z EL own nm bytes ml ret R hS ws Q os cells slots h pc' Ls (v :: rest)) : Rn w Z EL own nm bytes ml ret R hS ws Q os cells slots h pc Ls (.int j :: .ref a :: rest) := by
  obtain ⟨cl, Ar, r1, -⟩ := A
  obtain ⟨q1, q2⟩ := Ax.at cl r1 h0 hv
  exact k.pure fun p l e s m args below meth c T locs hx hby X hZ hown eT t r => by subst hp; exact X.aaload hx (j := j) (v := v) (by rw [eT]; exact Ar.1) (State.isArrayOf_alike hZ.alike Ar.2.1) ht Ar.2.2 q1 q2 (g := mkF m pc Ls (.int j :: .ref a :: rest)) rfl rfl (hb hby hd) t r
theorem Rn.arraylength {a : Addr} {ty : FieldType} {vs : List Value} {n : Int32} (A : Ax Z h a ty vs) (hn : vs.length.toInt32 = n) (hd : decode bytes pc = .ok (.arraylength, 1)) (hp : pc + 1 = pc') (k : Rn w Z EL own nm bytes ml ret R hS ws Q os cells slots h pc' Ls (.int n :: rest)) : Rn w Z EL own nm bytes ml ret R hS ws Q os cells slots h pc Ls (.ref a :: rest) := by
  obtain ⟨cl, Ar, r1, -⟩ := A
  have e1 : cl.slots.size.toInt32 = n := by rw [r1, ← hn]; simp
  exact k.pure fun p l e s m args below meth c T locs hx hby X hZ hown eT t r => by subst hp; exact X.arraylength hx (by rw [eT]; exact Ar.1) (State.isArrayOf_alike hZ.alike Ar.2.1) (g := mkF m pc Ls (.ref a :: rest)) rfl rfl (hb hby hd) t (by rw [e1]; exact r)
theorem Rn.iastore {a : Addr} {vs : List Value} {j : Int32} {x : Int32} {v : Value} (A : Ax Z h a .int vs) (h0 : ¬ j < 0) (hi : j.toNatClampNeg < vs.length) (hv : (.int x : Value) = v) (q : a ∈ ws ∨ hS.size ≤ a) (sf : Sf w Z EL os h a) (hd : decode bytes pc = .ok (.iastore, 1)) (hp : pc + 1 = pc') (k : ∀ h', Wr h h' a j.toNatClampNeg v → Ax Z h' a .int (vs.set j.toNatClampNeg v) → Rn w Z EL own nm bytes ml ret R hS ws Q os cells slots h' pc' Ls rest) : Rn w Z EL own nm bytes ml ret R hS ws Q os cells slots h pc Ls (.int x :: .int j :: .ref a :: rest) := by
  obtain ⟨cl, Ar, r1, -⟩ := id A
  have q1 : ¬ (j < 0 ∨ cl.slots.size ≤ j.toNatClampNeg) := fun z => z.elim h0 fun z => by simp [r1] at z; omega
  subst hv
  exact Rn.wrote q sf (fun h' W => k h' W (A.set W)) fun p l e s m args below meth c T locs hx hby hnm X hZ hown eT => by subst hp; exact stI X hx hZ eT Ar q1 (g := mkF m pc Ls (.int x :: .int j :: .ref a :: rest)) rfl rfl (hb hby hd)
theorem Rn.lastore {a : Addr} {vs : List Value} {j : Int32} {x : Int64} {v : Value} (A : Ax Z h a .long vs) (h0 : ¬ j < 0) (hi : j.toNatClampNeg < vs.length) (hv : (.long x : Value) = v) (q : a ∈ ws ∨ hS.size ≤ a) (sf : Sf w Z EL os h a) (hd : decode bytes pc = .ok (.lastore, 1)) (hp : pc + 1 = pc') (k : ∀ h', Wr h h' a j.toNatClampNeg v → Ax Z h' a .long (vs.set j.toNatClampNeg v) → Rn w Z EL own nm bytes ml ret R hS ws Q os cells slots h' pc' Ls rest) : Rn w Z EL own nm bytes ml ret R hS ws Q os cells slots h pc Ls (.long x :: .int j :: .ref a :: rest) := by
  obtain ⟨cl, Ar, r1, -⟩ := id A
  have q1 : ¬ (j < 0 ∨ cl.slots.size ≤ j.toNatClampNeg) := fun z => z.elim h0 fun z => by simp [r1] at z; omega
  subst hv
  exact Rn.wrote q sf (fun h' W => k h' W (A.set W)) fun p l e s m args below meth c T locs hx hby hnm X hZ hown eT => by subst hp; exact stJ X hx hZ eT Ar q1 (g := mkF m pc Ls (.long x :: .int j :: .ref a :: rest)) rfl rfl (hb hby hd)
theorem Rn.dastore {a : Addr} {vs : List Value} {j : Int32} {x : UInt64} {v : Value} (A : Ax Z h a .double vs) (h0 : ¬ j < 0) (hi : j.toNatClampNeg < vs.length) (hv : (.double x : Value) = v) (q : a ∈ ws ∨ hS.size ≤ a) (sf : Sf w Z EL os h a) (hd : decode bytes pc = .ok (.dastore, 1)) (hp : pc + 1 = pc') (k : ∀ h', Wr h h' a j.toNatClampNeg v → Ax Z h' a .double (vs.set j.toNatClampNeg v) → Rn w Z EL own nm bytes ml ret R hS ws Q os cells slots h' pc' Ls rest) : Rn w Z EL own nm bytes ml ret R hS ws Q os cells slots h pc Ls (.double x :: .int j :: .ref a :: rest) := by
  obtain ⟨cl, Ar, r1, -⟩ := id A
  have q1 : ¬ (j < 0 ∨ cl.slots.size ≤ j.toNatClampNeg) := fun z => z.elim h0 fun z => by simp [r1] at z; omega
  subst hv
  exact Rn.wrote q sf (fun h' W => k h' W (A.set W)) fun p l e s m args below meth c T locs hx hby hnm X hZ hown eT => by subst hp; exact stD X hx hZ eT Ar q1 (g := mkF m pc Ls (.double x :: .int j :: .ref a :: rest)) rfl rfl (hb hby hd)
theorem Rn.castore {a : Addr} {vs : List Value} {j : Int32} {x : Int32} {v : Value} (A : Ax Z h a .char vs) (h0 : ¬ j < 0) (hi : j.toNatClampNeg < vs.length) (hv : (.int (nar .char x) : Value) = v) (q : a ∈ ws ∨ hS.size ≤ a) (sf : Sf w Z EL os h a) (hd : decode bytes pc = .ok (.castore, 1)) (hp : pc + 1 = pc') (k : ∀ h', Wr h h' a j.toNatClampNeg v → Ax Z h' a .char (vs.set j.toNatClampNeg v) → Rn w Z EL own nm bytes ml ret R hS ws Q os cells slots h' pc' Ls rest) : Rn w Z EL own nm bytes ml ret R hS ws Q os cells slots h pc Ls (.int x :: .int j :: .ref a :: rest) := by
  obtain ⟨cl, Ar, r1, -⟩ := id A
  have q1 : ¬ (j < 0 ∨ cl.slots.size ≤ j.toNatClampNeg) := fun z => z.elim h0 fun z => by simp [r1] at z; omega
  subst hv
  exact Rn.wrote q sf (fun h' W => k h' W (A.set W)) fun p l e s m args below meth c T locs hx hby hnm X hZ hown eT => by subst hp; exact stC X hx hZ eT Ar q1 (g := mkF m pc Ls (.int x :: .int j :: .ref a :: rest)) rfl rfl (hb hby hd)
theorem Rn.bastore {a : Addr} {vs : List Value} {j : Int32} {x : Int32} {v : Value} (A : Ax Z h a .byte vs) (h0 : ¬ j < 0) (hi : j.toNatClampNeg < vs.length) (hv : (.int (nar .byte x) : Value) = v) (q : a ∈ ws ∨ hS.size ≤ a) (sf : Sf w Z EL os h a) (hd : decode bytes pc = .ok (.bastore, 1)) (hp : pc + 1 = pc') (k : ∀ h', Wr h h' a j.toNatClampNeg v → Ax Z h' a .byte (vs.set j.toNatClampNeg v) → Rn w Z EL own nm bytes ml ret R hS ws Q os cells slots h' pc' Ls rest) : Rn w Z EL own nm bytes ml ret R hS ws Q os cells slots h pc Ls (.int x :: .int j :: .ref a :: rest) := by
  obtain ⟨cl, Ar, r1, -⟩ := id A
  have q1 : ¬ (j < 0 ∨ cl.slots.size ≤ j.toNatClampNeg) := fun z => z.elim h0 fun z => by simp [r1] at z; omega
  subst hv
  exact Rn.wrote q sf (fun h' W => k h' W (A.set W)) fun p l e s m args below meth c T locs hx hby hnm X hZ hown eT => by subst hp; exact stB X hx hZ eT Ar q1 (g := mkF m pc Ls (.int x :: .int j :: .ref a :: rest)) rfl rfl (hb hby hd)
theorem Rn.aastore {a : Addr} {ty : FieldType} {vs : List Value} {j : Int32} {v : Value} (A : Ax Z h a ty vs) (ht : ty.isReference = true) (F : Sto Z h a v) (h0 : ¬ j < 0) (hi : j.toNatClampNeg < vs.length) (hv : v.isRef = true) (q : a ∈ ws ∨ hS.size ≤ a) (sf : Sf w Z EL os h a) (hd : decode bytes pc = .ok (.aastore, 1)) (hp : pc + 1 = pc') (k : ∀ h', Wr h h' a j.toNatClampNeg v → Ax Z h' a ty (vs.set j.toNatClampNeg v) → Rn w Z EL own nm bytes ml ret R hS ws Q os cells slots h' pc' Ls rest) : Rn w Z EL own nm bytes ml ret R hS ws Q os cells slots h pc Ls (v :: .int j :: .ref a :: rest) := by
  obtain ⟨cl, Ar, r1, -⟩ := id A
  have q1 : ¬ (j < 0 ∨ cl.slots.size ≤ j.toNatClampNeg) := fun z => z.elim h0 fun z => by simp [r1] at z; omega
  exact Rn.wrote q sf (fun h' W => k h' W (A.set W)) fun p l e s m args below meth c T locs hx hby hnm X hZ hown eT => by subst hp; exact stR X hx hZ eT Ar q1 ht F (g := mkF m pc Ls (v :: .int j :: .ref a :: rest)) rfl rfl (hb hby hd)
end Steps
section Objs
variable {w : Bool} {Z : State} {EL : List (String × Nat)} {own nm : String} {bytes : ByteArray} {ml : Nat} {ret : Option FieldType} {R : Room} {hS : Heap} {ws : List Addr} {Q : Option Value → Heap → Prop} {os : List Addr} {cells slots : Nat} {h h' : Heap} {pc pc' : Nat} {Ls Ls' : Array Slot} {rest : List Value} {a0 : Array Value}
theorem Rn.getF {ix : Nat} {R0 O n d host : String} {a : Addr} {v : Value} (wd : (Jvm.Cond.fieldLink own ix R0 n d).before a0 Z = true ∨ (Jvm.Cond.fieldLinkNest own ix R0 n d host).before a0 Z = true) (via : Via Z R0 O n d) (F : Fld Z h a O n d v) (hd : decode bytes pc = .ok (.getfield ix, 3)) (hp : pc + 3 = pc') (k : Rn w Z EL own nm bytes ml ret R hS ws Q os cells slots h pc' Ls (v :: rest)) : Rn w Z EL own nm bytes ml ret R hS ws Q os cells slots h pc Ls (.ref a :: rest) :=
  k.note fun p l e s m args below meth c T locs hx hby hml X hZ hown eT => by subst hp; exact Jvm.RoadKit.getF X hx hZ hown wd via eT F (g := mkF m pc Ls (.ref a :: rest)) rfl rfl (hb hby hd)
theorem Rn.getS {ix : Nat} {R0 O n d : String} {v : Value} (wd : (Jvm.Cond.fieldLink own ix R0 n d).before a0 Z = true) (via : Via Z R0 O n d) (F : Sta Z h O n d v) (hd : decode bytes pc = .ok (.getstatic ix, 3)) (hp : pc + 3 = pc') (k : Rn w Z EL own nm bytes ml ret R hS ws Q os cells slots h pc' Ls (v :: rest)) : Rn w Z EL own nm bytes ml ret R hS ws Q os cells slots h pc Ls rest :=
  k.note fun p l e s m args below meth c T locs hx hby hml X hZ hown eT => by subst hp; exact Jvm.RoadKit.getS X hx hZ hown (host := "") wd via eT F (g := mkF m pc Ls rest) rfl (hb hby hd)
theorem Rn.putF {ix kk : Nat} {R0 O n d C : String} {ty : FieldType} {a : Addr} {v old : Value} (wd : (Jvm.Cond.fieldLink own ix R0 n d).before a0 Z = true) (via : Via Z R0 O n d) (F : Fld Z h a O n d old) (E : Exa Z h a C) (L : (Jvm.Cond.lays C O n d).before a0 Z = true ∨ ((Jvm.Cond.laysFinal C O n d).before a0 Z = true ∧ own = O ∧ nm = "<init>")) (wi : (Jvm.Cond.instantiable C kk).before a0 Z = true)
    (hty : parseFieldDescriptor d = some ty) (hn : narrow ty v = v) (hf : fits ty v = true) (q : a ∈ ws ∨ hS.size ≤ a) (sf : Sf w Z EL os h a) (hd : decode bytes pc = .ok (.putfield ix, 3)) (hp : pc + 3 = pc') (k : ∀ h', Wr h h' a (Jvm.RoadKit.slotOf Z O n d) v → Rn w Z EL own nm bytes ml ret R hS ws Q os cells slots h' pc' Ls rest) : Rn w Z EL own nm bytes ml ret R hS ws Q os cells slots h pc Ls (v :: .ref a :: rest) :=
  Rn.wrote q sf k fun p l e s m args below meth c T locs hx hby hnm X hZ hown eT => by
    subst hp
    exact Jvm.RoadKit.putF X hx hZ hown (host := "") (Or.inl wd) via eT F E (L.imp id fun z => ⟨z.1, z.2.1, hnm.trans z.2.2⟩) wi hty hn hf (g := mkF m pc Ls (v :: .ref a :: rest)) rfl rfl (hb hby hd)
theorem Rn.newO {ix n : Nat} {C : String} (w1 : (Jvm.Cond.classLink own ix C).before a0 Z = true) (w2 : (Jvm.Cond.instantiable C n).before a0 Z = true) (w3 : (Jvm.Cond.initialized C).before a0 Z = true) (hd : decode bytes pc = .ok (.new ix, 3)) (hc : cells + 1 ≤ R.cells) (hs : slots + n ≤ R.slots) (hp : pc + 3 = pc')
    (k : ∀ h' a, a = h.size → hS.size ≤ a → Ext h h' → (Exa Z h' a C ∧ (∀ {O nm d : String} {ty : FieldType}, Laid Z a0 C O nm d → parseFieldDescriptor d = some ty → Fld Z h' a O nm d (defaultValue ty)) ∧ (∃ cell : Cell, h'[a]? = some cell ∧ cell.vm = .none ∧ cell.monitor = {})) → Rn w Z EL own nm bytes ml ret R hS ws Q (a :: os) (cells + 1) (slots + n) h' pc' Ls (.ref a :: rest)) : Rn w Z EL own nm bytes ml ret R hS ws Q os cells slots h pc Ls rest :=
  Rn.made (G := fun h' a => Exa Z h' a C ∧ (∀ {O nm d : String} {ty : FieldType}, Laid Z a0 C O nm d → parseFieldDescriptor d = some ty → Fld Z h' a O nm d (defaultValue ty)) ∧ (∃ cell : Cell, h'[a]? = some cell ∧ cell.vm = .none ∧ cell.monitor = {})) (st' := fun a => .ref a :: rest) (st := fun _ => rest) k (fun h' g => g.1.lt) fun p l e s m args below meth c T locs hx hby X hZ hown eT => by
    subst hp
    obtain ⟨T', h', X', e', E, A, D, U, st⟩ := Jvm.RoadKit.newO X hx hZ hown w1 w2 w3 eT (g := mkF m pc Ls rest) rfl (hb hby hd) hc hs
    exact ⟨T', h', X', e', E, ⟨A, D, U⟩, st⟩
theorem Rn.newP {aty : ArrayType} {n : Int32} {cap : Nat} {ty : FieldType} {ad : String} (wd : (Jvm.Cond.arrayClass ty).before a0 Z = true) (hty : newarray.typeOf aty = ty) (had : "[" ++ ty.toString = ad) (hd : decode bytes pc = .ok (.newarray aty, 2)) (hn : ¬ n < 0) (hcap : n.toNatClampNeg ≤ cap) (hb8 : cap * 8 ≤ 536870912) (hc : cells + 1 ≤ R.cells) (hs : slots + cap ≤ R.slots) (hp : pc + 2 = pc')
    (k : ∀ h' a, a = h.size → hS.size ≤ a → Ext h h' → (Ax Z h' a ty (List.replicate n.toNatClampNeg (defaultValue ty)) ∧ Exa Z h' a ad) → Rn w Z EL own nm bytes ml ret R hS ws Q (a :: os) (cells + 1) (slots + cap) h' pc' Ls (.ref a :: rest)) : Rn w Z EL own nm bytes ml ret R hS ws Q os cells slots h pc Ls (.int n :: rest) := by
  subst hty
  refine Rn.made (G := fun h' a => Ax Z h' a (newarray.typeOf aty) (List.replicate n.toNatClampNeg (defaultValue (newarray.typeOf aty))) ∧ Exa Z h' a ad) (st' := fun a => .ref a :: rest) (st := fun _ => rest) k (fun h' g => g.1.lt) fun p l e s m args below meth c T locs hx hby X hZ hown eT => ?_
  subst hp
  obtain ⟨T', h', cA, X', e', E, A, B, st⟩ := Jvm.RoadKit.newPE X hx hZ wd eT (g := mkF m pc Ls (.int n :: rest)) rfl (hb hby hd) rfl hn hcap hb8 hc hs had
  exact ⟨T', h', X', e', E, ⟨Ax.new A hn, B⟩, st⟩
theorem Rn.castY {ix : Nat} {K : String} {a : Addr} (wd : (Jvm.Cond.classLink own ix K).before a0 Z = true) (F : Ins Z h a K true) (hd : decode bytes pc = .ok (.checkcast ix, 3)) (hp : pc + 3 = pc') (k : Rn w Z EL own nm bytes ml ret R hS ws Q os cells slots h pc' Ls (.ref a :: rest)) : Rn w Z EL own nm bytes ml ret R hS ws Q os cells slots h pc Ls (.ref a :: rest) :=
  k.note fun p l e s m args below meth c T locs hx hby hml X hZ hown eT => by subst hp; exact Jvm.RoadKit.castY X hx hZ hown wd eT F (g := mkF m pc Ls (.ref a :: rest)) rfl rfl (hb hby hd)
theorem Rn.instY {ix : Nat} {K : String} {a : Addr} (wd : (Jvm.Cond.classLink own ix K).before a0 Z = true) (F : Ins Z h a K true) (hd : decode bytes pc = .ok (.instanceof ix, 3)) (hp : pc + 3 = pc') (k : Rn w Z EL own nm bytes ml ret R hS ws Q os cells slots h pc' Ls (.int 1 :: rest)) : Rn w Z EL own nm bytes ml ret R hS ws Q os cells slots h pc Ls (.ref a :: rest) :=
  k.note fun p l e s m args below meth c T locs hx hby hml X hZ hown eT => by subst hp; exact Jvm.RoadKit.instY X hx hZ hown wd eT F (g := mkF m pc Ls (.ref a :: rest)) rfl rfl (hb hby hd)
theorem Rn.instNo {ix : Nat} {K C : String} {a : Addr} (wd : (Jvm.Cond.classLink own ix K).before a0 Z = true) (E : Exa Z h a C) (F : ∃ c t, Z.vm.findClass C = some c ∧ Z.vm.findClass K = some t ∧ Z.vm.assignable c t = false) (hd : decode bytes pc = .ok (.instanceof ix, 3)) (hp : pc + 3 = pc') (k : Rn w Z EL own nm bytes ml ret R hS ws Q os cells slots h pc' Ls (.int 0 :: rest)) : Rn w Z EL own nm bytes ml ret R hS ws Q os cells slots h pc Ls (.ref a :: rest) :=
  k.note fun p l e s m args below meth c T locs hx hby hml X hZ hown eT => by subst hp; exact Jvm.RoadKit.instNo X hx hZ hown wd eT E F (g := mkF m pc Ls (.ref a :: rest)) rfl rfl (hb hby hd)
theorem Rn.initO {ix : Nat} {a : Addr} (w1 : (Jvm.Cond.methodLink own ix Lib.objectInit).before a0 Z = true) (w2 : (Jvm.Cond.instanceMethod Lib.objectInit).before a0 Z = true) (w3 : (Jvm.Cond.code Lib.objectInit ⟨#[0xb1]⟩ 1 none).before a0 Z = true) (hsz : Ls.size = ml) (hd : decode bytes pc = .ok (.invokespecial ix, 3)) (hf : 1 ≤ R.frames) (hl : (rest.map fun v => v.category).sum + 12 ≤ R.locals) (hp : pc + 3 = pc') (k : Rn w Z EL own nm bytes ml ret R hS ws Q os cells slots h pc' Ls rest) : Rn w Z EL own nm bytes ml ret R hS ws Q os cells slots h pc Ls (.ref a :: rest) :=
  k.note fun p l e s m args below meth c T locs hx hby hml X hZ hown eT => by subst hp; exact Jvm.RoadKit.initO X hx hZ hown w1 w2 w3 eT (g := mkF m pc Ls (.ref a :: rest)) rfl (hsz.trans hml.symm) rfl (hb hby hd) hf (W := (rest.map fun v => v.category).sum) (by show 2 * 0 + _ ≤ _; omega) hl
/-! ### contracts -/
/-- the contract of a method, in a walk that loads no literal: called with as over the heap h it returns as Q says and writes nothing but cells at ws and cells of its own -/
def Ct (Z : State) (y : MethodName) (bytes : ByteArray) (ml : Nat) (ret : Option FieldType) (rm : Room) (as : Array Value) (h : Heap) (ws : List Addr) (Q : Option Value → Heap → Prop) : Prop :=
  Ext Z.heap h → (∀ x ∈ ws, Z.heap.size ≤ x) → ∀ l, MetFree l y (head1 [Jvm.Cond.code y bytes ml ret] rm) (fun a U => a = as ∧ Z.Warmed39 U.vm ∧ U.heap = h) (fun _ _ _ _ _ => True) (fun _ U o U' => ∃ v L, o = .returned v ∧ (Fr Z.heap.size L ∧ Keep h U'.heap ws ∧ Q v U'.heap) ∧ FrameEnd U o U' L rm.cells rm.slots)
theorem met_of {wsT : List Jvm.Cond} {cls d : String} {as : Array Value} (pn : plainName cls = true) (ef : ∀ m, entryFrame m as ml = mkF m 0 Ls []) (hO : Ext Z.heap h) (hW : ∀ x ∈ ws, Z.heap.size ≤ x) (l : Launch) (k : Rn false Z [] cls nm bytes ml ret R h ws Q [] 0 0 h 0 Ls []) :
    MetFree l ⟨cls, nm, d⟩ (head1 (Jvm.Cond.code ⟨cls, nm, d⟩ bytes ml ret :: wsT) R) (fun a U => a = as ∧ Z.Warmed39 U.vm ∧ U.heap = h) (fun _ _ _ _ _ => True) (fun _ U o U' => ∃ v L, o = .returned v ∧ (Fr Z.heap.size L ∧ Keep h U'.heap ws ∧ Q v U'.heap) ∧ FrameEnd U o U' L R.cells R.slots) := by
  refine MetFree.of_bodySF (plainFor_of_name pn) hisR ?_
  intro p e s m args below meth c s₁ Bd hml0 hP hK
  obtain ⟨rfl, hZ, hh⟩ := hP
  have g := k p l e s s.vm m args below meth c s₁ [] ⟨Bd.exec, Bd.bytes, hml0, hZ, findClass_of_methodNamed Bd.named, (name_of_methodNamed Bd.named Bd.method).1, Bd.returns, Bd.notSynchronized⟩ (Stand.of_body Bd) rfl (Fr.nil _) (Keep.refl _ _) ⟨hO, hW⟩ (by rw [← hh, Bd.state]; rfl)
  obtain ⟨s₂, o, h1, h2, h3, h4⟩ := g
  exact ⟨s₂, o, castTop (ef m) h1, h2, h3, h4⟩
theorem Ct.intro {cls d : String} {as : Array Value} (pn : plainName cls = true) (ef : ∀ m, entryFrame m as ml = mkF m 0 Ls []) (k : Rn false Z [] cls nm bytes ml ret R h ws Q [] 0 0 h 0 Ls []) : Ct Z ⟨cls, nm, d⟩ bytes ml ret R as h ws Q :=
  fun hO hW l => met_of pn ef hO hW l k
theorem Ct.weaken {y : MethodName} {as : Array Value} {Q' : Option Value → Heap → Prop} (C : Ct Z y bytes ml ret R as h ws Q) (q : ∀ v h', Keep h h' ws → Q v h' → Q' v h') : Ct Z y bytes ml ret R as h ws Q' := by
  intro hO hW l p e ha hc hk s m args below hf happ hP hK
  obtain ⟨n, o, h1, h2, h3, v, L, h4, ⟨h5, h6, h7⟩, h8⟩ := C hO hW l p e ha hc hk s m args below hf happ hP hK
  exact ⟨n, o, h1, h2, h3, v, L, h4, ⟨h5, h6, q v _ h6 h7⟩, h8⟩
/-- behind a call by a plain contract -/
theorem Rn.called {st : List Value} {ws' : List Addr} {Q' : Option Value → Heap → Prop} {rm : Room} (hws : ∀ x ∈ ws', x ∈ ws ∨ hS.size ≤ x) (hsf : ∀ x ∈ ws', Sf w Z EL os h x)
    (k : ∀ v h', Keep h h' ws' → Q' v h' → Rn w Z EL own nm bytes ml ret R hS ws Q os (cells + rm.cells) (slots + rm.slots) h' pc' Ls (v.toList ++ rest))
    (f : ∀ (p : Program) (l : Launch) (e : Env) (s : State) (m : MethodId) (args : Array Value) (below : List Frame) (meth : Method) (c : Code) (T : State) (locs : List Loc), p.tables.exec = Jvm.exec → c.code = bytes → c.maxLocals = ml → Stand p l e R s m args below meth c T locs cells slots → Z.Warmed39 s.vm → s.vm.findClass own = some m.cls → T.heap = h → Ext Z.heap h → (∀ x ∈ ws', Z.heap.size ≤ x) →
      ∃ (v : Option Value) (B : Pt), Stand p l e R s m args below meth c B.U B.locs B.cells B.slots ∧ (∃ L, (Fr Z.heap.size L ∧ Keep h B.U.heap ws' ∧ Q' v B.U.heap) ∧ B.locs = locs ++ L ∧ B.cells = cells + rm.cells ∧ B.slots = slots + rm.slots) ∧ ∀ t, Steps p.tables e below (B.U.setTop (mkF m pc' Ls (v.toList ++ rest))) t → Steps p.tables e below (T.setTop (mkF m pc Ls st)) t) :
    Rn w Z EL own nm bytes ml ret R hS ws Q os cells slots h pc Ls st := by
  intro p l e s vm0 m args below meth c T locs ok X sn fr K O eT
  have X0 : Old Z Z.heap.size h := Old.keep (h := hS) ⟨rfl, O.1⟩ K O.2
  obtain ⟨v, ⟨U, L', c', s'⟩, X', ⟨L, ⟨f1, K', q'⟩, e1, e2, e3⟩, stp⟩ := f p l e _ m args below meth c T locs ok.1 ok.2.1 ok.2.2.1 X ok.2.2.2.1 ok.2.2.2.2.1 eT X0.2 (fun x hx => ge_of O (hws x hx))
  dsimp only [Pt.U, Pt.locs, Pt.cells, Pt.slots] at X' K' q' e1 e2 e3 stp
  subst e1 e2 e3
  exact (k v U.heap K' q' p l e s vm0 m args below meth c U _ ok X' (sn.keep ok.2.2.2.1 K' hsf) (fr.app f1) (K.trans K' hws) O rfl).pre stp
theorem Rn.callS {ix : Nat} {y : MethodName} {yb : ByteArray} {yl : Nat} {yr : Option FieldType} {rm : Room} {as : Array Value} {ws' : List Addr} {Q' : Option Value → Heap → Prop} {argsL : List Value} {st : List Value}
    (C : Ct Z y yb yl yr rm as h ws' Q') (w1 : (Jvm.Cond.methodLink own ix y).before a0 Z = true) (w2 : (Jvm.Cond.static y).before a0 Z = true) (w3 : (Jvm.Cond.initialized y.cls).before a0 Z = true) (w4 : (Jvm.Cond.code y yb yl yr).before a0 Z = true) (hy : y.cls ≠ "java/lang/invoke/MethodHandle" ∧ y.cls ≠ "java/lang/invoke/VarHandle")
    (hst : st = argsL.reverse ++ rest) (has : argsL.toArray = as) (hlen : ∀ sig, parseMethodDescriptor y.desc = some sig → argsL.length = sig.parameters.length) (hsz : Ls.size = ml) (hd : decode bytes pc = .ok (.invokestatic ix, 3)) (hp : pc + 3 = pc')
    (hf : rm.frames + 1 ≤ R.frames) (hl : (rest.map fun v => v.category).sum + (yl + 11) + rm.locals ≤ R.locals) (hc : cells + rm.cells ≤ R.cells) (hs : slots + rm.slots ≤ R.slots) (hws : ∀ x ∈ ws', x ∈ ws ∨ hS.size ≤ x) (hsf : ∀ x ∈ ws', Sf w Z EL os h x)
    (k : ∀ v h', Keep h h' ws' → Q' v h' → Rn w Z EL own nm bytes ml ret R hS ws Q os (cells + rm.cells) (slots + rm.slots) h' pc' Ls (v.toList ++ rest)) : Rn w Z EL own nm bytes ml ret R hS ws Q os cells slots h pc Ls st := by
  refine Rn.called hws hsf k fun p l e s m args below meth c T locs hx hby hml X hZ hown eT hO hge => ?_
  obtain ⟨v, vm1, B, -, X', ⟨L, q⟩, stp⟩ := Jvm.LawKit.callS X hx (y := y) hown (mvT hZ w1) (mvT hZ w2) (mvT hZ w3) (mvT hZ w4) hy (backOf (W := (rest.map fun v => v.category).sum) (Q := fun v h2 L => Fr Z.heap.size L ∧ Keep h h2 ws' ∧ Q' v h2) (C hO hge l) hZ w4 w3 hf hl) (g := mkF m pc Ls st) rfl (hsz.trans hml.symm) (argsL := argsL) (rest := rest) hlen hst (by show 2 * 0 + _ ≤ _; omega) (hb hby hd) (fun _ _ => ⟨has, eT, hc, hs⟩)
  subst hp
  exact ⟨v, B, X', ⟨L, q⟩, stp⟩
theorem Rn.callI {ix : Nat} {y : MethodName} {yb : ByteArray} {yl : Nat} {rm : Room} {as : Array Value} {ws' : List Addr} {Q' : Option Value → Heap → Prop} {a : Addr} {argsL : List Value} {st : List Value}
    (C : Ct Z y yb yl none rm as h ws' Q') (hy1 : y.name = "<init>") (w1 : (Jvm.Cond.methodLink own ix y).before a0 Z = true) (w2 : (Jvm.Cond.instanceMethod y).before a0 Z = true) (w3 : (Jvm.Cond.initialized y.cls).before a0 Z = true) (w4 : (Jvm.Cond.code y yb yl none).before a0 Z = true) (hy : y.cls ≠ "java/lang/invoke/MethodHandle" ∧ y.cls ≠ "java/lang/invoke/VarHandle")
    (hst : st = argsL.reverse ++ .ref a :: rest) (has : (.ref a :: argsL).toArray = as) (hlen : ∀ sig, parseMethodDescriptor y.desc = some sig → argsL.length = sig.parameters.length) (hsz : Ls.size = ml) (hd : decode bytes pc = .ok (.invokespecial ix, 3)) (hp : pc + 3 = pc')
    (hf : rm.frames + 1 ≤ R.frames) (hl : (rest.map fun v => v.category).sum + (yl + 11) + rm.locals ≤ R.locals) (hc : cells + rm.cells ≤ R.cells) (hs : slots + rm.slots ≤ R.slots) (hws : ∀ x ∈ ws', x ∈ ws ∨ hS.size ≤ x) (hsf : ∀ x ∈ ws', Sf w Z EL os h x)
    (k : ∀ v h', Keep h h' ws' → Q' v h' → Rn w Z EL own nm bytes ml ret R hS ws Q os (cells + rm.cells) (slots + rm.slots) h' pc' Ls (v.toList ++ rest)) : Rn w Z EL own nm bytes ml ret R hS ws Q os cells slots h pc Ls st := by
  refine Rn.called hws hsf k fun p l e s m args below meth c T locs hx hby hml X hZ hown eT hO hge => ?_
  obtain ⟨v, vm1, B, -, X', ⟨L, q⟩, stp⟩ := X.specialBack hx (y := y) hy1 hown (mvT hZ w1) (mvT hZ w2) (mvT hZ w4) hy (backOf (W := (rest.map fun v => v.category).sum) (Q := fun v h2 L => Fr Z.heap.size L ∧ Keep h h2 ws' ∧ Q' v h2) (C hO hge l) hZ w4 w3 hf hl) (g := mkF m pc Ls st) rfl (hsz.trans hml.symm) (Steps.refl _) (a := a) (argsL := argsL) (rest := rest) hlen hst (by show 2 * 0 + _ ≤ _; omega) (hb hby hd) (fun _ _ => ⟨has, eT, hc, hs⟩)
  subst hp
  exact ⟨v, B, X', ⟨L, q⟩, fun t r => stp.trans r⟩
theorem Rn.callV {ix : Nat} {C0 : String} {y z : MethodName} {yb : ByteArray} {yl : Nat} {yr : Option FieldType} {rm : Room} {as : Array Value} {ws' : List Addr} {Q' : Option Value → Heap → Prop} {a : Addr} {argsL : List Value} {st : List Value}
    (C : Ct Z z yb yl yr rm as h ws' Q') (E : Exa Z h a C0) (w1 : (Jvm.Cond.methodLink own ix y).before a0 Z = true) (w2 : (Jvm.Cond.declares y).before a0 Z = true) (nf : ∀ s : State, Z.Warmed39 s.vm → NotFace s y) (w5 : (Jvm.Cond.selects C0 y z).before a0 Z = true) (w6 : (Jvm.Cond.instanceMethod z).before a0 Z = true) (w3 : (Jvm.Cond.initialized z.cls).before a0 Z = true) (w4 : (Jvm.Cond.code z yb yl yr).before a0 Z = true) (hy : y.cls ≠ "java/lang/invoke/MethodHandle" ∧ y.cls ≠ "java/lang/invoke/VarHandle")
    (hst : st = argsL.reverse ++ .ref a :: rest) (has : (.ref a :: argsL).toArray = as) (hlen : ∀ sig, parseMethodDescriptor y.desc = some sig → argsL.length = sig.parameters.length) (hsz : Ls.size = ml) (hd : decode bytes pc = .ok (.invokevirtual ix, 3)) (hp : pc + 3 = pc')
    (hf : rm.frames + 1 ≤ R.frames) (hl : (rest.map fun v => v.category).sum + (yl + 11) + rm.locals ≤ R.locals) (hc : cells + rm.cells ≤ R.cells) (hs : slots + rm.slots ≤ R.slots) (hws : ∀ x ∈ ws', x ∈ ws ∨ hS.size ≤ x) (hsf : ∀ x ∈ ws', Sf w Z EL os h x)
    (k : ∀ v h', Keep h h' ws' → Q' v h' → Rn w Z EL own nm bytes ml ret R hS ws Q os (cells + rm.cells) (slots + rm.slots) h' pc' Ls (v.toList ++ rest)) : Rn w Z EL own nm bytes ml ret R hS ws Q os cells slots h pc Ls st := by
  refine Rn.called hws hsf k fun p l e s m args below meth c T locs hx hby hml X hZ hown eT hO hge => ?_
  obtain ⟨cq, kq, qa, qb, qc⟩ := isOf hZ eT E
  obtain ⟨v, vm1, B, -, X', ⟨L, q⟩, stp⟩ := X.virtualBack hx (y := y) (z := z) hown (mvT hZ w1) (mvT hZ w2) (nf s hZ) (mvT hZ w5) (mvT hZ w6) hy (backOf (W := (rest.map fun v => v.category).sum) (Q := fun v h2 L => Fr Z.heap.size L ∧ Keep h h2 ws' ∧ Q' v h2) (C hO hge l) hZ w4 w3 hf hl) qa qc (g := mkF m pc Ls st) rfl (hsz.trans hml.symm) (Steps.refl _) (argsL := argsL) (rest := rest) hlen hst (by show 2 * 0 + _ ≤ _; omega) (hb hby hd) (fun _ _ => ⟨has, eT, hc, hs⟩)
  subst hp
  exact ⟨v, B, X', ⟨L, q⟩, fun t r => stp.trans r⟩
end Objs
section Objs2
variable {w : Bool} {Z : State} {EL : List (String × Nat)} {own nm : String} {bytes : ByteArray} {ml : Nat} {ret : Option FieldType} {R : Room} {hS : Heap} {ws : List Addr} {Q : Option Value → Heap → Prop} {os : List Addr} {cells slots : Nat} {h h' : Heap} {pc pc' : Nat} {Ls Ls' : Array Slot} {rest : List Value} {a0 : Array Value}
theorem Rn.callU {ix : Nat} {C0 owner : String} {y z : MethodName} {yb : ByteArray} {yl : Nat} {yr : Option FieldType} {rm : Room} {as : Array Value} {ws' : List Addr} {Q' : Option Value → Heap → Prop} {a : Addr} {argsL : List Value} {st : List Value}
    (C : Ct Z z yb yl yr rm as h ws' Q') (E : Exa Z h a C0) (w1 : (Jvm.Cond.methodLink own ix y).before a0 Z = true) (w2 : (Jvm.Cond.sameMethod y.cls owner y.name y.desc).before a0 Z = true) (w7 : (Jvm.Cond.declares ⟨owner, y.name, y.desc⟩).before a0 Z = true) (hy : owner ≠ "java/lang/invoke/MethodHandle" ∧ owner ≠ "java/lang/invoke/VarHandle") (w5 : (Jvm.Cond.selects C0 y z).before a0 Z = true) (w6 : (Jvm.Cond.instanceMethod z).before a0 Z = true) (w3 : (Jvm.Cond.initialized z.cls).before a0 Z = true) (w4 : (Jvm.Cond.code z yb yl yr).before a0 Z = true)
    (hst : st = argsL.reverse ++ .ref a :: rest) (has : (.ref a :: argsL).toArray = as) (hlen : ∀ sig, parseMethodDescriptor y.desc = some sig → argsL.length = sig.parameters.length) (hsz : Ls.size = ml) (hd : decode bytes pc = .ok (.invokevirtual ix, 3)) (hp : pc + 3 = pc')
    (hf : rm.frames + 1 ≤ R.frames) (hl : (rest.map fun v => v.category).sum + (yl + 11) + rm.locals ≤ R.locals) (hc : cells + rm.cells ≤ R.cells) (hs : slots + rm.slots ≤ R.slots) (hws : ∀ x ∈ ws', x ∈ ws ∨ hS.size ≤ x) (hsf : ∀ x ∈ ws', Sf w Z EL os h x)
    (k : ∀ v h', Keep h h' ws' → Q' v h' → Rn w Z EL own nm bytes ml ret R hS ws Q os (cells + rm.cells) (slots + rm.slots) h' pc' Ls (v.toList ++ rest)) : Rn w Z EL own nm bytes ml ret R hS ws Q os cells slots h pc Ls st := by
  refine Rn.called hws hsf k fun p l e s m args below meth c T locs hx hby hml X hZ hown eT hO hge => ?_
  obtain ⟨cq, kq, qa, qb, qc⟩ := isOf hZ eT E
  obtain ⟨v, vm1, B, -, X', ⟨L, q⟩, stp⟩ := X.virtualBackUp hx (x := y) (y := z) hown (mvT hZ w1) (mvT hZ w2) (mvT hZ w7) hy (mvT hZ w5) (mvT hZ w6) (backOf (W := (rest.map fun v => v.category).sum) (Q := fun v h2 L => Fr Z.heap.size L ∧ Keep h h2 ws' ∧ Q' v h2) (C hO hge l) hZ w4 w3 hf hl) qa qc (g := mkF m pc Ls st) rfl (hsz.trans hml.symm) (Steps.refl _) (argsL := argsL) (rest := rest) hlen hst (by show 2 * 0 + _ ≤ _; omega) (hb hby hd) (fun _ _ => ⟨has, eT, hc, hs⟩)
  subst hp
  exact ⟨v, B, X', ⟨L, q⟩, fun t r => stp.trans r⟩
end Objs2
section Objs3
variable {w : Bool} {Z : State} {EL : List (String × Nat)} {own nm : String} {bytes : ByteArray} {ml : Nat} {ret : Option FieldType} {R : Room} {hS : Heap} {ws : List Addr} {Q : Option Value → Heap → Prop} {os : List Addr} {cells slots : Nat} {h h' : Heap} {pc pc' : Nat} {Ls Ls' : Array Slot} {rest : List Value} {a0 : Array Value}
theorem Rn.instNull {ix : Nat} (hd : decode bytes pc = .ok (.instanceof ix, 3)) (hp : pc + 3 = pc') (k : Rn w Z EL own nm bytes ml ret R hS ws Q os cells slots h pc' Ls (.int 0 :: rest)) : Rn w Z EL own nm bytes ml ret R hS ws Q os cells slots h pc Ls (.null :: rest) :=
  k.pure fun p l e s m args below meth c T locs hx hby X hZ hown eT t r => by subst hp; exact Jvm.Stand.instanceofNull X hx (g := mkF m pc Ls (.null :: rest)) rfl rfl (hb hby hd) t r
theorem Rn.castNull {ix : Nat} (hd : decode bytes pc = .ok (.checkcast ix, 3)) (hp : pc + 3 = pc') (k : Rn w Z EL own nm bytes ml ret R hS ws Q os cells slots h pc' Ls (.null :: rest)) : Rn w Z EL own nm bytes ml ret R hS ws Q os cells slots h pc Ls (.null :: rest) :=
  k.pure fun p l e s m args below meth c T locs hx hby X hZ hown eT t r => by subst hp; exact Jvm.Stand.checkcastNull X hx (g := mkF m pc Ls (.null :: rest)) rfl rfl (hb hby hd) t r
theorem ni_of {C C0 : String} {y z : MethodName} (w5 : (Jvm.Cond.selects C y z).before a0 Z = true) (e : z.cls = C0) (s : State) (hZ : Z.Warmed39 s.vm) : ∃ c k, s.vm.findClass C0 = some c ∧ s.vm.classes[c]? = some k ∧ k.isInterface = false := by
  subst e
  obtain ⟨c2, r2, m2, -, -, q3, -, kP, hkP, hkPi⟩ := Cond.selects_spec (mvT (args := #[]) (s := s) hZ w5)
  exact ⟨_, kP, findClass_of_methodNamed q3, hkP, hkPi⟩
theorem Rn.callP {ix : Nat} {C0 : String} {y : MethodName} {yb : ByteArray} {yl : Nat} {yr : Option FieldType} {rm : Room} {as : Array Value} {ws' : List Addr} {Q' : Option Value → Heap → Prop} {a : Addr} {argsL : List Value} {st : List Value}
    (C : Ct Z y yb yl yr rm as h ws' Q') (E : Exa Z h a C0) (w1 : (Jvm.Cond.methodLink own ix y).before a0 Z = true) (w6 : (Jvm.Cond.instanceMethod y).before a0 Z = true) (w7 : (Jvm.Cond.privateMethod y).before a0 Z = true) (ni : ∀ s : State, Z.Warmed39 s.vm → ∃ c k, s.vm.findClass y.cls = some c ∧ s.vm.classes[c]? = some k ∧ k.isInterface = false) (w3 : (Jvm.Cond.initialized y.cls).before a0 Z = true) (w4 : (Jvm.Cond.code y yb yl yr).before a0 Z = true) (hy : y.cls ≠ "java/lang/invoke/MethodHandle" ∧ y.cls ≠ "java/lang/invoke/VarHandle")
    (hst : st = argsL.reverse ++ .ref a :: rest) (has : (.ref a :: argsL).toArray = as) (hlen : ∀ sig, parseMethodDescriptor y.desc = some sig → argsL.length = sig.parameters.length) (hsz : Ls.size = ml) (hd : decode bytes pc = .ok (.invokevirtual ix, 3)) (hp : pc + 3 = pc')
    (hf : rm.frames + 1 ≤ R.frames) (hl : (rest.map fun v => v.category).sum + (yl + 11) + rm.locals ≤ R.locals) (hc : cells + rm.cells ≤ R.cells) (hs : slots + rm.slots ≤ R.slots) (hws : ∀ x ∈ ws', x ∈ ws ∨ hS.size ≤ x) (hsf : ∀ x ∈ ws', Sf w Z EL os h x)
    (k : ∀ v h', Keep h h' ws' → Q' v h' → Rn w Z EL own nm bytes ml ret R hS ws Q os (cells + rm.cells) (slots + rm.slots) h' pc' Ls (v.toList ++ rest)) : Rn w Z EL own nm bytes ml ret R hS ws Q os cells slots h pc Ls st := by
  refine Rn.called hws hsf k fun p l e s m args below meth c T locs hx hby hml X hZ hown eT hO hge => ?_
  obtain ⟨cl, e1, e2⟩ := E.cell
  obtain ⟨c9, k9, z1, z2, z3⟩ := ni s hZ
  have hpv : s.PrivateAt y := Cond.privateMethod_at (mvP (args := #[]) hZ w7)
  have hin : (Jvm.Cond.instanceMethod y).before args s = true := mvT hZ w6
  have hsel : (Jvm.Cond.selects y.cls y y).before args s = true := selects_self_of_private z1 z2 z3 hpv hin hy
  obtain ⟨v, vm1, B, -, X', ⟨L, q⟩, stp⟩ := X.privateBack hx (y := y) hown (mvT hZ w1) hin hsel hpv (mvT hZ w4) hy (backOf (W := (rest.map fun v => v.category).sum) (Q := fun v h2 L => Fr Z.heap.size L ∧ Keep h h2 ws' ∧ Q' v h2) (C hO hge l) hZ w4 w3 hf hl) (g := mkF m pc Ls st) rfl (hsz.trans hml.symm) (Steps.refl _) (a := a) (cell := cl) (by rw [eT]; exact e1) e2 (argsL := argsL) (rest := rest) hlen hst (by show 2 * 0 + _ ≤ _; omega) (hb hby hd) (fun _ _ => ⟨has, eT, hc, hs⟩)
  subst hp
  exact ⟨v, B, X', ⟨L, q⟩, fun t r => stp.trans r⟩
/-- 'anewarray' of an array type -/
theorem Rn.newRA {ix : Nat} {n : Int32} {cap : Nat} {ty : FieldType} {C ad : String} (w1 : (Jvm.Cond.classLink own ix C).before a0 Z = true) (w2 : (Jvm.Cond.arrayOver (.array ty)).before a0 Z = true) (hC : (FieldType.array ty).toString = C) (had : "[" ++ C = ad) (hd : decode bytes pc = .ok (.anewarray ix, 3)) (hn : ¬ n < 0) (hcap : n.toNatClampNeg ≤ cap) (hb8 : cap * 8 ≤ 536870912) (hc : cells + 1 ≤ R.cells) (hs : slots + cap ≤ R.slots) (hp : pc + 3 = pc')
    (k : ∀ h' a, a = h.size → hS.size ≤ a → Ext h h' → (Ax Z h' a (.array ty) (List.replicate n.toNatClampNeg .null) ∧ Exa Z h' a ad ∧ ∀ y, ∀ {h2 : Heap} {vs : List Value}, Ax Z h2 a (.array ty) vs → (∃ cl, h2[a]? = some cl ∧ ∃ cl', h'[a]? = some cl' ∧ cl.cls = cl'.cls) → Ins Z h2 y C true → Sto Z h2 a (.ref y)) → Rn w Z EL own nm bytes ml ret R hS ws Q (a :: os) (cells + 1) (slots + cap) h' pc' Ls (.ref a :: rest)) : Rn w Z EL own nm bytes ml ret R hS ws Q os cells slots h pc Ls (.int n :: rest) := by
  refine Rn.made (G := fun h' a => Ax Z h' a (.array ty) (List.replicate n.toNatClampNeg .null) ∧ Exa Z h' a ad ∧ ∀ y, ∀ {h2 : Heap} {vs : List Value}, Ax Z h2 a (.array ty) vs → (∃ cl, h2[a]? = some cl ∧ ∃ cl', h'[a]? = some cl' ∧ cl.cls = cl'.cls) → Ins Z h2 y C true → Sto Z h2 a (.ref y)) (st' := fun a => .ref a :: rest) (st := fun _ => rest) k (fun h' g => g.1.lt) fun p l e s m args below meth c T locs hx hby X hZ hown eT => ?_
  subst hp
  obtain ⟨T', h', cA, X', e', E, A, B, O, st⟩ := Jvm.RoadKit.newRA X hx hZ hown hC w1 w2 eT (g := mkF m pc Ls (.int n :: rest)) rfl (hb hby hd) rfl hn hcap hb8 hc hs had
  refine ⟨T', h', X', e', E, ⟨Ax.new A hn, B, fun y h2 vs A2 ⟨cl, q1, cl', q2, q3⟩ I => ?_⟩, st⟩
  obtain ⟨c2, A3, -⟩ := A2
  cases q1.symm.trans A3.1
  cases q2.symm.trans A.1
  exact Sto.ofVA A3 q3 O I
/-- 'System.arraycopy' between arrays of one primitive type (or one array and itself) -/
theorem Rn.arraycopy {ix : Nat} {a b : Addr} {ty : FieldType} {vs vd vs' : List Value} {sp dp nn : Int32} (A : Ax Z h a ty vs) (B : Ax Z h b ty vd) (fa : ∀ x ∈ vs, fits ty x = true) (fb : ∀ x ∈ vd, fits ty x = true) (hty : refKind ty = false)
    (w1 : (Jvm.Cond.methodLink own ix Jvm.Stand.acN).before a0 Z = true) (w2 : (Jvm.Cond.native Jvm.Stand.acN).before a0 Z = true) (w3 : (Jvm.Cond.static Jvm.Stand.acN).before a0 Z = true) (w4 : (Jvm.Cond.initialized "java/lang/System").before a0 Z = true)
    (h1 : ¬ sp < 0) (h2 : ¬ dp < 0) (h3 : ¬ nn < 0) (h4 : sp.toNatClampNeg + nn.toNatClampNeg ≤ vs.length) (h5 : dp.toNatClampNeg + nn.toNatClampNeg ≤ vd.length)
    (hv : vd.take dp.toNatClampNeg ++ (List.range nn.toNatClampNeg).map (fun i => vs.getD (sp.toNatClampNeg + i) (.int 0)) ++ vd.drop (dp.toNatClampNeg + nn.toNatClampNeg) = vs')
    (hsz : Ls.size = ml) (hd : decode bytes pc = .ok (.invokestatic ix, 3)) (hf : 1 ≤ R.frames) (hl : (rest.map fun v => v.category).sum + 18 ≤ R.locals) (q : b ∈ ws ∨ hS.size ≤ b) (sf : Sf w Z EL os h b) (hp : pc + 3 = pc')
    (k : ∀ h', Keep h h' [b] → Ax Z h' b ty vs' → Rn w Z EL own nm bytes ml ret R hS ws Q os cells slots h' pc' Ls rest) : Rn w Z EL own nm bytes ml ret R hS ws Q os cells slots h pc Ls (.int nn :: .int dp :: .ref b :: .int sp :: .ref a :: rest) := by
  intro p l e s vm0 m args below meth c T locs ok X sn fr K O eT
  have hlen : ∀ {xs : List Value}, xs.length < 2 ^ 31 → (Int32.ofNat xs.length).toNatClampNeg = xs.length ∧ ¬ Int32.ofNat xs.length < 0 := fun {xs} hx => by
    have e1 : (Int32.ofNat xs.length).toInt = xs.length := Int32.toInt_ofNat_of_lt hx
    refine ⟨by simp [Int32.toNatClampNeg, e1], ?_⟩
    rw [Int32.lt_iff_toInt_lt, e1]; have : (0 : Int32).toInt = 0 := rfl; omega
  obtain ⟨la, na⟩ := hlen (xs := vs) (by obtain ⟨_, _, _, z⟩ := A; exact z)
  obtain ⟨lb, nb⟩ := hlen (xs := vd) (by obtain ⟨_, _, _, z⟩ := B; exact z)
  obtain ⟨ka, Aa⟩ := A.arv (d := .int 0) fa _ la na
  obtain ⟨kb, Bb⟩ := B.arv (d := .int 0) fb _ lb nb
  obtain ⟨T', h', L, X', e', N', K', A', stp⟩ := cpA X ok.1 ok.2.2.2.1 ok.2.2.2.2.1 w1 w2 w3 w4 eT Aa Bb (Or.inl ⟨rfl, hty⟩) h1 h2 h3 (by rw [la]; exact h4) (by rw [lb]; exact h5) rfl h5 fr (ge_of O q) (g := mkF m pc Ls (.int nn :: .int dp :: .ref b :: .int sp :: .ref a :: rest)) rfl (hsz.trans ok.2.2.1.symm) rfl (hb ok.2.1 hd) hf (W := (rest.map fun v => v.category).sum) (by show 2 * 0 + _ ≤ _; omega) hl
  have A2 : Ax Z h' b ty vs' := by
    rw [← hv]
    refine Ax.ofArv A' ?_
    simp only [List.length_append, List.length_take, List.length_map, List.length_range, List.length_drop]; omega
  subst hp
  exact (k h' K' A2 p l e s vm0 m args below meth c T' L ok X' (sn.keep ok.2.2.2.1 K' fun x hx => by cases List.mem_singleton.mp hx; exact sf) N' (K.trans K' fun x hx => by cases List.mem_singleton.mp hx; exact q) O e').pre stp
end Objs3
theorem ns_root {Z : State} {a0 : Array Value} {O K : String} {n : Nat} (w : (Jvm.Cond.noSuperclass O).before a0 Z = true) (wi : (Jvm.Cond.instantiable K n).before a0 Z = true) (hn : O ≠ K) : NS Z O K := by
  obtain ⟨c, k, h1, h2, h3, -, -⟩ := Cond.noSuperclass_spec w
  obtain ⟨t, kt, g1, -⟩ := Cond.instantiable_spec wi
  have ne := ids_ne h1 g1 hn
  refine ⟨c, t, h1, g1, fun fuel => ?_⟩
  cases fuel with
  | zero => rfl
  | succ f => simp [Vm.isSubclassAux, ne, h2, h3]
theorem ns_no {Z : State} {a0 : Array Value} {C S K : String} {n : Nat} (w : (Jvm.Cond.superclass C S).before a0 Z = true) (wi : (Jvm.Cond.instantiable K n).before a0 Z = true) (nn : NS Z C K) (hn : C ≠ K) : ∃ c t, Z.vm.findClass C = some c ∧ Z.vm.findClass K = some t ∧ Z.vm.assignable c t = false := by
  obtain ⟨c, t, h0, g0, n3⟩ := nn
  obtain ⟨p, k, kp, h1, h2, h3, h4, h5, -, h7⟩ := Cond.superclass_spec h0 w
  obtain ⟨t', k', g1, g2, g5, g7, -⟩ := Cond.instantiable_spec wi
  cases g0.symm.trans g1
  have g8 : k'.isInterface = false := by cases q : k'.isInterface <;> simp [q] at g7 ⊢
  have ne := ids_ne h0 g0 hn
  refine ⟨c, t, h0, g0, ?_⟩
  show Z.vm.assignableAux (255 + 1) c t = false
  simp [Vm.assignableAux, ne, h2, g2, h5, g5, g8, Vm.isSubclass, n3]
section Strs
variable {Z : State} {h h' : Heap} {x t : Addr} {bs : List Value}
/-- a String of Latin-1 bytes -/
def Sg (Z : State) (h : Heap) (x t : Addr) (bs : List Value) : Prop := Exa Z h x "java/lang/String" ∧ Fld Z h x "java/lang/String" "coder" "B" (.int (0 : Int32)) ∧ Fld Z h x "java/lang/String" "value" "[B" (.ref t) ∧ Ax Z h t .byte bs
theorem Sg.lt (F : Sg Z h x t bs) : x < h.size := F.1.lt
theorem Sg.ltt (F : Sg Z h x t bs) : t < h.size := F.2.2.2.lt
theorem Sg.ext (F : Sg Z h x t bs) (E : Ext h h') : Sg Z h' x t bs := ⟨F.1.ext E, F.2.1.ext E, F.2.2.1.ext E, F.2.2.2.ext E⟩
theorem Sg.keep {ws : List Addr} (F : Sg Z h x t bs) (K : Keep h h' ws) (q : x ∉ ws) (r : t ∉ ws) : Sg Z h' x t bs := ⟨F.1.keep K, F.2.1.keep K q, F.2.2.1.keep K q, F.2.2.2.keep K r⟩
/-- the low byte, signed -/
def b8 (c : Int32) : Int32 := c.toInt8.toInt32
theorem nar_b8 (c : Int32) : nar .byte (b8 c) = b8 c := by
  show (c.toInt8.toInt32).toInt8.toInt32 = c.toInt8.toInt32
  rw [Int8.toInt8_toInt32]
theorem b8_fits (c : Int32) : fits .byte (.int (b8 c)) = true := fits_nar_byte c
end Strs
theorem own_if_t {p : Prop} [Decidable p] (h : p) : (some (Value.int (nar .boolean 1)) : Option Value) = some (.int (if p then 1 else 0)) := by rw [if_pos h]; rfl
theorem own_if_f {p : Prop} [Decidable p] (h : ¬ p) : (some (Value.int (nar .boolean 0)) : Option Value) = some (.int (if p then 1 else 0)) := by rw [if_neg h]; rfl
theorem pd_0 : parseMethodDescriptor "([B[B)Z" = some ⟨[(.array .byte), (.array .byte)], some .boolean⟩ := by decide +kernel
theorem pd_1 : parseMethodDescriptor "(Ljava/lang/Object;)Z" = some ⟨[(.object "java/lang/Object")], some .boolean⟩ := by decide +kernel
theorem pd_2 : parseMethodDescriptor "()V" = some ⟨[], none⟩ := by decide +kernel
theorem pd_3 : parseMethodDescriptor "(I)V" = some ⟨[.int], none⟩ := by decide +kernel
theorem pd_4 : parseMethodDescriptor "(C)Z" = some ⟨[.char], some .boolean⟩ := by decide +kernel
theorem pd_5 : parseMethodDescriptor "(C)[B" = some ⟨[.char], some (.array .byte)⟩ := by decide +kernel
theorem pd_6 : parseMethodDescriptor "([BB)V" = some ⟨[(.array .byte), .byte], none⟩ := by decide +kernel
theorem pd_7 : parseMethodDescriptor "([CI[BII)I" = some ⟨[(.array .char), .int, (.array .byte), .int, .int], some .int⟩ := by decide +kernel
theorem pd_8 : parseMethodDescriptor "([CII)[B" = some ⟨[(.array .char), .int, .int], some (.array .byte)⟩ := by decide +kernel
theorem pd_9 : parseMethodDescriptor "([BI)B" = some ⟨[(.array .byte), .int], some .byte⟩ := by decide +kernel
theorem pd_10 : parseMethodDescriptor "([CIILjava/lang/Void;)V" = some ⟨[(.array .char), .int, .int, (.object "java/lang/Void")], none⟩ := by decide +kernel
theorem pd_11 : parseMethodDescriptor "([C)V" = some ⟨[(.array .char)], none⟩ := by decide +kernel
theorem pd_12 : parseMethodDescriptor "(I)Lcom/example/faultgauge/faultgauge/exec/TestResult$Difference;" = some ⟨[.int], some (.object "com/example/faultgauge/faultgauge/exec/TestResult$Difference")⟩ := by decide +kernel
theorem pd_13 : parseMethodDescriptor "(I)Lcom/example/faultgauge/faultgauge/exec/Ending;" = some ⟨[.int], some (.object "com/example/faultgauge/faultgauge/exec/Ending")⟩ := by decide +kernel
theorem pd_14 : parseMethodDescriptor "(ILcom/example/faultgauge/faultgauge/exec/TestResult$Difference;Lcom/example/faultgauge/faultgauge/exec/Ending;ILjava/lang/String;)V" = some ⟨[.int, (.object "com/example/faultgauge/faultgauge/exec/TestResult$Difference"), (.object "com/example/faultgauge/faultgauge/exec/Ending"), .int, (.object "java/lang/String")], none⟩ := by decide +kernel
theorem pd_15 : parseMethodDescriptor "(I)Ljava/lang/Integer;" = some ⟨[.int], some (.object "java/lang/Integer")⟩ := by decide +kernel
theorem pd_16 : parseMethodDescriptor "(C)Ljava/lang/String;" = some ⟨[.char], some (.object "java/lang/String")⟩ := by decide +kernel
theorem pn_0 : plainName "com/example/faultgauge/faultgauge/exec/TestResultEqualsPinLaw" = true := by first | (simp [plainName, overriddenIn]; done) | decide +kernel
theorem pn_1 : plainName "com/example/faultgauge/faultgauge/exec/TestResult" = true := by first | (simp [plainName, overriddenIn]; done) | decide +kernel
theorem pn_2 : plainName "java/lang/StringLatin1" = true := by first | (simp [plainName, overriddenIn]; done) | decide +kernel
theorem pn_3 : plainName "java/lang/String" = true := by first | (simp [plainName, overriddenIn]; done) | decide +kernel
theorem pn_4 : plainName "java/lang/Number" = true := by first | (simp [plainName, overriddenIn]; done) | decide +kernel
theorem pn_5 : plainName "java/lang/Integer" = true := by first | (simp [plainName, overriddenIn]; done) | decide +kernel
theorem pn_6 : plainName "java/lang/StringUTF16" = true := by first | (simp [plainName, overriddenIn]; done) | decide +kernel
def own_En (Z : State) (C d n : String) (o : Int32) (a : Addr) : Prop := Sta Z Z.heap C n d (.ref a) ∧ Exa Z Z.heap a C ∧ Fld Z Z.heap a "java/lang/Enum" "ordinal" "I" (.int o)
def own_R6 (k : Int32) : Prop := k = 0 ∨ k = 1 ∨ k = 2 ∨ k = 3 ∨ k = 4 ∨ k = 5
def own_R4 (k : Int32) : Prop := k = 0 ∨ k = 1 ∨ k = 2 ∨ k = 3
def own_p6 (a0 a1 a2 a3 a4 a5 : Addr) (k : Int32) : Addr := if k = 0 then a0 else if k = 1 then a1 else if k = 2 then a2 else if k = 3 then a3 else if k = 4 then a4 else a5
def own_p4 (a0 a1 a2 a3 : Addr) (k : Int32) : Addr := if k = 0 then a0 else if k = 1 then a1 else if k = 2 then a2 else a3
theorem own_ord {Z : State} {C d n n' : String} {o o' : Int32} {a a' : Addr} (h : own_En Z C d n o a) (h' : own_En Z C d n' o' a') (e : a = a') : o = o' := by
  by_cases q : o = o'
  · exact q
  · exact absurd e (Fld.ne h.2.2 h'.2.2 (fun z => q (Value.int.inj z)))
theorem own_r6 (x : Int32) : own_R6 ((x &&& (2147483647 : Int32)) % (6 : Int32)) := by
  have h1 := (c_and x 2147483647 (by decide)).1
  have h2 := (c_irem (x &&& (2147483647 : Int32)) 6 6 rfl).1 h1
  obtain ⟨k, ek⟩ : ∃ k, k = (x &&& (2147483647 : Int32)) % (6 : Int32) := ⟨_, rfl⟩
  rw [← ek] at h2 ⊢
  have t : ∀ j : Int32, k.toInt = j.toInt → k = j := fun j q => Int32.toInt_inj.mp q
  unfold own_R6
  rcases (by omega : k.toInt = 0 ∨ k.toInt = 1 ∨ k.toInt = 2 ∨ k.toInt = 3 ∨ k.toInt = 4 ∨ k.toInt = 5) with q | q | q | q | q | q
  · exact Or.inl (t 0 q)
  · exact Or.inr (Or.inl (t 1 q))
  · exact Or.inr (Or.inr (Or.inl (t 2 q)))
  · exact Or.inr (Or.inr (Or.inr (Or.inl (t 3 q))))
  · exact Or.inr (Or.inr (Or.inr (Or.inr (Or.inl (t 4 q)))))
  · exact Or.inr (Or.inr (Or.inr (Or.inr (Or.inr (t 5 q)))))
theorem own_r4 (x : Int32) : own_R4 (x &&& (3 : Int32)) := by
  have h := c_and x 3 (by decide)
  have e3 : (3 : Int32).toInt = 3 := rfl
  rw [e3] at h
  obtain ⟨k, ek⟩ : ∃ k, k = x &&& (3 : Int32) := ⟨_, rfl⟩
  rw [← ek] at h ⊢
  have t : ∀ j : Int32, k.toInt = j.toInt → k = j := fun j q => Int32.toInt_inj.mp q
  unfold own_R4
  rcases (by omega : k.toInt = 0 ∨ k.toInt = 1 ∨ k.toInt = 2 ∨ k.toInt = 3) with q | q | q | q
  · exact Or.inl (t 0 q)
  · exact Or.inr (Or.inl (t 1 q))
  · exact Or.inr (Or.inr (Or.inl (t 2 q)))
  · exact Or.inr (Or.inr (Or.inr (t 3 q)))
/-- a char below 256 -/
def own_B (y : Int32) : Prop := (¬ 255 < y ∧ ¬ y < 0) ∧ nar .char y = y
theorem own_b (x : Int32) : own_B (x &&& (255 : Int32)) := by
  have h := c_and x 255 (by decide)
  have e : (255 : Int32).toInt = 255 := rfl
  rw [e] at h
  refine ⟨⟨?_, ?_⟩, i2c_mask x⟩ <;> rw [Int32.lt_iff_toInt_lt]
  · rw [e]; omega
  · have e0 : (0 : Int32).toInt = 0 := rfl
    rw [e0]; omega
theorem own_b8 {x y : Int32} (hx : own_B x) (hy : own_B y) (h : b8 x = b8 y) : x = y := by
  have h1 := c_i2b x
  have h2 := c_i2b y
  have e : b8 x = x.toInt8.toInt32 := rfl
  have e' : b8 y = y.toInt8.toInt32 := rfl
  rw [e, e'] at h
  rw [h] at h1
  obtain ⟨⟨a1, a2⟩, -⟩ := hx
  obtain ⟨⟨b1, b2⟩, -⟩ := hy
  rw [Int32.lt_iff_toInt_lt] at a1 a2 b1 b2
  have e5 : (255 : Int32).toInt = 255 := rfl
  have e0 : (0 : Int32).toInt = 0 := rfl
  exact Int32.toInt_inj.mp (by omega)
theorem own_i6 {Z : State} (p0 : Addr) (n0 : own_En Z "com/example/faultgauge/faultgauge/exec/TestResult$Difference" "Lcom/example/faultgauge/faultgauge/exec/TestResult$Difference;" "SAME" 0 p0) (p1 : Addr) (n1 : own_En Z "com/example/faultgauge/faultgauge/exec/TestResult$Difference" "Lcom/example/faultgauge/faultgauge/exec/TestResult$Difference;" "OUTPUT" 1 p1) (p2 : Addr) (n2 : own_En Z "com/example/faultgauge/faultgauge/exec/TestResult$Difference" "Lcom/example/faultgauge/faultgauge/exec/TestResult$Difference;" "EXIT_STATUS" 2 p2) (p3 : Addr) (n3 : own_En Z "com/example/faultgauge/faultgauge/exec/TestResult$Difference" "Lcom/example/faultgauge/faultgauge/exec/TestResult$Difference;" "SIGNAL" 3 p3) (p4 : Addr) (n4 : own_En Z "com/example/faultgauge/faultgauge/exec/TestResult$Difference" "Lcom/example/faultgauge/faultgauge/exec/TestResult$Difference;" "TIME_LIMIT" 4 p4) (p5 : Addr) (n5 : own_En Z "com/example/faultgauge/faultgauge/exec/TestResult$Difference" "Lcom/example/faultgauge/faultgauge/exec/TestResult$Difference;" "OUTPUT_LIMIT" 5 p5) {k k' : Int32} (hk : own_R6 k) (hk' : own_R6 k') (h : (own_p6 p0 p1 p2 p3 p4 p5 k) = (own_p6 p0 p1 p2 p3 p4 p5 k')) : k = k' := by
  have t : ∀ {o o' : Int32} {n n' : String} {a a' : Addr}, own_En Z "com/example/faultgauge/faultgauge/exec/TestResult$Difference" "Lcom/example/faultgauge/faultgauge/exec/TestResult$Difference;" n o a → own_En Z "com/example/faultgauge/faultgauge/exec/TestResult$Difference" "Lcom/example/faultgauge/faultgauge/exec/TestResult$Difference;" n' o' a' → a = a' → o = o' := fun x y z => own_ord x y z
  rcases hk with rfl | rfl | rfl | rfl | rfl | rfl <;> rcases hk' with rfl | rfl | rfl | rfl | rfl | rfl <;> simp [own_p6] at h ⊢ <;> first | exact absurd (t n0 n1 h) (by decide) | exact absurd (t n0 n2 h) (by decide) | exact absurd (t n0 n3 h) (by decide) | exact absurd (t n0 n4 h) (by decide) | exact absurd (t n0 n5 h) (by decide) | exact absurd (t n1 n0 h) (by decide) | exact absurd (t n1 n2 h) (by decide) | exact absurd (t n1 n3 h) (by decide) | exact absurd (t n1 n4 h) (by decide) | exact absurd (t n1 n5 h) (by decide) | exact absurd (t n2 n0 h) (by decide) | exact absurd (t n2 n1 h) (by decide) | exact absurd (t n2 n3 h) (by decide) | exact absurd (t n2 n4 h) (by decide) | exact absurd (t n2 n5 h) (by decide) | exact absurd (t n3 n0 h) (by decide) | exact absurd (t n3 n1 h) (by decide) | exact absurd (t n3 n2 h) (by decide) | exact absurd (t n3 n4 h) (by decide) | exact absurd (t n3 n5 h) (by decide) | exact absurd (t n4 n0 h) (by decide) | exact absurd (t n4 n1 h) (by decide) | exact absurd (t n4 n2 h) (by decide) | exact absurd (t n4 n3 h) (by decide) | exact absurd (t n4 n5 h) (by decide) | exact absurd (t n5 n0 h) (by decide) | exact absurd (t n5 n1 h) (by decide) | exact absurd (t n5 n2 h) (by decide) | exact absurd (t n5 n3 h) (by decide) | exact absurd (t n5 n4 h) (by decide)
theorem own_i4 {Z : State} (q0 : Addr) (m0 : own_En Z "com/example/faultgauge/faultgauge/exec/Ending" "Lcom/example/faultgauge/faultgauge/exec/Ending;" "EXIT" 0 q0) (q1 : Addr) (m1 : own_En Z "com/example/faultgauge/faultgauge/exec/Ending" "Lcom/example/faultgauge/faultgauge/exec/Ending;" "SIGNAL" 1 q1) (q2 : Addr) (m2 : own_En Z "com/example/faultgauge/faultgauge/exec/Ending" "Lcom/example/faultgauge/faultgauge/exec/Ending;" "TIMEOUT" 2 q2) (q3 : Addr) (m3 : own_En Z "com/example/faultgauge/faultgauge/exec/Ending" "Lcom/example/faultgauge/faultgauge/exec/Ending;" "OUTPUT_LIMIT" 3 q3) {k k' : Int32} (hk : own_R4 k) (hk' : own_R4 k') (h : (own_p4 q0 q1 q2 q3 k) = (own_p4 q0 q1 q2 q3 k')) : k = k' := by
  have t : ∀ {o o' : Int32} {n n' : String} {a a' : Addr}, own_En Z "com/example/faultgauge/faultgauge/exec/Ending" "Lcom/example/faultgauge/faultgauge/exec/Ending;" n o a → own_En Z "com/example/faultgauge/faultgauge/exec/Ending" "Lcom/example/faultgauge/faultgauge/exec/Ending;" n' o' a' → a = a' → o = o' := fun x y z => own_ord x y z
  rcases hk with rfl | rfl | rfl | rfl <;> rcases hk' with rfl | rfl | rfl | rfl <;> simp [own_p4] at h ⊢ <;> first | exact absurd (t m0 m1 h) (by decide) | exact absurd (t m0 m2 h) (by decide) | exact absurd (t m0 m3 h) (by decide) | exact absurd (t m1 m0 h) (by decide) | exact absurd (t m1 m2 h) (by decide) | exact absurd (t m1 m3 h) (by decide) | exact absurd (t m2 m0 h) (by decide) | exact absurd (t m2 m1 h) (by decide) | exact absurd (t m2 m3 h) (by decide) | exact absurd (t m3 m0 h) (by decide) | exact absurd (t m3 m1 h) (by decide) | exact absurd (t m3 m2 h) (by decide)
theorem d6_0 : decode method_2_code 0 = .ok (.iload_n 0, 1) := by decide +kernel
theorem d6_1 : decode method_2_code 1 = .ok (.ifCond .ne 7, 3) := by decide +kernel
theorem d6_4 : decode method_2_code 4 = .ok (.getstatic 7, 3) := by decide +kernel
theorem d6_7 : decode method_2_code 7 = .ok (.areturn, 1) := by decide +kernel
theorem d6_8 : decode method_2_code 8 = .ok (.iload_n 0, 1) := by decide +kernel
theorem d6_9 : decode method_2_code 9 = .ok (.iconst 1, 1) := by decide +kernel
theorem d6_10 : decode method_2_code 10 = .ok (.if_icmp .ne 7, 3) := by decide +kernel
theorem d6_13 : decode method_2_code 13 = .ok (.getstatic 13, 3) := by decide +kernel
theorem d6_16 : decode method_2_code 16 = .ok (.areturn, 1) := by decide +kernel
theorem d6_17 : decode method_2_code 17 = .ok (.iload_n 0, 1) := by decide +kernel
theorem d6_18 : decode method_2_code 18 = .ok (.iconst 2, 1) := by decide +kernel
theorem d6_19 : decode method_2_code 19 = .ok (.if_icmp .ne 7, 3) := by decide +kernel
theorem d6_22 : decode method_2_code 22 = .ok (.getstatic 16, 3) := by decide +kernel
theorem d6_25 : decode method_2_code 25 = .ok (.areturn, 1) := by decide +kernel
theorem d6_26 : decode method_2_code 26 = .ok (.iload_n 0, 1) := by decide +kernel
theorem d6_27 : decode method_2_code 27 = .ok (.iconst 3, 1) := by decide +kernel
theorem d6_28 : decode method_2_code 28 = .ok (.if_icmp .ne 7, 3) := by decide +kernel
theorem d6_31 : decode method_2_code 31 = .ok (.getstatic 19, 3) := by decide +kernel
theorem d6_34 : decode method_2_code 34 = .ok (.areturn, 1) := by decide +kernel
theorem d6_35 : decode method_2_code 35 = .ok (.iload_n 0, 1) := by decide +kernel
theorem d6_36 : decode method_2_code 36 = .ok (.iconst 4, 1) := by decide +kernel
theorem d6_37 : decode method_2_code 37 = .ok (.if_icmp .ne 7, 3) := by decide +kernel
theorem d6_40 : decode method_2_code 40 = .ok (.getstatic 22, 3) := by decide +kernel
theorem d6_43 : decode method_2_code 43 = .ok (.areturn, 1) := by decide +kernel
theorem d6_44 : decode method_2_code 44 = .ok (.getstatic 25, 3) := by decide +kernel
theorem d6_47 : decode method_2_code 47 = .ok (.areturn, 1) := by decide +kernel
set_option maxRecDepth 65536 in
set_option maxHeartbeats 40000000 in
theorem ct_df (Z : State) (a0 : Array Value) (hw : ∀ d ∈ tables_1, d.before a0 Z = true) (k : Int32) (h0 : Heap) (p0 : Addr) (n0 : own_En Z "com/example/faultgauge/faultgauge/exec/TestResult$Difference" "Lcom/example/faultgauge/faultgauge/exec/TestResult$Difference;" "SAME" 0 p0) (p1 : Addr) (n1 : own_En Z "com/example/faultgauge/faultgauge/exec/TestResult$Difference" "Lcom/example/faultgauge/faultgauge/exec/TestResult$Difference;" "OUTPUT" 1 p1) (p2 : Addr) (n2 : own_En Z "com/example/faultgauge/faultgauge/exec/TestResult$Difference" "Lcom/example/faultgauge/faultgauge/exec/TestResult$Difference;" "EXIT_STATUS" 2 p2) (p3 : Addr) (n3 : own_En Z "com/example/faultgauge/faultgauge/exec/TestResult$Difference" "Lcom/example/faultgauge/faultgauge/exec/TestResult$Difference;" "SIGNAL" 3 p3) (p4 : Addr) (n4 : own_En Z "com/example/faultgauge/faultgauge/exec/TestResult$Difference" "Lcom/example/faultgauge/faultgauge/exec/TestResult$Difference;" "TIME_LIMIT" 4 p4) (p5 : Addr) (n5 : own_En Z "com/example/faultgauge/faultgauge/exec/TestResult$Difference" "Lcom/example/faultgauge/faultgauge/exec/TestResult$Difference;" "OUTPUT_LIMIT" 5 p5) :
    Ct Z ⟨"com/example/faultgauge/faultgauge/exec/TestResultEqualsPinLaw", "diffOf", "(I)Lcom/example/faultgauge/faultgauge/exec/TestResult$Difference;"⟩ method_2_code 1 (Option.some (FieldType.object "com/example/faultgauge/faultgauge/exec/TestResult$Difference")) ({ frames := 0, cells := 0, slots := 0, locals := 0 } : Room) #[(.int k)] h0 [] (fun v h => v = some (.ref (own_p6 p0 p1 p2 p3 p4 p5 k)) ∧ h0 = h) := by
  refine Ct.intro (Ls := #[.val (.int k)]) pn_0 (by intro m; first | (simp [entryFrame, mkF, argsToLocals, Value.category]; done) | rfl) ?_
  refine Rn.iloadN (pc' := 1) d6_0 rfl rfl ?_
  refine Rn.if_ne (pc' := 8) (pn := 4) d6_1 (by decide) (by decide) rfl (fun cq1 => ?_) (fun cq1 => ?_)
  ·
    refine Rn.iloadN (pc' := 9) d6_8 rfl rfl ?_
    refine Rn.iconst (pc' := 10) (v := (1 : Int32)) d6_9 rfl rfl ?_
    refine Rn.icmp_ne (pc' := 17) (pn := 13) d6_10 (by decide) (by decide) rfl (fun cq2 => ?_) (fun cq2 => ?_)
    ·
      refine Rn.iloadN (pc' := 18) d6_17 rfl rfl ?_
      refine Rn.iconst (pc' := 19) (v := (2 : Int32)) d6_18 rfl rfl ?_
      refine Rn.icmp_ne (pc' := 26) (pn := 22) d6_19 (by decide) (by decide) rfl (fun cq3 => ?_) (fun cq3 => ?_)
      ·
        refine Rn.iloadN (pc' := 27) d6_26 rfl rfl ?_
        refine Rn.iconst (pc' := 28) (v := (3 : Int32)) d6_27 rfl rfl ?_
        refine Rn.icmp_ne (pc' := 35) (pn := 31) d6_28 (by decide) (by decide) rfl (fun cq4 => ?_) (fun cq4 => ?_)
        ·
          refine Rn.iloadN (pc' := 36) d6_35 rfl rfl ?_
          refine Rn.iconst (pc' := 37) (v := (4 : Int32)) d6_36 rfl rfl ?_
          refine Rn.icmp_ne (pc' := 44) (pn := 40) d6_37 (by decide) (by decide) rfl (fun cq5 => ?_) (fun cq5 => ?_)
          ·
            refine Rn.old fun Oq6 _ => ?_
            refine Rn.getS (pc' := 47) (hw _ (List.mem_of_getElem? (i := 84) rfl)) Via.refl (n5.1.ext Oq6) d6_44 rfl ?_
            refine Rn.retA (t := (.object "com/example/faultgauge/faultgauge/exec/TestResult$Difference")) rfl rfl rfl d6_47 (Nat.le_of_ble_eq_true rfl) (Nat.le_of_ble_eq_true rfl) ?_
            exact ⟨by simp [own_p6, *], rfl⟩
          ·
            refine Rn.old fun Oq7 _ => ?_
            refine Rn.getS (pc' := 43) (hw _ (List.mem_of_getElem? (i := 108) rfl)) Via.refl (n4.1.ext Oq7) d6_40 rfl ?_
            refine Rn.retA (t := (.object "com/example/faultgauge/faultgauge/exec/TestResult$Difference")) rfl rfl rfl d6_43 (Nat.le_of_ble_eq_true rfl) (Nat.le_of_ble_eq_true rfl) ?_
            exact ⟨by simp [own_p6, *], rfl⟩
        ·
          refine Rn.old fun Oq8 _ => ?_
          refine Rn.getS (pc' := 34) (hw _ (List.mem_of_getElem? (i := 68) rfl)) Via.refl (n3.1.ext Oq8) d6_31 rfl ?_
          refine Rn.retA (t := (.object "com/example/faultgauge/faultgauge/exec/TestResult$Difference")) rfl rfl rfl d6_34 (Nat.le_of_ble_eq_true rfl) (Nat.le_of_ble_eq_true rfl) ?_
          exact ⟨by simp [own_p6, *], rfl⟩
      ·
        refine Rn.old fun Oq9 _ => ?_
        refine Rn.getS (pc' := 25) (hw _ (List.mem_of_getElem? (i := 38) rfl)) Via.refl (n2.1.ext Oq9) d6_22 rfl ?_
        refine Rn.retA (t := (.object "com/example/faultgauge/faultgauge/exec/TestResult$Difference")) rfl rfl rfl d6_25 (Nat.le_of_ble_eq_true rfl) (Nat.le_of_ble_eq_true rfl) ?_
        exact ⟨by simp [own_p6, *], rfl⟩
    ·
      refine Rn.old fun Oq10 _ => ?_
      refine Rn.getS (pc' := 16) (hw _ (List.mem_of_getElem? (i := 117) rfl)) Via.refl (n1.1.ext Oq10) d6_13 rfl ?_
      refine Rn.retA (t := (.object "com/example/faultgauge/faultgauge/exec/TestResult$Difference")) rfl rfl rfl d6_16 (Nat.le_of_ble_eq_true rfl) (Nat.le_of_ble_eq_true rfl) ?_
      exact ⟨by simp [own_p6, *], rfl⟩
  ·
    refine Rn.old fun Oq11 _ => ?_
    refine Rn.getS (pc' := 7) (hw _ (List.mem_of_getElem? (i := 129) rfl)) Via.refl (n0.1.ext Oq11) d6_4 rfl ?_
    refine Rn.retA (t := (.object "com/example/faultgauge/faultgauge/exec/TestResult$Difference")) rfl rfl rfl d6_7 (Nat.le_of_ble_eq_true rfl) (Nat.le_of_ble_eq_true rfl) ?_
    exact ⟨by simp [own_p6, *], rfl⟩
theorem d7_0 : decode method_3_code 0 = .ok (.iload_n 0, 1) := by decide +kernel
theorem d7_1 : decode method_3_code 1 = .ok (.ifCond .ne 7, 3) := by decide +kernel
theorem d7_4 : decode method_3_code 4 = .ok (.getstatic 28, 3) := by decide +kernel
theorem d7_7 : decode method_3_code 7 = .ok (.areturn, 1) := by decide +kernel
theorem d7_8 : decode method_3_code 8 = .ok (.iload_n 0, 1) := by decide +kernel
theorem d7_9 : decode method_3_code 9 = .ok (.iconst 1, 1) := by decide +kernel
theorem d7_10 : decode method_3_code 10 = .ok (.if_icmp .ne 7, 3) := by decide +kernel
theorem d7_13 : decode method_3_code 13 = .ok (.getstatic 34, 3) := by decide +kernel
theorem d7_16 : decode method_3_code 16 = .ok (.areturn, 1) := by decide +kernel
theorem d7_17 : decode method_3_code 17 = .ok (.iload_n 0, 1) := by decide +kernel
theorem d7_18 : decode method_3_code 18 = .ok (.iconst 2, 1) := by decide +kernel
theorem d7_19 : decode method_3_code 19 = .ok (.if_icmp .ne 7, 3) := by decide +kernel
theorem d7_22 : decode method_3_code 22 = .ok (.getstatic 36, 3) := by decide +kernel
theorem d7_25 : decode method_3_code 25 = .ok (.areturn, 1) := by decide +kernel
theorem d7_26 : decode method_3_code 26 = .ok (.getstatic 39, 3) := by decide +kernel
theorem d7_29 : decode method_3_code 29 = .ok (.areturn, 1) := by decide +kernel
set_option maxRecDepth 65536 in
set_option maxHeartbeats 40000000 in
theorem ct_en (Z : State) (a0 : Array Value) (hw : ∀ d ∈ tables_1, d.before a0 Z = true) (k : Int32) (h0 : Heap) (q0 : Addr) (m0 : own_En Z "com/example/faultgauge/faultgauge/exec/Ending" "Lcom/example/faultgauge/faultgauge/exec/Ending;" "EXIT" 0 q0) (q1 : Addr) (m1 : own_En Z "com/example/faultgauge/faultgauge/exec/Ending" "Lcom/example/faultgauge/faultgauge/exec/Ending;" "SIGNAL" 1 q1) (q2 : Addr) (m2 : own_En Z "com/example/faultgauge/faultgauge/exec/Ending" "Lcom/example/faultgauge/faultgauge/exec/Ending;" "TIMEOUT" 2 q2) (q3 : Addr) (m3 : own_En Z "com/example/faultgauge/faultgauge/exec/Ending" "Lcom/example/faultgauge/faultgauge/exec/Ending;" "OUTPUT_LIMIT" 3 q3) :
    Ct Z ⟨"com/example/faultgauge/faultgauge/exec/TestResultEqualsPinLaw", "endingOf", "(I)Lcom/example/faultgauge/faultgauge/exec/Ending;"⟩ method_3_code 1 (Option.some (FieldType.object "com/example/faultgauge/faultgauge/exec/Ending")) ({ frames := 0, cells := 0, slots := 0, locals := 0 } : Room) #[(.int k)] h0 [] (fun v h => v = some (.ref (own_p4 q0 q1 q2 q3 k)) ∧ h0 = h) := by
  refine Ct.intro (Ls := #[.val (.int k)]) pn_0 (by intro m; first | (simp [entryFrame, mkF, argsToLocals, Value.category]; done) | rfl) ?_
  refine Rn.iloadN (pc' := 1) d7_0 rfl rfl ?_
  refine Rn.if_ne (pc' := 8) (pn := 4) d7_1 (by decide) (by decide) rfl (fun cq1 => ?_) (fun cq1 => ?_)
  ·
    refine Rn.iloadN (pc' := 9) d7_8 rfl rfl ?_
    refine Rn.iconst (pc' := 10) (v := (1 : Int32)) d7_9 rfl rfl ?_
    refine Rn.icmp_ne (pc' := 17) (pn := 13) d7_10 (by decide) (by decide) rfl (fun cq2 => ?_) (fun cq2 => ?_)
    ·
      refine Rn.iloadN (pc' := 18) d7_17 rfl rfl ?_
      refine Rn.iconst (pc' := 19) (v := (2 : Int32)) d7_18 rfl rfl ?_
      refine Rn.icmp_ne (pc' := 26) (pn := 22) d7_19 (by decide) (by decide) rfl (fun cq3 => ?_) (fun cq3 => ?_)
      ·
        refine Rn.old fun Oq4 _ => ?_
        refine Rn.getS (pc' := 29) (hw _ (List.mem_of_getElem? (i := 113) rfl)) Via.refl (m3.1.ext Oq4) d7_26 rfl ?_
        refine Rn.retA (t := (.object "com/example/faultgauge/faultgauge/exec/Ending")) rfl rfl rfl d7_29 (Nat.le_of_ble_eq_true rfl) (Nat.le_of_ble_eq_true rfl) ?_
        exact ⟨by simp [own_p4, *], rfl⟩
      ·
        refine Rn.old fun Oq5 _ => ?_
        refine Rn.getS (pc' := 25) (hw _ (List.mem_of_getElem? (i := 115) rfl)) Via.refl (m2.1.ext Oq5) d7_22 rfl ?_
        refine Rn.retA (t := (.object "com/example/faultgauge/faultgauge/exec/Ending")) rfl rfl rfl d7_25 (Nat.le_of_ble_eq_true rfl) (Nat.le_of_ble_eq_true rfl) ?_
        exact ⟨by simp [own_p4, *], rfl⟩
    ·
      refine Rn.old fun Oq6 _ => ?_
      refine Rn.getS (pc' := 16) (hw _ (List.mem_of_getElem? (i := 119) rfl)) Via.refl (m1.1.ext Oq6) d7_13 rfl ?_
      refine Rn.retA (t := (.object "com/example/faultgauge/faultgauge/exec/Ending")) rfl rfl rfl d7_16 (Nat.le_of_ble_eq_true rfl) (Nat.le_of_ble_eq_true rfl) ?_
      exact ⟨by simp [own_p4, *], rfl⟩
  ·
    refine Rn.old fun Oq7 _ => ?_
    refine Rn.getS (pc' := 7) (hw _ (List.mem_of_getElem? (i := 44) rfl)) Via.refl (m0.1.ext Oq7) d7_4 rfl ?_
    refine Rn.retA (t := (.object "com/example/faultgauge/faultgauge/exec/Ending")) rfl rfl rfl d7_7 (Nat.le_of_ble_eq_true rfl) (Nat.le_of_ble_eq_true rfl) ?_
    exact ⟨by simp [own_p4, *], rfl⟩
def own_Tr (Z : State) (h : Heap) (r : Addr) (l : Int32) (d e : Addr) (c : Int32) (s : Addr) : Prop := Exa Z h r "com/example/faultgauge/faultgauge/exec/TestResult" ∧ Fld Z h r "com/example/faultgauge/faultgauge/exec/TestResult" "line" "I" (.int l) ∧ Fld Z h r "com/example/faultgauge/faultgauge/exec/TestResult" "difference" "Lcom/example/faultgauge/faultgauge/exec/TestResult$Difference;" (.ref d) ∧ Fld Z h r "com/example/faultgauge/faultgauge/exec/TestResult" "ending" "Lcom/example/faultgauge/faultgauge/exec/Ending;" (.ref e) ∧ Fld Z h r "com/example/faultgauge/faultgauge/exec/TestResult" "code" "I" (.int c) ∧ Fld Z h r "com/example/faultgauge/faultgauge/exec/TestResult" "outputDigest" "Ljava/lang/String;" (.ref s)
theorem own_Tr.keep {Z : State} {h h' : Heap} {r : Addr} {l : Int32} {d e : Addr} {c : Int32} {s : Addr} {ws : List Addr} (F : own_Tr Z h r l d e c s) (K : Keep h h' ws) (q : r ∉ ws) : own_Tr Z h' r l d e c s := ⟨F.1.keep K, F.2.1.keep K q, F.2.2.1.keep K q, F.2.2.2.1.keep K q, F.2.2.2.2.1.keep K q, F.2.2.2.2.2.keep K q⟩
theorem own_Tr.ext {Z : State} {h h' : Heap} {r : Addr} {l : Int32} {d e : Addr} {c : Int32} {s : Addr} (F : own_Tr Z h r l d e c s) (E : Ext h h') : own_Tr Z h' r l d e c s := ⟨F.1.ext E, F.2.1.ext E, F.2.2.1.ext E, F.2.2.2.1.ext E, F.2.2.2.2.1.ext E, F.2.2.2.2.2.ext E⟩
theorem d8_0 : decode prog_53_method_1_code 0 = .ok (.aload_n 0, 1) := by decide +kernel
theorem d8_1 : decode prog_53_method_1_code 1 = .ok (.invokespecial 1, 3) := by decide +kernel
theorem d8_4 : decode prog_53_method_1_code 4 = .ok (.aload_n 0, 1) := by decide +kernel
theorem d8_5 : decode prog_53_method_1_code 5 = .ok (.iload_n 1, 1) := by decide +kernel
theorem d8_6 : decode prog_53_method_1_code 6 = .ok (.putfield 7, 3) := by decide +kernel
theorem d8_9 : decode prog_53_method_1_code 9 = .ok (.aload_n 0, 1) := by decide +kernel
theorem d8_10 : decode prog_53_method_1_code 10 = .ok (.aload_n 2, 1) := by decide +kernel
theorem d8_11 : decode prog_53_method_1_code 11 = .ok (.putfield 13, 3) := by decide +kernel
theorem d8_14 : decode prog_53_method_1_code 14 = .ok (.aload_n 0, 1) := by decide +kernel
theorem d8_15 : decode prog_53_method_1_code 15 = .ok (.aload_n 3, 1) := by decide +kernel
theorem d8_16 : decode prog_53_method_1_code 16 = .ok (.putfield 17, 3) := by decide +kernel
theorem d8_19 : decode prog_53_method_1_code 19 = .ok (.aload_n 0, 1) := by decide +kernel
theorem d8_20 : decode prog_53_method_1_code 20 = .ok (.iload 4, 2) := by decide +kernel
theorem d8_22 : decode prog_53_method_1_code 22 = .ok (.putfield 21, 3) := by decide +kernel
theorem d8_25 : decode prog_53_method_1_code 25 = .ok (.aload_n 0, 1) := by decide +kernel
theorem d8_26 : decode prog_53_method_1_code 26 = .ok (.aload 5, 2) := by decide +kernel
theorem d8_28 : decode prog_53_method_1_code 28 = .ok (.putfield 24, 3) := by decide +kernel
theorem d8_31 : decode prog_53_method_1_code 31 = .ok (.return_, 1) := by decide +kernel
set_option maxRecDepth 65536 in
set_option maxHeartbeats 40000000 in
theorem ct_tr (Z : State) (a0 : Array Value) (hw : ∀ d ∈ tables_1, d.before a0 Z = true) (r : Addr) (l : Int32) (d e : Addr) (c : Int32) (s : Addr) (h0 : Heap) (E : Exa Z h0 r "com/example/faultgauge/faultgauge/exec/TestResult") (F0 : Fld Z h0 r "com/example/faultgauge/faultgauge/exec/TestResult" "line" "I" (.int (0 : Int32))) (F1 : Fld Z h0 r "com/example/faultgauge/faultgauge/exec/TestResult" "difference" "Lcom/example/faultgauge/faultgauge/exec/TestResult$Difference;" .null) (F2 : Fld Z h0 r "com/example/faultgauge/faultgauge/exec/TestResult" "ending" "Lcom/example/faultgauge/faultgauge/exec/Ending;" .null) (F3 : Fld Z h0 r "com/example/faultgauge/faultgauge/exec/TestResult" "code" "I" (.int (0 : Int32))) (F4 : Fld Z h0 r "com/example/faultgauge/faultgauge/exec/TestResult" "outputDigest" "Ljava/lang/String;" .null) :
    Ct Z ⟨"com/example/faultgauge/faultgauge/exec/TestResult", "<init>", "(ILcom/example/faultgauge/faultgauge/exec/TestResult$Difference;Lcom/example/faultgauge/faultgauge/exec/Ending;ILjava/lang/String;)V"⟩ prog_53_method_1_code 6 (Option.none : Option FieldType) ({ frames := 1, cells := 0, slots := 0, locals := 12 } : Room) #[(.ref r), (.int l), (.ref d), (.ref e), (.int c), (.ref s)] h0 [r] (fun v h => v = none ∧ own_Tr Z h r l d e c s) := by
  refine Ct.intro (Ls := #[.val (.ref r), .val (.int l), .val (.ref d), .val (.ref e), .val (.int c), .val (.ref s)]) pn_1 (by intro m; first | (simp [entryFrame, mkF, argsToLocals, Value.category]; done) | rfl) ?_
  refine Rn.aloadN (pc' := 1) d8_0 rfl rfl rfl ?_
  refine Rn.initO (pc' := 4) (hw _ (List.mem_of_getElem? (i := 50) rfl)) (hw _ (List.mem_of_getElem? (i := 13) rfl)) (hw _ (List.mem_of_getElem? (i := 14) rfl)) rfl d8_1 (Nat.le_of_ble_eq_true rfl) (Nat.le_of_ble_eq_true rfl) rfl ?_
  refine Rn.aloadN (pc' := 5) d8_4 rfl rfl rfl ?_
  refine Rn.iloadN (pc' := 6) d8_5 rfl rfl ?_
  refine Rn.putF (pc' := 9) (hw _ (List.mem_of_getElem? (i := 51) rfl)) Via.refl F0 E (Or.inr ⟨(hw _ (List.mem_of_getElem? (i := 52) rfl)), rfl, rfl⟩) (hw _ (List.mem_of_getElem? (i := 32) rfl)) (ty := .int) (by decide) rfl rfl (Or.inl (List.mem_of_getElem? (i := 0) rfl)) Sf.no d8_6 rfl (fun hq2 Wq1 => ?_)
  have Fq3 := F0.same Wq1
  refine Rn.aloadN (pc' := 10) d8_9 rfl rfl rfl ?_
  refine Rn.aloadN (pc' := 11) d8_10 rfl rfl rfl ?_
  have Fq4 := F1.other Wq1 (Or.inr (slot_ne (t := (.object "com/example/faultgauge/faultgauge/exec/TestResult$Difference")) (t' := .int) (Or.inr (hw _ (List.mem_of_getElem? (i := 54) rfl))) (Or.inr (hw _ (List.mem_of_getElem? (i := 52) rfl))) (by decide) (by decide) (by decide)))
  have Fq5 := E.wr Wq1
  refine Rn.putF (pc' := 14) (hw _ (List.mem_of_getElem? (i := 53) rfl)) Via.refl Fq4 Fq5 (Or.inr ⟨(hw _ (List.mem_of_getElem? (i := 54) rfl)), rfl, rfl⟩) (hw _ (List.mem_of_getElem? (i := 32) rfl)) (ty := (.object "com/example/faultgauge/faultgauge/exec/TestResult$Difference")) (by decide) rfl rfl (Or.inl (List.mem_of_getElem? (i := 0) rfl)) Sf.no d8_11 rfl (fun hq7 Wq6 => ?_)
  have Fq8 := Fq4.same Wq6
  refine Rn.aloadN (pc' := 15) d8_14 rfl rfl rfl ?_
  refine Rn.aloadN (pc' := 16) d8_15 rfl rfl rfl ?_
  have Fq9 := F2.other Wq1 (Or.inr (slot_ne (t := (.object "com/example/faultgauge/faultgauge/exec/Ending")) (t' := .int) (Or.inr (hw _ (List.mem_of_getElem? (i := 56) rfl))) (Or.inr (hw _ (List.mem_of_getElem? (i := 52) rfl))) (by decide) (by decide) (by decide)))
  have Fq10 := Fq9.other Wq6 (Or.inr (slot_ne (t := (.object "com/example/faultgauge/faultgauge/exec/Ending")) (t' := (.object "com/example/faultgauge/faultgauge/exec/TestResult$Difference")) (Or.inr (hw _ (List.mem_of_getElem? (i := 56) rfl))) (Or.inr (hw _ (List.mem_of_getElem? (i := 54) rfl))) (by decide) (by decide) (by decide)))
  have Fq11 := Fq5.wr Wq6
  refine Rn.putF (pc' := 19) (hw _ (List.mem_of_getElem? (i := 55) rfl)) Via.refl Fq10 Fq11 (Or.inr ⟨(hw _ (List.mem_of_getElem? (i := 56) rfl)), rfl, rfl⟩) (hw _ (List.mem_of_getElem? (i := 32) rfl)) (ty := (.object "com/example/faultgauge/faultgauge/exec/Ending")) (by decide) rfl rfl (Or.inl (List.mem_of_getElem? (i := 0) rfl)) Sf.no d8_16 rfl (fun hq13 Wq12 => ?_)
  have Fq14 := Fq10.same Wq12
  refine Rn.aloadN (pc' := 20) d8_19 rfl rfl rfl ?_
  refine Rn.iload (pc' := 22) d8_20 rfl rfl ?_
  have Fq15 := F3.other Wq1 (Or.inr (slot_ne (t := .int) (t' := .int) (Or.inr (hw _ (List.mem_of_getElem? (i := 58) rfl))) (Or.inr (hw _ (List.mem_of_getElem? (i := 52) rfl))) (by decide) (by decide) (by decide)))
  have Fq16 := Fq15.other Wq6 (Or.inr (slot_ne (t := .int) (t' := (.object "com/example/faultgauge/faultgauge/exec/TestResult$Difference")) (Or.inr (hw _ (List.mem_of_getElem? (i := 58) rfl))) (Or.inr (hw _ (List.mem_of_getElem? (i := 54) rfl))) (by decide) (by decide) (by decide)))
  have Fq17 := Fq16.other Wq12 (Or.inr (slot_ne (t := .int) (t' := (.object "com/example/faultgauge/faultgauge/exec/Ending")) (Or.inr (hw _ (List.mem_of_getElem? (i := 58) rfl))) (Or.inr (hw _ (List.mem_of_getElem? (i := 56) rfl))) (by decide) (by decide) (by decide)))
  have Fq18 := Fq11.wr Wq12
  refine Rn.putF (pc' := 25) (hw _ (List.mem_of_getElem? (i := 57) rfl)) Via.refl Fq17 Fq18 (Or.inr ⟨(hw _ (List.mem_of_getElem? (i := 58) rfl)), rfl, rfl⟩) (hw _ (List.mem_of_getElem? (i := 32) rfl)) (ty := .int) (by decide) rfl rfl (Or.inl (List.mem_of_getElem? (i := 0) rfl)) Sf.no d8_22 rfl (fun hq20 Wq19 => ?_)
  have Fq21 := Fq17.same Wq19
  refine Rn.aloadN (pc' := 26) d8_25 rfl rfl rfl ?_
  refine Rn.aload (pc' := 28) d8_26 rfl rfl rfl ?_
  have Fq22 := F4.other Wq1 (Or.inr (slot_ne (t := (.object "java/lang/String")) (t' := .int) (Or.inr (hw _ (List.mem_of_getElem? (i := 60) rfl))) (Or.inr (hw _ (List.mem_of_getElem? (i := 52) rfl))) (by decide) (by decide) (by decide)))
  have Fq23 := Fq22.other Wq6 (Or.inr (slot_ne (t := (.object "java/lang/String")) (t' := (.object "com/example/faultgauge/faultgauge/exec/TestResult$Difference")) (Or.inr (hw _ (List.mem_of_getElem? (i := 60) rfl))) (Or.inr (hw _ (List.mem_of_getElem? (i := 54) rfl))) (by decide) (by decide) (by decide)))
  have Fq24 := Fq23.other Wq12 (Or.inr (slot_ne (t := (.object "java/lang/String")) (t' := (.object "com/example/faultgauge/faultgauge/exec/Ending")) (Or.inr (hw _ (List.mem_of_getElem? (i := 60) rfl))) (Or.inr (hw _ (List.mem_of_getElem? (i := 56) rfl))) (by decide) (by decide) (by decide)))
  have Fq25 := Fq24.other Wq19 (Or.inr (slot_ne (t := (.object "java/lang/String")) (t' := .int) (Or.inr (hw _ (List.mem_of_getElem? (i := 60) rfl))) (Or.inr (hw _ (List.mem_of_getElem? (i := 58) rfl))) (by decide) (by decide) (by decide)))
  have Fq26 := Fq18.wr Wq19
  refine Rn.putF (pc' := 31) (hw _ (List.mem_of_getElem? (i := 59) rfl)) Via.refl Fq25 Fq26 (Or.inr ⟨(hw _ (List.mem_of_getElem? (i := 60) rfl)), rfl, rfl⟩) (hw _ (List.mem_of_getElem? (i := 32) rfl)) (ty := (.object "java/lang/String")) (by decide) rfl rfl (Or.inl (List.mem_of_getElem? (i := 0) rfl)) Sf.no d8_28 rfl (fun hq28 Wq27 => ?_)
  have Fq29 := Fq25.same Wq27
  refine Rn.retV rfl d8_31 (Nat.le_of_ble_eq_true rfl) (Nat.le_of_ble_eq_true rfl) ?_
  have Fq30 := Fq26.wr Wq27
  have Fq31 := Fq3.other Wq6 (Or.inr (slot_ne (t := .int) (t' := (.object "com/example/faultgauge/faultgauge/exec/TestResult$Difference")) (Or.inr (hw _ (List.mem_of_getElem? (i := 52) rfl))) (Or.inr (hw _ (List.mem_of_getElem? (i := 54) rfl))) (by decide) (by decide) (by decide)))
  have Fq32 := Fq31.other Wq12 (Or.inr (slot_ne (t := .int) (t' := (.object "com/example/faultgauge/faultgauge/exec/Ending")) (Or.inr (hw _ (List.mem_of_getElem? (i := 52) rfl))) (Or.inr (hw _ (List.mem_of_getElem? (i := 56) rfl))) (by decide) (by decide) (by decide)))
  have Fq33 := Fq32.other Wq19 (Or.inr (slot_ne (t := .int) (t' := .int) (Or.inr (hw _ (List.mem_of_getElem? (i := 52) rfl))) (Or.inr (hw _ (List.mem_of_getElem? (i := 58) rfl))) (by decide) (by decide) (by decide)))
  have Fq34 := Fq33.other Wq27 (Or.inr (slot_ne (t := .int) (t' := (.object "java/lang/String")) (Or.inr (hw _ (List.mem_of_getElem? (i := 52) rfl))) (Or.inr (hw _ (List.mem_of_getElem? (i := 60) rfl))) (by decide) (by decide) (by decide)))
  have Fq35 := Fq8.other Wq12 (Or.inr (slot_ne (t := (.object "com/example/faultgauge/faultgauge/exec/TestResult$Difference")) (t' := (.object "com/example/faultgauge/faultgauge/exec/Ending")) (Or.inr (hw _ (List.mem_of_getElem? (i := 54) rfl))) (Or.inr (hw _ (List.mem_of_getElem? (i := 56) rfl))) (by decide) (by decide) (by decide)))
  have Fq36 := Fq35.other Wq19 (Or.inr (slot_ne (t := (.object "com/example/faultgauge/faultgauge/exec/TestResult$Difference")) (t' := .int) (Or.inr (hw _ (List.mem_of_getElem? (i := 54) rfl))) (Or.inr (hw _ (List.mem_of_getElem? (i := 58) rfl))) (by decide) (by decide) (by decide)))
  have Fq37 := Fq36.other Wq27 (Or.inr (slot_ne (t := (.object "com/example/faultgauge/faultgauge/exec/TestResult$Difference")) (t' := (.object "java/lang/String")) (Or.inr (hw _ (List.mem_of_getElem? (i := 54) rfl))) (Or.inr (hw _ (List.mem_of_getElem? (i := 60) rfl))) (by decide) (by decide) (by decide)))
  have Fq38 := Fq14.other Wq19 (Or.inr (slot_ne (t := (.object "com/example/faultgauge/faultgauge/exec/Ending")) (t' := .int) (Or.inr (hw _ (List.mem_of_getElem? (i := 56) rfl))) (Or.inr (hw _ (List.mem_of_getElem? (i := 58) rfl))) (by decide) (by decide) (by decide)))
  have Fq39 := Fq38.other Wq27 (Or.inr (slot_ne (t := (.object "com/example/faultgauge/faultgauge/exec/Ending")) (t' := (.object "java/lang/String")) (Or.inr (hw _ (List.mem_of_getElem? (i := 56) rfl))) (Or.inr (hw _ (List.mem_of_getElem? (i := 60) rfl))) (by decide) (by decide) (by decide)))
  have Fq40 := Fq21.other Wq27 (Or.inr (slot_ne (t := .int) (t' := (.object "java/lang/String")) (Or.inr (hw _ (List.mem_of_getElem? (i := 58) rfl))) (Or.inr (hw _ (List.mem_of_getElem? (i := 60) rfl))) (by decide) (by decide) (by decide)))
  exact ⟨rfl, Fq30, Fq34, Fq37, Fq39, Fq40, Fq29⟩
theorem d18_0 : decode jdk_43_method_13_code 0 = .ok (.aload_n 0, 1) := by decide +kernel
theorem d18_1 : decode jdk_43_method_13_code 1 = .ok (.arraylength, 1) := by decide +kernel
theorem d18_2 : decode jdk_43_method_13_code 2 = .ok (.aload_n 1, 1) := by decide +kernel
theorem d18_3 : decode jdk_43_method_13_code 3 = .ok (.arraylength, 1) := by decide +kernel
theorem d18_4 : decode jdk_43_method_13_code 4 = .ok (.if_icmp .ne 30, 3) := by decide +kernel
theorem d18_7 : decode jdk_43_method_13_code 7 = .ok (.iconst 0, 1) := by decide +kernel
theorem d18_8 : decode jdk_43_method_13_code 8 = .ok (.istore_n 2, 1) := by decide +kernel
theorem d18_9 : decode jdk_43_method_13_code 9 = .ok (.iload_n 2, 1) := by decide +kernel
theorem d18_10 : decode jdk_43_method_13_code 10 = .ok (.aload_n 0, 1) := by decide +kernel
theorem d18_11 : decode jdk_43_method_13_code 11 = .ok (.arraylength, 1) := by decide +kernel
theorem d18_12 : decode jdk_43_method_13_code 12 = .ok (.if_icmp .ge 20, 3) := by decide +kernel
theorem d18_15 : decode jdk_43_method_13_code 15 = .ok (.aload_n 0, 1) := by decide +kernel
theorem d18_16 : decode jdk_43_method_13_code 16 = .ok (.iload_n 2, 1) := by decide +kernel
theorem d18_17 : decode jdk_43_method_13_code 17 = .ok (.baload, 1) := by decide +kernel
theorem d18_18 : decode jdk_43_method_13_code 18 = .ok (.aload_n 1, 1) := by decide +kernel
theorem d18_19 : decode jdk_43_method_13_code 19 = .ok (.iload_n 2, 1) := by decide +kernel
theorem d18_20 : decode jdk_43_method_13_code 20 = .ok (.baload, 1) := by decide +kernel
theorem d18_21 : decode jdk_43_method_13_code 21 = .ok (.if_icmp .eq 5, 3) := by decide +kernel
theorem d18_24 : decode jdk_43_method_13_code 24 = .ok (.iconst 0, 1) := by decide +kernel
theorem d18_25 : decode jdk_43_method_13_code 25 = .ok (.ireturn, 1) := by decide +kernel
theorem d18_26 : decode jdk_43_method_13_code 26 = .ok (.iinc 2 1, 3) := by decide +kernel
theorem d18_29 : decode jdk_43_method_13_code 29 = .ok (.goto (-20), 3) := by decide +kernel
theorem d18_32 : decode jdk_43_method_13_code 32 = .ok (.iconst 1, 1) := by decide +kernel
theorem d18_33 : decode jdk_43_method_13_code 33 = .ok (.ireturn, 1) := by decide +kernel
theorem d18_34 : decode jdk_43_method_13_code 34 = .ok (.iconst 0, 1) := by decide +kernel
theorem d18_35 : decode jdk_43_method_13_code 35 = .ok (.ireturn, 1) := by decide +kernel
set_option maxRecDepth 65536 in
set_option maxHeartbeats 40000000 in
theorem ct_leq2_1 (Z : State) (a0 : Array Value) (hw : ∀ d ∈ tables_1, d.before a0 Z = true) (t u : Addr) (b0 b1 d0 : Int32) (h0 : Heap) (A : Ax Z h0 t .byte [.int b0, .int b1]) (B : Ax Z h0 u .byte [.int d0]) :
    Ct Z ⟨"java/lang/StringLatin1", "equals", "([B[B)Z"⟩ jdk_43_method_13_code 3 (Option.some FieldType.boolean) ({ frames := 0, cells := 0, slots := 0, locals := 0 } : Room) #[(.ref t), (.ref u)] h0 [] (fun v h => v = some (.int (if [b0, b1] = [d0] then 1 else 0)) ∧ h0 = h) := by
  refine Ct.intro (Ls := #[.val (.ref t), .val (.ref u), .unset]) pn_2 (by intro m; first | (simp [entryFrame, mkF, argsToLocals, Value.category]; done) | rfl) ?_
  refine Rn.aloadN (pc' := 1) d18_0 rfl rfl rfl ?_
  refine Rn.arraylength (pc' := 2) (n := (2 : Int32)) A rfl d18_1 rfl ?_
  refine Rn.aloadN (pc' := 3) d18_2 rfl rfl rfl ?_
  refine Rn.arraylength (pc' := 4) (n := (1 : Int32)) B rfl d18_3 rfl ?_
  refine Rn.icmp_ne (pc' := 34) (pn := 7) d18_4 (by decide) (by decide) rfl (fun cq1 => ?_) (fun cq1 => absurd cq1 (by decide))
  refine Rn.iconst (pc' := 35) (v := (0 : Int32)) d18_34 rfl rfl ?_
  refine Rn.retN (t := .boolean) rfl (by simp) d18_35 (Nat.le_of_ble_eq_true rfl) (Nat.le_of_ble_eq_true rfl) ?_
  exact ⟨own_if_f (fun q => by simp at q), rfl⟩
theorem d17_0 : decode jdk_42_method_66_code 0 = .ok (.aload_n 0, 1) := by decide +kernel
theorem d17_1 : decode jdk_42_method_66_code 1 = .ok (.aload_n 1, 1) := by decide +kernel
theorem d17_2 : decode jdk_42_method_66_code 2 = .ok (.if_acmp .ne 5, 3) := by decide +kernel
theorem d17_5 : decode jdk_42_method_66_code 5 = .ok (.iconst 1, 1) := by decide +kernel
theorem d17_6 : decode jdk_42_method_66_code 6 = .ok (.ireturn, 1) := by decide +kernel
theorem d17_7 : decode jdk_42_method_66_code 7 = .ok (.aload_n 1, 1) := by decide +kernel
theorem d17_8 : decode jdk_42_method_66_code 8 = .ok (.instanceof 10, 3) := by decide +kernel
theorem d17_11 : decode jdk_42_method_66_code 11 = .ok (.ifCond .eq 43, 3) := by decide +kernel
theorem d17_14 : decode jdk_42_method_66_code 14 = .ok (.aload_n 1, 1) := by decide +kernel
theorem d17_15 : decode jdk_42_method_66_code 15 = .ok (.checkcast 10, 3) := by decide +kernel
theorem d17_18 : decode jdk_42_method_66_code 18 = .ok (.astore_n 2, 1) := by decide +kernel
theorem d17_19 : decode jdk_42_method_66_code 19 = .ok (.getstatic 38, 3) := by decide +kernel
theorem d17_22 : decode jdk_42_method_66_code 22 = .ok (.ifCond .eq 14, 3) := by decide +kernel
theorem d17_25 : decode jdk_42_method_66_code 25 = .ok (.aload_n 0, 1) := by decide +kernel
theorem d17_26 : decode jdk_42_method_66_code 26 = .ok (.getfield 15, 3) := by decide +kernel
theorem d17_29 : decode jdk_42_method_66_code 29 = .ok (.aload_n 2, 1) := by decide +kernel
theorem d17_30 : decode jdk_42_method_66_code 30 = .ok (.getfield 15, 3) := by decide +kernel
theorem d17_33 : decode jdk_42_method_66_code 33 = .ok (.if_icmp .ne 21, 3) := by decide +kernel
theorem d17_36 : decode jdk_42_method_66_code 36 = .ok (.aload_n 0, 1) := by decide +kernel
theorem d17_37 : decode jdk_42_method_66_code 37 = .ok (.getfield 9, 3) := by decide +kernel
theorem d17_40 : decode jdk_42_method_66_code 40 = .ok (.aload_n 2, 1) := by decide +kernel
theorem d17_41 : decode jdk_42_method_66_code 41 = .ok (.getfield 9, 3) := by decide +kernel
theorem d17_44 : decode jdk_42_method_66_code 44 = .ok (.invokestatic 541, 3) := by decide +kernel
theorem d17_47 : decode jdk_42_method_66_code 47 = .ok (.ifCond .eq 7, 3) := by decide +kernel
theorem d17_50 : decode jdk_42_method_66_code 50 = .ok (.iconst 1, 1) := by decide +kernel
theorem d17_51 : decode jdk_42_method_66_code 51 = .ok (.goto 4, 3) := by decide +kernel
theorem d17_54 : decode jdk_42_method_66_code 54 = .ok (.iconst 0, 1) := by decide +kernel
theorem d17_55 : decode jdk_42_method_66_code 55 = .ok (.ireturn, 1) := by decide +kernel
set_option maxRecDepth 65536 in
set_option maxHeartbeats 40000000 in
theorem ct_seq2_1 (Z : State) (a0 : Array Value) (hw : ∀ d ∈ tables_1, d.before a0 Z = true) (x t y u : Addr) (b0 b1 d0 : Int32) (z : Int32) (hz : z ≠ 0) (h0 : Heap) (G : Sg Z h0 x t [.int b0, .int b1]) (H : Sg Z h0 y u [.int d0]) (hn : x ≠ y) (S : Sta Z Z.heap "java/lang/String" "COMPACT_STRINGS" "Z" (.int z)) :
    Ct Z ⟨"java/lang/String", "equals", "(Ljava/lang/Object;)Z"⟩ jdk_42_method_66_code 3 (Option.some FieldType.boolean) ({ frames := 1, cells := 0, slots := 0, locals := 14 } : Room) #[(.ref x), (.ref y)] h0 [] (fun v h => v = some (.int (if [b0, b1] = [d0] then 1 else 0)) ∧ h0 = h) := by
  refine Ct.intro (Ls := #[.val (.ref x), .val (.ref y), .unset]) pn_3 (by intro m; first | (simp [entryFrame, mkF, argsToLocals, Value.category]; done) | rfl) ?_
  obtain ⟨E, Co, V, A⟩ := G
  obtain ⟨E', Co', V', B⟩ := H
  refine Rn.aloadN (pc' := 1) d17_0 rfl rfl rfl ?_
  refine Rn.aloadN (pc' := 2) d17_1 rfl rfl rfl ?_
  refine Rn.acmp_ne (pc' := 7) (pn := 5) rfl rfl d17_2 (by decide) (by decide) rfl (fun cq1 => ?_) (fun cq1 => absurd (Value.ref.inj cq1) hn)
  refine Rn.aloadN (pc' := 8) d17_7 rfl rfl rfl ?_
  refine Rn.instY (pc' := 11) (hw _ (List.mem_of_getElem? (i := 77) rfl)) (Ins.self E') d17_8 rfl ?_
  refine Rn.if_eq (pc' := 54) (pn := 14) d17_11 (by decide) (by decide) rfl (fun cq2 => absurd cq2 (by decide)) (fun cq2 => ?_)
  refine Rn.aloadN (pc' := 15) d17_14 rfl rfl rfl ?_
  refine Rn.castY (pc' := 18) (hw _ (List.mem_of_getElem? (i := 77) rfl)) (Ins.self E') d17_15 rfl ?_
  refine Rn.astoreN (pc' := 19) (Ls' := #[.val (.ref x), .val (.ref y), .val (.ref y)]) d17_18 rfl rfl rfl ?_
  refine Rn.old fun Oq3 _ => ?_
  refine Rn.getS (pc' := 22) (hw _ (List.mem_of_getElem? (i := 15) rfl)) Via.refl (S.ext Oq3) d17_19 rfl ?_
  refine Rn.if_eq (pc' := 36) (pn := 25) d17_22 (by decide) (by decide) rfl (fun cq4 => absurd cq4 hz) (fun cq4 => ?_)
  refine Rn.aloadN (pc' := 26) d17_25 rfl rfl rfl ?_
  refine Rn.getF (pc' := 29) (host := "") (Or.inl (hw _ (List.mem_of_getElem? (i := 27) rfl))) Via.refl Co d17_26 rfl ?_
  refine Rn.aloadN (pc' := 30) d17_29 rfl rfl rfl ?_
  refine Rn.getF (pc' := 33) (host := "") (Or.inl (hw _ (List.mem_of_getElem? (i := 27) rfl))) Via.refl Co' d17_30 rfl ?_
  refine Rn.icmp_ne (pc' := 54) (pn := 36) d17_33 (by decide) (by decide) rfl (fun cq5 => absurd cq5 (by decide)) (fun cq5 => ?_)
  refine Rn.aloadN (pc' := 37) d17_36 rfl rfl rfl ?_
  refine Rn.getF (pc' := 40) (host := "") (Or.inl (hw _ (List.mem_of_getElem? (i := 29) rfl))) Via.refl V d17_37 rfl ?_
  refine Rn.aloadN (pc' := 41) d17_40 rfl rfl rfl ?_
  refine Rn.getF (pc' := 44) (host := "") (Or.inl (hw _ (List.mem_of_getElem? (i := 29) rfl))) Via.refl V' d17_41 rfl ?_
  refine Rn.callS (pc' := 47) (argsL := [.ref t, .ref u]) (rest := []) (ct_leq2_1 Z a0 hw t u b0 b1 d0 h0 A B) (hw _ (List.mem_of_getElem? (i := 126) rfl)) (hw _ (List.mem_of_getElem? (i := 127) rfl)) (hw _ (List.mem_of_getElem? (i := 75) rfl)) (hw _ (List.mem_of_getElem? (i := 128) rfl)) (by decide) rfl rfl (lenOf pd_0 rfl) rfl d17_44 rfl (Nat.le_of_ble_eq_true rfl) (Nat.le_of_ble_eq_true rfl) (Nat.le_of_ble_eq_true rfl) (Nat.le_of_ble_eq_true rfl) (fun _ z => nomatch z) (fun _ z => nomatch z) (fun vq6 hq7 Kq8 qq9 => ?_)
  obtain ⟨rfl, rfl⟩ := qq9
  simp only [Option.toList, List.cons_append, List.nil_append]
  refine Rn.if_eq (pc' := 54) (pn := 50) d17_47 (by decide) (by decide) rfl (fun cq10 => ?_) (fun cq10 => ?_)
  ·
    refine Rn.iconst (pc' := 55) (v := (0 : Int32)) d17_54 rfl rfl ?_
    refine Rn.retN (t := .boolean) rfl (by simp) d17_55 (Nat.le_of_ble_eq_true rfl) (Nat.le_of_ble_eq_true rfl) ?_
    refine ⟨?_, rfl⟩
    first | exact own_if_t (by by_cases q : [b0, b1] = [d0]; exact q; simp_all) | exact own_if_f (fun q => by simp_all)
  ·
    refine Rn.iconst (pc' := 51) (v := (1 : Int32)) d17_50 rfl rfl ?_
    refine Rn.goto (pc' := 55) d17_51 (by decide) (by decide) ?_
    refine Rn.retN (t := .boolean) rfl (by simp) d17_55 (Nat.le_of_ble_eq_true rfl) (Nat.le_of_ble_eq_true rfl) ?_
    refine ⟨?_, rfl⟩
    first | exact own_if_t (by by_cases q : [b0, b1] = [d0]; exact q; simp_all) | exact own_if_f (fun q => by simp_all)
theorem d9_0 : decode prog_53_method_9_code 0 = .ok (.aload_n 1, 1) := by decide +kernel
theorem d9_1 : decode prog_53_method_9_code 1 = .ok (.instanceof 8, 3) := by decide +kernel
theorem d9_4 : decode prog_53_method_9_code 4 = .ok (.ifCond .eq 70, 3) := by decide +kernel
theorem d9_7 : decode prog_53_method_9_code 7 = .ok (.aload_n 1, 1) := by decide +kernel
theorem d9_8 : decode prog_53_method_9_code 8 = .ok (.checkcast 8, 3) := by decide +kernel
theorem d9_11 : decode prog_53_method_9_code 11 = .ok (.astore_n 2, 1) := by decide +kernel
theorem d9_12 : decode prog_53_method_9_code 12 = .ok (.aload_n 0, 1) := by decide +kernel
theorem d9_13 : decode prog_53_method_9_code 13 = .ok (.getfield 7, 3) := by decide +kernel
theorem d9_16 : decode prog_53_method_9_code 16 = .ok (.aload_n 2, 1) := by decide +kernel
theorem d9_17 : decode prog_53_method_9_code 17 = .ok (.getfield 7, 3) := by decide +kernel
theorem d9_20 : decode prog_53_method_9_code 20 = .ok (.if_icmp .ne 54, 3) := by decide +kernel
theorem d9_23 : decode prog_53_method_9_code 23 = .ok (.aload_n 0, 1) := by decide +kernel
theorem d9_24 : decode prog_53_method_9_code 24 = .ok (.getfield 13, 3) := by decide +kernel
theorem d9_27 : decode prog_53_method_9_code 27 = .ok (.aload_n 2, 1) := by decide +kernel
theorem d9_28 : decode prog_53_method_9_code 28 = .ok (.getfield 13, 3) := by decide +kernel
theorem d9_31 : decode prog_53_method_9_code 31 = .ok (.if_acmp .ne 43, 3) := by decide +kernel
theorem d9_34 : decode prog_53_method_9_code 34 = .ok (.aload_n 0, 1) := by decide +kernel
theorem d9_35 : decode prog_53_method_9_code 35 = .ok (.getfield 17, 3) := by decide +kernel
theorem d9_38 : decode prog_53_method_9_code 38 = .ok (.aload_n 2, 1) := by decide +kernel
theorem d9_39 : decode prog_53_method_9_code 39 = .ok (.getfield 17, 3) := by decide +kernel
theorem d9_42 : decode prog_53_method_9_code 42 = .ok (.if_acmp .ne 32, 3) := by decide +kernel
theorem d9_45 : decode prog_53_method_9_code 45 = .ok (.aload_n 0, 1) := by decide +kernel
theorem d9_46 : decode prog_53_method_9_code 46 = .ok (.getfield 21, 3) := by decide +kernel
theorem d9_49 : decode prog_53_method_9_code 49 = .ok (.aload_n 2, 1) := by decide +kernel
theorem d9_50 : decode prog_53_method_9_code 50 = .ok (.getfield 21, 3) := by decide +kernel
theorem d9_53 : decode prog_53_method_9_code 53 = .ok (.if_icmp .ne 21, 3) := by decide +kernel
theorem d9_56 : decode prog_53_method_9_code 56 = .ok (.aload_n 0, 1) := by decide +kernel
theorem d9_57 : decode prog_53_method_9_code 57 = .ok (.getfield 24, 3) := by decide +kernel
theorem d9_60 : decode prog_53_method_9_code 60 = .ok (.aload_n 2, 1) := by decide +kernel
theorem d9_61 : decode prog_53_method_9_code 61 = .ok (.getfield 24, 3) := by decide +kernel
theorem d9_64 : decode prog_53_method_9_code 64 = .ok (.invokevirtual 77, 3) := by decide +kernel
theorem d9_67 : decode prog_53_method_9_code 67 = .ok (.ifCond .eq 7, 3) := by decide +kernel
theorem d9_70 : decode prog_53_method_9_code 70 = .ok (.iconst 1, 1) := by decide +kernel
theorem d9_71 : decode prog_53_method_9_code 71 = .ok (.goto 4, 3) := by decide +kernel
theorem d9_74 : decode prog_53_method_9_code 74 = .ok (.iconst 0, 1) := by decide +kernel
theorem d9_75 : decode prog_53_method_9_code 75 = .ok (.ireturn, 1) := by decide +kernel
set_option maxRecDepth 65536 in
set_option maxHeartbeats 40000000 in
theorem ct_eq1 (Z : State) (a0 : Array Value) (hw : ∀ d ∈ tables_1, d.before a0 Z = true) (r r' s t s' t' d e d' e' : Addr) (l c l' c' b0 b1 d0 : Int32) (z : Int32) (hz : z ≠ 0) (h0 : Heap) (T : own_Tr Z h0 r l d e c s) (T' : own_Tr Z h0 r' l' d' e' c' s') (G : Sg Z h0 s t [.int b0, .int b1]) (G' : Sg Z h0 s' t' [.int d0]) (hn : s ≠ s') (S : Sta Z Z.heap "java/lang/String" "COMPACT_STRINGS" "Z" (.int z)) :
    Ct Z ⟨"com/example/faultgauge/faultgauge/exec/TestResult", "equals", "(Ljava/lang/Object;)Z"⟩ prog_53_method_9_code 3 (Option.some FieldType.boolean) ({ frames := 2, cells := 0, slots := 0, locals := 28 } : Room) #[(.ref r), (.ref r')] h0 [] (fun v h => v = some (.int (if l = l' ∧ d = d' ∧ e = e' ∧ c = c' ∧ [b0, b1] = [d0] then 1 else 0)) ∧ h0 = h) := by
  refine Ct.intro (Ls := #[.val (.ref r), .val (.ref r'), .unset]) pn_1 (by intro m; first | (simp [entryFrame, mkF, argsToLocals, Value.category]; done) | rfl) ?_
  refine Rn.aloadN (pc' := 1) d9_0 rfl rfl rfl ?_
  refine Rn.instY (pc' := 4) (hw _ (List.mem_of_getElem? (i := 66) rfl)) (Ins.self T'.1) d9_1 rfl ?_
  refine Rn.if_eq (pc' := 74) (pn := 7) d9_4 (by decide) (by decide) rfl (fun cq1 => absurd cq1 (by decide)) (fun cq1 => ?_)
  refine Rn.aloadN (pc' := 8) d9_7 rfl rfl rfl ?_
  refine Rn.castY (pc' := 11) (hw _ (List.mem_of_getElem? (i := 66) rfl)) (Ins.self T'.1) d9_8 rfl ?_
  refine Rn.astoreN (pc' := 12) (Ls' := #[.val (.ref r), .val (.ref r'), .val (.ref r')]) d9_11 rfl rfl rfl ?_
  refine Rn.aloadN (pc' := 13) d9_12 rfl rfl rfl ?_
  refine Rn.getF (pc' := 16) (host := "") (Or.inl (hw _ (List.mem_of_getElem? (i := 51) rfl))) Via.refl T.2.1 d9_13 rfl ?_
  refine Rn.aloadN (pc' := 17) d9_16 rfl rfl rfl ?_
  refine Rn.getF (pc' := 20) (host := "") (Or.inl (hw _ (List.mem_of_getElem? (i := 51) rfl))) Via.refl T'.2.1 d9_17 rfl ?_
  refine Rn.icmp_ne (pc' := 74) (pn := 23) d9_20 (by decide) (by decide) rfl (fun cq2 => ?_) (fun cq2 => ?_)
  ·
    refine Rn.iconst (pc' := 75) (v := (0 : Int32)) d9_74 rfl rfl ?_
    refine Rn.retN (t := .boolean) rfl (by simp) d9_75 (Nat.le_of_ble_eq_true rfl) (Nat.le_of_ble_eq_true rfl) ?_
    refine ⟨?_, rfl⟩
    exact own_if_f (fun q => cq2 q.1)
  ·
    refine Rn.aloadN (pc' := 24) d9_23 rfl rfl rfl ?_
    refine Rn.getF (pc' := 27) (host := "") (Or.inl (hw _ (List.mem_of_getElem? (i := 53) rfl))) Via.refl T.2.2.1 d9_24 rfl ?_
    refine Rn.aloadN (pc' := 28) d9_27 rfl rfl rfl ?_
    refine Rn.getF (pc' := 31) (host := "") (Or.inl (hw _ (List.mem_of_getElem? (i := 53) rfl))) Via.refl T'.2.2.1 d9_28 rfl ?_
    refine Rn.acmp_ne (pc' := 74) (pn := 34) rfl rfl d9_31 (by decide) (by decide) rfl (fun cq3 => ?_) (fun cq3 => ?_)
    ·
      refine Rn.iconst (pc' := 75) (v := (0 : Int32)) d9_74 rfl rfl ?_
      refine Rn.retN (t := .boolean) rfl (by simp) d9_75 (Nat.le_of_ble_eq_true rfl) (Nat.le_of_ble_eq_true rfl) ?_
      refine ⟨?_, rfl⟩
      exact own_if_f (fun q => cq3 (congrArg Value.ref q.2.1))
    ·
      refine Rn.aloadN (pc' := 35) d9_34 rfl rfl rfl ?_
      refine Rn.getF (pc' := 38) (host := "") (Or.inl (hw _ (List.mem_of_getElem? (i := 55) rfl))) Via.refl T.2.2.2.1 d9_35 rfl ?_
      refine Rn.aloadN (pc' := 39) d9_38 rfl rfl rfl ?_
      refine Rn.getF (pc' := 42) (host := "") (Or.inl (hw _ (List.mem_of_getElem? (i := 55) rfl))) Via.refl T'.2.2.2.1 d9_39 rfl ?_
      refine Rn.acmp_ne (pc' := 74) (pn := 45) rfl rfl d9_42 (by decide) (by decide) rfl (fun cq4 => ?_) (fun cq4 => ?_)
      ·
        refine Rn.iconst (pc' := 75) (v := (0 : Int32)) d9_74 rfl rfl ?_
        refine Rn.retN (t := .boolean) rfl (by simp) d9_75 (Nat.le_of_ble_eq_true rfl) (Nat.le_of_ble_eq_true rfl) ?_
        refine ⟨?_, rfl⟩
        exact own_if_f (fun q => cq4 (congrArg Value.ref q.2.2.1))
      ·
        refine Rn.aloadN (pc' := 46) d9_45 rfl rfl rfl ?_
        refine Rn.getF (pc' := 49) (host := "") (Or.inl (hw _ (List.mem_of_getElem? (i := 57) rfl))) Via.refl T.2.2.2.2.1 d9_46 rfl ?_
        refine Rn.aloadN (pc' := 50) d9_49 rfl rfl rfl ?_
        refine Rn.getF (pc' := 53) (host := "") (Or.inl (hw _ (List.mem_of_getElem? (i := 57) rfl))) Via.refl T'.2.2.2.2.1 d9_50 rfl ?_
        refine Rn.icmp_ne (pc' := 74) (pn := 56) d9_53 (by decide) (by decide) rfl (fun cq5 => ?_) (fun cq5 => ?_)
        ·
          refine Rn.iconst (pc' := 75) (v := (0 : Int32)) d9_74 rfl rfl ?_
          refine Rn.retN (t := .boolean) rfl (by simp) d9_75 (Nat.le_of_ble_eq_true rfl) (Nat.le_of_ble_eq_true rfl) ?_
          refine ⟨?_, rfl⟩
          exact own_if_f (fun q => cq5 q.2.2.2.1)
        ·
          refine Rn.aloadN (pc' := 57) d9_56 rfl rfl rfl ?_
          refine Rn.getF (pc' := 60) (host := "") (Or.inl (hw _ (List.mem_of_getElem? (i := 59) rfl))) Via.refl T.2.2.2.2.2 d9_57 rfl ?_
          refine Rn.aloadN (pc' := 61) d9_60 rfl rfl rfl ?_
          refine Rn.getF (pc' := 64) (host := "") (Or.inl (hw _ (List.mem_of_getElem? (i := 59) rfl))) Via.refl T'.2.2.2.2.2 d9_61 rfl ?_
          refine Rn.callV (pc' := 67) (argsL := [.ref s']) (a := s) (rest := []) (ct_seq2_1 Z a0 hw s t s' t' b0 b1 d0 z hz h0 G G' hn S) G.1 (hw _ (List.mem_of_getElem? (i := 121) rfl)) (hw _ (List.mem_of_getElem? (i := 122) rfl)) (fun _ hZ => notFace_of_selects (args := #[]) (mvT hZ (hw _ (List.mem_of_getElem? (i := 124) rfl)))) (hw _ (List.mem_of_getElem? (i := 124) rfl)) (hw _ (List.mem_of_getElem? (i := 123) rfl)) (hw _ (List.mem_of_getElem? (i := 3) rfl)) (hw _ (List.mem_of_getElem? (i := 125) rfl)) (by decide) rfl rfl (lenOf pd_1 rfl) rfl d9_64 rfl (Nat.le_of_ble_eq_true rfl) (Nat.le_of_ble_eq_true rfl) (Nat.le_of_ble_eq_true rfl) (Nat.le_of_ble_eq_true rfl) (fun _ z => nomatch z) (fun _ z => nomatch z) (fun vq6 hq7 Kq8 qq9 => ?_)
          obtain ⟨rfl, rfl⟩ := qq9
          simp only [Option.toList, List.cons_append, List.nil_append]
          refine Rn.if_eq (pc' := 74) (pn := 70) d9_67 (by decide) (by decide) rfl (fun cq10 => ?_) (fun cq10 => ?_)
          ·
            refine Rn.iconst (pc' := 75) (v := (0 : Int32)) d9_74 rfl rfl ?_
            refine Rn.retN (t := .boolean) rfl (by simp) d9_75 (Nat.le_of_ble_eq_true rfl) (Nat.le_of_ble_eq_true rfl) ?_
            refine ⟨?_, rfl⟩
            exact own_if_f (fun q => absurd ((if_pos q.2.2.2.2).symm.trans cq10) (by decide))
          ·
            refine Rn.iconst (pc' := 71) (v := (1 : Int32)) d9_70 rfl rfl ?_
            refine Rn.goto (pc' := 75) d9_71 (by decide) (by decide) ?_
            refine Rn.retN (t := .boolean) rfl (by simp) d9_75 (Nat.le_of_ble_eq_true rfl) (Nat.le_of_ble_eq_true rfl) ?_
            refine ⟨?_, rfl⟩
            exact own_if_t ⟨cq2, Value.ref.inj cq3, Value.ref.inj cq4, cq5, by by_cases q : [b0, b1] = [d0]; exact q; exact absurd (if_neg q) cq10⟩
set_option maxRecDepth 65536 in
set_option maxHeartbeats 40000000 in
theorem ct_leq2_2 (Z : State) (a0 : Array Value) (hw : ∀ d ∈ tables_1, d.before a0 Z = true) (t u : Addr) (b0 b1 d0 d1 : Int32) (h0 : Heap) (A : Ax Z h0 t .byte [.int b0, .int b1]) (B : Ax Z h0 u .byte [.int d0, .int d1]) :
    Ct Z ⟨"java/lang/StringLatin1", "equals", "([B[B)Z"⟩ jdk_43_method_13_code 3 (Option.some FieldType.boolean) ({ frames := 0, cells := 0, slots := 0, locals := 0 } : Room) #[(.ref t), (.ref u)] h0 [] (fun v h => v = some (.int (if [b0, b1] = [d0, d1] then 1 else 0)) ∧ h0 = h) := by
  refine Ct.intro (Ls := #[.val (.ref t), .val (.ref u), .unset]) pn_2 (by intro m; first | (simp [entryFrame, mkF, argsToLocals, Value.category]; done) | rfl) ?_
  refine Rn.aloadN (pc' := 1) d18_0 rfl rfl rfl ?_
  refine Rn.arraylength (pc' := 2) (n := (2 : Int32)) A rfl d18_1 rfl ?_
  refine Rn.aloadN (pc' := 3) d18_2 rfl rfl rfl ?_
  refine Rn.arraylength (pc' := 4) (n := (2 : Int32)) B rfl d18_3 rfl ?_
  refine Rn.icmp_ne (pc' := 34) (pn := 7) d18_4 (by decide) (by decide) rfl (fun cq1 => absurd cq1 (by decide)) (fun cq1 => ?_)
  refine Rn.iconst (pc' := 8) (v := (0 : Int32)) d18_7 rfl rfl ?_
  refine Rn.istoreN (pc' := 9) (Ls' := #[.val (.ref t), .val (.ref u), .val (.int (0 : Int32))]) d18_8 rfl rfl ?_
  refine Rn.iloadN (pc' := 10) d18_9 rfl rfl ?_
  refine Rn.aloadN (pc' := 11) d18_10 rfl rfl rfl ?_
  refine Rn.arraylength (pc' := 12) (n := (2 : Int32)) A rfl d18_11 rfl ?_
  refine Rn.icmp_ge (pc' := 32) (pn := 15) d18_12 (by decide) (by decide) rfl (fun cq2 => absurd cq2 (by decide)) (fun cq2 => ?_)
  refine Rn.aloadN (pc' := 16) d18_15 rfl rfl rfl ?_
  refine Rn.iloadN (pc' := 17) d18_16 rfl rfl ?_
  refine Rn.baload (pc' := 18) (v := .int b0) A (by decide) rfl d18_17 rfl ?_
  refine Rn.aloadN (pc' := 19) d18_18 rfl rfl rfl ?_
  refine Rn.iloadN (pc' := 20) d18_19 rfl rfl ?_
  refine Rn.baload (pc' := 21) (v := .int d0) B (by decide) rfl d18_20 rfl ?_
  refine Rn.icmp_eq (pc' := 26) (pn := 24) d18_21 (by decide) (by decide) rfl (fun cq3 => ?_) (fun cq3 => ?_)
  ·
    refine Rn.iinc (pc' := 29) (v := (1 : Int32)) (Ls' := #[.val (.ref t), .val (.ref u), .val (.int (1 : Int32))]) d18_26 rfl rfl rfl rfl ?_
    refine Rn.goto (pc' := 9) d18_29 (by decide) (by decide) ?_
    refine Rn.iloadN (pc' := 10) d18_9 rfl rfl ?_
    refine Rn.aloadN (pc' := 11) d18_10 rfl rfl rfl ?_
    refine Rn.arraylength (pc' := 12) (n := (2 : Int32)) A rfl d18_11 rfl ?_
    refine Rn.icmp_ge (pc' := 32) (pn := 15) d18_12 (by decide) (by decide) rfl (fun cq4 => absurd cq4 (by decide)) (fun cq4 => ?_)
    refine Rn.aloadN (pc' := 16) d18_15 rfl rfl rfl ?_
    refine Rn.iloadN (pc' := 17) d18_16 rfl rfl ?_
    refine Rn.baload (pc' := 18) (v := .int b1) A (by decide) rfl d18_17 rfl ?_
    refine Rn.aloadN (pc' := 19) d18_18 rfl rfl rfl ?_
    refine Rn.iloadN (pc' := 20) d18_19 rfl rfl ?_
    refine Rn.baload (pc' := 21) (v := .int d1) B (by decide) rfl d18_20 rfl ?_
    refine Rn.icmp_eq (pc' := 26) (pn := 24) d18_21 (by decide) (by decide) rfl (fun cq5 => ?_) (fun cq5 => ?_)
    ·
      refine Rn.iinc (pc' := 29) (v := (2 : Int32)) (Ls' := #[.val (.ref t), .val (.ref u), .val (.int (2 : Int32))]) d18_26 rfl rfl rfl rfl ?_
      refine Rn.goto (pc' := 9) d18_29 (by decide) (by decide) ?_
      refine Rn.iloadN (pc' := 10) d18_9 rfl rfl ?_
      refine Rn.aloadN (pc' := 11) d18_10 rfl rfl rfl ?_
      refine Rn.arraylength (pc' := 12) (n := (2 : Int32)) A rfl d18_11 rfl ?_
      refine Rn.icmp_ge (pc' := 32) (pn := 15) d18_12 (by decide) (by decide) rfl (fun cq6 => ?_) (fun cq6 => absurd cq6 (by decide))
      refine Rn.iconst (pc' := 33) (v := (1 : Int32)) d18_32 rfl rfl ?_
      refine Rn.retN (t := .boolean) rfl (by simp) d18_33 (Nat.le_of_ble_eq_true rfl) (Nat.le_of_ble_eq_true rfl) ?_
      exact ⟨own_if_t (by simp only [*]), rfl⟩
    ·
      refine Rn.iconst (pc' := 25) (v := (0 : Int32)) d18_24 rfl rfl ?_
      refine Rn.retN (t := .boolean) rfl (by simp) d18_25 (Nat.le_of_ble_eq_true rfl) (Nat.le_of_ble_eq_true rfl) ?_
      exact ⟨own_if_f (fun q => by simp only [List.cons.injEq] at q; simp_all), rfl⟩
  ·
    refine Rn.iconst (pc' := 25) (v := (0 : Int32)) d18_24 rfl rfl ?_
    refine Rn.retN (t := .boolean) rfl (by simp) d18_25 (Nat.le_of_ble_eq_true rfl) (Nat.le_of_ble_eq_true rfl) ?_
    exact ⟨own_if_f (fun q => by simp only [List.cons.injEq] at q; simp_all), rfl⟩
set_option maxRecDepth 65536 in
set_option maxHeartbeats 40000000 in
theorem ct_seq2_2 (Z : State) (a0 : Array Value) (hw : ∀ d ∈ tables_1, d.before a0 Z = true) (x t y u : Addr) (b0 b1 d0 d1 : Int32) (z : Int32) (hz : z ≠ 0) (h0 : Heap) (G : Sg Z h0 x t [.int b0, .int b1]) (H : Sg Z h0 y u [.int d0, .int d1]) (hn : x ≠ y) (S : Sta Z Z.heap "java/lang/String" "COMPACT_STRINGS" "Z" (.int z)) :
    Ct Z ⟨"java/lang/String", "equals", "(Ljava/lang/Object;)Z"⟩ jdk_42_method_66_code 3 (Option.some FieldType.boolean) ({ frames := 1, cells := 0, slots := 0, locals := 14 } : Room) #[(.ref x), (.ref y)] h0 [] (fun v h => v = some (.int (if [b0, b1] = [d0, d1] then 1 else 0)) ∧ h0 = h) := by
  refine Ct.intro (Ls := #[.val (.ref x), .val (.ref y), .unset]) pn_3 (by intro m; first | (simp [entryFrame, mkF, argsToLocals, Value.category]; done) | rfl) ?_
  obtain ⟨E, Co, V, A⟩ := G
  obtain ⟨E', Co', V', B⟩ := H
  refine Rn.aloadN (pc' := 1) d17_0 rfl rfl rfl ?_
  refine Rn.aloadN (pc' := 2) d17_1 rfl rfl rfl ?_
  refine Rn.acmp_ne (pc' := 7) (pn := 5) rfl rfl d17_2 (by decide) (by decide) rfl (fun cq1 => ?_) (fun cq1 => absurd (Value.ref.inj cq1) hn)
  refine Rn.aloadN (pc' := 8) d17_7 rfl rfl rfl ?_
  refine Rn.instY (pc' := 11) (hw _ (List.mem_of_getElem? (i := 77) rfl)) (Ins.self E') d17_8 rfl ?_
  refine Rn.if_eq (pc' := 54) (pn := 14) d17_11 (by decide) (by decide) rfl (fun cq2 => absurd cq2 (by decide)) (fun cq2 => ?_)
  refine Rn.aloadN (pc' := 15) d17_14 rfl rfl rfl ?_
  refine Rn.castY (pc' := 18) (hw _ (List.mem_of_getElem? (i := 77) rfl)) (Ins.self E') d17_15 rfl ?_
  refine Rn.astoreN (pc' := 19) (Ls' := #[.val (.ref x), .val (.ref y), .val (.ref y)]) d17_18 rfl rfl rfl ?_
  refine Rn.old fun Oq3 _ => ?_
  refine Rn.getS (pc' := 22) (hw _ (List.mem_of_getElem? (i := 15) rfl)) Via.refl (S.ext Oq3) d17_19 rfl ?_
  refine Rn.if_eq (pc' := 36) (pn := 25) d17_22 (by decide) (by decide) rfl (fun cq4 => absurd cq4 hz) (fun cq4 => ?_)
  refine Rn.aloadN (pc' := 26) d17_25 rfl rfl rfl ?_
  refine Rn.getF (pc' := 29) (host := "") (Or.inl (hw _ (List.mem_of_getElem? (i := 27) rfl))) Via.refl Co d17_26 rfl ?_
  refine Rn.aloadN (pc' := 30) d17_29 rfl rfl rfl ?_
  refine Rn.getF (pc' := 33) (host := "") (Or.inl (hw _ (List.mem_of_getElem? (i := 27) rfl))) Via.refl Co' d17_30 rfl ?_
  refine Rn.icmp_ne (pc' := 54) (pn := 36) d17_33 (by decide) (by decide) rfl (fun cq5 => absurd cq5 (by decide)) (fun cq5 => ?_)
  refine Rn.aloadN (pc' := 37) d17_36 rfl rfl rfl ?_
  refine Rn.getF (pc' := 40) (host := "") (Or.inl (hw _ (List.mem_of_getElem? (i := 29) rfl))) Via.refl V d17_37 rfl ?_
  refine Rn.aloadN (pc' := 41) d17_40 rfl rfl rfl ?_
  refine Rn.getF (pc' := 44) (host := "") (Or.inl (hw _ (List.mem_of_getElem? (i := 29) rfl))) Via.refl V' d17_41 rfl ?_
  refine Rn.callS (pc' := 47) (argsL := [.ref t, .ref u]) (rest := []) (ct_leq2_2 Z a0 hw t u b0 b1 d0 d1 h0 A B) (hw _ (List.mem_of_getElem? (i := 126) rfl)) (hw _ (List.mem_of_getElem? (i := 127) rfl)) (hw _ (List.mem_of_getElem? (i := 75) rfl)) (hw _ (List.mem_of_getElem? (i := 128) rfl)) (by decide) rfl rfl (lenOf pd_0 rfl) rfl d17_44 rfl (Nat.le_of_ble_eq_true rfl) (Nat.le_of_ble_eq_true rfl) (Nat.le_of_ble_eq_true rfl) (Nat.le_of_ble_eq_true rfl) (fun _ z => nomatch z) (fun _ z => nomatch z) (fun vq6 hq7 Kq8 qq9 => ?_)
  obtain ⟨rfl, rfl⟩ := qq9
  simp only [Option.toList, List.cons_append, List.nil_append]
  refine Rn.if_eq (pc' := 54) (pn := 50) d17_47 (by decide) (by decide) rfl (fun cq10 => ?_) (fun cq10 => ?_)
  ·
    refine Rn.iconst (pc' := 55) (v := (0 : Int32)) d17_54 rfl rfl ?_
    refine Rn.retN (t := .boolean) rfl (by simp) d17_55 (Nat.le_of_ble_eq_true rfl) (Nat.le_of_ble_eq_true rfl) ?_
    refine ⟨?_, rfl⟩
    first | exact own_if_t (by by_cases q : [b0, b1] = [d0, d1]; exact q; simp_all) | exact own_if_f (fun q => by simp_all)
  ·
    refine Rn.iconst (pc' := 51) (v := (1 : Int32)) d17_50 rfl rfl ?_
    refine Rn.goto (pc' := 55) d17_51 (by decide) (by decide) ?_
    refine Rn.retN (t := .boolean) rfl (by simp) d17_55 (Nat.le_of_ble_eq_true rfl) (Nat.le_of_ble_eq_true rfl) ?_
    refine ⟨?_, rfl⟩
    first | exact own_if_t (by by_cases q : [b0, b1] = [d0, d1]; exact q; simp_all) | exact own_if_f (fun q => by simp_all)
set_option maxRecDepth 65536 in
set_option maxHeartbeats 40000000 in
theorem ct_eq2 (Z : State) (a0 : Array Value) (hw : ∀ d ∈ tables_1, d.before a0 Z = true) (r r' s t s' t' d e d' e' : Addr) (l c l' c' b0 b1 d0 d1 : Int32) (z : Int32) (hz : z ≠ 0) (h0 : Heap) (T : own_Tr Z h0 r l d e c s) (T' : own_Tr Z h0 r' l' d' e' c' s') (G : Sg Z h0 s t [.int b0, .int b1]) (G' : Sg Z h0 s' t' [.int d0, .int d1]) (hn : s ≠ s') (S : Sta Z Z.heap "java/lang/String" "COMPACT_STRINGS" "Z" (.int z)) :
    Ct Z ⟨"com/example/faultgauge/faultgauge/exec/TestResult", "equals", "(Ljava/lang/Object;)Z"⟩ prog_53_method_9_code 3 (Option.some FieldType.boolean) ({ frames := 2, cells := 0, slots := 0, locals := 28 } : Room) #[(.ref r), (.ref r')] h0 [] (fun v h => v = some (.int (if l = l' ∧ d = d' ∧ e = e' ∧ c = c' ∧ [b0, b1] = [d0, d1] then 1 else 0)) ∧ h0 = h) := by
  refine Ct.intro (Ls := #[.val (.ref r), .val (.ref r'), .unset]) pn_1 (by intro m; first | (simp [entryFrame, mkF, argsToLocals, Value.category]; done) | rfl) ?_
  refine Rn.aloadN (pc' := 1) d9_0 rfl rfl rfl ?_
  refine Rn.instY (pc' := 4) (hw _ (List.mem_of_getElem? (i := 66) rfl)) (Ins.self T'.1) d9_1 rfl ?_
  refine Rn.if_eq (pc' := 74) (pn := 7) d9_4 (by decide) (by decide) rfl (fun cq1 => absurd cq1 (by decide)) (fun cq1 => ?_)
  refine Rn.aloadN (pc' := 8) d9_7 rfl rfl rfl ?_
  refine Rn.castY (pc' := 11) (hw _ (List.mem_of_getElem? (i := 66) rfl)) (Ins.self T'.1) d9_8 rfl ?_
  refine Rn.astoreN (pc' := 12) (Ls' := #[.val (.ref r), .val (.ref r'), .val (.ref r')]) d9_11 rfl rfl rfl ?_
  refine Rn.aloadN (pc' := 13) d9_12 rfl rfl rfl ?_
  refine Rn.getF (pc' := 16) (host := "") (Or.inl (hw _ (List.mem_of_getElem? (i := 51) rfl))) Via.refl T.2.1 d9_13 rfl ?_
  refine Rn.aloadN (pc' := 17) d9_16 rfl rfl rfl ?_
  refine Rn.getF (pc' := 20) (host := "") (Or.inl (hw _ (List.mem_of_getElem? (i := 51) rfl))) Via.refl T'.2.1 d9_17 rfl ?_
  refine Rn.icmp_ne (pc' := 74) (pn := 23) d9_20 (by decide) (by decide) rfl (fun cq2 => ?_) (fun cq2 => ?_)
  ·
    refine Rn.iconst (pc' := 75) (v := (0 : Int32)) d9_74 rfl rfl ?_
    refine Rn.retN (t := .boolean) rfl (by simp) d9_75 (Nat.le_of_ble_eq_true rfl) (Nat.le_of_ble_eq_true rfl) ?_
    refine ⟨?_, rfl⟩
    exact own_if_f (fun q => cq2 q.1)
  ·
    refine Rn.aloadN (pc' := 24) d9_23 rfl rfl rfl ?_
    refine Rn.getF (pc' := 27) (host := "") (Or.inl (hw _ (List.mem_of_getElem? (i := 53) rfl))) Via.refl T.2.2.1 d9_24 rfl ?_
    refine Rn.aloadN (pc' := 28) d9_27 rfl rfl rfl ?_
    refine Rn.getF (pc' := 31) (host := "") (Or.inl (hw _ (List.mem_of_getElem? (i := 53) rfl))) Via.refl T'.2.2.1 d9_28 rfl ?_
    refine Rn.acmp_ne (pc' := 74) (pn := 34) rfl rfl d9_31 (by decide) (by decide) rfl (fun cq3 => ?_) (fun cq3 => ?_)
    ·
      refine Rn.iconst (pc' := 75) (v := (0 : Int32)) d9_74 rfl rfl ?_
      refine Rn.retN (t := .boolean) rfl (by simp) d9_75 (Nat.le_of_ble_eq_true rfl) (Nat.le_of_ble_eq_true rfl) ?_
      refine ⟨?_, rfl⟩
      exact own_if_f (fun q => cq3 (congrArg Value.ref q.2.1))
    ·
      refine Rn.aloadN (pc' := 35) d9_34 rfl rfl rfl ?_
      refine Rn.getF (pc' := 38) (host := "") (Or.inl (hw _ (List.mem_of_getElem? (i := 55) rfl))) Via.refl T.2.2.2.1 d9_35 rfl ?_
      refine Rn.aloadN (pc' := 39) d9_38 rfl rfl rfl ?_
      refine Rn.getF (pc' := 42) (host := "") (Or.inl (hw _ (List.mem_of_getElem? (i := 55) rfl))) Via.refl T'.2.2.2.1 d9_39 rfl ?_
      refine Rn.acmp_ne (pc' := 74) (pn := 45) rfl rfl d9_42 (by decide) (by decide) rfl (fun cq4 => ?_) (fun cq4 => ?_)
      ·
        refine Rn.iconst (pc' := 75) (v := (0 : Int32)) d9_74 rfl rfl ?_
        refine Rn.retN (t := .boolean) rfl (by simp) d9_75 (Nat.le_of_ble_eq_true rfl) (Nat.le_of_ble_eq_true rfl) ?_
        refine ⟨?_, rfl⟩
        exact own_if_f (fun q => cq4 (congrArg Value.ref q.2.2.1))
      ·
        refine Rn.aloadN (pc' := 46) d9_45 rfl rfl rfl ?_
        refine Rn.getF (pc' := 49) (host := "") (Or.inl (hw _ (List.mem_of_getElem? (i := 57) rfl))) Via.refl T.2.2.2.2.1 d9_46 rfl ?_
        refine Rn.aloadN (pc' := 50) d9_49 rfl rfl rfl ?_
        refine Rn.getF (pc' := 53) (host := "") (Or.inl (hw _ (List.mem_of_getElem? (i := 57) rfl))) Via.refl T'.2.2.2.2.1 d9_50 rfl ?_
        refine Rn.icmp_ne (pc' := 74) (pn := 56) d9_53 (by decide) (by decide) rfl (fun cq5 => ?_) (fun cq5 => ?_)
        ·
          refine Rn.iconst (pc' := 75) (v := (0 : Int32)) d9_74 rfl rfl ?_
          refine Rn.retN (t := .boolean) rfl (by simp) d9_75 (Nat.le_of_ble_eq_true rfl) (Nat.le_of_ble_eq_true rfl) ?_
          refine ⟨?_, rfl⟩
          exact own_if_f (fun q => cq5 q.2.2.2.1)
        ·
          refine Rn.aloadN (pc' := 57) d9_56 rfl rfl rfl ?_
          refine Rn.getF (pc' := 60) (host := "") (Or.inl (hw _ (List.mem_of_getElem? (i := 59) rfl))) Via.refl T.2.2.2.2.2 d9_57 rfl ?_
          refine Rn.aloadN (pc' := 61) d9_60 rfl rfl rfl ?_
          refine Rn.getF (pc' := 64) (host := "") (Or.inl (hw _ (List.mem_of_getElem? (i := 59) rfl))) Via.refl T'.2.2.2.2.2 d9_61 rfl ?_
          refine Rn.callV (pc' := 67) (argsL := [.ref s']) (a := s) (rest := []) (ct_seq2_2 Z a0 hw s t s' t' b0 b1 d0 d1 z hz h0 G G' hn S) G.1 (hw _ (List.mem_of_getElem? (i := 121) rfl)) (hw _ (List.mem_of_getElem? (i := 122) rfl)) (fun _ hZ => notFace_of_selects (args := #[]) (mvT hZ (hw _ (List.mem_of_getElem? (i := 124) rfl)))) (hw _ (List.mem_of_getElem? (i := 124) rfl)) (hw _ (List.mem_of_getElem? (i := 123) rfl)) (hw _ (List.mem_of_getElem? (i := 3) rfl)) (hw _ (List.mem_of_getElem? (i := 125) rfl)) (by decide) rfl rfl (lenOf pd_1 rfl) rfl d9_64 rfl (Nat.le_of_ble_eq_true rfl) (Nat.le_of_ble_eq_true rfl) (Nat.le_of_ble_eq_true rfl) (Nat.le_of_ble_eq_true rfl) (fun _ z => nomatch z) (fun _ z => nomatch z) (fun vq6 hq7 Kq8 qq9 => ?_)
          obtain ⟨rfl, rfl⟩ := qq9
          simp only [Option.toList, List.cons_append, List.nil_append]
          refine Rn.if_eq (pc' := 74) (pn := 70) d9_67 (by decide) (by decide) rfl (fun cq10 => ?_) (fun cq10 => ?_)
          ·
            refine Rn.iconst (pc' := 75) (v := (0 : Int32)) d9_74 rfl rfl ?_
            refine Rn.retN (t := .boolean) rfl (by simp) d9_75 (Nat.le_of_ble_eq_true rfl) (Nat.le_of_ble_eq_true rfl) ?_
            refine ⟨?_, rfl⟩
            exact own_if_f (fun q => absurd ((if_pos q.2.2.2.2).symm.trans cq10) (by decide))
          ·
            refine Rn.iconst (pc' := 71) (v := (1 : Int32)) d9_70 rfl rfl ?_
            refine Rn.goto (pc' := 75) d9_71 (by decide) (by decide) ?_
            refine Rn.retN (t := .boolean) rfl (by simp) d9_75 (Nat.le_of_ble_eq_true rfl) (Nat.le_of_ble_eq_true rfl) ?_
            refine ⟨?_, rfl⟩
            exact own_if_t ⟨cq2, Value.ref.inj cq3, Value.ref.inj cq4, cq5, by by_cases q : [b0, b1] = [d0, d1]; exact q; exact absurd (if_neg q) cq10⟩
set_option maxRecDepth 65536 in
set_option maxHeartbeats 40000000 in
theorem ct_eqn (Z : State) (a0 : Array Value) (hw : ∀ d ∈ tables_1, d.before a0 Z = true) (r : Addr) (h0 : Heap) :
    Ct Z ⟨"com/example/faultgauge/faultgauge/exec/TestResult", "equals", "(Ljava/lang/Object;)Z"⟩ prog_53_method_9_code 3 (Option.some FieldType.boolean) ({ frames := 0, cells := 0, slots := 0, locals := 0 } : Room) #[(.ref r), (.null)] h0 [] (fun v h => v = some (.int (0 : Int32)) ∧ h0 = h) := by
  refine Ct.intro (Ls := #[.val (.ref r), .val (.null), .unset]) pn_1 (by intro m; first | (simp [entryFrame, mkF, argsToLocals, Value.category]; done) | rfl) ?_
  refine Rn.aloadN (pc' := 1) d9_0 rfl rfl rfl ?_
  refine Rn.instNull (pc' := 4) d9_1 rfl ?_
  refine Rn.if_eq (pc' := 74) (pn := 7) d9_4 (by decide) (by decide) rfl (fun cq1 => ?_) (fun cq1 => absurd cq1 (by decide))
  refine Rn.iconst (pc' := 75) (v := (0 : Int32)) d9_74 rfl rfl ?_
  refine Rn.retN (t := .boolean) rfl (by simp) d9_75 (Nat.le_of_ble_eq_true rfl) (Nat.le_of_ble_eq_true rfl) ?_
  exact ⟨rfl, rfl⟩
set_option maxRecDepth 65536 in
set_option maxHeartbeats 40000000 in
theorem ct_eqi (Z : State) (a0 : Array Value) (hw : ∀ d ∈ tables_1, d.before a0 Z = true) (r x : Addr) (h0 : Heap) (E : Exa Z h0 x "java/lang/Integer") :
    Ct Z ⟨"com/example/faultgauge/faultgauge/exec/TestResult", "equals", "(Ljava/lang/Object;)Z"⟩ prog_53_method_9_code 3 (Option.some FieldType.boolean) ({ frames := 0, cells := 0, slots := 0, locals := 0 } : Room) #[(.ref r), (.ref x)] h0 [] (fun v h => v = some (.int (0 : Int32)) ∧ h0 = h) := by
  refine Ct.intro (Ls := #[.val (.ref r), .val (.ref x), .unset]) pn_1 (by intro m; first | (simp [entryFrame, mkF, argsToLocals, Value.category]; done) | rfl) ?_
  refine Rn.aloadN (pc' := 1) d9_0 rfl rfl rfl ?_
  refine Rn.instNo (pc' := 4) (hw _ (List.mem_of_getElem? (i := 66) rfl)) E (ns_no (hw _ (List.mem_of_getElem? (i := 105) rfl)) (hw _ (List.mem_of_getElem? (i := 32) rfl)) (NS.step (hw _ (List.mem_of_getElem? (i := 105) rfl)) (NS.step (hw _ (List.mem_of_getElem? (i := 106) rfl)) (ns_root (hw _ (List.mem_of_getElem? (i := 107) rfl)) (hw _ (List.mem_of_getElem? (i := 32) rfl)) (by decide)) (by decide)) (by decide)) (by decide)) d9_1 rfl ?_
  refine Rn.if_eq (pc' := 74) (pn := 7) d9_4 (by decide) (by decide) rfl (fun cq1 => ?_) (fun cq1 => absurd cq1 (by decide))
  refine Rn.iconst (pc' := 75) (v := (0 : Int32)) d9_74 rfl rfl ?_
  refine Rn.retN (t := .boolean) rfl (by simp) d9_75 (Nat.le_of_ble_eq_true rfl) (Nat.le_of_ble_eq_true rfl) ?_
  exact ⟨rfl, rfl⟩
theorem d16_0 : decode jdk_18_method_1_code 0 = .ok (.aload_n 0, 1) := by decide +kernel
theorem d16_1 : decode jdk_18_method_1_code 1 = .ok (.invokespecial 1, 3) := by decide +kernel
theorem d16_4 : decode jdk_18_method_1_code 4 = .ok (.return_, 1) := by decide +kernel
set_option maxRecDepth 65536 in
set_option maxHeartbeats 40000000 in
theorem ct_nu (Z : State) (a0 : Array Value) (hw : ∀ d ∈ tables_1, d.before a0 Z = true) (a : Addr) (h0 : Heap) :
    Ct Z ⟨"java/lang/Number", "<init>", "()V"⟩ jdk_18_method_1_code 1 (Option.none : Option FieldType) ({ frames := 1, cells := 0, slots := 0, locals := 12 } : Room) #[(.ref a)] h0 [] (fun v h => v = none ∧ h0 = h) := by
  refine Ct.intro (Ls := #[.val (.ref a)]) pn_4 (by intro m; first | (simp [entryFrame, mkF, argsToLocals, Value.category]; done) | rfl) ?_
  refine Rn.aloadN (pc' := 1) d16_0 rfl rfl rfl ?_
  refine Rn.initO (pc' := 4) (hw _ (List.mem_of_getElem? (i := 102) rfl)) (hw _ (List.mem_of_getElem? (i := 13) rfl)) (hw _ (List.mem_of_getElem? (i := 14) rfl)) rfl d16_1 (Nat.le_of_ble_eq_true rfl) (Nat.le_of_ble_eq_true rfl) rfl ?_
  refine Rn.retV rfl d16_4 (Nat.le_of_ble_eq_true rfl) (Nat.le_of_ble_eq_true rfl) ?_
  exact ⟨rfl, rfl⟩
theorem d15_0 : decode jdk_33_method_23_code 0 = .ok (.aload_n 0, 1) := by decide +kernel
theorem d15_1 : decode jdk_33_method_23_code 1 = .ok (.invokespecial 202, 3) := by decide +kernel
theorem d15_4 : decode jdk_33_method_23_code 4 = .ok (.aload_n 0, 1) := by decide +kernel
theorem d15_5 : decode jdk_33_method_23_code 5 = .ok (.iload_n 1, 1) := by decide +kernel
theorem d15_6 : decode jdk_33_method_23_code 6 = .ok (.putfield 205, 3) := by decide +kernel
theorem d15_9 : decode jdk_33_method_23_code 9 = .ok (.return_, 1) := by decide +kernel
set_option maxRecDepth 65536 in
set_option maxHeartbeats 40000000 in
theorem ct_ii (Z : State) (a0 : Array Value) (hw : ∀ d ∈ tables_1, d.before a0 Z = true) (x : Addr) (a : Int32) (h0 : Heap) (E : Exa Z h0 x "java/lang/Integer") (F : Fld Z h0 x "java/lang/Integer" "value" "I" (.int (0 : Int32))) :
    Ct Z ⟨"java/lang/Integer", "<init>", "(I)V"⟩ jdk_33_method_23_code 2 (Option.none : Option FieldType) ({ frames := 2, cells := 0, slots := 0, locals := 24 } : Room) #[(.ref x), (.int a)] h0 [x] (fun v h => v = none ∧ Exa Z h x "java/lang/Integer") := by
  refine Ct.intro (Ls := #[.val (.ref x), .val (.int a)]) pn_5 (by intro m; first | (simp [entryFrame, mkF, argsToLocals, Value.category]; done) | rfl) ?_
  refine Rn.aloadN (pc' := 1) d15_0 rfl rfl rfl ?_
  refine Rn.callI (pc' := 4) (argsL := []) (a := x) (rest := []) (ct_nu Z a0 hw x h0) rfl (hw _ (List.mem_of_getElem? (i := 96) rfl)) (hw _ (List.mem_of_getElem? (i := 97) rfl)) (hw _ (List.mem_of_getElem? (i := 100) rfl)) (hw _ (List.mem_of_getElem? (i := 101) rfl)) (by decide) rfl rfl (lenOf pd_2 rfl) rfl d15_1 rfl (Nat.le_of_ble_eq_true rfl) (Nat.le_of_ble_eq_true rfl) (Nat.le_of_ble_eq_true rfl) (Nat.le_of_ble_eq_true rfl) (fun _ z => nomatch z) (fun _ z => nomatch z) (fun vq1 hq2 Kq3 qq4 => ?_)
  obtain ⟨rfl, rfl⟩ := qq4
  simp only [Option.toList, List.cons_append, List.nil_append]
  refine Rn.aloadN (pc' := 5) d15_4 rfl rfl rfl ?_
  refine Rn.iloadN (pc' := 6) d15_5 rfl rfl ?_
  refine Rn.putF (pc' := 9) (hw _ (List.mem_of_getElem? (i := 103) rfl)) Via.refl F E (Or.inr ⟨(hw _ (List.mem_of_getElem? (i := 104) rfl)), rfl, rfl⟩) (hw _ (List.mem_of_getElem? (i := 91) rfl)) (ty := .int) (by decide) rfl rfl (Or.inl (List.mem_of_getElem? (i := 0) rfl)) Sf.no d15_6 rfl (fun hq6 Wq5 => ?_)
  have Fq7 := F.same Wq5
  refine Rn.retV rfl d15_9 (Nat.le_of_ble_eq_true rfl) (Nat.le_of_ble_eq_true rfl) ?_
  have Fq8 := E.wr Wq5
  exact ⟨rfl, Fq8⟩
theorem own_idx {a : Int32} (h1 : ¬ a < (-128 : Int32)) (h2 : ¬ (127 : Int32) < a) : ¬ (a + (128 : Int32)) < 0 ∧ (a + (128 : Int32)).toNatClampNeg < 256 := by
  rw [Int32.lt_iff_toInt_lt] at h1 h2 ⊢
  have e1 : (-128 : Int32).toInt = -128 := rfl
  have e2 : (127 : Int32).toInt = 127 := rfl
  have e3 : (128 : Int32).toInt = 128 := rfl
  have e0 : (0 : Int32).toInt = 0 := rfl
  have c := c_iadd a 128
  have r := rng32 (a + (128 : Int32))
  simp only [Int32.toNatClampNeg]
  omega
def own_Ch (Z : State) (vs : List Value) : Prop := ∀ j : Int32, ¬ j < 0 → j.toNatClampNeg < 256 → ∃ x, vs[j.toNatClampNeg]? = some (.ref x) ∧ Exa Z Z.heap x "java/lang/Integer"
theorem own_chs {Z : State} {args : Array Value} {t : Term} {F' : Jvm.Cond} {a : Addr} {c : Cell} (et : ∀ idx, t.eval args Z none idx Z = some (.ref a)) (A : Arr Z Z.heap a c (.object "java/lang/Integer")) (hs : c.slots.size = 256)
    (h : (Jvm.Cond.all t (.and (.exactly (.elem t (.index 0)) "java/lang/Integer") F')).value args Z none Z [] = some true) : own_Ch Z c.slots.toList := by
  intro j nn hj
  obtain ⟨u1, -⟩ := and_e (Cond.all_elim (et []) (A.fin (Vm.Alike.refl _)) h j.toNatClampNeg (by rw [hs]; exact hj))
  obtain ⟨box, eb⟩ := exa_v u1
  refine ⟨box, ?_, exa_at eb u1⟩
  have := (elem_f (et _) (idx_at nn) (A.fin (Vm.Alike.refl _)) nn).symm.trans eb
  simpa using this
theorem d14_0 : decode jdk_33_method_22_code 0 = .ok (.iload_n 0, 1) := by decide +kernel
theorem d14_1 : decode jdk_33_method_22_code 1 = .ok (.bipush (-128), 2) := by decide +kernel
theorem d14_3 : decode jdk_33_method_22_code 3 = .ok (.if_icmp .lt 20, 3) := by decide +kernel
theorem d14_6 : decode jdk_33_method_22_code 6 = .ok (.iload_n 0, 1) := by decide +kernel
theorem d14_7 : decode jdk_33_method_22_code 7 = .ok (.getstatic 191, 3) := by decide +kernel
theorem d14_10 : decode jdk_33_method_22_code 10 = .ok (.if_icmp .gt 13, 3) := by decide +kernel
theorem d14_13 : decode jdk_33_method_22_code 13 = .ok (.getstatic 195, 3) := by decide +kernel
theorem d14_16 : decode jdk_33_method_22_code 16 = .ok (.iload_n 0, 1) := by decide +kernel
theorem d14_17 : decode jdk_33_method_22_code 17 = .ok (.sipush 128, 3) := by decide +kernel
theorem d14_20 : decode jdk_33_method_22_code 20 = .ok (.iadd, 1) := by decide +kernel
theorem d14_21 : decode jdk_33_method_22_code 21 = .ok (.aaload, 1) := by decide +kernel
theorem d14_22 : decode jdk_33_method_22_code 22 = .ok (.areturn, 1) := by decide +kernel
theorem d14_23 : decode jdk_33_method_22_code 23 = .ok (.new 1, 3) := by decide +kernel
theorem d14_26 : decode jdk_33_method_22_code 26 = .ok (.dup, 1) := by decide +kernel
theorem d14_27 : decode jdk_33_method_22_code 27 = .ok (.iload_n 0, 1) := by decide +kernel
theorem d14_28 : decode jdk_33_method_22_code 28 = .ok (.invokespecial 199, 3) := by decide +kernel
theorem d14_31 : decode jdk_33_method_22_code 31 = .ok (.areturn, 1) := by decide +kernel
set_option maxRecDepth 65536 in
set_option maxHeartbeats 40000000 in
theorem ct_iv (Z : State) (a0 : Array Value) (hw : ∀ d ∈ tables_1, d.before a0 Z = true) (a : Int32) (ca : Addr) (vs : List Value) (h0 : Heap) (S1 : Sta Z Z.heap "java/lang/Integer$IntegerCache" "high" "I" (.int (127 : Int32))) (S2 : Sta Z Z.heap "java/lang/Integer$IntegerCache" "cache" "[Ljava/lang/Integer;" (.ref ca)) (Ac : Ax Z Z.heap ca (.object "java/lang/Integer") vs) (hel : own_Ch Z vs) :
    Ct Z ⟨"java/lang/Integer", "valueOf", "(I)Ljava/lang/Integer;"⟩ jdk_33_method_22_code 1 (Option.some (FieldType.object "java/lang/Integer")) ({ frames := 3, cells := 1, slots := 1, locals := 39 } : Room) #[(.int a)] h0 [] (fun v h => ∃ x, v = some (.ref x) ∧ Exa Z h x "java/lang/Integer") := by
  refine Ct.intro (Ls := #[.val (.int a)]) pn_5 (by intro m; first | (simp [entryFrame, mkF, argsToLocals, Value.category]; done) | rfl) ?_
  refine Rn.iloadN (pc' := 1) d14_0 rfl rfl ?_
  refine Rn.bipush (pc' := 3) (v := (-128 : Int32)) d14_1 rfl rfl ?_
  refine Rn.icmp_lt (pc' := 23) (pn := 6) d14_3 (by decide) (by decide) rfl (fun cq1 => ?_) (fun cq1 => ?_)
  ·
    refine Rn.newO (pc' := 26) (hw _ (List.mem_of_getElem? (i := 90) rfl)) (hw _ (List.mem_of_getElem? (i := 91) rfl)) (hw _ (List.mem_of_getElem? (i := 88) rfl)) d14_23 (Nat.le_of_ble_eq_true rfl) (Nat.le_of_ble_eq_true rfl) rfl (fun hq3 aq2 eq4 gq5 Eq6 ⟨Aq7, Dq8, Uq9⟩ => ?_)
    have Fq10 : Fld Z hq3 aq2 "java/lang/Integer" "value" "I" (.int (0 : Int32)) := Dq8 (Or.inr (hw _ (List.mem_of_getElem? (i := 104) rfl))) (ty := .int) (by decide)
    refine Rn.dup (pc' := 27) d14_26 rfl rfl ?_
    refine Rn.iloadN (pc' := 28) d14_27 rfl rfl ?_
    refine Rn.callI (pc' := 31) (argsL := [.int a]) (a := aq2) (rest := [.ref aq2]) (ct_ii Z a0 hw aq2 a hq3 Aq7 Fq10) rfl (hw _ (List.mem_of_getElem? (i := 92) rfl)) (hw _ (List.mem_of_getElem? (i := 93) rfl)) (hw _ (List.mem_of_getElem? (i := 88) rfl)) (hw _ (List.mem_of_getElem? (i := 95) rfl)) (by decide) rfl rfl (lenOf pd_3 rfl) rfl d14_28 rfl (Nat.le_of_ble_eq_true rfl) (Nat.le_of_ble_eq_true rfl) (Nat.le_of_ble_eq_true rfl) (Nat.le_of_ble_eq_true rfl) (allS (Or.inr gq5) all0) (allS Sf.no (all0)) (fun vq11 hq12 Kq13 qq14 => ?_)
    obtain ⟨rfl, Ei⟩ := qq14
    simp only [Option.toList, List.cons_append, List.nil_append]
    refine Rn.retA (t := (.object "java/lang/Integer")) rfl rfl rfl d14_31 (Nat.le_of_ble_eq_true rfl) (Nat.le_of_ble_eq_true rfl) ?_
    exact ⟨_, rfl, Ei⟩
  ·
    refine Rn.iloadN (pc' := 7) d14_6 rfl rfl ?_
    refine Rn.old fun Oq15 _ => ?_
    refine Rn.getS (pc' := 10) (hw _ (List.mem_of_getElem? (i := 110) rfl)) Via.refl (S1.ext Oq15) d14_7 rfl ?_
    refine Rn.icmp_gt (pc' := 23) (pn := 13) d14_10 (by decide) (by decide) rfl (fun cq16 => ?_) (fun cq16 => ?_)
    ·
      refine Rn.newO (pc' := 26) (hw _ (List.mem_of_getElem? (i := 90) rfl)) (hw _ (List.mem_of_getElem? (i := 91) rfl)) (hw _ (List.mem_of_getElem? (i := 88) rfl)) d14_23 (Nat.le_of_ble_eq_true rfl) (Nat.le_of_ble_eq_true rfl) rfl (fun hq18 aq17 eq19 gq20 Eq21 ⟨Aq22, Dq23, Uq24⟩ => ?_)
      have Fq25 : Fld Z hq18 aq17 "java/lang/Integer" "value" "I" (.int (0 : Int32)) := Dq23 (Or.inr (hw _ (List.mem_of_getElem? (i := 104) rfl))) (ty := .int) (by decide)
      refine Rn.dup (pc' := 27) d14_26 rfl rfl ?_
      refine Rn.iloadN (pc' := 28) d14_27 rfl rfl ?_
      refine Rn.callI (pc' := 31) (argsL := [.int a]) (a := aq17) (rest := [.ref aq17]) (ct_ii Z a0 hw aq17 a hq18 Aq22 Fq25) rfl (hw _ (List.mem_of_getElem? (i := 92) rfl)) (hw _ (List.mem_of_getElem? (i := 93) rfl)) (hw _ (List.mem_of_getElem? (i := 88) rfl)) (hw _ (List.mem_of_getElem? (i := 95) rfl)) (by decide) rfl rfl (lenOf pd_3 rfl) rfl d14_28 rfl (Nat.le_of_ble_eq_true rfl) (Nat.le_of_ble_eq_true rfl) (Nat.le_of_ble_eq_true rfl) (Nat.le_of_ble_eq_true rfl) (allS (Or.inr gq20) all0) (allS Sf.no (all0)) (fun vq26 hq27 Kq28 qq29 => ?_)
      obtain ⟨rfl, Ei⟩ := qq29
      simp only [Option.toList, List.cons_append, List.nil_append]
      refine Rn.retA (t := (.object "java/lang/Integer")) rfl rfl rfl d14_31 (Nat.le_of_ble_eq_true rfl) (Nat.le_of_ble_eq_true rfl) ?_
      exact ⟨_, rfl, Ei⟩
    ·
      refine Rn.old fun Oq30 _ => ?_
      refine Rn.getS (pc' := 16) (hw _ (List.mem_of_getElem? (i := 112) rfl)) Via.refl (S2.ext Oq30) d14_13 rfl ?_
      refine Rn.iloadN (pc' := 17) d14_16 rfl rfl ?_
      refine Rn.sipush (pc' := 20) (v := (128 : Int32)) d14_17 rfl rfl ?_
      refine Rn.iadd (pc' := 21) (v := (a + (128 : Int32))) d14_20 rfl rfl ?_
      obtain ⟨hi1, hi2⟩ := own_idx cq1 cq16
      obtain ⟨xo, ex, Eo⟩ := hel _ hi1 hi2
      refine Rn.old fun O9 _ => ?_
      have Ac1 := Ac.ext O9
      refine Rn.aaload (pc' := 22) (v := .ref xo) Ac1 rfl hi1 ex d14_21 rfl ?_
      refine Rn.retA (t := (.object "java/lang/Integer")) rfl rfl rfl d14_22 (Nat.le_of_ble_eq_true rfl) (Nat.le_of_ble_eq_true rfl) ?_
      exact ⟨_, rfl, Eo.ext O9⟩
theorem d11_0 : decode jdk_43_method_3_code 0 = .ok (.iload_n 0, 1) := by decide +kernel
theorem d11_1 : decode jdk_43_method_3_code 1 = .ok (.sipush 255, 3) := by decide +kernel
theorem d11_4 : decode jdk_43_method_3_code 4 = .ok (.if_icmp .gt 7, 3) := by decide +kernel
theorem d11_7 : decode jdk_43_method_3_code 7 = .ok (.iconst 1, 1) := by decide +kernel
theorem d11_8 : decode jdk_43_method_3_code 8 = .ok (.goto 4, 3) := by decide +kernel
theorem d11_11 : decode jdk_43_method_3_code 11 = .ok (.iconst 0, 1) := by decide +kernel
theorem d11_12 : decode jdk_43_method_3_code 12 = .ok (.ireturn, 1) := by decide +kernel
set_option maxRecDepth 65536 in
set_option maxHeartbeats 40000000 in
theorem ct_cenc (Z : State) (a0 : Array Value) (hw : ∀ d ∈ tables_1, d.before a0 Z = true) (c : Int32) (hp : ¬ 255 < c) (h0 : Heap) :
    Ct Z ⟨"java/lang/StringLatin1", "canEncode", "(C)Z"⟩ jdk_43_method_3_code 1 (Option.some FieldType.boolean) ({ frames := 0, cells := 0, slots := 0, locals := 0 } : Room) #[(.int c)] h0 [] (fun v h => v = some (.int (1 : Int32)) ∧ h0 = h) := by
  refine Ct.intro (Ls := #[.val (.int c)]) pn_2 (by intro m; first | (simp [entryFrame, mkF, argsToLocals, Value.category]; done) | rfl) ?_
  refine Rn.iloadN (pc' := 1) d11_0 rfl rfl ?_
  refine Rn.sipush (pc' := 4) (v := (255 : Int32)) d11_1 rfl rfl ?_
  refine Rn.icmp_gt (pc' := 11) (pn := 7) d11_4 (by decide) (by decide) rfl (fun cq1 => absurd cq1 hp) (fun cq1 => ?_)
  refine Rn.iconst (pc' := 8) (v := (1 : Int32)) d11_7 rfl rfl ?_
  refine Rn.goto (pc' := 12) d11_8 (by decide) (by decide) ?_
  refine Rn.retN (t := .boolean) rfl (by simp) d11_12 (Nat.le_of_ble_eq_true rfl) (Nat.le_of_ble_eq_true rfl) ?_
  exact ⟨rfl, rfl⟩
theorem d12_0 : decode jdk_43_method_46_code 0 = .ok (.iconst 1, 1) := by decide +kernel
theorem d12_1 : decode jdk_43_method_46_code 1 = .ok (.newarray .byte, 2) := by decide +kernel
theorem d12_3 : decode jdk_43_method_46_code 3 = .ok (.dup, 1) := by decide +kernel
theorem d12_4 : decode jdk_43_method_46_code 4 = .ok (.iconst 0, 1) := by decide +kernel
theorem d12_5 : decode jdk_43_method_46_code 5 = .ok (.iload_n 0, 1) := by decide +kernel
theorem d12_6 : decode jdk_43_method_46_code 6 = .ok (.i2b, 1) := by decide +kernel
theorem d12_7 : decode jdk_43_method_46_code 7 = .ok (.bastore, 1) := by decide +kernel
theorem d12_8 : decode jdk_43_method_46_code 8 = .ok (.areturn, 1) := by decide +kernel
set_option maxRecDepth 65536 in
set_option maxHeartbeats 40000000 in
theorem ct_tob (Z : State) (a0 : Array Value) (hw : ∀ d ∈ tables_1, d.before a0 Z = true) (c : Int32) (h0 : Heap) :
    Ct Z ⟨"java/lang/StringLatin1", "toBytes", "(C)[B"⟩ jdk_43_method_46_code 1 (Option.some (FieldType.array FieldType.byte)) ({ frames := 0, cells := 1, slots := 1, locals := 0 } : Room) #[(.int c)] h0 [] (fun v h => ∃ t, v = some (.ref t) ∧ h0.size ≤ t ∧ Ax Z h t .byte [.int (b8 c)]) := by
  refine Ct.intro (Ls := #[.val (.int c)]) pn_2 (by intro m; first | (simp [entryFrame, mkF, argsToLocals, Value.category]; done) | rfl) ?_
  refine Rn.iconst (pc' := 1) (v := (1 : Int32)) d12_0 rfl rfl ?_
  refine Rn.newP (pc' := 3) (cap := 1) (ty := .byte) (ad := "[B") (hw _ (List.mem_of_getElem? (i := 20) rfl)) rfl rfl d12_1 (by decide) (Nat.le_of_ble_eq_true rfl) (by decide) (Nat.le_of_ble_eq_true rfl) (Nat.le_of_ble_eq_true rfl) rfl (fun hq2 aq1 eq3 gq4 Eq5 ⟨Aq6, Bq7⟩ => ?_)
  have Aq8 : Ax Z hq2 aq1 .byte ([.int (0 : Int32)]) := Aq6
  refine Rn.dup (pc' := 4) d12_3 rfl rfl ?_
  refine Rn.iconst (pc' := 5) (v := (0 : Int32)) d12_4 rfl rfl ?_
  refine Rn.iloadN (pc' := 6) d12_5 rfl rfl ?_
  refine Rn.i2b (pc' := 7) (v := (b8 c)) d12_6 rfl rfl ?_
  refine Rn.bastore (pc' := 8) (v := .int (b8 c)) Aq8 (by decide) (Nat.le_of_ble_eq_true rfl) (congrArg Value.int (nar_b8 c)) (Or.inr gq4) Sf.no d12_7 rfl (fun hq10 Wq9 Aq11 => ?_)
  have Aq12 : Ax Z hq10 aq1 .byte ([.int (b8 c)]) := Aq11
  refine Rn.retA (t := (.array .byte)) rfl rfl rfl d12_8 (Nat.le_of_ble_eq_true rfl) (Nat.le_of_ble_eq_true rfl) ?_
  exact ⟨_, rfl, gq4, Aq12⟩
theorem d13_0 : decode jdk_42_method_151_code 0 = .ok (.aload_n 0, 1) := by decide +kernel
theorem d13_1 : decode jdk_42_method_151_code 1 = .ok (.invokespecial 1, 3) := by decide +kernel
theorem d13_4 : decode jdk_42_method_151_code 4 = .ok (.aload_n 0, 1) := by decide +kernel
theorem d13_5 : decode jdk_42_method_151_code 5 = .ok (.aload_n 1, 1) := by decide +kernel
theorem d13_6 : decode jdk_42_method_151_code 6 = .ok (.putfield 9, 3) := by decide +kernel
theorem d13_9 : decode jdk_42_method_151_code 9 = .ok (.aload_n 0, 1) := by decide +kernel
theorem d13_10 : decode jdk_42_method_151_code 10 = .ok (.iload_n 2, 1) := by decide +kernel
theorem d13_11 : decode jdk_42_method_151_code 11 = .ok (.putfield 15, 3) := by decide +kernel
theorem d13_14 : decode jdk_42_method_151_code 14 = .ok (.return_, 1) := by decide +kernel
set_option maxRecDepth 65536 in
set_option maxHeartbeats 40000000 in
theorem ct_sib (Z : State) (a0 : Array Value) (hw : ∀ d ∈ tables_1, d.before a0 Z = true) (x t : Addr) (bs : List Value) (h0 : Heap) (E : Exa Z h0 x "java/lang/String") (V : Fld Z h0 x "java/lang/String" "value" "[B" .null) (Co : Fld Z h0 x "java/lang/String" "coder" "B" (.int (0 : Int32))) (A : Ax Z h0 t .byte bs) (hn : t ≠ x) :
    Ct Z ⟨"java/lang/String", "<init>", "([BB)V"⟩ jdk_42_method_151_code 3 (Option.none : Option FieldType) ({ frames := 1, cells := 0, slots := 0, locals := 12 } : Room) #[(.ref x), (.ref t), (.int (0 : Int32))] h0 [x] (fun v h => v = none ∧ Sg Z h x t bs) := by
  refine Ct.intro (Ls := #[.val (.ref x), .val (.ref t), .val (.int (0 : Int32))]) pn_3 (by intro m; first | (simp [entryFrame, mkF, argsToLocals, Value.category]; done) | rfl) ?_
  refine Rn.aloadN (pc' := 1) d13_0 rfl rfl rfl ?_
  refine Rn.initO (pc' := 4) (hw _ (List.mem_of_getElem? (i := 12) rfl)) (hw _ (List.mem_of_getElem? (i := 13) rfl)) (hw _ (List.mem_of_getElem? (i := 14) rfl)) rfl d13_1 (Nat.le_of_ble_eq_true rfl) (Nat.le_of_ble_eq_true rfl) rfl ?_
  refine Rn.aloadN (pc' := 5) d13_4 rfl rfl rfl ?_
  refine Rn.aloadN (pc' := 6) d13_5 rfl rfl rfl ?_
  refine Rn.putF (pc' := 9) (hw _ (List.mem_of_getElem? (i := 29) rfl)) Via.refl V E (Or.inr ⟨(hw _ (List.mem_of_getElem? (i := 30) rfl)), rfl, rfl⟩) (hw _ (List.mem_of_getElem? (i := 2) rfl)) (ty := (.array .byte)) (by decide) rfl rfl (Or.inl (List.mem_of_getElem? (i := 0) rfl)) Sf.no d13_6 rfl (fun hq2 Wq1 => ?_)
  have Fq3 := V.same Wq1
  refine Rn.aloadN (pc' := 10) d13_9 rfl rfl rfl ?_
  refine Rn.iloadN (pc' := 11) d13_10 rfl rfl ?_
  have Fq4 := Co.other Wq1 (Or.inr (slot_ne (t := .byte) (t' := (.array .byte)) (Or.inr (hw _ (List.mem_of_getElem? (i := 28) rfl))) (Or.inr (hw _ (List.mem_of_getElem? (i := 30) rfl))) (by decide) (by decide) (by decide)))
  have Fq5 := E.wr Wq1
  refine Rn.putF (pc' := 14) (hw _ (List.mem_of_getElem? (i := 27) rfl)) Via.refl Fq4 Fq5 (Or.inr ⟨(hw _ (List.mem_of_getElem? (i := 28) rfl)), rfl, rfl⟩) (hw _ (List.mem_of_getElem? (i := 2) rfl)) (ty := .byte) (by decide) rfl rfl (Or.inl (List.mem_of_getElem? (i := 0) rfl)) Sf.no d13_11 rfl (fun hq7 Wq6 => ?_)
  have Fq8 := Fq4.same Wq6
  refine Rn.retV rfl d13_14 (Nat.le_of_ble_eq_true rfl) (Nat.le_of_ble_eq_true rfl) ?_
  have Fq9 := Fq5.wr Wq6
  have Fq10 := Fq3.other Wq6 (Or.inr (slot_ne (t := (.array .byte)) (t' := .byte) (Or.inr (hw _ (List.mem_of_getElem? (i := 30) rfl))) (Or.inr (hw _ (List.mem_of_getElem? (i := 28) rfl))) (by decide) (by decide) (by decide)))
  have Fq11 := A.other Wq1 hn
  have Fq12 := Fq11.other Wq6 hn
  exact ⟨rfl, Fq9, Fq8, Fq10, Fq12⟩
theorem d10_0 : decode jdk_42_method_139_code 0 = .ok (.getstatic 38, 3) := by decide +kernel
theorem d10_3 : decode jdk_42_method_139_code 3 = .ok (.ifCond .eq 23, 3) := by decide +kernel
theorem d10_6 : decode jdk_42_method_139_code 6 = .ok (.iload_n 0, 1) := by decide +kernel
theorem d10_7 : decode jdk_42_method_139_code 7 = .ok (.invokestatic 1015, 3) := by decide +kernel
theorem d10_10 : decode jdk_42_method_139_code 10 = .ok (.ifCond .eq 16, 3) := by decide +kernel
theorem d10_13 : decode jdk_42_method_139_code 13 = .ok (.new 10, 3) := by decide +kernel
theorem d10_16 : decode jdk_42_method_139_code 16 = .ok (.dup, 1) := by decide +kernel
theorem d10_17 : decode jdk_42_method_139_code 17 = .ok (.iload_n 0, 1) := by decide +kernel
theorem d10_18 : decode jdk_42_method_139_code 18 = .ok (.invokestatic 1018, 3) := by decide +kernel
theorem d10_21 : decode jdk_42_method_139_code 21 = .ok (.iconst 0, 1) := by decide +kernel
theorem d10_22 : decode jdk_42_method_139_code 22 = .ok (.invokespecial 209, 3) := by decide +kernel
theorem d10_25 : decode jdk_42_method_139_code 25 = .ok (.areturn, 1) := by decide +kernel
theorem d10_26 : decode jdk_42_method_139_code 26 = .ok (.new 10, 3) := by decide +kernel
theorem d10_29 : decode jdk_42_method_139_code 29 = .ok (.dup, 1) := by decide +kernel
theorem d10_30 : decode jdk_42_method_139_code 30 = .ok (.iload_n 0, 1) := by decide +kernel
theorem d10_31 : decode jdk_42_method_139_code 31 = .ok (.invokestatic 1021, 3) := by decide +kernel
theorem d10_34 : decode jdk_42_method_139_code 34 = .ok (.iconst 1, 1) := by decide +kernel
theorem d10_35 : decode jdk_42_method_139_code 35 = .ok (.invokespecial 209, 3) := by decide +kernel
theorem d10_38 : decode jdk_42_method_139_code 38 = .ok (.areturn, 1) := by decide +kernel
set_option maxRecDepth 65536 in
set_option maxHeartbeats 40000000 in
theorem ct_vof (Z : State) (a0 : Array Value) (hw : ∀ d ∈ tables_1, d.before a0 Z = true) (c : Int32) (hp : ¬ 255 < c) (z : Int32) (hz : z ≠ 0) (h0 : Heap) (S : Sta Z Z.heap "java/lang/String" "COMPACT_STRINGS" "Z" (.int z)) :
    Ct Z ⟨"java/lang/String", "valueOf", "(C)Ljava/lang/String;"⟩ jdk_42_method_139_code 1 (Option.some (FieldType.object "java/lang/String")) ({ frames := 2, cells := 2, slots := 5, locals := 27 } : Room) #[(.int c)] h0 [] (fun v h => ∃ x t, v = some (.ref x) ∧ h0.size ≤ x ∧ h0.size ≤ t ∧ Sg Z h x t [.int (b8 c)]) := by
  refine Ct.intro (Ls := #[.val (.int c)]) pn_3 (by intro m; first | (simp [entryFrame, mkF, argsToLocals, Value.category]; done) | rfl) ?_
  refine Rn.old fun Oq1 _ => ?_
  refine Rn.getS (pc' := 3) (hw _ (List.mem_of_getElem? (i := 15) rfl)) Via.refl (S.ext Oq1) d10_0 rfl ?_
  refine Rn.if_eq (pc' := 26) (pn := 6) d10_3 (by decide) (by decide) rfl (fun cq2 => absurd cq2 hz) (fun cq2 => ?_)
  refine Rn.iloadN (pc' := 7) d10_6 rfl rfl ?_
  refine Rn.callS (pc' := 10) (argsL := [.int c]) (rest := []) (ct_cenc Z a0 hw c hp h0) (hw _ (List.mem_of_getElem? (i := 73) rfl)) (hw _ (List.mem_of_getElem? (i := 74) rfl)) (hw _ (List.mem_of_getElem? (i := 75) rfl)) (hw _ (List.mem_of_getElem? (i := 76) rfl)) (by decide) rfl rfl (lenOf pd_4 rfl) rfl d10_7 rfl (Nat.le_of_ble_eq_true rfl) (Nat.le_of_ble_eq_true rfl) (Nat.le_of_ble_eq_true rfl) (Nat.le_of_ble_eq_true rfl) (fun _ z => nomatch z) (fun _ z => nomatch z) (fun vq3 hq4 Kq5 qq6 => ?_)
  obtain ⟨rfl, rfl⟩ := qq6
  simp only [Option.toList, List.cons_append, List.nil_append]
  refine Rn.if_eq (pc' := 26) (pn := 13) d10_10 (by decide) (by decide) rfl (fun cq7 => absurd cq7 (by decide)) (fun cq7 => ?_)
  refine Rn.newO (pc' := 16) (hw _ (List.mem_of_getElem? (i := 77) rfl)) (hw _ (List.mem_of_getElem? (i := 2) rfl)) (hw _ (List.mem_of_getElem? (i := 3) rfl)) d10_13 (Nat.le_of_ble_eq_true rfl) (Nat.le_of_ble_eq_true rfl) rfl (fun hq9 aq8 eq10 gq11 Eq12 ⟨Aq13, Dq14, Uq15⟩ => ?_)
  have Fq16 : Fld Z hq9 aq8 "java/lang/String" "coder" "B" (.int (0 : Int32)) := Dq14 (Or.inr (hw _ (List.mem_of_getElem? (i := 28) rfl))) (ty := .byte) (by decide)
  have Fq17 : Fld Z hq9 aq8 "java/lang/String" "value" "[B" (.null) := Dq14 (Or.inr (hw _ (List.mem_of_getElem? (i := 30) rfl))) (ty := (.array .byte)) (by decide)
  refine Rn.dup (pc' := 17) d10_16 rfl rfl ?_
  refine Rn.iloadN (pc' := 18) d10_17 rfl rfl ?_
  refine Rn.callS (pc' := 21) (argsL := [.int c]) (rest := [.ref aq8, .ref aq8]) (ct_tob Z a0 hw c hq9) (hw _ (List.mem_of_getElem? (i := 78) rfl)) (hw _ (List.mem_of_getElem? (i := 79) rfl)) (hw _ (List.mem_of_getElem? (i := 75) rfl)) (hw _ (List.mem_of_getElem? (i := 80) rfl)) (by decide) rfl rfl (lenOf pd_5 rfl) rfl d10_18 rfl (Nat.le_of_ble_eq_true rfl) (Nat.le_of_ble_eq_true rfl) (Nat.le_of_ble_eq_true rfl) (Nat.le_of_ble_eq_true rfl) (fun _ z => nomatch z) (fun _ z => nomatch z) (fun vq18 hq19 Kq20 qq21 => ?_)
  obtain ⟨t, rfl, ht, At⟩ := qq21
  simp only [Option.toList, List.cons_append, List.nil_append]
  have nt : t ≠ aq8 := Ne.symm (Nat.ne_of_lt (Nat.lt_of_lt_of_le Aq13.lt ht))
  refine Rn.iconst (pc' := 22) (v := (0 : Int32)) d10_21 rfl rfl ?_
  have Fq22 := Aq13.keep Kq20
  have Fq23 := Fq17.keep Kq20 nin0
  have Fq24 := Fq16.keep Kq20 nin0
  refine Rn.callI (pc' := 25) (argsL := [.ref t, .int (0 : Int32)]) (a := aq8) (rest := [.ref aq8]) (ct_sib Z a0 hw aq8 t [.int (b8 c)] hq19 Fq22 Fq23 Fq24 At nt) rfl (hw _ (List.mem_of_getElem? (i := 81) rfl)) (hw _ (List.mem_of_getElem? (i := 82) rfl)) (hw _ (List.mem_of_getElem? (i := 3) rfl)) (hw _ (List.mem_of_getElem? (i := 83) rfl)) (by decide) rfl rfl (lenOf pd_6 rfl) rfl d10_22 rfl (Nat.le_of_ble_eq_true rfl) (Nat.le_of_ble_eq_true rfl) (Nat.le_of_ble_eq_true rfl) (Nat.le_of_ble_eq_true rfl) (allS (Or.inr gq11) all0) (allS Sf.no (all0)) (fun vq25 hq26 Kq27 qq28 => ?_)
  obtain ⟨rfl, G⟩ := qq28
  simp only [Option.toList, List.cons_append, List.nil_append]
  refine Rn.retA (t := (.object "java/lang/String")) rfl rfl rfl d10_25 (Nat.le_of_ble_eq_true rfl) (Nat.le_of_ble_eq_true rfl) ?_
  exact ⟨aq8, t, rfl, gq11, Nat.le_trans gq11 (Nat.le_trans (Nat.le_of_lt Aq13.lt) ht), G⟩
theorem d4_0 : decode jdk_52_method_21_code 0 = .ok (.iconst 0, 1) := by decide +kernel
theorem d4_1 : decode jdk_52_method_21_code 1 = .ok (.istore 5, 2) := by decide +kernel
theorem d4_3 : decode jdk_52_method_21_code 3 = .ok (.iload 5, 2) := by decide +kernel
theorem d4_5 : decode jdk_52_method_21_code 5 = .ok (.iload 4, 2) := by decide +kernel
theorem d4_7 : decode jdk_52_method_21_code 7 = .ok (.if_icmp .ge 37, 3) := by decide +kernel
theorem d4_10 : decode jdk_52_method_21_code 10 = .ok (.aload_n 0, 1) := by decide +kernel
theorem d4_11 : decode jdk_52_method_21_code 11 = .ok (.iload_n 1, 1) := by decide +kernel
theorem d4_12 : decode jdk_52_method_21_code 12 = .ok (.caload, 1) := by decide +kernel
theorem d4_13 : decode jdk_52_method_21_code 13 = .ok (.istore 6, 2) := by decide +kernel
theorem d4_15 : decode jdk_52_method_21_code 15 = .ok (.iload 6, 2) := by decide +kernel
theorem d4_17 : decode jdk_52_method_21_code 17 = .ok (.sipush 255, 3) := by decide +kernel
theorem d4_20 : decode jdk_52_method_21_code 20 = .ok (.if_icmp .le 6, 3) := by decide +kernel
theorem d4_23 : decode jdk_52_method_21_code 23 = .ok (.iload 5, 2) := by decide +kernel
theorem d4_25 : decode jdk_52_method_21_code 25 = .ok (.ireturn, 1) := by decide +kernel
theorem d4_26 : decode jdk_52_method_21_code 26 = .ok (.aload_n 2, 1) := by decide +kernel
theorem d4_27 : decode jdk_52_method_21_code 27 = .ok (.iload_n 3, 1) := by decide +kernel
theorem d4_28 : decode jdk_52_method_21_code 28 = .ok (.iload 6, 2) := by decide +kernel
theorem d4_30 : decode jdk_52_method_21_code 30 = .ok (.i2b, 1) := by decide +kernel
theorem d4_31 : decode jdk_52_method_21_code 31 = .ok (.bastore, 1) := by decide +kernel
theorem d4_32 : decode jdk_52_method_21_code 32 = .ok (.iinc 1 1, 3) := by decide +kernel
theorem d4_35 : decode jdk_52_method_21_code 35 = .ok (.iinc 3 1, 3) := by decide +kernel
theorem d4_38 : decode jdk_52_method_21_code 38 = .ok (.iinc 5 1, 3) := by decide +kernel
theorem d4_41 : decode jdk_52_method_21_code 41 = .ok (.goto (-38), 3) := by decide +kernel
theorem d4_44 : decode jdk_52_method_21_code 44 = .ok (.iload 4, 2) := by decide +kernel
theorem d4_46 : decode jdk_52_method_21_code 46 = .ok (.ireturn, 1) := by decide +kernel
set_option maxRecDepth 65536 in
set_option maxHeartbeats 40000000 in
theorem ct_cmpb2 (Z : State) (a0 : Array Value) (hw : ∀ d ∈ tables_1, d.before a0 Z = true) (src t : Addr) (c0 c1 : Int32) (hp0 : ¬ 255 < c0) (hp1 : ¬ 255 < c1) (h0 : Heap) (A : Ax Z h0 src .char [.int c0, .int c1]) (B : Ax Z h0 t .byte [.int (0 : Int32), .int (0 : Int32)]) (hn : src ≠ t) :
    Ct Z ⟨"java/lang/StringUTF16", "compress", "([CI[BII)I"⟩ jdk_52_method_21_code 7 (Option.some FieldType.int) ({ frames := 0, cells := 0, slots := 0, locals := 0 } : Room) #[(.ref src), (.int (0 : Int32)), (.ref t), (.int (0 : Int32)), (.int (2 : Int32))] h0 [t] (fun v h => v = some (.int (2 : Int32)) ∧ Ax Z h t .byte [.int (b8 c0), .int (b8 c1)]) := by
  refine Ct.intro (Ls := #[.val (.ref src), .val (.int (0 : Int32)), .val (.ref t), .val (.int (0 : Int32)), .val (.int (2 : Int32)), .unset, .unset]) pn_6 (by intro m; first | (simp [entryFrame, mkF, argsToLocals, Value.category]; done) | rfl) ?_
  refine Rn.iconst (pc' := 1) (v := (0 : Int32)) d4_0 rfl rfl ?_
  refine Rn.istore (pc' := 3) (Ls' := #[.val (.ref src), .val (.int (0 : Int32)), .val (.ref t), .val (.int (0 : Int32)), .val (.int (2 : Int32)), .val (.int (0 : Int32)), .unset]) d4_1 rfl rfl ?_
  refine Rn.iload (pc' := 5) d4_3 rfl rfl ?_
  refine Rn.iload (pc' := 7) d4_5 rfl rfl ?_
  refine Rn.icmp_ge (pc' := 44) (pn := 10) d4_7 (by decide) (by decide) rfl (fun cq1 => absurd cq1 (by decide)) (fun cq1 => ?_)
  refine Rn.aloadN (pc' := 11) d4_10 rfl rfl rfl ?_
  refine Rn.iloadN (pc' := 12) d4_11 rfl rfl ?_
  refine Rn.caload (pc' := 13) (v := .int c0) A (by decide) rfl d4_12 rfl ?_
  refine Rn.istore (pc' := 15) (Ls' := #[.val (.ref src), .val (.int (0 : Int32)), .val (.ref t), .val (.int (0 : Int32)), .val (.int (2 : Int32)), .val (.int (0 : Int32)), .val (.int c0)]) d4_13 rfl rfl ?_
  refine Rn.iload (pc' := 17) d4_15 rfl rfl ?_
  refine Rn.sipush (pc' := 20) (v := (255 : Int32)) d4_17 rfl rfl ?_
  refine Rn.icmp_le (pc' := 26) (pn := 23) d4_20 (by decide) (by decide) rfl (fun cq2 => ?_) (fun cq2 => absurd cq2 hp0)
  refine Rn.aloadN (pc' := 27) d4_26 rfl rfl rfl ?_
  refine Rn.iloadN (pc' := 28) d4_27 rfl rfl ?_
  refine Rn.iload (pc' := 30) d4_28 rfl rfl ?_
  refine Rn.i2b (pc' := 31) (v := (b8 c0)) d4_30 rfl rfl ?_
  refine Rn.bastore (pc' := 32) (v := .int (b8 c0)) B (by decide) (Nat.le_of_ble_eq_true rfl) (congrArg Value.int (nar_b8 c0)) (Or.inl (List.mem_of_getElem? (i := 0) rfl)) Sf.no d4_31 rfl (fun hq4 Wq3 Aq5 => ?_)
  have Aq6 : Ax Z hq4 t .byte ([.int (b8 c0), .int (0 : Int32)]) := Aq5
  refine Rn.iinc (pc' := 35) (v := (1 : Int32)) (Ls' := #[.val (.ref src), .val (.int (1 : Int32)), .val (.ref t), .val (.int (0 : Int32)), .val (.int (2 : Int32)), .val (.int (0 : Int32)), .val (.int c0)]) d4_32 rfl rfl rfl rfl ?_
  refine Rn.iinc (pc' := 38) (v := (1 : Int32)) (Ls' := #[.val (.ref src), .val (.int (1 : Int32)), .val (.ref t), .val (.int (1 : Int32)), .val (.int (2 : Int32)), .val (.int (0 : Int32)), .val (.int c0)]) d4_35 rfl rfl rfl rfl ?_
  refine Rn.iinc (pc' := 41) (v := (1 : Int32)) (Ls' := #[.val (.ref src), .val (.int (1 : Int32)), .val (.ref t), .val (.int (1 : Int32)), .val (.int (2 : Int32)), .val (.int (1 : Int32)), .val (.int c0)]) d4_38 rfl rfl rfl rfl ?_
  refine Rn.goto (pc' := 3) d4_41 (by decide) (by decide) ?_
  refine Rn.iload (pc' := 5) d4_3 rfl rfl ?_
  refine Rn.iload (pc' := 7) d4_5 rfl rfl ?_
  refine Rn.icmp_ge (pc' := 44) (pn := 10) d4_7 (by decide) (by decide) rfl (fun cq7 => absurd cq7 (by decide)) (fun cq7 => ?_)
  refine Rn.aloadN (pc' := 11) d4_10 rfl rfl rfl ?_
  refine Rn.iloadN (pc' := 12) d4_11 rfl rfl ?_
  have Fq8 := A.other Wq3 hn
  refine Rn.caload (pc' := 13) (v := .int c1) Fq8 (by decide) rfl d4_12 rfl ?_
  refine Rn.istore (pc' := 15) (Ls' := #[.val (.ref src), .val (.int (1 : Int32)), .val (.ref t), .val (.int (1 : Int32)), .val (.int (2 : Int32)), .val (.int (1 : Int32)), .val (.int c1)]) d4_13 rfl rfl ?_
  refine Rn.iload (pc' := 17) d4_15 rfl rfl ?_
  refine Rn.sipush (pc' := 20) (v := (255 : Int32)) d4_17 rfl rfl ?_
  refine Rn.icmp_le (pc' := 26) (pn := 23) d4_20 (by decide) (by decide) rfl (fun cq9 => ?_) (fun cq9 => absurd cq9 hp1)
  refine Rn.aloadN (pc' := 27) d4_26 rfl rfl rfl ?_
  refine Rn.iloadN (pc' := 28) d4_27 rfl rfl ?_
  refine Rn.iload (pc' := 30) d4_28 rfl rfl ?_
  refine Rn.i2b (pc' := 31) (v := (b8 c1)) d4_30 rfl rfl ?_
  refine Rn.bastore (pc' := 32) (v := .int (b8 c1)) Aq6 (by decide) (Nat.le_of_ble_eq_true rfl) (congrArg Value.int (nar_b8 c1)) (Or.inl (List.mem_of_getElem? (i := 0) rfl)) Sf.no d4_31 rfl (fun hq11 Wq10 Aq12 => ?_)
  have Aq13 : Ax Z hq11 t .byte ([.int (b8 c0), .int (b8 c1)]) := Aq12
  refine Rn.iinc (pc' := 35) (v := (2 : Int32)) (Ls' := #[.val (.ref src), .val (.int (2 : Int32)), .val (.ref t), .val (.int (1 : Int32)), .val (.int (2 : Int32)), .val (.int (1 : Int32)), .val (.int c1)]) d4_32 rfl rfl rfl rfl ?_
  refine Rn.iinc (pc' := 38) (v := (2 : Int32)) (Ls' := #[.val (.ref src), .val (.int (2 : Int32)), .val (.ref t), .val (.int (2 : Int32)), .val (.int (2 : Int32)), .val (.int (1 : Int32)), .val (.int c1)]) d4_35 rfl rfl rfl rfl ?_
  refine Rn.iinc (pc' := 41) (v := (2 : Int32)) (Ls' := #[.val (.ref src), .val (.int (2 : Int32)), .val (.ref t), .val (.int (2 : Int32)), .val (.int (2 : Int32)), .val (.int (2 : Int32)), .val (.int c1)]) d4_38 rfl rfl rfl rfl ?_
  refine Rn.goto (pc' := 3) d4_41 (by decide) (by decide) ?_
  refine Rn.iload (pc' := 5) d4_3 rfl rfl ?_
  refine Rn.iload (pc' := 7) d4_5 rfl rfl ?_
  refine Rn.icmp_ge (pc' := 44) (pn := 10) d4_7 (by decide) (by decide) rfl (fun cq14 => ?_) (fun cq14 => absurd cq14 (by decide))
  refine Rn.iload (pc' := 46) d4_44 rfl rfl ?_
  refine Rn.retI rfl d4_46 (Nat.le_of_ble_eq_true rfl) (Nat.le_of_ble_eq_true rfl) ?_
  exact ⟨rfl, Aq13⟩
theorem d3_0 : decode jdk_52_method_16_code 0 = .ok (.iload_n 2, 1) := by decide +kernel
theorem d3_1 : decode jdk_52_method_16_code 1 = .ok (.newarray .byte, 2) := by decide +kernel
theorem d3_3 : decode jdk_52_method_16_code 3 = .ok (.astore_n 3, 1) := by decide +kernel
theorem d3_4 : decode jdk_52_method_16_code 4 = .ok (.aload_n 0, 1) := by decide +kernel
theorem d3_5 : decode jdk_52_method_16_code 5 = .ok (.iload_n 1, 1) := by decide +kernel
theorem d3_6 : decode jdk_52_method_16_code 6 = .ok (.aload_n 3, 1) := by decide +kernel
theorem d3_7 : decode jdk_52_method_16_code 7 = .ok (.iconst 0, 1) := by decide +kernel
theorem d3_8 : decode jdk_52_method_16_code 8 = .ok (.iload_n 2, 1) := by decide +kernel
theorem d3_9 : decode jdk_52_method_16_code 9 = .ok (.invokestatic 115, 3) := by decide +kernel
theorem d3_12 : decode jdk_52_method_16_code 12 = .ok (.istore 4, 2) := by decide +kernel
theorem d3_14 : decode jdk_52_method_16_code 14 = .ok (.iload 4, 2) := by decide +kernel
theorem d3_16 : decode jdk_52_method_16_code 16 = .ok (.iload_n 2, 1) := by decide +kernel
theorem d3_17 : decode jdk_52_method_16_code 17 = .ok (.if_icmp .eq 40, 3) := by decide +kernel
theorem d3_20 : decode jdk_52_method_16_code 20 = .ok (.aload_n 0, 1) := by decide +kernel
theorem d3_21 : decode jdk_52_method_16_code 21 = .ok (.iload_n 1, 1) := by decide +kernel
theorem d3_22 : decode jdk_52_method_16_code 22 = .ok (.iload_n 2, 1) := by decide +kernel
theorem d3_23 : decode jdk_52_method_16_code 23 = .ok (.invokestatic 119, 3) := by decide +kernel
theorem d3_26 : decode jdk_52_method_16_code 26 = .ok (.astore 5, 2) := by decide +kernel
theorem d3_28 : decode jdk_52_method_16_code 28 = .ok (.aload 5, 2) := by decide +kernel
theorem d3_30 : decode jdk_52_method_16_code 30 = .ok (.iload 4, 2) := by decide +kernel
theorem d3_32 : decode jdk_52_method_16_code 32 = .ok (.invokestatic 71, 3) := by decide +kernel
theorem d3_35 : decode jdk_52_method_16_code 35 = .ok (.sipush 255, 3) := by decide +kernel
theorem d3_38 : decode jdk_52_method_16_code 38 = .ok (.if_icmp .gt 16, 3) := by decide +kernel
theorem d3_41 : decode jdk_52_method_16_code 41 = .ok (.aload 5, 2) := by decide +kernel
theorem d3_43 : decode jdk_52_method_16_code 43 = .ok (.iconst 0, 1) := by decide +kernel
theorem d3_44 : decode jdk_52_method_16_code 44 = .ok (.aload_n 3, 1) := by decide +kernel
theorem d3_45 : decode jdk_52_method_16_code 45 = .ok (.iconst 0, 1) := by decide +kernel
theorem d3_46 : decode jdk_52_method_16_code 46 = .ok (.iload_n 2, 1) := by decide +kernel
theorem d3_47 : decode jdk_52_method_16_code 47 = .ok (.invokestatic 123, 3) := by decide +kernel
theorem d3_50 : decode jdk_52_method_16_code 50 = .ok (.iload_n 2, 1) := by decide +kernel
theorem d3_51 : decode jdk_52_method_16_code 51 = .ok (.if_icmp .eq 6, 3) := by decide +kernel
theorem d3_54 : decode jdk_52_method_16_code 54 = .ok (.aload 5, 2) := by decide +kernel
theorem d3_56 : decode jdk_52_method_16_code 56 = .ok (.areturn, 1) := by decide +kernel
theorem d3_57 : decode jdk_52_method_16_code 57 = .ok (.aload_n 3, 1) := by decide +kernel
theorem d3_58 : decode jdk_52_method_16_code 58 = .ok (.areturn, 1) := by decide +kernel
set_option maxRecDepth 65536 in
set_option maxHeartbeats 40000000 in
theorem ct_cmpa2 (Z : State) (a0 : Array Value) (hw : ∀ d ∈ tables_1, d.before a0 Z = true) (src : Addr) (c0 c1 : Int32) (hp0 : ¬ 255 < c0) (hp1 : ¬ 255 < c1) (h0 : Heap) (A : Ax Z h0 src .char [.int c0, .int c1]) :
    Ct Z ⟨"java/lang/StringUTF16", "compress", "([CII)[B"⟩ jdk_52_method_16_code 6 (Option.some (FieldType.array FieldType.byte)) ({ frames := 1, cells := 1, slots := 2, locals := 18 } : Room) #[(.ref src), (.int (0 : Int32)), (.int (2 : Int32))] h0 [] (fun v h => ∃ t, v = some (.ref t) ∧ h0.size ≤ t ∧ Ax Z h t .byte [.int (b8 c0), .int (b8 c1)]) := by
  refine Ct.intro (Ls := #[.val (.ref src), .val (.int (0 : Int32)), .val (.int (2 : Int32)), .unset, .unset, .unset]) pn_6 (by intro m; first | (simp [entryFrame, mkF, argsToLocals, Value.category]; done) | rfl) ?_
  refine Rn.iloadN (pc' := 1) d3_0 rfl rfl ?_
  refine Rn.newP (pc' := 3) (cap := 2) (ty := .byte) (ad := "[B") (hw _ (List.mem_of_getElem? (i := 20) rfl)) rfl rfl d3_1 (by decide) (Nat.le_of_ble_eq_true rfl) (by decide) (Nat.le_of_ble_eq_true rfl) (Nat.le_of_ble_eq_true rfl) rfl (fun hq2 aq1 eq3 gq4 Eq5 ⟨Aq6, Bq7⟩ => ?_)
  have nq8 : src ≠ aq1 := by rw [eq3]; exact Nat.ne_of_lt (A.lt)
  have Aq9 : Ax Z hq2 aq1 .byte ([.int (0 : Int32), .int (0 : Int32)]) := Aq6
  refine Rn.astoreN (pc' := 4) (Ls' := #[.val (.ref src), .val (.int (0 : Int32)), .val (.int (2 : Int32)), .val (.ref aq1), .unset, .unset]) d3_3 rfl rfl rfl ?_
  refine Rn.aloadN (pc' := 5) d3_4 rfl rfl rfl ?_
  refine Rn.iloadN (pc' := 6) d3_5 rfl rfl ?_
  refine Rn.aloadN (pc' := 7) d3_6 rfl rfl rfl ?_
  refine Rn.iconst (pc' := 8) (v := (0 : Int32)) d3_7 rfl rfl ?_
  refine Rn.iloadN (pc' := 9) d3_8 rfl rfl ?_
  have Fq10 := A.ext Eq5
  refine Rn.callS (pc' := 12) (argsL := [.ref src, .int (0 : Int32), .ref aq1, .int (0 : Int32), .int (2 : Int32)]) (rest := []) (ct_cmpb2 Z a0 hw src aq1 c0 c1 hp0 hp1 hq2 Fq10 Aq9 nq8) (hw _ (List.mem_of_getElem? (i := 21) rfl)) (hw _ (List.mem_of_getElem? (i := 22) rfl)) (hw _ (List.mem_of_getElem? (i := 18) rfl)) (hw _ (List.mem_of_getElem? (i := 23) rfl)) (by decide) rfl rfl (lenOf pd_7 rfl) rfl d3_9 rfl (Nat.le_of_ble_eq_true rfl) (Nat.le_of_ble_eq_true rfl) (Nat.le_of_ble_eq_true rfl) (Nat.le_of_ble_eq_true rfl) (allS (Or.inr gq4) all0) (allS Sf.no (all0)) (fun vq11 hq12 Kq13 qq14 => ?_)
  obtain ⟨rfl, At⟩ := qq14
  simp only [Option.toList, List.cons_append, List.nil_append]
  refine Rn.istore (pc' := 14) (Ls' := #[.val (.ref src), .val (.int (0 : Int32)), .val (.int (2 : Int32)), .val (.ref aq1), .val (.int (2 : Int32)), .unset]) d3_12 rfl rfl ?_
  refine Rn.iload (pc' := 16) d3_14 rfl rfl ?_
  refine Rn.iloadN (pc' := 17) d3_16 rfl rfl ?_
  refine Rn.icmp_eq (pc' := 57) (pn := 20) d3_17 (by decide) (by decide) rfl (fun cq15 => ?_) (fun cq15 => absurd cq15 (by decide))
  refine Rn.aloadN (pc' := 58) d3_57 rfl rfl rfl ?_
  refine Rn.retA (t := (.array .byte)) rfl rfl rfl d3_58 (Nat.le_of_ble_eq_true rfl) (Nat.le_of_ble_eq_true rfl) ?_
  exact ⟨_, rfl, gq4, At⟩
theorem d5_0 : decode jdk_52_method_15_code 0 = .ok (.iload_n 1, 1) := by decide +kernel
theorem d5_1 : decode jdk_52_method_15_code 1 = .ok (.aload_n 0, 1) := by decide +kernel
theorem d5_2 : decode jdk_52_method_15_code 2 = .ok (.arraylength, 1) := by decide +kernel
theorem d5_3 : decode jdk_52_method_15_code 3 = .ok (.isub, 1) := by decide +kernel
theorem d5_4 : decode jdk_52_method_15_code 4 = .ok (.bipush 31, 2) := by decide +kernel
theorem d5_6 : decode jdk_52_method_15_code 6 = .ok (.iushr, 1) := by decide +kernel
theorem d5_7 : decode jdk_52_method_15_code 7 = .ok (.i2b, 1) := by decide +kernel
theorem d5_8 : decode jdk_52_method_15_code 8 = .ok (.ireturn, 1) := by decide +kernel
set_option maxRecDepth 65536 in
set_option maxHeartbeats 40000000 in
theorem ct_cod2 (Z : State) (a0 : Array Value) (hw : ∀ d ∈ tables_1, d.before a0 Z = true) (t : Addr) (c0 c1 : Int32) (h0 : Heap) (A : Ax Z h0 t .byte [.int (b8 c0), .int (b8 c1)]) :
    Ct Z ⟨"java/lang/StringUTF16", "coderFromArrayLen", "([BI)B"⟩ jdk_52_method_15_code 2 (Option.some FieldType.byte) ({ frames := 0, cells := 0, slots := 0, locals := 0 } : Room) #[(.ref t), (.int (2 : Int32))] h0 [] (fun v h => v = some (.int (0 : Int32)) ∧ h0 = h) := by
  refine Ct.intro (Ls := #[.val (.ref t), .val (.int (2 : Int32))]) pn_6 (by intro m; first | (simp [entryFrame, mkF, argsToLocals, Value.category]; done) | rfl) ?_
  refine Rn.iloadN (pc' := 1) d5_0 rfl rfl ?_
  refine Rn.aloadN (pc' := 2) d5_1 rfl rfl rfl ?_
  refine Rn.arraylength (pc' := 3) (n := (2 : Int32)) A rfl d5_2 rfl ?_
  refine Rn.isub (pc' := 4) (v := (0 : Int32)) d5_3 rfl rfl ?_
  refine Rn.bipush (pc' := 6) (v := (31 : Int32)) d5_4 rfl rfl ?_
  refine Rn.iushr (pc' := 7) (v := (0 : Int32)) d5_6 rfl rfl ?_
  refine Rn.i2b (pc' := 8) (v := (0 : Int32)) d5_7 rfl rfl ?_
  refine Rn.retN (t := .byte) rfl (by simp) d5_8 (Nat.le_of_ble_eq_true rfl) (Nat.le_of_ble_eq_true rfl) ?_
  exact ⟨rfl, rfl⟩
theorem d1_0 : decode jdk_42_method_149_code 0 = .ok (.aload_n 0, 1) := by decide +kernel
theorem d1_1 : decode jdk_42_method_149_code 1 = .ok (.invokespecial 1, 3) := by decide +kernel
theorem d1_4 : decode jdk_42_method_149_code 4 = .ok (.iload_n 3, 1) := by decide +kernel
theorem d1_5 : decode jdk_42_method_149_code 5 = .ok (.ifCond .ne 22, 3) := by decide +kernel
theorem d1_8 : decode jdk_42_method_149_code 8 = .ok (.aload_n 0, 1) := by decide +kernel
theorem d1_9 : decode jdk_42_method_149_code 9 = .ok (.ldc 7, 2) := by decide +kernel
theorem d1_11 : decode jdk_42_method_149_code 11 = .ok (.getfield 9, 3) := by decide +kernel
theorem d1_14 : decode jdk_42_method_149_code 14 = .ok (.putfield 9, 3) := by decide +kernel
theorem d1_17 : decode jdk_42_method_149_code 17 = .ok (.aload_n 0, 1) := by decide +kernel
theorem d1_18 : decode jdk_42_method_149_code 18 = .ok (.ldc 7, 2) := by decide +kernel
theorem d1_20 : decode jdk_42_method_149_code 20 = .ok (.getfield 15, 3) := by decide +kernel
theorem d1_23 : decode jdk_42_method_149_code 23 = .ok (.putfield 15, 3) := by decide +kernel
theorem d1_26 : decode jdk_42_method_149_code 26 = .ok (.return_, 1) := by decide +kernel
theorem d1_27 : decode jdk_42_method_149_code 27 = .ok (.getstatic 38, 3) := by decide +kernel
theorem d1_30 : decode jdk_42_method_149_code 30 = .ok (.ifCond .eq 28, 3) := by decide +kernel
theorem d1_33 : decode jdk_42_method_149_code 33 = .ok (.aload_n 1, 1) := by decide +kernel
theorem d1_34 : decode jdk_42_method_149_code 34 = .ok (.iload_n 2, 1) := by decide +kernel
theorem d1_35 : decode jdk_42_method_149_code 35 = .ok (.iload_n 3, 1) := by decide +kernel
theorem d1_36 : decode jdk_42_method_149_code 36 = .ok (.invokestatic 177, 3) := by decide +kernel
theorem d1_39 : decode jdk_42_method_149_code 39 = .ok (.astore 5, 2) := by decide +kernel
theorem d1_41 : decode jdk_42_method_149_code 41 = .ok (.aload_n 0, 1) := by decide +kernel
theorem d1_42 : decode jdk_42_method_149_code 42 = .ok (.aload 5, 2) := by decide +kernel
theorem d1_44 : decode jdk_42_method_149_code 44 = .ok (.iload_n 3, 1) := by decide +kernel
theorem d1_45 : decode jdk_42_method_149_code 45 = .ok (.invokestatic 47, 3) := by decide +kernel
theorem d1_48 : decode jdk_42_method_149_code 48 = .ok (.putfield 15, 3) := by decide +kernel
theorem d1_51 : decode jdk_42_method_149_code 51 = .ok (.aload_n 0, 1) := by decide +kernel
theorem d1_52 : decode jdk_42_method_149_code 52 = .ok (.aload 5, 2) := by decide +kernel
theorem d1_54 : decode jdk_42_method_149_code 54 = .ok (.putfield 9, 3) := by decide +kernel
theorem d1_57 : decode jdk_42_method_149_code 57 = .ok (.return_, 1) := by decide +kernel
theorem d1_58 : decode jdk_42_method_149_code 58 = .ok (.aload_n 0, 1) := by decide +kernel
theorem d1_59 : decode jdk_42_method_149_code 59 = .ok (.iconst 1, 1) := by decide +kernel
theorem d1_60 : decode jdk_42_method_149_code 60 = .ok (.putfield 15, 3) := by decide +kernel
theorem d1_63 : decode jdk_42_method_149_code 63 = .ok (.aload_n 0, 1) := by decide +kernel
theorem d1_64 : decode jdk_42_method_149_code 64 = .ok (.aload_n 1, 1) := by decide +kernel
theorem d1_65 : decode jdk_42_method_149_code 65 = .ok (.iload_n 2, 1) := by decide +kernel
theorem d1_66 : decode jdk_42_method_149_code 66 = .ok (.iload_n 3, 1) := by decide +kernel
theorem d1_67 : decode jdk_42_method_149_code 67 = .ok (.invokestatic 180, 3) := by decide +kernel
theorem d1_70 : decode jdk_42_method_149_code 70 = .ok (.putfield 9, 3) := by decide +kernel
theorem d1_73 : decode jdk_42_method_149_code 73 = .ok (.return_, 1) := by decide +kernel
set_option maxRecDepth 65536 in
set_option maxHeartbeats 40000000 in
theorem ct_siv2 (Z : State) (a0 : Array Value) (hw : ∀ d ∈ tables_1, d.before a0 Z = true) (x src : Addr) (c0 c1 : Int32) (hp0 : ¬ 255 < c0) (hp1 : ¬ 255 < c1) (z : Int32) (hz : z ≠ 0) (h0 : Heap) (E : Exa Z h0 x "java/lang/String") (V : Fld Z h0 x "java/lang/String" "value" "[B" .null) (Co : Fld Z h0 x "java/lang/String" "coder" "B" (.int (0 : Int32))) (A : Ax Z h0 src .char [.int c0, .int c1]) (hn : src ≠ x) (S : Sta Z Z.heap "java/lang/String" "COMPACT_STRINGS" "Z" (.int z)) :
    Ct Z ⟨"java/lang/String", "<init>", "([CIILjava/lang/Void;)V"⟩ jdk_42_method_149_code 6 (Option.none : Option FieldType) ({ frames := 2, cells := 1, slots := 2, locals := 36 } : Room) #[(.ref x), (.ref src), (.int (0 : Int32)), (.int (2 : Int32)), (.null)] h0 [x] (fun v h => v = none ∧ ∃ t, h0.size ≤ t ∧ Sg Z h x t [.int (b8 c0), .int (b8 c1)]) := by
  refine Ct.intro (Ls := #[.val (.ref x), .val (.ref src), .val (.int (0 : Int32)), .val (.int (2 : Int32)), .val (.null), .unset]) pn_3 (by intro m; first | (simp [entryFrame, mkF, argsToLocals, Value.category]; done) | rfl) ?_
  refine Rn.aloadN (pc' := 1) d1_0 rfl rfl rfl ?_
  refine Rn.initO (pc' := 4) (hw _ (List.mem_of_getElem? (i := 12) rfl)) (hw _ (List.mem_of_getElem? (i := 13) rfl)) (hw _ (List.mem_of_getElem? (i := 14) rfl)) rfl d1_1 (Nat.le_of_ble_eq_true rfl) (Nat.le_of_ble_eq_true rfl) rfl ?_
  refine Rn.iloadN (pc' := 5) d1_4 rfl rfl ?_
  refine Rn.if_ne (pc' := 27) (pn := 8) d1_5 (by decide) (by decide) rfl (fun cq1 => ?_) (fun cq1 => absurd cq1 (by decide))
  refine Rn.old fun Oq2 _ => ?_
  refine Rn.getS (pc' := 30) (hw _ (List.mem_of_getElem? (i := 15) rfl)) Via.refl (S.ext Oq2) d1_27 rfl ?_
  refine Rn.if_eq (pc' := 58) (pn := 33) d1_30 (by decide) (by decide) rfl (fun cq3 => absurd cq3 hz) (fun cq3 => ?_)
  refine Rn.aloadN (pc' := 34) d1_33 rfl rfl rfl ?_
  refine Rn.iloadN (pc' := 35) d1_34 rfl rfl ?_
  refine Rn.iloadN (pc' := 36) d1_35 rfl rfl ?_
  refine Rn.callS (pc' := 39) (argsL := [.ref src, .int (0 : Int32), .int (2 : Int32)]) (rest := []) (ct_cmpa2 Z a0 hw src c0 c1 hp0 hp1 h0 A) (hw _ (List.mem_of_getElem? (i := 16) rfl)) (hw _ (List.mem_of_getElem? (i := 17) rfl)) (hw _ (List.mem_of_getElem? (i := 18) rfl)) (hw _ (List.mem_of_getElem? (i := 19) rfl)) (by decide) rfl rfl (lenOf pd_8 rfl) rfl d1_36 rfl (Nat.le_of_ble_eq_true rfl) (Nat.le_of_ble_eq_true rfl) (Nat.le_of_ble_eq_true rfl) (Nat.le_of_ble_eq_true rfl) (fun _ z => nomatch z) (fun _ z => nomatch z) (fun vq4 hq5 Kq6 qq7 => ?_)
  obtain ⟨t, rfl, ht, At⟩ := qq7
  simp only [Option.toList, List.cons_append, List.nil_append]
  have Fq8 := E.keep Kq6
  have nt_x : x ≠ t := Nat.ne_of_lt (Nat.lt_of_lt_of_le E.lt ht)
  have Fq9 := A.keep Kq6 nin0
  have nt_src : src ≠ t := Nat.ne_of_lt (Nat.lt_of_lt_of_le A.lt ht)
  refine Rn.astore (pc' := 41) (Ls' := #[.val (.ref x), .val (.ref src), .val (.int (0 : Int32)), .val (.int (2 : Int32)), .val (.null), .val (.ref t)]) d1_39 rfl rfl rfl ?_
  refine Rn.aloadN (pc' := 42) d1_41 rfl rfl rfl ?_
  refine Rn.aload (pc' := 44) d1_42 rfl rfl rfl ?_
  refine Rn.iloadN (pc' := 45) d1_44 rfl rfl ?_
  refine Rn.callS (pc' := 48) (argsL := [.ref t, .int (2 : Int32)]) (rest := [.ref x]) (ct_cod2 Z a0 hw t c0 c1 hq5 At) (hw _ (List.mem_of_getElem? (i := 24) rfl)) (hw _ (List.mem_of_getElem? (i := 25) rfl)) (hw _ (List.mem_of_getElem? (i := 18) rfl)) (hw _ (List.mem_of_getElem? (i := 26) rfl)) (by decide) rfl rfl (lenOf pd_9 rfl) rfl d1_45 rfl (Nat.le_of_ble_eq_true rfl) (Nat.le_of_ble_eq_true rfl) (Nat.le_of_ble_eq_true rfl) (Nat.le_of_ble_eq_true rfl) (fun _ z => nomatch z) (fun _ z => nomatch z) (fun vq10 hq11 Kq12 qq13 => ?_)
  obtain ⟨rfl, rfl⟩ := qq13
  simp only [Option.toList, List.cons_append, List.nil_append]
  have Fq14 := Co.keep Kq6 nin0
  refine Rn.putF (pc' := 51) (hw _ (List.mem_of_getElem? (i := 27) rfl)) Via.refl Fq14 Fq8 (Or.inr ⟨(hw _ (List.mem_of_getElem? (i := 28) rfl)), rfl, rfl⟩) (hw _ (List.mem_of_getElem? (i := 2) rfl)) (ty := .byte) (by decide) rfl rfl (Or.inl (List.mem_of_getElem? (i := 0) rfl)) Sf.no d1_48 rfl (fun hq16 Wq15 => ?_)
  have Fq17 := Fq14.same Wq15
  refine Rn.aloadN (pc' := 52) d1_51 rfl rfl rfl ?_
  refine Rn.aload (pc' := 54) d1_52 rfl rfl rfl ?_
  have Fq18 := V.keep Kq6 nin0
  have Fq19 := Fq18.other Wq15 (Or.inr (slot_ne (t := (.array .byte)) (t' := .byte) (Or.inr (hw _ (List.mem_of_getElem? (i := 30) rfl))) (Or.inr (hw _ (List.mem_of_getElem? (i := 28) rfl))) (by decide) (by decide) (by decide)))
  have Fq20 := Fq8.wr Wq15
  refine Rn.putF (pc' := 57) (hw _ (List.mem_of_getElem? (i := 29) rfl)) Via.refl Fq19 Fq20 (Or.inr ⟨(hw _ (List.mem_of_getElem? (i := 30) rfl)), rfl, rfl⟩) (hw _ (List.mem_of_getElem? (i := 2) rfl)) (ty := (.array .byte)) (by decide) rfl rfl (Or.inl (List.mem_of_getElem? (i := 0) rfl)) Sf.no d1_54 rfl (fun hq22 Wq21 => ?_)
  have Fq23 := Fq19.same Wq21
  refine Rn.retV rfl d1_57 (Nat.le_of_ble_eq_true rfl) (Nat.le_of_ble_eq_true rfl) ?_
  have Fq24 := Fq20.wr Wq21
  have Fq25 := Fq17.other Wq21 (Or.inr (slot_ne (t := .byte) (t' := (.array .byte)) (Or.inr (hw _ (List.mem_of_getElem? (i := 28) rfl))) (Or.inr (hw _ (List.mem_of_getElem? (i := 30) rfl))) (by decide) (by decide) (by decide)))
  have Fq26 := At.other Wq15 (Ne.symm nt_x)
  have Fq27 := Fq26.other Wq21 (Ne.symm nt_x)
  exact ⟨rfl, t, ht, Fq24, Fq25, Fq23, Fq27⟩
theorem d0_0 : decode jdk_42_method_3_code 0 = .ok (.aload_n 0, 1) := by decide +kernel
theorem d0_1 : decode jdk_42_method_3_code 1 = .ok (.aload_n 1, 1) := by decide +kernel
theorem d0_2 : decode jdk_42_method_3_code 2 = .ok (.iconst 0, 1) := by decide +kernel
theorem d0_3 : decode jdk_42_method_3_code 3 = .ok (.aload_n 1, 1) := by decide +kernel
theorem d0_4 : decode jdk_42_method_3_code 4 = .ok (.arraylength, 1) := by decide +kernel
theorem d0_5 : decode jdk_42_method_3_code 5 = .ok (.aconst_null, 1) := by decide +kernel
theorem d0_6 : decode jdk_42_method_3_code 6 = .ok (.invokespecial 27, 3) := by decide +kernel
theorem d0_9 : decode jdk_42_method_3_code 9 = .ok (.return_, 1) := by decide +kernel
set_option maxRecDepth 65536 in
set_option maxHeartbeats 40000000 in
theorem ct_si2 (Z : State) (a0 : Array Value) (hw : ∀ d ∈ tables_1, d.before a0 Z = true) (x src : Addr) (c0 c1 : Int32) (hp0 : ¬ 255 < c0) (hp1 : ¬ 255 < c1) (z : Int32) (hz : z ≠ 0) (h0 : Heap) (E : Exa Z h0 x "java/lang/String") (V : Fld Z h0 x "java/lang/String" "value" "[B" .null) (Co : Fld Z h0 x "java/lang/String" "coder" "B" (.int (0 : Int32))) (A : Ax Z h0 src .char [.int c0, .int c1]) (hn : src ≠ x) (S : Sta Z Z.heap "java/lang/String" "COMPACT_STRINGS" "Z" (.int z)) :
    Ct Z ⟨"java/lang/String", "<init>", "([C)V"⟩ jdk_42_method_3_code 2 (Option.none : Option FieldType) ({ frames := 3, cells := 1, slots := 2, locals := 53 } : Room) #[(.ref x), (.ref src)] h0 [x] (fun v h => v = none ∧ ∃ t, h0.size ≤ t ∧ Sg Z h x t [.int (b8 c0), .int (b8 c1)]) := by
  refine Ct.intro (Ls := #[.val (.ref x), .val (.ref src)]) pn_3 (by intro m; first | (simp [entryFrame, mkF, argsToLocals, Value.category]; done) | rfl) ?_
  refine Rn.aloadN (pc' := 1) d0_0 rfl rfl rfl ?_
  refine Rn.aloadN (pc' := 2) d0_1 rfl rfl rfl ?_
  refine Rn.iconst (pc' := 3) (v := (0 : Int32)) d0_2 rfl rfl ?_
  refine Rn.aloadN (pc' := 4) d0_3 rfl rfl rfl ?_
  refine Rn.arraylength (pc' := 5) (n := (2 : Int32)) A rfl d0_4 rfl ?_
  refine Rn.aconst_null (pc' := 6) d0_5 rfl ?_
  refine Rn.callI (pc' := 9) (argsL := [.ref src, .int (0 : Int32), .int (2 : Int32), .null]) (a := x) (rest := []) (ct_siv2 Z a0 hw x src c0 c1 hp0 hp1 z hz h0 E V Co A hn S) rfl (hw _ (List.mem_of_getElem? (i := 8) rfl)) (hw _ (List.mem_of_getElem? (i := 9) rfl)) (hw _ (List.mem_of_getElem? (i := 3) rfl)) (hw _ (List.mem_of_getElem? (i := 11) rfl)) (by decide) rfl rfl (lenOf pd_10 rfl) rfl d0_6 rfl (Nat.le_of_ble_eq_true rfl) (Nat.le_of_ble_eq_true rfl) (Nat.le_of_ble_eq_true rfl) (Nat.le_of_ble_eq_true rfl) (allS (Or.inl (List.mem_of_getElem? (i := 0) rfl)) all0) (allS Sf.no (all0)) (fun vq1 hq2 Kq3 qq4 => ?_)
  obtain ⟨rfl, t, ht, G⟩ := qq4
  simp only [Option.toList, List.cons_append, List.nil_append]
  refine Rn.retV rfl d0_9 (Nat.le_of_ble_eq_true rfl) (Nat.le_of_ble_eq_true rfl) ?_
  exact ⟨rfl, t, ht, G⟩
set_option maxRecDepth 65536 in
set_option maxHeartbeats 40000000 in
theorem own_law (Z : State) (a0 : Array Value) (hw : ∀ d ∈ tables_1, d.before a0 Z = true) (a b c d e f : Int32) (i1 j1 x1 x2 : Int32) (ei1 : (c &&& (2147483647 : Int32)) % (6 : Int32) = i1) (hi1 : own_R6 i1) (ej1 : XT.ushr c (24 : Int32) &&& (3 : Int32) = j1) (hj1 : own_R4 j1) (ex1 : (XT.ushr c (8 : Int32) &&& (255 : Int32)).toUInt32.toUInt16.toUInt32.toInt32 = x1) (hx1 : own_B x1) (ex2 : (XT.ushr c (16 : Int32) &&& (255 : Int32)).toUInt32.toUInt16.toUInt32.toInt32 = x2) (hx2 : own_B x2) (kd : Int32) (ekd : XT.ushr f (5 : Int32) &&& (3 : Int32) = kd) (z : Int32) (hz : z ≠ 0) (S : Sta Z Z.heap "java/lang/String" "COMPACT_STRINGS" "Z" (.int z)) (ca : Addr) (vs : List Value) (S1 : Sta Z Z.heap "java/lang/Integer$IntegerCache" "high" "I" (.int (127 : Int32))) (S2 : Sta Z Z.heap "java/lang/Integer$IntegerCache" "cache" "[Ljava/lang/Integer;" (.ref ca)) (Ac : Ax Z Z.heap ca (.object "java/lang/Integer") vs) (hel : own_Ch Z vs) (p0 : Addr) (n0 : own_En Z "com/example/faultgauge/faultgauge/exec/TestResult$Difference" "Lcom/example/faultgauge/faultgauge/exec/TestResult$Difference;" "SAME" 0 p0) (p1 : Addr) (n1 : own_En Z "com/example/faultgauge/faultgauge/exec/TestResult$Difference" "Lcom/example/faultgauge/faultgauge/exec/TestResult$Difference;" "OUTPUT" 1 p1) (p2 : Addr) (n2 : own_En Z "com/example/faultgauge/faultgauge/exec/TestResult$Difference" "Lcom/example/faultgauge/faultgauge/exec/TestResult$Difference;" "EXIT_STATUS" 2 p2) (p3 : Addr) (n3 : own_En Z "com/example/faultgauge/faultgauge/exec/TestResult$Difference" "Lcom/example/faultgauge/faultgauge/exec/TestResult$Difference;" "SIGNAL" 3 p3) (p4 : Addr) (n4 : own_En Z "com/example/faultgauge/faultgauge/exec/TestResult$Difference" "Lcom/example/faultgauge/faultgauge/exec/TestResult$Difference;" "TIME_LIMIT" 4 p4) (p5 : Addr) (n5 : own_En Z "com/example/faultgauge/faultgauge/exec/TestResult$Difference" "Lcom/example/faultgauge/faultgauge/exec/TestResult$Difference;" "OUTPUT_LIMIT" 5 p5) (q0 : Addr) (m0 : own_En Z "com/example/faultgauge/faultgauge/exec/Ending" "Lcom/example/faultgauge/faultgauge/exec/Ending;" "EXIT" 0 q0) (q1 : Addr) (m1 : own_En Z "com/example/faultgauge/faultgauge/exec/Ending" "Lcom/example/faultgauge/faultgauge/exec/Ending;" "SIGNAL" 1 q1) (q2 : Addr) (m2 : own_En Z "com/example/faultgauge/faultgauge/exec/Ending" "Lcom/example/faultgauge/faultgauge/exec/Ending;" "TIMEOUT" 2 q2) (q3 : Addr) (m3 : own_En Z "com/example/faultgauge/faultgauge/exec/Ending" "Lcom/example/faultgauge/faultgauge/exec/Ending;" "OUTPUT_LIMIT" 3 q3) :
    Rn false Z [] "com/example/faultgauge/faultgauge/exec/TestResultEqualsPinLaw" "law" code 26 ret room_1 Z.heap [] (fun v _ => v = some (.int 1)) [] 0 0 Z.heap 0 #[.val (.int a), .val (.int b), .val (.int c), .val (.int d), .val (.int e), .val (.int f), .unset, .unset, .unset, .unset, .unset, .unset, .unset, .unset, .unset, .unset, .unset, .unset, .unset, .unset, .unset, .unset, .unset, .unset, .unset, .unset] [] := by
  refine Rn.iloadN (pc' := 1) at_0 rfl rfl ?_
  refine Rn.istore (pc' := 3) (Ls' := #[.val (.int a), .val (.int b), .val (.int c), .val (.int d), .val (.int e), .val (.int f), .val (.int a), .unset, .unset, .unset, .unset, .unset, .unset, .unset, .unset, .unset, .unset, .unset, .unset, .unset, .unset, .unset, .unset, .unset, .unset, .unset]) at_1 rfl rfl ?_
  have J_l2 : ∀ l2 : Int32, Rn false Z [] "com/example/faultgauge/faultgauge/exec/TestResultEqualsPinLaw" "law" code 26 ret room_1 Z.heap [] (fun v _ => v = some (.int 1)) [] 0 0 Z.heap 15 #[.val (.int a), .val (.int b), .val (.int c), .val (.int d), .val (.int e), .val (.int f), .val (.int a), .unset, .unset, .unset, .unset, .unset, .unset, .unset, .unset, .unset, .unset, .unset, .unset, .unset, .unset, .unset, .unset, .unset, .unset, .unset] [.int l2] := by
    intro l2
    refine Rn.istore (pc' := 17) (Ls' := #[.val (.int a), .val (.int b), .val (.int c), .val (.int d), .val (.int e), .val (.int f), .val (.int a), .val (.int l2), .unset, .unset, .unset, .unset, .unset, .unset, .unset, .unset, .unset, .unset, .unset, .unset, .unset, .unset, .unset, .unset, .unset, .unset]) at_15 rfl rfl ?_
    refine Rn.iloadN (pc' := 18) at_17 rfl rfl ?_
    refine Rn.ldcI (pc' := 20) (hw _ (List.mem_of_getElem? (i := 0) rfl)) at_18 rfl ?_
    refine Rn.iand (pc' := 21) (v := (c &&& (2147483647 : Int32))) at_20 rfl rfl ?_
    refine Rn.bipush (pc' := 23) (v := (6 : Int32)) at_21 rfl rfl ?_
    refine Rn.irem (pc' := 24) (v := i1) at_23 (by decide) ei1 rfl ?_
    refine Rn.istore (pc' := 26) (Ls' := #[.val (.int a), .val (.int b), .val (.int c), .val (.int d), .val (.int e), .val (.int f), .val (.int a), .val (.int l2), .val (.int i1), .unset, .unset, .unset, .unset, .unset, .unset, .unset, .unset, .unset, .unset, .unset, .unset, .unset, .unset, .unset, .unset, .unset]) at_24 rfl rfl ?_
    have J_i2 : ∀ i2 : Int32, own_R6 i2 → Rn false Z [] "com/example/faultgauge/faultgauge/exec/TestResultEqualsPinLaw" "law" code 26 ret room_1 Z.heap [] (fun v _ => v = some (.int 1)) [] 0 0 Z.heap 45 #[.val (.int a), .val (.int b), .val (.int c), .val (.int d), .val (.int e), .val (.int f), .val (.int a), .val (.int l2), .val (.int i1), .unset, .unset, .unset, .unset, .unset, .unset, .unset, .unset, .unset, .unset, .unset, .unset, .unset, .unset, .unset, .unset, .unset] [.int i2] := by
      intro i2 h_i2
      refine Rn.istore (pc' := 47) (Ls' := #[.val (.int a), .val (.int b), .val (.int c), .val (.int d), .val (.int e), .val (.int f), .val (.int a), .val (.int l2), .val (.int i1), .val (.int i2), .unset, .unset, .unset, .unset, .unset, .unset, .unset, .unset, .unset, .unset, .unset, .unset, .unset, .unset, .unset, .unset]) at_45 rfl rfl ?_
      refine Rn.iloadN (pc' := 48) at_47 rfl rfl ?_
      refine Rn.bipush (pc' := 50) (v := (24 : Int32)) at_48 rfl rfl ?_
      refine Rn.iushr (pc' := 51) (v := (XT.ushr c (24 : Int32))) at_50 rfl rfl ?_
      refine Rn.iconst (pc' := 52) (v := (3 : Int32)) at_51 rfl rfl ?_
      refine Rn.iand (pc' := 53) (v := j1) at_52 ej1 rfl ?_
      refine Rn.istore (pc' := 55) (Ls' := #[.val (.int a), .val (.int b), .val (.int c), .val (.int d), .val (.int e), .val (.int f), .val (.int a), .val (.int l2), .val (.int i1), .val (.int i2), .val (.int j1), .unset, .unset, .unset, .unset, .unset, .unset, .unset, .unset, .unset, .unset, .unset, .unset, .unset, .unset, .unset]) at_53 rfl rfl ?_
      have J_j2 : ∀ j2 : Int32, own_R4 j2 → Rn false Z [] "com/example/faultgauge/faultgauge/exec/TestResultEqualsPinLaw" "law" code 26 ret room_1 Z.heap [] (fun v _ => v = some (.int 1)) [] 0 0 Z.heap 73 #[.val (.int a), .val (.int b), .val (.int c), .val (.int d), .val (.int e), .val (.int f), .val (.int a), .val (.int l2), .val (.int i1), .val (.int i2), .val (.int j1), .unset, .unset, .unset, .unset, .unset, .unset, .unset, .unset, .unset, .unset, .unset, .unset, .unset, .unset, .unset] [.int j2] := by
        intro j2 h_j2
        refine Rn.istore (pc' := 75) (Ls' := #[.val (.int a), .val (.int b), .val (.int c), .val (.int d), .val (.int e), .val (.int f), .val (.int a), .val (.int l2), .val (.int i1), .val (.int i2), .val (.int j1), .val (.int j2), .unset, .unset, .unset, .unset, .unset, .unset, .unset, .unset, .unset, .unset, .unset, .unset, .unset, .unset]) at_73 rfl rfl ?_
        refine Rn.iload (pc' := 77) at_75 rfl rfl ?_
        refine Rn.istore (pc' := 79) (Ls' := #[.val (.int a), .val (.int b), .val (.int c), .val (.int d), .val (.int e), .val (.int f), .val (.int a), .val (.int l2), .val (.int i1), .val (.int i2), .val (.int j1), .val (.int j2), .val (.int e), .unset, .unset, .unset, .unset, .unset, .unset, .unset, .unset, .unset, .unset, .unset, .unset, .unset]) at_77 rfl rfl ?_
        have J_code2 : ∀ code2 : Int32, Rn false Z [] "com/example/faultgauge/faultgauge/exec/TestResultEqualsPinLaw" "law" code 26 ret room_1 Z.heap [] (fun v _ => v = some (.int 1)) [] 0 0 Z.heap 93 #[.val (.int a), .val (.int b), .val (.int c), .val (.int d), .val (.int e), .val (.int f), .val (.int a), .val (.int l2), .val (.int i1), .val (.int i2), .val (.int j1), .val (.int j2), .val (.int e), .unset, .unset, .unset, .unset, .unset, .unset, .unset, .unset, .unset, .unset, .unset, .unset, .unset] [.int code2] := by
          intro code2
          refine Rn.istore (pc' := 95) (Ls' := #[.val (.int a), .val (.int b), .val (.int c), .val (.int d), .val (.int e), .val (.int f), .val (.int a), .val (.int l2), .val (.int i1), .val (.int i2), .val (.int j1), .val (.int j2), .val (.int e), .val (.int code2), .unset, .unset, .unset, .unset, .unset, .unset, .unset, .unset, .unset, .unset, .unset, .unset]) at_93 rfl rfl ?_
          refine Rn.iloadN (pc' := 96) at_95 rfl rfl ?_
          refine Rn.bipush (pc' := 98) (v := (8 : Int32)) at_96 rfl rfl ?_
          refine Rn.iushr (pc' := 99) (v := (XT.ushr c (8 : Int32))) at_98 rfl rfl ?_
          refine Rn.sipush (pc' := 102) (v := (255 : Int32)) at_99 rfl rfl ?_
          refine Rn.iand (pc' := 103) (v := ((XT.ushr c (8 : Int32)) &&& (255 : Int32))) at_102 rfl rfl ?_
          refine Rn.i2c (pc' := 104) (v := x1) at_103 ex1 rfl ?_
          refine Rn.istore (pc' := 106) (Ls' := #[.val (.int a), .val (.int b), .val (.int c), .val (.int d), .val (.int e), .val (.int f), .val (.int a), .val (.int l2), .val (.int i1), .val (.int i2), .val (.int j1), .val (.int j2), .val (.int e), .val (.int code2), .val (.int x1), .unset, .unset, .unset, .unset, .unset, .unset, .unset, .unset, .unset, .unset, .unset]) at_104 rfl rfl ?_
          refine Rn.iloadN (pc' := 107) at_106 rfl rfl ?_
          refine Rn.bipush (pc' := 109) (v := (16 : Int32)) at_107 rfl rfl ?_
          refine Rn.iushr (pc' := 110) (v := (XT.ushr c (16 : Int32))) at_109 rfl rfl ?_
          refine Rn.sipush (pc' := 113) (v := (255 : Int32)) at_110 rfl rfl ?_
          refine Rn.iand (pc' := 114) (v := ((XT.ushr c (16 : Int32)) &&& (255 : Int32))) at_113 rfl rfl ?_
          refine Rn.i2c (pc' := 115) (v := x2) at_114 ex2 rfl ?_
          refine Rn.istore (pc' := 117) (Ls' := #[.val (.int a), .val (.int b), .val (.int c), .val (.int d), .val (.int e), .val (.int f), .val (.int a), .val (.int l2), .val (.int i1), .val (.int i2), .val (.int j1), .val (.int j2), .val (.int e), .val (.int code2), .val (.int x1), .val (.int x2), .unset, .unset, .unset, .unset, .unset, .unset, .unset, .unset, .unset, .unset]) at_115 rfl rfl ?_
          have J_y1 : ∀ y1 : Int32, own_B y1 → Rn false Z [] "com/example/faultgauge/faultgauge/exec/TestResultEqualsPinLaw" "law" code 26 ret room_1 Z.heap [] (fun v _ => v = some (.int 1)) [] 0 0 Z.heap 139 #[.val (.int a), .val (.int b), .val (.int c), .val (.int d), .val (.int e), .val (.int f), .val (.int a), .val (.int l2), .val (.int i1), .val (.int i2), .val (.int j1), .val (.int j2), .val (.int e), .val (.int code2), .val (.int x1), .val (.int x2), .unset, .unset, .unset, .unset, .unset, .unset, .unset, .unset, .unset, .unset] [.int y1] := by
            intro y1 h_y1
            refine Rn.istore (pc' := 141) (Ls' := #[.val (.int a), .val (.int b), .val (.int c), .val (.int d), .val (.int e), .val (.int f), .val (.int a), .val (.int l2), .val (.int i1), .val (.int i2), .val (.int j1), .val (.int j2), .val (.int e), .val (.int code2), .val (.int x1), .val (.int x2), .val (.int y1), .unset, .unset, .unset, .unset, .unset, .unset, .unset, .unset, .unset]) at_139 rfl rfl ?_
            have J_y2 : ∀ y2 : Int32, own_B y2 → Rn false Z [] "com/example/faultgauge/faultgauge/exec/TestResultEqualsPinLaw" "law" code 26 ret room_1 Z.heap [] (fun v _ => v = some (.int 1)) [] 0 0 Z.heap 163 #[.val (.int a), .val (.int b), .val (.int c), .val (.int d), .val (.int e), .val (.int f), .val (.int a), .val (.int l2), .val (.int i1), .val (.int i2), .val (.int j1), .val (.int j2), .val (.int e), .val (.int code2), .val (.int x1), .val (.int x2), .val (.int y1), .unset, .unset, .unset, .unset, .unset, .unset, .unset, .unset, .unset] [.int y2] := by
              intro y2 h_y2
              refine Rn.istore (pc' := 165) (Ls' := #[.val (.int a), .val (.int b), .val (.int c), .val (.int d), .val (.int e), .val (.int f), .val (.int a), .val (.int l2), .val (.int i1), .val (.int i2), .val (.int j1), .val (.int j2), .val (.int e), .val (.int code2), .val (.int x1), .val (.int x2), .val (.int y1), .val (.int y2), .unset, .unset, .unset, .unset, .unset, .unset, .unset, .unset]) at_163 rfl rfl ?_
              have J_sh : ∀ sh : Int32, (sh = 0 ∨ sh = 1) → Rn false Z [] "com/example/faultgauge/faultgauge/exec/TestResultEqualsPinLaw" "law" code 26 ret room_1 Z.heap [] (fun v _ => v = some (.int 1)) [] 0 0 Z.heap 179 #[.val (.int a), .val (.int b), .val (.int c), .val (.int d), .val (.int e), .val (.int f), .val (.int a), .val (.int l2), .val (.int i1), .val (.int i2), .val (.int j1), .val (.int j2), .val (.int e), .val (.int code2), .val (.int x1), .val (.int x2), .val (.int y1), .val (.int y2), .unset, .unset, .unset, .unset, .unset, .unset, .unset, .unset] [.int sh] := by
                intro sh h_sh
                rcases h_sh with rfl | rfl
                ·
                  refine Rn.istore (pc' := 181) (Ls' := #[.val (.int a), .val (.int b), .val (.int c), .val (.int d), .val (.int e), .val (.int f), .val (.int a), .val (.int l2), .val (.int i1), .val (.int i2), .val (.int j1), .val (.int j2), .val (.int e), .val (.int code2), .val (.int x1), .val (.int x2), .val (.int y1), .val (.int y2), .val (.int (0 : Int32)), .unset, .unset, .unset, .unset, .unset, .unset, .unset]) at_179 rfl rfl ?_
                  refine Rn.newO (pc' := 184) (hw _ (List.mem_of_getElem? (i := 1) rfl)) (hw _ (List.mem_of_getElem? (i := 2) rfl)) (hw _ (List.mem_of_getElem? (i := 3) rfl)) at_181 (Nat.le_of_ble_eq_true rfl) (Nat.le_of_ble_eq_true rfl) rfl (fun hq2 aq1 eq3 gq4 Eq5 ⟨Aq6, Dq7, Uq8⟩ => ?_)
                  have Fq9 : Fld Z hq2 aq1 "java/lang/String" "coder" "B" (.int (0 : Int32)) := Dq7 (Or.inr (hw _ (List.mem_of_getElem? (i := 28) rfl))) (ty := .byte) (by decide)
                  have Fq10 : Fld Z hq2 aq1 "java/lang/String" "value" "[B" (.null) := Dq7 (Or.inr (hw _ (List.mem_of_getElem? (i := 30) rfl))) (ty := (.array .byte)) (by decide)
                  refine Rn.dup (pc' := 185) at_184 rfl rfl ?_
                  refine Rn.iconst (pc' := 186) (v := (2 : Int32)) at_185 rfl rfl ?_
                  refine Rn.newP (pc' := 188) (cap := 2) (ty := .char) (ad := "[C") (hw _ (List.mem_of_getElem? (i := 4) rfl)) rfl rfl at_186 (by decide) (Nat.le_of_ble_eq_true rfl) (by decide) (Nat.le_of_ble_eq_true rfl) (Nat.le_of_ble_eq_true rfl) rfl (fun hq12 aq11 eq13 gq14 Eq15 ⟨Aq16, Bq17⟩ => ?_)
                  have nq18 : aq1 ≠ aq11 := by rw [eq13]; exact Nat.ne_of_lt (Aq6.lt)
                  have Aq19 : Ax Z hq12 aq11 .char ([.int (0 : Int32), .int (0 : Int32)]) := Aq16
                  refine Rn.dup (pc' := 189) at_188 rfl rfl ?_
                  refine Rn.iconst (pc' := 190) (v := (0 : Int32)) at_189 rfl rfl ?_
                  refine Rn.iload (pc' := 192) at_190 rfl rfl ?_
                  refine Rn.castore (pc' := 193) (v := .int x1) Aq19 (by decide) (Nat.le_of_ble_eq_true rfl) (congrArg Value.int hx1.2) (Or.inr gq14) Sf.no at_192 rfl (fun hq21 Wq20 Aq22 => ?_)
                  have Aq23 : Ax Z hq21 aq11 .char ([.int x1, .int (0 : Int32)]) := Aq22
                  refine Rn.dup (pc' := 194) at_193 rfl rfl ?_
                  refine Rn.iconst (pc' := 195) (v := (1 : Int32)) at_194 rfl rfl ?_
                  refine Rn.iload (pc' := 197) at_195 rfl rfl ?_
                  refine Rn.castore (pc' := 198) (v := .int x2) Aq23 (by decide) (Nat.le_of_ble_eq_true rfl) (congrArg Value.int hx2.2) (Or.inr gq14) Sf.no at_197 rfl (fun hq25 Wq24 Aq26 => ?_)
                  have Aq27 : Ax Z hq25 aq11 .char ([.int x1, .int x2]) := Aq26
                  have Fq31 := Aq6.ext Eq15
                  have Fq32 := Fq31.wr Wq20
                  have Fq33 := Fq32.wr Wq24
                  have Fq34 := Fq10.ext Eq15
                  have Fq35 := Fq34.other Wq20 (Or.inl nq18)
                  have Fq36 := Fq35.other Wq24 (Or.inl nq18)
                  have Fq37 := Fq9.ext Eq15
                  have Fq38 := Fq37.other Wq20 (Or.inl nq18)
                  have Fq39 := Fq38.other Wq24 (Or.inl nq18)
                  refine Rn.callI (pc' := 201) (argsL := [.ref aq11]) (a := aq1) (rest := [.ref aq1]) (ct_si2 Z a0 hw aq1 aq11 x1 x2 hx1.1.1 hx2.1.1 z hz hq25 Fq33 Fq36 Fq39 Aq27 (Ne.symm nq18) S) rfl (hw _ (List.mem_of_getElem? (i := 5) rfl)) (hw _ (List.mem_of_getElem? (i := 6) rfl)) (hw _ (List.mem_of_getElem? (i := 3) rfl)) (hw _ (List.mem_of_getElem? (i := 7) rfl)) (by decide) rfl rfl (lenOf pd_11 rfl) rfl at_198 rfl (Nat.le_of_ble_eq_true rfl) (Nat.le_of_ble_eq_true rfl) (Nat.le_of_ble_eq_true rfl) (Nat.le_of_ble_eq_true rfl) (allS (Or.inr gq4) all0) (allS Sf.no (all0)) (fun vq40 hq41 Kq42 qq43 => ?_)
                  obtain ⟨rfl, tq28, htq29, Gq30⟩ := qq43
                  simp only [Option.toList, List.cons_append, List.nil_append]
                  have nq44 : aq1 ≠ tq28 := Nat.ne_of_lt (Nat.lt_of_lt_of_le Fq33.lt htq29)
                  have nq45 : aq11 ≠ tq28 := Nat.ne_of_lt (Nat.lt_of_lt_of_le Aq27.lt htq29)
                  refine Rn.astore (pc' := 203) (Ls' := #[.val (.int a), .val (.int b), .val (.int c), .val (.int d), .val (.int e), .val (.int f), .val (.int a), .val (.int l2), .val (.int i1), .val (.int i2), .val (.int j1), .val (.int j2), .val (.int e), .val (.int code2), .val (.int x1), .val (.int x2), .val (.int y1), .val (.int y2), .val (.int (0 : Int32)), .val (.ref aq1), .unset, .unset, .unset, .unset, .unset, .unset]) at_201 rfl rfl rfl ?_
                  refine Rn.iload (pc' := 205) at_203 rfl rfl ?_
                  refine Rn.if_eq (pc' := 216) (pn := 208) at_205 (by decide) (by decide) rfl (fun cq46 => ?_) (fun cq46 => absurd cq46 (by decide))
                  refine Rn.newO (pc' := 219) (hw _ (List.mem_of_getElem? (i := 1) rfl)) (hw _ (List.mem_of_getElem? (i := 2) rfl)) (hw _ (List.mem_of_getElem? (i := 3) rfl)) at_216 (Nat.le_of_ble_eq_true rfl) (Nat.le_of_ble_eq_true rfl) rfl (fun hq48 aq47 eq49 gq50 Eq51 ⟨Aq52, Dq53, Uq54⟩ => ?_)
                  have nq55 : aq1 ≠ aq47 := by rw [eq49]; exact Nat.ne_of_lt (Gq30.1.lt)
                  have Fq56 := Aq27.keep Kq42 (ninS (Ne.symm nq18) nin0)
                  have nq57 : aq11 ≠ aq47 := by rw [eq49]; exact Nat.ne_of_lt (Fq56.lt)
                  have nq58 : tq28 ≠ aq47 := by rw [eq49]; exact Nat.ne_of_lt (Gq30.2.2.2.lt)
                  have Fq59 : Fld Z hq48 aq47 "java/lang/String" "coder" "B" (.int (0 : Int32)) := Dq53 (Or.inr (hw _ (List.mem_of_getElem? (i := 28) rfl))) (ty := .byte) (by decide)
                  have Fq60 : Fld Z hq48 aq47 "java/lang/String" "value" "[B" (.null) := Dq53 (Or.inr (hw _ (List.mem_of_getElem? (i := 30) rfl))) (ty := (.array .byte)) (by decide)
                  refine Rn.dup (pc' := 220) at_219 rfl rfl ?_
                  refine Rn.iconst (pc' := 221) (v := (2 : Int32)) at_220 rfl rfl ?_
                  refine Rn.newP (pc' := 223) (cap := 2) (ty := .char) (ad := "[C") (hw _ (List.mem_of_getElem? (i := 4) rfl)) rfl rfl at_221 (by decide) (Nat.le_of_ble_eq_true rfl) (by decide) (Nat.le_of_ble_eq_true rfl) (Nat.le_of_ble_eq_true rfl) rfl (fun hq62 aq61 eq63 gq64 Eq65 ⟨Aq66, Bq67⟩ => ?_)
                  have Fq68 := Gq30.1.ext Eq51
                  have nq69 : aq1 ≠ aq61 := by rw [eq63]; exact Nat.ne_of_lt (Fq68.lt)
                  have Fq70 := Fq56.ext Eq51
                  have nq71 : aq11 ≠ aq61 := by rw [eq63]; exact Nat.ne_of_lt (Fq70.lt)
                  have Fq72 := Gq30.2.2.2.ext Eq51
                  have nq73 : tq28 ≠ aq61 := by rw [eq63]; exact Nat.ne_of_lt (Fq72.lt)
                  have nq74 : aq47 ≠ aq61 := by rw [eq63]; exact Nat.ne_of_lt (Aq52.lt)
                  have Aq75 : Ax Z hq62 aq61 .char ([.int (0 : Int32), .int (0 : Int32)]) := Aq66
                  refine Rn.dup (pc' := 224) at_223 rfl rfl ?_
                  refine Rn.iconst (pc' := 225) (v := (0 : Int32)) at_224 rfl rfl ?_
                  refine Rn.iload (pc' := 227) at_225 rfl rfl ?_
                  refine Rn.castore (pc' := 228) (v := .int y1) Aq75 (by decide) (Nat.le_of_ble_eq_true rfl) (congrArg Value.int h_y1.2) (Or.inr gq64) Sf.no at_227 rfl (fun hq77 Wq76 Aq78 => ?_)
                  have Aq79 : Ax Z hq77 aq61 .char ([.int y1, .int (0 : Int32)]) := Aq78
                  refine Rn.dup (pc' := 229) at_228 rfl rfl ?_
                  refine Rn.iconst (pc' := 230) (v := (1 : Int32)) at_229 rfl rfl ?_
                  refine Rn.iload (pc' := 232) at_230 rfl rfl ?_
                  refine Rn.castore (pc' := 233) (v := .int y2) Aq79 (by decide) (Nat.le_of_ble_eq_true rfl) (congrArg Value.int h_y2.2) (Or.inr gq64) Sf.no at_232 rfl (fun hq81 Wq80 Aq82 => ?_)
                  have Aq83 : Ax Z hq81 aq61 .char ([.int y1, .int y2]) := Aq82
                  have Fq87 := Aq52.ext Eq65
                  have Fq88 := Fq87.wr Wq76
                  have Fq89 := Fq88.wr Wq80
                  have Fq90 := Fq60.ext Eq65
                  have Fq91 := Fq90.other Wq76 (Or.inl nq74)
                  have Fq92 := Fq91.other Wq80 (Or.inl nq74)
                  have Fq93 := Fq59.ext Eq65
                  have Fq94 := Fq93.other Wq76 (Or.inl nq74)
                  have Fq95 := Fq94.other Wq80 (Or.inl nq74)
                  have Fq96 := Fq68.ext Eq65
                  have Fq97 := Fq96.wr Wq76
                  have Fq98 := Fq97.wr Wq80
                  have Fq99 := Fq70.ext Eq65
                  have Fq100 := Fq99.other Wq76 nq71
                  have Fq101 := Fq100.other Wq80 nq71
                  have Fq102 := Fq72.ext Eq65
                  have Fq103 := Fq102.other Wq76 nq73
                  have Fq104 := Fq103.other Wq80 nq73
                  refine Rn.callI (pc' := 236) (argsL := [.ref aq61]) (a := aq47) (rest := [.ref aq47]) (ct_si2 Z a0 hw aq47 aq61 y1 y2 h_y1.1.1 h_y2.1.1 z hz hq81 Fq89 Fq92 Fq95 Aq83 (Ne.symm nq74) S) rfl (hw _ (List.mem_of_getElem? (i := 5) rfl)) (hw _ (List.mem_of_getElem? (i := 6) rfl)) (hw _ (List.mem_of_getElem? (i := 3) rfl)) (hw _ (List.mem_of_getElem? (i := 7) rfl)) (by decide) rfl rfl (lenOf pd_11 rfl) rfl at_233 rfl (Nat.le_of_ble_eq_true rfl) (Nat.le_of_ble_eq_true rfl) (Nat.le_of_ble_eq_true rfl) (Nat.le_of_ble_eq_true rfl) (allS (Or.inr gq50) all0) (allS Sf.no (all0)) (fun vq105 hq106 Kq107 qq108 => ?_)
                  obtain ⟨rfl, tq84, htq85, Gq86⟩ := qq108
                  simp only [Option.toList, List.cons_append, List.nil_append]
                  have nq109 : aq1 ≠ tq84 := Nat.ne_of_lt (Nat.lt_of_lt_of_le Fq98.lt htq85)
                  have nq110 : aq11 ≠ tq84 := Nat.ne_of_lt (Nat.lt_of_lt_of_le Fq101.lt htq85)
                  have nq111 : tq28 ≠ tq84 := Nat.ne_of_lt (Nat.lt_of_lt_of_le Fq104.lt htq85)
                  have nq112 : aq47 ≠ tq84 := Nat.ne_of_lt (Nat.lt_of_lt_of_le Fq89.lt htq85)
                  have nq113 : aq61 ≠ tq84 := Nat.ne_of_lt (Nat.lt_of_lt_of_le Aq83.lt htq85)
                  refine Rn.astore (pc' := 238) (Ls' := #[.val (.int a), .val (.int b), .val (.int c), .val (.int d), .val (.int e), .val (.int f), .val (.int a), .val (.int l2), .val (.int i1), .val (.int i2), .val (.int j1), .val (.int j2), .val (.int e), .val (.int code2), .val (.int x1), .val (.int x2), .val (.int y1), .val (.int y2), .val (.int (0 : Int32)), .val (.ref aq1), .val (.ref aq47), .unset, .unset, .unset, .unset, .unset]) at_236 rfl rfl rfl ?_
                  refine Rn.iload (pc' := 240) at_238 rfl rfl ?_
                  refine Rn.iconst (pc' := 241) (v := (5 : Int32)) at_240 rfl rfl ?_
                  refine Rn.iushr (pc' := 242) (v := (XT.ushr f (5 : Int32))) at_241 rfl rfl ?_
                  refine Rn.iconst (pc' := 243) (v := (3 : Int32)) at_242 rfl rfl ?_
                  refine Rn.iand (pc' := 244) (v := kd) at_243 ekd rfl ?_
                  refine Rn.istore (pc' := 246) (Ls' := #[.val (.int a), .val (.int b), .val (.int c), .val (.int d), .val (.int e), .val (.int f), .val (.int a), .val (.int l2), .val (.int i1), .val (.int i2), .val (.int j1), .val (.int j2), .val (.int e), .val (.int code2), .val (.int x1), .val (.int x2), .val (.int y1), .val (.int y2), .val (.int (0 : Int32)), .val (.ref aq1), .val (.ref aq47), .val (.int kd), .unset, .unset, .unset, .unset]) at_244 rfl rfl ?_
                  refine Rn.newO (pc' := 249) (hw _ (List.mem_of_getElem? (i := 31) rfl)) (hw _ (List.mem_of_getElem? (i := 32) rfl)) (hw _ (List.mem_of_getElem? (i := 33) rfl)) at_246 (Nat.le_of_ble_eq_true rfl) (Nat.le_of_ble_eq_true rfl) rfl (fun hq115 aq114 eq116 gq117 Eq118 ⟨Aq119, Dq120, Uq121⟩ => ?_)
                  have Fq122 := Fq98.keep Kq107
                  have nq123 : aq1 ≠ aq114 := by rw [eq116]; exact Nat.ne_of_lt (Fq122.lt)
                  have Fq124 := Fq101.keep Kq107 (ninS nq57 nin0)
                  have nq125 : aq11 ≠ aq114 := by rw [eq116]; exact Nat.ne_of_lt (Fq124.lt)
                  have Fq126 := Fq104.keep Kq107 (ninS nq58 nin0)
                  have nq127 : tq28 ≠ aq114 := by rw [eq116]; exact Nat.ne_of_lt (Fq126.lt)
                  have nq128 : aq47 ≠ aq114 := by rw [eq116]; exact Nat.ne_of_lt (Gq86.1.lt)
                  have Fq129 := Aq83.keep Kq107 (ninS (Ne.symm nq74) nin0)
                  have nq130 : aq61 ≠ aq114 := by rw [eq116]; exact Nat.ne_of_lt (Fq129.lt)
                  have nq131 : tq84 ≠ aq114 := by rw [eq116]; exact Nat.ne_of_lt (Gq86.2.2.2.lt)
                  have Fq132 : Fld Z hq115 aq114 "com/example/faultgauge/faultgauge/exec/TestResult" "line" "I" (.int (0 : Int32)) := Dq120 (Or.inr (hw _ (List.mem_of_getElem? (i := 52) rfl))) (ty := .int) (by decide)
                  have Fq133 : Fld Z hq115 aq114 "com/example/faultgauge/faultgauge/exec/TestResult" "difference" "Lcom/example/faultgauge/faultgauge/exec/TestResult$Difference;" (.null) := Dq120 (Or.inr (hw _ (List.mem_of_getElem? (i := 54) rfl))) (ty := (.object "com/example/faultgauge/faultgauge/exec/TestResult$Difference")) (by decide)
                  have Fq134 : Fld Z hq115 aq114 "com/example/faultgauge/faultgauge/exec/TestResult" "ending" "Lcom/example/faultgauge/faultgauge/exec/Ending;" (.null) := Dq120 (Or.inr (hw _ (List.mem_of_getElem? (i := 56) rfl))) (ty := (.object "com/example/faultgauge/faultgauge/exec/Ending")) (by decide)
                  have Fq135 : Fld Z hq115 aq114 "com/example/faultgauge/faultgauge/exec/TestResult" "code" "I" (.int (0 : Int32)) := Dq120 (Or.inr (hw _ (List.mem_of_getElem? (i := 58) rfl))) (ty := .int) (by decide)
                  have Fq136 : Fld Z hq115 aq114 "com/example/faultgauge/faultgauge/exec/TestResult" "outputDigest" "Ljava/lang/String;" (.null) := Dq120 (Or.inr (hw _ (List.mem_of_getElem? (i := 60) rfl))) (ty := (.object "java/lang/String")) (by decide)
                  refine Rn.dup (pc' := 250) at_249 rfl rfl ?_
                  refine Rn.iload (pc' := 252) at_250 rfl rfl ?_
                  refine Rn.iload (pc' := 254) at_252 rfl rfl ?_
                  refine Rn.callS (pc' := 257) (argsL := [.int i1]) (rest := [.int a, .ref aq114, .ref aq114]) (ct_df Z a0 hw i1 hq115 p0 n0 p1 n1 p2 n2 p3 n3 p4 n4 p5 n5) (hw _ (List.mem_of_getElem? (i := 34) rfl)) (hw _ (List.mem_of_getElem? (i := 35) rfl)) (hw _ (List.mem_of_getElem? (i := 36) rfl)) (hw _ (List.mem_of_getElem? (i := 37) rfl)) (by decide) rfl rfl (lenOf pd_12 rfl) rfl at_254 rfl (Nat.le_of_ble_eq_true rfl) (Nat.le_of_ble_eq_true rfl) (Nat.le_of_ble_eq_true rfl) (Nat.le_of_ble_eq_true rfl) (fun _ z => nomatch z) (fun _ z => nomatch z) (fun vq137 hq138 Kq139 qq140 => ?_)
                  obtain ⟨rfl, rfl⟩ := qq140
                  simp only [Option.toList, List.cons_append, List.nil_append]
                  refine Rn.iload (pc' := 259) at_257 rfl rfl ?_
                  refine Rn.callS (pc' := 262) (argsL := [.int j1]) (rest := [.ref (own_p6 p0 p1 p2 p3 p4 p5 i1), .int a, .ref aq114, .ref aq114]) (ct_en Z a0 hw j1 hq115 q0 m0 q1 m1 q2 m2 q3 m3) (hw _ (List.mem_of_getElem? (i := 41) rfl)) (hw _ (List.mem_of_getElem? (i := 42) rfl)) (hw _ (List.mem_of_getElem? (i := 36) rfl)) (hw _ (List.mem_of_getElem? (i := 43) rfl)) (by decide) rfl rfl (lenOf pd_13 rfl) rfl at_259 rfl (Nat.le_of_ble_eq_true rfl) (Nat.le_of_ble_eq_true rfl) (Nat.le_of_ble_eq_true rfl) (Nat.le_of_ble_eq_true rfl) (fun _ z => nomatch z) (fun _ z => nomatch z) (fun vq141 hq142 Kq143 qq144 => ?_)
                  obtain ⟨rfl, rfl⟩ := qq144
                  simp only [Option.toList, List.cons_append, List.nil_append]
                  refine Rn.iload (pc' := 264) at_262 rfl rfl ?_
                  refine Rn.aload (pc' := 266) at_264 rfl rfl rfl ?_
                  refine Rn.callI (pc' := 269) (argsL := [.int a, .ref (own_p6 p0 p1 p2 p3 p4 p5 i1), .ref (own_p4 q0 q1 q2 q3 j1), .int e, .ref aq1]) (a := aq114) (rest := [.ref aq114]) (ct_tr Z a0 hw aq114 a (own_p6 p0 p1 p2 p3 p4 p5 i1) (own_p4 q0 q1 q2 q3 j1) e aq1 hq115 Aq119 Fq132 Fq133 Fq134 Fq135 Fq136) rfl (hw _ (List.mem_of_getElem? (i := 47) rfl)) (hw _ (List.mem_of_getElem? (i := 48) rfl)) (hw _ (List.mem_of_getElem? (i := 33) rfl)) (hw _ (List.mem_of_getElem? (i := 49) rfl)) (by decide) rfl rfl (lenOf pd_14 rfl) rfl at_266 rfl (Nat.le_of_ble_eq_true rfl) (Nat.le_of_ble_eq_true rfl) (Nat.le_of_ble_eq_true rfl) (Nat.le_of_ble_eq_true rfl) (allS (Or.inr gq117) all0) (allS Sf.no (all0)) (fun vq146 hq147 Kq148 qq149 => ?_)
                  obtain ⟨rfl, Tq145⟩ := qq149
                  simp only [Option.toList, List.cons_append, List.nil_append]
                  refine Rn.astore (pc' := 271) (Ls' := #[.val (.int a), .val (.int b), .val (.int c), .val (.int d), .val (.int e), .val (.int f), .val (.int a), .val (.int l2), .val (.int i1), .val (.int i2), .val (.int j1), .val (.int j2), .val (.int e), .val (.int code2), .val (.int x1), .val (.int x2), .val (.int y1), .val (.int y2), .val (.int (0 : Int32)), .val (.ref aq1), .val (.ref aq47), .val (.int kd), .val (.ref aq114), .unset, .unset, .unset]) at_269 rfl rfl rfl ?_
                  refine Rn.newO (pc' := 274) (hw _ (List.mem_of_getElem? (i := 31) rfl)) (hw _ (List.mem_of_getElem? (i := 32) rfl)) (hw _ (List.mem_of_getElem? (i := 33) rfl)) at_271 (Nat.le_of_ble_eq_true rfl) (Nat.le_of_ble_eq_true rfl) rfl (fun hq151 aq150 eq152 gq153 Eq154 ⟨Aq155, Dq156, Uq157⟩ => ?_)
                  have Fq158 := Fq122.ext Eq118
                  have Fq159 := Fq158.keep Kq148
                  have nq160 : aq1 ≠ aq150 := by rw [eq152]; exact Nat.ne_of_lt (Fq159.lt)
                  have Fq161 := Fq124.ext Eq118
                  have Fq162 := Fq161.keep Kq148 (ninS nq125 nin0)
                  have nq163 : aq11 ≠ aq150 := by rw [eq152]; exact Nat.ne_of_lt (Fq162.lt)
                  have Fq164 := Fq126.ext Eq118
                  have Fq165 := Fq164.keep Kq148 (ninS nq127 nin0)
                  have nq166 : tq28 ≠ aq150 := by rw [eq152]; exact Nat.ne_of_lt (Fq165.lt)
                  have Fq167 := Gq86.1.ext Eq118
                  have Fq168 := Fq167.keep Kq148
                  have nq169 : aq47 ≠ aq150 := by rw [eq152]; exact Nat.ne_of_lt (Fq168.lt)
                  have Fq170 := Fq129.ext Eq118
                  have Fq171 := Fq170.keep Kq148 (ninS nq130 nin0)
                  have nq172 : aq61 ≠ aq150 := by rw [eq152]; exact Nat.ne_of_lt (Fq171.lt)
                  have Fq173 := Gq86.2.2.2.ext Eq118
                  have Fq174 := Fq173.keep Kq148 (ninS nq131 nin0)
                  have nq175 : tq84 ≠ aq150 := by rw [eq152]; exact Nat.ne_of_lt (Fq174.lt)
                  have nq176 : aq114 ≠ aq150 := by rw [eq152]; exact Nat.ne_of_lt (Tq145.1.lt)
                  have Fq177 : Fld Z hq151 aq150 "com/example/faultgauge/faultgauge/exec/TestResult" "line" "I" (.int (0 : Int32)) := Dq156 (Or.inr (hw _ (List.mem_of_getElem? (i := 52) rfl))) (ty := .int) (by decide)
                  have Fq178 : Fld Z hq151 aq150 "com/example/faultgauge/faultgauge/exec/TestResult" "difference" "Lcom/example/faultgauge/faultgauge/exec/TestResult$Difference;" (.null) := Dq156 (Or.inr (hw _ (List.mem_of_getElem? (i := 54) rfl))) (ty := (.object "com/example/faultgauge/faultgauge/exec/TestResult$Difference")) (by decide)
                  have Fq179 : Fld Z hq151 aq150 "com/example/faultgauge/faultgauge/exec/TestResult" "ending" "Lcom/example/faultgauge/faultgauge/exec/Ending;" (.null) := Dq156 (Or.inr (hw _ (List.mem_of_getElem? (i := 56) rfl))) (ty := (.object "com/example/faultgauge/faultgauge/exec/Ending")) (by decide)
                  have Fq180 : Fld Z hq151 aq150 "com/example/faultgauge/faultgauge/exec/TestResult" "code" "I" (.int (0 : Int32)) := Dq156 (Or.inr (hw _ (List.mem_of_getElem? (i := 58) rfl))) (ty := .int) (by decide)
                  have Fq181 : Fld Z hq151 aq150 "com/example/faultgauge/faultgauge/exec/TestResult" "outputDigest" "Ljava/lang/String;" (.null) := Dq156 (Or.inr (hw _ (List.mem_of_getElem? (i := 60) rfl))) (ty := (.object "java/lang/String")) (by decide)
                  refine Rn.dup (pc' := 275) at_274 rfl rfl ?_
                  refine Rn.iload (pc' := 277) at_275 rfl rfl ?_
                  refine Rn.iload (pc' := 279) at_277 rfl rfl ?_
                  refine Rn.callS (pc' := 282) (argsL := [.int i2]) (rest := [.int l2, .ref aq150, .ref aq150]) (ct_df Z a0 hw i2 hq151 p0 n0 p1 n1 p2 n2 p3 n3 p4 n4 p5 n5) (hw _ (List.mem_of_getElem? (i := 34) rfl)) (hw _ (List.mem_of_getElem? (i := 35) rfl)) (hw _ (List.mem_of_getElem? (i := 36) rfl)) (hw _ (List.mem_of_getElem? (i := 37) rfl)) (by decide) rfl rfl (lenOf pd_12 rfl) rfl at_279 rfl (Nat.le_of_ble_eq_true rfl) (Nat.le_of_ble_eq_true rfl) (Nat.le_of_ble_eq_true rfl) (Nat.le_of_ble_eq_true rfl) (fun _ z => nomatch z) (fun _ z => nomatch z) (fun vq182 hq183 Kq184 qq185 => ?_)
                  obtain ⟨rfl, rfl⟩ := qq185
                  simp only [Option.toList, List.cons_append, List.nil_append]
                  refine Rn.iload (pc' := 284) at_282 rfl rfl ?_
                  refine Rn.callS (pc' := 287) (argsL := [.int j2]) (rest := [.ref (own_p6 p0 p1 p2 p3 p4 p5 i2), .int l2, .ref aq150, .ref aq150]) (ct_en Z a0 hw j2 hq151 q0 m0 q1 m1 q2 m2 q3 m3) (hw _ (List.mem_of_getElem? (i := 41) rfl)) (hw _ (List.mem_of_getElem? (i := 42) rfl)) (hw _ (List.mem_of_getElem? (i := 36) rfl)) (hw _ (List.mem_of_getElem? (i := 43) rfl)) (by decide) rfl rfl (lenOf pd_13 rfl) rfl at_284 rfl (Nat.le_of_ble_eq_true rfl) (Nat.le_of_ble_eq_true rfl) (Nat.le_of_ble_eq_true rfl) (Nat.le_of_ble_eq_true rfl) (fun _ z => nomatch z) (fun _ z => nomatch z) (fun vq186 hq187 Kq188 qq189 => ?_)
                  obtain ⟨rfl, rfl⟩ := qq189
                  simp only [Option.toList, List.cons_append, List.nil_append]
                  refine Rn.iload (pc' := 289) at_287 rfl rfl ?_
                  refine Rn.aload (pc' := 291) at_289 rfl rfl rfl ?_
                  refine Rn.callI (pc' := 294) (argsL := [.int l2, .ref (own_p6 p0 p1 p2 p3 p4 p5 i2), .ref (own_p4 q0 q1 q2 q3 j2), .int code2, .ref aq47]) (a := aq150) (rest := [.ref aq150]) (ct_tr Z a0 hw aq150 l2 (own_p6 p0 p1 p2 p3 p4 p5 i2) (own_p4 q0 q1 q2 q3 j2) code2 aq47 hq151 Aq155 Fq177 Fq178 Fq179 Fq180 Fq181) rfl (hw _ (List.mem_of_getElem? (i := 47) rfl)) (hw _ (List.mem_of_getElem? (i := 48) rfl)) (hw _ (List.mem_of_getElem? (i := 33) rfl)) (hw _ (List.mem_of_getElem? (i := 49) rfl)) (by decide) rfl rfl (lenOf pd_14 rfl) rfl at_291 rfl (Nat.le_of_ble_eq_true rfl) (Nat.le_of_ble_eq_true rfl) (Nat.le_of_ble_eq_true rfl) (Nat.le_of_ble_eq_true rfl) (allS (Or.inr gq153) all0) (allS Sf.no (all0)) (fun vq191 hq192 Kq193 qq194 => ?_)
                  obtain ⟨rfl, Tq190⟩ := qq194
                  simp only [Option.toList, List.cons_append, List.nil_append]
                  refine Rn.astore (pc' := 296) (Ls' := #[.val (.int a), .val (.int b), .val (.int c), .val (.int d), .val (.int e), .val (.int f), .val (.int a), .val (.int l2), .val (.int i1), .val (.int i2), .val (.int j1), .val (.int j2), .val (.int e), .val (.int code2), .val (.int x1), .val (.int x2), .val (.int y1), .val (.int y2), .val (.int (0 : Int32)), .val (.ref aq1), .val (.ref aq47), .val (.int kd), .val (.ref aq114), .val (.ref aq150), .unset, .unset]) at_294 rfl rfl rfl ?_
                  refine Rn.iload (pc' := 298) at_296 rfl rfl ?_
                  refine Rn.iconst (pc' := 299) (v := (2 : Int32)) at_298 rfl rfl ?_
                  refine Rn.icmp_ge (pc' := 309) (pn := 302) at_299 (by decide) (by decide) rfl (fun cq195 => ?_) (fun cq195 => ?_)
                  ·
                    refine Rn.iload (pc' := 311) at_309 rfl rfl ?_
                    refine Rn.iconst (pc' := 312) (v := (2 : Int32)) at_311 rfl rfl ?_
                    refine Rn.icmp_ne (pc' := 321) (pn := 315) at_312 (by decide) (by decide) rfl (fun cq196 => ?_) (fun cq196 => ?_)
                    ·
                      refine Rn.iloadN (pc' := 322) at_321 rfl rfl ?_
                      refine Rn.callS (pc' := 325) (argsL := [.int a]) (rest := []) (ct_iv Z a0 hw a ca vs hq192 S1 S2 Ac hel) (hw _ (List.mem_of_getElem? (i := 86) rfl)) (hw _ (List.mem_of_getElem? (i := 87) rfl)) (hw _ (List.mem_of_getElem? (i := 88) rfl)) (hw _ (List.mem_of_getElem? (i := 89) rfl)) (by decide) rfl rfl (lenOf pd_15 rfl) rfl at_322 rfl (Nat.le_of_ble_eq_true rfl) (Nat.le_of_ble_eq_true rfl) (Nat.le_of_ble_eq_true rfl) (Nat.le_of_ble_eq_true rfl) (fun _ z => nomatch z) (fun _ z => nomatch z) (fun vq197 hq198 Kq199 qq200 => ?_)
                      obtain ⟨xi, rfl, Exi⟩ := qq200
                      simp only [Option.toList, List.cons_append, List.nil_append]
                      refine Rn.astore (pc' := 327) (Ls' := #[.val (.int a), .val (.int b), .val (.int c), .val (.int d), .val (.int e), .val (.int f), .val (.int a), .val (.int l2), .val (.int i1), .val (.int i2), .val (.int j1), .val (.int j2), .val (.int e), .val (.int code2), .val (.int x1), .val (.int x2), .val (.int y1), .val (.int y2), .val (.int (0 : Int32)), .val (.ref aq1), .val (.ref aq47), .val (.int kd), .val (.ref aq114), .val (.ref aq150), .val (.ref xi), .unset]) at_325 rfl rfl rfl ?_
                      refine Rn.iload (pc' := 329) at_327 rfl rfl ?_
                      refine Rn.iconst (pc' := 330) (v := (2 : Int32)) at_329 rfl rfl ?_
                      refine Rn.icmp_ge (pc' := 390) (pn := 333) at_330 (by decide) (by decide) rfl (fun cq201 => ?_) (fun cq201 => absurd cq201 ‹¬ kd < (2 : Int32)›)
                      refine Rn.iconst (pc' := 391) (v := (0 : Int32)) at_390 rfl rfl ?_
                      refine Rn.istore (pc' := 393) (Ls' := #[.val (.int a), .val (.int b), .val (.int c), .val (.int d), .val (.int e), .val (.int f), .val (.int a), .val (.int l2), .val (.int i1), .val (.int i2), .val (.int j1), .val (.int j2), .val (.int e), .val (.int code2), .val (.int x1), .val (.int x2), .val (.int y1), .val (.int y2), .val (.int (0 : Int32)), .val (.ref aq1), .val (.ref aq47), .val (.int kd), .val (.ref aq114), .val (.ref aq150), .val (.ref xi), .val (.int (0 : Int32))]) at_391 rfl rfl ?_
                      refine Rn.aload (pc' := 395) at_393 rfl rfl rfl ?_
                      refine Rn.aload (pc' := 397) at_395 rfl rfl rfl ?_
                      have Fq206 := Tq145.1.ext Eq154
                      have Fq207 := Fq206.keep Kq193
                      have Fq208 := Fq207.keep Kq199
                      refine Rn.callV (pc' := 400) (argsL := [.ref xi]) (a := aq114) (rest := []) (ct_eqi Z a0 hw aq114 xi hq198 Exi) Fq208 (hw _ (List.mem_of_getElem? (i := 61) rfl)) (hw _ (List.mem_of_getElem? (i := 62) rfl)) (fun _ hZ => notFace_of_selects (args := #[]) (mvT hZ (hw _ (List.mem_of_getElem? (i := 64) rfl)))) (hw _ (List.mem_of_getElem? (i := 64) rfl)) (hw _ (List.mem_of_getElem? (i := 63) rfl)) (hw _ (List.mem_of_getElem? (i := 33) rfl)) (hw _ (List.mem_of_getElem? (i := 65) rfl)) (by decide) rfl rfl (lenOf pd_1 rfl) rfl at_397 rfl (Nat.le_of_ble_eq_true rfl) (Nat.le_of_ble_eq_true rfl) (Nat.le_of_ble_eq_true rfl) (Nat.le_of_ble_eq_true rfl) (fun _ z => nomatch z) (fun _ z => nomatch z) (fun vq202 hq203 Kq204 qq205 => ?_)
                      obtain ⟨rfl, rfl⟩ := qq205
                      simp only [Option.toList, List.cons_append, List.nil_append]
                      refine Rn.iload (pc' := 402) at_400 rfl rfl ?_
                      refine Rn.icmp_ne (pc' := 409) (pn := 405) at_402 (by decide) (by decide) rfl (fun cq209 => absurd cq209 (by decide)) (fun cq209 => ?_)
                      refine Rn.iconst (pc' := 406) (v := (1 : Int32)) at_405 rfl rfl ?_
                      refine Rn.goto (pc' := 410) at_406 (by decide) (by decide) ?_
                      refine Rn.retN (t := .boolean) rfl (by simp) at_410 (Nat.le_of_ble_eq_true rfl) (Nat.le_of_ble_eq_true rfl) ?_
                      rfl
                    ·
                      refine Rn.aconst_null (pc' := 316) at_315 rfl ?_
                      refine Rn.astore (pc' := 318) (Ls' := #[.val (.int a), .val (.int b), .val (.int c), .val (.int d), .val (.int e), .val (.int f), .val (.int a), .val (.int l2), .val (.int i1), .val (.int i2), .val (.int j1), .val (.int j2), .val (.int e), .val (.int code2), .val (.int x1), .val (.int x2), .val (.int y1), .val (.int y2), .val (.int (0 : Int32)), .val (.ref aq1), .val (.ref aq47), .val (.int kd), .val (.ref aq114), .val (.ref aq150), .val (.null), .unset]) at_316 rfl rfl rfl ?_
                      refine Rn.goto (pc' := 327) at_318 (by decide) (by decide) ?_
                      refine Rn.iload (pc' := 329) at_327 rfl rfl ?_
                      refine Rn.iconst (pc' := 330) (v := (2 : Int32)) at_329 rfl rfl ?_
                      refine Rn.icmp_ge (pc' := 390) (pn := 333) at_330 (by decide) (by decide) rfl (fun cq210 => ?_) (fun cq210 => absurd cq210 ‹¬ kd < (2 : Int32)›)
                      refine Rn.iconst (pc' := 391) (v := (0 : Int32)) at_390 rfl rfl ?_
                      refine Rn.istore (pc' := 393) (Ls' := #[.val (.int a), .val (.int b), .val (.int c), .val (.int d), .val (.int e), .val (.int f), .val (.int a), .val (.int l2), .val (.int i1), .val (.int i2), .val (.int j1), .val (.int j2), .val (.int e), .val (.int code2), .val (.int x1), .val (.int x2), .val (.int y1), .val (.int y2), .val (.int (0 : Int32)), .val (.ref aq1), .val (.ref aq47), .val (.int kd), .val (.ref aq114), .val (.ref aq150), .val (.null), .val (.int (0 : Int32))]) at_391 rfl rfl ?_
                      refine Rn.aload (pc' := 395) at_393 rfl rfl rfl ?_
                      refine Rn.aload (pc' := 397) at_395 rfl rfl rfl ?_
                      have Fq215 := Tq145.1.ext Eq154
                      have Fq216 := Fq215.keep Kq193
                      refine Rn.callV (pc' := 400) (argsL := [.null]) (a := aq114) (rest := []) (ct_eqn Z a0 hw aq114 hq192) Fq216 (hw _ (List.mem_of_getElem? (i := 61) rfl)) (hw _ (List.mem_of_getElem? (i := 62) rfl)) (fun _ hZ => notFace_of_selects (args := #[]) (mvT hZ (hw _ (List.mem_of_getElem? (i := 64) rfl)))) (hw _ (List.mem_of_getElem? (i := 64) rfl)) (hw _ (List.mem_of_getElem? (i := 63) rfl)) (hw _ (List.mem_of_getElem? (i := 33) rfl)) (hw _ (List.mem_of_getElem? (i := 65) rfl)) (by decide) rfl rfl (lenOf pd_1 rfl) rfl at_397 rfl (Nat.le_of_ble_eq_true rfl) (Nat.le_of_ble_eq_true rfl) (Nat.le_of_ble_eq_true rfl) (Nat.le_of_ble_eq_true rfl) (fun _ z => nomatch z) (fun _ z => nomatch z) (fun vq211 hq212 Kq213 qq214 => ?_)
                      obtain ⟨rfl, rfl⟩ := qq214
                      simp only [Option.toList, List.cons_append, List.nil_append]
                      refine Rn.iload (pc' := 402) at_400 rfl rfl ?_
                      refine Rn.icmp_ne (pc' := 409) (pn := 405) at_402 (by decide) (by decide) rfl (fun cq217 => absurd cq217 (by decide)) (fun cq217 => ?_)
                      refine Rn.iconst (pc' := 406) (v := (1 : Int32)) at_405 rfl rfl ?_
                      refine Rn.goto (pc' := 410) at_406 (by decide) (by decide) ?_
                      refine Rn.retN (t := .boolean) rfl (by simp) at_410 (Nat.le_of_ble_eq_true rfl) (Nat.le_of_ble_eq_true rfl) ?_
                      rfl
                  ·
                    refine Rn.aload (pc' := 304) at_302 rfl rfl rfl ?_
                    refine Rn.astore (pc' := 306) (Ls' := #[.val (.int a), .val (.int b), .val (.int c), .val (.int d), .val (.int e), .val (.int f), .val (.int a), .val (.int l2), .val (.int i1), .val (.int i2), .val (.int j1), .val (.int j2), .val (.int e), .val (.int code2), .val (.int x1), .val (.int x2), .val (.int y1), .val (.int y2), .val (.int (0 : Int32)), .val (.ref aq1), .val (.ref aq47), .val (.int kd), .val (.ref aq114), .val (.ref aq150), .val (.ref aq150), .unset]) at_304 rfl rfl rfl ?_
                    refine Rn.goto (pc' := 327) at_306 (by decide) (by decide) ?_
                    refine Rn.iload (pc' := 329) at_327 rfl rfl ?_
                    refine Rn.iconst (pc' := 330) (v := (2 : Int32)) at_329 rfl rfl ?_
                    refine Rn.icmp_ge (pc' := 390) (pn := 333) at_330 (by decide) (by decide) rfl (fun cq218 => absurd ‹kd < (2 : Int32)› cq218) (fun cq218 => ?_)
                    refine Rn.iload (pc' := 335) at_333 rfl rfl ?_
                    refine Rn.iload (pc' := 337) at_335 rfl rfl ?_
                    refine Rn.icmp_ne (pc' := 384) (pn := 340) at_337 (by decide) (by decide) rfl (fun cq219 => ?_) (fun cq219 => ?_)
                    ·
                      refine Rn.iconst (pc' := 385) (v := (0 : Int32)) at_384 rfl rfl ?_
                      refine Rn.istore (pc' := 387) (Ls' := #[.val (.int a), .val (.int b), .val (.int c), .val (.int d), .val (.int e), .val (.int f), .val (.int a), .val (.int l2), .val (.int i1), .val (.int i2), .val (.int j1), .val (.int j2), .val (.int e), .val (.int code2), .val (.int x1), .val (.int x2), .val (.int y1), .val (.int y2), .val (.int (0 : Int32)), .val (.ref aq1), .val (.ref aq47), .val (.int kd), .val (.ref aq114), .val (.ref aq150), .val (.ref aq150), .val (.int (0 : Int32))]) at_385 rfl rfl ?_
                      refine Rn.goto (pc' := 393) at_387 (by decide) (by decide) ?_
                      refine Rn.aload (pc' := 395) at_393 rfl rfl rfl ?_
                      refine Rn.aload (pc' := 397) at_395 rfl rfl rfl ?_
                      have Fq220 := Tq145.ext Eq154
                      have Fq221 := Fq220.keep Kq193 (ninS nq176 nin0)
                      have Fq222 := Fq159.ext Eq154
                      have Fq223 := Fq222.keep Kq193
                      have Fq224 := Gq30.2.1.ext Eq51
                      have Fq225 := Fq224.ext Eq65
                      have Fq226 := Fq225.other Wq76 (Or.inl nq69)
                      have Fq227 := Fq226.other Wq80 (Or.inl nq69)
                      have Fq228 := Fq227.keep Kq107 (ninS nq55 nin0)
                      have Fq229 := Fq228.ext Eq118
                      have Fq230 := Fq229.keep Kq148 (ninS nq123 nin0)
                      have Fq231 := Fq230.ext Eq154
                      have Fq232 := Fq231.keep Kq193 (ninS nq160 nin0)
                      have Fq233 := Gq30.2.2.1.ext Eq51
                      have Fq234 := Fq233.ext Eq65
                      have Fq235 := Fq234.other Wq76 (Or.inl nq69)
                      have Fq236 := Fq235.other Wq80 (Or.inl nq69)
                      have Fq237 := Fq236.keep Kq107 (ninS nq55 nin0)
                      have Fq238 := Fq237.ext Eq118
                      have Fq239 := Fq238.keep Kq148 (ninS nq123 nin0)
                      have Fq240 := Fq239.ext Eq154
                      have Fq241 := Fq240.keep Kq193 (ninS nq160 nin0)
                      have Fq242 := Fq165.ext Eq154
                      have Fq243 := Fq242.keep Kq193 (ninS nq166 nin0)
                      have Fq244 := Fq168.ext Eq154
                      have Fq245 := Fq244.keep Kq193
                      have Fq246 := Gq86.2.1.ext Eq118
                      have Fq247 := Fq246.keep Kq148 (ninS nq128 nin0)
                      have Fq248 := Fq247.ext Eq154
                      have Fq249 := Fq248.keep Kq193 (ninS nq169 nin0)
                      have Fq250 := Gq86.2.2.1.ext Eq118
                      have Fq251 := Fq250.keep Kq148 (ninS nq128 nin0)
                      have Fq252 := Fq251.ext Eq154
                      have Fq253 := Fq252.keep Kq193 (ninS nq169 nin0)
                      have Fq254 := Fq174.ext Eq154
                      have Fq255 := Fq254.keep Kq193 (ninS nq175 nin0)
                      have Fq260 := Tq145.1.ext Eq154
                      have Fq261 := Fq260.keep Kq193
                      refine Rn.callV (pc' := 400) (argsL := [.ref aq150]) (a := aq114) (rest := []) (ct_eq2 Z a0 hw aq114 aq150 aq1 tq28 aq47 tq84 (own_p6 p0 p1 p2 p3 p4 p5 i1) (own_p4 q0 q1 q2 q3 j1) (own_p6 p0 p1 p2 p3 p4 p5 i2) (own_p4 q0 q1 q2 q3 j2) a e l2 code2 (b8 x1) (b8 x2) (b8 y1) (b8 y2) z hz hq192 Fq221 Tq190 ⟨Fq223, Fq232, Fq241, Fq243⟩ ⟨Fq245, Fq249, Fq253, Fq255⟩ nq55 S) Fq261 (hw _ (List.mem_of_getElem? (i := 61) rfl)) (hw _ (List.mem_of_getElem? (i := 62) rfl)) (fun _ hZ => notFace_of_selects (args := #[]) (mvT hZ (hw _ (List.mem_of_getElem? (i := 64) rfl)))) (hw _ (List.mem_of_getElem? (i := 64) rfl)) (hw _ (List.mem_of_getElem? (i := 63) rfl)) (hw _ (List.mem_of_getElem? (i := 33) rfl)) (hw _ (List.mem_of_getElem? (i := 65) rfl)) (by decide) rfl rfl (lenOf pd_1 rfl) rfl at_397 rfl (Nat.le_of_ble_eq_true rfl) (Nat.le_of_ble_eq_true rfl) (Nat.le_of_ble_eq_true rfl) (Nat.le_of_ble_eq_true rfl) (fun _ z => nomatch z) (fun _ z => nomatch z) (fun vq256 hq257 Kq258 qq259 => ?_)
                      obtain ⟨rfl, rfl⟩ := qq259
                      simp only [Option.toList, List.cons_append, List.nil_append]
                      refine Rn.iload (pc' := 402) at_400 rfl rfl ?_
                      refine Rn.icmp_ne (pc' := 409) (pn := 405) at_402 (by decide) (by decide) rfl (fun cq262 => absurd (if_neg (c := (a = l2 ∧ (own_p6 p0 p1 p2 p3 p4 p5 i1) = (own_p6 p0 p1 p2 p3 p4 p5 i2) ∧ (own_p4 q0 q1 q2 q3 j1) = (own_p4 q0 q1 q2 q3 j2) ∧ e = code2 ∧ [b8 x1, b8 x2] = [b8 y1, b8 y2])) (fun q => cq219 q.1)) cq262) (fun cq262 => ?_)
                      refine Rn.iconst (pc' := 406) (v := (1 : Int32)) at_405 rfl rfl ?_
                      refine Rn.goto (pc' := 410) at_406 (by decide) (by decide) ?_
                      refine Rn.retN (t := .boolean) rfl (by simp) at_410 (Nat.le_of_ble_eq_true rfl) (Nat.le_of_ble_eq_true rfl) ?_
                      rfl
                    ·
                      refine Rn.iload (pc' := 342) at_340 rfl rfl ?_
                      refine Rn.iload (pc' := 344) at_342 rfl rfl ?_
                      refine Rn.icmp_ne (pc' := 384) (pn := 347) at_344 (by decide) (by decide) rfl (fun cq263 => ?_) (fun cq263 => ?_)
                      ·
                        refine Rn.iconst (pc' := 385) (v := (0 : Int32)) at_384 rfl rfl ?_
                        refine Rn.istore (pc' := 387) (Ls' := #[.val (.int a), .val (.int b), .val (.int c), .val (.int d), .val (.int e), .val (.int f), .val (.int a), .val (.int l2), .val (.int i1), .val (.int i2), .val (.int j1), .val (.int j2), .val (.int e), .val (.int code2), .val (.int x1), .val (.int x2), .val (.int y1), .val (.int y2), .val (.int (0 : Int32)), .val (.ref aq1), .val (.ref aq47), .val (.int kd), .val (.ref aq114), .val (.ref aq150), .val (.ref aq150), .val (.int (0 : Int32))]) at_385 rfl rfl ?_
                        refine Rn.goto (pc' := 393) at_387 (by decide) (by decide) ?_
                        refine Rn.aload (pc' := 395) at_393 rfl rfl rfl ?_
                        refine Rn.aload (pc' := 397) at_395 rfl rfl rfl ?_
                        have Fq264 := Tq145.ext Eq154
                        have Fq265 := Fq264.keep Kq193 (ninS nq176 nin0)
                        have Fq266 := Fq159.ext Eq154
                        have Fq267 := Fq266.keep Kq193
                        have Fq268 := Gq30.2.1.ext Eq51
                        have Fq269 := Fq268.ext Eq65
                        have Fq270 := Fq269.other Wq76 (Or.inl nq69)
                        have Fq271 := Fq270.other Wq80 (Or.inl nq69)
                        have Fq272 := Fq271.keep Kq107 (ninS nq55 nin0)
                        have Fq273 := Fq272.ext Eq118
                        have Fq274 := Fq273.keep Kq148 (ninS nq123 nin0)
                        have Fq275 := Fq274.ext Eq154
                        have Fq276 := Fq275.keep Kq193 (ninS nq160 nin0)
                        have Fq277 := Gq30.2.2.1.ext Eq51
                        have Fq278 := Fq277.ext Eq65
                        have Fq279 := Fq278.other Wq76 (Or.inl nq69)
                        have Fq280 := Fq279.other Wq80 (Or.inl nq69)
                        have Fq281 := Fq280.keep Kq107 (ninS nq55 nin0)
                        have Fq282 := Fq281.ext Eq118
                        have Fq283 := Fq282.keep Kq148 (ninS nq123 nin0)
                        have Fq284 := Fq283.ext Eq154
                        have Fq285 := Fq284.keep Kq193 (ninS nq160 nin0)
                        have Fq286 := Fq165.ext Eq154
                        have Fq287 := Fq286.keep Kq193 (ninS nq166 nin0)
                        have Fq288 := Fq168.ext Eq154
                        have Fq289 := Fq288.keep Kq193
                        have Fq290 := Gq86.2.1.ext Eq118
                        have Fq291 := Fq290.keep Kq148 (ninS nq128 nin0)
                        have Fq292 := Fq291.ext Eq154
                        have Fq293 := Fq292.keep Kq193 (ninS nq169 nin0)
                        have Fq294 := Gq86.2.2.1.ext Eq118
                        have Fq295 := Fq294.keep Kq148 (ninS nq128 nin0)
                        have Fq296 := Fq295.ext Eq154
                        have Fq297 := Fq296.keep Kq193 (ninS nq169 nin0)
                        have Fq298 := Fq174.ext Eq154
                        have Fq299 := Fq298.keep Kq193 (ninS nq175 nin0)
                        have Fq304 := Tq145.1.ext Eq154
                        have Fq305 := Fq304.keep Kq193
                        refine Rn.callV (pc' := 400) (argsL := [.ref aq150]) (a := aq114) (rest := []) (ct_eq2 Z a0 hw aq114 aq150 aq1 tq28 aq47 tq84 (own_p6 p0 p1 p2 p3 p4 p5 i1) (own_p4 q0 q1 q2 q3 j1) (own_p6 p0 p1 p2 p3 p4 p5 i2) (own_p4 q0 q1 q2 q3 j2) a e l2 code2 (b8 x1) (b8 x2) (b8 y1) (b8 y2) z hz hq192 Fq265 Tq190 ⟨Fq267, Fq276, Fq285, Fq287⟩ ⟨Fq289, Fq293, Fq297, Fq299⟩ nq55 S) Fq305 (hw _ (List.mem_of_getElem? (i := 61) rfl)) (hw _ (List.mem_of_getElem? (i := 62) rfl)) (fun _ hZ => notFace_of_selects (args := #[]) (mvT hZ (hw _ (List.mem_of_getElem? (i := 64) rfl)))) (hw _ (List.mem_of_getElem? (i := 64) rfl)) (hw _ (List.mem_of_getElem? (i := 63) rfl)) (hw _ (List.mem_of_getElem? (i := 33) rfl)) (hw _ (List.mem_of_getElem? (i := 65) rfl)) (by decide) rfl rfl (lenOf pd_1 rfl) rfl at_397 rfl (Nat.le_of_ble_eq_true rfl) (Nat.le_of_ble_eq_true rfl) (Nat.le_of_ble_eq_true rfl) (Nat.le_of_ble_eq_true rfl) (fun _ z => nomatch z) (fun _ z => nomatch z) (fun vq300 hq301 Kq302 qq303 => ?_)
                        obtain ⟨rfl, rfl⟩ := qq303
                        simp only [Option.toList, List.cons_append, List.nil_append]
                        refine Rn.iload (pc' := 402) at_400 rfl rfl ?_
                        refine Rn.icmp_ne (pc' := 409) (pn := 405) at_402 (by decide) (by decide) rfl (fun cq306 => absurd (if_neg (c := (a = l2 ∧ (own_p6 p0 p1 p2 p3 p4 p5 i1) = (own_p6 p0 p1 p2 p3 p4 p5 i2) ∧ (own_p4 q0 q1 q2 q3 j1) = (own_p4 q0 q1 q2 q3 j2) ∧ e = code2 ∧ [b8 x1, b8 x2] = [b8 y1, b8 y2])) (fun q => cq263 (own_i6 p0 n0 p1 n1 p2 n2 p3 n3 p4 n4 p5 n5 hi1 h_i2 q.2.1))) cq306) (fun cq306 => ?_)
                        refine Rn.iconst (pc' := 406) (v := (1 : Int32)) at_405 rfl rfl ?_
                        refine Rn.goto (pc' := 410) at_406 (by decide) (by decide) ?_
                        refine Rn.retN (t := .boolean) rfl (by simp) at_410 (Nat.le_of_ble_eq_true rfl) (Nat.le_of_ble_eq_true rfl) ?_
                        rfl
                      ·
                        refine Rn.iload (pc' := 349) at_347 rfl rfl ?_
                        refine Rn.iload (pc' := 351) at_349 rfl rfl ?_
                        refine Rn.icmp_ne (pc' := 384) (pn := 354) at_351 (by decide) (by decide) rfl (fun cq307 => ?_) (fun cq307 => ?_)
                        ·
                          refine Rn.iconst (pc' := 385) (v := (0 : Int32)) at_384 rfl rfl ?_
                          refine Rn.istore (pc' := 387) (Ls' := #[.val (.int a), .val (.int b), .val (.int c), .val (.int d), .val (.int e), .val (.int f), .val (.int a), .val (.int l2), .val (.int i1), .val (.int i2), .val (.int j1), .val (.int j2), .val (.int e), .val (.int code2), .val (.int x1), .val (.int x2), .val (.int y1), .val (.int y2), .val (.int (0 : Int32)), .val (.ref aq1), .val (.ref aq47), .val (.int kd), .val (.ref aq114), .val (.ref aq150), .val (.ref aq150), .val (.int (0 : Int32))]) at_385 rfl rfl ?_
                          refine Rn.goto (pc' := 393) at_387 (by decide) (by decide) ?_
                          refine Rn.aload (pc' := 395) at_393 rfl rfl rfl ?_
                          refine Rn.aload (pc' := 397) at_395 rfl rfl rfl ?_
                          have Fq308 := Tq145.ext Eq154
                          have Fq309 := Fq308.keep Kq193 (ninS nq176 nin0)
                          have Fq310 := Fq159.ext Eq154
                          have Fq311 := Fq310.keep Kq193
                          have Fq312 := Gq30.2.1.ext Eq51
                          have Fq313 := Fq312.ext Eq65
                          have Fq314 := Fq313.other Wq76 (Or.inl nq69)
                          have Fq315 := Fq314.other Wq80 (Or.inl nq69)
                          have Fq316 := Fq315.keep Kq107 (ninS nq55 nin0)
                          have Fq317 := Fq316.ext Eq118
                          have Fq318 := Fq317.keep Kq148 (ninS nq123 nin0)
                          have Fq319 := Fq318.ext Eq154
                          have Fq320 := Fq319.keep Kq193 (ninS nq160 nin0)
                          have Fq321 := Gq30.2.2.1.ext Eq51
                          have Fq322 := Fq321.ext Eq65
                          have Fq323 := Fq322.other Wq76 (Or.inl nq69)
                          have Fq324 := Fq323.other Wq80 (Or.inl nq69)
                          have Fq325 := Fq324.keep Kq107 (ninS nq55 nin0)
                          have Fq326 := Fq325.ext Eq118
                          have Fq327 := Fq326.keep Kq148 (ninS nq123 nin0)
                          have Fq328 := Fq327.ext Eq154
                          have Fq329 := Fq328.keep Kq193 (ninS nq160 nin0)
                          have Fq330 := Fq165.ext Eq154
                          have Fq331 := Fq330.keep Kq193 (ninS nq166 nin0)
                          have Fq332 := Fq168.ext Eq154
                          have Fq333 := Fq332.keep Kq193
                          have Fq334 := Gq86.2.1.ext Eq118
                          have Fq335 := Fq334.keep Kq148 (ninS nq128 nin0)
                          have Fq336 := Fq335.ext Eq154
                          have Fq337 := Fq336.keep Kq193 (ninS nq169 nin0)
                          have Fq338 := Gq86.2.2.1.ext Eq118
                          have Fq339 := Fq338.keep Kq148 (ninS nq128 nin0)
                          have Fq340 := Fq339.ext Eq154
                          have Fq341 := Fq340.keep Kq193 (ninS nq169 nin0)
                          have Fq342 := Fq174.ext Eq154
                          have Fq343 := Fq342.keep Kq193 (ninS nq175 nin0)
                          have Fq348 := Tq145.1.ext Eq154
                          have Fq349 := Fq348.keep Kq193
                          refine Rn.callV (pc' := 400) (argsL := [.ref aq150]) (a := aq114) (rest := []) (ct_eq2 Z a0 hw aq114 aq150 aq1 tq28 aq47 tq84 (own_p6 p0 p1 p2 p3 p4 p5 i1) (own_p4 q0 q1 q2 q3 j1) (own_p6 p0 p1 p2 p3 p4 p5 i2) (own_p4 q0 q1 q2 q3 j2) a e l2 code2 (b8 x1) (b8 x2) (b8 y1) (b8 y2) z hz hq192 Fq309 Tq190 ⟨Fq311, Fq320, Fq329, Fq331⟩ ⟨Fq333, Fq337, Fq341, Fq343⟩ nq55 S) Fq349 (hw _ (List.mem_of_getElem? (i := 61) rfl)) (hw _ (List.mem_of_getElem? (i := 62) rfl)) (fun _ hZ => notFace_of_selects (args := #[]) (mvT hZ (hw _ (List.mem_of_getElem? (i := 64) rfl)))) (hw _ (List.mem_of_getElem? (i := 64) rfl)) (hw _ (List.mem_of_getElem? (i := 63) rfl)) (hw _ (List.mem_of_getElem? (i := 33) rfl)) (hw _ (List.mem_of_getElem? (i := 65) rfl)) (by decide) rfl rfl (lenOf pd_1 rfl) rfl at_397 rfl (Nat.le_of_ble_eq_true rfl) (Nat.le_of_ble_eq_true rfl) (Nat.le_of_ble_eq_true rfl) (Nat.le_of_ble_eq_true rfl) (fun _ z => nomatch z) (fun _ z => nomatch z) (fun vq344 hq345 Kq346 qq347 => ?_)
                          obtain ⟨rfl, rfl⟩ := qq347
                          simp only [Option.toList, List.cons_append, List.nil_append]
                          refine Rn.iload (pc' := 402) at_400 rfl rfl ?_
                          refine Rn.icmp_ne (pc' := 409) (pn := 405) at_402 (by decide) (by decide) rfl (fun cq350 => absurd (if_neg (c := (a = l2 ∧ (own_p6 p0 p1 p2 p3 p4 p5 i1) = (own_p6 p0 p1 p2 p3 p4 p5 i2) ∧ (own_p4 q0 q1 q2 q3 j1) = (own_p4 q0 q1 q2 q3 j2) ∧ e = code2 ∧ [b8 x1, b8 x2] = [b8 y1, b8 y2])) (fun q => cq307 (own_i4 q0 m0 q1 m1 q2 m2 q3 m3 hj1 h_j2 q.2.2.1))) cq350) (fun cq350 => ?_)
                          refine Rn.iconst (pc' := 406) (v := (1 : Int32)) at_405 rfl rfl ?_
                          refine Rn.goto (pc' := 410) at_406 (by decide) (by decide) ?_
                          refine Rn.retN (t := .boolean) rfl (by simp) at_410 (Nat.le_of_ble_eq_true rfl) (Nat.le_of_ble_eq_true rfl) ?_
                          rfl
                        ·
                          refine Rn.iload (pc' := 356) at_354 rfl rfl ?_
                          refine Rn.iload (pc' := 358) at_356 rfl rfl ?_
                          refine Rn.icmp_ne (pc' := 384) (pn := 361) at_358 (by decide) (by decide) rfl (fun cq351 => ?_) (fun cq351 => ?_)
                          ·
                            refine Rn.iconst (pc' := 385) (v := (0 : Int32)) at_384 rfl rfl ?_
                            refine Rn.istore (pc' := 387) (Ls' := #[.val (.int a), .val (.int b), .val (.int c), .val (.int d), .val (.int e), .val (.int f), .val (.int a), .val (.int l2), .val (.int i1), .val (.int i2), .val (.int j1), .val (.int j2), .val (.int e), .val (.int code2), .val (.int x1), .val (.int x2), .val (.int y1), .val (.int y2), .val (.int (0 : Int32)), .val (.ref aq1), .val (.ref aq47), .val (.int kd), .val (.ref aq114), .val (.ref aq150), .val (.ref aq150), .val (.int (0 : Int32))]) at_385 rfl rfl ?_
                            refine Rn.goto (pc' := 393) at_387 (by decide) (by decide) ?_
                            refine Rn.aload (pc' := 395) at_393 rfl rfl rfl ?_
                            refine Rn.aload (pc' := 397) at_395 rfl rfl rfl ?_
                            have Fq352 := Tq145.ext Eq154
                            have Fq353 := Fq352.keep Kq193 (ninS nq176 nin0)
                            have Fq354 := Fq159.ext Eq154
                            have Fq355 := Fq354.keep Kq193
                            have Fq356 := Gq30.2.1.ext Eq51
                            have Fq357 := Fq356.ext Eq65
                            have Fq358 := Fq357.other Wq76 (Or.inl nq69)
                            have Fq359 := Fq358.other Wq80 (Or.inl nq69)
                            have Fq360 := Fq359.keep Kq107 (ninS nq55 nin0)
                            have Fq361 := Fq360.ext Eq118
                            have Fq362 := Fq361.keep Kq148 (ninS nq123 nin0)
                            have Fq363 := Fq362.ext Eq154
                            have Fq364 := Fq363.keep Kq193 (ninS nq160 nin0)
                            have Fq365 := Gq30.2.2.1.ext Eq51
                            have Fq366 := Fq365.ext Eq65
                            have Fq367 := Fq366.other Wq76 (Or.inl nq69)
                            have Fq368 := Fq367.other Wq80 (Or.inl nq69)
                            have Fq369 := Fq368.keep Kq107 (ninS nq55 nin0)
                            have Fq370 := Fq369.ext Eq118
                            have Fq371 := Fq370.keep Kq148 (ninS nq123 nin0)
                            have Fq372 := Fq371.ext Eq154
                            have Fq373 := Fq372.keep Kq193 (ninS nq160 nin0)
                            have Fq374 := Fq165.ext Eq154
                            have Fq375 := Fq374.keep Kq193 (ninS nq166 nin0)
                            have Fq376 := Fq168.ext Eq154
                            have Fq377 := Fq376.keep Kq193
                            have Fq378 := Gq86.2.1.ext Eq118
                            have Fq379 := Fq378.keep Kq148 (ninS nq128 nin0)
                            have Fq380 := Fq379.ext Eq154
                            have Fq381 := Fq380.keep Kq193 (ninS nq169 nin0)
                            have Fq382 := Gq86.2.2.1.ext Eq118
                            have Fq383 := Fq382.keep Kq148 (ninS nq128 nin0)
                            have Fq384 := Fq383.ext Eq154
                            have Fq385 := Fq384.keep Kq193 (ninS nq169 nin0)
                            have Fq386 := Fq174.ext Eq154
                            have Fq387 := Fq386.keep Kq193 (ninS nq175 nin0)
                            have Fq392 := Tq145.1.ext Eq154
                            have Fq393 := Fq392.keep Kq193
                            refine Rn.callV (pc' := 400) (argsL := [.ref aq150]) (a := aq114) (rest := []) (ct_eq2 Z a0 hw aq114 aq150 aq1 tq28 aq47 tq84 (own_p6 p0 p1 p2 p3 p4 p5 i1) (own_p4 q0 q1 q2 q3 j1) (own_p6 p0 p1 p2 p3 p4 p5 i2) (own_p4 q0 q1 q2 q3 j2) a e l2 code2 (b8 x1) (b8 x2) (b8 y1) (b8 y2) z hz hq192 Fq353 Tq190 ⟨Fq355, Fq364, Fq373, Fq375⟩ ⟨Fq377, Fq381, Fq385, Fq387⟩ nq55 S) Fq393 (hw _ (List.mem_of_getElem? (i := 61) rfl)) (hw _ (List.mem_of_getElem? (i := 62) rfl)) (fun _ hZ => notFace_of_selects (args := #[]) (mvT hZ (hw _ (List.mem_of_getElem? (i := 64) rfl)))) (hw _ (List.mem_of_getElem? (i := 64) rfl)) (hw _ (List.mem_of_getElem? (i := 63) rfl)) (hw _ (List.mem_of_getElem? (i := 33) rfl)) (hw _ (List.mem_of_getElem? (i := 65) rfl)) (by decide) rfl rfl (lenOf pd_1 rfl) rfl at_397 rfl (Nat.le_of_ble_eq_true rfl) (Nat.le_of_ble_eq_true rfl) (Nat.le_of_ble_eq_true rfl) (Nat.le_of_ble_eq_true rfl) (fun _ z => nomatch z) (fun _ z => nomatch z) (fun vq388 hq389 Kq390 qq391 => ?_)
                            obtain ⟨rfl, rfl⟩ := qq391
                            simp only [Option.toList, List.cons_append, List.nil_append]
                            refine Rn.iload (pc' := 402) at_400 rfl rfl ?_
                            refine Rn.icmp_ne (pc' := 409) (pn := 405) at_402 (by decide) (by decide) rfl (fun cq394 => absurd (if_neg (c := (a = l2 ∧ (own_p6 p0 p1 p2 p3 p4 p5 i1) = (own_p6 p0 p1 p2 p3 p4 p5 i2) ∧ (own_p4 q0 q1 q2 q3 j1) = (own_p4 q0 q1 q2 q3 j2) ∧ e = code2 ∧ [b8 x1, b8 x2] = [b8 y1, b8 y2])) (fun q => cq351 q.2.2.2.1)) cq394) (fun cq394 => ?_)
                            refine Rn.iconst (pc' := 406) (v := (1 : Int32)) at_405 rfl rfl ?_
                            refine Rn.goto (pc' := 410) at_406 (by decide) (by decide) ?_
                            refine Rn.retN (t := .boolean) rfl (by simp) at_410 (Nat.le_of_ble_eq_true rfl) (Nat.le_of_ble_eq_true rfl) ?_
                            rfl
                          ·
                            refine Rn.iload (pc' := 363) at_361 rfl rfl ?_
                            refine Rn.if_ne (pc' := 384) (pn := 366) at_363 (by decide) (by decide) rfl (fun cq395 => absurd cq395 (by decide)) (fun cq395 => ?_)
                            refine Rn.iload (pc' := 368) at_366 rfl rfl ?_
                            refine Rn.iload (pc' := 370) at_368 rfl rfl ?_
                            refine Rn.icmp_ne (pc' := 384) (pn := 373) at_370 (by decide) (by decide) rfl (fun cq396 => ?_) (fun cq396 => ?_)
                            ·
                              refine Rn.iconst (pc' := 385) (v := (0 : Int32)) at_384 rfl rfl ?_
                              refine Rn.istore (pc' := 387) (Ls' := #[.val (.int a), .val (.int b), .val (.int c), .val (.int d), .val (.int e), .val (.int f), .val (.int a), .val (.int l2), .val (.int i1), .val (.int i2), .val (.int j1), .val (.int j2), .val (.int e), .val (.int code2), .val (.int x1), .val (.int x2), .val (.int y1), .val (.int y2), .val (.int (0 : Int32)), .val (.ref aq1), .val (.ref aq47), .val (.int kd), .val (.ref aq114), .val (.ref aq150), .val (.ref aq150), .val (.int (0 : Int32))]) at_385 rfl rfl ?_
                              refine Rn.goto (pc' := 393) at_387 (by decide) (by decide) ?_
                              refine Rn.aload (pc' := 395) at_393 rfl rfl rfl ?_
                              refine Rn.aload (pc' := 397) at_395 rfl rfl rfl ?_
                              have Fq397 := Tq145.ext Eq154
                              have Fq398 := Fq397.keep Kq193 (ninS nq176 nin0)
                              have Fq399 := Fq159.ext Eq154
                              have Fq400 := Fq399.keep Kq193
                              have Fq401 := Gq30.2.1.ext Eq51
                              have Fq402 := Fq401.ext Eq65
                              have Fq403 := Fq402.other Wq76 (Or.inl nq69)
                              have Fq404 := Fq403.other Wq80 (Or.inl nq69)
                              have Fq405 := Fq404.keep Kq107 (ninS nq55 nin0)
                              have Fq406 := Fq405.ext Eq118
                              have Fq407 := Fq406.keep Kq148 (ninS nq123 nin0)
                              have Fq408 := Fq407.ext Eq154
                              have Fq409 := Fq408.keep Kq193 (ninS nq160 nin0)
                              have Fq410 := Gq30.2.2.1.ext Eq51
                              have Fq411 := Fq410.ext Eq65
                              have Fq412 := Fq411.other Wq76 (Or.inl nq69)
                              have Fq413 := Fq412.other Wq80 (Or.inl nq69)
                              have Fq414 := Fq413.keep Kq107 (ninS nq55 nin0)
                              have Fq415 := Fq414.ext Eq118
                              have Fq416 := Fq415.keep Kq148 (ninS nq123 nin0)
                              have Fq417 := Fq416.ext Eq154
                              have Fq418 := Fq417.keep Kq193 (ninS nq160 nin0)
                              have Fq419 := Fq165.ext Eq154
                              have Fq420 := Fq419.keep Kq193 (ninS nq166 nin0)
                              have Fq421 := Fq168.ext Eq154
                              have Fq422 := Fq421.keep Kq193
                              have Fq423 := Gq86.2.1.ext Eq118
                              have Fq424 := Fq423.keep Kq148 (ninS nq128 nin0)
                              have Fq425 := Fq424.ext Eq154
                              have Fq426 := Fq425.keep Kq193 (ninS nq169 nin0)
                              have Fq427 := Gq86.2.2.1.ext Eq118
                              have Fq428 := Fq427.keep Kq148 (ninS nq128 nin0)
                              have Fq429 := Fq428.ext Eq154
                              have Fq430 := Fq429.keep Kq193 (ninS nq169 nin0)
                              have Fq431 := Fq174.ext Eq154
                              have Fq432 := Fq431.keep Kq193 (ninS nq175 nin0)
                              have Fq437 := Tq145.1.ext Eq154
                              have Fq438 := Fq437.keep Kq193
                              refine Rn.callV (pc' := 400) (argsL := [.ref aq150]) (a := aq114) (rest := []) (ct_eq2 Z a0 hw aq114 aq150 aq1 tq28 aq47 tq84 (own_p6 p0 p1 p2 p3 p4 p5 i1) (own_p4 q0 q1 q2 q3 j1) (own_p6 p0 p1 p2 p3 p4 p5 i2) (own_p4 q0 q1 q2 q3 j2) a e l2 code2 (b8 x1) (b8 x2) (b8 y1) (b8 y2) z hz hq192 Fq398 Tq190 ⟨Fq400, Fq409, Fq418, Fq420⟩ ⟨Fq422, Fq426, Fq430, Fq432⟩ nq55 S) Fq438 (hw _ (List.mem_of_getElem? (i := 61) rfl)) (hw _ (List.mem_of_getElem? (i := 62) rfl)) (fun _ hZ => notFace_of_selects (args := #[]) (mvT hZ (hw _ (List.mem_of_getElem? (i := 64) rfl)))) (hw _ (List.mem_of_getElem? (i := 64) rfl)) (hw _ (List.mem_of_getElem? (i := 63) rfl)) (hw _ (List.mem_of_getElem? (i := 33) rfl)) (hw _ (List.mem_of_getElem? (i := 65) rfl)) (by decide) rfl rfl (lenOf pd_1 rfl) rfl at_397 rfl (Nat.le_of_ble_eq_true rfl) (Nat.le_of_ble_eq_true rfl) (Nat.le_of_ble_eq_true rfl) (Nat.le_of_ble_eq_true rfl) (fun _ z => nomatch z) (fun _ z => nomatch z) (fun vq433 hq434 Kq435 qq436 => ?_)
                              obtain ⟨rfl, rfl⟩ := qq436
                              simp only [Option.toList, List.cons_append, List.nil_append]
                              refine Rn.iload (pc' := 402) at_400 rfl rfl ?_
                              refine Rn.icmp_ne (pc' := 409) (pn := 405) at_402 (by decide) (by decide) rfl (fun cq439 => absurd (if_neg (c := (a = l2 ∧ (own_p6 p0 p1 p2 p3 p4 p5 i1) = (own_p6 p0 p1 p2 p3 p4 p5 i2) ∧ (own_p4 q0 q1 q2 q3 j1) = (own_p4 q0 q1 q2 q3 j2) ∧ e = code2 ∧ [b8 x1, b8 x2] = [b8 y1, b8 y2])) (fun q => cq396 (own_b8 hx1 h_y1 (List.cons.inj q.2.2.2.2).1))) cq439) (fun cq439 => ?_)
                              refine Rn.iconst (pc' := 406) (v := (1 : Int32)) at_405 rfl rfl ?_
                              refine Rn.goto (pc' := 410) at_406 (by decide) (by decide) ?_
                              refine Rn.retN (t := .boolean) rfl (by simp) at_410 (Nat.le_of_ble_eq_true rfl) (Nat.le_of_ble_eq_true rfl) ?_
                              rfl
                            ·
                              refine Rn.iload (pc' := 375) at_373 rfl rfl ?_
                              refine Rn.iload (pc' := 377) at_375 rfl rfl ?_
                              refine Rn.icmp_ne (pc' := 384) (pn := 380) at_377 (by decide) (by decide) rfl (fun cq440 => ?_) (fun cq440 => ?_)
                              ·
                                refine Rn.iconst (pc' := 385) (v := (0 : Int32)) at_384 rfl rfl ?_
                                refine Rn.istore (pc' := 387) (Ls' := #[.val (.int a), .val (.int b), .val (.int c), .val (.int d), .val (.int e), .val (.int f), .val (.int a), .val (.int l2), .val (.int i1), .val (.int i2), .val (.int j1), .val (.int j2), .val (.int e), .val (.int code2), .val (.int x1), .val (.int x2), .val (.int y1), .val (.int y2), .val (.int (0 : Int32)), .val (.ref aq1), .val (.ref aq47), .val (.int kd), .val (.ref aq114), .val (.ref aq150), .val (.ref aq150), .val (.int (0 : Int32))]) at_385 rfl rfl ?_
                                refine Rn.goto (pc' := 393) at_387 (by decide) (by decide) ?_
                                refine Rn.aload (pc' := 395) at_393 rfl rfl rfl ?_
                                refine Rn.aload (pc' := 397) at_395 rfl rfl rfl ?_
                                have Fq441 := Tq145.ext Eq154
                                have Fq442 := Fq441.keep Kq193 (ninS nq176 nin0)
                                have Fq443 := Fq159.ext Eq154
                                have Fq444 := Fq443.keep Kq193
                                have Fq445 := Gq30.2.1.ext Eq51
                                have Fq446 := Fq445.ext Eq65
                                have Fq447 := Fq446.other Wq76 (Or.inl nq69)
                                have Fq448 := Fq447.other Wq80 (Or.inl nq69)
                                have Fq449 := Fq448.keep Kq107 (ninS nq55 nin0)
                                have Fq450 := Fq449.ext Eq118
                                have Fq451 := Fq450.keep Kq148 (ninS nq123 nin0)
                                have Fq452 := Fq451.ext Eq154
                                have Fq453 := Fq452.keep Kq193 (ninS nq160 nin0)
                                have Fq454 := Gq30.2.2.1.ext Eq51
                                have Fq455 := Fq454.ext Eq65
                                have Fq456 := Fq455.other Wq76 (Or.inl nq69)
                                have Fq457 := Fq456.other Wq80 (Or.inl nq69)
                                have Fq458 := Fq457.keep Kq107 (ninS nq55 nin0)
                                have Fq459 := Fq458.ext Eq118
                                have Fq460 := Fq459.keep Kq148 (ninS nq123 nin0)
                                have Fq461 := Fq460.ext Eq154
                                have Fq462 := Fq461.keep Kq193 (ninS nq160 nin0)
                                have Fq463 := Fq165.ext Eq154
                                have Fq464 := Fq463.keep Kq193 (ninS nq166 nin0)
                                have Fq465 := Fq168.ext Eq154
                                have Fq466 := Fq465.keep Kq193
                                have Fq467 := Gq86.2.1.ext Eq118
                                have Fq468 := Fq467.keep Kq148 (ninS nq128 nin0)
                                have Fq469 := Fq468.ext Eq154
                                have Fq470 := Fq469.keep Kq193 (ninS nq169 nin0)
                                have Fq471 := Gq86.2.2.1.ext Eq118
                                have Fq472 := Fq471.keep Kq148 (ninS nq128 nin0)
                                have Fq473 := Fq472.ext Eq154
                                have Fq474 := Fq473.keep Kq193 (ninS nq169 nin0)
                                have Fq475 := Fq174.ext Eq154
                                have Fq476 := Fq475.keep Kq193 (ninS nq175 nin0)
                                have Fq481 := Tq145.1.ext Eq154
                                have Fq482 := Fq481.keep Kq193
                                refine Rn.callV (pc' := 400) (argsL := [.ref aq150]) (a := aq114) (rest := []) (ct_eq2 Z a0 hw aq114 aq150 aq1 tq28 aq47 tq84 (own_p6 p0 p1 p2 p3 p4 p5 i1) (own_p4 q0 q1 q2 q3 j1) (own_p6 p0 p1 p2 p3 p4 p5 i2) (own_p4 q0 q1 q2 q3 j2) a e l2 code2 (b8 x1) (b8 x2) (b8 y1) (b8 y2) z hz hq192 Fq442 Tq190 ⟨Fq444, Fq453, Fq462, Fq464⟩ ⟨Fq466, Fq470, Fq474, Fq476⟩ nq55 S) Fq482 (hw _ (List.mem_of_getElem? (i := 61) rfl)) (hw _ (List.mem_of_getElem? (i := 62) rfl)) (fun _ hZ => notFace_of_selects (args := #[]) (mvT hZ (hw _ (List.mem_of_getElem? (i := 64) rfl)))) (hw _ (List.mem_of_getElem? (i := 64) rfl)) (hw _ (List.mem_of_getElem? (i := 63) rfl)) (hw _ (List.mem_of_getElem? (i := 33) rfl)) (hw _ (List.mem_of_getElem? (i := 65) rfl)) (by decide) rfl rfl (lenOf pd_1 rfl) rfl at_397 rfl (Nat.le_of_ble_eq_true rfl) (Nat.le_of_ble_eq_true rfl) (Nat.le_of_ble_eq_true rfl) (Nat.le_of_ble_eq_true rfl) (fun _ z => nomatch z) (fun _ z => nomatch z) (fun vq477 hq478 Kq479 qq480 => ?_)
                                obtain ⟨rfl, rfl⟩ := qq480
                                simp only [Option.toList, List.cons_append, List.nil_append]
                                refine Rn.iload (pc' := 402) at_400 rfl rfl ?_
                                refine Rn.icmp_ne (pc' := 409) (pn := 405) at_402 (by decide) (by decide) rfl (fun cq483 => absurd (if_neg (c := (a = l2 ∧ (own_p6 p0 p1 p2 p3 p4 p5 i1) = (own_p6 p0 p1 p2 p3 p4 p5 i2) ∧ (own_p4 q0 q1 q2 q3 j1) = (own_p4 q0 q1 q2 q3 j2) ∧ e = code2 ∧ [b8 x1, b8 x2] = [b8 y1, b8 y2])) (fun q => cq440 (own_b8 hx2 h_y2 (List.cons.inj (List.cons.inj q.2.2.2.2).2).1))) cq483) (fun cq483 => ?_)
                                refine Rn.iconst (pc' := 406) (v := (1 : Int32)) at_405 rfl rfl ?_
                                refine Rn.goto (pc' := 410) at_406 (by decide) (by decide) ?_
                                refine Rn.retN (t := .boolean) rfl (by simp) at_410 (Nat.le_of_ble_eq_true rfl) (Nat.le_of_ble_eq_true rfl) ?_
                                rfl
                              ·
                                refine Rn.iconst (pc' := 381) (v := (1 : Int32)) at_380 rfl rfl ?_
                                refine Rn.goto (pc' := 385) at_381 (by decide) (by decide) ?_
                                refine Rn.istore (pc' := 387) (Ls' := #[.val (.int a), .val (.int b), .val (.int c), .val (.int d), .val (.int e), .val (.int f), .val (.int a), .val (.int l2), .val (.int i1), .val (.int i2), .val (.int j1), .val (.int j2), .val (.int e), .val (.int code2), .val (.int x1), .val (.int x2), .val (.int y1), .val (.int y2), .val (.int (0 : Int32)), .val (.ref aq1), .val (.ref aq47), .val (.int kd), .val (.ref aq114), .val (.ref aq150), .val (.ref aq150), .val (.int (1 : Int32))]) at_385 rfl rfl ?_
                                refine Rn.goto (pc' := 393) at_387 (by decide) (by decide) ?_
                                refine Rn.aload (pc' := 395) at_393 rfl rfl rfl ?_
                                refine Rn.aload (pc' := 397) at_395 rfl rfl rfl ?_
                                have Fq484 := Tq145.ext Eq154
                                have Fq485 := Fq484.keep Kq193 (ninS nq176 nin0)
                                have Fq486 := Fq159.ext Eq154
                                have Fq487 := Fq486.keep Kq193
                                have Fq488 := Gq30.2.1.ext Eq51
                                have Fq489 := Fq488.ext Eq65
                                have Fq490 := Fq489.other Wq76 (Or.inl nq69)
                                have Fq491 := Fq490.other Wq80 (Or.inl nq69)
                                have Fq492 := Fq491.keep Kq107 (ninS nq55 nin0)
                                have Fq493 := Fq492.ext Eq118
                                have Fq494 := Fq493.keep Kq148 (ninS nq123 nin0)
                                have Fq495 := Fq494.ext Eq154
                                have Fq496 := Fq495.keep Kq193 (ninS nq160 nin0)
                                have Fq497 := Gq30.2.2.1.ext Eq51
                                have Fq498 := Fq497.ext Eq65
                                have Fq499 := Fq498.other Wq76 (Or.inl nq69)
                                have Fq500 := Fq499.other Wq80 (Or.inl nq69)
                                have Fq501 := Fq500.keep Kq107 (ninS nq55 nin0)
                                have Fq502 := Fq501.ext Eq118
                                have Fq503 := Fq502.keep Kq148 (ninS nq123 nin0)
                                have Fq504 := Fq503.ext Eq154
                                have Fq505 := Fq504.keep Kq193 (ninS nq160 nin0)
                                have Fq506 := Fq165.ext Eq154
                                have Fq507 := Fq506.keep Kq193 (ninS nq166 nin0)
                                have Fq508 := Fq168.ext Eq154
                                have Fq509 := Fq508.keep Kq193
                                have Fq510 := Gq86.2.1.ext Eq118
                                have Fq511 := Fq510.keep Kq148 (ninS nq128 nin0)
                                have Fq512 := Fq511.ext Eq154
                                have Fq513 := Fq512.keep Kq193 (ninS nq169 nin0)
                                have Fq514 := Gq86.2.2.1.ext Eq118
                                have Fq515 := Fq514.keep Kq148 (ninS nq128 nin0)
                                have Fq516 := Fq515.ext Eq154
                                have Fq517 := Fq516.keep Kq193 (ninS nq169 nin0)
                                have Fq518 := Fq174.ext Eq154
                                have Fq519 := Fq518.keep Kq193 (ninS nq175 nin0)
                                have Fq524 := Tq145.1.ext Eq154
                                have Fq525 := Fq524.keep Kq193
                                refine Rn.callV (pc' := 400) (argsL := [.ref aq150]) (a := aq114) (rest := []) (ct_eq2 Z a0 hw aq114 aq150 aq1 tq28 aq47 tq84 (own_p6 p0 p1 p2 p3 p4 p5 i1) (own_p4 q0 q1 q2 q3 j1) (own_p6 p0 p1 p2 p3 p4 p5 i2) (own_p4 q0 q1 q2 q3 j2) a e l2 code2 (b8 x1) (b8 x2) (b8 y1) (b8 y2) z hz hq192 Fq485 Tq190 ⟨Fq487, Fq496, Fq505, Fq507⟩ ⟨Fq509, Fq513, Fq517, Fq519⟩ nq55 S) Fq525 (hw _ (List.mem_of_getElem? (i := 61) rfl)) (hw _ (List.mem_of_getElem? (i := 62) rfl)) (fun _ hZ => notFace_of_selects (args := #[]) (mvT hZ (hw _ (List.mem_of_getElem? (i := 64) rfl)))) (hw _ (List.mem_of_getElem? (i := 64) rfl)) (hw _ (List.mem_of_getElem? (i := 63) rfl)) (hw _ (List.mem_of_getElem? (i := 33) rfl)) (hw _ (List.mem_of_getElem? (i := 65) rfl)) (by decide) rfl rfl (lenOf pd_1 rfl) rfl at_397 rfl (Nat.le_of_ble_eq_true rfl) (Nat.le_of_ble_eq_true rfl) (Nat.le_of_ble_eq_true rfl) (Nat.le_of_ble_eq_true rfl) (fun _ z => nomatch z) (fun _ z => nomatch z) (fun vq520 hq521 Kq522 qq523 => ?_)
                                obtain ⟨rfl, rfl⟩ := qq523
                                simp only [Option.toList, List.cons_append, List.nil_append]
                                refine Rn.iload (pc' := 402) at_400 rfl rfl ?_
                                refine Rn.icmp_ne (pc' := 409) (pn := 405) at_402 (by decide) (by decide) rfl (fun cq526 => absurd (if_pos (c := (a = l2 ∧ (own_p6 p0 p1 p2 p3 p4 p5 i1) = (own_p6 p0 p1 p2 p3 p4 p5 i2) ∧ (own_p4 q0 q1 q2 q3 j1) = (own_p4 q0 q1 q2 q3 j2) ∧ e = code2 ∧ [b8 x1, b8 x2] = [b8 y1, b8 y2])) ⟨cq219, congrArg _ cq263, congrArg _ cq307, cq351, by rw [cq396, cq440]⟩) cq526) (fun cq526 => ?_)
                                refine Rn.iconst (pc' := 406) (v := (1 : Int32)) at_405 rfl rfl ?_
                                refine Rn.goto (pc' := 410) at_406 (by decide) (by decide) ?_
                                refine Rn.retN (t := .boolean) rfl (by simp) at_410 (Nat.le_of_ble_eq_true rfl) (Nat.le_of_ble_eq_true rfl) ?_
                                rfl
                ·
                  refine Rn.istore (pc' := 181) (Ls' := #[.val (.int a), .val (.int b), .val (.int c), .val (.int d), .val (.int e), .val (.int f), .val (.int a), .val (.int l2), .val (.int i1), .val (.int i2), .val (.int j1), .val (.int j2), .val (.int e), .val (.int code2), .val (.int x1), .val (.int x2), .val (.int y1), .val (.int y2), .val (.int (1 : Int32)), .unset, .unset, .unset, .unset, .unset, .unset, .unset]) at_179 rfl rfl ?_
                  refine Rn.newO (pc' := 184) (hw _ (List.mem_of_getElem? (i := 1) rfl)) (hw _ (List.mem_of_getElem? (i := 2) rfl)) (hw _ (List.mem_of_getElem? (i := 3) rfl)) at_181 (Nat.le_of_ble_eq_true rfl) (Nat.le_of_ble_eq_true rfl) rfl (fun hq528 aq527 eq529 gq530 Eq531 ⟨Aq532, Dq533, Uq534⟩ => ?_)
                  have Fq535 : Fld Z hq528 aq527 "java/lang/String" "coder" "B" (.int (0 : Int32)) := Dq533 (Or.inr (hw _ (List.mem_of_getElem? (i := 28) rfl))) (ty := .byte) (by decide)
                  have Fq536 : Fld Z hq528 aq527 "java/lang/String" "value" "[B" (.null) := Dq533 (Or.inr (hw _ (List.mem_of_getElem? (i := 30) rfl))) (ty := (.array .byte)) (by decide)
                  refine Rn.dup (pc' := 185) at_184 rfl rfl ?_
                  refine Rn.iconst (pc' := 186) (v := (2 : Int32)) at_185 rfl rfl ?_
                  refine Rn.newP (pc' := 188) (cap := 2) (ty := .char) (ad := "[C") (hw _ (List.mem_of_getElem? (i := 4) rfl)) rfl rfl at_186 (by decide) (Nat.le_of_ble_eq_true rfl) (by decide) (Nat.le_of_ble_eq_true rfl) (Nat.le_of_ble_eq_true rfl) rfl (fun hq538 aq537 eq539 gq540 Eq541 ⟨Aq542, Bq543⟩ => ?_)
                  have nq544 : aq527 ≠ aq537 := by rw [eq539]; exact Nat.ne_of_lt (Aq532.lt)
                  have Aq545 : Ax Z hq538 aq537 .char ([.int (0 : Int32), .int (0 : Int32)]) := Aq542
                  refine Rn.dup (pc' := 189) at_188 rfl rfl ?_
                  refine Rn.iconst (pc' := 190) (v := (0 : Int32)) at_189 rfl rfl ?_
                  refine Rn.iload (pc' := 192) at_190 rfl rfl ?_
                  refine Rn.castore (pc' := 193) (v := .int x1) Aq545 (by decide) (Nat.le_of_ble_eq_true rfl) (congrArg Value.int hx1.2) (Or.inr gq540) Sf.no at_192 rfl (fun hq547 Wq546 Aq548 => ?_)
                  have Aq549 : Ax Z hq547 aq537 .char ([.int x1, .int (0 : Int32)]) := Aq548
                  refine Rn.dup (pc' := 194) at_193 rfl rfl ?_
                  refine Rn.iconst (pc' := 195) (v := (1 : Int32)) at_194 rfl rfl ?_
                  refine Rn.iload (pc' := 197) at_195 rfl rfl ?_
                  refine Rn.castore (pc' := 198) (v := .int x2) Aq549 (by decide) (Nat.le_of_ble_eq_true rfl) (congrArg Value.int hx2.2) (Or.inr gq540) Sf.no at_197 rfl (fun hq551 Wq550 Aq552 => ?_)
                  have Aq553 : Ax Z hq551 aq537 .char ([.int x1, .int x2]) := Aq552
                  have Fq557 := Aq532.ext Eq541
                  have Fq558 := Fq557.wr Wq546
                  have Fq559 := Fq558.wr Wq550
                  have Fq560 := Fq536.ext Eq541
                  have Fq561 := Fq560.other Wq546 (Or.inl nq544)
                  have Fq562 := Fq561.other Wq550 (Or.inl nq544)
                  have Fq563 := Fq535.ext Eq541
                  have Fq564 := Fq563.other Wq546 (Or.inl nq544)
                  have Fq565 := Fq564.other Wq550 (Or.inl nq544)
                  refine Rn.callI (pc' := 201) (argsL := [.ref aq537]) (a := aq527) (rest := [.ref aq527]) (ct_si2 Z a0 hw aq527 aq537 x1 x2 hx1.1.1 hx2.1.1 z hz hq551 Fq559 Fq562 Fq565 Aq553 (Ne.symm nq544) S) rfl (hw _ (List.mem_of_getElem? (i := 5) rfl)) (hw _ (List.mem_of_getElem? (i := 6) rfl)) (hw _ (List.mem_of_getElem? (i := 3) rfl)) (hw _ (List.mem_of_getElem? (i := 7) rfl)) (by decide) rfl rfl (lenOf pd_11 rfl) rfl at_198 rfl (Nat.le_of_ble_eq_true rfl) (Nat.le_of_ble_eq_true rfl) (Nat.le_of_ble_eq_true rfl) (Nat.le_of_ble_eq_true rfl) (allS (Or.inr gq530) all0) (allS Sf.no (all0)) (fun vq566 hq567 Kq568 qq569 => ?_)
                  obtain ⟨rfl, tq554, htq555, Gq556⟩ := qq569
                  simp only [Option.toList, List.cons_append, List.nil_append]
                  have nq570 : aq527 ≠ tq554 := Nat.ne_of_lt (Nat.lt_of_lt_of_le Fq559.lt htq555)
                  have nq571 : aq537 ≠ tq554 := Nat.ne_of_lt (Nat.lt_of_lt_of_le Aq553.lt htq555)
                  refine Rn.astore (pc' := 203) (Ls' := #[.val (.int a), .val (.int b), .val (.int c), .val (.int d), .val (.int e), .val (.int f), .val (.int a), .val (.int l2), .val (.int i1), .val (.int i2), .val (.int j1), .val (.int j2), .val (.int e), .val (.int code2), .val (.int x1), .val (.int x2), .val (.int y1), .val (.int y2), .val (.int (1 : Int32)), .val (.ref aq527), .unset, .unset, .unset, .unset, .unset, .unset]) at_201 rfl rfl rfl ?_
                  refine Rn.iload (pc' := 205) at_203 rfl rfl ?_
                  refine Rn.if_eq (pc' := 216) (pn := 208) at_205 (by decide) (by decide) rfl (fun cq572 => absurd cq572 (by decide)) (fun cq572 => ?_)
                  refine Rn.iload (pc' := 210) at_208 rfl rfl ?_
                  have Fq573 := Aq553.keep Kq568 (ninS (Ne.symm nq544) nin0)
                  refine Rn.callS (pc' := 213) (argsL := [.int y1]) (rest := []) (ct_vof Z a0 hw y1 h_y1.1.1 z hz hq567 S) (hw _ (List.mem_of_getElem? (i := 70) rfl)) (hw _ (List.mem_of_getElem? (i := 71) rfl)) (hw _ (List.mem_of_getElem? (i := 3) rfl)) (hw _ (List.mem_of_getElem? (i := 72) rfl)) (by decide) rfl rfl (lenOf pd_16 rfl) rfl at_210 rfl (Nat.le_of_ble_eq_true rfl) (Nat.le_of_ble_eq_true rfl) (Nat.le_of_ble_eq_true rfl) (Nat.le_of_ble_eq_true rfl) (fun _ z => nomatch z) (fun _ z => nomatch z) (fun vq574 hq575 Kq576 qq577 => ?_)
                  obtain ⟨sv, tv, rfl, hsv, htv, Gv⟩ := qq577
                  simp only [Option.toList, List.cons_append, List.nil_append]
                  have nq578 : aq527 ≠ sv := Nat.ne_of_lt (Nat.lt_of_lt_of_le Gq556.1.lt hsv)
                  have nq579 : aq527 ≠ tv := Nat.ne_of_lt (Nat.lt_of_lt_of_le Gq556.1.lt htv)
                  have nq580 : aq537 ≠ sv := Nat.ne_of_lt (Nat.lt_of_lt_of_le Fq573.lt hsv)
                  have nq581 : aq537 ≠ tv := Nat.ne_of_lt (Nat.lt_of_lt_of_le Fq573.lt htv)
                  have nq582 : tq554 ≠ sv := Nat.ne_of_lt (Nat.lt_of_lt_of_le Gq556.2.2.2.lt hsv)
                  have nq583 : tq554 ≠ tv := Nat.ne_of_lt (Nat.lt_of_lt_of_le Gq556.2.2.2.lt htv)
                  refine Rn.goto (pc' := 236) at_213 (by decide) (by decide) ?_
                  refine Rn.astore (pc' := 238) (Ls' := #[.val (.int a), .val (.int b), .val (.int c), .val (.int d), .val (.int e), .val (.int f), .val (.int a), .val (.int l2), .val (.int i1), .val (.int i2), .val (.int j1), .val (.int j2), .val (.int e), .val (.int code2), .val (.int x1), .val (.int x2), .val (.int y1), .val (.int y2), .val (.int (1 : Int32)), .val (.ref aq527), .val (.ref sv), .unset, .unset, .unset, .unset, .unset]) at_236 rfl rfl rfl ?_
                  refine Rn.iload (pc' := 240) at_238 rfl rfl ?_
                  refine Rn.iconst (pc' := 241) (v := (5 : Int32)) at_240 rfl rfl ?_
                  refine Rn.iushr (pc' := 242) (v := (XT.ushr f (5 : Int32))) at_241 rfl rfl ?_
                  refine Rn.iconst (pc' := 243) (v := (3 : Int32)) at_242 rfl rfl ?_
                  refine Rn.iand (pc' := 244) (v := kd) at_243 ekd rfl ?_
                  refine Rn.istore (pc' := 246) (Ls' := #[.val (.int a), .val (.int b), .val (.int c), .val (.int d), .val (.int e), .val (.int f), .val (.int a), .val (.int l2), .val (.int i1), .val (.int i2), .val (.int j1), .val (.int j2), .val (.int e), .val (.int code2), .val (.int x1), .val (.int x2), .val (.int y1), .val (.int y2), .val (.int (1 : Int32)), .val (.ref aq527), .val (.ref sv), .val (.int kd), .unset, .unset, .unset, .unset]) at_244 rfl rfl ?_
                  refine Rn.newO (pc' := 249) (hw _ (List.mem_of_getElem? (i := 31) rfl)) (hw _ (List.mem_of_getElem? (i := 32) rfl)) (hw _ (List.mem_of_getElem? (i := 33) rfl)) at_246 (Nat.le_of_ble_eq_true rfl) (Nat.le_of_ble_eq_true rfl) rfl (fun hq585 aq584 eq586 gq587 Eq588 ⟨Aq589, Dq590, Uq591⟩ => ?_)
                  have Fq592 := Gq556.1.keep Kq576
                  have nq593 : aq527 ≠ aq584 := by rw [eq586]; exact Nat.ne_of_lt (Fq592.lt)
                  have Fq594 := Fq573.keep Kq576 nin0
                  have nq595 : aq537 ≠ aq584 := by rw [eq586]; exact Nat.ne_of_lt (Fq594.lt)
                  have Fq596 := Gq556.2.2.2.keep Kq576 nin0
                  have nq597 : tq554 ≠ aq584 := by rw [eq586]; exact Nat.ne_of_lt (Fq596.lt)
                  have nq598 : sv ≠ aq584 := by rw [eq586]; exact Nat.ne_of_lt (Gv.1.lt)
                  have nq599 : tv ≠ aq584 := by rw [eq586]; exact Nat.ne_of_lt (Gv.2.2.2.lt)
                  have Fq600 : Fld Z hq585 aq584 "com/example/faultgauge/faultgauge/exec/TestResult" "line" "I" (.int (0 : Int32)) := Dq590 (Or.inr (hw _ (List.mem_of_getElem? (i := 52) rfl))) (ty := .int) (by decide)
                  have Fq601 : Fld Z hq585 aq584 "com/example/faultgauge/faultgauge/exec/TestResult" "difference" "Lcom/example/faultgauge/faultgauge/exec/TestResult$Difference;" (.null) := Dq590 (Or.inr (hw _ (List.mem_of_getElem? (i := 54) rfl))) (ty := (.object "com/example/faultgauge/faultgauge/exec/TestResult$Difference")) (by decide)
                  have Fq602 : Fld Z hq585 aq584 "com/example/faultgauge/faultgauge/exec/TestResult" "ending" "Lcom/example/faultgauge/faultgauge/exec/Ending;" (.null) := Dq590 (Or.inr (hw _ (List.mem_of_getElem? (i := 56) rfl))) (ty := (.object "com/example/faultgauge/faultgauge/exec/Ending")) (by decide)
                  have Fq603 : Fld Z hq585 aq584 "com/example/faultgauge/faultgauge/exec/TestResult" "code" "I" (.int (0 : Int32)) := Dq590 (Or.inr (hw _ (List.mem_of_getElem? (i := 58) rfl))) (ty := .int) (by decide)
                  have Fq604 : Fld Z hq585 aq584 "com/example/faultgauge/faultgauge/exec/TestResult" "outputDigest" "Ljava/lang/String;" (.null) := Dq590 (Or.inr (hw _ (List.mem_of_getElem? (i := 60) rfl))) (ty := (.object "java/lang/String")) (by decide)
                  refine Rn.dup (pc' := 250) at_249 rfl rfl ?_
                  refine Rn.iload (pc' := 252) at_250 rfl rfl ?_
                  refine Rn.iload (pc' := 254) at_252 rfl rfl ?_
                  refine Rn.callS (pc' := 257) (argsL := [.int i1]) (rest := [.int a, .ref aq584, .ref aq584]) (ct_df Z a0 hw i1 hq585 p0 n0 p1 n1 p2 n2 p3 n3 p4 n4 p5 n5) (hw _ (List.mem_of_getElem? (i := 34) rfl)) (hw _ (List.mem_of_getElem? (i := 35) rfl)) (hw _ (List.mem_of_getElem? (i := 36) rfl)) (hw _ (List.mem_of_getElem? (i := 37) rfl)) (by decide) rfl rfl (lenOf pd_12 rfl) rfl at_254 rfl (Nat.le_of_ble_eq_true rfl) (Nat.le_of_ble_eq_true rfl) (Nat.le_of_ble_eq_true rfl) (Nat.le_of_ble_eq_true rfl) (fun _ z => nomatch z) (fun _ z => nomatch z) (fun vq605 hq606 Kq607 qq608 => ?_)
                  obtain ⟨rfl, rfl⟩ := qq608
                  simp only [Option.toList, List.cons_append, List.nil_append]
                  refine Rn.iload (pc' := 259) at_257 rfl rfl ?_
                  refine Rn.callS (pc' := 262) (argsL := [.int j1]) (rest := [.ref (own_p6 p0 p1 p2 p3 p4 p5 i1), .int a, .ref aq584, .ref aq584]) (ct_en Z a0 hw j1 hq585 q0 m0 q1 m1 q2 m2 q3 m3) (hw _ (List.mem_of_getElem? (i := 41) rfl)) (hw _ (List.mem_of_getElem? (i := 42) rfl)) (hw _ (List.mem_of_getElem? (i := 36) rfl)) (hw _ (List.mem_of_getElem? (i := 43) rfl)) (by decide) rfl rfl (lenOf pd_13 rfl) rfl at_259 rfl (Nat.le_of_ble_eq_true rfl) (Nat.le_of_ble_eq_true rfl) (Nat.le_of_ble_eq_true rfl) (Nat.le_of_ble_eq_true rfl) (fun _ z => nomatch z) (fun _ z => nomatch z) (fun vq609 hq610 Kq611 qq612 => ?_)
                  obtain ⟨rfl, rfl⟩ := qq612
                  simp only [Option.toList, List.cons_append, List.nil_append]
                  refine Rn.iload (pc' := 264) at_262 rfl rfl ?_
                  refine Rn.aload (pc' := 266) at_264 rfl rfl rfl ?_
                  refine Rn.callI (pc' := 269) (argsL := [.int a, .ref (own_p6 p0 p1 p2 p3 p4 p5 i1), .ref (own_p4 q0 q1 q2 q3 j1), .int e, .ref aq527]) (a := aq584) (rest := [.ref aq584]) (ct_tr Z a0 hw aq584 a (own_p6 p0 p1 p2 p3 p4 p5 i1) (own_p4 q0 q1 q2 q3 j1) e aq527 hq585 Aq589 Fq600 Fq601 Fq602 Fq603 Fq604) rfl (hw _ (List.mem_of_getElem? (i := 47) rfl)) (hw _ (List.mem_of_getElem? (i := 48) rfl)) (hw _ (List.mem_of_getElem? (i := 33) rfl)) (hw _ (List.mem_of_getElem? (i := 49) rfl)) (by decide) rfl rfl (lenOf pd_14 rfl) rfl at_266 rfl (Nat.le_of_ble_eq_true rfl) (Nat.le_of_ble_eq_true rfl) (Nat.le_of_ble_eq_true rfl) (Nat.le_of_ble_eq_true rfl) (allS (Or.inr gq587) all0) (allS Sf.no (all0)) (fun vq614 hq615 Kq616 qq617 => ?_)
                  obtain ⟨rfl, Tq613⟩ := qq617
                  simp only [Option.toList, List.cons_append, List.nil_append]
                  refine Rn.astore (pc' := 271) (Ls' := #[.val (.int a), .val (.int b), .val (.int c), .val (.int d), .val (.int e), .val (.int f), .val (.int a), .val (.int l2), .val (.int i1), .val (.int i2), .val (.int j1), .val (.int j2), .val (.int e), .val (.int code2), .val (.int x1), .val (.int x2), .val (.int y1), .val (.int y2), .val (.int (1 : Int32)), .val (.ref aq527), .val (.ref sv), .val (.int kd), .val (.ref aq584), .unset, .unset, .unset]) at_269 rfl rfl rfl ?_
                  refine Rn.newO (pc' := 274) (hw _ (List.mem_of_getElem? (i := 31) rfl)) (hw _ (List.mem_of_getElem? (i := 32) rfl)) (hw _ (List.mem_of_getElem? (i := 33) rfl)) at_271 (Nat.le_of_ble_eq_true rfl) (Nat.le_of_ble_eq_true rfl) rfl (fun hq619 aq618 eq620 gq621 Eq622 ⟨Aq623, Dq624, Uq625⟩ => ?_)
                  have Fq626 := Fq592.ext Eq588
                  have Fq627 := Fq626.keep Kq616
                  have nq628 : aq527 ≠ aq618 := by rw [eq620]; exact Nat.ne_of_lt (Fq627.lt)
                  have Fq629 := Fq594.ext Eq588
                  have Fq630 := Fq629.keep Kq616 (ninS nq595 nin0)
                  have nq631 : aq537 ≠ aq618 := by rw [eq620]; exact Nat.ne_of_lt (Fq630.lt)
                  have Fq632 := Fq596.ext Eq588
                  have Fq633 := Fq632.keep Kq616 (ninS nq597 nin0)
                  have nq634 : tq554 ≠ aq618 := by rw [eq620]; exact Nat.ne_of_lt (Fq633.lt)
                  have Fq635 := Gv.1.ext Eq588
                  have Fq636 := Fq635.keep Kq616
                  have nq637 : sv ≠ aq618 := by rw [eq620]; exact Nat.ne_of_lt (Fq636.lt)
                  have Fq638 := Gv.2.2.2.ext Eq588
                  have Fq639 := Fq638.keep Kq616 (ninS nq599 nin0)
                  have nq640 : tv ≠ aq618 := by rw [eq620]; exact Nat.ne_of_lt (Fq639.lt)
                  have nq641 : aq584 ≠ aq618 := by rw [eq620]; exact Nat.ne_of_lt (Tq613.1.lt)
                  have Fq642 : Fld Z hq619 aq618 "com/example/faultgauge/faultgauge/exec/TestResult" "line" "I" (.int (0 : Int32)) := Dq624 (Or.inr (hw _ (List.mem_of_getElem? (i := 52) rfl))) (ty := .int) (by decide)
                  have Fq643 : Fld Z hq619 aq618 "com/example/faultgauge/faultgauge/exec/TestResult" "difference" "Lcom/example/faultgauge/faultgauge/exec/TestResult$Difference;" (.null) := Dq624 (Or.inr (hw _ (List.mem_of_getElem? (i := 54) rfl))) (ty := (.object "com/example/faultgauge/faultgauge/exec/TestResult$Difference")) (by decide)
                  have Fq644 : Fld Z hq619 aq618 "com/example/faultgauge/faultgauge/exec/TestResult" "ending" "Lcom/example/faultgauge/faultgauge/exec/Ending;" (.null) := Dq624 (Or.inr (hw _ (List.mem_of_getElem? (i := 56) rfl))) (ty := (.object "com/example/faultgauge/faultgauge/exec/Ending")) (by decide)
                  have Fq645 : Fld Z hq619 aq618 "com/example/faultgauge/faultgauge/exec/TestResult" "code" "I" (.int (0 : Int32)) := Dq624 (Or.inr (hw _ (List.mem_of_getElem? (i := 58) rfl))) (ty := .int) (by decide)
                  have Fq646 : Fld Z hq619 aq618 "com/example/faultgauge/faultgauge/exec/TestResult" "outputDigest" "Ljava/lang/String;" (.null) := Dq624 (Or.inr (hw _ (List.mem_of_getElem? (i := 60) rfl))) (ty := (.object "java/lang/String")) (by decide)
                  refine Rn.dup (pc' := 275) at_274 rfl rfl ?_
                  refine Rn.iload (pc' := 277) at_275 rfl rfl ?_
                  refine Rn.iload (pc' := 279) at_277 rfl rfl ?_
                  refine Rn.callS (pc' := 282) (argsL := [.int i2]) (rest := [.int l2, .ref aq618, .ref aq618]) (ct_df Z a0 hw i2 hq619 p0 n0 p1 n1 p2 n2 p3 n3 p4 n4 p5 n5) (hw _ (List.mem_of_getElem? (i := 34) rfl)) (hw _ (List.mem_of_getElem? (i := 35) rfl)) (hw _ (List.mem_of_getElem? (i := 36) rfl)) (hw _ (List.mem_of_getElem? (i := 37) rfl)) (by decide) rfl rfl (lenOf pd_12 rfl) rfl at_279 rfl (Nat.le_of_ble_eq_true rfl) (Nat.le_of_ble_eq_true rfl) (Nat.le_of_ble_eq_true rfl) (Nat.le_of_ble_eq_true rfl) (fun _ z => nomatch z) (fun _ z => nomatch z) (fun vq647 hq648 Kq649 qq650 => ?_)
                  obtain ⟨rfl, rfl⟩ := qq650
                  simp only [Option.toList, List.cons_append, List.nil_append]
                  refine Rn.iload (pc' := 284) at_282 rfl rfl ?_
                  refine Rn.callS (pc' := 287) (argsL := [.int j2]) (rest := [.ref (own_p6 p0 p1 p2 p3 p4 p5 i2), .int l2, .ref aq618, .ref aq618]) (ct_en Z a0 hw j2 hq619 q0 m0 q1 m1 q2 m2 q3 m3) (hw _ (List.mem_of_getElem? (i := 41) rfl)) (hw _ (List.mem_of_getElem? (i := 42) rfl)) (hw _ (List.mem_of_getElem? (i := 36) rfl)) (hw _ (List.mem_of_getElem? (i := 43) rfl)) (by decide) rfl rfl (lenOf pd_13 rfl) rfl at_284 rfl (Nat.le_of_ble_eq_true rfl) (Nat.le_of_ble_eq_true rfl) (Nat.le_of_ble_eq_true rfl) (Nat.le_of_ble_eq_true rfl) (fun _ z => nomatch z) (fun _ z => nomatch z) (fun vq651 hq652 Kq653 qq654 => ?_)
                  obtain ⟨rfl, rfl⟩ := qq654
                  simp only [Option.toList, List.cons_append, List.nil_append]
                  refine Rn.iload (pc' := 289) at_287 rfl rfl ?_
                  refine Rn.aload (pc' := 291) at_289 rfl rfl rfl ?_
                  refine Rn.callI (pc' := 294) (argsL := [.int l2, .ref (own_p6 p0 p1 p2 p3 p4 p5 i2), .ref (own_p4 q0 q1 q2 q3 j2), .int code2, .ref sv]) (a := aq618) (rest := [.ref aq618]) (ct_tr Z a0 hw aq618 l2 (own_p6 p0 p1 p2 p3 p4 p5 i2) (own_p4 q0 q1 q2 q3 j2) code2 sv hq619 Aq623 Fq642 Fq643 Fq644 Fq645 Fq646) rfl (hw _ (List.mem_of_getElem? (i := 47) rfl)) (hw _ (List.mem_of_getElem? (i := 48) rfl)) (hw _ (List.mem_of_getElem? (i := 33) rfl)) (hw _ (List.mem_of_getElem? (i := 49) rfl)) (by decide) rfl rfl (lenOf pd_14 rfl) rfl at_291 rfl (Nat.le_of_ble_eq_true rfl) (Nat.le_of_ble_eq_true rfl) (Nat.le_of_ble_eq_true rfl) (Nat.le_of_ble_eq_true rfl) (allS (Or.inr gq621) all0) (allS Sf.no (all0)) (fun vq656 hq657 Kq658 qq659 => ?_)
                  obtain ⟨rfl, Tq655⟩ := qq659
                  simp only [Option.toList, List.cons_append, List.nil_append]
                  refine Rn.astore (pc' := 296) (Ls' := #[.val (.int a), .val (.int b), .val (.int c), .val (.int d), .val (.int e), .val (.int f), .val (.int a), .val (.int l2), .val (.int i1), .val (.int i2), .val (.int j1), .val (.int j2), .val (.int e), .val (.int code2), .val (.int x1), .val (.int x2), .val (.int y1), .val (.int y2), .val (.int (1 : Int32)), .val (.ref aq527), .val (.ref sv), .val (.int kd), .val (.ref aq584), .val (.ref aq618), .unset, .unset]) at_294 rfl rfl rfl ?_
                  refine Rn.iload (pc' := 298) at_296 rfl rfl ?_
                  refine Rn.iconst (pc' := 299) (v := (2 : Int32)) at_298 rfl rfl ?_
                  refine Rn.icmp_ge (pc' := 309) (pn := 302) at_299 (by decide) (by decide) rfl (fun cq660 => ?_) (fun cq660 => ?_)
                  ·
                    refine Rn.iload (pc' := 311) at_309 rfl rfl ?_
                    refine Rn.iconst (pc' := 312) (v := (2 : Int32)) at_311 rfl rfl ?_
                    refine Rn.icmp_ne (pc' := 321) (pn := 315) at_312 (by decide) (by decide) rfl (fun cq661 => ?_) (fun cq661 => ?_)
                    ·
                      refine Rn.iloadN (pc' := 322) at_321 rfl rfl ?_
                      refine Rn.callS (pc' := 325) (argsL := [.int a]) (rest := []) (ct_iv Z a0 hw a ca vs hq657 S1 S2 Ac hel) (hw _ (List.mem_of_getElem? (i := 86) rfl)) (hw _ (List.mem_of_getElem? (i := 87) rfl)) (hw _ (List.mem_of_getElem? (i := 88) rfl)) (hw _ (List.mem_of_getElem? (i := 89) rfl)) (by decide) rfl rfl (lenOf pd_15 rfl) rfl at_322 rfl (Nat.le_of_ble_eq_true rfl) (Nat.le_of_ble_eq_true rfl) (Nat.le_of_ble_eq_true rfl) (Nat.le_of_ble_eq_true rfl) (fun _ z => nomatch z) (fun _ z => nomatch z) (fun vq662 hq663 Kq664 qq665 => ?_)
                      obtain ⟨xi, rfl, Exi⟩ := qq665
                      simp only [Option.toList, List.cons_append, List.nil_append]
                      refine Rn.astore (pc' := 327) (Ls' := #[.val (.int a), .val (.int b), .val (.int c), .val (.int d), .val (.int e), .val (.int f), .val (.int a), .val (.int l2), .val (.int i1), .val (.int i2), .val (.int j1), .val (.int j2), .val (.int e), .val (.int code2), .val (.int x1), .val (.int x2), .val (.int y1), .val (.int y2), .val (.int (1 : Int32)), .val (.ref aq527), .val (.ref sv), .val (.int kd), .val (.ref aq584), .val (.ref aq618), .val (.ref xi), .unset]) at_325 rfl rfl rfl ?_
                      refine Rn.iload (pc' := 329) at_327 rfl rfl ?_
                      refine Rn.iconst (pc' := 330) (v := (2 : Int32)) at_329 rfl rfl ?_
                      refine Rn.icmp_ge (pc' := 390) (pn := 333) at_330 (by decide) (by decide) rfl (fun cq666 => ?_) (fun cq666 => absurd cq666 ‹¬ kd < (2 : Int32)›)
                      refine Rn.iconst (pc' := 391) (v := (0 : Int32)) at_390 rfl rfl ?_
                      refine Rn.istore (pc' := 393) (Ls' := #[.val (.int a), .val (.int b), .val (.int c), .val (.int d), .val (.int e), .val (.int f), .val (.int a), .val (.int l2), .val (.int i1), .val (.int i2), .val (.int j1), .val (.int j2), .val (.int e), .val (.int code2), .val (.int x1), .val (.int x2), .val (.int y1), .val (.int y2), .val (.int (1 : Int32)), .val (.ref aq527), .val (.ref sv), .val (.int kd), .val (.ref aq584), .val (.ref aq618), .val (.ref xi), .val (.int (0 : Int32))]) at_391 rfl rfl ?_
                      refine Rn.aload (pc' := 395) at_393 rfl rfl rfl ?_
                      refine Rn.aload (pc' := 397) at_395 rfl rfl rfl ?_
                      have Fq671 := Tq613.1.ext Eq622
                      have Fq672 := Fq671.keep Kq658
                      have Fq673 := Fq672.keep Kq664
                      refine Rn.callV (pc' := 400) (argsL := [.ref xi]) (a := aq584) (rest := []) (ct_eqi Z a0 hw aq584 xi hq663 Exi) Fq673 (hw _ (List.mem_of_getElem? (i := 61) rfl)) (hw _ (List.mem_of_getElem? (i := 62) rfl)) (fun _ hZ => notFace_of_selects (args := #[]) (mvT hZ (hw _ (List.mem_of_getElem? (i := 64) rfl)))) (hw _ (List.mem_of_getElem? (i := 64) rfl)) (hw _ (List.mem_of_getElem? (i := 63) rfl)) (hw _ (List.mem_of_getElem? (i := 33) rfl)) (hw _ (List.mem_of_getElem? (i := 65) rfl)) (by decide) rfl rfl (lenOf pd_1 rfl) rfl at_397 rfl (Nat.le_of_ble_eq_true rfl) (Nat.le_of_ble_eq_true rfl) (Nat.le_of_ble_eq_true rfl) (Nat.le_of_ble_eq_true rfl) (fun _ z => nomatch z) (fun _ z => nomatch z) (fun vq667 hq668 Kq669 qq670 => ?_)
                      obtain ⟨rfl, rfl⟩ := qq670
                      simp only [Option.toList, List.cons_append, List.nil_append]
                      refine Rn.iload (pc' := 402) at_400 rfl rfl ?_
                      refine Rn.icmp_ne (pc' := 409) (pn := 405) at_402 (by decide) (by decide) rfl (fun cq674 => absurd cq674 (by decide)) (fun cq674 => ?_)
                      refine Rn.iconst (pc' := 406) (v := (1 : Int32)) at_405 rfl rfl ?_
                      refine Rn.goto (pc' := 410) at_406 (by decide) (by decide) ?_
                      refine Rn.retN (t := .boolean) rfl (by simp) at_410 (Nat.le_of_ble_eq_true rfl) (Nat.le_of_ble_eq_true rfl) ?_
                      rfl
                    ·
                      refine Rn.aconst_null (pc' := 316) at_315 rfl ?_
                      refine Rn.astore (pc' := 318) (Ls' := #[.val (.int a), .val (.int b), .val (.int c), .val (.int d), .val (.int e), .val (.int f), .val (.int a), .val (.int l2), .val (.int i1), .val (.int i2), .val (.int j1), .val (.int j2), .val (.int e), .val (.int code2), .val (.int x1), .val (.int x2), .val (.int y1), .val (.int y2), .val (.int (1 : Int32)), .val (.ref aq527), .val (.ref sv), .val (.int kd), .val (.ref aq584), .val (.ref aq618), .val (.null), .unset]) at_316 rfl rfl rfl ?_
                      refine Rn.goto (pc' := 327) at_318 (by decide) (by decide) ?_
                      refine Rn.iload (pc' := 329) at_327 rfl rfl ?_
                      refine Rn.iconst (pc' := 330) (v := (2 : Int32)) at_329 rfl rfl ?_
                      refine Rn.icmp_ge (pc' := 390) (pn := 333) at_330 (by decide) (by decide) rfl (fun cq675 => ?_) (fun cq675 => absurd cq675 ‹¬ kd < (2 : Int32)›)
                      refine Rn.iconst (pc' := 391) (v := (0 : Int32)) at_390 rfl rfl ?_
                      refine Rn.istore (pc' := 393) (Ls' := #[.val (.int a), .val (.int b), .val (.int c), .val (.int d), .val (.int e), .val (.int f), .val (.int a), .val (.int l2), .val (.int i1), .val (.int i2), .val (.int j1), .val (.int j2), .val (.int e), .val (.int code2), .val (.int x1), .val (.int x2), .val (.int y1), .val (.int y2), .val (.int (1 : Int32)), .val (.ref aq527), .val (.ref sv), .val (.int kd), .val (.ref aq584), .val (.ref aq618), .val (.null), .val (.int (0 : Int32))]) at_391 rfl rfl ?_
                      refine Rn.aload (pc' := 395) at_393 rfl rfl rfl ?_
                      refine Rn.aload (pc' := 397) at_395 rfl rfl rfl ?_
                      have Fq680 := Tq613.1.ext Eq622
                      have Fq681 := Fq680.keep Kq658
                      refine Rn.callV (pc' := 400) (argsL := [.null]) (a := aq584) (rest := []) (ct_eqn Z a0 hw aq584 hq657) Fq681 (hw _ (List.mem_of_getElem? (i := 61) rfl)) (hw _ (List.mem_of_getElem? (i := 62) rfl)) (fun _ hZ => notFace_of_selects (args := #[]) (mvT hZ (hw _ (List.mem_of_getElem? (i := 64) rfl)))) (hw _ (List.mem_of_getElem? (i := 64) rfl)) (hw _ (List.mem_of_getElem? (i := 63) rfl)) (hw _ (List.mem_of_getElem? (i := 33) rfl)) (hw _ (List.mem_of_getElem? (i := 65) rfl)) (by decide) rfl rfl (lenOf pd_1 rfl) rfl at_397 rfl (Nat.le_of_ble_eq_true rfl) (Nat.le_of_ble_eq_true rfl) (Nat.le_of_ble_eq_true rfl) (Nat.le_of_ble_eq_true rfl) (fun _ z => nomatch z) (fun _ z => nomatch z) (fun vq676 hq677 Kq678 qq679 => ?_)
                      obtain ⟨rfl, rfl⟩ := qq679
                      simp only [Option.toList, List.cons_append, List.nil_append]
                      refine Rn.iload (pc' := 402) at_400 rfl rfl ?_
                      refine Rn.icmp_ne (pc' := 409) (pn := 405) at_402 (by decide) (by decide) rfl (fun cq682 => absurd cq682 (by decide)) (fun cq682 => ?_)
                      refine Rn.iconst (pc' := 406) (v := (1 : Int32)) at_405 rfl rfl ?_
                      refine Rn.goto (pc' := 410) at_406 (by decide) (by decide) ?_
                      refine Rn.retN (t := .boolean) rfl (by simp) at_410 (Nat.le_of_ble_eq_true rfl) (Nat.le_of_ble_eq_true rfl) ?_
                      rfl
                  ·
                    refine Rn.aload (pc' := 304) at_302 rfl rfl rfl ?_
                    refine Rn.astore (pc' := 306) (Ls' := #[.val (.int a), .val (.int b), .val (.int c), .val (.int d), .val (.int e), .val (.int f), .val (.int a), .val (.int l2), .val (.int i1), .val (.int i2), .val (.int j1), .val (.int j2), .val (.int e), .val (.int code2), .val (.int x1), .val (.int x2), .val (.int y1), .val (.int y2), .val (.int (1 : Int32)), .val (.ref aq527), .val (.ref sv), .val (.int kd), .val (.ref aq584), .val (.ref aq618), .val (.ref aq618), .unset]) at_304 rfl rfl rfl ?_
                    refine Rn.goto (pc' := 327) at_306 (by decide) (by decide) ?_
                    refine Rn.iload (pc' := 329) at_327 rfl rfl ?_
                    refine Rn.iconst (pc' := 330) (v := (2 : Int32)) at_329 rfl rfl ?_
                    refine Rn.icmp_ge (pc' := 390) (pn := 333) at_330 (by decide) (by decide) rfl (fun cq683 => absurd ‹kd < (2 : Int32)› cq683) (fun cq683 => ?_)
                    refine Rn.iload (pc' := 335) at_333 rfl rfl ?_
                    refine Rn.iload (pc' := 337) at_335 rfl rfl ?_
                    refine Rn.icmp_ne (pc' := 384) (pn := 340) at_337 (by decide) (by decide) rfl (fun cq684 => ?_) (fun cq684 => ?_)
                    ·
                      refine Rn.iconst (pc' := 385) (v := (0 : Int32)) at_384 rfl rfl ?_
                      refine Rn.istore (pc' := 387) (Ls' := #[.val (.int a), .val (.int b), .val (.int c), .val (.int d), .val (.int e), .val (.int f), .val (.int a), .val (.int l2), .val (.int i1), .val (.int i2), .val (.int j1), .val (.int j2), .val (.int e), .val (.int code2), .val (.int x1), .val (.int x2), .val (.int y1), .val (.int y2), .val (.int (1 : Int32)), .val (.ref aq527), .val (.ref sv), .val (.int kd), .val (.ref aq584), .val (.ref aq618), .val (.ref aq618), .val (.int (0 : Int32))]) at_385 rfl rfl ?_
                      refine Rn.goto (pc' := 393) at_387 (by decide) (by decide) ?_
                      refine Rn.aload (pc' := 395) at_393 rfl rfl rfl ?_
                      refine Rn.aload (pc' := 397) at_395 rfl rfl rfl ?_
                      have Fq685 := Tq613.ext Eq622
                      have Fq686 := Fq685.keep Kq658 (ninS nq641 nin0)
                      have Fq687 := Fq627.ext Eq622
                      have Fq688 := Fq687.keep Kq658
                      have Fq689 := Gq556.2.1.keep Kq576 nin0
                      have Fq690 := Fq689.ext Eq588
                      have Fq691 := Fq690.keep Kq616 (ninS nq593 nin0)
                      have Fq692 := Fq691.ext Eq622
                      have Fq693 := Fq692.keep Kq658 (ninS nq628 nin0)
                      have Fq694 := Gq556.2.2.1.keep Kq576 nin0
                      have Fq695 := Fq694.ext Eq588
                      have Fq696 := Fq695.keep Kq616 (ninS nq593 nin0)
                      have Fq697 := Fq696.ext Eq622
                      have Fq698 := Fq697.keep Kq658 (ninS nq628 nin0)
                      have Fq699 := Fq633.ext Eq622
                      have Fq700 := Fq699.keep Kq658 (ninS nq634 nin0)
                      have Fq701 := Fq636.ext Eq622
                      have Fq702 := Fq701.keep Kq658
                      have Fq703 := Gv.2.1.ext Eq588
                      have Fq704 := Fq703.keep Kq616 (ninS nq598 nin0)
                      have Fq705 := Fq704.ext Eq622
                      have Fq706 := Fq705.keep Kq658 (ninS nq637 nin0)
                      have Fq707 := Gv.2.2.1.ext Eq588
                      have Fq708 := Fq707.keep Kq616 (ninS nq598 nin0)
                      have Fq709 := Fq708.ext Eq622
                      have Fq710 := Fq709.keep Kq658 (ninS nq637 nin0)
                      have Fq711 := Fq639.ext Eq622
                      have Fq712 := Fq711.keep Kq658 (ninS nq640 nin0)
                      have Fq717 := Tq613.1.ext Eq622
                      have Fq718 := Fq717.keep Kq658
                      refine Rn.callV (pc' := 400) (argsL := [.ref aq618]) (a := aq584) (rest := []) (ct_eq1 Z a0 hw aq584 aq618 aq527 tq554 sv tv (own_p6 p0 p1 p2 p3 p4 p5 i1) (own_p4 q0 q1 q2 q3 j1) (own_p6 p0 p1 p2 p3 p4 p5 i2) (own_p4 q0 q1 q2 q3 j2) a e l2 code2 (b8 x1) (b8 x2) (b8 y1) z hz hq657 Fq686 Tq655 ⟨Fq688, Fq693, Fq698, Fq700⟩ ⟨Fq702, Fq706, Fq710, Fq712⟩ nq578 S) Fq718 (hw _ (List.mem_of_getElem? (i := 61) rfl)) (hw _ (List.mem_of_getElem? (i := 62) rfl)) (fun _ hZ => notFace_of_selects (args := #[]) (mvT hZ (hw _ (List.mem_of_getElem? (i := 64) rfl)))) (hw _ (List.mem_of_getElem? (i := 64) rfl)) (hw _ (List.mem_of_getElem? (i := 63) rfl)) (hw _ (List.mem_of_getElem? (i := 33) rfl)) (hw _ (List.mem_of_getElem? (i := 65) rfl)) (by decide) rfl rfl (lenOf pd_1 rfl) rfl at_397 rfl (Nat.le_of_ble_eq_true rfl) (Nat.le_of_ble_eq_true rfl) (Nat.le_of_ble_eq_true rfl) (Nat.le_of_ble_eq_true rfl) (fun _ z => nomatch z) (fun _ z => nomatch z) (fun vq713 hq714 Kq715 qq716 => ?_)
                      obtain ⟨rfl, rfl⟩ := qq716
                      simp only [Option.toList, List.cons_append, List.nil_append]
                      refine Rn.iload (pc' := 402) at_400 rfl rfl ?_
                      refine Rn.icmp_ne (pc' := 409) (pn := 405) at_402 (by decide) (by decide) rfl (fun cq719 => absurd (if_neg (c := (a = l2 ∧ (own_p6 p0 p1 p2 p3 p4 p5 i1) = (own_p6 p0 p1 p2 p3 p4 p5 i2) ∧ (own_p4 q0 q1 q2 q3 j1) = (own_p4 q0 q1 q2 q3 j2) ∧ e = code2 ∧ [b8 x1, b8 x2] = [b8 y1])) (fun q => cq684 q.1)) cq719) (fun cq719 => ?_)
                      refine Rn.iconst (pc' := 406) (v := (1 : Int32)) at_405 rfl rfl ?_
                      refine Rn.goto (pc' := 410) at_406 (by decide) (by decide) ?_
                      refine Rn.retN (t := .boolean) rfl (by simp) at_410 (Nat.le_of_ble_eq_true rfl) (Nat.le_of_ble_eq_true rfl) ?_
                      rfl
                    ·
                      refine Rn.iload (pc' := 342) at_340 rfl rfl ?_
                      refine Rn.iload (pc' := 344) at_342 rfl rfl ?_
                      refine Rn.icmp_ne (pc' := 384) (pn := 347) at_344 (by decide) (by decide) rfl (fun cq720 => ?_) (fun cq720 => ?_)
                      ·
                        refine Rn.iconst (pc' := 385) (v := (0 : Int32)) at_384 rfl rfl ?_
                        refine Rn.istore (pc' := 387) (Ls' := #[.val (.int a), .val (.int b), .val (.int c), .val (.int d), .val (.int e), .val (.int f), .val (.int a), .val (.int l2), .val (.int i1), .val (.int i2), .val (.int j1), .val (.int j2), .val (.int e), .val (.int code2), .val (.int x1), .val (.int x2), .val (.int y1), .val (.int y2), .val (.int (1 : Int32)), .val (.ref aq527), .val (.ref sv), .val (.int kd), .val (.ref aq584), .val (.ref aq618), .val (.ref aq618), .val (.int (0 : Int32))]) at_385 rfl rfl ?_
                        refine Rn.goto (pc' := 393) at_387 (by decide) (by decide) ?_
                        refine Rn.aload (pc' := 395) at_393 rfl rfl rfl ?_
                        refine Rn.aload (pc' := 397) at_395 rfl rfl rfl ?_
                        have Fq721 := Tq613.ext Eq622
                        have Fq722 := Fq721.keep Kq658 (ninS nq641 nin0)
                        have Fq723 := Fq627.ext Eq622
                        have Fq724 := Fq723.keep Kq658
                        have Fq725 := Gq556.2.1.keep Kq576 nin0
                        have Fq726 := Fq725.ext Eq588
                        have Fq727 := Fq726.keep Kq616 (ninS nq593 nin0)
                        have Fq728 := Fq727.ext Eq622
                        have Fq729 := Fq728.keep Kq658 (ninS nq628 nin0)
                        have Fq730 := Gq556.2.2.1.keep Kq576 nin0
                        have Fq731 := Fq730.ext Eq588
                        have Fq732 := Fq731.keep Kq616 (ninS nq593 nin0)
                        have Fq733 := Fq732.ext Eq622
                        have Fq734 := Fq733.keep Kq658 (ninS nq628 nin0)
                        have Fq735 := Fq633.ext Eq622
                        have Fq736 := Fq735.keep Kq658 (ninS nq634 nin0)
                        have Fq737 := Fq636.ext Eq622
                        have Fq738 := Fq737.keep Kq658
                        have Fq739 := Gv.2.1.ext Eq588
                        have Fq740 := Fq739.keep Kq616 (ninS nq598 nin0)
                        have Fq741 := Fq740.ext Eq622
                        have Fq742 := Fq741.keep Kq658 (ninS nq637 nin0)
                        have Fq743 := Gv.2.2.1.ext Eq588
                        have Fq744 := Fq743.keep Kq616 (ninS nq598 nin0)
                        have Fq745 := Fq744.ext Eq622
                        have Fq746 := Fq745.keep Kq658 (ninS nq637 nin0)
                        have Fq747 := Fq639.ext Eq622
                        have Fq748 := Fq747.keep Kq658 (ninS nq640 nin0)
                        have Fq753 := Tq613.1.ext Eq622
                        have Fq754 := Fq753.keep Kq658
                        refine Rn.callV (pc' := 400) (argsL := [.ref aq618]) (a := aq584) (rest := []) (ct_eq1 Z a0 hw aq584 aq618 aq527 tq554 sv tv (own_p6 p0 p1 p2 p3 p4 p5 i1) (own_p4 q0 q1 q2 q3 j1) (own_p6 p0 p1 p2 p3 p4 p5 i2) (own_p4 q0 q1 q2 q3 j2) a e l2 code2 (b8 x1) (b8 x2) (b8 y1) z hz hq657 Fq722 Tq655 ⟨Fq724, Fq729, Fq734, Fq736⟩ ⟨Fq738, Fq742, Fq746, Fq748⟩ nq578 S) Fq754 (hw _ (List.mem_of_getElem? (i := 61) rfl)) (hw _ (List.mem_of_getElem? (i := 62) rfl)) (fun _ hZ => notFace_of_selects (args := #[]) (mvT hZ (hw _ (List.mem_of_getElem? (i := 64) rfl)))) (hw _ (List.mem_of_getElem? (i := 64) rfl)) (hw _ (List.mem_of_getElem? (i := 63) rfl)) (hw _ (List.mem_of_getElem? (i := 33) rfl)) (hw _ (List.mem_of_getElem? (i := 65) rfl)) (by decide) rfl rfl (lenOf pd_1 rfl) rfl at_397 rfl (Nat.le_of_ble_eq_true rfl) (Nat.le_of_ble_eq_true rfl) (Nat.le_of_ble_eq_true rfl) (Nat.le_of_ble_eq_true rfl) (fun _ z => nomatch z) (fun _ z => nomatch z) (fun vq749 hq750 Kq751 qq752 => ?_)
                        obtain ⟨rfl, rfl⟩ := qq752
                        simp only [Option.toList, List.cons_append, List.nil_append]
                        refine Rn.iload (pc' := 402) at_400 rfl rfl ?_
                        refine Rn.icmp_ne (pc' := 409) (pn := 405) at_402 (by decide) (by decide) rfl (fun cq755 => absurd (if_neg (c := (a = l2 ∧ (own_p6 p0 p1 p2 p3 p4 p5 i1) = (own_p6 p0 p1 p2 p3 p4 p5 i2) ∧ (own_p4 q0 q1 q2 q3 j1) = (own_p4 q0 q1 q2 q3 j2) ∧ e = code2 ∧ [b8 x1, b8 x2] = [b8 y1])) (fun q => cq720 (own_i6 p0 n0 p1 n1 p2 n2 p3 n3 p4 n4 p5 n5 hi1 h_i2 q.2.1))) cq755) (fun cq755 => ?_)
                        refine Rn.iconst (pc' := 406) (v := (1 : Int32)) at_405 rfl rfl ?_
                        refine Rn.goto (pc' := 410) at_406 (by decide) (by decide) ?_
                        refine Rn.retN (t := .boolean) rfl (by simp) at_410 (Nat.le_of_ble_eq_true rfl) (Nat.le_of_ble_eq_true rfl) ?_
                        rfl
                      ·
                        refine Rn.iload (pc' := 349) at_347 rfl rfl ?_
                        refine Rn.iload (pc' := 351) at_349 rfl rfl ?_
                        refine Rn.icmp_ne (pc' := 384) (pn := 354) at_351 (by decide) (by decide) rfl (fun cq756 => ?_) (fun cq756 => ?_)
                        ·
                          refine Rn.iconst (pc' := 385) (v := (0 : Int32)) at_384 rfl rfl ?_
                          refine Rn.istore (pc' := 387) (Ls' := #[.val (.int a), .val (.int b), .val (.int c), .val (.int d), .val (.int e), .val (.int f), .val (.int a), .val (.int l2), .val (.int i1), .val (.int i2), .val (.int j1), .val (.int j2), .val (.int e), .val (.int code2), .val (.int x1), .val (.int x2), .val (.int y1), .val (.int y2), .val (.int (1 : Int32)), .val (.ref aq527), .val (.ref sv), .val (.int kd), .val (.ref aq584), .val (.ref aq618), .val (.ref aq618), .val (.int (0 : Int32))]) at_385 rfl rfl ?_
                          refine Rn.goto (pc' := 393) at_387 (by decide) (by decide) ?_
                          refine Rn.aload (pc' := 395) at_393 rfl rfl rfl ?_
                          refine Rn.aload (pc' := 397) at_395 rfl rfl rfl ?_
                          have Fq757 := Tq613.ext Eq622
                          have Fq758 := Fq757.keep Kq658 (ninS nq641 nin0)
                          have Fq759 := Fq627.ext Eq622
                          have Fq760 := Fq759.keep Kq658
                          have Fq761 := Gq556.2.1.keep Kq576 nin0
                          have Fq762 := Fq761.ext Eq588
                          have Fq763 := Fq762.keep Kq616 (ninS nq593 nin0)
                          have Fq764 := Fq763.ext Eq622
                          have Fq765 := Fq764.keep Kq658 (ninS nq628 nin0)
                          have Fq766 := Gq556.2.2.1.keep Kq576 nin0
                          have Fq767 := Fq766.ext Eq588
                          have Fq768 := Fq767.keep Kq616 (ninS nq593 nin0)
                          have Fq769 := Fq768.ext Eq622
                          have Fq770 := Fq769.keep Kq658 (ninS nq628 nin0)
                          have Fq771 := Fq633.ext Eq622
                          have Fq772 := Fq771.keep Kq658 (ninS nq634 nin0)
                          have Fq773 := Fq636.ext Eq622
                          have Fq774 := Fq773.keep Kq658
                          have Fq775 := Gv.2.1.ext Eq588
                          have Fq776 := Fq775.keep Kq616 (ninS nq598 nin0)
                          have Fq777 := Fq776.ext Eq622
                          have Fq778 := Fq777.keep Kq658 (ninS nq637 nin0)
                          have Fq779 := Gv.2.2.1.ext Eq588
                          have Fq780 := Fq779.keep Kq616 (ninS nq598 nin0)
                          have Fq781 := Fq780.ext Eq622
                          have Fq782 := Fq781.keep Kq658 (ninS nq637 nin0)
                          have Fq783 := Fq639.ext Eq622
                          have Fq784 := Fq783.keep Kq658 (ninS nq640 nin0)
                          have Fq789 := Tq613.1.ext Eq622
                          have Fq790 := Fq789.keep Kq658
                          refine Rn.callV (pc' := 400) (argsL := [.ref aq618]) (a := aq584) (rest := []) (ct_eq1 Z a0 hw aq584 aq618 aq527 tq554 sv tv (own_p6 p0 p1 p2 p3 p4 p5 i1) (own_p4 q0 q1 q2 q3 j1) (own_p6 p0 p1 p2 p3 p4 p5 i2) (own_p4 q0 q1 q2 q3 j2) a e l2 code2 (b8 x1) (b8 x2) (b8 y1) z hz hq657 Fq758 Tq655 ⟨Fq760, Fq765, Fq770, Fq772⟩ ⟨Fq774, Fq778, Fq782, Fq784⟩ nq578 S) Fq790 (hw _ (List.mem_of_getElem? (i := 61) rfl)) (hw _ (List.mem_of_getElem? (i := 62) rfl)) (fun _ hZ => notFace_of_selects (args := #[]) (mvT hZ (hw _ (List.mem_of_getElem? (i := 64) rfl)))) (hw _ (List.mem_of_getElem? (i := 64) rfl)) (hw _ (List.mem_of_getElem? (i := 63) rfl)) (hw _ (List.mem_of_getElem? (i := 33) rfl)) (hw _ (List.mem_of_getElem? (i := 65) rfl)) (by decide) rfl rfl (lenOf pd_1 rfl) rfl at_397 rfl (Nat.le_of_ble_eq_true rfl) (Nat.le_of_ble_eq_true rfl) (Nat.le_of_ble_eq_true rfl) (Nat.le_of_ble_eq_true rfl) (fun _ z => nomatch z) (fun _ z => nomatch z) (fun vq785 hq786 Kq787 qq788 => ?_)
                          obtain ⟨rfl, rfl⟩ := qq788
                          simp only [Option.toList, List.cons_append, List.nil_append]
                          refine Rn.iload (pc' := 402) at_400 rfl rfl ?_
                          refine Rn.icmp_ne (pc' := 409) (pn := 405) at_402 (by decide) (by decide) rfl (fun cq791 => absurd (if_neg (c := (a = l2 ∧ (own_p6 p0 p1 p2 p3 p4 p5 i1) = (own_p6 p0 p1 p2 p3 p4 p5 i2) ∧ (own_p4 q0 q1 q2 q3 j1) = (own_p4 q0 q1 q2 q3 j2) ∧ e = code2 ∧ [b8 x1, b8 x2] = [b8 y1])) (fun q => cq756 (own_i4 q0 m0 q1 m1 q2 m2 q3 m3 hj1 h_j2 q.2.2.1))) cq791) (fun cq791 => ?_)
                          refine Rn.iconst (pc' := 406) (v := (1 : Int32)) at_405 rfl rfl ?_
                          refine Rn.goto (pc' := 410) at_406 (by decide) (by decide) ?_
                          refine Rn.retN (t := .boolean) rfl (by simp) at_410 (Nat.le_of_ble_eq_true rfl) (Nat.le_of_ble_eq_true rfl) ?_
                          rfl
                        ·
                          refine Rn.iload (pc' := 356) at_354 rfl rfl ?_
                          refine Rn.iload (pc' := 358) at_356 rfl rfl ?_
                          refine Rn.icmp_ne (pc' := 384) (pn := 361) at_358 (by decide) (by decide) rfl (fun cq792 => ?_) (fun cq792 => ?_)
                          ·
                            refine Rn.iconst (pc' := 385) (v := (0 : Int32)) at_384 rfl rfl ?_
                            refine Rn.istore (pc' := 387) (Ls' := #[.val (.int a), .val (.int b), .val (.int c), .val (.int d), .val (.int e), .val (.int f), .val (.int a), .val (.int l2), .val (.int i1), .val (.int i2), .val (.int j1), .val (.int j2), .val (.int e), .val (.int code2), .val (.int x1), .val (.int x2), .val (.int y1), .val (.int y2), .val (.int (1 : Int32)), .val (.ref aq527), .val (.ref sv), .val (.int kd), .val (.ref aq584), .val (.ref aq618), .val (.ref aq618), .val (.int (0 : Int32))]) at_385 rfl rfl ?_
                            refine Rn.goto (pc' := 393) at_387 (by decide) (by decide) ?_
                            refine Rn.aload (pc' := 395) at_393 rfl rfl rfl ?_
                            refine Rn.aload (pc' := 397) at_395 rfl rfl rfl ?_
                            have Fq793 := Tq613.ext Eq622
                            have Fq794 := Fq793.keep Kq658 (ninS nq641 nin0)
                            have Fq795 := Fq627.ext Eq622
                            have Fq796 := Fq795.keep Kq658
                            have Fq797 := Gq556.2.1.keep Kq576 nin0
                            have Fq798 := Fq797.ext Eq588
                            have Fq799 := Fq798.keep Kq616 (ninS nq593 nin0)
                            have Fq800 := Fq799.ext Eq622
                            have Fq801 := Fq800.keep Kq658 (ninS nq628 nin0)
                            have Fq802 := Gq556.2.2.1.keep Kq576 nin0
                            have Fq803 := Fq802.ext Eq588
                            have Fq804 := Fq803.keep Kq616 (ninS nq593 nin0)
                            have Fq805 := Fq804.ext Eq622
                            have Fq806 := Fq805.keep Kq658 (ninS nq628 nin0)
                            have Fq807 := Fq633.ext Eq622
                            have Fq808 := Fq807.keep Kq658 (ninS nq634 nin0)
                            have Fq809 := Fq636.ext Eq622
                            have Fq810 := Fq809.keep Kq658
                            have Fq811 := Gv.2.1.ext Eq588
                            have Fq812 := Fq811.keep Kq616 (ninS nq598 nin0)
                            have Fq813 := Fq812.ext Eq622
                            have Fq814 := Fq813.keep Kq658 (ninS nq637 nin0)
                            have Fq815 := Gv.2.2.1.ext Eq588
                            have Fq816 := Fq815.keep Kq616 (ninS nq598 nin0)
                            have Fq817 := Fq816.ext Eq622
                            have Fq818 := Fq817.keep Kq658 (ninS nq637 nin0)
                            have Fq819 := Fq639.ext Eq622
                            have Fq820 := Fq819.keep Kq658 (ninS nq640 nin0)
                            have Fq825 := Tq613.1.ext Eq622
                            have Fq826 := Fq825.keep Kq658
                            refine Rn.callV (pc' := 400) (argsL := [.ref aq618]) (a := aq584) (rest := []) (ct_eq1 Z a0 hw aq584 aq618 aq527 tq554 sv tv (own_p6 p0 p1 p2 p3 p4 p5 i1) (own_p4 q0 q1 q2 q3 j1) (own_p6 p0 p1 p2 p3 p4 p5 i2) (own_p4 q0 q1 q2 q3 j2) a e l2 code2 (b8 x1) (b8 x2) (b8 y1) z hz hq657 Fq794 Tq655 ⟨Fq796, Fq801, Fq806, Fq808⟩ ⟨Fq810, Fq814, Fq818, Fq820⟩ nq578 S) Fq826 (hw _ (List.mem_of_getElem? (i := 61) rfl)) (hw _ (List.mem_of_getElem? (i := 62) rfl)) (fun _ hZ => notFace_of_selects (args := #[]) (mvT hZ (hw _ (List.mem_of_getElem? (i := 64) rfl)))) (hw _ (List.mem_of_getElem? (i := 64) rfl)) (hw _ (List.mem_of_getElem? (i := 63) rfl)) (hw _ (List.mem_of_getElem? (i := 33) rfl)) (hw _ (List.mem_of_getElem? (i := 65) rfl)) (by decide) rfl rfl (lenOf pd_1 rfl) rfl at_397 rfl (Nat.le_of_ble_eq_true rfl) (Nat.le_of_ble_eq_true rfl) (Nat.le_of_ble_eq_true rfl) (Nat.le_of_ble_eq_true rfl) (fun _ z => nomatch z) (fun _ z => nomatch z) (fun vq821 hq822 Kq823 qq824 => ?_)
                            obtain ⟨rfl, rfl⟩ := qq824
                            simp only [Option.toList, List.cons_append, List.nil_append]
                            refine Rn.iload (pc' := 402) at_400 rfl rfl ?_
                            refine Rn.icmp_ne (pc' := 409) (pn := 405) at_402 (by decide) (by decide) rfl (fun cq827 => absurd (if_neg (c := (a = l2 ∧ (own_p6 p0 p1 p2 p3 p4 p5 i1) = (own_p6 p0 p1 p2 p3 p4 p5 i2) ∧ (own_p4 q0 q1 q2 q3 j1) = (own_p4 q0 q1 q2 q3 j2) ∧ e = code2 ∧ [b8 x1, b8 x2] = [b8 y1])) (fun q => cq792 q.2.2.2.1)) cq827) (fun cq827 => ?_)
                            refine Rn.iconst (pc' := 406) (v := (1 : Int32)) at_405 rfl rfl ?_
                            refine Rn.goto (pc' := 410) at_406 (by decide) (by decide) ?_
                            refine Rn.retN (t := .boolean) rfl (by simp) at_410 (Nat.le_of_ble_eq_true rfl) (Nat.le_of_ble_eq_true rfl) ?_
                            rfl
                          ·
                            refine Rn.iload (pc' := 363) at_361 rfl rfl ?_
                            refine Rn.if_ne (pc' := 384) (pn := 366) at_363 (by decide) (by decide) rfl (fun cq828 => ?_) (fun cq828 => absurd cq828 (by decide))
                            refine Rn.iconst (pc' := 385) (v := (0 : Int32)) at_384 rfl rfl ?_
                            refine Rn.istore (pc' := 387) (Ls' := #[.val (.int a), .val (.int b), .val (.int c), .val (.int d), .val (.int e), .val (.int f), .val (.int a), .val (.int l2), .val (.int i1), .val (.int i2), .val (.int j1), .val (.int j2), .val (.int e), .val (.int code2), .val (.int x1), .val (.int x2), .val (.int y1), .val (.int y2), .val (.int (1 : Int32)), .val (.ref aq527), .val (.ref sv), .val (.int kd), .val (.ref aq584), .val (.ref aq618), .val (.ref aq618), .val (.int (0 : Int32))]) at_385 rfl rfl ?_
                            refine Rn.goto (pc' := 393) at_387 (by decide) (by decide) ?_
                            refine Rn.aload (pc' := 395) at_393 rfl rfl rfl ?_
                            refine Rn.aload (pc' := 397) at_395 rfl rfl rfl ?_
                            have Fq829 := Tq613.ext Eq622
                            have Fq830 := Fq829.keep Kq658 (ninS nq641 nin0)
                            have Fq831 := Fq627.ext Eq622
                            have Fq832 := Fq831.keep Kq658
                            have Fq833 := Gq556.2.1.keep Kq576 nin0
                            have Fq834 := Fq833.ext Eq588
                            have Fq835 := Fq834.keep Kq616 (ninS nq593 nin0)
                            have Fq836 := Fq835.ext Eq622
                            have Fq837 := Fq836.keep Kq658 (ninS nq628 nin0)
                            have Fq838 := Gq556.2.2.1.keep Kq576 nin0
                            have Fq839 := Fq838.ext Eq588
                            have Fq840 := Fq839.keep Kq616 (ninS nq593 nin0)
                            have Fq841 := Fq840.ext Eq622
                            have Fq842 := Fq841.keep Kq658 (ninS nq628 nin0)
                            have Fq843 := Fq633.ext Eq622
                            have Fq844 := Fq843.keep Kq658 (ninS nq634 nin0)
                            have Fq845 := Fq636.ext Eq622
                            have Fq846 := Fq845.keep Kq658
                            have Fq847 := Gv.2.1.ext Eq588
                            have Fq848 := Fq847.keep Kq616 (ninS nq598 nin0)
                            have Fq849 := Fq848.ext Eq622
                            have Fq850 := Fq849.keep Kq658 (ninS nq637 nin0)
                            have Fq851 := Gv.2.2.1.ext Eq588
                            have Fq852 := Fq851.keep Kq616 (ninS nq598 nin0)
                            have Fq853 := Fq852.ext Eq622
                            have Fq854 := Fq853.keep Kq658 (ninS nq637 nin0)
                            have Fq855 := Fq639.ext Eq622
                            have Fq856 := Fq855.keep Kq658 (ninS nq640 nin0)
                            have Fq861 := Tq613.1.ext Eq622
                            have Fq862 := Fq861.keep Kq658
                            refine Rn.callV (pc' := 400) (argsL := [.ref aq618]) (a := aq584) (rest := []) (ct_eq1 Z a0 hw aq584 aq618 aq527 tq554 sv tv (own_p6 p0 p1 p2 p3 p4 p5 i1) (own_p4 q0 q1 q2 q3 j1) (own_p6 p0 p1 p2 p3 p4 p5 i2) (own_p4 q0 q1 q2 q3 j2) a e l2 code2 (b8 x1) (b8 x2) (b8 y1) z hz hq657 Fq830 Tq655 ⟨Fq832, Fq837, Fq842, Fq844⟩ ⟨Fq846, Fq850, Fq854, Fq856⟩ nq578 S) Fq862 (hw _ (List.mem_of_getElem? (i := 61) rfl)) (hw _ (List.mem_of_getElem? (i := 62) rfl)) (fun _ hZ => notFace_of_selects (args := #[]) (mvT hZ (hw _ (List.mem_of_getElem? (i := 64) rfl)))) (hw _ (List.mem_of_getElem? (i := 64) rfl)) (hw _ (List.mem_of_getElem? (i := 63) rfl)) (hw _ (List.mem_of_getElem? (i := 33) rfl)) (hw _ (List.mem_of_getElem? (i := 65) rfl)) (by decide) rfl rfl (lenOf pd_1 rfl) rfl at_397 rfl (Nat.le_of_ble_eq_true rfl) (Nat.le_of_ble_eq_true rfl) (Nat.le_of_ble_eq_true rfl) (Nat.le_of_ble_eq_true rfl) (fun _ z => nomatch z) (fun _ z => nomatch z) (fun vq857 hq858 Kq859 qq860 => ?_)
                            obtain ⟨rfl, rfl⟩ := qq860
                            simp only [Option.toList, List.cons_append, List.nil_append]
                            refine Rn.iload (pc' := 402) at_400 rfl rfl ?_
                            refine Rn.icmp_ne (pc' := 409) (pn := 405) at_402 (by decide) (by decide) rfl (fun cq863 => absurd (if_neg (c := (a = l2 ∧ (own_p6 p0 p1 p2 p3 p4 p5 i1) = (own_p6 p0 p1 p2 p3 p4 p5 i2) ∧ (own_p4 q0 q1 q2 q3 j1) = (own_p4 q0 q1 q2 q3 j2) ∧ e = code2 ∧ [b8 x1, b8 x2] = [b8 y1])) (fun q => (nomatch (List.cons.inj q.2.2.2.2).2))) cq863) (fun cq863 => ?_)
                            refine Rn.iconst (pc' := 406) (v := (1 : Int32)) at_405 rfl rfl ?_
                            refine Rn.goto (pc' := 410) at_406 (by decide) (by decide) ?_
                            refine Rn.retN (t := .boolean) rfl (by simp) at_410 (Nat.le_of_ble_eq_true rfl) (Nat.le_of_ble_eq_true rfl) ?_
                            rfl
              refine Rn.iload (pc' := 167) at_165 rfl rfl ?_
              refine Rn.sipush (pc' := 170) (v := (128 : Int32)) at_167 rfl rfl ?_
              refine Rn.iand (pc' := 171) (v := (f &&& (128 : Int32))) at_170 rfl rfl ?_
              refine Rn.if_eq (pc' := 178) (pn := 174) at_171 (by decide) (by decide) rfl (fun cq864 => ?_) (fun cq864 => ?_)
              ·
                refine Rn.iconst (pc' := 179) (v := (0 : Int32)) at_178 rfl rfl ?_
                exact J_sh _ (by simp)
              ·
                refine Rn.iconst (pc' := 175) (v := (1 : Int32)) at_174 rfl rfl ?_
                refine Rn.goto (pc' := 179) at_175 (by decide) (by decide) ?_
                exact J_sh _ (by simp)
            refine Rn.iload (pc' := 143) at_141 rfl rfl ?_
            refine Rn.bipush (pc' := 145) (v := (16 : Int32)) at_143 rfl rfl ?_
            refine Rn.iand (pc' := 146) (v := (f &&& (16 : Int32))) at_145 rfl rfl ?_
            refine Rn.if_eq (pc' := 154) (pn := 149) at_146 (by decide) (by decide) rfl (fun cq865 => ?_) (fun cq865 => ?_)
            ·
              refine Rn.iloadN (pc' := 155) at_154 rfl rfl ?_
              refine Rn.bipush (pc' := 157) (v := (16 : Int32)) at_155 rfl rfl ?_
              refine Rn.iushr (pc' := 158) (v := (XT.ushr d (16 : Int32))) at_157 rfl rfl ?_
              refine Rn.sipush (pc' := 161) (v := (255 : Int32)) at_158 rfl rfl ?_
              refine Rn.iand (pc' := 162) (v := ((XT.ushr d (16 : Int32)) &&& (255 : Int32))) at_161 rfl rfl ?_
              refine Rn.i2c (pc' := 163) (v := ((XT.ushr d (16 : Int32)) &&& (255 : Int32))) at_162 (i2c_mask (XT.ushr d (16 : Int32))) rfl ?_
              exact J_y2 _ (by first | exact hx2 | exact own_b _)
            ·
              refine Rn.iload (pc' := 151) at_149 rfl rfl ?_
              refine Rn.goto (pc' := 163) at_151 (by decide) (by decide) ?_
              exact J_y2 _ (by first | exact hx2 | exact own_b _)
          refine Rn.iload (pc' := 119) at_117 rfl rfl ?_
          refine Rn.bipush (pc' := 121) (v := (16 : Int32)) at_119 rfl rfl ?_
          refine Rn.iand (pc' := 122) (v := (f &&& (16 : Int32))) at_121 rfl rfl ?_
          refine Rn.if_eq (pc' := 130) (pn := 125) at_122 (by decide) (by decide) rfl (fun cq866 => ?_) (fun cq866 => ?_)
          ·
            refine Rn.iloadN (pc' := 131) at_130 rfl rfl ?_
            refine Rn.bipush (pc' := 133) (v := (8 : Int32)) at_131 rfl rfl ?_
            refine Rn.iushr (pc' := 134) (v := (XT.ushr d (8 : Int32))) at_133 rfl rfl ?_
            refine Rn.sipush (pc' := 137) (v := (255 : Int32)) at_134 rfl rfl ?_
            refine Rn.iand (pc' := 138) (v := ((XT.ushr d (8 : Int32)) &&& (255 : Int32))) at_137 rfl rfl ?_
            refine Rn.i2c (pc' := 139) (v := ((XT.ushr d (8 : Int32)) &&& (255 : Int32))) at_138 (i2c_mask (XT.ushr d (8 : Int32))) rfl ?_
            exact J_y1 _ (by first | exact hx1 | exact own_b _)
          ·
            refine Rn.iload (pc' := 127) at_125 rfl rfl ?_
            refine Rn.goto (pc' := 139) at_127 (by decide) (by decide) ?_
            exact J_y1 _ (by first | exact hx1 | exact own_b _)
        refine Rn.iload (pc' := 81) at_79 rfl rfl ?_
        refine Rn.bipush (pc' := 83) (v := (8 : Int32)) at_81 rfl rfl ?_
        refine Rn.iand (pc' := 84) (v := (f &&& (8 : Int32))) at_83 rfl rfl ?_
        refine Rn.if_eq (pc' := 92) (pn := 87) at_84 (by decide) (by decide) rfl (fun cq867 => ?_) (fun cq867 => ?_)
        ·
          refine Rn.iloadN (pc' := 93) at_92 rfl rfl ?_
          exact J_code2 _
        ·
          refine Rn.iload (pc' := 89) at_87 rfl rfl ?_
          refine Rn.goto (pc' := 93) at_89 (by decide) (by decide) ?_
          exact J_code2 _
      refine Rn.iload (pc' := 57) at_55 rfl rfl ?_
      refine Rn.iconst (pc' := 58) (v := (4 : Int32)) at_57 rfl rfl ?_
      refine Rn.iand (pc' := 59) (v := (f &&& (4 : Int32))) at_58 rfl rfl ?_
      refine Rn.if_eq (pc' := 67) (pn := 62) at_59 (by decide) (by decide) rfl (fun cq868 => ?_) (fun cq868 => ?_)
      ·
        refine Rn.iloadN (pc' := 68) at_67 rfl rfl ?_
        refine Rn.bipush (pc' := 70) (v := (24 : Int32)) at_68 rfl rfl ?_
        refine Rn.iushr (pc' := 71) (v := (XT.ushr d (24 : Int32))) at_70 rfl rfl ?_
        refine Rn.iconst (pc' := 72) (v := (3 : Int32)) at_71 rfl rfl ?_
        refine Rn.iand (pc' := 73) (v := ((XT.ushr d (24 : Int32)) &&& (3 : Int32))) at_72 rfl rfl ?_
        exact J_j2 _ (by first | exact hj1 | exact own_r4 _)
      ·
        refine Rn.iload (pc' := 64) at_62 rfl rfl ?_
        refine Rn.goto (pc' := 73) at_64 (by decide) (by decide) ?_
        exact J_j2 _ (by first | exact hj1 | exact own_r4 _)
    refine Rn.iload (pc' := 28) at_26 rfl rfl ?_
    refine Rn.iconst (pc' := 29) (v := (2 : Int32)) at_28 rfl rfl ?_
    refine Rn.iand (pc' := 30) (v := (f &&& (2 : Int32))) at_29 rfl rfl ?_
    refine Rn.if_eq (pc' := 38) (pn := 33) at_30 (by decide) (by decide) rfl (fun cq869 => ?_) (fun cq869 => ?_)
    ·
      refine Rn.iloadN (pc' := 39) at_38 rfl rfl ?_
      refine Rn.ldcI (pc' := 41) (hw _ (List.mem_of_getElem? (i := 0) rfl)) at_39 rfl ?_
      refine Rn.iand (pc' := 42) (v := (d &&& (2147483647 : Int32))) at_41 rfl rfl ?_
      refine Rn.bipush (pc' := 44) (v := (6 : Int32)) at_42 rfl rfl ?_
      refine Rn.irem (pc' := 45) (v := ((d &&& (2147483647 : Int32)) % (6 : Int32))) at_44 (by decide) rfl rfl ?_
      exact J_i2 _ (by first | exact hi1 | exact own_r6 _)
    ·
      refine Rn.iload (pc' := 35) at_33 rfl rfl ?_
      refine Rn.goto (pc' := 45) at_35 (by decide) (by decide) ?_
      exact J_i2 _ (by first | exact hi1 | exact own_r6 _)
  refine Rn.iload (pc' := 5) at_3 rfl rfl ?_
  refine Rn.iconst (pc' := 6) (v := (1 : Int32)) at_5 rfl rfl ?_
  refine Rn.iand (pc' := 7) (v := (f &&& (1 : Int32))) at_6 rfl rfl ?_
  refine Rn.if_eq (pc' := 14) (pn := 10) at_7 (by decide) (by decide) rfl (fun cq870 => ?_) (fun cq870 => ?_)
  ·
    refine Rn.iloadN (pc' := 15) at_14 rfl rfl ?_
    exact J_l2 _
  ·
    refine Rn.iloadN (pc' := 11) at_10 rfl rfl ?_
    refine Rn.goto (pc' := 15) at_11 (by decide) (by decide) ?_
    exact J_l2 _
theorem own_len256 {s : State} {args : Array Value} {t : Term} {a : Addr} {c : Cell} {ty : FieldType} (et : t.eval args s none [] s = some (.ref a)) (A : Arr s s.heap a c ty) (h : (Term.length t).eval args s none [] s = some (.int 256)) : c.slots.size = 256 := by
  have ha := A.fin (Vm.Alike.refl _)
  by_cases q : c.slots.size < 2 ^ 31
  · rw [len_f et ha q] at h
    have := congrArg Int32.toInt (Value.int.inj (Option.some.inj h))
    rw [len_toInt q] at this
    have e : (256 : Int32).toInt = 256 := rfl
    omega
  · have q' : ¬ c.slots.size < 2147483648 := q
    simp [Term.eval, et, ha, q'] at h
set_option maxRecDepth 65536 in
set_option maxHeartbeats 40000000 in
theorem comes_1 {Post : Tables → Env → Array Value → State → Outcome → State → Prop} (hpost : ∀ tb e args s v u, (limb_1_1.after args s (.returned v) u = true ∧ limb_1_2.after args s (.returned v) u = true ∧ True) → FrameEnd s (.returned v) u (Jvm.fieldLocs frame_1_writes args s ++ Jvm.arrayLocs frame_1_arrays args s ++ Jvm.staticLocs frame_1_statics s) 32 128 → Post tb e args s (.returned v) u) :
    ArmFor flags0 classFile x code maxLocals ret World_1 tables_1 room_1 Calls_1 rest_1 Pre_1 Post := by
  intro l hfl _ _ p e ha hc hk s m args below hf hA hF happ hP
  obtain ⟨hcalls, hrest, hpre⟩ := hP
  obtain ⟨-, -, -, hnamed, -, -, -, hat⟩ := (Spec.applies_iff hf).mp happ
  obtain ⟨hg, hn⟩ := and_e (Cond.before_iff.mp (show (Jvm.Cond.and given_1 narrow_1).before args s = true from hpre))
  obtain ⟨hn1, hg1⟩ := and_e hg
  obtain ⟨w0, w1, w2, w3, w4, w5, rfl⟩ : ∃ w0 w1 w2 w3 w4 w5 : Value, args = #[w0, w1, w2, w3, w4, w5] := by
    have hs : args.size = 6 := by simpa [Cond.value, given_1] using hn1
    obtain ⟨L⟩ := args
    match L, hs with
    | [w0, w1, w2, w3, w4, w5], _ => exact ⟨w0, w1, w2, w3, w4, w5, rfl⟩
  have hw := fun d (hd : d ∈ tables_1) => atoms_spec (ws := Jvm.Cond.code x code maxLocals ret :: tables_1) hat d (List.mem_cons_of_mem _ hd)
  have hfit : Fit s := fun {y c} hc i hi => by
    obtain ⟨ha, rfl⟩ := Array.getElem?_eq_some_iff.mp hc
    have q := List.all_eq_true.mp ((Array.all_eq_true_iff_forall_mem.mp hF) _ (Array.getElem_mem ha)) i (List.mem_range.mpr hi)
    simpa [Array.getElem?_eq_getElem hi] using q
  obtain ⟨ka0, kb0⟩ := and_e hg1
  obtain ⟨x0, e0⟩ := is_v ka0
  obtain rfl : w0 = (.int x0) := Option.some.inj e0
  obtain ⟨ka1, kb1⟩ := and_e kb0
  obtain ⟨x1, e1⟩ := is_v ka1
  obtain rfl : w1 = (.int x1) := Option.some.inj e1
  obtain ⟨ka2, kb2⟩ := and_e kb1
  obtain ⟨x2, e2⟩ := is_v ka2
  obtain rfl : w2 = (.int x2) := Option.some.inj e2
  obtain ⟨ka3, kb3⟩ := and_e kb2
  obtain ⟨x3, e3⟩ := is_v ka3
  obtain rfl : w3 = (.int x3) := Option.some.inj e3
  obtain ⟨ka4, kb4⟩ := and_e kb3
  obtain ⟨x4, e4⟩ := is_v ka4
  obtain rfl : w4 = (.int x4) := Option.some.inj e4
  obtain ⟨x5, e5⟩ := is_v kb4
  obtain rfl : w5 = (.int x5) := Option.some.inj e5
  obtain ⟨hsets, -⟩ := atoms_of _ (rest_1_c_eq ▸ (show rest_1_c.before _ s = true from hrest))
  have n3 := not_v (Cond.before_iff.mp (hsets _ (List.mem_of_getElem? (i := 2) rfl)))
  obtain ⟨z, ez⟩ := is_v (Cond.before_iff.mp (hsets _ (List.mem_of_getElem? (i := 1) rfl)))
  have SS : Sta s s.heap "java/lang/String" "COMPACT_STRINGS" "Z" (.int z) := Sta.start ez (Or.inl (hsets _ (List.mem_of_getElem? (i := 0) rfl)))
  have hz : ¬ (z = (0 : Int32)) := gotF (Cond.eq_ints ez (Term.int_eval (0))) n3
  obtain ⟨pp0, rr0⟩ := and_e hn
  obtain ⟨pp1, rr1⟩ := and_e rr0
  obtain ⟨pp2, rr2⟩ := and_e rr1
  obtain ⟨pp3, rr3⟩ := and_e rr2
  obtain ⟨pp4, rr4⟩ := and_e rr3
  obtain ⟨pp5, rr5⟩ := and_e rr4
  obtain ⟨pp6, rr6⟩ := and_e rr5
  obtain ⟨pp7, rr7⟩ := and_e rr6
  obtain ⟨pp8, rr8⟩ := and_e rr7
  obtain ⟨pp9, rr9⟩ := and_e rr8
  obtain ⟨pp10, rr10⟩ := and_e rr9
  obtain ⟨pp11, rr11⟩ := and_e rr10
  obtain ⟨pp12, rr12⟩ := and_e rr11
  obtain ⟨pp13, rr13⟩ := and_e rr12
  obtain ⟨pp14, rr14⟩ := and_e rr13
  obtain ⟨pp15, rr15⟩ := and_e rr14
  obtain ⟨pp16, rr16⟩ := and_e rr15
  obtain ⟨pp17, rr17⟩ := and_e rr16
  obtain ⟨pp18, rr18⟩ := and_e rr17
  obtain ⟨p0, e_p0⟩ := exa_v pp15
  have n0 : own_En s "com/example/faultgauge/faultgauge/exec/TestResult$Difference" "Lcom/example/faultgauge/faultgauge/exec/TestResult$Difference;" "SAME" 0 p0 := ⟨Sta.start e_p0 (Or.inr ⟨(hw _ (List.mem_of_getElem? (i := 39) rfl)), (hw _ (List.mem_of_getElem? (i := 130) rfl))⟩), Exa.start e_p0 pp15, Fld.start ((fld_at e_p0).symm.trans (eqv_i rfl pp16))⟩
  obtain ⟨p1, e_p1⟩ := exa_v pp11
  have n1 : own_En s "com/example/faultgauge/faultgauge/exec/TestResult$Difference" "Lcom/example/faultgauge/faultgauge/exec/TestResult$Difference;" "OUTPUT" 1 p1 := ⟨Sta.start e_p1 (Or.inr ⟨(hw _ (List.mem_of_getElem? (i := 39) rfl)), (hw _ (List.mem_of_getElem? (i := 118) rfl))⟩), Exa.start e_p1 pp11, Fld.start ((fld_at e_p1).symm.trans (eqv_i rfl pp13))⟩
  obtain ⟨p2, e_p2⟩ := exa_v pp0
  have n2 : own_En s "com/example/faultgauge/faultgauge/exec/TestResult$Difference" "Lcom/example/faultgauge/faultgauge/exec/TestResult$Difference;" "EXIT_STATUS" 2 p2 := ⟨Sta.start e_p2 (Or.inr ⟨(hw _ (List.mem_of_getElem? (i := 39) rfl)), (hw _ (List.mem_of_getElem? (i := 40) rfl))⟩), Exa.start e_p2 pp0, Fld.start ((fld_at e_p2).symm.trans (eqv_i rfl pp5))⟩
  obtain ⟨p3, e_p3⟩ := exa_v pp2
  have n3 : own_En s "com/example/faultgauge/faultgauge/exec/TestResult$Difference" "Lcom/example/faultgauge/faultgauge/exec/TestResult$Difference;" "SIGNAL" 3 p3 := ⟨Sta.start e_p3 (Or.inr ⟨(hw _ (List.mem_of_getElem? (i := 39) rfl)), (hw _ (List.mem_of_getElem? (i := 69) rfl))⟩), Exa.start e_p3 pp2, Fld.start ((fld_at e_p3).symm.trans (eqv_i rfl rr18))⟩
  obtain ⟨p4, e_p4⟩ := exa_v pp6
  have n4 : own_En s "com/example/faultgauge/faultgauge/exec/TestResult$Difference" "Lcom/example/faultgauge/faultgauge/exec/TestResult$Difference;" "TIME_LIMIT" 4 p4 := ⟨Sta.start e_p4 (Or.inr ⟨(hw _ (List.mem_of_getElem? (i := 39) rfl)), (hw _ (List.mem_of_getElem? (i := 109) rfl))⟩), Exa.start e_p4 pp6, Fld.start ((fld_at e_p4).symm.trans (eqv_i rfl pp12))⟩
  obtain ⟨p5, e_p5⟩ := exa_v pp3
  have n5 : own_En s "com/example/faultgauge/faultgauge/exec/TestResult$Difference" "Lcom/example/faultgauge/faultgauge/exec/TestResult$Difference;" "OUTPUT_LIMIT" 5 p5 := ⟨Sta.start e_p5 (Or.inr ⟨(hw _ (List.mem_of_getElem? (i := 39) rfl)), (hw _ (List.mem_of_getElem? (i := 85) rfl))⟩), Exa.start e_p5 pp3, Fld.start ((fld_at e_p5).symm.trans (eqv_i rfl pp4))⟩
  obtain ⟨q0, e_q0⟩ := exa_v pp1
  have m0 : own_En s "com/example/faultgauge/faultgauge/exec/Ending" "Lcom/example/faultgauge/faultgauge/exec/Ending;" "EXIT" 0 q0 := ⟨Sta.start e_q0 (Or.inr ⟨(hw _ (List.mem_of_getElem? (i := 45) rfl)), (hw _ (List.mem_of_getElem? (i := 46) rfl))⟩), Exa.start e_q0 pp1, Fld.start ((fld_at e_q0).symm.trans (eqv_i rfl pp8))⟩
  obtain ⟨q1, e_q1⟩ := exa_v pp14
  have m1 : own_En s "com/example/faultgauge/faultgauge/exec/Ending" "Lcom/example/faultgauge/faultgauge/exec/Ending;" "SIGNAL" 1 q1 := ⟨Sta.start e_q1 (Or.inr ⟨(hw _ (List.mem_of_getElem? (i := 45) rfl)), (hw _ (List.mem_of_getElem? (i := 120) rfl))⟩), Exa.start e_q1 pp14, Fld.start ((fld_at e_q1).symm.trans (eqv_i rfl pp17))⟩
  obtain ⟨q2, e_q2⟩ := exa_v pp10
  have m2 : own_En s "com/example/faultgauge/faultgauge/exec/Ending" "Lcom/example/faultgauge/faultgauge/exec/Ending;" "TIMEOUT" 2 q2 := ⟨Sta.start e_q2 (Or.inr ⟨(hw _ (List.mem_of_getElem? (i := 45) rfl)), (hw _ (List.mem_of_getElem? (i := 116) rfl))⟩), Exa.start e_q2 pp10, Fld.start ((fld_at e_q2).symm.trans (eqv_i rfl pp18))⟩
  obtain ⟨q3, e_q3⟩ := exa_v pp7
  have m3 : own_En s "com/example/faultgauge/faultgauge/exec/Ending" "Lcom/example/faultgauge/faultgauge/exec/Ending;" "OUTPUT_LIMIT" 3 q3 := ⟨Sta.start e_q3 (Or.inr ⟨(hw _ (List.mem_of_getElem? (i := 45) rfl)), (hw _ (List.mem_of_getElem? (i := 114) rfl))⟩), Exa.start e_q3 pp7, Fld.start ((fld_at e_q3).symm.trans (eqv_i rfl pp9))⟩
  have S1 : Sta s s.heap "java/lang/Integer$IntegerCache" "high" "I" (.int (127 : Int32)) := Sta.start (eqv_i rfl (Cond.before_iff.mp (hsets _ (List.mem_of_getElem? (i := 12) rfl)))) (Or.inl (hsets _ (List.mem_of_getElem? (i := 10) rfl)))
  obtain ⟨ca, eca⟩ := arr_v (Cond.before_iff.mp (hsets _ (List.mem_of_getElem? (i := 13) rfl)))
  have S2 : Sta s s.heap "java/lang/Integer$IntegerCache" "cache" "[Ljava/lang/Integer;" (.ref ca) := Sta.start eca (Or.inr ⟨(hw _ (List.mem_of_getElem? (i := 111) rfl)), (hsets _ (List.mem_of_getElem? (i := 11) rfl))⟩)
  obtain ⟨cc, Acc⟩ := Arr.start eca (Cond.before_iff.mp (hsets _ (List.mem_of_getElem? (i := 13) rfl)))
  have el := eqv_i rfl (Cond.before_iff.mp (hsets _ (List.mem_of_getElem? (i := 15) rfl)))
  have esz : cc.slots.size = 256 := own_len256 eca Acc el
  have Ac : Ax s s.heap ca (.object "java/lang/Integer") cc.slots.toList := ⟨cc, Acc, by simp, by simp [esz]⟩
  have hel : own_Ch s cc.slots.toList := own_chs (fun _ => eca) Acc esz (Cond.before_iff.mp (hsets _ (List.mem_of_getElem? (i := 16) rfl)))
  have M := met_of (ws := []) (wsT := tables_1) (as := #[(.int x0), (.int x1), (.int x2), (.int x3), (.int x4), (.int x5)]) (Ls := #[.val (.int x0), .val (.int x1), .val (.int x2), .val (.int x3), .val (.int x4), .val (.int x5), .unset, .unset, .unset, .unset, .unset, .unset, .unset, .unset, .unset, .unset, .unset, .unset, .unset, .unset, .unset, .unset, .unset, .unset, .unset, .unset]) (d := "(IIIIII)Z") pn_0 (by intro m; first | (simp [entryFrame, mkF, argsToLocals, Value.category, maxLocals]; done) | rfl) ⟨Nat.le_refl _, fun _ _ q => q⟩ (fun _ z => nomatch z) l (own_law s _ hw x0 x1 x2 x3 x4 x5 _ _ _ _ rfl (own_r6 _) rfl (own_r4 _) rfl (by rw [i2c_mask]; exact own_b _) rfl (by rw [i2c_mask]; exact own_b _) _ rfl z hz SS ca _ S1 S2 Ac hel p0 n0 p1 n1 p2 n2 p3 n3 p4 n4 p5 n5 q0 m0 q1 m1 q2 m2 q3 m3)
  obtain ⟨n, o, h1, h2, h3, v, L, rfl, ⟨N, -, rfl⟩, hq⟩ := M p e ha hc hk s m _ below hf ((Spec.applies_iff_loose hf).mp happ).1 ⟨rfl, State.Warmed39.refl s, rfl⟩ trivial
  refine ⟨n, _, h1, h2, h3, hpost _ _ _ _ _ _ ⟨Cond.after_iff.mpr rfl, Cond.after_iff.mpr (eq_i res_at (Term.int_eval (1)) rfl), trivial⟩ ⟨hq.1, hq.2.1, (hq.2.2.sift fun y hy => Or.inr (N y hy)).mono (by decide) (by decide)⟩⟩
theorem main_1_1 : Claimed_1_1 := comes_1 fun _ _ _ _ _ _ h hF => ⟨h.1, hF⟩
theorem main_1_2 : Claimed_1_2 := comes_1 fun _ _ _ _ _ _ h hF => ⟨h.2.1, hF⟩
end Jvm.Pilot.@@N@@
namespace Jvm.Pilot.@@N@@
open Jvm Jvm.ClassFile Sem Op Lib Jvm.Free Jvm.Stand Jvm.Pilot.@@N@@.Jvm.D
/-! MADE BY PROGRAM (witnessworld.py) out of the Statement's table words and the real class files: 27 classes; the members and pool entries that the words name. The judged class is class 1, her method 3. -/
namespace start1
open Jvm.ClassFile
def u (s : String) : CpInfo := .utf8 (stringToUtf16 s)
/-- a pool by its gaps: so many unusable entries, then the entry; so many at the end -/
def gap : Nat → List CpInfo → List CpInfo
  | 0, r => r
  | n + 1, r => .unusable :: gap n r
def poolList (es : List (Nat × CpInfo)) (last : Nat) : List CpInfo := es.foldr (fun e r => gap e.1 (e.2 :: r)) (gap last [])
def pool (es : List (Nat × CpInfo)) (last : Nat) : Array CpInfo := ⟨poolList es last⟩
def fileOf (pool : Array CpInfo) (this : Nat) (attrs : Array Attribute := #[]) (ms : Array MethodInfo := #[]) (fl : Nat := 33) (sup : Nat := 0) (ifs : Array Nat := #[]) (fds : Array FieldInfo := #[]) : ClassFile where
  minorVersion := 0
  majorVersion := 65
  constantPool := pool
  accessFlags := fl
  thisClass := this
  superClass := sup
  interfaces := ifs
  fields := fds
  methods := ms
  attributes := attrs
def plain (name : String) (sup : Option ClassId) : Class where
  name := name
  kind := .ordinary
  loader := none
  accessFlags := 33
  super := sup
  interfaces := #[]
  cf := none
  fields := #[]
  methods := #[]
  instanceTypes := #[]
  staticTypes := #[]
  resolved := #[]
  callSites := []
  init := .initialized
  statics := none
  mirror := none

def pool0 : Array CpInfo := pool [(5, u "<init>"), (0, u "()V"), (1, .class_ 10), (1, u "java/lang/Object")] 113

def k0c0 : Code := { maxStack := 0, maxLocals := 1, code := object_method_1_code, exceptionTable := #[], attributes := #[] }
def k0m0 : Method := { name := "<init>", desc := "()V", sig := { parameters := [], returnType := none }, accessFlags := 1, code := some k0c0 }
/-- java/lang/Object -/
def k0 : Class := { plain "java/lang/Object" none with
  accessFlags := 33
  interfaces := #[]
  cf := some (fileOf pool0 8 #[] #[{ accessFlags := 1, nameIndex := 5, descriptorIndex := 6, attributes := #[] }] 33 0 #[] #[])
  fields := #[]
  methods := #[k0m0]
  instanceTypes := #[]
  staticTypes := #[]
  resolved := Array.replicate 124 none
  statics := none }

def pool1 : Array CpInfo := pool [(2, .class_ 4), (1, u "java/lang/Object"), (0, u "<init>"), (0, u "()V"), (0, .fieldref 8 9), (0, .class_ 10), (0, .nameAndType 11 12), (0, u "com/example/faultgauge/faultgauge/exec/TestResult$Difference"), (0, u "SAME"), (0, u "Lcom/example/faultgauge/faultgauge/exec/TestResult$Difference;"), (0, .fieldref 8 14), (0, .nameAndType 15 12), (0, u "OUTPUT"), (0, .fieldref 8 17), (0, .nameAndType 18 12), (0, u "EXIT_STATUS"), (0, .fieldref 8 20), (0, .nameAndType 21 12), (0, u "SIGNAL"), (0, .fieldref 8 23), (0, .nameAndType 24 12), (0, u "TIME_LIMIT"), (0, .fieldref 8 26), (0, .nameAndType 27 12), (0, u "OUTPUT_LIMIT"), (0, .fieldref 29 30), (0, .class_ 31), (0, .nameAndType 32 33), (0, u "com/example/faultgauge/faultgauge/exec/Ending"), (0, u "EXIT"), (0, u "Lcom/example/faultgauge/faultgauge/exec/Ending;"), (0, .fieldref 29 35), (0, .nameAndType 21 33), (0, .fieldref 29 37), (0, .nameAndType 38 33), (0, u "TIMEOUT"), (0, .fieldref 29 40), (0, .nameAndType 27 33), (0, .integer 2147483647), (0, .class_ 43), (0, u "java/lang/String"), (0, .methodref 42 45), (0, .nameAndType 5 46), (0, u "([C)V"), (0, .methodref 42 48), (0, .nameAndType 49 50), (0, u "valueOf"), (0, u "(C)Ljava/lang/String;"), (0, .class_ 52), (0, u "com/example/faultgauge/faultgauge/exec/TestResult"), (0, .methodref 54 55), (0, .class_ 56), (0, .nameAndType 57 58), (0, u "com/example/faultgauge/faultgauge/exec/TestResultEqualsPinLaw"), (0, u "diffOf"), (0, u "(I)Lcom/example/faultgauge/faultgauge/exec/TestResult$Difference;"), (0, .methodref 54 60), (0, .nameAndType 61 62), (0, u "endingOf"), (0, u "(I)Lcom/example/faultgauge/faultgauge/exec/Ending;"), (0, .methodref 51 64), (0, .nameAndType 5 65), (0, u "(ILcom/example/faultgauge/faultgauge/exec/TestResult$Difference;Lcom/example/faultgauge/faultgauge/exec/Ending;ILjava/lang/String;)V"), (0, .methodref 67 68), (0, .class_ 69), (0, .nameAndType 49 70), (0, u "java/lang/Integer"), (0, u "(I)Ljava/lang/Integer;"), (0, .methodref 51 72), (0, .nameAndType 73 74), (0, u "equals"), (0, u "(Ljava/lang/Object;)Z"), (3, u "law"), (0, u "(IIIIII)Z")] 4

def k1m0 : Method := { name := "<init>", desc := "()V", sig := { parameters := [], returnType := none }, accessFlags := 1, code := none }
def k1c1 : Code := { maxStack := 2, maxLocals := 1, code := method_2_code, exceptionTable := #[], attributes := #[] }
def k1m1 : Method := { name := "diffOf", desc := "(I)Lcom/example/faultgauge/faultgauge/exec/TestResult$Difference;", sig := { parameters := [.int], returnType := some (.object "com/example/faultgauge/faultgauge/exec/TestResult$Difference") }, accessFlags := 10, code := some k1c1 }
def k1c2 : Code := { maxStack := 2, maxLocals := 1, code := method_3_code, exceptionTable := #[], attributes := #[] }
def k1m2 : Method := { name := "endingOf", desc := "(I)Lcom/example/faultgauge/faultgauge/exec/Ending;", sig := { parameters := [.int], returnType := some (.object "com/example/faultgauge/faultgauge/exec/Ending") }, accessFlags := 10, code := some k1c2 }
def k1c3 : Code := { maxStack := 7, maxLocals := 26, code := code, exceptionTable := #[], attributes := #[] }
def k1m3 : Method := { name := "law", desc := "(IIIIII)Z", sig := { parameters := [.int, .int, .int, .int, .int, .int], returnType := some .boolean }, accessFlags := 9, code := some k1c3 }
/-- com/example/faultgauge/faultgauge/exec/TestResultEqualsPinLaw -/
def k1 : Class := { plain "com/example/faultgauge/faultgauge/exec/TestResultEqualsPinLaw" (some 0) with
  accessFlags := 49
  interfaces := #[]
  cf := some (fileOf pool1 54 #[] #[{ accessFlags := 1, nameIndex := 5, descriptorIndex := 6, attributes := #[] }, { accessFlags := 10, nameIndex := 57, descriptorIndex := 58, attributes := #[] }, { accessFlags := 10, nameIndex := 61, descriptorIndex := 62, attributes := #[] }, { accessFlags := 9, nameIndex := 78, descriptorIndex := 79, attributes := #[] }] 49 2 #[] #[])
  fields := #[]
  methods := #[k1m0, k1m1, k1m2, k1m3]
  instanceTypes := #[]
  staticTypes := #[]
  resolved := Array.replicate 84 none
  statics := none }

def pool2 : Array CpInfo := pool [(1, .class_ 2), (0, u "java/io/Serializable"), (0, .class_ 4), (0, u "java/lang/Object")] 2

/-- java/io/Serializable -/
def k2 : Class := { plain "java/io/Serializable" (some 0) with
  accessFlags := 1537
  interfaces := #[]
  cf := some (fileOf pool2 1 #[] #[] 1537 3 #[] #[])
  fields := #[]
  methods := #[]
  instanceTypes := #[]
  staticTypes := #[]
  resolved := Array.replicate 7 none
  statics := none }

def pool3 : Array CpInfo := pool [(1, .class_ 2), (0, u "java/lang/Comparable"), (0, .class_ 4), (0, u "java/lang/Object")] 7

/-- java/lang/Comparable -/
def k3 : Class := { plain "java/lang/Comparable" (some 0) with
  accessFlags := 1537
  interfaces := #[]
  cf := some (fileOf pool3 1 #[] #[] 1537 3 #[] #[])
  fields := #[]
  methods := #[]
  instanceTypes := #[]
  staticTypes := #[]
  resolved := Array.replicate 12 none
  statics := none }

def pool4 : Array CpInfo := pool [(2, .class_ 4), (1, u "java/lang/CharSequence"), (42, .class_ 48), (0, u "java/lang/CharSequence$1CodePointIterator"), (10, .class_ 60), (0, u "java/lang/CharSequence$1CharIterator"), (5, .class_ 67), (0, u "java/lang/Object")] 63

/-- java/lang/CharSequence -/
def k4 : Class := { plain "java/lang/CharSequence" (some 0) with
  accessFlags := 1537
  interfaces := #[]
  cf := some (fileOf pool4 2 #[.nestMembers #[47, 59]] #[] 1537 66 #[] #[])
  fields := #[]
  methods := #[]
  instanceTypes := #[]
  staticTypes := #[]
  resolved := Array.replicate 131 none
  statics := none }

def pool5 : Array CpInfo := pool [(1, .class_ 2), (0, u "java/lang/constant/Constable"), (0, .class_ 4), (0, u "java/lang/Object")] 6

/-- java/lang/constant/Constable -/
def k5 : Class := { plain "java/lang/constant/Constable" (some 0) with
  accessFlags := 1537
  interfaces := #[]
  cf := some (fileOf pool5 1 #[] #[] 1537 3 #[] #[])
  fields := #[]
  methods := #[]
  instanceTypes := #[]
  staticTypes := #[]
  resolved := Array.replicate 11 none
  statics := none }

def pool6 : Array CpInfo := pool [(1, .class_ 2), (0, u "java/lang/constant/ConstantDesc"), (0, .class_ 4), (0, u "java/lang/Object")] 32

/-- java/lang/constant/ConstantDesc -/
def k6 : Class := { plain "java/lang/constant/ConstantDesc" (some 0) with
  accessFlags := 1537
  interfaces := #[]
  cf := some (fileOf pool6 1 #[] #[] 1537 3 #[] #[])
  fields := #[]
  methods := #[]
  instanceTypes := #[]
  staticTypes := #[]
  resolved := Array.replicate 37 none
  statics := none }

def pool7 : Array CpInfo := pool [(1, .methodref 2 3), (0, .class_ 4), (0, .nameAndType 5 6), (0, u "java/lang/Object"), (0, u "<init>"), (0, u "()V"), (2, .fieldref 10 11), (0, .class_ 12), (0, .nameAndType 13 14), (0, u "java/lang/String"), (0, u "value"), (0, u "[B"), (0, .fieldref 10 16), (0, .nameAndType 17 18), (0, u "coder"), (0, u "B"), (2, u "hash"), (0, u "I"), (2, u "hashIsZero"), (0, u "Z"), (0, .methodref 10 28), (0, .nameAndType 5 29), (0, u "([CIILjava/lang/Void;)V"), (8, .fieldref 10 39), (0, .nameAndType 40 26), (0, u "COMPACT_STRINGS"), (1, .class_ 44), (1, u "java/lang/StringUTF16"), (0, u "compress"), (1, .methodref 42 48), (0, .nameAndType 49 50), (0, u "coderFromArrayLen"), (0, u "([BI)B"), (2, u "toBytes"), (53, .class_ 109), (1, u "java/lang/StringLatin1"), (67, .methodref 42 178), (0, .nameAndType 45 179), (0, u "([CII)[B"), (29, .methodref 10 210), (0, .nameAndType 5 211), (0, u "([BB)V"), (157, u "(C)Z"), (171, .methodref 107 542), (0, .nameAndType 543 544), (0, u "equals"), (0, u "([B[B)Z"), (28, u "(Ljava/lang/Object;)Z"), (1, .class_ 576), (0, u "java/lang/CharSequence"), (22, u "CASE_INSENSITIVE_ORDER"), (0, u "Ljava/util/Comparator;"), (181, u "valueOf"), (0, u "(C)Ljava/lang/String;"), (226, u "([C)V"), (4, .methodref 107 1016), (0, .nameAndType 1017 369), (0, u "canEncode"), (0, .methodref 107 1019), (0, .nameAndType 53 1020), (0, u "(C)[B"), (80, u "serialPersistentFields"), (0, u "[Ljava/io/ObjectStreamField;"), (0, .class_ 1104), (0, u "java/lang/String$CaseInsensitiveComparator"), (1, .class_ 1107), (0, u "java/io/Serializable"), (0, .class_ 1109), (0, u "java/lang/Comparable"), (0, .class_ 1111), (0, u "java/lang/constant/Constable"), (0, .class_ 1113), (0, u "java/lang/constant/ConstantDesc"), (2, u "serialVersionUID"), (0, u "J"), (3, u "REPL"), (0, u "C"), (2, u "LATIN1"), (1, u "UTF16")] 323

def k7m0 : Method := { name := "<init>", desc := "()V", sig := { parameters := [], returnType := none }, accessFlags := 1, code := none }
def k7c1 : Code := { maxStack := 5, maxLocals := 2, code := jdk_42_method_3_code, exceptionTable := #[], attributes := #[] }
def k7m1 : Method := { name := "<init>", desc := "([C)V", sig := { parameters := [(.array .char)], returnType := none }, accessFlags := 1, code := some k7c1 }
def k7c2 : Code := { maxStack := 2, maxLocals := 3, code := jdk_42_method_66_code, exceptionTable := #[], attributes := #[] }
def k7m2 : Method := { name := "equals", desc := "(Ljava/lang/Object;)Z", sig := { parameters := [(.object "java/lang/Object")], returnType := some .boolean }, accessFlags := 1, code := some k7c2 }
def k7c3 : Code := { maxStack := 4, maxLocals := 1, code := jdk_42_method_139_code, exceptionTable := #[], attributes := #[] }
def k7m3 : Method := { name := "valueOf", desc := "(C)Ljava/lang/String;", sig := { parameters := [.char], returnType := some (.object "java/lang/String") }, accessFlags := 9, code := some k7c3 }
def k7c4 : Code := { maxStack := 4, maxLocals := 6, code := jdk_42_method_149_code, exceptionTable := #[], attributes := #[] }
def k7m4 : Method := { name := "<init>", desc := "([CIILjava/lang/Void;)V", sig := { parameters := [(.array .char), .int, .int, (.object "java/lang/Void")], returnType := none }, accessFlags := 2, code := some k7c4 }
def k7c5 : Code := { maxStack := 2, maxLocals := 3, code := jdk_42_method_151_code, exceptionTable := #[], attributes := #[] }
def k7m5 : Method := { name := "<init>", desc := "([BB)V", sig := { parameters := [(.array .byte), .byte], returnType := none }, accessFlags := 0, code := some k7c5 }
/-- java/lang/String -/
def k7 : Class := { plain "java/lang/String" (some 0) with
  accessFlags := 49
  interfaces := #[2, 3, 4, 5, 6]
  cf := some (fileOf pool7 10 #[.nestMembers #[1103]] #[{ accessFlags := 1, nameIndex := 5, descriptorIndex := 6, attributes := #[] }, { accessFlags := 1, nameIndex := 5, descriptorIndex := 1010, attributes := #[] }, { accessFlags := 1, nameIndex := 543, descriptorIndex := 573, attributes := #[] }, { accessFlags := 9, nameIndex := 782, descriptorIndex := 783, attributes := #[] }, { accessFlags := 2, nameIndex := 5, descriptorIndex := 29, attributes := #[] }, { accessFlags := 0, nameIndex := 5, descriptorIndex := 211, attributes := #[] }] 49 2 #[1106, 1108, 575, 1110, 1112] #[{ accessFlags := 18, nameIndex := 13, descriptorIndex := 14, attributes := #[] }, { accessFlags := 18, nameIndex := 17, descriptorIndex := 18, attributes := #[] }, { accessFlags := 2, nameIndex := 21, descriptorIndex := 22, attributes := #[] }, { accessFlags := 2, nameIndex := 25, descriptorIndex := 26, attributes := #[] }, { accessFlags := 26, nameIndex := 1116, descriptorIndex := 1117, attributes := #[] }, { accessFlags := 24, nameIndex := 40, descriptorIndex := 26, attributes := #[] }, { accessFlags := 26, nameIndex := 1101, descriptorIndex := 1102, attributes := #[] }, { accessFlags := 26, nameIndex := 1121, descriptorIndex := 1122, attributes := #[] }, { accessFlags := 25, nameIndex := 599, descriptorIndex := 600, attributes := #[] }, { accessFlags := 24, nameIndex := 1125, descriptorIndex := 18, attributes := #[] }, { accessFlags := 24, nameIndex := 1127, descriptorIndex := 18, attributes := #[] }])
  fields := #[{ name := "value", type := (.array .byte), accessFlags := 18, slot := 0, constantValue := 0 }, { name := "coder", type := .byte, accessFlags := 18, slot := 1, constantValue := 0 }, { name := "hash", type := .int, accessFlags := 2, slot := 2, constantValue := 0 }, { name := "hashIsZero", type := .boolean, accessFlags := 2, slot := 3, constantValue := 0 }, { name := "serialVersionUID", type := .long, accessFlags := 26, slot := 0, constantValue := 0 }, { name := "COMPACT_STRINGS", type := .boolean, accessFlags := 24, slot := 1, constantValue := 0 }, { name := "serialPersistentFields", type := (.array (.object "java/io/ObjectStreamField")), accessFlags := 26, slot := 2, constantValue := 0 }, { name := "REPL", type := .char, accessFlags := 26, slot := 3, constantValue := 0 }, { name := "CASE_INSENSITIVE_ORDER", type := (.object "java/util/Comparator"), accessFlags := 25, slot := 4, constantValue := 0 }, { name := "LATIN1", type := .byte, accessFlags := 24, slot := 5, constantValue := 0 }, { name := "UTF16", type := .byte, accessFlags := 24, slot := 6, constantValue := 0 }]
  methods := #[k7m0, k7m1, k7m2, k7m3, k7m4, k7m5]
  instanceTypes := #[(.array .byte), .byte, .int, .boolean]
  staticTypes := #[.long, .boolean, (.array (.object "java/io/ObjectStreamField")), .char, (.object "java/util/Comparator"), .byte, .byte]
  resolved := Array.replicate 1451 none
  statics := some 0 }

def pool8 : Array CpInfo := pool [(6, .class_ 8), (1, u "java/lang/Object"), (0, u "<init>"), (0, u "()V"), (1, .class_ 14), (1, u "java/lang/StringUTF16"), (31, u "$assertionsDisabled"), (0, u "Z"), (13, u "HI_BYTE_SHIFT"), (0, u "I"), (2, u "LO_BYTE_SHIFT"), (49, .methodref 12 116), (0, .nameAndType 117 118), (0, u "compress"), (0, u "([CI[BII)I"), (3, u "([CII)[B"), (138, u "coderFromArrayLen"), (0, u "([BI)B"), (106, .class_ 371), (1, u "java/lang/StringUTF16$LinesSpliterator"), (58, u "MAX_LENGTH"), (196, .class_ 628), (0, u "java/lang/StringUTF16$CodePointsSpliterator"), (0, .class_ 630), (0, u "java/lang/StringUTF16$CharsSpliterator")] 4

def k8m0 : Method := { name := "<init>", desc := "()V", sig := { parameters := [], returnType := none }, accessFlags := 0, code := none }
def k8c1 : Code := { maxStack := 2, maxLocals := 2, code := jdk_52_method_15_code, exceptionTable := #[], attributes := #[] }
def k8m1 : Method := { name := "coderFromArrayLen", desc := "([BI)B", sig := { parameters := [(.array .byte), .int], returnType := some .byte }, accessFlags := 8, code := some k8c1 }
def k8c2 : Code := { maxStack := 5, maxLocals := 6, code := jdk_52_method_16_code, exceptionTable := #[], attributes := #[] }
def k8m2 : Method := { name := "compress", desc := "([CII)[B", sig := { parameters := [(.array .char), .int, .int], returnType := some (.array .byte) }, accessFlags := 9, code := some k8c2 }
def k8c3 : Code := { maxStack := 3, maxLocals := 7, code := jdk_52_method_21_code, exceptionTable := #[], attributes := #[] }
def k8m3 : Method := { name := "compress", desc := "([CI[BII)I", sig := { parameters := [(.array .char), .int, (.array .byte), .int, .int], returnType := some .int }, accessFlags := 9, code := some k8c3 }
/-- java/lang/StringUTF16 -/
def k8 : Class := { plain "java/lang/StringUTF16" (some 0) with
  accessFlags := 48
  interfaces := #[]
  cf := some (fileOf pool8 12 #[.nestMembers #[627, 629, 369]] #[{ accessFlags := 0, nameIndex := 9, descriptorIndex := 10, attributes := #[] }, { accessFlags := 8, nameIndex := 261, descriptorIndex := 262, attributes := #[] }, { accessFlags := 9, nameIndex := 117, descriptorIndex := 122, attributes := #[] }, { accessFlags := 9, nameIndex := 117, descriptorIndex := 118, attributes := #[] }] 48 6 #[] #[{ accessFlags := 26, nameIndex := 61, descriptorIndex := 62, attributes := #[] }, { accessFlags := 26, nameIndex := 65, descriptorIndex := 62, attributes := #[] }, { accessFlags := 24, nameIndex := 430, descriptorIndex := 62, attributes := #[] }, { accessFlags := 4120, nameIndex := 46, descriptorIndex := 47, attributes := #[] }])
  fields := #[{ name := "HI_BYTE_SHIFT", type := .int, accessFlags := 26, slot := 0, constantValue := 0 }, { name := "LO_BYTE_SHIFT", type := .int, accessFlags := 26, slot := 1, constantValue := 0 }, { name := "MAX_LENGTH", type := .int, accessFlags := 24, slot := 2, constantValue := 0 }, { name := "$assertionsDisabled", type := .boolean, accessFlags := 4120, slot := 3, constantValue := 0 }]
  methods := #[k8m0, k8m1, k8m2, k8m3]
  instanceTypes := #[]
  staticTypes := #[.int, .int, .int, .boolean]
  resolved := Array.replicate 635 none
  statics := none }

def pool9 : Array CpInfo := pool [(1, .methodref 2 3), (0, .class_ 4), (0, .nameAndType 5 6), (0, u "java/lang/Object"), (0, u "<init>"), (0, u "()V"), (0, .fieldref 8 9), (0, .class_ 10), (0, .nameAndType 11 12), (0, u "com/example/faultgauge/faultgauge/exec/TestResult"), (0, u "line"), (0, u "I"), (0, .fieldref 8 14), (0, .nameAndType 15 16), (0, u "difference"), (0, u "Lcom/example/faultgauge/faultgauge/exec/TestResult$Difference;"), (0, .fieldref 8 18), (0, .nameAndType 19 20), (0, u "ending"), (0, u "Lcom/example/faultgauge/faultgauge/exec/Ending;"), (0, .fieldref 8 22), (0, .nameAndType 23 12), (0, u "code"), (0, .fieldref 8 25), (0, .nameAndType 26 27), (0, u "outputDigest"), (0, u "Ljava/lang/String;"), (11, .class_ 41), (1, u "com/example/faultgauge/faultgauge/exec/TestResult$Difference"), (10, .nameAndType 53 54), (0, u "equals"), (0, u "(Ljava/lang/Object;)Z"), (21, u "(ILcom/example/faultgauge/faultgauge/exec/TestResult$Difference;Lcom/example/faultgauge/faultgauge/exec/Ending;ILjava/lang/String;)V"), (0, .methodref 78 52), (0, .class_ 79), (0, u "java/lang/String")] 26

def k9c0 : Code := { maxStack := 2, maxLocals := 6, code := prog_53_method_1_code, exceptionTable := #[], attributes := #[] }
def k9m0 : Method := { name := "<init>", desc := "(ILcom/example/faultgauge/faultgauge/exec/TestResult$Difference;Lcom/example/faultgauge/faultgauge/exec/Ending;ILjava/lang/String;)V", sig := { parameters := [.int, (.object "com/example/faultgauge/faultgauge/exec/TestResult$Difference"), (.object "com/example/faultgauge/faultgauge/exec/Ending"), .int, (.object "java/lang/String")], returnType := none }, accessFlags := 0, code := some k9c0 }
def k9c1 : Code := { maxStack := 2, maxLocals := 3, code := prog_53_method_9_code, exceptionTable := #[], attributes := #[] }
def k9m1 : Method := { name := "equals", desc := "(Ljava/lang/Object;)Z", sig := { parameters := [(.object "java/lang/Object")], returnType := some .boolean }, accessFlags := 1, code := some k9c1 }
/-- com/example/faultgauge/faultgauge/exec/TestResult -/
def k9 : Class := { plain "com/example/faultgauge/faultgauge/exec/TestResult" (some 0) with
  accessFlags := 49
  interfaces := #[]
  cf := some (fileOf pool9 8 #[.nestMembers #[39]] #[{ accessFlags := 0, nameIndex := 5, descriptorIndex := 76, attributes := #[] }, { accessFlags := 1, nameIndex := 53, descriptorIndex := 54, attributes := #[] }] 49 2 #[] #[{ accessFlags := 18, nameIndex := 11, descriptorIndex := 12, attributes := #[] }, { accessFlags := 18, nameIndex := 15, descriptorIndex := 16, attributes := #[] }, { accessFlags := 18, nameIndex := 19, descriptorIndex := 20, attributes := #[] }, { accessFlags := 18, nameIndex := 23, descriptorIndex := 12, attributes := #[] }, { accessFlags := 18, nameIndex := 26, descriptorIndex := 27, attributes := #[] }])
  fields := #[{ name := "line", type := .int, accessFlags := 18, slot := 0, constantValue := 0 }, { name := "difference", type := (.object "com/example/faultgauge/faultgauge/exec/TestResult$Difference"), accessFlags := 18, slot := 1, constantValue := 0 }, { name := "ending", type := (.object "com/example/faultgauge/faultgauge/exec/Ending"), accessFlags := 18, slot := 2, constantValue := 0 }, { name := "code", type := .int, accessFlags := 18, slot := 3, constantValue := 0 }, { name := "outputDigest", type := (.object "java/lang/String"), accessFlags := 18, slot := 4, constantValue := 0 }]
  methods := #[k9m0, k9m1]
  instanceTypes := #[.int, (.object "com/example/faultgauge/faultgauge/exec/TestResult$Difference"), (.object "com/example/faultgauge/faultgauge/exec/Ending"), .int, (.object "java/lang/String")]
  staticTypes := #[]
  resolved := Array.replicate 106 none
  statics := none }

def pool10 : Array CpInfo := pool [(2, .class_ 4), (1, u "java/lang/Enum"), (0, u "name"), (0, u "Ljava/lang/String;"), (2, u "ordinal"), (0, u "I"), (1, .class_ 14), (1, u "java/lang/Object"), (4, u "hash"), (86, .class_ 108), (1, u "java/lang/Enum$EnumDesc"), (2, .class_ 112), (0, u "java/lang/constant/Constable"), (0, .class_ 114), (0, u "java/lang/Comparable"), (0, .class_ 116), (0, u "java/io/Serializable")] 87

/-- java/lang/Enum -/
def k10 : Class := { plain "java/lang/Enum" (some 0) with
  accessFlags := 1057
  interfaces := #[5, 3, 2]
  cf := some (fileOf pool10 2 #[.nestMembers #[106]] #[] 1057 12 #[111, 113, 115] #[{ accessFlags := 18, nameIndex := 5, descriptorIndex := 6, attributes := #[] }, { accessFlags := 18, nameIndex := 9, descriptorIndex := 10, attributes := #[] }, { accessFlags := 2, nameIndex := 19, descriptorIndex := 10, attributes := #[] }])
  fields := #[{ name := "name", type := (.object "java/lang/String"), accessFlags := 18, slot := 0, constantValue := 0 }, { name := "ordinal", type := .int, accessFlags := 18, slot := 1, constantValue := 0 }, { name := "hash", type := .int, accessFlags := 2, slot := 2, constantValue := 0 }]
  methods := #[]
  instanceTypes := #[(.object "java/lang/String"), .int, .int]
  staticTypes := #[]
  resolved := Array.replicate 204 none
  statics := none }

def pool11 : Array CpInfo := pool [(1, .class_ 2), (0, u "com/example/faultgauge/faultgauge/exec/TestResult$Difference"), (2, u "SAME"), (0, u "Lcom/example/faultgauge/faultgauge/exec/TestResult$Difference;"), (2, u "OUTPUT"), (2, u "EXIT_STATUS"), (2, u "SIGNAL"), (2, u "TIME_LIMIT"), (2, u "OUTPUT_LIMIT"), (2, u "$VALUES"), (0, u "[Lcom/example/faultgauge/faultgauge/exec/TestResult$Difference;"), (6, .class_ 34), (1, u "java/lang/Enum"), (29, .class_ 65), (0, u "com/example/faultgauge/faultgauge/exec/TestResult")] 2

/-- com/example/faultgauge/faultgauge/exec/TestResult$Difference -/
def k11 : Class := { plain "com/example/faultgauge/faultgauge/exec/TestResult$Difference" (some 10) with
  accessFlags := 16433
  interfaces := #[]
  cf := some (fileOf pool11 1 #[.nestHost 64] #[] 16433 32 #[] #[{ accessFlags := 16409, nameIndex := 5, descriptorIndex := 6, attributes := #[] }, { accessFlags := 16409, nameIndex := 9, descriptorIndex := 6, attributes := #[] }, { accessFlags := 16409, nameIndex := 12, descriptorIndex := 6, attributes := #[] }, { accessFlags := 16409, nameIndex := 15, descriptorIndex := 6, attributes := #[] }, { accessFlags := 16409, nameIndex := 18, descriptorIndex := 6, attributes := #[] }, { accessFlags := 16409, nameIndex := 21, descriptorIndex := 6, attributes := #[] }, { accessFlags := 4122, nameIndex := 24, descriptorIndex := 25, attributes := #[] }])
  fields := #[{ name := "SAME", type := (.object "com/example/faultgauge/faultgauge/exec/TestResult$Difference"), accessFlags := 16409, slot := 0, constantValue := 0 }, { name := "OUTPUT", type := (.object "com/example/faultgauge/faultgauge/exec/TestResult$Difference"), accessFlags := 16409, slot := 1, constantValue := 0 }, { name := "EXIT_STATUS", type := (.object "com/example/faultgauge/faultgauge/exec/TestResult$Difference"), accessFlags := 16409, slot := 2, constantValue := 0 }, { name := "SIGNAL", type := (.object "com/example/faultgauge/faultgauge/exec/TestResult$Difference"), accessFlags := 16409, slot := 3, constantValue := 0 }, { name := "TIME_LIMIT", type := (.object "com/example/faultgauge/faultgauge/exec/TestResult$Difference"), accessFlags := 16409, slot := 4, constantValue := 0 }, { name := "OUTPUT_LIMIT", type := (.object "com/example/faultgauge/faultgauge/exec/TestResult$Difference"), accessFlags := 16409, slot := 5, constantValue := 0 }, { name := "$VALUES", type := (.array (.object "com/example/faultgauge/faultgauge/exec/TestResult$Difference")), accessFlags := 4122, slot := 6, constantValue := 0 }]
  methods := #[]
  instanceTypes := #[(.object "java/lang/String"), .int, .int]
  staticTypes := #[(.object "com/example/faultgauge/faultgauge/exec/TestResult$Difference"), (.object "com/example/faultgauge/faultgauge/exec/TestResult$Difference"), (.object "com/example/faultgauge/faultgauge/exec/TestResult$Difference"), (.object "com/example/faultgauge/faultgauge/exec/TestResult$Difference"), (.object "com/example/faultgauge/faultgauge/exec/TestResult$Difference"), (.object "com/example/faultgauge/faultgauge/exec/TestResult$Difference"), (.array (.object "com/example/faultgauge/faultgauge/exec/TestResult$Difference"))]
  resolved := Array.replicate 68 none
  statics := some 1 }

def pool12 : Array CpInfo := pool [(1, .class_ 2), (0, u "com/example/faultgauge/faultgauge/exec/Ending"), (2, u "EXIT"), (0, u "Lcom/example/faultgauge/faultgauge/exec/Ending;"), (2, u "SIGNAL"), (2, u "TIMEOUT"), (2, u "OUTPUT_LIMIT"), (2, u "$VALUES"), (0, u "[Lcom/example/faultgauge/faultgauge/exec/Ending;"), (6, .class_ 28), (1, u "java/lang/Enum")] 47

/-- com/example/faultgauge/faultgauge/exec/Ending -/
def k12 : Class := { plain "com/example/faultgauge/faultgauge/exec/Ending" (some 10) with
  accessFlags := 16433
  interfaces := #[]
  cf := some (fileOf pool12 1 #[] #[] 16433 26 #[] #[{ accessFlags := 16409, nameIndex := 5, descriptorIndex := 6, attributes := #[] }, { accessFlags := 16409, nameIndex := 9, descriptorIndex := 6, attributes := #[] }, { accessFlags := 16409, nameIndex := 12, descriptorIndex := 6, attributes := #[] }, { accessFlags := 16409, nameIndex := 15, descriptorIndex := 6, attributes := #[] }, { accessFlags := 4122, nameIndex := 18, descriptorIndex := 19, attributes := #[] }])
  fields := #[{ name := "EXIT", type := (.object "com/example/faultgauge/faultgauge/exec/Ending"), accessFlags := 16409, slot := 0, constantValue := 0 }, { name := "SIGNAL", type := (.object "com/example/faultgauge/faultgauge/exec/Ending"), accessFlags := 16409, slot := 1, constantValue := 0 }, { name := "TIMEOUT", type := (.object "com/example/faultgauge/faultgauge/exec/Ending"), accessFlags := 16409, slot := 2, constantValue := 0 }, { name := "OUTPUT_LIMIT", type := (.object "com/example/faultgauge/faultgauge/exec/Ending"), accessFlags := 16409, slot := 3, constantValue := 0 }, { name := "$VALUES", type := (.array (.object "com/example/faultgauge/faultgauge/exec/Ending")), accessFlags := 4122, slot := 4, constantValue := 0 }]
  methods := #[]
  instanceTypes := #[(.object "java/lang/String"), .int, .int]
  staticTypes := #[(.object "com/example/faultgauge/faultgauge/exec/Ending"), (.object "com/example/faultgauge/faultgauge/exec/Ending"), (.object "com/example/faultgauge/faultgauge/exec/Ending"), (.object "com/example/faultgauge/faultgauge/exec/Ending"), (.array (.object "com/example/faultgauge/faultgauge/exec/Ending"))]
  resolved := Array.replicate 76 none
  statics := some 2 }

def pool13 : Array CpInfo := pool [(4, .class_ 6), (1, u "java/lang/Object"), (0, u "<init>"), (0, u "()V"), (5, .class_ 16), (1, u "java/lang/StringLatin1"), (73, u "canEncode"), (14, u "(C)Z"), (15, u "$assertionsDisabled"), (0, u "Z"), (98, .class_ 223), (1, u "java/lang/StringLatin1$LinesSpliterator"), (57, u "equals"), (0, u "([B[B)Z"), (97, u "toBytes"), (1, u "(C)[B"), (7, .class_ 391), (0, u "java/lang/StringLatin1$CharsSpliterator")] 3

def k13m0 : Method := { name := "<init>", desc := "()V", sig := { parameters := [], returnType := none }, accessFlags := 0, code := none }
def k13c1 : Code := { maxStack := 2, maxLocals := 1, code := jdk_43_method_3_code, exceptionTable := #[], attributes := #[] }
def k13m1 : Method := { name := "canEncode", desc := "(C)Z", sig := { parameters := [.char], returnType := some .boolean }, accessFlags := 9, code := some k13c1 }
def k13c2 : Code := { maxStack := 3, maxLocals := 3, code := jdk_43_method_13_code, exceptionTable := #[], attributes := #[] }
def k13m2 : Method := { name := "equals", desc := "([B[B)Z", sig := { parameters := [(.array .byte), (.array .byte)], returnType := some .boolean }, accessFlags := 9, code := some k13c2 }
def k13c3 : Code := { maxStack := 4, maxLocals := 1, code := jdk_43_method_46_code, exceptionTable := #[], attributes := #[] }
def k13m3 : Method := { name := "toBytes", desc := "(C)[B", sig := { parameters := [.char], returnType := some (.array .byte) }, accessFlags := 9, code := some k13c3 }
/-- java/lang/StringLatin1 -/
def k13 : Class := { plain "java/lang/StringLatin1" (some 0) with
  accessFlags := 48
  interfaces := #[]
  cf := some (fileOf pool13 14 #[.nestMembers #[390, 221]] #[{ accessFlags := 0, nameIndex := 7, descriptorIndex := 8, attributes := #[] }, { accessFlags := 9, nameIndex := 90, descriptorIndex := 105, attributes := #[] }, { accessFlags := 9, nameIndex := 281, descriptorIndex := 282, attributes := #[] }, { accessFlags := 9, nameIndex := 380, descriptorIndex := 382, attributes := #[] }] 48 4 #[] #[{ accessFlags := 4120, nameIndex := 121, descriptorIndex := 122, attributes := #[] }])
  fields := #[{ name := "$assertionsDisabled", type := .boolean, accessFlags := 4120, slot := 0, constantValue := 0 }]
  methods := #[k13m0, k13m1, k13m2, k13m3]
  instanceTypes := #[]
  staticTypes := #[.boolean]
  resolved := Array.replicate 395 none
  statics := none }

def pool14 : Array CpInfo := pool [(1, .methodref 2 3), (0, .class_ 4), (0, .nameAndType 5 6), (0, u "java/lang/Object"), (0, u "<init>"), (0, u "()V"), (1, .class_ 10), (1, u "java/lang/Number"), (2, .class_ 14), (0, u "java/io/Serializable"), (0, u "serialVersionUID"), (0, u "J")] 20

def k14c0 : Code := { maxStack := 1, maxLocals := 1, code := jdk_18_method_1_code, exceptionTable := #[], attributes := #[] }
def k14m0 : Method := { name := "<init>", desc := "()V", sig := { parameters := [], returnType := none }, accessFlags := 1, code := some k14c0 }
/-- java/lang/Number -/
def k14 : Class := { plain "java/lang/Number" (some 0) with
  accessFlags := 1057
  interfaces := #[2]
  cf := some (fileOf pool14 8 #[] #[{ accessFlags := 1, nameIndex := 5, descriptorIndex := 6, attributes := #[] }] 1057 2 #[13] #[{ accessFlags := 26, nameIndex := 15, descriptorIndex := 16, attributes := #[] }])
  fields := #[{ name := "serialVersionUID", type := .long, accessFlags := 26, slot := 0, constantValue := 0 }]
  methods := #[k14m0]
  instanceTypes := #[]
  staticTypes := #[.long]
  resolved := Array.replicate 37 none
  statics := none }

def pool15 : Array CpInfo := pool [(1, .class_ 2), (0, u "java/lang/Integer"), (16, u "digits"), (0, u "[C"), (46, u "<init>"), (17, u "DigitOnes"), (0, u "[B"), (2, u "DigitTens"), (10, .nameAndType 67 101), (0, u "()V"), (85, u "valueOf"), (0, u "(I)Ljava/lang/Integer;"), (0, .class_ 190), (0, u "java/lang/Integer$IntegerCache"), (0, .fieldref 189 192), (0, .nameAndType 193 194), (0, u "high"), (0, u "I"), (0, .fieldref 189 196), (0, .nameAndType 197 198), (0, u "cache"), (0, u "[Ljava/lang/Integer;"), (0, .methodref 1 200), (0, .nameAndType 67 201), (0, u "(I)V"), (0, .methodref 203 100), (0, .class_ 204), (0, u "java/lang/Number"), (0, .fieldref 1 206), (0, .nameAndType 207 194), (0, u "value"), (94, u "TYPE"), (0, u "Ljava/lang/Class;"), (0, .class_ 305), (0, u "java/lang/Comparable"), (0, .class_ 307), (0, u "java/lang/constant/Constable"), (0, .class_ 309), (0, u "java/lang/constant/ConstantDesc"), (0, u "MIN_VALUE"), (1, u "MAX_VALUE"), (3, u "SIZE"), (1, u "BYTES"), (1, u "serialVersionUID"), (0, u "J")] 131

def k15c0 : Code := { maxStack := 3, maxLocals := 1, code := jdk_33_method_22_code, exceptionTable := #[], attributes := #[] }
def k15m0 : Method := { name := "valueOf", desc := "(I)Ljava/lang/Integer;", sig := { parameters := [.int], returnType := some (.object "java/lang/Integer") }, accessFlags := 9, code := some k15c0 }
def k15c1 : Code := { maxStack := 2, maxLocals := 2, code := jdk_33_method_23_code, exceptionTable := #[], attributes := #[] }
def k15m1 : Method := { name := "<init>", desc := "(I)V", sig := { parameters := [.int], returnType := none }, accessFlags := 1, code := some k15c1 }
/-- java/lang/Integer -/
def k15 : Class := { plain "java/lang/Integer" (some 14) with
  accessFlags := 49
  interfaces := #[3, 5, 6]
  cf := some (fileOf pool15 1 #[.nestMembers #[189]] #[{ accessFlags := 9, nameIndex := 187, descriptorIndex := 188, attributes := #[] }, { accessFlags := 1, nameIndex := 67, descriptorIndex := 201, attributes := #[] }] 49 203 #[304, 306, 308] #[{ accessFlags := 25, nameIndex := 310, descriptorIndex := 194, attributes := #[] }, { accessFlags := 25, nameIndex := 312, descriptorIndex := 194, attributes := #[] }, { accessFlags := 25, nameIndex := 302, descriptorIndex := 303, attributes := #[] }, { accessFlags := 24, nameIndex := 19, descriptorIndex := 20, attributes := #[] }, { accessFlags := 24, nameIndex := 89, descriptorIndex := 86, attributes := #[] }, { accessFlags := 24, nameIndex := 85, descriptorIndex := 86, attributes := #[] }, { accessFlags := 18, nameIndex := 207, descriptorIndex := 194, attributes := #[] }, { accessFlags := 25, nameIndex := 316, descriptorIndex := 194, attributes := #[] }, { accessFlags := 25, nameIndex := 318, descriptorIndex := 194, attributes := #[] }, { accessFlags := 26, nameIndex := 320, descriptorIndex := 321, attributes := #[] }])
  fields := #[{ name := "MIN_VALUE", type := .int, accessFlags := 25, slot := 0, constantValue := 0 }, { name := "MAX_VALUE", type := .int, accessFlags := 25, slot := 1, constantValue := 0 }, { name := "TYPE", type := (.object "java/lang/Class"), accessFlags := 25, slot := 2, constantValue := 0 }, { name := "digits", type := (.array .char), accessFlags := 24, slot := 3, constantValue := 0 }, { name := "DigitTens", type := (.array .byte), accessFlags := 24, slot := 4, constantValue := 0 }, { name := "DigitOnes", type := (.array .byte), accessFlags := 24, slot := 5, constantValue := 0 }, { name := "value", type := .int, accessFlags := 18, slot := 0, constantValue := 0 }, { name := "SIZE", type := .int, accessFlags := 25, slot := 6, constantValue := 0 }, { name := "BYTES", type := .int, accessFlags := 25, slot := 7, constantValue := 0 }, { name := "serialVersionUID", type := .long, accessFlags := 26, slot := 8, constantValue := 0 }]
  methods := #[k15m0, k15m1]
  instanceTypes := #[.int]
  staticTypes := #[.int, .int, (.object "java/lang/Class"), (.array .char), (.array .byte), (.array .byte), .int, .int, .long]
  resolved := Array.replicate 453 none
  statics := none }

def pool16 : Array CpInfo := pool [(2, .class_ 4), (1, u "java/lang/Object"), (0, u "<init>"), (0, u "()V"), (0, .class_ 8), (0, u "java/lang/Integer"), (7, .class_ 18), (1, u "java/lang/Integer$IntegerCache"), (0, u "$assertionsDisabled"), (0, u "Z"), (26, u "high"), (0, u "I"), (8, u "archivedCache"), (0, u "[Ljava/lang/Integer;"), (12, u "cache"), (0, u "low")] 27

def k16m0 : Method := { name := "<init>", desc := "()V", sig := { parameters := [], returnType := none }, accessFlags := 2, code := none }
/-- java/lang/Integer$IntegerCache -/
def k16 : Class := { plain "java/lang/Integer$IntegerCache" (some 0) with
  accessFlags := 48
  interfaces := #[]
  cf := some (fileOf pool16 16 #[.nestHost 7] #[{ accessFlags := 2, nameIndex := 5, descriptorIndex := 6, attributes := #[] }] 48 2 #[] #[{ accessFlags := 24, nameIndex := 72, descriptorIndex := 48, attributes := #[] }, { accessFlags := 24, nameIndex := 47, descriptorIndex := 48, attributes := #[] }, { accessFlags := 24, nameIndex := 71, descriptorIndex := 58, attributes := #[] }, { accessFlags := 8, nameIndex := 57, descriptorIndex := 58, attributes := #[] }, { accessFlags := 4120, nameIndex := 19, descriptorIndex := 20, attributes := #[] }])
  fields := #[{ name := "low", type := .int, accessFlags := 24, slot := 0, constantValue := 0 }, { name := "high", type := .int, accessFlags := 24, slot := 1, constantValue := 0 }, { name := "cache", type := (.array (.object "java/lang/Integer")), accessFlags := 24, slot := 2, constantValue := 0 }, { name := "archivedCache", type := (.array (.object "java/lang/Integer")), accessFlags := 8, slot := 3, constantValue := 0 }, { name := "$assertionsDisabled", type := .boolean, accessFlags := 4120, slot := 4, constantValue := 0 }]
  methods := #[k16m0]
  instanceTypes := #[]
  staticTypes := #[.int, .int, (.array (.object "java/lang/Integer")), (.array (.object "java/lang/Integer")), .boolean]
  resolved := Array.replicate 100 none
  statics := some 3 }

def pool17 : Array CpInfo := pool [(2, .class_ 4), (1, u "java/lang/Object"), (0, u "<init>"), (0, u "()V"), (17, .class_ 26), (1, u "jdk/internal/util/Preconditions"), (28, .class_ 56), (0, u "jdk/internal/util/Preconditions$4"), (57, .class_ 115), (0, u "jdk/internal/util/Preconditions$1"), (7, u "SIOOBE_FORMATTER"), (0, u "Ljava/util/function/BiFunction;"), (0, .class_ 126), (0, u "jdk/internal/util/Preconditions$2"), (3, u "AIOOBE_FORMATTER"), (0, .class_ 132), (0, u "jdk/internal/util/Preconditions$3"), (3, u "IOOBE_FORMATTER")] 57

def k17m0 : Method := { name := "<init>", desc := "()V", sig := { parameters := [], returnType := none }, accessFlags := 1, code := none }
/-- jdk/internal/util/Preconditions -/
def k17 : Class := { plain "jdk/internal/util/Preconditions" (some 0) with
  accessFlags := 33
  interfaces := #[]
  cf := some (fileOf pool17 24 #[.nestMembers #[55, 131, 125, 114]] #[{ accessFlags := 1, nameIndex := 5, descriptorIndex := 6, attributes := #[] }] 33 2 #[] #[{ accessFlags := 25, nameIndex := 123, descriptorIndex := 124, attributes := #[] }, { accessFlags := 25, nameIndex := 130, descriptorIndex := 124, attributes := #[] }, { accessFlags := 25, nameIndex := 136, descriptorIndex := 124, attributes := #[] }])
  fields := #[{ name := "SIOOBE_FORMATTER", type := (.object "java/util/function/BiFunction"), accessFlags := 25, slot := 0, constantValue := 0 }, { name := "AIOOBE_FORMATTER", type := (.object "java/util/function/BiFunction"), accessFlags := 25, slot := 1, constantValue := 0 }, { name := "IOOBE_FORMATTER", type := (.object "java/util/function/BiFunction"), accessFlags := 25, slot := 2, constantValue := 0 }]
  methods := #[k17m0]
  instanceTypes := #[]
  staticTypes := #[(.object "java/util/function/BiFunction"), (.object "java/util/function/BiFunction"), (.object "java/util/function/BiFunction")]
  resolved := Array.replicate 194 none
  statics := some 4 }

def pool18 : Array CpInfo := pool [(9, u "<init>"), (6, .class_ 18), (1, u "java/lang/Object"), (0, u "()V"), (1, .class_ 23), (1, u "jdk/internal/util/ArraysSupport"), (0, u "LOG2_ARRAY_LONG_INDEX_SCALE"), (0, u "I"), (2, u "U"), (0, u "Ljdk/internal/misc/Unsafe;"), (8, u "BIG_ENDIAN"), (0, u "Z"), (8, u "LOG2_BYTE_BIT_SIZE"), (4, u "LOG2_ARRAY_INT_INDEX_SCALE"), (54, u "JLA"), (0, u "Ljdk/internal/access/JavaLangAccess;"), (11, u "LOG2_ARRAY_BOOLEAN_INDEX_SCALE"), (9, u "LOG2_ARRAY_BYTE_INDEX_SCALE"), (5, u "LOG2_ARRAY_CHAR_INDEX_SCALE"), (5, u "LOG2_ARRAY_SHORT_INDEX_SCALE"), (18, u "LOG2_ARRAY_FLOAT_INDEX_SCALE"), (24, u "LOG2_ARRAY_DOUBLE_INDEX_SCALE"), (89, u "T_BOOLEAN"), (2, u "T_CHAR"), (1, u "T_FLOAT"), (1, u "T_DOUBLE"), (1, u "T_BYTE"), (1, u "T_SHORT"), (1, u "T_INT"), (1, u "T_LONG"), (1, u "SOFT_MAX_ARRAY_LENGTH")] 83

def k18m0 : Method := { name := "<init>", desc := "()V", sig := { parameters := [], returnType := none }, accessFlags := 2, code := none }
/-- jdk/internal/util/ArraysSupport -/
def k18 : Class := { plain "jdk/internal/util/ArraysSupport" (some 0) with
  accessFlags := 33
  interfaces := #[]
  cf := some (fileOf pool18 21 #[] #[{ accessFlags := 2, nameIndex := 9, descriptorIndex := 19, attributes := #[] }] 33 16 #[] #[{ accessFlags := 24, nameIndex := 28, descriptorIndex := 29, attributes := #[] }, { accessFlags := 26, nameIndex := 38, descriptorIndex := 39, attributes := #[] }, { accessFlags := 25, nameIndex := 121, descriptorIndex := 25, attributes := #[] }, { accessFlags := 25, nameIndex := 131, descriptorIndex := 25, attributes := #[] }, { accessFlags := 25, nameIndex := 137, descriptorIndex := 25, attributes := #[] }, { accessFlags := 25, nameIndex := 143, descriptorIndex := 25, attributes := #[] }, { accessFlags := 25, nameIndex := 53, descriptorIndex := 25, attributes := #[] }, { accessFlags := 25, nameIndex := 24, descriptorIndex := 25, attributes := #[] }, { accessFlags := 25, nameIndex := 162, descriptorIndex := 25, attributes := #[] }, { accessFlags := 25, nameIndex := 187, descriptorIndex := 25, attributes := #[] }, { accessFlags := 26, nameIndex := 48, descriptorIndex := 25, attributes := #[] }, { accessFlags := 25, nameIndex := 277, descriptorIndex := 25, attributes := #[] }, { accessFlags := 25, nameIndex := 280, descriptorIndex := 25, attributes := #[] }, { accessFlags := 25, nameIndex := 282, descriptorIndex := 25, attributes := #[] }, { accessFlags := 25, nameIndex := 284, descriptorIndex := 25, attributes := #[] }, { accessFlags := 25, nameIndex := 286, descriptorIndex := 25, attributes := #[] }, { accessFlags := 25, nameIndex := 288, descriptorIndex := 25, attributes := #[] }, { accessFlags := 25, nameIndex := 290, descriptorIndex := 25, attributes := #[] }, { accessFlags := 25, nameIndex := 292, descriptorIndex := 25, attributes := #[] }, { accessFlags := 26, nameIndex := 108, descriptorIndex := 109, attributes := #[] }, { accessFlags := 25, nameIndex := 294, descriptorIndex := 25, attributes := #[] }])
  fields := #[{ name := "U", type := (.object "jdk/internal/misc/Unsafe"), accessFlags := 24, slot := 0, constantValue := 0 }, { name := "BIG_ENDIAN", type := .boolean, accessFlags := 26, slot := 1, constantValue := 0 }, { name := "LOG2_ARRAY_BOOLEAN_INDEX_SCALE", type := .int, accessFlags := 25, slot := 2, constantValue := 0 }, { name := "LOG2_ARRAY_BYTE_INDEX_SCALE", type := .int, accessFlags := 25, slot := 3, constantValue := 0 }, { name := "LOG2_ARRAY_CHAR_INDEX_SCALE", type := .int, accessFlags := 25, slot := 4, constantValue := 0 }, { name := "LOG2_ARRAY_SHORT_INDEX_SCALE", type := .int, accessFlags := 25, slot := 5, constantValue := 0 }, { name := "LOG2_ARRAY_INT_INDEX_SCALE", type := .int, accessFlags := 25, slot := 6, constantValue := 0 }, { name := "LOG2_ARRAY_LONG_INDEX_SCALE", type := .int, accessFlags := 25, slot := 7, constantValue := 0 }, { name := "LOG2_ARRAY_FLOAT_INDEX_SCALE", type := .int, accessFlags := 25, slot := 8, constantValue := 0 }, { name := "LOG2_ARRAY_DOUBLE_INDEX_SCALE", type := .int, accessFlags := 25, slot := 9, constantValue := 0 }, { name := "LOG2_BYTE_BIT_SIZE", type := .int, accessFlags := 26, slot := 10, constantValue := 0 }, { name := "T_BOOLEAN", type := .int, accessFlags := 25, slot := 11, constantValue := 0 }, { name := "T_CHAR", type := .int, accessFlags := 25, slot := 12, constantValue := 0 }, { name := "T_FLOAT", type := .int, accessFlags := 25, slot := 13, constantValue := 0 }, { name := "T_DOUBLE", type := .int, accessFlags := 25, slot := 14, constantValue := 0 }, { name := "T_BYTE", type := .int, accessFlags := 25, slot := 15, constantValue := 0 }, { name := "T_SHORT", type := .int, accessFlags := 25, slot := 16, constantValue := 0 }, { name := "T_INT", type := .int, accessFlags := 25, slot := 17, constantValue := 0 }, { name := "T_LONG", type := .int, accessFlags := 25, slot := 18, constantValue := 0 }, { name := "JLA", type := (.object "jdk/internal/access/JavaLangAccess"), accessFlags := 26, slot := 19, constantValue := 0 }, { name := "SOFT_MAX_ARRAY_LENGTH", type := .int, accessFlags := 25, slot := 20, constantValue := 0 }]
  methods := #[k18m0]
  instanceTypes := #[]
  staticTypes := #[(.object "jdk/internal/misc/Unsafe"), .boolean, .int, .int, .int, .int, .int, .int, .int, .int, .int, .int, .int, .int, .int, .int, .int, .int, .int, (.object "jdk/internal/access/JavaLangAccess"), .int]
  resolved := Array.replicate 378 none
  statics := none }

def pool19 : Array CpInfo := pool [(1, u "java/lang/Cloneable"), (0, .class_ 1), (0, u "java/lang/Object"), (0, .class_ 3)] 3

/-- java/lang/Cloneable -/
def k19 : Class := { plain "java/lang/Cloneable" (some 0) with
  accessFlags := 1537
  interfaces := #[]
  cf := some (fileOf pool19 2 #[] #[] 1537 4 #[] #[])
  fields := #[]
  methods := #[]
  instanceTypes := #[]
  staticTypes := #[]
  resolved := Array.replicate 8 none
  statics := none }

/-- the primitive byte -/
def k20 : Class := { plain "byte" none with kind := .primitive 'B', accessFlags := 0x411 }
/-- [B -/
def k21 : Class := { plain "[B" (some 0) with kind := .array 20 .byte, interfaces := #[19, 2], accessFlags := 1041 }

/-- the primitive char -/
def k22 : Class := { plain "char" none with kind := .primitive 'C', accessFlags := 0x411 }
/-- [C -/
def k23 : Class := { plain "[C" (some 0) with kind := .array 22 .char, interfaces := #[19, 2], accessFlags := 1041 }

/-- the primitive int -/
def k24 : Class := { plain "int" none with kind := .primitive 'I', accessFlags := 0x411 }
/-- [I -/
def k25 : Class := { plain "[I" (some 0) with kind := .array 24 .int, interfaces := #[19, 2], accessFlags := 1041 }

/-- [Ljava/lang/Integer; -/
def k26 : Class := { plain "[Ljava/lang/Integer;" (some 0) with kind := .array 15 (.object "java/lang/Integer"), interfaces := #[19, 2], accessFlags := 1041 }

def heap : Heap := #[{ cls := 7, slots := #[.long 0, .int 1, .null, .int 0, .null, .int 0, .int 0], vm := .statics 7 },
  { cls := 11, slots := #[.ref 262, .ref 263, .ref 264, .ref 265, .ref 266, .ref 267, .null], vm := .statics 11 },
  { cls := 12, slots := #[.ref 268, .ref 269, .ref 270, .ref 271, .null], vm := .statics 12 },
  { cls := 16, slots := #[.int 0, .int 127, .ref 5, .null, .int 0], vm := .statics 16 },
  { cls := 17, slots := #[.null, .null, .null], vm := .statics 17 },
  { cls := 26, slots := #[.ref 6, .ref 7, .ref 8, .ref 9, .ref 10, .ref 11, .ref 12, .ref 13, .ref 14, .ref 15, .ref 16, .ref 17, .ref 18, .ref 19, .ref 20, .ref 21, .ref 22, .ref 23, .ref 24, .ref 25, .ref 26, .ref 27, .ref 28, .ref 29, .ref 30, .ref 31, .ref 32, .ref 33, .ref 34, .ref 35, .ref 36, .ref 37, .ref 38, .ref 39, .ref 40, .ref 41, .ref 42, .ref 43, .ref 44, .ref 45, .ref 46, .ref 47, .ref 48, .ref 49, .ref 50, .ref 51, .ref 52, .ref 53, .ref 54, .ref 55, .ref 56, .ref 57, .ref 58, .ref 59, .ref 60, .ref 61, .ref 62, .ref 63, .ref 64, .ref 65, .ref 66, .ref 67, .ref 68, .ref 69, .ref 70, .ref 71, .ref 72, .ref 73, .ref 74, .ref 75, .ref 76, .ref 77, .ref 78, .ref 79, .ref 80, .ref 81, .ref 82, .ref 83, .ref 84, .ref 85, .ref 86, .ref 87, .ref 88, .ref 89, .ref 90, .ref 91, .ref 92, .ref 93, .ref 94, .ref 95, .ref 96, .ref 97, .ref 98, .ref 99, .ref 100, .ref 101, .ref 102, .ref 103, .ref 104, .ref 105, .ref 106, .ref 107, .ref 108, .ref 109, .ref 110, .ref 111, .ref 112, .ref 113, .ref 114, .ref 115, .ref 116, .ref 117, .ref 118, .ref 119, .ref 120, .ref 121, .ref 122, .ref 123, .ref 124, .ref 125, .ref 126, .ref 127, .ref 128, .ref 129, .ref 130, .ref 131, .ref 132, .ref 133, .ref 134, .ref 135, .ref 136, .ref 137, .ref 138, .ref 139, .ref 140, .ref 141, .ref 142, .ref 143, .ref 144, .ref 145, .ref 146, .ref 147, .ref 148, .ref 149, .ref 150, .ref 151, .ref 152, .ref 153, .ref 154, .ref 155, .ref 156, .ref 157, .ref 158, .ref 159, .ref 160, .ref 161, .ref 162, .ref 163, .ref 164, .ref 165, .ref 166, .ref 167, .ref 168, .ref 169, .ref 170, .ref 171, .ref 172, .ref 173, .ref 174, .ref 175, .ref 176, .ref 177, .ref 178, .ref 179, .ref 180, .ref 181, .ref 182, .ref 183, .ref 184, .ref 185, .ref 186, .ref 187, .ref 188, .ref 189, .ref 190, .ref 191, .ref 192, .ref 193, .ref 194, .ref 195, .ref 196, .ref 197, .ref 198, .ref 199, .ref 200, .ref 201, .ref 202, .ref 203, .ref 204, .ref 205, .ref 206, .ref 207, .ref 208, .ref 209, .ref 210, .ref 211, .ref 212, .ref 213, .ref 214, .ref 215, .ref 216, .ref 217, .ref 218, .ref 219, .ref 220, .ref 221, .ref 222, .ref 223, .ref 224, .ref 225, .ref 226, .ref 227, .ref 228, .ref 229, .ref 230, .ref 231, .ref 232, .ref 233, .ref 234, .ref 235, .ref 236, .ref 237, .ref 238, .ref 239, .ref 240, .ref 241, .ref 242, .ref 243, .ref 244, .ref 245, .ref 246, .ref 247, .ref 248, .ref 249, .ref 250, .ref 251, .ref 252, .ref 253, .ref 254, .ref 255, .ref 256, .ref 257, .ref 258, .ref 259, .ref 260, .ref 261], vm := .none },
  { cls := 15, slots := #[.int (-128)], vm := .none },
  { cls := 15, slots := #[.int (-127)], vm := .none },
  { cls := 15, slots := #[.int (-126)], vm := .none },
  { cls := 15, slots := #[.int (-125)], vm := .none },
  { cls := 15, slots := #[.int (-124)], vm := .none },
  { cls := 15, slots := #[.int (-123)], vm := .none },
  { cls := 15, slots := #[.int (-122)], vm := .none },
  { cls := 15, slots := #[.int (-121)], vm := .none },
  { cls := 15, slots := #[.int (-120)], vm := .none },
  { cls := 15, slots := #[.int (-119)], vm := .none },
  { cls := 15, slots := #[.int (-118)], vm := .none },
  { cls := 15, slots := #[.int (-117)], vm := .none },
  { cls := 15, slots := #[.int (-116)], vm := .none },
  { cls := 15, slots := #[.int (-115)], vm := .none },
  { cls := 15, slots := #[.int (-114)], vm := .none },
  { cls := 15, slots := #[.int (-113)], vm := .none },
  { cls := 15, slots := #[.int (-112)], vm := .none },
  { cls := 15, slots := #[.int (-111)], vm := .none },
  { cls := 15, slots := #[.int (-110)], vm := .none },
  { cls := 15, slots := #[.int (-109)], vm := .none },
  { cls := 15, slots := #[.int (-108)], vm := .none },
  { cls := 15, slots := #[.int (-107)], vm := .none },
  { cls := 15, slots := #[.int (-106)], vm := .none },
  { cls := 15, slots := #[.int (-105)], vm := .none },
  { cls := 15, slots := #[.int (-104)], vm := .none },
  { cls := 15, slots := #[.int (-103)], vm := .none },
  { cls := 15, slots := #[.int (-102)], vm := .none },
  { cls := 15, slots := #[.int (-101)], vm := .none },
  { cls := 15, slots := #[.int (-100)], vm := .none },
  { cls := 15, slots := #[.int (-99)], vm := .none },
  { cls := 15, slots := #[.int (-98)], vm := .none },
  { cls := 15, slots := #[.int (-97)], vm := .none },
  { cls := 15, slots := #[.int (-96)], vm := .none },
  { cls := 15, slots := #[.int (-95)], vm := .none },
  { cls := 15, slots := #[.int (-94)], vm := .none },
  { cls := 15, slots := #[.int (-93)], vm := .none },
  { cls := 15, slots := #[.int (-92)], vm := .none },
  { cls := 15, slots := #[.int (-91)], vm := .none },
  { cls := 15, slots := #[.int (-90)], vm := .none },
  { cls := 15, slots := #[.int (-89)], vm := .none },
  { cls := 15, slots := #[.int (-88)], vm := .none },
  { cls := 15, slots := #[.int (-87)], vm := .none },
  { cls := 15, slots := #[.int (-86)], vm := .none },
  { cls := 15, slots := #[.int (-85)], vm := .none },
  { cls := 15, slots := #[.int (-84)], vm := .none },
  { cls := 15, slots := #[.int (-83)], vm := .none },
  { cls := 15, slots := #[.int (-82)], vm := .none },
  { cls := 15, slots := #[.int (-81)], vm := .none },
  { cls := 15, slots := #[.int (-80)], vm := .none },
  { cls := 15, slots := #[.int (-79)], vm := .none },
  { cls := 15, slots := #[.int (-78)], vm := .none },
  { cls := 15, slots := #[.int (-77)], vm := .none },
  { cls := 15, slots := #[.int (-76)], vm := .none },
  { cls := 15, slots := #[.int (-75)], vm := .none },
  { cls := 15, slots := #[.int (-74)], vm := .none },
  { cls := 15, slots := #[.int (-73)], vm := .none },
  { cls := 15, slots := #[.int (-72)], vm := .none },
  { cls := 15, slots := #[.int (-71)], vm := .none },
  { cls := 15, slots := #[.int (-70)], vm := .none },
  { cls := 15, slots := #[.int (-69)], vm := .none },
  { cls := 15, slots := #[.int (-68)], vm := .none },
  { cls := 15, slots := #[.int (-67)], vm := .none },
  { cls := 15, slots := #[.int (-66)], vm := .none },
  { cls := 15, slots := #[.int (-65)], vm := .none },
  { cls := 15, slots := #[.int (-64)], vm := .none },
  { cls := 15, slots := #[.int (-63)], vm := .none },
  { cls := 15, slots := #[.int (-62)], vm := .none },
  { cls := 15, slots := #[.int (-61)], vm := .none },
  { cls := 15, slots := #[.int (-60)], vm := .none },
  { cls := 15, slots := #[.int (-59)], vm := .none },
  { cls := 15, slots := #[.int (-58)], vm := .none },
  { cls := 15, slots := #[.int (-57)], vm := .none },
  { cls := 15, slots := #[.int (-56)], vm := .none },
  { cls := 15, slots := #[.int (-55)], vm := .none },
  { cls := 15, slots := #[.int (-54)], vm := .none },
  { cls := 15, slots := #[.int (-53)], vm := .none },
  { cls := 15, slots := #[.int (-52)], vm := .none },
  { cls := 15, slots := #[.int (-51)], vm := .none },
  { cls := 15, slots := #[.int (-50)], vm := .none },
  { cls := 15, slots := #[.int (-49)], vm := .none },
  { cls := 15, slots := #[.int (-48)], vm := .none },
  { cls := 15, slots := #[.int (-47)], vm := .none },
  { cls := 15, slots := #[.int (-46)], vm := .none },
  { cls := 15, slots := #[.int (-45)], vm := .none },
  { cls := 15, slots := #[.int (-44)], vm := .none },
  { cls := 15, slots := #[.int (-43)], vm := .none },
  { cls := 15, slots := #[.int (-42)], vm := .none },
  { cls := 15, slots := #[.int (-41)], vm := .none },
  { cls := 15, slots := #[.int (-40)], vm := .none },
  { cls := 15, slots := #[.int (-39)], vm := .none },
  { cls := 15, slots := #[.int (-38)], vm := .none },
  { cls := 15, slots := #[.int (-37)], vm := .none },
  { cls := 15, slots := #[.int (-36)], vm := .none },
  { cls := 15, slots := #[.int (-35)], vm := .none },
  { cls := 15, slots := #[.int (-34)], vm := .none },
  { cls := 15, slots := #[.int (-33)], vm := .none },
  { cls := 15, slots := #[.int (-32)], vm := .none },
  { cls := 15, slots := #[.int (-31)], vm := .none },
  { cls := 15, slots := #[.int (-30)], vm := .none },
  { cls := 15, slots := #[.int (-29)], vm := .none },
  { cls := 15, slots := #[.int (-28)], vm := .none },
  { cls := 15, slots := #[.int (-27)], vm := .none },
  { cls := 15, slots := #[.int (-26)], vm := .none },
  { cls := 15, slots := #[.int (-25)], vm := .none },
  { cls := 15, slots := #[.int (-24)], vm := .none },
  { cls := 15, slots := #[.int (-23)], vm := .none },
  { cls := 15, slots := #[.int (-22)], vm := .none },
  { cls := 15, slots := #[.int (-21)], vm := .none },
  { cls := 15, slots := #[.int (-20)], vm := .none },
  { cls := 15, slots := #[.int (-19)], vm := .none },
  { cls := 15, slots := #[.int (-18)], vm := .none },
  { cls := 15, slots := #[.int (-17)], vm := .none },
  { cls := 15, slots := #[.int (-16)], vm := .none },
  { cls := 15, slots := #[.int (-15)], vm := .none },
  { cls := 15, slots := #[.int (-14)], vm := .none },
  { cls := 15, slots := #[.int (-13)], vm := .none },
  { cls := 15, slots := #[.int (-12)], vm := .none },
  { cls := 15, slots := #[.int (-11)], vm := .none },
  { cls := 15, slots := #[.int (-10)], vm := .none },
  { cls := 15, slots := #[.int (-9)], vm := .none },
  { cls := 15, slots := #[.int (-8)], vm := .none },
  { cls := 15, slots := #[.int (-7)], vm := .none },
  { cls := 15, slots := #[.int (-6)], vm := .none },
  { cls := 15, slots := #[.int (-5)], vm := .none },
  { cls := 15, slots := #[.int (-4)], vm := .none },
  { cls := 15, slots := #[.int (-3)], vm := .none },
  { cls := 15, slots := #[.int (-2)], vm := .none },
  { cls := 15, slots := #[.int (-1)], vm := .none },
  { cls := 15, slots := #[.int (0)], vm := .none },
  { cls := 15, slots := #[.int (1)], vm := .none },
  { cls := 15, slots := #[.int (2)], vm := .none },
  { cls := 15, slots := #[.int (3)], vm := .none },
  { cls := 15, slots := #[.int (4)], vm := .none },
  { cls := 15, slots := #[.int (5)], vm := .none },
  { cls := 15, slots := #[.int (6)], vm := .none },
  { cls := 15, slots := #[.int (7)], vm := .none },
  { cls := 15, slots := #[.int (8)], vm := .none },
  { cls := 15, slots := #[.int (9)], vm := .none },
  { cls := 15, slots := #[.int (10)], vm := .none },
  { cls := 15, slots := #[.int (11)], vm := .none },
  { cls := 15, slots := #[.int (12)], vm := .none },
  { cls := 15, slots := #[.int (13)], vm := .none },
  { cls := 15, slots := #[.int (14)], vm := .none },
  { cls := 15, slots := #[.int (15)], vm := .none },
  { cls := 15, slots := #[.int (16)], vm := .none },
  { cls := 15, slots := #[.int (17)], vm := .none },
  { cls := 15, slots := #[.int (18)], vm := .none },
  { cls := 15, slots := #[.int (19)], vm := .none },
  { cls := 15, slots := #[.int (20)], vm := .none },
  { cls := 15, slots := #[.int (21)], vm := .none },
  { cls := 15, slots := #[.int (22)], vm := .none },
  { cls := 15, slots := #[.int (23)], vm := .none },
  { cls := 15, slots := #[.int (24)], vm := .none },
  { cls := 15, slots := #[.int (25)], vm := .none },
  { cls := 15, slots := #[.int (26)], vm := .none },
  { cls := 15, slots := #[.int (27)], vm := .none },
  { cls := 15, slots := #[.int (28)], vm := .none },
  { cls := 15, slots := #[.int (29)], vm := .none },
  { cls := 15, slots := #[.int (30)], vm := .none },
  { cls := 15, slots := #[.int (31)], vm := .none },
  { cls := 15, slots := #[.int (32)], vm := .none },
  { cls := 15, slots := #[.int (33)], vm := .none },
  { cls := 15, slots := #[.int (34)], vm := .none },
  { cls := 15, slots := #[.int (35)], vm := .none },
  { cls := 15, slots := #[.int (36)], vm := .none },
  { cls := 15, slots := #[.int (37)], vm := .none },
  { cls := 15, slots := #[.int (38)], vm := .none },
  { cls := 15, slots := #[.int (39)], vm := .none },
  { cls := 15, slots := #[.int (40)], vm := .none },
  { cls := 15, slots := #[.int (41)], vm := .none },
  { cls := 15, slots := #[.int (42)], vm := .none },
  { cls := 15, slots := #[.int (43)], vm := .none },
  { cls := 15, slots := #[.int (44)], vm := .none },
  { cls := 15, slots := #[.int (45)], vm := .none },
  { cls := 15, slots := #[.int (46)], vm := .none },
  { cls := 15, slots := #[.int (47)], vm := .none },
  { cls := 15, slots := #[.int (48)], vm := .none },
  { cls := 15, slots := #[.int (49)], vm := .none },
  { cls := 15, slots := #[.int (50)], vm := .none },
  { cls := 15, slots := #[.int (51)], vm := .none },
  { cls := 15, slots := #[.int (52)], vm := .none },
  { cls := 15, slots := #[.int (53)], vm := .none },
  { cls := 15, slots := #[.int (54)], vm := .none },
  { cls := 15, slots := #[.int (55)], vm := .none },
  { cls := 15, slots := #[.int (56)], vm := .none },
  { cls := 15, slots := #[.int (57)], vm := .none },
  { cls := 15, slots := #[.int (58)], vm := .none },
  { cls := 15, slots := #[.int (59)], vm := .none },
  { cls := 15, slots := #[.int (60)], vm := .none },
  { cls := 15, slots := #[.int (61)], vm := .none },
  { cls := 15, slots := #[.int (62)], vm := .none },
  { cls := 15, slots := #[.int (63)], vm := .none },
  { cls := 15, slots := #[.int (64)], vm := .none },
  { cls := 15, slots := #[.int (65)], vm := .none },
  { cls := 15, slots := #[.int (66)], vm := .none },
  { cls := 15, slots := #[.int (67)], vm := .none },
  { cls := 15, slots := #[.int (68)], vm := .none },
  { cls := 15, slots := #[.int (69)], vm := .none },
  { cls := 15, slots := #[.int (70)], vm := .none },
  { cls := 15, slots := #[.int (71)], vm := .none },
  { cls := 15, slots := #[.int (72)], vm := .none },
  { cls := 15, slots := #[.int (73)], vm := .none },
  { cls := 15, slots := #[.int (74)], vm := .none },
  { cls := 15, slots := #[.int (75)], vm := .none },
  { cls := 15, slots := #[.int (76)], vm := .none },
  { cls := 15, slots := #[.int (77)], vm := .none },
  { cls := 15, slots := #[.int (78)], vm := .none },
  { cls := 15, slots := #[.int (79)], vm := .none },
  { cls := 15, slots := #[.int (80)], vm := .none },
  { cls := 15, slots := #[.int (81)], vm := .none },
  { cls := 15, slots := #[.int (82)], vm := .none },
  { cls := 15, slots := #[.int (83)], vm := .none },
  { cls := 15, slots := #[.int (84)], vm := .none },
  { cls := 15, slots := #[.int (85)], vm := .none },
  { cls := 15, slots := #[.int (86)], vm := .none },
  { cls := 15, slots := #[.int (87)], vm := .none },
  { cls := 15, slots := #[.int (88)], vm := .none },
  { cls := 15, slots := #[.int (89)], vm := .none },
  { cls := 15, slots := #[.int (90)], vm := .none },
  { cls := 15, slots := #[.int (91)], vm := .none },
  { cls := 15, slots := #[.int (92)], vm := .none },
  { cls := 15, slots := #[.int (93)], vm := .none },
  { cls := 15, slots := #[.int (94)], vm := .none },
  { cls := 15, slots := #[.int (95)], vm := .none },
  { cls := 15, slots := #[.int (96)], vm := .none },
  { cls := 15, slots := #[.int (97)], vm := .none },
  { cls := 15, slots := #[.int (98)], vm := .none },
  { cls := 15, slots := #[.int (99)], vm := .none },
  { cls := 15, slots := #[.int (100)], vm := .none },
  { cls := 15, slots := #[.int (101)], vm := .none },
  { cls := 15, slots := #[.int (102)], vm := .none },
  { cls := 15, slots := #[.int (103)], vm := .none },
  { cls := 15, slots := #[.int (104)], vm := .none },
  { cls := 15, slots := #[.int (105)], vm := .none },
  { cls := 15, slots := #[.int (106)], vm := .none },
  { cls := 15, slots := #[.int (107)], vm := .none },
  { cls := 15, slots := #[.int (108)], vm := .none },
  { cls := 15, slots := #[.int (109)], vm := .none },
  { cls := 15, slots := #[.int (110)], vm := .none },
  { cls := 15, slots := #[.int (111)], vm := .none },
  { cls := 15, slots := #[.int (112)], vm := .none },
  { cls := 15, slots := #[.int (113)], vm := .none },
  { cls := 15, slots := #[.int (114)], vm := .none },
  { cls := 15, slots := #[.int (115)], vm := .none },
  { cls := 15, slots := #[.int (116)], vm := .none },
  { cls := 15, slots := #[.int (117)], vm := .none },
  { cls := 15, slots := #[.int (118)], vm := .none },
  { cls := 15, slots := #[.int (119)], vm := .none },
  { cls := 15, slots := #[.int (120)], vm := .none },
  { cls := 15, slots := #[.int (121)], vm := .none },
  { cls := 15, slots := #[.int (122)], vm := .none },
  { cls := 15, slots := #[.int (123)], vm := .none },
  { cls := 15, slots := #[.int (124)], vm := .none },
  { cls := 15, slots := #[.int (125)], vm := .none },
  { cls := 15, slots := #[.int (126)], vm := .none },
  { cls := 15, slots := #[.int (127)], vm := .none },
  { cls := 11, slots := #[.null, .int 0, .int 0], vm := .none },
  { cls := 11, slots := #[.null, .int 1, .int 0], vm := .none },
  { cls := 11, slots := #[.null, .int 2, .int 0], vm := .none },
  { cls := 11, slots := #[.null, .int 3, .int 0], vm := .none },
  { cls := 11, slots := #[.null, .int 4, .int 0], vm := .none },
  { cls := 11, slots := #[.null, .int 5, .int 0], vm := .none },
  { cls := 12, slots := #[.null, .int 0, .int 0], vm := .none },
  { cls := 12, slots := #[.null, .int 1, .int 0], vm := .none },
  { cls := 12, slots := #[.null, .int 2, .int 0], vm := .none },
  { cls := 12, slots := #[.null, .int 3, .int 0], vm := .none }]
def classes : Array Class := #[k0, k1, k2, k3, k4, k5, k6, k7, k8, k9, k10, k11, k12, k13, k14, k15, k16, k17, k18, k19, k20, k21, k22, k23, k24, k25, k26]
def interned : List (Array UInt16 × Addr) := []
def slotsUsed : Nat := 569
def theMethod : MethodId := ⟨1, 3⟩
def args0 : Array Value := #[.int 5, .int 3, .int 4, .int 1, .int 2, .int 0]
def aboutOver (below : List Frame) : State where
  vm := { classes := classes, interned := interned.toArray }
  heap := heap
  slotsUsed := slotsUsed
  threads := #[{ frames := .invoking theMethod args0 :: below }]
def below0 : List Frame := [.native { method := ⟨0, 0⟩, args := #[] }]
def about1 : State := aboutOver below0
def p0 : Program := .bare "" "" ""
def e0 : Env := launch0.env 0 0 0
theorem w_frames : about1.frames = Frame.invoking theMethod args0 :: below0 := rfl
set_option maxRecDepth 65536 in
theorem w_args : argsFit about1.vm theMethod args0 = true := by decide +kernel
set_option maxRecDepth 65536 in
theorem w_heap : heapFits about1 = true := by decide +kernel
set_option maxRecDepth 65536 in
theorem w_runnable : about1.curStatus? = some .runnable := by decide +kernel
set_option maxRecDepth 65536 in
theorem w_alone : about1.alone = true := by decide +kernel
set_option maxRecDepth 65536 in
theorem w_named : about1.methodNamed? x = some theMethod := by decide +kernel
set_option maxRecDepth 65536 in
theorem w_hears : about1.hears theMethod below0 = true := by decide +kernel
set_option maxRecDepth 65536 in
theorem w_ripe : about1.ripe theMethod args0 below0 = true := by decide +kernel
theorem w_running : about1.status = .running := rfl
set_option maxRecDepth 65536 in
theorem w_room : about1.hasRoom e0.platform room_1 = true :=
  launch0.hasRoom_least _ room_1 (by decide +kernel) (by decide +kernel) (by decide +kernel) (by decide +kernel) (by decide +kernel) (by decide +kernel)
theorem allAtoms_all (ts : List Jvm.Cond) (a : Array Jvm.Value) (st : Jvm.State) : (allAtoms ts).before a st = ts.all (fun c => c.before a st) := by
  induction ts with
  | nil => rfl
  | cons c t ih =>
    show (Jvm.Cond.and c (allAtoms t)).before a st = _
    rw [Jvm.Cond.before_and, ih, List.all_cons]
def words1 : List Jvm.Cond := Jvm.Cond.code x code maxLocals ret :: tables_1
/-- a 'code' word, met by the world's own term for the bytes: nothing is compared byte by byte -/
theorem code_word {y : MethodName} {bytes : ByteArray} {mx : Nat} {rt : Option FieldType} {a : Array Value} {s : State} {m : MethodId} {meth : Method} {c : Code} (h1 : s.methodNamed? y = some m) (h2 : s.vm.method? m = some meth) (h3 : meth.code = some c) (h4 : c.code = bytes)
    (h5 : (c.maxLocals == mx && c.exceptionTable.isEmpty && decide (c.maxStack ≤ mostOperands) && decide (meth.sig.returnType = rt) && !meth.locks && decide (parseMethodDescriptor y.desc = some meth.sig)) = true) : (Jvm.Cond.code y bytes mx rt).before a s = true := by
  simp only [Bool.and_eq_true, beq_iff_eq, Bool.not_eq_true', decide_eq_true_eq] at h5
  obtain ⟨⟨⟨⟨⟨g1, g2⟩, g3⟩, g4⟩, g5⟩, g6⟩ := h5
  simp [Cond.before, Cond.holds, Cond.value, h1, h2, h3, h4, g1, g2, g3, g4, g5, g6]
def isCode : Jvm.Cond → Bool
  | .code _ _ _ _ => true
  | _ => false
theorem all_split {L : List Jvm.Cond} {P : Jvm.Cond → Bool} (h1 : L.all (fun c => isCode c || P c) = true) (h2 : ∀ c ∈ L.filter isCode, P c = true) : L.all P = true := by
  refine List.all_eq_true.mpr fun c hc => ?_
  have h := List.all_eq_true.mp h1 c hc
  rcases Bool.eq_false_or_eq_true (isCode c) with hi | hi
  · exact h2 c (List.mem_filter.mpr ⟨hc, hi⟩)
  · simpa [hi] using h
set_option maxRecDepth 65536 in
theorem w_c0 : (Jvm.Cond.code x code maxLocals ret).before args0 about1 = true := code_word (m := ⟨1, 3⟩) (meth := k1m3) (c := k1c3) (by decide +kernel) rfl rfl rfl (by decide +kernel)
set_option maxRecDepth 65536 in
theorem w_c1 : (Jvm.Cond.code ({ cls := "java/lang/String", name := "<init>", desc := "([C)V" } : Jvm.MethodName) jdk_42_method_3_code (2 : Nat) (Option.none : Option Jvm.ClassFile.FieldType)).before args0 about1 = true := code_word (m := ⟨7, 1⟩) (meth := k7m1) (c := k7c1) (by decide +kernel) rfl rfl rfl (by decide +kernel)
set_option maxRecDepth 65536 in
theorem w_c2 : (Jvm.Cond.code ({ cls := "java/lang/String", name := "<init>", desc := "([CIILjava/lang/Void;)V" } : Jvm.MethodName) jdk_42_method_149_code (6 : Nat) (Option.none : Option Jvm.ClassFile.FieldType)).before args0 about1 = true := code_word (m := ⟨7, 4⟩) (meth := k7m4) (c := k7c4) (by decide +kernel) rfl rfl rfl (by decide +kernel)
set_option maxRecDepth 65536 in
theorem w_c3 : (Jvm.Cond.code ({ cls := "java/lang/Object", name := "<init>", desc := "()V" } : Jvm.MethodName) object_method_1_code (1 : Nat) (Option.none : Option Jvm.ClassFile.FieldType)).before args0 about1 = true := code_word (m := ⟨0, 0⟩) (meth := k0m0) (c := k0c0) (by decide +kernel) rfl rfl rfl (by decide +kernel)
set_option maxRecDepth 65536 in
theorem w_c4 : (Jvm.Cond.code ({ cls := "java/lang/StringUTF16", name := "compress", desc := "([CII)[B" } : Jvm.MethodName) jdk_52_method_16_code (6 : Nat) (Option.some (Jvm.ClassFile.FieldType.array Jvm.ClassFile.FieldType.byte))).before args0 about1 = true := code_word (m := ⟨8, 2⟩) (meth := k8m2) (c := k8c2) (by decide +kernel) rfl rfl rfl (by decide +kernel)
set_option maxRecDepth 65536 in
theorem w_c5 : (Jvm.Cond.code ({ cls := "java/lang/StringUTF16", name := "compress", desc := "([CI[BII)I" } : Jvm.MethodName) jdk_52_method_21_code (7 : Nat) (Option.some Jvm.ClassFile.FieldType.int)).before args0 about1 = true := code_word (m := ⟨8, 3⟩) (meth := k8m3) (c := k8c3) (by decide +kernel) rfl rfl rfl (by decide +kernel)
set_option maxRecDepth 65536 in
theorem w_c6 : (Jvm.Cond.code ({ cls := "java/lang/StringUTF16", name := "coderFromArrayLen", desc := "([BI)B" } : Jvm.MethodName) jdk_52_method_15_code (2 : Nat) (Option.some Jvm.ClassFile.FieldType.byte)).before args0 about1 = true := code_word (m := ⟨8, 1⟩) (meth := k8m1) (c := k8c1) (by decide +kernel) rfl rfl rfl (by decide +kernel)
set_option maxRecDepth 65536 in
theorem w_c7 : (Jvm.Cond.code ({ cls := "com/example/faultgauge/faultgauge/exec/TestResultEqualsPinLaw", name := "diffOf", desc := "(I)Lcom/example/faultgauge/faultgauge/exec/TestResult$Difference;" } : Jvm.MethodName) method_2_code (1 : Nat) (Option.some (Jvm.ClassFile.FieldType.object "com/example/faultgauge/faultgauge/exec/TestResult$Difference"))).before args0 about1 = true := code_word (m := ⟨1, 1⟩) (meth := k1m1) (c := k1c1) (by decide +kernel) rfl rfl rfl (by decide +kernel)
set_option maxRecDepth 65536 in
theorem w_c8 : (Jvm.Cond.code ({ cls := "com/example/faultgauge/faultgauge/exec/TestResultEqualsPinLaw", name := "endingOf", desc := "(I)Lcom/example/faultgauge/faultgauge/exec/Ending;" } : Jvm.MethodName) method_3_code (1 : Nat) (Option.some (Jvm.ClassFile.FieldType.object "com/example/faultgauge/faultgauge/exec/Ending"))).before args0 about1 = true := code_word (m := ⟨1, 2⟩) (meth := k1m2) (c := k1c2) (by decide +kernel) rfl rfl rfl (by decide +kernel)
set_option maxRecDepth 65536 in
theorem w_c9 : (Jvm.Cond.code ({ cls := "com/example/faultgauge/faultgauge/exec/TestResult", name := "<init>", desc := "(ILcom/example/faultgauge/faultgauge/exec/TestResult$Difference;Lcom/example/faultgauge/faultgauge/exec/Ending;ILjava/lang/String;)V" } : Jvm.MethodName) prog_53_method_1_code (6 : Nat) (Option.none : Option Jvm.ClassFile.FieldType)).before args0 about1 = true := code_word (m := ⟨9, 0⟩) (meth := k9m0) (c := k9c0) (by decide +kernel) rfl rfl rfl (by decide +kernel)
set_option maxRecDepth 65536 in
theorem w_c10 : (Jvm.Cond.code ({ cls := "com/example/faultgauge/faultgauge/exec/TestResult", name := "equals", desc := "(Ljava/lang/Object;)Z" } : Jvm.MethodName) prog_53_method_9_code (3 : Nat) (Option.some Jvm.ClassFile.FieldType.boolean)).before args0 about1 = true := code_word (m := ⟨9, 1⟩) (meth := k9m1) (c := k9c1) (by decide +kernel) rfl rfl rfl (by decide +kernel)
set_option maxRecDepth 65536 in
theorem w_c11 : (Jvm.Cond.code ({ cls := "java/lang/String", name := "valueOf", desc := "(C)Ljava/lang/String;" } : Jvm.MethodName) jdk_42_method_139_code (1 : Nat) (Option.some (Jvm.ClassFile.FieldType.object "java/lang/String"))).before args0 about1 = true := code_word (m := ⟨7, 3⟩) (meth := k7m3) (c := k7c3) (by decide +kernel) rfl rfl rfl (by decide +kernel)
set_option maxRecDepth 65536 in
theorem w_c12 : (Jvm.Cond.code ({ cls := "java/lang/StringLatin1", name := "canEncode", desc := "(C)Z" } : Jvm.MethodName) jdk_43_method_3_code (1 : Nat) (Option.some Jvm.ClassFile.FieldType.boolean)).before args0 about1 = true := code_word (m := ⟨13, 1⟩) (meth := k13m1) (c := k13c1) (by decide +kernel) rfl rfl rfl (by decide +kernel)
set_option maxRecDepth 65536 in
theorem w_c13 : (Jvm.Cond.code ({ cls := "java/lang/StringLatin1", name := "toBytes", desc := "(C)[B" } : Jvm.MethodName) jdk_43_method_46_code (1 : Nat) (Option.some (Jvm.ClassFile.FieldType.array Jvm.ClassFile.FieldType.byte))).before args0 about1 = true := code_word (m := ⟨13, 3⟩) (meth := k13m3) (c := k13c3) (by decide +kernel) rfl rfl rfl (by decide +kernel)
set_option maxRecDepth 65536 in
theorem w_c14 : (Jvm.Cond.code ({ cls := "java/lang/String", name := "<init>", desc := "([BB)V" } : Jvm.MethodName) jdk_42_method_151_code (3 : Nat) (Option.none : Option Jvm.ClassFile.FieldType)).before args0 about1 = true := code_word (m := ⟨7, 5⟩) (meth := k7m5) (c := k7c5) (by decide +kernel) rfl rfl rfl (by decide +kernel)
set_option maxRecDepth 65536 in
theorem w_c15 : (Jvm.Cond.code ({ cls := "java/lang/Integer", name := "valueOf", desc := "(I)Ljava/lang/Integer;" } : Jvm.MethodName) jdk_33_method_22_code (1 : Nat) (Option.some (Jvm.ClassFile.FieldType.object "java/lang/Integer"))).before args0 about1 = true := code_word (m := ⟨15, 0⟩) (meth := k15m0) (c := k15c0) (by decide +kernel) rfl rfl rfl (by decide +kernel)
set_option maxRecDepth 65536 in
theorem w_c16 : (Jvm.Cond.code ({ cls := "java/lang/Integer", name := "<init>", desc := "(I)V" } : Jvm.MethodName) jdk_33_method_23_code (2 : Nat) (Option.none : Option Jvm.ClassFile.FieldType)).before args0 about1 = true := code_word (m := ⟨15, 1⟩) (meth := k15m1) (c := k15c1) (by decide +kernel) rfl rfl rfl (by decide +kernel)
set_option maxRecDepth 65536 in
theorem w_c17 : (Jvm.Cond.code ({ cls := "java/lang/Number", name := "<init>", desc := "()V" } : Jvm.MethodName) jdk_18_method_1_code (1 : Nat) (Option.none : Option Jvm.ClassFile.FieldType)).before args0 about1 = true := code_word (m := ⟨14, 0⟩) (meth := k14m0) (c := k14c0) (by decide +kernel) rfl rfl rfl (by decide +kernel)
set_option maxRecDepth 65536 in
theorem w_c18 : (Jvm.Cond.code ({ cls := "java/lang/String", name := "equals", desc := "(Ljava/lang/Object;)Z" } : Jvm.MethodName) jdk_42_method_66_code (3 : Nat) (Option.some Jvm.ClassFile.FieldType.boolean)).before args0 about1 = true := code_word (m := ⟨7, 2⟩) (meth := k7m2) (c := k7c2) (by decide +kernel) rfl rfl rfl (by decide +kernel)
set_option maxRecDepth 65536 in
theorem w_c19 : (Jvm.Cond.code ({ cls := "java/lang/StringLatin1", name := "equals", desc := "([B[B)Z" } : Jvm.MethodName) jdk_43_method_13_code (3 : Nat) (Option.some Jvm.ClassFile.FieldType.boolean)).before args0 about1 = true := code_word (m := ⟨13, 2⟩) (meth := k13m2) (c := k13c2) (by decide +kernel) rfl rfl rfl (by decide +kernel)
def codes1 : List Jvm.Cond := [Jvm.Cond.code x code maxLocals ret, Jvm.Cond.code ({ cls := "java/lang/String", name := "<init>", desc := "([C)V" } : Jvm.MethodName) jdk_42_method_3_code (2 : Nat) (Option.none : Option Jvm.ClassFile.FieldType), Jvm.Cond.code ({ cls := "java/lang/String", name := "<init>", desc := "([CIILjava/lang/Void;)V" } : Jvm.MethodName) jdk_42_method_149_code (6 : Nat) (Option.none : Option Jvm.ClassFile.FieldType), Jvm.Cond.code ({ cls := "java/lang/Object", name := "<init>", desc := "()V" } : Jvm.MethodName) object_method_1_code (1 : Nat) (Option.none : Option Jvm.ClassFile.FieldType), Jvm.Cond.code ({ cls := "java/lang/StringUTF16", name := "compress", desc := "([CII)[B" } : Jvm.MethodName) jdk_52_method_16_code (6 : Nat) (Option.some (Jvm.ClassFile.FieldType.array Jvm.ClassFile.FieldType.byte)), Jvm.Cond.code ({ cls := "java/lang/StringUTF16", name := "compress", desc := "([CI[BII)I" } : Jvm.MethodName) jdk_52_method_21_code (7 : Nat) (Option.some Jvm.ClassFile.FieldType.int), Jvm.Cond.code ({ cls := "java/lang/StringUTF16", name := "coderFromArrayLen", desc := "([BI)B" } : Jvm.MethodName) jdk_52_method_15_code (2 : Nat) (Option.some Jvm.ClassFile.FieldType.byte), Jvm.Cond.code ({ cls := "com/example/faultgauge/faultgauge/exec/TestResultEqualsPinLaw", name := "diffOf", desc := "(I)Lcom/example/faultgauge/faultgauge/exec/TestResult$Difference;" } : Jvm.MethodName) method_2_code (1 : Nat) (Option.some (Jvm.ClassFile.FieldType.object "com/example/faultgauge/faultgauge/exec/TestResult$Difference")), Jvm.Cond.code ({ cls := "com/example/faultgauge/faultgauge/exec/TestResultEqualsPinLaw", name := "endingOf", desc := "(I)Lcom/example/faultgauge/faultgauge/exec/Ending;" } : Jvm.MethodName) method_3_code (1 : Nat) (Option.some (Jvm.ClassFile.FieldType.object "com/example/faultgauge/faultgauge/exec/Ending")), Jvm.Cond.code ({ cls := "com/example/faultgauge/faultgauge/exec/TestResult", name := "<init>", desc := "(ILcom/example/faultgauge/faultgauge/exec/TestResult$Difference;Lcom/example/faultgauge/faultgauge/exec/Ending;ILjava/lang/String;)V" } : Jvm.MethodName) prog_53_method_1_code (6 : Nat) (Option.none : Option Jvm.ClassFile.FieldType), Jvm.Cond.code ({ cls := "com/example/faultgauge/faultgauge/exec/TestResult", name := "equals", desc := "(Ljava/lang/Object;)Z" } : Jvm.MethodName) prog_53_method_9_code (3 : Nat) (Option.some Jvm.ClassFile.FieldType.boolean), Jvm.Cond.code ({ cls := "java/lang/String", name := "valueOf", desc := "(C)Ljava/lang/String;" } : Jvm.MethodName) jdk_42_method_139_code (1 : Nat) (Option.some (Jvm.ClassFile.FieldType.object "java/lang/String")), Jvm.Cond.code ({ cls := "java/lang/StringLatin1", name := "canEncode", desc := "(C)Z" } : Jvm.MethodName) jdk_43_method_3_code (1 : Nat) (Option.some Jvm.ClassFile.FieldType.boolean), Jvm.Cond.code ({ cls := "java/lang/StringLatin1", name := "toBytes", desc := "(C)[B" } : Jvm.MethodName) jdk_43_method_46_code (1 : Nat) (Option.some (Jvm.ClassFile.FieldType.array Jvm.ClassFile.FieldType.byte)), Jvm.Cond.code ({ cls := "java/lang/String", name := "<init>", desc := "([BB)V" } : Jvm.MethodName) jdk_42_method_151_code (3 : Nat) (Option.none : Option Jvm.ClassFile.FieldType), Jvm.Cond.code ({ cls := "java/lang/Integer", name := "valueOf", desc := "(I)Ljava/lang/Integer;" } : Jvm.MethodName) jdk_33_method_22_code (1 : Nat) (Option.some (Jvm.ClassFile.FieldType.object "java/lang/Integer")), Jvm.Cond.code ({ cls := "java/lang/Integer", name := "<init>", desc := "(I)V" } : Jvm.MethodName) jdk_33_method_23_code (2 : Nat) (Option.none : Option Jvm.ClassFile.FieldType), Jvm.Cond.code ({ cls := "java/lang/Number", name := "<init>", desc := "()V" } : Jvm.MethodName) jdk_18_method_1_code (1 : Nat) (Option.none : Option Jvm.ClassFile.FieldType), Jvm.Cond.code ({ cls := "java/lang/String", name := "equals", desc := "(Ljava/lang/Object;)Z" } : Jvm.MethodName) jdk_42_method_66_code (3 : Nat) (Option.some Jvm.ClassFile.FieldType.boolean), Jvm.Cond.code ({ cls := "java/lang/StringLatin1", name := "equals", desc := "([B[B)Z" } : Jvm.MethodName) jdk_43_method_13_code (3 : Nat) (Option.some Jvm.ClassFile.FieldType.boolean)]
set_option maxRecDepth 65536 in
theorem codes_eq : words1.filter isCode = codes1 := rfl
theorem w_codes : ∀ c ∈ words1.filter isCode, c.before args0 about1 = true := by
  rw [codes_eq]
  intro c hc
  simp only [codes1, List.mem_cons, List.not_mem_nil, or_false] at hc
  rcases hc with rfl | rfl | rfl | rfl | rfl | rfl | rfl | rfl | rfl | rfl | rfl | rfl | rfl | rfl | rfl | rfl | rfl | rfl | rfl | rfl
  · exact w_c0
  · exact w_c1
  · exact w_c2
  · exact w_c3
  · exact w_c4
  · exact w_c5
  · exact w_c6
  · exact w_c7
  · exact w_c8
  · exact w_c9
  · exact w_c10
  · exact w_c11
  · exact w_c12
  · exact w_c13
  · exact w_c14
  · exact w_c15
  · exact w_c16
  · exact w_c17
  · exact w_c18
  · exact w_c19
set_option maxRecDepth 65536 in
theorem w_t1 : (words1.take 24).all (fun c => isCode c || c.before args0 about1) = true := by decide +kernel
set_option maxRecDepth 65536 in
theorem w_t2 : ((words1.drop 24).take 24).all (fun c => isCode c || c.before args0 about1) = true := by decide +kernel
set_option maxRecDepth 65536 in
theorem w_t3 : (((words1.drop 24).drop 24).take 24).all (fun c => isCode c || c.before args0 about1) = true := by decide +kernel
set_option maxRecDepth 65536 in
theorem w_t4 : ((((words1.drop 24).drop 24).drop 24).take 24).all (fun c => isCode c || c.before args0 about1) = true := by decide +kernel
set_option maxRecDepth 65536 in
theorem w_t5 : (((((words1.drop 24).drop 24).drop 24).drop 24).take 24).all (fun c => isCode c || c.before args0 about1) = true := by decide +kernel
set_option maxRecDepth 65536 in
theorem w_t6 : (((((words1.drop 24).drop 24).drop 24).drop 24).drop 24).all (fun c => isCode c || c.before args0 about1) = true := by decide +kernel
theorem w_tables : (allAtoms (Jvm.Cond.code x code maxLocals ret :: tables_1)).before args0 about1 = true := by
  rw [allAtoms_all]
  show words1.all (fun c => c.before args0 about1) = true
  refine all_split ?_ w_codes
  rw [← List.take_append_drop 24 words1, List.all_append, w_t1, ← List.take_append_drop 24 (words1.drop 24), List.all_append, w_t2, ← List.take_append_drop 24 ((words1.drop 24).drop 24), List.all_append, w_t3, ← List.take_append_drop 24 (((words1.drop 24).drop 24).drop 24), List.all_append, w_t4, ← List.take_append_drop 24 ((((words1.drop 24).drop 24).drop 24).drop 24), List.all_append, w_t5, w_t6]
  rfl
set_option maxRecDepth 65536 in
theorem w_rest : rest_1_c.before args0 about1 = true := by decide +kernel
set_option maxRecDepth 65536 in
theorem w_case : (Jvm.Cond.and given_1 narrow_1).before args0 about1 = true := by decide +kernel
theorem w_applies : (headSpec (Jvm.Cond.code x code maxLocals ret :: tables_1) room_1).applies x e0.platform about1 = true :=
  (Spec.applies_iff w_frames).mpr ⟨w_running, w_runnable, w_alone, w_named, w_hears, w_ripe, w_room, w_tables⟩
theorem atStart : AtStart classFile x code maxLocals ret World_1 tables_1 room_1 Calls_1 rest_1 Pre_1 launch0 p0 e0 about1 theMethod args0 below0 :=
  ⟨lists_1, trivial, launch0.admits_env _ _ _, launch0.least_env, fairChoices_fair.cas, fairChoices_fair.clock, w_frames, w_args, w_heap, w_applies, trivial, w_rest, w_case⟩
end start1
theorem witness_1 : WitnessClaimed_1 := ⟨start1.p0, start1.e0, start1.about1, start1.theMethod, start1.args0, start1.below0, start1.atStart⟩
end Jvm.Pilot.@@N@@
