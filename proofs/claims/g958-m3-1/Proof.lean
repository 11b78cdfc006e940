import JvmDerived
import JvmDerived.Pilot.@@N@@Statement
import JvmDerived.Pilot.@@N@@Code
set_option linter.unusedVariables false
set_option linter.unusedSimpArgs false
namespace Jvm.Pilot.@@N@@
open Jvm Jvm.ClassFile Sem Op Lib Jvm.Free Jvm.Stand Jvm.LawKit Jvm.RoadKit Bundle Jvm.Pilot.@@N@@.Jvm.D
/-! ## the walking judgement -/
section Core
variable {w : Bool} {Z : State} {EL : List (String × Nat)} {own nm : String} {bytes : ByteArray} {ml : Nat} {ret : Option FieldType} {R : Room} {hS : Heap} {ws : List Addr} {Q : Option Value → Heap → Prop} {os : List Addr} {cells slots : Nat} {h h' : Heap} {pc pc' : Nat} {Ls Ls' : Array Slot} {rest : List Value} {a0 : Array Value}
def Ok (p : Program) (s : State) (m : MethodId) (meth : Method) (c : Code) (Z : State) (own nm : String) (bytes : ByteArray) (ml : Nat) (ret : Option FieldType) : Prop :=
  p.tables.exec = Jvm.exec ∧ c.code = bytes ∧ c.maxLocals = ml ∧ Z.Warmed39 s.vm ∧ s.vm.findClass own = some m.cls ∧ meth.name = nm ∧ meth.sig.returnType = ret ∧ meth.locks = false
/-- what is known of the tables at hand: in a plain walk they are the start's; in a wide one literals may have been loaded -/
def Sn : Bool → State → List (String × Nat) → State → Vm → Heap → List Addr → Prop
  | false, _, _, s, vm0, _, _ => vm0 = s.vm
  | true, Z, EL, s, vm0, h, os => (∃ k0, s.Since vm0 k0 ∧ k0 ≤ h.size) ∧ CHr Z EL s.vm s.heap vm0 h ∧ (∃ a0, EW Z a0 EL) ∧ ∀ x ∈ os, x < h.size ∧ Safe Z EL vm0 h x
def EndC : Bool → State → List (String × Nat) → State → Outcome → State → List Loc → Nat → Nat → Prop
  | false, _, _, s, o, t, L, k, n => FrameEnd s o t L k n
  | true, Z, EL, s, o, t, L, k, n => CHr Z EL s.vm s.heap t.vm t.heap ∧ ReturnedEndW s o t L k n
def Go (w : Bool) (Z : State) (EL : List (String × Nat)) (p : Program) (e : Env) (s : State) (below : List Frame) (R : Room) (hS : Heap) (ws : List Addr) (Q : Option Value → Heap → Prop) (S : State) : Prop :=
  ∃ s₂ o, Steps p.tables e below S s₂ ∧ s₂.status = .running ∧ Ended s₂ below o ∧ ∃ v L, o = .returned v ∧ (Fr Z.heap.size L ∧ Keep hS s₂.heap ws ∧ Q v s₂.heap) ∧ EndC w Z EL s o s₂ L R.cells R.slots
/-- the walk stands at pc over the heap h and ends as Q says -/
def Rn (w : Bool) (Z : State) (EL : List (String × Nat)) (own nm : String) (bytes : ByteArray) (ml : Nat) (ret : Option FieldType) (R : Room) (hS : Heap) (ws : List Addr) (Q : Option Value → Heap → Prop) (os : List Addr) (cells slots : Nat) (h : Heap) (pc : Nat) (Ls : Array Slot) (st : List Value) : Prop :=
  ∀ (p : Program) (l : Launch) (e : Env) (s : State) (vm0 : Vm) (m : MethodId) (args : Array Value) (below : List Frame) (meth : Method) (c : Code) (T : State) (locs : List Loc),
    Ok p (s.setVm vm0) m meth c Z own nm bytes ml ret → Stand p l e R (s.setVm vm0) m args below meth c T locs cells slots → Sn w Z EL s vm0 h os → Fr Z.heap.size locs → Keep hS h ws → (Ext Z.heap hS ∧ ∀ x ∈ ws, Z.heap.size ≤ x) → T.heap = h →
    Go w Z EL p e s below R hS ws Q (T.setTop (mkF m pc Ls st))
theorem Go.pre {p : Program} {e : Env} {s : State} {below : List Frame} {S S' : State} (k : ∀ t, Steps p.tables e below S' t → Steps p.tables e below S t) (g : Go w Z EL p e s below R hS ws Q S') : Go w Z EL p e s below R hS ws Q S := by
  obtain ⟨s₂, o, h1, r⟩ := g
  exact ⟨s₂, o, k _ h1, r⟩
/-- a step that moves nothing but the frame -/
theorem Rn.pure {st st' : List Value} (k : Rn w Z EL own nm bytes ml ret R hS ws Q os cells slots h pc' Ls' st')
    (f : ∀ (p : Program) (l : Launch) (e : Env) (s : State) (m : MethodId) (args : Array Value) (below : List Frame) (meth : Method) (c : Code) (T : State) (locs : List Loc), p.tables.exec = Jvm.exec → c.code = bytes → Stand p l e R s m args below meth c T locs cells slots → Z.Warmed39 s.vm → s.vm.findClass own = some m.cls → T.heap = h → ∀ t, Steps p.tables e below (T.setTop (mkF m pc' Ls' st')) t → Steps p.tables e below (T.setTop (mkF m pc Ls st)) t) :
    Rn w Z EL own nm bytes ml ret R hS ws Q os cells slots h pc Ls st := by
  intro p l e s vm0 m args below meth c T locs ok X sn fr K O eT
  exact (k p l e s vm0 m args below meth c T locs ok X sn fr K O eT).pre (f p l e _ m args below meth c T locs ok.1 ok.2.1 X ok.2.2.2.1 ok.2.2.2.2.1 eT)
/-- a step that may resolve an entry of the tables, and moves nothing else but the frame -/
theorem Rn.note {st st' : List Value} (k : Rn w Z EL own nm bytes ml ret R hS ws Q os cells slots h pc' Ls' st')
    (f : ∀ (p : Program) (l : Launch) (e : Env) (s : State) (m : MethodId) (args : Array Value) (below : List Frame) (meth : Method) (c : Code) (T : State) (locs : List Loc), p.tables.exec = Jvm.exec → c.code = bytes → c.maxLocals = ml → Stand p l e R s m args below meth c T locs cells slots → Z.Warmed39 s.vm → s.vm.findClass own = some m.cls → T.heap = h → ∃ T', Stand p l e R s m args below meth c T' locs cells slots ∧ T'.heap = h ∧ ∀ t, Steps p.tables e below (T'.setTop (mkF m pc' Ls' st')) t → Steps p.tables e below (T.setTop (mkF m pc Ls st)) t) :
    Rn w Z EL own nm bytes ml ret R hS ws Q os cells slots h pc Ls st := by
  intro p l e s vm0 m args below meth c T locs ok X sn fr K O eT
  obtain ⟨T', X', e', stp⟩ := f p l e _ m args below meth c T locs ok.1 ok.2.1 ok.2.2.1 X ok.2.2.2.1 ok.2.2.2.2.1 eT
  exact (k p l e s vm0 m args below meth c T' locs ok X' sn fr K O e').pre stp
theorem Sn.ext {s : State} {vm0 : Vm} (E : Ext h h') (sn : Sn w Z EL s vm0 h os) : Sn w Z EL s vm0 h' os := by
  cases w
  · exact sn
  · obtain ⟨⟨k0, a, b⟩, c, d, f⟩ := sn
    exact ⟨⟨k0, a, Nat.le_trans b E.1⟩, c.trans (CHr.ext E c.1), d, fun x hx => ⟨Nat.lt_of_lt_of_le (f x hx).1 E.1, (f x hx).2.ext E c.1⟩⟩
/-- the address may be written: no literal's cell -/
def Sf (w : Bool) (Z : State) (EL : List (String × Nat)) (os : List Addr) (h : Heap) (a : Addr) : Prop := w = true → a ∈ os ∨ ∀ vm, Z.vm.Alike vm → Safe Z EL vm h a
theorem Sf.no {a : Addr} : Sf false Z EL os h a := fun q => nomatch q
theorem Sf.mem {a : Addr} (q : a ∈ os) : Sf w Z EL os h a := fun _ => Or.inl q
theorem Sf.exa {a : Addr} {C : String} (E : Exa Z h a C) (h1 : C ≠ "java/lang/String") (h2 : C ≠ "[B") : Sf w Z EL os h a := fun _ => Or.inr fun _ al => Safe.exa al E h1 h2
theorem Sf.arr {a : Addr} {cl : Cell} {ty : FieldType} (A : Arr Z h a cl ty) (ht : ty ≠ .byte) : Sf w Z EL os h a := fun _ => Or.inr fun _ al => Safe.arr al A ht
theorem Sn.keep {s : State} {vm0 : Vm} {ws' : List Addr} (hZ : Z.Warmed39 vm0) (K : Keep h h' ws') (q : ∀ x ∈ ws', Sf w Z EL os h x) (sn : Sn w Z EL s vm0 h os) : Sn w Z EL s vm0 h' os := by
  cases w
  · exact sn
  · obtain ⟨⟨k0, a, b⟩, c, d, f⟩ := sn
    have q' : ∀ x ∈ ws', Safe Z EL vm0 h x := fun x hx => ((q x hx) rfl).elim (fun z => (f x z).2) (fun z => z _ hZ.alike)
    exact ⟨⟨k0, a, Nat.le_trans b K.1⟩, c.trans (CHr.keep K q' c.1), d, fun x hx => ⟨Nat.lt_of_lt_of_le (f x hx).1 K.1, (f x hx).2.keep K q' c.1⟩⟩
theorem Sn.wr {s : State} {vm0 : Vm} {a : Addr} {sl : Nat} {v : Value} (hZ : Z.Warmed39 vm0) (W : Wr h h' a sl v) (q : Sf w Z EL os h a) (sn : Sn w Z EL s vm0 h os) : Sn w Z EL s vm0 h' os :=
  sn.keep hZ (Keep.of_wr W) fun x hx => by cases List.mem_singleton.mp hx; exact q
theorem ge_of {a : Addr} (O : Ext Z.heap hS ∧ ∀ x ∈ ws, Z.heap.size ≤ x) (q : a ∈ ws ∨ hS.size ≤ a) : Z.heap.size ≤ a := q.elim (O.2 a) fun z => Nat.le_trans O.1.1 z
theorem Rn.wrote {st st' : List Value} {a : Addr} {sl : Nat} {v : Value} (q : a ∈ ws ∨ hS.size ≤ a) (sf : Sf w Z EL os h a) (k : ∀ h', Wr h h' a sl v → Rn w Z EL own nm bytes ml ret R hS ws Q os cells slots h' pc' Ls' st')
    (f : ∀ (p : Program) (l : Launch) (e : Env) (s : State) (m : MethodId) (args : Array Value) (below : List Frame) (meth : Method) (c : Code) (T : State) (locs : List Loc), p.tables.exec = Jvm.exec → c.code = bytes → meth.name = nm → Stand p l e R s m args below meth c T locs cells slots → Z.Warmed39 s.vm → s.vm.findClass own = some m.cls → T.heap = h → ∃ T' h', Stand p l e R s m args below meth c T' (locs ++ [⟨a, sl⟩]) cells slots ∧ T'.heap = h' ∧ Wr h h' a sl v ∧ ∀ t, Steps p.tables e below (T'.setTop (mkF m pc' Ls' st')) t → Steps p.tables e below (T.setTop (mkF m pc Ls st)) t) :
    Rn w Z EL own nm bytes ml ret R hS ws Q os cells slots h pc Ls st := by
  intro p l e s vm0 m args below meth c T locs ok X sn fr K O eT
  obtain ⟨T', h', X', e', W, stp⟩ := f p l e _ m args below meth c T locs ok.1 ok.2.1 ok.2.2.2.2.2.1 X ok.2.2.2.1 ok.2.2.2.2.1 eT
  exact (k h' W p l e s vm0 m args below meth c T' _ ok X' (sn.wr ok.2.2.2.1 W sf) (Fr.snoc X' fr (ge_of O q)) (K.wr W q) O e').pre stp
theorem Rn.made {st st' : Addr → List Value} {st0 : List Value} {G : Heap → Addr → Prop} {c1 s1 : Nat} (k : ∀ h' a, a = h.size → hS.size ≤ a → Ext h h' → G h' a → Rn w Z EL own nm bytes ml ret R hS ws Q (a :: os) (cells + c1) (slots + s1) h' pc' Ls' (st' a))
    (lt : ∀ h', G h' h.size → h.size < h'.size)
    (f : ∀ (p : Program) (l : Launch) (e : Env) (s : State) (m : MethodId) (args : Array Value) (below : List Frame) (meth : Method) (c : Code) (T : State) (locs : List Loc), p.tables.exec = Jvm.exec → c.code = bytes → Stand p l e R s m args below meth c T locs cells slots → Z.Warmed39 s.vm → s.vm.findClass own = some m.cls → T.heap = h → ∃ T' h', Stand p l e R s m args below meth c T' locs (cells + c1) (slots + s1) ∧ T'.heap = h' ∧ Ext h h' ∧ G h' h.size ∧ ∀ t, Steps p.tables e below (T'.setTop (mkF m pc' Ls' (st' h.size))) t → Steps p.tables e below (T.setTop (mkF m pc Ls st0)) t) :
    Rn w Z EL own nm bytes ml ret R hS ws Q os cells slots h pc Ls st0 := by
  intro p l e s vm0 m args below meth c T locs ok X sn fr K O eT
  obtain ⟨T', h', X', e', E, g, stp⟩ := f p l e _ m args below meth c T locs ok.1 ok.2.1 X ok.2.2.2.1 ok.2.2.2.2.1 eT
  have sn1 : Sn w Z EL s vm0 h' os := sn.ext E
  have sn' : Sn w Z EL s vm0 h' (h.size :: os) := by
    cases w
    · exact sn1
    · refine ⟨sn1.1, sn1.2.1, sn1.2.2.1, fun x hx => ?_⟩
      rcases List.mem_cons.mp hx with rfl | hx
      · exact ⟨lt h' g, (Safe.new (Nat.le_refl _)).ext E sn.2.1.1⟩
      · exact sn1.2.2.2 x hx
  exact (k h' h.size rfl K.1 E g p l e s vm0 m args below meth c T' _ ok X' sn' fr (K.ext E) O e').pre stp
theorem Rn.old (k : Ext Z.heap h → Keep hS h ws → Rn w Z EL own nm bytes ml ret R hS ws Q os cells slots h pc Ls rest) : Rn w Z EL own nm bytes ml ret R hS ws Q os cells slots h pc Ls rest := by
  intro p l e s vm0 m args below meth c T locs ok X sn fr K O eT
  have X0 : Old Z Z.heap.size h := Old.keep (h := hS) ⟨rfl, O.1⟩ K O.2
  exact k X0.2 K p l e s vm0 m args below meth c T locs ok X sn fr K O eT
theorem Rn.more {c2 s2 : Nat} (hc : cells ≤ c2) (hs : slots ≤ s2) (k : Rn w Z EL own nm bytes ml ret R hS ws Q os c2 s2 h pc Ls rest) : Rn w Z EL own nm bytes ml ret R hS ws Q os cells slots h pc Ls rest := by
  intro p l e s vm0 m args below meth c T locs ok X sn fr K O eT
  exact k p l e s vm0 m args below meth c T locs ok (X.more hc hs) sn fr K O eT
theorem Rn.less {os' : List Addr} (q : ∀ x ∈ os', x ∈ os) (k : Rn w Z EL own nm bytes ml ret R hS ws Q os' cells slots h pc Ls rest) : Rn w Z EL own nm bytes ml ret R hS ws Q os cells slots h pc Ls rest := by
  intro p l e s vm0 m args below meth c T locs ok X sn fr K O eT
  refine k p l e s vm0 m args below meth c T locs ok X ?_ fr K O eT
  cases w
  · exact sn
  · exact ⟨sn.1, sn.2.1, sn.2.2.1, fun x hx => sn.2.2.2 x (q x hx)⟩
/-! ### the ends -/
theorem Rn.leave {v : Option Value} {st : List Value} (hc : cells ≤ R.cells) (hs : slots ≤ R.slots) (hv : ret = none → v = none) (q : Q v h)
    (f : ∀ (p : Program) (l : Launch) (e : Env) (s : State) (m : MethodId) (args : Array Value) (below : List Frame) (meth : Method) (c : Code) (T : State) (locs : List Loc) (fs : List Frame), p.tables.exec = Jvm.exec → c.code = bytes → meth.sig.returnType = ret → Stand p l e R s m args below meth c T locs cells slots → (∀ (f : JFrame) (acts : List Action), f.method = m → f.locked = none → f.entered = [] → (doReturn e (T.setTop f) acts v).1 = T.setFrames fs) → Steps p.tables e below (T.setTop (mkF m pc Ls st)) (T.setFrames fs)) :
    Rn w Z EL own nm bytes ml ret R hS ws Q os cells slots h pc Ls st := by
  intro p l e s vm0 m args below meth c T locs ok X sn fr K O eT
  obtain ⟨hx, hby, hml, hZ, hown, hnm, hret, hlk⟩ := ok
  subst eT
  cases w
  · cases (sn : vm0 = s.vm)
    obtain ⟨fs, hr, hrun, hended, hW, hsame⟩ := X.leave (v := v) (fun z => hv (hret.symm.trans z)) hlk
    exact ⟨_, _, f p l e _ m args below meth c T locs fs hx hby hret X hr, hrun, hended, _, _, rfl, ⟨fr, K, q⟩, ⟨_, rfl⟩, hW, hsame.mono hc hs⟩
  · obtain ⟨⟨k0, hS0, hk⟩, hC, ⟨b0, hE⟩, -⟩ := sn
    obtain ⟨fs, hr, hrun, hended, h1, h2, h3, h4⟩ := Jvm.Stand.leaveW X hS0 hk (v := v) (fun z => hv (hret.symm.trans z)) hlk
    exact ⟨_, _, f p l e _ m args below meth c T locs fs hx hby hret X hr, hrun, hended, _, _, rfl, ⟨fr, K, q⟩, (show CHr Z EL s.vm s.heap T.vm T.heap from hC.trans (CHv.at X hZ hE hC.1)), h1, h2, h3, h4.mono hc hs⟩
theorem Rn.retV (hr : ret = none) (hd : decode bytes pc = .ok (.return_, 1)) (hc : cells ≤ R.cells) (hs : slots ≤ R.slots) (q : Q none h) : Rn w Z EL own nm bytes ml ret R hS ws Q os cells slots h pc Ls [] :=
  Rn.leave (v := none) hc hs (fun _ => rfl) q fun p l e s m args below meth c T locs fs hx hby hret X hl => X.returnOut hx (hret.trans hr) (hb hby hd) hl
theorem Rn.retN {t : FieldType} {z : Int32} (hr : ret = some t) (ht : t = .boolean ∨ t = .byte ∨ t = .char ∨ t = .short) (hd : decode bytes pc = .ok (.ireturn, 1)) (hc : cells ≤ R.cells) (hs : slots ≤ R.slots) (q : Q (some (.int (nar t z))) h) : Rn w Z EL own nm bytes ml ret R hS ws Q os cells slots h pc Ls (.int z :: rest) :=
  Rn.leave (v := some (.int (nar t z))) hc hs (fun z => by rw [hr] at z; cases z) q fun p l e s m args below meth c T locs fs hx hby hret X hl => Jvm.RoadKit.retN X hx (hret.trans hr) ht (hb hby hd) hl
theorem Rn.retO {t : FieldType} {v : Value} {i : Instr} (hr : ret = some t) (hn : narrow t v = v) (hi : (i = .ireturn ∧ (t = .int ∨ t = .boolean ∨ t = .byte ∨ t = .char ∨ t = .short) ∧ ∃ z, v = .int z) ∨ (i = .lreturn ∧ t = .long ∧ ∃ z, v = .long z) ∨ (i = .dreturn ∧ t = .double ∧ ∃ z, v = .double z) ∨ (i = .freturn ∧ t = .float ∧ ∃ z, v = .float z) ∨ (i = .areturn ∧ t.isReference = true ∧ v.isRef = true)) (hd : decode bytes pc = .ok (i, 1)) (hc : cells ≤ R.cells) (hs : slots ≤ R.slots) (q : Q (some v) h) : Rn w Z EL own nm bytes ml ret R hS ws Q os cells slots h pc Ls (v :: rest) :=
  Rn.leave (v := some v) hc hs (fun z => by rw [hr] at z; cases z) q fun p l e s m args below meth c T locs fs hx hby hret X hl => retOut X hx (hret.trans hr) hn hi (hb hby hd) hl
theorem Rn.retI {z : Int32} (hr : ret = some .int) (hd : decode bytes pc = .ok (.ireturn, 1)) (hc : cells ≤ R.cells) (hs : slots ≤ R.slots) (q : Q (some (.int z)) h) : Rn w Z EL own nm bytes ml ret R hS ws Q os cells slots h pc Ls (.int z :: rest) :=
  Rn.retO hr rfl (Or.inl ⟨rfl, Or.inl rfl, _, rfl⟩) hd hc hs q
theorem Rn.retJ {z : Int64} (hr : ret = some .long) (hd : decode bytes pc = .ok (.lreturn, 1)) (hc : cells ≤ R.cells) (hs : slots ≤ R.slots) (q : Q (some (.long z)) h) : Rn w Z EL own nm bytes ml ret R hS ws Q os cells slots h pc Ls (.long z :: rest) :=
  Rn.retO hr rfl (Or.inr (Or.inl ⟨rfl, rfl, _, rfl⟩)) hd hc hs q
theorem Rn.retD {z : UInt64} (hr : ret = some .double) (hd : decode bytes pc = .ok (.dreturn, 1)) (hc : cells ≤ R.cells) (hs : slots ≤ R.slots) (q : Q (some (.double z)) h) : Rn w Z EL own nm bytes ml ret R hS ws Q os cells slots h pc Ls (.double z :: rest) :=
  Rn.retO hr rfl (Or.inr (Or.inr (Or.inl ⟨rfl, rfl, _, rfl⟩))) hd hc hs q
theorem Rn.retA {t : FieldType} {v : Value} (hr : ret = some t) (ht : t.isReference = true) (hv : v.isRef = true) (hd : decode bytes pc = .ok (.areturn, 1)) (hc : cells ≤ R.cells) (hs : slots ≤ R.slots) (q : Q (some v) h) : Rn w Z EL own nm bytes ml ret R hS ws Q os cells slots h pc Ls (v :: rest) :=
  Rn.retO hr (by rcases ref_cases hv with rfl | ⟨a, rfl⟩ <;> cases t <;> simp [FieldType.isReference] at ht <;> rfl) (Or.inr (Or.inr (Or.inr (Or.inr ⟨rfl, ht, hv⟩)))) hd hc hs q
end Core
section Steps
variable {w : Bool} {Z : State} {EL : List (String × Nat)} {own nm : String} {bytes : ByteArray} {ml : Nat} {ret : Option FieldType} {R : Room} {hS : Heap} {ws : List Addr} {Q : Option Value → Heap → Prop} {os : List Addr} {cells slots : Nat} {h h' : Heap} {pc pc' : Nat} {Ls Ls' : Array Slot} {rest : List Value} {a0 : Array Value}
theorem Rn.iconst {i : Int} {v : Int32} (hd : decode bytes pc = .ok (.iconst i, 1)) (hv : Int32.ofInt i = v) (hp : pc + 1 = pc') (k : Rn w Z EL own nm bytes ml ret R hS ws Q os cells slots h pc' Ls (.int v :: rest)) : Rn w Z EL own nm bytes ml ret R hS ws Q os cells slots h pc Ls rest :=
  k.pure fun p l e s m args below meth c T locs hx hby X hZ hown eT t r => by subst hp; exact XS.iconst X.here hx rfl (hb hby hd) (hv ▸ r)
theorem Rn.bipush {i : Int} {v : Int32} (hd : decode bytes pc = .ok (.bipush i, 2)) (hv : (Int8.ofInt i).toInt32 = v) (hp : pc + 2 = pc') (k : Rn w Z EL own nm bytes ml ret R hS ws Q os cells slots h pc' Ls (.int v :: rest)) : Rn w Z EL own nm bytes ml ret R hS ws Q os cells slots h pc Ls rest :=
  k.pure fun p l e s m args below meth c T locs hx hby X hZ hown eT t r => by subst hp; exact XS.bipush X.here hx rfl (hb hby hd) (hv ▸ r)
theorem Rn.sipush {i : Int} {v : Int32} (hd : decode bytes pc = .ok (.sipush i, 3)) (hv : (Int16.ofInt i).toInt32 = v) (hp : pc + 3 = pc') (k : Rn w Z EL own nm bytes ml ret R hS ws Q os cells slots h pc' Ls (.int v :: rest)) : Rn w Z EL own nm bytes ml ret R hS ws Q os cells slots h pc Ls rest :=
  k.pure fun p l e s m args below meth c T locs hx hby X hZ hown eT t r => by subst hp; exact XS.sipush X.here hx rfl (hb hby hd) (hv ▸ r)
theorem Rn.lconst {i : Fin 2} {v : Int64} (hd : decode bytes pc = .ok (.lconst i, 1)) (hv : Int64.ofNat i = v) (hp : pc + 1 = pc') (k : Rn w Z EL own nm bytes ml ret R hS ws Q os cells slots h pc' Ls (.long v :: rest)) : Rn w Z EL own nm bytes ml ret R hS ws Q os cells slots h pc Ls rest :=
  k.pure fun p l e s m args below meth c T locs hx hby X hZ hown eT t r => by subst hp; exact XT.lconst X.here hx rfl (hb hby hd) (hv ▸ r)
theorem Rn.dconst0 {v : UInt64} (hd : decode bytes pc = .ok (.dconst 0, 1)) (hv : FP.dconst0 = v) (hp : pc + 1 = pc') (k : Rn w Z EL own nm bytes ml ret R hS ws Q os cells slots h pc' Ls (.double v :: rest)) : Rn w Z EL own nm bytes ml ret R hS ws Q os cells slots h pc Ls rest :=
  k.pure fun p l e s m args below meth c T locs hx hby X hZ hown eT t r => by subst hp; exact XS.dconst0 X.here hx rfl (hb hby hd) hv r
theorem Rn.dconst1 {v : UInt64} (hd : decode bytes pc = .ok (.dconst 1, 1)) (hv : FP.dconst1 = v) (hp : pc + 1 = pc') (k : Rn w Z EL own nm bytes ml ret R hS ws Q os cells slots h pc' Ls (.double v :: rest)) : Rn w Z EL own nm bytes ml ret R hS ws Q os cells slots h pc Ls rest :=
  k.pure fun p l e s m args below meth c T locs hx hby X hZ hown eT t r => by subst hp; exact XS.dconst1 X.here hx rfl (hb hby hd) hv r
theorem Rn.aconst_null  (hd : decode bytes pc = .ok (.aconst_null, 1)) (hp : pc + 1 = pc') (k : Rn w Z EL own nm bytes ml ret R hS ws Q os cells slots h pc' Ls (.null :: rest)) : Rn w Z EL own nm bytes ml ret R hS ws Q os cells slots h pc Ls rest :=
  k.pure fun p l e s m args below meth c T locs hx hby X hZ hown eT t r => by subst hp; exact XS.aconstNull X.here hx rfl (hb hby hd) r
theorem Rn.iload {n : Nat} {v : Int32} (hd : decode bytes pc = .ok (.iload n, 2)) (hl : Ls[n]? = some (.val (.int v))) (hp : pc + 2 = pc') (k : Rn w Z EL own nm bytes ml ret R hS ws Q os cells slots h pc' Ls (.int v :: rest)) : Rn w Z EL own nm bytes ml ret R hS ws Q os cells slots h pc Ls rest :=
  k.pure fun p l e s m args below meth c T locs hx hby X hZ hown eT t r => by subst hp; exact XS.iload X.here hx rfl (hb hby hd) hl r
theorem Rn.iloadN {n : Fin 4} {v : Int32} (hd : decode bytes pc = .ok (.iload_n n, 1)) (hl : Ls[n.val]? = some (.val (.int v))) (hp : pc + 1 = pc') (k : Rn w Z EL own nm bytes ml ret R hS ws Q os cells slots h pc' Ls (.int v :: rest)) : Rn w Z EL own nm bytes ml ret R hS ws Q os cells slots h pc Ls rest :=
  k.pure fun p l e s m args below meth c T locs hx hby X hZ hown eT t r => by subst hp; exact XS.iloadN X.here hx rfl (hb hby hd) hl r
theorem Rn.istore {n : Nat} {v : Int32} (hd : decode bytes pc = .ok (.istore n, 2)) (hl : storeLocals Ls n (.int v) = some Ls') (hp : pc + 2 = pc') (k : Rn w Z EL own nm bytes ml ret R hS ws Q os cells slots h pc' Ls' rest) : Rn w Z EL own nm bytes ml ret R hS ws Q os cells slots h pc Ls (.int v :: rest) :=
  k.pure fun p l e s m args below meth c T locs hx hby X hZ hown eT t r => by subst hp; exact XS.istore X.here hx rfl (hb hby hd) rfl hl r
theorem Rn.istoreN {n : Fin 4} {v : Int32} (hd : decode bytes pc = .ok (.istore_n n, 1)) (hl : storeLocals Ls n.val (.int v) = some Ls') (hp : pc + 1 = pc') (k : Rn w Z EL own nm bytes ml ret R hS ws Q os cells slots h pc' Ls' rest) : Rn w Z EL own nm bytes ml ret R hS ws Q os cells slots h pc Ls (.int v :: rest) :=
  k.pure fun p l e s m args below meth c T locs hx hby X hZ hown eT t r => by subst hp; exact XS.istoreN X.here hx rfl (hb hby hd) rfl hl r
theorem Rn.lload {n : Nat} {v : Int64} (hd : decode bytes pc = .ok (.lload n, 2)) (hl : Ls[n]? = some (.val (.long v))) (hp : pc + 2 = pc') (k : Rn w Z EL own nm bytes ml ret R hS ws Q os cells slots h pc' Ls (.long v :: rest)) : Rn w Z EL own nm bytes ml ret R hS ws Q os cells slots h pc Ls rest :=
  k.pure fun p l e s m args below meth c T locs hx hby X hZ hown eT t r => by subst hp; exact XT.lload X.here hx rfl (hb hby hd) hl r
theorem Rn.lloadN {n : Fin 4} {v : Int64} (hd : decode bytes pc = .ok (.lload_n n, 1)) (hl : Ls[n.val]? = some (.val (.long v))) (hp : pc + 1 = pc') (k : Rn w Z EL own nm bytes ml ret R hS ws Q os cells slots h pc' Ls (.long v :: rest)) : Rn w Z EL own nm bytes ml ret R hS ws Q os cells slots h pc Ls rest :=
  k.pure fun p l e s m args below meth c T locs hx hby X hZ hown eT t r => by subst hp; exact XT.lloadN X.here hx rfl (hb hby hd) hl r
theorem Rn.lstore {n : Nat} {v : Int64} (hd : decode bytes pc = .ok (.lstore n, 2)) (hl : storeLocals Ls n (.long v) = some Ls') (hp : pc + 2 = pc') (k : Rn w Z EL own nm bytes ml ret R hS ws Q os cells slots h pc' Ls' rest) : Rn w Z EL own nm bytes ml ret R hS ws Q os cells slots h pc Ls (.long v :: rest) :=
  k.pure fun p l e s m args below meth c T locs hx hby X hZ hown eT t r => by subst hp; exact XT.lstore X.here hx rfl (hb hby hd) rfl hl r
theorem Rn.lstoreN {n : Fin 4} {v : Int64} (hd : decode bytes pc = .ok (.lstore_n n, 1)) (hl : storeLocals Ls n.val (.long v) = some Ls') (hp : pc + 1 = pc') (k : Rn w Z EL own nm bytes ml ret R hS ws Q os cells slots h pc' Ls' rest) : Rn w Z EL own nm bytes ml ret R hS ws Q os cells slots h pc Ls (.long v :: rest) :=
  k.pure fun p l e s m args below meth c T locs hx hby X hZ hown eT t r => by subst hp; exact XT.lstoreN X.here hx rfl (hb hby hd) rfl hl r
theorem Rn.dload {n : Nat} {v : UInt64} (hd : decode bytes pc = .ok (.dload n, 2)) (hl : Ls[n]? = some (.val (.double v))) (hp : pc + 2 = pc') (k : Rn w Z EL own nm bytes ml ret R hS ws Q os cells slots h pc' Ls (.double v :: rest)) : Rn w Z EL own nm bytes ml ret R hS ws Q os cells slots h pc Ls rest :=
  k.pure fun p l e s m args below meth c T locs hx hby X hZ hown eT t r => by subst hp; exact XS.dload X.here hx rfl (hb hby hd) hl r
theorem Rn.dloadN {n : Fin 4} {v : UInt64} (hd : decode bytes pc = .ok (.dload_n n, 1)) (hl : Ls[n.val]? = some (.val (.double v))) (hp : pc + 1 = pc') (k : Rn w Z EL own nm bytes ml ret R hS ws Q os cells slots h pc' Ls (.double v :: rest)) : Rn w Z EL own nm bytes ml ret R hS ws Q os cells slots h pc Ls rest :=
  k.pure fun p l e s m args below meth c T locs hx hby X hZ hown eT t r => by subst hp; exact XS.dloadN X.here hx rfl (hb hby hd) hl r
theorem Rn.dstore {n : Nat} {v : UInt64} (hd : decode bytes pc = .ok (.dstore n, 2)) (hl : storeLocals Ls n (.double v) = some Ls') (hp : pc + 2 = pc') (k : Rn w Z EL own nm bytes ml ret R hS ws Q os cells slots h pc' Ls' rest) : Rn w Z EL own nm bytes ml ret R hS ws Q os cells slots h pc Ls (.double v :: rest) :=
  k.pure fun p l e s m args below meth c T locs hx hby X hZ hown eT t r => by subst hp; exact XS.dstore X.here hx rfl (hb hby hd) rfl hl r
theorem Rn.dstoreN {n : Fin 4} {v : UInt64} (hd : decode bytes pc = .ok (.dstore_n n, 1)) (hl : storeLocals Ls n.val (.double v) = some Ls') (hp : pc + 1 = pc') (k : Rn w Z EL own nm bytes ml ret R hS ws Q os cells slots h pc' Ls' rest) : Rn w Z EL own nm bytes ml ret R hS ws Q os cells slots h pc Ls (.double v :: rest) :=
  k.pure fun p l e s m args below meth c T locs hx hby X hZ hown eT t r => by subst hp; exact XS.dstoreN X.here hx rfl (hb hby hd) rfl hl r
theorem Rn.aload {n : Nat} {v : Value} (hd : decode bytes pc = .ok (.aload n, 2)) (hl : Ls[n]? = some (.val v)) (hv : v.isRef = true) (hp : pc + 2 = pc') (k : Rn w Z EL own nm bytes ml ret R hS ws Q os cells slots h pc' Ls (v :: rest)) : Rn w Z EL own nm bytes ml ret R hS ws Q os cells slots h pc Ls rest :=
  k.pure fun p l e s m args below meth c T locs hx hby X hZ hown eT t r => by subst hp; exact XS.aload X.here hx rfl (hb hby hd) hl hv r
theorem Rn.aloadN {n : Fin 4} {v : Value} (hd : decode bytes pc = .ok (.aload_n n, 1)) (hl : Ls[n.val]? = some (.val v)) (hv : v.isRef = true) (hp : pc + 1 = pc') (k : Rn w Z EL own nm bytes ml ret R hS ws Q os cells slots h pc' Ls (v :: rest)) : Rn w Z EL own nm bytes ml ret R hS ws Q os cells slots h pc Ls rest :=
  k.pure fun p l e s m args below meth c T locs hx hby X hZ hown eT t r => by subst hp; exact XS.aloadN X.here hx rfl (hb hby hd) hl hv r
theorem Rn.astore {n : Nat} {v : Value} (hd : decode bytes pc = .ok (.astore n, 2)) (hv : v.isRef = true) (hl : storeLocals Ls n v = some Ls') (hp : pc + 2 = pc') (k : Rn w Z EL own nm bytes ml ret R hS ws Q os cells slots h pc' Ls' rest) : Rn w Z EL own nm bytes ml ret R hS ws Q os cells slots h pc Ls (v :: rest) :=
  k.pure fun p l e s m args below meth c T locs hx hby X hZ hown eT t r => by subst hp; exact XS.astore X.here hx rfl (hb hby hd) rfl hv hl r
theorem Rn.astoreN {n : Fin 4} {v : Value} (hd : decode bytes pc = .ok (.astore_n n, 1)) (hv : v.isRef = true) (hl : storeLocals Ls n.val v = some Ls') (hp : pc + 1 = pc') (k : Rn w Z EL own nm bytes ml ret R hS ws Q os cells slots h pc' Ls' rest) : Rn w Z EL own nm bytes ml ret R hS ws Q os cells slots h pc Ls (v :: rest) :=
  k.pure fun p l e s m args below meth c T locs hx hby X hZ hown eT t r => by subst hp; exact XS.astoreN X.here hx rfl (hb hby hd) rfl hv hl r
theorem Rn.iinc {n : Nat} {ct : Int} {x v : Int32} (hd : decode bytes pc = .ok (.iinc n ct, 3)) (hl : Ls[n]? = some (.val (.int x))) (hv : x + Int32.ofInt ct = v) (hl' : storeLocals Ls n (.int v) = some Ls') (hp : pc + 3 = pc') (k : Rn w Z EL own nm bytes ml ret R hS ws Q os cells slots h pc' Ls' rest) : Rn w Z EL own nm bytes ml ret R hS ws Q os cells slots h pc Ls rest :=
  k.pure fun p l e s m args below meth c T locs hx hby X hZ hown eT t r => by subst hp; exact XS.iinc X.here hx rfl (hb hby hd) hl (hv ▸ hl') r
theorem Rn.iadd {x y v : Int32} (hd : decode bytes pc = .ok (.iadd, 1)) (hv : x + y = v) (hp : pc + 1 = pc') (k : Rn w Z EL own nm bytes ml ret R hS ws Q os cells slots h pc' Ls (.int v :: rest)) : Rn w Z EL own nm bytes ml ret R hS ws Q os cells slots h pc Ls (.int y :: .int x :: rest) :=
  k.pure fun p l e s m args below meth c T locs hx hby X hZ hown eT t r => by subst hp; exact XS.iadd X.here hx rfl (hb hby hd) rfl (hv ▸ r)
theorem Rn.isub {x y v : Int32} (hd : decode bytes pc = .ok (.isub, 1)) (hv : x - y = v) (hp : pc + 1 = pc') (k : Rn w Z EL own nm bytes ml ret R hS ws Q os cells slots h pc' Ls (.int v :: rest)) : Rn w Z EL own nm bytes ml ret R hS ws Q os cells slots h pc Ls (.int y :: .int x :: rest) :=
  k.pure fun p l e s m args below meth c T locs hx hby X hZ hown eT t r => by subst hp; exact XS.isub X.here hx rfl (hb hby hd) rfl (hv ▸ r)
theorem Rn.imul {x y v : Int32} (hd : decode bytes pc = .ok (.imul, 1)) (hv : x * y = v) (hp : pc + 1 = pc') (k : Rn w Z EL own nm bytes ml ret R hS ws Q os cells slots h pc' Ls (.int v :: rest)) : Rn w Z EL own nm bytes ml ret R hS ws Q os cells slots h pc Ls (.int y :: .int x :: rest) :=
  k.pure fun p l e s m args below meth c T locs hx hby X hZ hown eT t r => by subst hp; exact XS.imul X.here hx rfl (hb hby hd) rfl (hv ▸ r)
theorem Rn.iand {x y v : Int32} (hd : decode bytes pc = .ok (.iand, 1)) (hv : x &&& y = v) (hp : pc + 1 = pc') (k : Rn w Z EL own nm bytes ml ret R hS ws Q os cells slots h pc' Ls (.int v :: rest)) : Rn w Z EL own nm bytes ml ret R hS ws Q os cells slots h pc Ls (.int y :: .int x :: rest) :=
  k.pure fun p l e s m args below meth c T locs hx hby X hZ hown eT t r => by subst hp; exact XS.iand X.here hx rfl (hb hby hd) rfl (hv ▸ r)
theorem Rn.ior {x y v : Int32} (hd : decode bytes pc = .ok (.ior, 1)) (hv : x ||| y = v) (hp : pc + 1 = pc') (k : Rn w Z EL own nm bytes ml ret R hS ws Q os cells slots h pc' Ls (.int v :: rest)) : Rn w Z EL own nm bytes ml ret R hS ws Q os cells slots h pc Ls (.int y :: .int x :: rest) :=
  k.pure fun p l e s m args below meth c T locs hx hby X hZ hown eT t r => by subst hp; exact XT.ior X.here hx rfl (hb hby hd) rfl (hv ▸ r)
theorem Rn.ixor {x y v : Int32} (hd : decode bytes pc = .ok (.ixor, 1)) (hv : x ^^^ y = v) (hp : pc + 1 = pc') (k : Rn w Z EL own nm bytes ml ret R hS ws Q os cells slots h pc' Ls (.int v :: rest)) : Rn w Z EL own nm bytes ml ret R hS ws Q os cells slots h pc Ls (.int y :: .int x :: rest) :=
  k.pure fun p l e s m args below meth c T locs hx hby X hZ hown eT t r => by subst hp; exact XT.ixor X.here hx rfl (hb hby hd) rfl (hv ▸ r)
theorem Rn.ishl {x y v : Int32} (hd : decode bytes pc = .ok (.ishl, 1)) (hv : x <<< (y &&& 31) = v) (hp : pc + 1 = pc') (k : Rn w Z EL own nm bytes ml ret R hS ws Q os cells slots h pc' Ls (.int v :: rest)) : Rn w Z EL own nm bytes ml ret R hS ws Q os cells slots h pc Ls (.int y :: .int x :: rest) :=
  k.pure fun p l e s m args below meth c T locs hx hby X hZ hown eT t r => by subst hp; exact XT.ishl X.here hx rfl (hb hby hd) rfl (hv ▸ r)
theorem Rn.ishr {x y v : Int32} (hd : decode bytes pc = .ok (.ishr, 1)) (hv : x >>> (y &&& 31) = v) (hp : pc + 1 = pc') (k : Rn w Z EL own nm bytes ml ret R hS ws Q os cells slots h pc' Ls (.int v :: rest)) : Rn w Z EL own nm bytes ml ret R hS ws Q os cells slots h pc Ls (.int y :: .int x :: rest) :=
  k.pure fun p l e s m args below meth c T locs hx hby X hZ hown eT t r => by subst hp; exact XT.ishr X.here hx rfl (hb hby hd) rfl (hv ▸ r)
theorem Rn.iushr {x y v : Int32} (hd : decode bytes pc = .ok (.iushr, 1)) (hv : XT.ushr x y = v) (hp : pc + 1 = pc') (k : Rn w Z EL own nm bytes ml ret R hS ws Q os cells slots h pc' Ls (.int v :: rest)) : Rn w Z EL own nm bytes ml ret R hS ws Q os cells slots h pc Ls (.int y :: .int x :: rest) :=
  k.pure fun p l e s m args below meth c T locs hx hby X hZ hown eT t r => by subst hp; exact XT.iushr X.here hx rfl (hb hby hd) rfl (hv ▸ r)
theorem Rn.idiv {x y v : Int32} (hd : decode bytes pc = .ok (.idiv, 1)) (hy : y ≠ 0) (hv : x / y = v) (hp : pc + 1 = pc') (k : Rn w Z EL own nm bytes ml ret R hS ws Q os cells slots h pc' Ls (.int v :: rest)) : Rn w Z EL own nm bytes ml ret R hS ws Q os cells slots h pc Ls (.int y :: .int x :: rest) :=
  k.pure fun p l e s m args below meth c T locs hx hby X hZ hown eT t r => by subst hp; exact XS.idiv X.here hx rfl (hb hby hd) rfl hy (hv ▸ r)
theorem Rn.irem {x y v : Int32} (hd : decode bytes pc = .ok (.irem, 1)) (hy : y ≠ 0) (hv : x % y = v) (hp : pc + 1 = pc') (k : Rn w Z EL own nm bytes ml ret R hS ws Q os cells slots h pc' Ls (.int v :: rest)) : Rn w Z EL own nm bytes ml ret R hS ws Q os cells slots h pc Ls (.int y :: .int x :: rest) :=
  k.pure fun p l e s m args below meth c T locs hx hby X hZ hown eT t r => by subst hp; exact iremM X hx rfl (hb hby hd) rfl hy (hv ▸ r)
theorem Rn.ineg {x v : Int32} (hd : decode bytes pc = .ok (.ineg, 1)) (hv : -x = v) (hp : pc + 1 = pc') (k : Rn w Z EL own nm bytes ml ret R hS ws Q os cells slots h pc' Ls (.int v :: rest)) : Rn w Z EL own nm bytes ml ret R hS ws Q os cells slots h pc Ls (.int x :: rest) :=
  k.pure fun p l e s m args below meth c T locs hx hby X hZ hown eT t r => by subst hp; exact XS.ineg X.here hx rfl (hb hby hd) rfl (hv ▸ r)
theorem Rn.ladd {x y v : Int64} (hd : decode bytes pc = .ok (.ladd, 1)) (hv : x + y = v) (hp : pc + 1 = pc') (k : Rn w Z EL own nm bytes ml ret R hS ws Q os cells slots h pc' Ls (.long v :: rest)) : Rn w Z EL own nm bytes ml ret R hS ws Q os cells slots h pc Ls (.long y :: .long x :: rest) :=
  k.pure fun p l e s m args below meth c T locs hx hby X hZ hown eT t r => by subst hp; exact XT.ladd X.here hx rfl (hb hby hd) rfl (hv ▸ r)
theorem Rn.lsub {x y v : Int64} (hd : decode bytes pc = .ok (.lsub, 1)) (hv : x - y = v) (hp : pc + 1 = pc') (k : Rn w Z EL own nm bytes ml ret R hS ws Q os cells slots h pc' Ls (.long v :: rest)) : Rn w Z EL own nm bytes ml ret R hS ws Q os cells slots h pc Ls (.long y :: .long x :: rest) :=
  k.pure fun p l e s m args below meth c T locs hx hby X hZ hown eT t r => by subst hp; exact XT.lsub X.here hx rfl (hb hby hd) rfl (hv ▸ r)
theorem Rn.lmul {x y v : Int64} (hd : decode bytes pc = .ok (.lmul, 1)) (hv : x * y = v) (hp : pc + 1 = pc') (k : Rn w Z EL own nm bytes ml ret R hS ws Q os cells slots h pc' Ls (.long v :: rest)) : Rn w Z EL own nm bytes ml ret R hS ws Q os cells slots h pc Ls (.long y :: .long x :: rest) :=
  k.pure fun p l e s m args below meth c T locs hx hby X hZ hown eT t r => by subst hp; exact XT.lmul X.here hx rfl (hb hby hd) rfl (hv ▸ r)
theorem Rn.land {x y v : Int64} (hd : decode bytes pc = .ok (.land, 1)) (hv : x &&& y = v) (hp : pc + 1 = pc') (k : Rn w Z EL own nm bytes ml ret R hS ws Q os cells slots h pc' Ls (.long v :: rest)) : Rn w Z EL own nm bytes ml ret R hS ws Q os cells slots h pc Ls (.long y :: .long x :: rest) :=
  k.pure fun p l e s m args below meth c T locs hx hby X hZ hown eT t r => by subst hp; exact XT.land X.here hx rfl (hb hby hd) rfl (hv ▸ r)
theorem Rn.lor {x y v : Int64} (hd : decode bytes pc = .ok (.lor, 1)) (hv : x ||| y = v) (hp : pc + 1 = pc') (k : Rn w Z EL own nm bytes ml ret R hS ws Q os cells slots h pc' Ls (.long v :: rest)) : Rn w Z EL own nm bytes ml ret R hS ws Q os cells slots h pc Ls (.long y :: .long x :: rest) :=
  k.pure fun p l e s m args below meth c T locs hx hby X hZ hown eT t r => by subst hp; exact XT.lor X.here hx rfl (hb hby hd) rfl (hv ▸ r)
theorem Rn.lxor {x y v : Int64} (hd : decode bytes pc = .ok (.lxor, 1)) (hv : x ^^^ y = v) (hp : pc + 1 = pc') (k : Rn w Z EL own nm bytes ml ret R hS ws Q os cells slots h pc' Ls (.long v :: rest)) : Rn w Z EL own nm bytes ml ret R hS ws Q os cells slots h pc Ls (.long y :: .long x :: rest) :=
  k.pure fun p l e s m args below meth c T locs hx hby X hZ hown eT t r => by subst hp; exact XT.lxor X.here hx rfl (hb hby hd) rfl (hv ▸ r)
theorem Rn.lshl {x v : Int64} {y : Int32} (hd : decode bytes pc = .ok (.lshl, 1)) (hv : x <<< (y.toInt64 &&& 63) = v) (hp : pc + 1 = pc') (k : Rn w Z EL own nm bytes ml ret R hS ws Q os cells slots h pc' Ls (.long v :: rest)) : Rn w Z EL own nm bytes ml ret R hS ws Q os cells slots h pc Ls (.int y :: .long x :: rest) :=
  k.pure fun p l e s m args below meth c T locs hx hby X hZ hown eT t r => by subst hp; exact XT.lshl X.here hx rfl (hb hby hd) rfl (hv ▸ r)
theorem Rn.lshr {x v : Int64} {y : Int32} (hd : decode bytes pc = .ok (.lshr, 1)) (hv : x >>> (y.toInt64 &&& 63) = v) (hp : pc + 1 = pc') (k : Rn w Z EL own nm bytes ml ret R hS ws Q os cells slots h pc' Ls (.long v :: rest)) : Rn w Z EL own nm bytes ml ret R hS ws Q os cells slots h pc Ls (.int y :: .long x :: rest) :=
  k.pure fun p l e s m args below meth c T locs hx hby X hZ hown eT t r => by subst hp; exact XT.lshr X.here hx rfl (hb hby hd) rfl (hv ▸ r)
theorem Rn.lushr {x v : Int64} {y : Int32} (hd : decode bytes pc = .ok (.lushr, 1)) (hv : XT.ushrL x y = v) (hp : pc + 1 = pc') (k : Rn w Z EL own nm bytes ml ret R hS ws Q os cells slots h pc' Ls (.long v :: rest)) : Rn w Z EL own nm bytes ml ret R hS ws Q os cells slots h pc Ls (.int y :: .long x :: rest) :=
  k.pure fun p l e s m args below meth c T locs hx hby X hZ hown eT t r => by subst hp; exact XT.lushr X.here hx rfl (hb hby hd) rfl (hv ▸ r)
theorem Rn.lneg {x v : Int64} (hd : decode bytes pc = .ok (.lneg, 1)) (hv : -x = v) (hp : pc + 1 = pc') (k : Rn w Z EL own nm bytes ml ret R hS ws Q os cells slots h pc' Ls (.long v :: rest)) : Rn w Z EL own nm bytes ml ret R hS ws Q os cells slots h pc Ls (.long x :: rest) :=
  k.pure fun p l e s m args below meth c T locs hx hby X hZ hown eT t r => by subst hp; exact XT.lneg X.here hx rfl (hb hby hd) rfl (hv ▸ r)
theorem Rn.i2l {x : Int32} {v : Int64} (hd : decode bytes pc = .ok (.i2l, 1)) (hv : x.toInt64 = v) (hp : pc + 1 = pc') (k : Rn w Z EL own nm bytes ml ret R hS ws Q os cells slots h pc' Ls (.long v :: rest)) : Rn w Z EL own nm bytes ml ret R hS ws Q os cells slots h pc Ls (.int x :: rest) :=
  k.pure fun p l e s m args below meth c T locs hx hby X hZ hown eT t r => by subst hp; exact XT.i2l X.here hx rfl (hb hby hd) rfl (hv ▸ r)
theorem Rn.l2i {x : Int64} {v : Int32} (hd : decode bytes pc = .ok (.l2i, 1)) (hv : x.toInt32 = v) (hp : pc + 1 = pc') (k : Rn w Z EL own nm bytes ml ret R hS ws Q os cells slots h pc' Ls (.int v :: rest)) : Rn w Z EL own nm bytes ml ret R hS ws Q os cells slots h pc Ls (.long x :: rest) :=
  k.pure fun p l e s m args below meth c T locs hx hby X hZ hown eT t r => by subst hp; exact XT.l2i X.here hx rfl (hb hby hd) rfl (hv ▸ r)
theorem Rn.i2b {x : Int32} {v : Int32} (hd : decode bytes pc = .ok (.i2b, 1)) (hv : x.toInt8.toInt32 = v) (hp : pc + 1 = pc') (k : Rn w Z EL own nm bytes ml ret R hS ws Q os cells slots h pc' Ls (.int v :: rest)) : Rn w Z EL own nm bytes ml ret R hS ws Q os cells slots h pc Ls (.int x :: rest) :=
  k.pure fun p l e s m args below meth c T locs hx hby X hZ hown eT t r => by subst hp; exact XT.i2b X.here hx rfl (hb hby hd) rfl (hv ▸ r)
theorem Rn.i2c {x : Int32} {v : Int32} (hd : decode bytes pc = .ok (.i2c, 1)) (hv : x.toUInt32.toUInt16.toUInt32.toInt32 = v) (hp : pc + 1 = pc') (k : Rn w Z EL own nm bytes ml ret R hS ws Q os cells slots h pc' Ls (.int v :: rest)) : Rn w Z EL own nm bytes ml ret R hS ws Q os cells slots h pc Ls (.int x :: rest) :=
  k.pure fun p l e s m args below meth c T locs hx hby X hZ hown eT t r => by subst hp; exact XT.i2c X.here hx rfl (hb hby hd) rfl (hv ▸ r)
theorem Rn.i2s {x : Int32} {v : Int32} (hd : decode bytes pc = .ok (.i2s, 1)) (hv : x.toInt16.toInt32 = v) (hp : pc + 1 = pc') (k : Rn w Z EL own nm bytes ml ret R hS ws Q os cells slots h pc' Ls (.int v :: rest)) : Rn w Z EL own nm bytes ml ret R hS ws Q os cells slots h pc Ls (.int x :: rest) :=
  k.pure fun p l e s m args below meth c T locs hx hby X hZ hown eT t r => by subst hp; exact XT.i2s X.here hx rfl (hb hby hd) rfl (hv ▸ r)
theorem Rn.i2d {x : Int32} {v : UInt64} (hd : decode bytes pc = .ok (.i2d, 1)) (hv : FP.i2d x = v) (hp : pc + 1 = pc') (k : Rn w Z EL own nm bytes ml ret R hS ws Q os cells slots h pc' Ls (.double v :: rest)) : Rn w Z EL own nm bytes ml ret R hS ws Q os cells slots h pc Ls (.int x :: rest) :=
  k.pure fun p l e s m args below meth c T locs hx hby X hZ hown eT t r => by subst hp; exact XS.i2dS X.here hx rfl (hb hby hd) rfl hv r
theorem Rn.l2d {x : Int64} {v : UInt64} (hd : decode bytes pc = .ok (.l2d, 1)) (hv : FP.l2d x = v) (hp : pc + 1 = pc') (k : Rn w Z EL own nm bytes ml ret R hS ws Q os cells slots h pc' Ls (.double v :: rest)) : Rn w Z EL own nm bytes ml ret R hS ws Q os cells slots h pc Ls (.long x :: rest) :=
  k.pure fun p l e s m args below meth c T locs hx hby X hZ hown eT t r => by subst hp; exact XS.l2dS X.here hx rfl (hb hby hd) rfl hv r
theorem Rn.d2i {x : UInt64} {v : Int32} (hd : decode bytes pc = .ok (.d2i, 1)) (hv : FP.d2i x = v) (hp : pc + 1 = pc') (k : Rn w Z EL own nm bytes ml ret R hS ws Q os cells slots h pc' Ls (.int v :: rest)) : Rn w Z EL own nm bytes ml ret R hS ws Q os cells slots h pc Ls (.double x :: rest) :=
  k.pure fun p l e s m args below meth c T locs hx hby X hZ hown eT t r => by subst hp; exact XS.d2iS X.here hx rfl (hb hby hd) rfl hv r
theorem Rn.d2l {x : UInt64} {v : Int64} (hd : decode bytes pc = .ok (.d2l, 1)) (hv : FP.d2l x = v) (hp : pc + 1 = pc') (k : Rn w Z EL own nm bytes ml ret R hS ws Q os cells slots h pc' Ls (.long v :: rest)) : Rn w Z EL own nm bytes ml ret R hS ws Q os cells slots h pc Ls (.double x :: rest) :=
  k.pure fun p l e s m args below meth c T locs hx hby X hZ hown eT t r => by subst hp; exact XS.d2lS X.here hx rfl (hb hby hd) rfl hv r
theorem Rn.dneg {x : UInt64} {v : UInt64} (hd : decode bytes pc = .ok (.dneg, 1)) (hv : FP.dneg x = v) (hp : pc + 1 = pc') (k : Rn w Z EL own nm bytes ml ret R hS ws Q os cells slots h pc' Ls (.double v :: rest)) : Rn w Z EL own nm bytes ml ret R hS ws Q os cells slots h pc Ls (.double x :: rest) :=
  k.pure fun p l e s m args below meth c T locs hx hby X hZ hown eT t r => by subst hp; exact XS.dnegS X.here hx rfl (hb hby hd) rfl hv r
theorem Rn.dadd {x y v : UInt64} (hd : decode bytes pc = .ok (.dadd, 1)) (hn : Jvm.Free.Fl.NoNaN64 v) (hv : FP.dadd x y = v) (hp : pc + 1 = pc') (k : Rn w Z EL own nm bytes ml ret R hS ws Q os cells slots h pc' Ls (.double v :: rest)) : Rn w Z EL own nm bytes ml ret R hS ws Q os cells slots h pc Ls (.double y :: .double x :: rest) :=
  k.pure fun p l e s m args below meth c T locs hx hby X hZ hown eT t r => by subst hp; exact XS.daddS X.here hx rfl (hb hby hd) rfl (hv.symm ▸ hn) hv r
theorem Rn.dsub {x y v : UInt64} (hd : decode bytes pc = .ok (.dsub, 1)) (hn : Jvm.Free.Fl.NoNaN64 v) (hv : FP.dsub x y = v) (hp : pc + 1 = pc') (k : Rn w Z EL own nm bytes ml ret R hS ws Q os cells slots h pc' Ls (.double v :: rest)) : Rn w Z EL own nm bytes ml ret R hS ws Q os cells slots h pc Ls (.double y :: .double x :: rest) :=
  k.pure fun p l e s m args below meth c T locs hx hby X hZ hown eT t r => by subst hp; exact XS.dsubS X.here hx rfl (hb hby hd) rfl (hv.symm ▸ hn) hv r
theorem Rn.dmul {x y v : UInt64} (hd : decode bytes pc = .ok (.dmul, 1)) (hn : Jvm.Free.Fl.NoNaN64 v) (hv : FP.dmul x y = v) (hp : pc + 1 = pc') (k : Rn w Z EL own nm bytes ml ret R hS ws Q os cells slots h pc' Ls (.double v :: rest)) : Rn w Z EL own nm bytes ml ret R hS ws Q os cells slots h pc Ls (.double y :: .double x :: rest) :=
  k.pure fun p l e s m args below meth c T locs hx hby X hZ hown eT t r => by subst hp; exact XS.dmulS X.here hx rfl (hb hby hd) rfl (hv.symm ▸ hn) hv r
theorem Rn.ddiv {x y v : UInt64} (hd : decode bytes pc = .ok (.ddiv, 1)) (hn : Jvm.Free.Fl.NoNaN64 v) (hv : FP.ddiv x y = v) (hp : pc + 1 = pc') (k : Rn w Z EL own nm bytes ml ret R hS ws Q os cells slots h pc' Ls (.double v :: rest)) : Rn w Z EL own nm bytes ml ret R hS ws Q os cells slots h pc Ls (.double y :: .double x :: rest) :=
  k.pure fun p l e s m args below meth c T locs hx hby X hZ hown eT t r => by subst hp; exact XS.ddivS X.here hx rfl (hb hby hd) rfl (hv.symm ▸ hn) hv r
theorem Rn.dcmp {o : CmpOp} {x y : UInt64} {v : Int32} (hd : decode bytes pc = .ok (.dcmp o, 1)) (hv : cmpValue (FP.dcmp x y) o = v) (hp : pc + 1 = pc') (k : Rn w Z EL own nm bytes ml ret R hS ws Q os cells slots h pc' Ls (.int v :: rest)) : Rn w Z EL own nm bytes ml ret R hS ws Q os cells slots h pc Ls (.double y :: .double x :: rest) :=
  k.pure fun p l e s m args below meth c T locs hx hby X hZ hown eT t r => by subst hp; exact XS.dcmpS X.here hx rfl (hb hby hd) rfl hv r
theorem Rn.lcmp {x y : Int64} {v : Int32} (hd : decode bytes pc = .ok (.lcmp, 1)) (hv : XT.cmpL x y = v) (hp : pc + 1 = pc') (k : Rn w Z EL own nm bytes ml ret R hS ws Q os cells slots h pc' Ls (.int v :: rest)) : Rn w Z EL own nm bytes ml ret R hS ws Q os cells slots h pc Ls (.long y :: .long x :: rest) :=
  k.pure fun p l e s m args below meth c T locs hx hby X hZ hown eT t r => by subst hp; exact XT.lcmp X.here hx rfl (hb hby hd) rfl (hv ▸ r)
theorem Rn.pop {x : Value} (hd : decode bytes pc = .ok (.pop, 1)) (hc : x.category = 1) (hp : pc + 1 = pc') (k : Rn w Z EL own nm bytes ml ret R hS ws Q os cells slots h pc' Ls rest) : Rn w Z EL own nm bytes ml ret R hS ws Q os cells slots h pc Ls (x :: rest) :=
  k.pure fun p l e s m args below meth c T locs hx hby X hZ hown eT t r => by subst hp; exact XT.pop X.here hx rfl (hb hby hd) rfl hc r
theorem Rn.dup {x : Value} (hd : decode bytes pc = .ok (.dup, 1)) (hc : x.category = 1) (hp : pc + 1 = pc') (k : Rn w Z EL own nm bytes ml ret R hS ws Q os cells slots h pc' Ls (x :: x :: rest)) : Rn w Z EL own nm bytes ml ret R hS ws Q os cells slots h pc Ls (x :: rest) :=
  k.pure fun p l e s m args below meth c T locs hx hby X hZ hown eT t r => by subst hp; exact XS.dup X.here hx rfl (hb hby hd) rfl hc r
theorem Rn.dup_x1 {x y : Value} (hd : decode bytes pc = .ok (.dup_x1, 1)) (hc : x.category = 1) (hc' : y.category = 1) (hp : pc + 1 = pc') (k : Rn w Z EL own nm bytes ml ret R hS ws Q os cells slots h pc' Ls (x :: y :: x :: rest)) : Rn w Z EL own nm bytes ml ret R hS ws Q os cells slots h pc Ls (x :: y :: rest) :=
  k.pure fun p l e s m args below meth c T locs hx hby X hZ hown eT t r => by subst hp; exact XT.dupX1 X.here hx rfl (hb hby hd) rfl hc hc' r
theorem Rn.dup2 {x y : Value} (hd : decode bytes pc = .ok (.dup2, 1)) (hc : x.category = 1) (hc' : y.category = 1) (hp : pc + 1 = pc') (k : Rn w Z EL own nm bytes ml ret R hS ws Q os cells slots h pc' Ls (x :: y :: x :: y :: rest)) : Rn w Z EL own nm bytes ml ret R hS ws Q os cells slots h pc Ls (x :: y :: rest) :=
  k.pure fun p l e s m args below meth c T locs hx hby X hZ hown eT t r => by subst hp; exact XT.dup2 X.here hx rfl (hb hby hd) rfl hc hc' r
theorem Rn.goto {o : Int} (hd : decode bytes pc = .ok (.goto o, 3)) (ho : 0 ≤ (pc : Int) + o) (hp : ((pc : Int) + o).toNat = pc') (k : Rn w Z EL own nm bytes ml ret R hS ws Q os cells slots h pc' Ls rest) : Rn w Z EL own nm bytes ml ret R hS ws Q os cells slots h pc Ls rest :=
  k.pure fun p l e s m args below meth c T locs hx hby X hZ hown eT t r => XS.goto X.here hx rfl rfl (hb hby hd) ho hp r
theorem Rn.icmp_eq {x y : Int32} {o : Int} {pn : Nat} (hd : decode bytes pc = .ok (.if_icmp .eq o, 3)) (ho : 0 ≤ (pc : Int) + o) (hp : ((pc : Int) + o).toNat = pc') (hn : pc + 3 = pn) (ky : x = y → Rn w Z EL own nm bytes ml ret R hS ws Q os cells slots h pc' Ls rest) (kn : ¬ x = y → Rn w Z EL own nm bytes ml ret R hS ws Q os cells slots h pn Ls rest) : Rn w Z EL own nm bytes ml ret R hS ws Q os cells slots h pc Ls (.int y :: .int x :: rest) := by
  by_cases q : x = y
  · exact (ky q).pure fun p l e s m args below meth c T locs hx hby X hZ hown eT t r => XS.icmpYes X.here hx rfl rfl (hb hby hd) rfl (teq q).1 ho hp r
  · exact (kn q).pure fun p l e s m args below meth c T locs hx hby X hZ hown eT t r => by subst hn; exact XS.icmpNo X.here hx rfl (hb hby hd) rfl (feq q).1 r
theorem Rn.if_eq {x : Int32} {o : Int} {pn : Nat} (hd : decode bytes pc = .ok (.ifCond .eq o, 3)) (ho : 0 ≤ (pc : Int) + o) (hp : ((pc : Int) + o).toNat = pc') (hn : pc + 3 = pn) (ky : x = 0 → Rn w Z EL own nm bytes ml ret R hS ws Q os cells slots h pc' Ls rest) (kn : ¬ x = 0 → Rn w Z EL own nm bytes ml ret R hS ws Q os cells slots h pn Ls rest) : Rn w Z EL own nm bytes ml ret R hS ws Q os cells slots h pc Ls (.int x :: rest) := by
  by_cases q : x = 0
  · exact (ky q).pure fun p l e s m args below meth c T locs hx hby X hZ hown eT t r => XS.ifYes X.here hx rfl rfl (hb hby hd) rfl (by rw [if0]; exact (teq q).1) ho hp r
  · exact (kn q).pure fun p l e s m args below meth c T locs hx hby X hZ hown eT t r => by subst hn; exact XS.ifNo X.here hx rfl (hb hby hd) rfl (by rw [if0]; exact (feq q).1) r
theorem Rn.icmp_ne {x y : Int32} {o : Int} {pn : Nat} (hd : decode bytes pc = .ok (.if_icmp .ne o, 3)) (ho : 0 ≤ (pc : Int) + o) (hp : ((pc : Int) + o).toNat = pc') (hn : pc + 3 = pn) (ky : ¬ x = y → Rn w Z EL own nm bytes ml ret R hS ws Q os cells slots h pc' Ls rest) (kn : x = y → Rn w Z EL own nm bytes ml ret R hS ws Q os cells slots h pn Ls rest) : Rn w Z EL own nm bytes ml ret R hS ws Q os cells slots h pc Ls (.int y :: .int x :: rest) := by
  by_cases q : x = y
  · exact (kn q).pure fun p l e s m args below meth c T locs hx hby X hZ hown eT t r => by subst hn; exact XS.icmpNo X.here hx rfl (hb hby hd) rfl (teq q).2 r
  · exact (ky q).pure fun p l e s m args below meth c T locs hx hby X hZ hown eT t r => XS.icmpYes X.here hx rfl rfl (hb hby hd) rfl (feq q).2 ho hp r
theorem Rn.if_ne {x : Int32} {o : Int} {pn : Nat} (hd : decode bytes pc = .ok (.ifCond .ne o, 3)) (ho : 0 ≤ (pc : Int) + o) (hp : ((pc : Int) + o).toNat = pc') (hn : pc + 3 = pn) (ky : ¬ x = 0 → Rn w Z EL own nm bytes ml ret R hS ws Q os cells slots h pc' Ls rest) (kn : x = 0 → Rn w Z EL own nm bytes ml ret R hS ws Q os cells slots h pn Ls rest) : Rn w Z EL own nm bytes ml ret R hS ws Q os cells slots h pc Ls (.int x :: rest) := by
  by_cases q : x = 0
  · exact (kn q).pure fun p l e s m args below meth c T locs hx hby X hZ hown eT t r => by subst hn; exact XS.ifNo X.here hx rfl (hb hby hd) rfl (by rw [if0]; exact (teq q).2) r
  · exact (ky q).pure fun p l e s m args below meth c T locs hx hby X hZ hown eT t r => XS.ifYes X.here hx rfl rfl (hb hby hd) rfl (by rw [if0]; exact (feq q).2) ho hp r
theorem Rn.icmp_lt {x y : Int32} {o : Int} {pn : Nat} (hd : decode bytes pc = .ok (.if_icmp .lt o, 3)) (ho : 0 ≤ (pc : Int) + o) (hp : ((pc : Int) + o).toNat = pc') (hn : pc + 3 = pn) (ky : x < y → Rn w Z EL own nm bytes ml ret R hS ws Q os cells slots h pc' Ls rest) (kn : ¬ x < y → Rn w Z EL own nm bytes ml ret R hS ws Q os cells slots h pn Ls rest) : Rn w Z EL own nm bytes ml ret R hS ws Q os cells slots h pc Ls (.int y :: .int x :: rest) := by
  by_cases q : x < y
  · exact (ky q).pure fun p l e s m args below meth c T locs hx hby X hZ hown eT t r => XS.icmpYes X.here hx rfl rfl (hb hby hd) rfl (tlt q).1 ho hp r
  · exact (kn q).pure fun p l e s m args below meth c T locs hx hby X hZ hown eT t r => by subst hn; exact XS.icmpNo X.here hx rfl (hb hby hd) rfl (flt q).1 r
theorem Rn.if_lt {x : Int32} {o : Int} {pn : Nat} (hd : decode bytes pc = .ok (.ifCond .lt o, 3)) (ho : 0 ≤ (pc : Int) + o) (hp : ((pc : Int) + o).toNat = pc') (hn : pc + 3 = pn) (ky : x < 0 → Rn w Z EL own nm bytes ml ret R hS ws Q os cells slots h pc' Ls rest) (kn : ¬ x < 0 → Rn w Z EL own nm bytes ml ret R hS ws Q os cells slots h pn Ls rest) : Rn w Z EL own nm bytes ml ret R hS ws Q os cells slots h pc Ls (.int x :: rest) := by
  by_cases q : x < 0
  · exact (ky q).pure fun p l e s m args below meth c T locs hx hby X hZ hown eT t r => XS.ifYes X.here hx rfl rfl (hb hby hd) rfl (by rw [if0]; exact (tlt q).1) ho hp r
  · exact (kn q).pure fun p l e s m args below meth c T locs hx hby X hZ hown eT t r => by subst hn; exact XS.ifNo X.here hx rfl (hb hby hd) rfl (by rw [if0]; exact (flt q).1) r
theorem Rn.icmp_ge {x y : Int32} {o : Int} {pn : Nat} (hd : decode bytes pc = .ok (.if_icmp .ge o, 3)) (ho : 0 ≤ (pc : Int) + o) (hp : ((pc : Int) + o).toNat = pc') (hn : pc + 3 = pn) (ky : ¬ x < y → Rn w Z EL own nm bytes ml ret R hS ws Q os cells slots h pc' Ls rest) (kn : x < y → Rn w Z EL own nm bytes ml ret R hS ws Q os cells slots h pn Ls rest) : Rn w Z EL own nm bytes ml ret R hS ws Q os cells slots h pc Ls (.int y :: .int x :: rest) := by
  by_cases q : x < y
  · exact (kn q).pure fun p l e s m args below meth c T locs hx hby X hZ hown eT t r => by subst hn; exact XS.icmpNo X.here hx rfl (hb hby hd) rfl (tlt q).2.1 r
  · exact (ky q).pure fun p l e s m args below meth c T locs hx hby X hZ hown eT t r => XS.icmpYes X.here hx rfl rfl (hb hby hd) rfl (flt q).2.1 ho hp r
theorem Rn.if_ge {x : Int32} {o : Int} {pn : Nat} (hd : decode bytes pc = .ok (.ifCond .ge o, 3)) (ho : 0 ≤ (pc : Int) + o) (hp : ((pc : Int) + o).toNat = pc') (hn : pc + 3 = pn) (ky : ¬ x < 0 → Rn w Z EL own nm bytes ml ret R hS ws Q os cells slots h pc' Ls rest) (kn : x < 0 → Rn w Z EL own nm bytes ml ret R hS ws Q os cells slots h pn Ls rest) : Rn w Z EL own nm bytes ml ret R hS ws Q os cells slots h pc Ls (.int x :: rest) := by
  by_cases q : x < 0
  · exact (kn q).pure fun p l e s m args below meth c T locs hx hby X hZ hown eT t r => by subst hn; exact XS.ifNo X.here hx rfl (hb hby hd) rfl (by rw [if0]; exact (tlt q).2.1) r
  · exact (ky q).pure fun p l e s m args below meth c T locs hx hby X hZ hown eT t r => XS.ifYes X.here hx rfl rfl (hb hby hd) rfl (by rw [if0]; exact (flt q).2.1) ho hp r
theorem Rn.icmp_gt {x y : Int32} {o : Int} {pn : Nat} (hd : decode bytes pc = .ok (.if_icmp .gt o, 3)) (ho : 0 ≤ (pc : Int) + o) (hp : ((pc : Int) + o).toNat = pc') (hn : pc + 3 = pn) (ky : y < x → Rn w Z EL own nm bytes ml ret R hS ws Q os cells slots h pc' Ls rest) (kn : ¬ y < x → Rn w Z EL own nm bytes ml ret R hS ws Q os cells slots h pn Ls rest) : Rn w Z EL own nm bytes ml ret R hS ws Q os cells slots h pc Ls (.int y :: .int x :: rest) := by
  by_cases q : y < x
  · exact (ky q).pure fun p l e s m args below meth c T locs hx hby X hZ hown eT t r => XS.icmpYes X.here hx rfl rfl (hb hby hd) rfl (tlt q).2.2.1 ho hp r
  · exact (kn q).pure fun p l e s m args below meth c T locs hx hby X hZ hown eT t r => by subst hn; exact XS.icmpNo X.here hx rfl (hb hby hd) rfl (flt q).2.2.1 r
theorem Rn.if_gt {x : Int32} {o : Int} {pn : Nat} (hd : decode bytes pc = .ok (.ifCond .gt o, 3)) (ho : 0 ≤ (pc : Int) + o) (hp : ((pc : Int) + o).toNat = pc') (hn : pc + 3 = pn) (ky : 0 < x → Rn w Z EL own nm bytes ml ret R hS ws Q os cells slots h pc' Ls rest) (kn : ¬ 0 < x → Rn w Z EL own nm bytes ml ret R hS ws Q os cells slots h pn Ls rest) : Rn w Z EL own nm bytes ml ret R hS ws Q os cells slots h pc Ls (.int x :: rest) := by
  by_cases q : 0 < x
  · exact (ky q).pure fun p l e s m args below meth c T locs hx hby X hZ hown eT t r => XS.ifYes X.here hx rfl rfl (hb hby hd) rfl (by rw [if0]; exact (tlt q).2.2.1) ho hp r
  · exact (kn q).pure fun p l e s m args below meth c T locs hx hby X hZ hown eT t r => by subst hn; exact XS.ifNo X.here hx rfl (hb hby hd) rfl (by rw [if0]; exact (flt q).2.2.1) r
theorem Rn.icmp_le {x y : Int32} {o : Int} {pn : Nat} (hd : decode bytes pc = .ok (.if_icmp .le o, 3)) (ho : 0 ≤ (pc : Int) + o) (hp : ((pc : Int) + o).toNat = pc') (hn : pc + 3 = pn) (ky : ¬ y < x → Rn w Z EL own nm bytes ml ret R hS ws Q os cells slots h pc' Ls rest) (kn : y < x → Rn w Z EL own nm bytes ml ret R hS ws Q os cells slots h pn Ls rest) : Rn w Z EL own nm bytes ml ret R hS ws Q os cells slots h pc Ls (.int y :: .int x :: rest) := by
  by_cases q : y < x
  · exact (kn q).pure fun p l e s m args below meth c T locs hx hby X hZ hown eT t r => by subst hn; exact XS.icmpNo X.here hx rfl (hb hby hd) rfl (tlt q).2.2.2 r
  · exact (ky q).pure fun p l e s m args below meth c T locs hx hby X hZ hown eT t r => XS.icmpYes X.here hx rfl rfl (hb hby hd) rfl (flt q).2.2.2 ho hp r
theorem Rn.if_le {x : Int32} {o : Int} {pn : Nat} (hd : decode bytes pc = .ok (.ifCond .le o, 3)) (ho : 0 ≤ (pc : Int) + o) (hp : ((pc : Int) + o).toNat = pc') (hn : pc + 3 = pn) (ky : ¬ 0 < x → Rn w Z EL own nm bytes ml ret R hS ws Q os cells slots h pc' Ls rest) (kn : 0 < x → Rn w Z EL own nm bytes ml ret R hS ws Q os cells slots h pn Ls rest) : Rn w Z EL own nm bytes ml ret R hS ws Q os cells slots h pc Ls (.int x :: rest) := by
  by_cases q : 0 < x
  · exact (kn q).pure fun p l e s m args below meth c T locs hx hby X hZ hown eT t r => by subst hn; exact XS.ifNo X.here hx rfl (hb hby hd) rfl (by rw [if0]; exact (tlt q).2.2.2) r
  · exact (ky q).pure fun p l e s m args below meth c T locs hx hby X hZ hown eT t r => XS.ifYes X.here hx rfl rfl (hb hby hd) rfl (by rw [if0]; exact (flt q).2.2.2) ho hp r
theorem Rn.ifnull_y {o : Int} (hd : decode bytes pc = .ok (.ifnull o, 3)) (ho : 0 ≤ (pc : Int) + o) (hp : ((pc : Int) + o).toNat = pc') (k : Rn w Z EL own nm bytes ml ret R hS ws Q os cells slots h pc' Ls rest) : Rn w Z EL own nm bytes ml ret R hS ws Q os cells slots h pc Ls (.null :: rest) :=
  k.pure fun p l e s m args below meth c T locs hx hby X hZ hown eT t r => XS.ifnullYes X.here hx rfl rfl (hb hby hd) rfl ho hp r
theorem Rn.ifnull_n {o : Int} {a : Addr} (hd : decode bytes pc = .ok (.ifnull o, 3)) (hn : pc + 3 = pc') (k : Rn w Z EL own nm bytes ml ret R hS ws Q os cells slots h pc' Ls rest) : Rn w Z EL own nm bytes ml ret R hS ws Q os cells slots h pc Ls (.ref a :: rest) :=
  k.pure fun p l e s m args below meth c T locs hx hby X hZ hown eT t r => by subst hn; exact XS.ifnullNo X.here hx rfl (hb hby hd) rfl r
theorem Rn.ifnonnull_y {o : Int} {a : Addr} (hd : decode bytes pc = .ok (.ifnonnull o, 3)) (ho : 0 ≤ (pc : Int) + o) (hp : ((pc : Int) + o).toNat = pc') (k : Rn w Z EL own nm bytes ml ret R hS ws Q os cells slots h pc' Ls rest) : Rn w Z EL own nm bytes ml ret R hS ws Q os cells slots h pc Ls (.ref a :: rest) :=
  k.pure fun p l e s m args below meth c T locs hx hby X hZ hown eT t r => XT.ifnonnullYes X.here hx rfl rfl (hb hby hd) rfl ho hp r
theorem Rn.ifnonnull_n {o : Int} (hd : decode bytes pc = .ok (.ifnonnull o, 3)) (hn : pc + 3 = pc') (k : Rn w Z EL own nm bytes ml ret R hS ws Q os cells slots h pc' Ls rest) : Rn w Z EL own nm bytes ml ret R hS ws Q os cells slots h pc Ls (.null :: rest) :=
  k.pure fun p l e s m args below meth c T locs hx hby X hZ hown eT t r => by subst hn; exact XT.ifnonnullNo X.here hx rfl (hb hby hd) rfl r
theorem Rn.acmp_eq {x y : Value} {o : Int} {pn : Nat} (h1 : x.isRef = true) (h2 : y.isRef = true) (hd : decode bytes pc = .ok (.if_acmp .eq o, 3)) (ho : 0 ≤ (pc : Int) + o) (hp : ((pc : Int) + o).toNat = pc') (hn : pc + 3 = pn) (ky : x = y → Rn w Z EL own nm bytes ml ret R hS ws Q os cells slots h pc' Ls rest) (kn : ¬ x = y → Rn w Z EL own nm bytes ml ret R hS ws Q os cells slots h pn Ls rest) : Rn w Z EL own nm bytes ml ret R hS ws Q os cells slots h pc Ls (y :: x :: rest) := by
  by_cases q : x = y
  · exact (ky q).pure fun p l e s m args below meth c T locs hx hby X hZ hown eT t r => by exact acmp X hx rfl h1 h2 (same := true) rfl (hb hby hd) rfl (by simp [q]) ho (by simp [acV, hp]) r
  · exact (kn q).pure fun p l e s m args below meth c T locs hx hby X hZ hown eT t r => by exact acmp X hx rfl h1 h2 (same := false) rfl (hb hby hd) rfl (by simp [q]) ho (by simp [acV, hn]) r
theorem Rn.acmp_ne {x y : Value} {o : Int} {pn : Nat} (h1 : x.isRef = true) (h2 : y.isRef = true) (hd : decode bytes pc = .ok (.if_acmp .ne o, 3)) (ho : 0 ≤ (pc : Int) + o) (hp : ((pc : Int) + o).toNat = pc') (hn : pc + 3 = pn) (ky : ¬ x = y → Rn w Z EL own nm bytes ml ret R hS ws Q os cells slots h pc' Ls rest) (kn : x = y → Rn w Z EL own nm bytes ml ret R hS ws Q os cells slots h pn Ls rest) : Rn w Z EL own nm bytes ml ret R hS ws Q os cells slots h pc Ls (y :: x :: rest) := by
  by_cases q : x = y
  · exact (kn q).pure fun p l e s m args below meth c T locs hx hby X hZ hown eT t r => by exact acmp X hx rfl h1 h2 (same := true) rfl (hb hby hd) rfl (by simp [q]) ho (by simp [acV, hn]) r
  · exact (ky q).pure fun p l e s m args below meth c T locs hx hby X hZ hown eT t r => by exact acmp X hx rfl h1 h2 (same := false) rfl (hb hby hd) rfl (by simp [q]) ho (by simp [acV, hp]) r
theorem Rn.tsw {dflt low high : Int} {offs : Array Int} {len : Nat} {o : Int} {i : Int32} (hd : decode bytes pc = .ok (.tableswitch dflt low high offs, len)) (hin : ¬ (i.toInt < low ∨ i.toInt > high)) (hoff : offs[(i.toInt - low).toNat]? = some o) (ho : 0 ≤ (pc : Int) + o) (hp : ((pc : Int) + o).toNat = pc') (k : Rn w Z EL own nm bytes ml ret R hS ws Q os cells slots h pc' Ls rest) : Rn w Z EL own nm bytes ml ret R hS ws Q os cells slots h pc Ls (.int i :: rest) :=
  k.pure fun p l e s m args below meth c T locs hx hby X hZ hown eT t r => XS.tswIn X.here hx rfl rfl (hb hby hd) rfl hin hoff ho hp r
theorem Rn.tswD {dflt low high : Int} {offs : Array Int} {len : Nat} {i : Int32} (hd : decode bytes pc = .ok (.tableswitch dflt low high offs, len)) (hout : i.toInt < low ∨ i.toInt > high) (ho : 0 ≤ (pc : Int) + dflt) (hp : ((pc : Int) + dflt).toNat = pc') (k : Rn w Z EL own nm bytes ml ret R hS ws Q os cells slots h pc' Ls rest) : Rn w Z EL own nm bytes ml ret R hS ws Q os cells slots h pc Ls (.int i :: rest) :=
  k.pure fun p l e s m args below meth c T locs hx hby X hZ hown eT t r => XS.tswOut X.here hx rfl rfl (hb hby hd) rfl hout ho hp r
theorem Rn.ldcI {ix : Nat} {v : Int32} (wd : (Jvm.Cond.constant own ix v).before a0 Z = true) (hd : decode bytes pc = .ok (.ldc ix, 2)) (hp : pc + 2 = pc') (k : Rn w Z EL own nm bytes ml ret R hS ws Q os cells slots h pc' Ls (.int v :: rest)) : Rn w Z EL own nm bytes ml ret R hS ws Q os cells slots h pc Ls rest :=
  k.pure fun p l e s m args below meth c T locs hx hby X hZ hown eT t r => by subst hp; exact X.ldcInt hx hown (mvT hZ wd) (g := mkF m pc Ls rest) rfl (hb hby hd) t r
theorem Rn.ldcJ {ix : Nat} {v : Int64} (wd : (Jvm.Cond.constantLong own ix v).before a0 Z = true) (hd : decode bytes pc = .ok (.ldc2_w ix, 3)) (hp : pc + 3 = pc') (k : Rn w Z EL own nm bytes ml ret R hS ws Q os cells slots h pc' Ls (.long v :: rest)) : Rn w Z EL own nm bytes ml ret R hS ws Q os cells slots h pc Ls rest :=
  k.pure fun p l e s m args below meth c T locs hx hby X hZ hown eT t r => by subst hp; exact X.ldc2Long hx hown (mvT hZ wd) (g := mkF m pc Ls rest) rfl (hb hby hd) t r
theorem Rn.ldcD {ix : Nat} {v : UInt64} (wd : (Jvm.Cond.constantDouble own ix v).before a0 Z = true) (hd : decode bytes pc = .ok (.ldc2_w ix, 3)) (hp : pc + 3 = pc') (k : Rn w Z EL own nm bytes ml ret R hS ws Q os cells slots h pc' Ls (.double v :: rest)) : Rn w Z EL own nm bytes ml ret R hS ws Q os cells slots h pc Ls rest :=
  k.pure fun p l e s m args below meth c T locs hx hby X hZ hown eT t r => by subst hp; exact X.ldc2DoubleC hx hown (mvT hZ wd) (g := mkF m pc Ls rest) rfl (hb hby hd) t r
/-- an array and all that it holds -/
def Ax (Z : State) (h : Heap) (a : Addr) (ty : FieldType) (vs : List Value) : Prop := ∃ c : Cell, Arr Z h a c ty ∧ c.slots = vs.toArray ∧ vs.length < 2 ^ 31
section AxFacts
variable {a b : Addr} {ty : FieldType} {vs : List Value} {sl : Nat} {v : Value}
theorem Ax.lt (F : Ax Z h a ty vs) : a < h.size := by obtain ⟨c, A, -⟩ := F; exact A.lt
theorem Ax.ext (F : Ax Z h a ty vs) (E : Ext h h') : Ax Z h' a ty vs := by obtain ⟨c, A, r⟩ := F; exact ⟨c, A.ext E, r⟩
theorem Ax.other (F : Ax Z h b ty vs) (W : Wr h h' a sl v) (q : b ≠ a) : Ax Z h' b ty vs := by obtain ⟨c, A, r⟩ := F; exact ⟨c, A.other W q, r⟩
theorem Ax.keep {ws : List Addr} (F : Ax Z h a ty vs) (K : Keep h h' ws) (q : a ∉ ws) : Ax Z h' a ty vs := by obtain ⟨c, A, r⟩ := F; exact ⟨c, ⟨K.2.1 a c A.1 q, A.2⟩, r⟩
theorem Ax.set (F : Ax Z h a ty vs) (W : Wr h h' a sl v) : Ax Z h' a ty (vs.set sl v) := by
  obtain ⟨c, A, r, q⟩ := F
  refine ⟨_, A.same W, ?_, by simpa using q⟩
  simp [Cell.setSlot, r]
theorem Ax.new {cA : ClassId} {n : Int32} (A : Arr Z h a (newA cA ty n) ty) (q : ¬ n < 0) : Ax Z h a ty (List.replicate n.toNatClampNeg (defaultValue ty)) := by
  refine ⟨_, A, ?_, by simpa using (back32 q).2⟩
  simp [newA]
theorem Ax.sf {w : Bool} {EL : List (String × Nat)} {os : List Addr} (F : Ax Z h a ty vs) (ht : ty ≠ .byte) : Sf w Z EL os h a := by obtain ⟨c, A, -⟩ := F; exact Sf.arr A ht
theorem Ax.arv {d : Value} (F : Ax Z h a ty vs) (hf : ∀ x ∈ vs, fits ty x = true) (n : Int32) (hn : n.toNatClampNeg = vs.length) (h0 : ¬ n < 0) : ∃ k, Arv Z h a k ty n vs d := by
  obtain ⟨c, A, r, q⟩ := F
  refine ⟨c.cls, c, A, rfl, by simp [r, hn], h0, fun k hk => ?_, fun i hi => ?_⟩
  · have : k < vs.length := by simpa [r] using hk
    simp [r, this]
  · have : i < vs.length := by simpa [r] using hi
    simp only [List.getD_eq_getElem?_getD, List.getElem?_eq_getElem this, Option.getD_some]
    exact hf _ (List.getElem_mem this)
theorem Ax.ofArv {k : ClassId} {n : Int32} {d : Value} (F : Arv Z h a k ty n vs d) (hl : vs.length = n.toNatClampNeg) : Ax Z h a ty vs := by
  obtain ⟨c, A, -, S, N, H, -⟩ := F
  refine ⟨c, A, ?_, by rw [hl]; exact (back32 N).2⟩
  apply Array.ext_getElem?
  intro i
  by_cases q : i < c.slots.size
  · have q2 : i < vs.length := by rw [hl, ← S]; exact q
    rw [H i q]; simp [q2]
  · have q2 : ¬ i < vs.length := by rw [hl, ← S]; exact q
    rw [Array.getElem?_eq_none (Nat.le_of_not_lt q)]; simp [Nat.le_of_not_lt q2]
theorem Ax.at {j : Int32} (c : Cell) (r : c.slots = vs.toArray) (h0 : ¬ j < 0) (hv : vs[j.toNatClampNeg]? = some v) : ¬ (j < 0 ∨ c.slots.size ≤ j.toNatClampNeg) ∧ c.slots[j.toNatClampNeg]? = some v := by
  have q := (List.getElem?_eq_some_iff.mp hv).1
  refine ⟨fun z => z.elim h0 fun z => ?_, by simpa [r] using hv⟩
  simp [r] at z; omega
end AxFacts
theorem Rn.iaload {a : Addr} {vs : List Value} {j : Int32} {v : Value} (A : Ax Z h a .int vs) (h0 : ¬ j < 0) (hv : vs[j.toNatClampNeg]? = some v) (hd : decode bytes pc = .ok (.iaload, 1)) (hp : pc + 1 = pc') (k : Rn w Z EL own nm bytes ml ret R hS ws Q os cells slots h pc' Ls (v :: rest)) : Rn w Z EL own nm bytes ml ret R hS ws Q os cells slots h pc Ls (.int j :: .ref a :: rest) := by
  obtain ⟨cl, Ar, r1, -⟩ := A
  obtain ⟨q1, q2⟩ := Ax.at cl r1 h0 hv
  exact k.pure fun p l e s m args below meth c T locs hx hby X hZ hown eT t r => by subst hp; exact X.iaload hx (j := j) (v := v) (by rw [eT]; exact Ar.1) (State.isArrayOf_alike hZ.alike Ar.2.1) Ar.2.2 q1 q2 (g := mkF m pc Ls (.int j :: .ref a :: rest)) rfl rfl (hb hby hd) t r
theorem Rn.caload {a : Addr} {vs : List Value} {j : Int32} {v : Value} (A : Ax Z h a .char vs) (h0 : ¬ j < 0) (hv : vs[j.toNatClampNeg]? = some v) (hd : decode bytes pc = .ok (.caload, 1)) (hp : pc + 1 = pc') (k : Rn w Z EL own nm bytes ml ret R hS ws Q os cells slots h pc' Ls (v :: rest)) : Rn w Z EL own nm bytes ml ret R hS ws Q os cells slots h pc Ls (.int j :: .ref a :: rest) := by
  obtain ⟨cl, Ar, r1, -⟩ := A
  obtain ⟨q1, q2⟩ := Ax.at cl r1 h0 hv
  exact k.pure fun p l e s m args below meth c T locs hx hby X hZ hown eT t r => by subst hp; exact X.caload hx (j := j) (v := v) (by rw [eT]; exact Ar.1) (State.isArrayOf_alike hZ.alike Ar.2.1) Ar.2.2 q1 q2 (g := mkF m pc Ls (.int j :: .ref a :: rest)) rfl rfl (hb hby hd) t r
theorem Rn.laload {a : Addr} {vs : List Value} {j : Int32} {v : Value} (A : Ax Z h a .long vs) (h0 : ¬ j < 0) (hv : vs[j.toNatClampNeg]? = some v) (hd : decode bytes pc = .ok (.laload, 1)) (hp : pc + 1 = pc') (k : Rn w Z EL own nm bytes ml ret R hS ws Q os cells slots h pc' Ls (v :: rest)) : Rn w Z EL own nm bytes ml ret R hS ws Q os cells slots h pc Ls (.int j :: .ref a :: rest) := by
  obtain ⟨cl, Ar, r1, -⟩ := A
  obtain ⟨q1, q2⟩ := Ax.at cl r1 h0 hv
  exact k.pure fun p l e s m args below meth c T locs hx hby X hZ hown eT t r => by subst hp; exact X.laload hx (j := j) (v := v) (by rw [eT]; exact Ar.1) (State.isArrayOf_alike hZ.alike Ar.2.1) Ar.2.2 q1 q2 (g := mkF m pc Ls (.int j :: .ref a :: rest)) rfl rfl (hb hby hd) t r
theorem Rn.baload {a : Addr} {vs : List Value} {j : Int32} {v : Value} (A : Ax Z h a .byte vs) (h0 : ¬ j < 0) (hv : vs[j.toNatClampNeg]? = some v) (hd : decode bytes pc = .ok (.baload, 1)) (hp : pc + 1 = pc') (k : Rn w Z EL own nm bytes ml ret R hS ws Q os cells slots h pc' Ls (v :: rest)) : Rn w Z EL own nm bytes ml ret R hS ws Q os cells slots h pc Ls (.int j :: .ref a :: rest) := by
  obtain ⟨cl, Ar, r1, -⟩ := A
  obtain ⟨q1, q2⟩ := Ax.at cl r1 h0 hv
  exact k.pure fun p l e s m args below meth c T locs hx hby X hZ hown eT t r => by subst hp; exact X.baloadBytes hx (j := j) (v := v) (by rw [eT]; exact Ar.1) (State.isArrayOf_alike hZ.alike Ar.2.1) Ar.2.2 q1 q2 (g := mkF m pc Ls (.int j :: .ref a :: rest)) rfl rfl (hb hby hd) t r
theorem Rn.daload {a : Addr} {vs : List Value} {j : Int32} {v : Value} (A : Ax Z h a .double vs) (h0 : ¬ j < 0) (hv : vs[j.toNatClampNeg]? = some v) (hd : decode bytes pc = .ok (.daload, 1)) (hp : pc + 1 = pc') (k : Rn w Z EL own nm bytes ml ret R hS ws Q os cells slots h pc' Ls (v :: rest)) : Rn w Z EL own nm bytes ml ret R hS ws Q os cells slots h pc Ls (.int j :: .ref a :: rest) := by
  obtain ⟨cl, Ar, r1, -⟩ := A
  obtain ⟨q1, q2⟩ := Ax.at cl r1 h0 hv
  exact k.pure fun p l e s m args below meth c T locs hx hby X hZ hown eT t r => by subst hp; exact X.daload hx (j := j) (v := v) (by rw [eT]; exact Ar.1) (State.isArrayOf_alike hZ.alike Ar.2.1) Ar.2.2 q1 q2 (g := mkF m pc Ls (.int j :: .ref a :: rest)) rfl rfl (hb hby hd) t r
theorem Rn.saload {a : Addr} {vs : List Value} {j : Int32} {v : Value} (A : Ax Z h a .short vs) (h0 : ¬ j < 0) (hv : vs[j.toNatClampNeg]? = some v) (hd : decode bytes pc = .ok (.saload, 1)) (hp : pc + 1 = pc') (k : Rn w Z EL own nm bytes ml ret R hS ws Q os cells slots h pc' Ls (v :: rest)) : Rn w Z EL own nm bytes ml ret R hS ws Q os cells slots h pc Ls (.int j :: .ref a :: rest) := by
  obtain ⟨cl, Ar, r1, -⟩ := A
  obtain ⟨q1, q2⟩ := Ax.at cl r1 h0 hv
  exact k.pure fun p l e s m args below meth c T locs hx hby X hZ hown eT t r => by subst hp; exact X.saload hx (j := j) (v := v) (by rw [eT]; exact Ar.1) (State.isArrayOf_alike hZ.alike Ar.2.1) Ar.2.2 q1 q2 (g := mkF m pc Ls (.int j :: .ref a :: rest)) rfl rfl (hb hby hd) t r
theorem Rn.aaload {a : Addr} {ty : FieldType} {vs : List Value} {j : Int32} {v : Value} (A : Ax Z h a ty vs) (ht : ty.isReference = true) (h0 : ¬ j < 0) (hv : vs[j.toNatClampNeg]? = some v) (hd : decode bytes pc = .ok (.aaload, 1)) (hp : pc + 1 = pc') (k : Rn w Z EL own nm bytes ml ret R hS ws Q os cells slots h pc' Ls (v :: rest)) : Rn w Z EL own nm bytes ml ret R hS ws Q os cells slots h pc Ls (.int j :: .ref a :: rest) := by
  obtain ⟨cl, Ar, r1, -⟩ := A
  obtain ⟨q1, q2⟩ := Ax.at cl r1 h0 hv
  exact k.pure fun p l e s m args below meth c T locs hx hby X hZ hown eT t r => by subst hp; exact X.aaload hx (j := j) (v := v) (by rw [eT]; exact Ar.1) (State.isArrayOf_alike hZ.alike Ar.2.1) ht Ar.2.2 q1 q2 (g := mkF m pc Ls (.int j :: .ref a :: rest)) rfl rfl (hb hby hd) t r
theorem Rn.arraylength {a : Addr} {ty : FieldType} {vs : List Value} {n : Int32} (A : Ax Z h a ty vs) (hn : vs.length.toInt32 = n) (hd : decode bytes pc = .ok (.arraylength, 1)) (hp : pc + 1 = pc') (k : Rn w Z EL own nm bytes ml ret R hS ws Q os cells slots h pc' Ls (.int n :: rest)) : Rn w Z EL own nm bytes ml ret R hS ws Q os cells slots h pc Ls (.ref a :: rest) := by
  obtain ⟨cl, Ar, r1, -⟩ := A
  have e1 : cl.slots.size.toInt32 = n := by rw [r1, ← hn]; simp
  exact k.pure fun p l e s m args below meth c T locs hx hby X hZ hown eT t r => by subst hp; exact X.arraylength hx (by rw [eT]; exact Ar.1) (State.isArrayOf_alike hZ.alike Ar.2.1) (g := mkF m pc Ls (.ref a :: rest)) rfl rfl (hb hby hd) t (by rw [e1]; exact r)
theorem Rn.iastore {a : Addr} {vs : List Value} {j : Int32} {x : Int32} {v : Value} (A : Ax Z h a .int vs) (h0 : ¬ j < 0) (hi : j.toNatClampNeg < vs.length) (hv : (.int x : Value) = v) (q : a ∈ ws ∨ hS.size ≤ a) (sf : Sf w Z EL os h a) (hd : decode bytes pc = .ok (.iastore, 1)) (hp : pc + 1 = pc') (k : ∀ h', Wr h h' a j.toNatClampNeg v → Ax Z h' a .int (vs.set j.toNatClampNeg v) → Rn w Z EL own nm bytes ml ret R hS ws Q os cells slots h' pc' Ls rest) : Rn w Z EL own nm bytes ml ret R hS ws Q os cells slots h pc Ls (.int x :: .int j :: .ref a :: rest) := by
  obtain ⟨cl, Ar, r1, -⟩ := id A
  have q1 : ¬ (j < 0 ∨ cl.slots.size ≤ j.toNatClampNeg) := fun z => z.elim h0 fun z => by simp [r1] at z; omega
  subst hv
  exact Rn.wrote q sf (fun h' W => k h' W (A.set W)) fun p l e s m args below meth c T locs hx hby hnm X hZ hown eT => by subst hp; exact stI X hx hZ eT Ar q1 (g := mkF m pc Ls (.int x :: .int j :: .ref a :: rest)) rfl rfl (hb hby hd)
theorem Rn.lastore {a : Addr} {vs : List Value} {j : Int32} {x : Int64} {v : Value} (A : Ax Z h a .long vs) (h0 : ¬ j < 0) (hi : j.toNatClampNeg < vs.length) (hv : (.long x : Value) = v) (q : a ∈ ws ∨ hS.size ≤ a) (sf : Sf w Z EL os h a) (hd : decode bytes pc = .ok (.lastore, 1)) (hp : pc + 1 = pc') (k : ∀ h', Wr h h' a j.toNatClampNeg v → Ax Z h' a .long (vs.set j.toNatClampNeg v) → Rn w Z EL own nm bytes ml ret R hS ws Q os cells slots h' pc' Ls rest) : Rn w Z EL own nm bytes ml ret R hS ws Q os cells slots h pc Ls (.long x :: .int j :: .ref a :: rest) := by
  obtain ⟨cl, Ar, r1, -⟩ := id A
  have q1 : ¬ (j < 0 ∨ cl.slots.size ≤ j.toNatClampNeg) := fun z => z.elim h0 fun z => by simp [r1] at z; omega
  subst hv
  exact Rn.wrote q sf (fun h' W => k h' W (A.set W)) fun p l e s m args below meth c T locs hx hby hnm X hZ hown eT => by subst hp; exact stJ X hx hZ eT Ar q1 (g := mkF m pc Ls (.long x :: .int j :: .ref a :: rest)) rfl rfl (hb hby hd)
theorem Rn.dastore {a : Addr} {vs : List Value} {j : Int32} {x : UInt64} {v : Value} (A : Ax Z h a .double vs) (h0 : ¬ j < 0) (hi : j.toNatClampNeg < vs.length) (hv : (.double x : Value) = v) (q : a ∈ ws ∨ hS.size ≤ a) (sf : Sf w Z EL os h a) (hd : decode bytes pc = .ok (.dastore, 1)) (hp : pc + 1 = pc') (k : ∀ h', Wr h h' a j.toNatClampNeg v → Ax Z h' a .double (vs.set j.toNatClampNeg v) → Rn w Z EL own nm bytes ml ret R hS ws Q os cells slots h' pc' Ls rest) : Rn w Z EL own nm bytes ml ret R hS ws Q os cells slots h pc Ls (.double x :: .int j :: .ref a :: rest) := by
  obtain ⟨cl, Ar, r1, -⟩ := id A
  have q1 : ¬ (j < 0 ∨ cl.slots.size ≤ j.toNatClampNeg) := fun z => z.elim h0 fun z => by simp [r1] at z; omega
  subst hv
  exact Rn.wrote q sf (fun h' W => k h' W (A.set W)) fun p l e s m args below meth c T locs hx hby hnm X hZ hown eT => by subst hp; exact stD X hx hZ eT Ar q1 (g := mkF m pc Ls (.double x :: .int j :: .ref a :: rest)) rfl rfl (hb hby hd)
theorem Rn.castore {a : Addr} {vs : List Value} {j : Int32} {x : Int32} {v : Value} (A : Ax Z h a .char vs) (h0 : ¬ j < 0) (hi : j.toNatClampNeg < vs.length) (hv : (.int (nar .char x) : Value) = v) (q : a ∈ ws ∨ hS.size ≤ a) (sf : Sf w Z EL os h a) (hd : decode bytes pc = .ok (.castore, 1)) (hp : pc + 1 = pc') (k : ∀ h', Wr h h' a j.toNatClampNeg v → Ax Z h' a .char (vs.set j.toNatClampNeg v) → Rn w Z EL own nm bytes ml ret R hS ws Q os cells slots h' pc' Ls rest) : Rn w Z EL own nm bytes ml ret R hS ws Q os cells slots h pc Ls (.int x :: .int j :: .ref a :: rest) := by
  obtain ⟨cl, Ar, r1, -⟩ := id A
  have q1 : ¬ (j < 0 ∨ cl.slots.size ≤ j.toNatClampNeg) := fun z => z.elim h0 fun z => by simp [r1] at z; omega
  subst hv
  exact Rn.wrote q sf (fun h' W => k h' W (A.set W)) fun p l e s m args below meth c T locs hx hby hnm X hZ hown eT => by subst hp; exact stC X hx hZ eT Ar q1 (g := mkF m pc Ls (.int x :: .int j :: .ref a :: rest)) rfl rfl (hb hby hd)
theorem Rn.bastore {a : Addr} {vs : List Value} {j : Int32} {x : Int32} {v : Value} (A : Ax Z h a .byte vs) (h0 : ¬ j < 0) (hi : j.toNatClampNeg < vs.length) (hv : (.int (nar .byte x) : Value) = v) (q : a ∈ ws ∨ hS.size ≤ a) (sf : Sf w Z EL os h a) (hd : decode bytes pc = .ok (.bastore, 1)) (hp : pc + 1 = pc') (k : ∀ h', Wr h h' a j.toNatClampNeg v → Ax Z h' a .byte (vs.set j.toNatClampNeg v) → Rn w Z EL own nm bytes ml ret R hS ws Q os cells slots h' pc' Ls rest) : Rn w Z EL own nm bytes ml ret R hS ws Q os cells slots h pc Ls (.int x :: .int j :: .ref a :: rest) := by
  obtain ⟨cl, Ar, r1, -⟩ := id A
  have q1 : ¬ (j < 0 ∨ cl.slots.size ≤ j.toNatClampNeg) := fun z => z.elim h0 fun z => by simp [r1] at z; omega
  subst hv
  exact Rn.wrote q sf (fun h' W => k h' W (A.set W)) fun p l e s m args below meth c T locs hx hby hnm X hZ hown eT => by subst hp; exact stB X hx hZ eT Ar q1 (g := mkF m pc Ls (.int x :: .int j :: .ref a :: rest)) rfl rfl (hb hby hd)
theorem Rn.aastore {a : Addr} {ty : FieldType} {vs : List Value} {j : Int32} {v : Value} (A : Ax Z h a ty vs) (ht : ty.isReference = true) (F : Sto Z h a v) (h0 : ¬ j < 0) (hi : j.toNatClampNeg < vs.length) (hv : v.isRef = true) (q : a ∈ ws ∨ hS.size ≤ a) (sf : Sf w Z EL os h a) (hd : decode bytes pc = .ok (.aastore, 1)) (hp : pc + 1 = pc') (k : ∀ h', Wr h h' a j.toNatClampNeg v → Ax Z h' a ty (vs.set j.toNatClampNeg v) → Rn w Z EL own nm bytes ml ret R hS ws Q os cells slots h' pc' Ls rest) : Rn w Z EL own nm bytes ml ret R hS ws Q os cells slots h pc Ls (v :: .int j :: .ref a :: rest) := by
  obtain ⟨cl, Ar, r1, -⟩ := id A
  have q1 : ¬ (j < 0 ∨ cl.slots.size ≤ j.toNatClampNeg) := fun z => z.elim h0 fun z => by simp [r1] at z; omega
  exact Rn.wrote q sf (fun h' W => k h' W (A.set W)) fun p l e s m args below meth c T locs hx hby hnm X hZ hown eT => by subst hp; exact stR X hx hZ eT Ar q1 ht F (g := mkF m pc Ls (v :: .int j :: .ref a :: rest)) rfl rfl (hb hby hd)
end Steps
section Objs
variable {w : Bool} {Z : State} {EL : List (String × Nat)} {own nm : String} {bytes : ByteArray} {ml : Nat} {ret : Option FieldType} {R : Room} {hS : Heap} {ws : List Addr} {Q : Option Value → Heap → Prop} {os : List Addr} {cells slots : Nat} {h h' : Heap} {pc pc' : Nat} {Ls Ls' : Array Slot} {rest : List Value} {a0 : Array Value}
theorem Rn.getF {ix : Nat} {R0 O n d host : String} {a : Addr} {v : Value} (wd : (Jvm.Cond.fieldLink own ix R0 n d).before a0 Z = true ∨ (Jvm.Cond.fieldLinkNest own ix R0 n d host).before a0 Z = true) (via : Via Z R0 O n d) (F : Fld Z h a O n d v) (hd : decode bytes pc = .ok (.getfield ix, 3)) (hp : pc + 3 = pc') (k : Rn w Z EL own nm bytes ml ret R hS ws Q os cells slots h pc' Ls (v :: rest)) : Rn w Z EL own nm bytes ml ret R hS ws Q os cells slots h pc Ls (.ref a :: rest) :=
  k.note fun p l e s m args below meth c T locs hx hby hml X hZ hown eT => by subst hp; exact Jvm.RoadKit.getF X hx hZ hown wd via eT F (g := mkF m pc Ls (.ref a :: rest)) rfl rfl (hb hby hd)
theorem Rn.getS {ix : Nat} {R0 O n d : String} {v : Value} (wd : (Jvm.Cond.fieldLink own ix R0 n d).before a0 Z = true) (via : Via Z R0 O n d) (F : Sta Z h O n d v) (hd : decode bytes pc = .ok (.getstatic ix, 3)) (hp : pc + 3 = pc') (k : Rn w Z EL own nm bytes ml ret R hS ws Q os cells slots h pc' Ls (v :: rest)) : Rn w Z EL own nm bytes ml ret R hS ws Q os cells slots h pc Ls rest :=
  k.note fun p l e s m args below meth c T locs hx hby hml X hZ hown eT => by subst hp; exact Jvm.RoadKit.getS X hx hZ hown (host := "") wd via eT F (g := mkF m pc Ls rest) rfl (hb hby hd)
theorem Rn.putF {ix kk : Nat} {R0 O n d C : String} {ty : FieldType} {a : Addr} {v old : Value} (wd : (Jvm.Cond.fieldLink own ix R0 n d).before a0 Z = true) (via : Via Z R0 O n d) (F : Fld Z h a O n d old) (E : Exa Z h a C) (L : (Jvm.Cond.lays C O n d).before a0 Z = true ∨ ((Jvm.Cond.laysFinal C O n d).before a0 Z = true ∧ own = O ∧ nm = "<init>")) (wi : (Jvm.Cond.instantiable C kk).before a0 Z = true)
    (hty : parseFieldDescriptor d = some ty) (hn : narrow ty v = v) (hf : fits ty v = true) (q : a ∈ ws ∨ hS.size ≤ a) (sf : Sf w Z EL os h a) (hd : decode bytes pc = .ok (.putfield ix, 3)) (hp : pc + 3 = pc') (k : ∀ h', Wr h h' a (Jvm.RoadKit.slotOf Z O n d) v → Rn w Z EL own nm bytes ml ret R hS ws Q os cells slots h' pc' Ls rest) : Rn w Z EL own nm bytes ml ret R hS ws Q os cells slots h pc Ls (v :: .ref a :: rest) :=
  Rn.wrote q sf k fun p l e s m args below meth c T locs hx hby hnm X hZ hown eT => by
    subst hp
    exact Jvm.RoadKit.putF X hx hZ hown (host := "") (Or.inl wd) via eT F E (L.imp id fun z => ⟨z.1, z.2.1, hnm.trans z.2.2⟩) wi hty hn hf (g := mkF m pc Ls (v :: .ref a :: rest)) rfl rfl (hb hby hd)
theorem Rn.newO {ix n : Nat} {C : String} (w1 : (Jvm.Cond.classLink own ix C).before a0 Z = true) (w2 : (Jvm.Cond.instantiable C n).before a0 Z = true) (w3 : (Jvm.Cond.initialized C).before a0 Z = true) (hd : decode bytes pc = .ok (.new ix, 3)) (hc : cells + 1 ≤ R.cells) (hs : slots + n ≤ R.slots) (hp : pc + 3 = pc')
    (k : ∀ h' a, a = h.size → hS.size ≤ a → Ext h h' → (Exa Z h' a C ∧ (∀ {O nm d : String} {ty : FieldType}, Laid Z a0 C O nm d → parseFieldDescriptor d = some ty → Fld Z h' a O nm d (defaultValue ty)) ∧ (∃ cell : Cell, h'[a]? = some cell ∧ cell.vm = .none ∧ cell.monitor = {})) → Rn w Z EL own nm bytes ml ret R hS ws Q (a :: os) (cells + 1) (slots + n) h' pc' Ls (.ref a :: rest)) : Rn w Z EL own nm bytes ml ret R hS ws Q os cells slots h pc Ls rest :=
  Rn.made (G := fun h' a => Exa Z h' a C ∧ (∀ {O nm d : String} {ty : FieldType}, Laid Z a0 C O nm d → parseFieldDescriptor d = some ty → Fld Z h' a O nm d (defaultValue ty)) ∧ (∃ cell : Cell, h'[a]? = some cell ∧ cell.vm = .none ∧ cell.monitor = {})) (st' := fun a => .ref a :: rest) (st := fun _ => rest) k (fun h' g => g.1.lt) fun p l e s m args below meth c T locs hx hby X hZ hown eT => by
    subst hp
    obtain ⟨T', h', X', e', E, A, D, U, st⟩ := Jvm.RoadKit.newO X hx hZ hown w1 w2 w3 eT (g := mkF m pc Ls rest) rfl (hb hby hd) hc hs
    exact ⟨T', h', X', e', E, ⟨A, D, U⟩, st⟩
theorem Rn.newP {aty : ArrayType} {n : Int32} {cap : Nat} {ty : FieldType} {ad : String} (wd : (Jvm.Cond.arrayClass ty).before a0 Z = true) (hty : newarray.typeOf aty = ty) (had : "[" ++ ty.toString = ad) (hd : decode bytes pc = .ok (.newarray aty, 2)) (hn : ¬ n < 0) (hcap : n.toNatClampNeg ≤ cap) (hb8 : cap * 8 ≤ 536870912) (hc : cells + 1 ≤ R.cells) (hs : slots + cap ≤ R.slots) (hp : pc + 2 = pc')
    (k : ∀ h' a, a = h.size → hS.size ≤ a → Ext h h' → (Ax Z h' a ty (List.replicate n.toNatClampNeg (defaultValue ty)) ∧ Exa Z h' a ad) → Rn w Z EL own nm bytes ml ret R hS ws Q (a :: os) (cells + 1) (slots + cap) h' pc' Ls (.ref a :: rest)) : Rn w Z EL own nm bytes ml ret R hS ws Q os cells slots h pc Ls (.int n :: rest) := by
  subst hty
  refine Rn.made (G := fun h' a => Ax Z h' a (newarray.typeOf aty) (List.replicate n.toNatClampNeg (defaultValue (newarray.typeOf aty))) ∧ Exa Z h' a ad) (st' := fun a => .ref a :: rest) (st := fun _ => rest) k (fun h' g => g.1.lt) fun p l e s m args below meth c T locs hx hby X hZ hown eT => ?_
  subst hp
  obtain ⟨T', h', cA, X', e', E, A, B, st⟩ := Jvm.RoadKit.newPE X hx hZ wd eT (g := mkF m pc Ls (.int n :: rest)) rfl (hb hby hd) rfl hn hcap hb8 hc hs had
  exact ⟨T', h', X', e', E, ⟨Ax.new A hn, B⟩, st⟩
theorem Rn.castY {ix : Nat} {K : String} {a : Addr} (wd : (Jvm.Cond.classLink own ix K).before a0 Z = true) (F : Ins Z h a K true) (hd : decode bytes pc = .ok (.checkcast ix, 3)) (hp : pc + 3 = pc') (k : Rn w Z EL own nm bytes ml ret R hS ws Q os cells slots h pc' Ls (.ref a :: rest)) : Rn w Z EL own nm bytes ml ret R hS ws Q os cells slots h pc Ls (.ref a :: rest) :=
  k.note fun p l e s m args below meth c T locs hx hby hml X hZ hown eT => by subst hp; exact Jvm.RoadKit.castY X hx hZ hown wd eT F (g := mkF m pc Ls (.ref a :: rest)) rfl rfl (hb hby hd)
theorem Rn.instY {ix : Nat} {K : String} {a : Addr} (wd : (Jvm.Cond.classLink own ix K).before a0 Z = true) (F : Ins Z h a K true) (hd : decode bytes pc = .ok (.instanceof ix, 3)) (hp : pc + 3 = pc') (k : Rn w Z EL own nm bytes ml ret R hS ws Q os cells slots h pc' Ls (.int 1 :: rest)) : Rn w Z EL own nm bytes ml ret R hS ws Q os cells slots h pc Ls (.ref a :: rest) :=
  k.note fun p l e s m args below meth c T locs hx hby hml X hZ hown eT => by subst hp; exact Jvm.RoadKit.instY X hx hZ hown wd eT F (g := mkF m pc Ls (.ref a :: rest)) rfl rfl (hb hby hd)
theorem Rn.instNo {ix : Nat} {K C : String} {a : Addr} (wd : (Jvm.Cond.classLink own ix K).before a0 Z = true) (E : Exa Z h a C) (F : ∃ c t, Z.vm.findClass C = some c ∧ Z.vm.findClass K = some t ∧ Z.vm.assignable c t = false) (hd : decode bytes pc = .ok (.instanceof ix, 3)) (hp : pc + 3 = pc') (k : Rn w Z EL own nm bytes ml ret R hS ws Q os cells slots h pc' Ls (.int 0 :: rest)) : Rn w Z EL own nm bytes ml ret R hS ws Q os cells slots h pc Ls (.ref a :: rest) :=
  k.note fun p l e s m args below meth c T locs hx hby hml X hZ hown eT => by subst hp; exact Jvm.RoadKit.instNo X hx hZ hown wd eT E F (g := mkF m pc Ls (.ref a :: rest)) rfl rfl (hb hby hd)
theorem Rn.initO {ix : Nat} {a : Addr} (w1 : (Jvm.Cond.methodLink own ix Lib.objectInit).before a0 Z = true) (w2 : (Jvm.Cond.instanceMethod Lib.objectInit).before a0 Z = true) (w3 : (Jvm.Cond.code Lib.objectInit ⟨#[0xb1]⟩ 1 none).before a0 Z = true) (hsz : Ls.size = ml) (hd : decode bytes pc = .ok (.invokespecial ix, 3)) (hf : 1 ≤ R.frames) (hl : (rest.map fun v => v.category).sum + 12 ≤ R.locals) (hp : pc + 3 = pc') (k : Rn w Z EL own nm bytes ml ret R hS ws Q os cells slots h pc' Ls rest) : Rn w Z EL own nm bytes ml ret R hS ws Q os cells slots h pc Ls (.ref a :: rest) :=
  k.note fun p l e s m args below meth c T locs hx hby hml X hZ hown eT => by subst hp; exact Jvm.RoadKit.initO X hx hZ hown w1 w2 w3 eT (g := mkF m pc Ls (.ref a :: rest)) rfl (hsz.trans hml.symm) rfl (hb hby hd) hf (W := (rest.map fun v => v.category).sum) (by show 2 * 0 + _ ≤ _; omega) hl
/-! ### contracts -/
/-- the contract of a method, in a walk that loads no literal: called with as over the heap h it returns as Q says and writes nothing but cells at ws and cells of its own -/
def Ct (Z : State) (y : MethodName) (bytes : ByteArray) (ml : Nat) (ret : Option FieldType) (rm : Room) (as : Array Value) (h : Heap) (ws : List Addr) (Q : Option Value → Heap → Prop) : Prop :=
  Ext Z.heap h → (∀ x ∈ ws, Z.heap.size ≤ x) → ∀ l, MetFree l y (head1 [Jvm.Cond.code y bytes ml ret] rm) (fun a U => a = as ∧ Z.Warmed39 U.vm ∧ U.heap = h) (fun _ _ _ _ _ => True) (fun _ U o U' => ∃ v L, o = .returned v ∧ (Fr Z.heap.size L ∧ Keep h U'.heap ws ∧ Q v U'.heap) ∧ FrameEnd U o U' L rm.cells rm.slots)
theorem met_of {wsT : List Jvm.Cond} {cls d : String} {as : Array Value} (pn : plainName cls = true) (ef : ∀ m, entryFrame m as ml = mkF m 0 Ls []) (hO : Ext Z.heap h) (hW : ∀ x ∈ ws, Z.heap.size ≤ x) (l : Launch) (k : Rn false Z [] cls nm bytes ml ret R h ws Q [] 0 0 h 0 Ls []) :
    MetFree l ⟨cls, nm, d⟩ (head1 (Jvm.Cond.code ⟨cls, nm, d⟩ bytes ml ret :: wsT) R) (fun a U => a = as ∧ Z.Warmed39 U.vm ∧ U.heap = h) (fun _ _ _ _ _ => True) (fun _ U o U' => ∃ v L, o = .returned v ∧ (Fr Z.heap.size L ∧ Keep h U'.heap ws ∧ Q v U'.heap) ∧ FrameEnd U o U' L R.cells R.slots) := by
  refine MetFree.of_bodySF (plainFor_of_name pn) hisR ?_
  intro p e s m args below meth c s₁ Bd hml0 hP hK
  obtain ⟨rfl, hZ, hh⟩ := hP
  have g := k p l e s s.vm m args below meth c s₁ [] ⟨Bd.exec, Bd.bytes, hml0, hZ, findClass_of_methodNamed Bd.named, (name_of_methodNamed Bd.named Bd.method).1, Bd.returns, Bd.notSynchronized⟩ (Stand.of_body Bd) rfl (Fr.nil _) (Keep.refl _ _) ⟨hO, hW⟩ (by rw [← hh, Bd.state]; rfl)
  obtain ⟨s₂, o, h1, h2, h3, h4⟩ := g
  exact ⟨s₂, o, castTop (ef m) h1, h2, h3, h4⟩
theorem Ct.intro {cls d : String} {as : Array Value} (pn : plainName cls = true) (ef : ∀ m, entryFrame m as ml = mkF m 0 Ls []) (k : Rn false Z [] cls nm bytes ml ret R h ws Q [] 0 0 h 0 Ls []) : Ct Z ⟨cls, nm, d⟩ bytes ml ret R as h ws Q :=
  fun hO hW l => met_of pn ef hO hW l k
theorem Ct.weaken {y : MethodName} {as : Array Value} {Q' : Option Value → Heap → Prop} (C : Ct Z y bytes ml ret R as h ws Q) (q : ∀ v h', Keep h h' ws → Q v h' → Q' v h') : Ct Z y bytes ml ret R as h ws Q' := by
  intro hO hW l p e ha hc hk s m args below hf happ hP hK
  obtain ⟨n, o, h1, h2, h3, v, L, h4, ⟨h5, h6, h7⟩, h8⟩ := C hO hW l p e ha hc hk s m args below hf happ hP hK
  exact ⟨n, o, h1, h2, h3, v, L, h4, ⟨h5, h6, q v _ h6 h7⟩, h8⟩
/-- behind a call by a plain contract -/
theorem Rn.called {st : List Value} {ws' : List Addr} {Q' : Option Value → Heap → Prop} {rm : Room} (hws : ∀ x ∈ ws', x ∈ ws ∨ hS.size ≤ x) (hsf : ∀ x ∈ ws', Sf w Z EL os h x)
    (k : ∀ v h', Keep h h' ws' → Q' v h' → Rn w Z EL own nm bytes ml ret R hS ws Q os (cells + rm.cells) (slots + rm.slots) h' pc' Ls (v.toList ++ rest))
    (f : ∀ (p : Program) (l : Launch) (e : Env) (s : State) (m : MethodId) (args : Array Value) (below : List Frame) (meth : Method) (c : Code) (T : State) (locs : List Loc), p.tables.exec = Jvm.exec → c.code = bytes → c.maxLocals = ml → Stand p l e R s m args below meth c T locs cells slots → Z.Warmed39 s.vm → s.vm.findClass own = some m.cls → T.heap = h → Ext Z.heap h → (∀ x ∈ ws', Z.heap.size ≤ x) →
      ∃ (v : Option Value) (B : Pt), Stand p l e R s m args below meth c B.U B.locs B.cells B.slots ∧ (∃ L, (Fr Z.heap.size L ∧ Keep h B.U.heap ws' ∧ Q' v B.U.heap) ∧ B.locs = locs ++ L ∧ B.cells = cells + rm.cells ∧ B.slots = slots + rm.slots) ∧ ∀ t, Steps p.tables e below (B.U.setTop (mkF m pc' Ls (v.toList ++ rest))) t → Steps p.tables e below (T.setTop (mkF m pc Ls st)) t) :
    Rn w Z EL own nm bytes ml ret R hS ws Q os cells slots h pc Ls st := by
  intro p l e s vm0 m args below meth c T locs ok X sn fr K O eT
  have X0 : Old Z Z.heap.size h := Old.keep (h := hS) ⟨rfl, O.1⟩ K O.2
  obtain ⟨v, ⟨U, L', c', s'⟩, X', ⟨L, ⟨f1, K', q'⟩, e1, e2, e3⟩, stp⟩ := f p l e _ m args below meth c T locs ok.1 ok.2.1 ok.2.2.1 X ok.2.2.2.1 ok.2.2.2.2.1 eT X0.2 (fun x hx => ge_of O (hws x hx))
  dsimp only [Pt.U, Pt.locs, Pt.cells, Pt.slots] at X' K' q' e1 e2 e3 stp
  subst e1 e2 e3
  exact (k v U.heap K' q' p l e s vm0 m args below meth c U _ ok X' (sn.keep ok.2.2.2.1 K' hsf) (fr.app f1) (K.trans K' hws) O rfl).pre stp
theorem Rn.callS {ix : Nat} {y : MethodName} {yb : ByteArray} {yl : Nat} {yr : Option FieldType} {rm : Room} {as : Array Value} {ws' : List Addr} {Q' : Option Value → Heap → Prop} {argsL : List Value} {st : List Value}
    (C : Ct Z y yb yl yr rm as h ws' Q') (w1 : (Jvm.Cond.methodLink own ix y).before a0 Z = true) (w2 : (Jvm.Cond.static y).before a0 Z = true) (w3 : (Jvm.Cond.initialized y.cls).before a0 Z = true) (w4 : (Jvm.Cond.code y yb yl yr).before a0 Z = true) (hy : y.cls ≠ "java/lang/invoke/MethodHandle" ∧ y.cls ≠ "java/lang/invoke/VarHandle")
    (hst : st = argsL.reverse ++ rest) (has : argsL.toArray = as) (hlen : ∀ sig, parseMethodDescriptor y.desc = some sig → argsL.length = sig.parameters.length) (hsz : Ls.size = ml) (hd : decode bytes pc = .ok (.invokestatic ix, 3)) (hp : pc + 3 = pc')
    (hf : rm.frames + 1 ≤ R.frames) (hl : (rest.map fun v => v.category).sum + (yl + 11) + rm.locals ≤ R.locals) (hc : cells + rm.cells ≤ R.cells) (hs : slots + rm.slots ≤ R.slots) (hws : ∀ x ∈ ws', x ∈ ws ∨ hS.size ≤ x) (hsf : ∀ x ∈ ws', Sf w Z EL os h x)
    (k : ∀ v h', Keep h h' ws' → Q' v h' → Rn w Z EL own nm bytes ml ret R hS ws Q os (cells + rm.cells) (slots + rm.slots) h' pc' Ls (v.toList ++ rest)) : Rn w Z EL own nm bytes ml ret R hS ws Q os cells slots h pc Ls st := by
  refine Rn.called hws hsf k fun p l e s m args below meth c T locs hx hby hml X hZ hown eT hO hge => ?_
  obtain ⟨v, vm1, B, -, X', ⟨L, q⟩, stp⟩ := Jvm.LawKit.callS X hx (y := y) hown (mvT hZ w1) (mvT hZ w2) (mvT hZ w3) (mvT hZ w4) hy (backOf (W := (rest.map fun v => v.category).sum) (Q := fun v h2 L => Fr Z.heap.size L ∧ Keep h h2 ws' ∧ Q' v h2) (C hO hge l) hZ w4 w3 hf hl) (g := mkF m pc Ls st) rfl (hsz.trans hml.symm) (argsL := argsL) (rest := rest) hlen hst (by show 2 * 0 + _ ≤ _; omega) (hb hby hd) (fun _ _ => ⟨has, eT, hc, hs⟩)
  subst hp
  exact ⟨v, B, X', ⟨L, q⟩, stp⟩
theorem Rn.callI {ix : Nat} {y : MethodName} {yb : ByteArray} {yl : Nat} {rm : Room} {as : Array Value} {ws' : List Addr} {Q' : Option Value → Heap → Prop} {a : Addr} {argsL : List Value} {st : List Value}
    (C : Ct Z y yb yl none rm as h ws' Q') (hy1 : y.name = "<init>") (w1 : (Jvm.Cond.methodLink own ix y).before a0 Z = true) (w2 : (Jvm.Cond.instanceMethod y).before a0 Z = true) (w3 : (Jvm.Cond.initialized y.cls).before a0 Z = true) (w4 : (Jvm.Cond.code y yb yl none).before a0 Z = true) (hy : y.cls ≠ "java/lang/invoke/MethodHandle" ∧ y.cls ≠ "java/lang/invoke/VarHandle")
    (hst : st = argsL.reverse ++ .ref a :: rest) (has : (.ref a :: argsL).toArray = as) (hlen : ∀ sig, parseMethodDescriptor y.desc = some sig → argsL.length = sig.parameters.length) (hsz : Ls.size = ml) (hd : decode bytes pc = .ok (.invokespecial ix, 3)) (hp : pc + 3 = pc')
    (hf : rm.frames + 1 ≤ R.frames) (hl : (rest.map fun v => v.category).sum + (yl + 11) + rm.locals ≤ R.locals) (hc : cells + rm.cells ≤ R.cells) (hs : slots + rm.slots ≤ R.slots) (hws : ∀ x ∈ ws', x ∈ ws ∨ hS.size ≤ x) (hsf : ∀ x ∈ ws', Sf w Z EL os h x)
    (k : ∀ v h', Keep h h' ws' → Q' v h' → Rn w Z EL own nm bytes ml ret R hS ws Q os (cells + rm.cells) (slots + rm.slots) h' pc' Ls (v.toList ++ rest)) : Rn w Z EL own nm bytes ml ret R hS ws Q os cells slots h pc Ls st := by
  refine Rn.called hws hsf k fun p l e s m args below meth c T locs hx hby hml X hZ hown eT hO hge => ?_
  obtain ⟨v, vm1, B, -, X', ⟨L, q⟩, stp⟩ := X.specialBack hx (y := y) hy1 hown (mvT hZ w1) (mvT hZ w2) (mvT hZ w4) hy (backOf (W := (rest.map fun v => v.category).sum) (Q := fun v h2 L => Fr Z.heap.size L ∧ Keep h h2 ws' ∧ Q' v h2) (C hO hge l) hZ w4 w3 hf hl) (g := mkF m pc Ls st) rfl (hsz.trans hml.symm) (Steps.refl _) (a := a) (argsL := argsL) (rest := rest) hlen hst (by show 2 * 0 + _ ≤ _; omega) (hb hby hd) (fun _ _ => ⟨has, eT, hc, hs⟩)
  subst hp
  exact ⟨v, B, X', ⟨L, q⟩, fun t r => stp.trans r⟩
theorem Rn.callV {ix : Nat} {C0 : String} {y z : MethodName} {yb : ByteArray} {yl : Nat} {yr : Option FieldType} {rm : Room} {as : Array Value} {ws' : List Addr} {Q' : Option Value → Heap → Prop} {a : Addr} {argsL : List Value} {st : List Value}
    (C : Ct Z z yb yl yr rm as h ws' Q') (E : Exa Z h a C0) (w1 : (Jvm.Cond.methodLink own ix y).before a0 Z = true) (w2 : (Jvm.Cond.declares y).before a0 Z = true) (nf : ∀ s : State, Z.Warmed39 s.vm → NotFace s y) (w5 : (Jvm.Cond.selects C0 y z).before a0 Z = true) (w6 : (Jvm.Cond.instanceMethod z).before a0 Z = true) (w3 : (Jvm.Cond.initialized z.cls).before a0 Z = true) (w4 : (Jvm.Cond.code z yb yl yr).before a0 Z = true) (hy : y.cls ≠ "java/lang/invoke/MethodHandle" ∧ y.cls ≠ "java/lang/invoke/VarHandle")
    (hst : st = argsL.reverse ++ .ref a :: rest) (has : (.ref a :: argsL).toArray = as) (hlen : ∀ sig, parseMethodDescriptor y.desc = some sig → argsL.length = sig.parameters.length) (hsz : Ls.size = ml) (hd : decode bytes pc = .ok (.invokevirtual ix, 3)) (hp : pc + 3 = pc')
    (hf : rm.frames + 1 ≤ R.frames) (hl : (rest.map fun v => v.category).sum + (yl + 11) + rm.locals ≤ R.locals) (hc : cells + rm.cells ≤ R.cells) (hs : slots + rm.slots ≤ R.slots) (hws : ∀ x ∈ ws', x ∈ ws ∨ hS.size ≤ x) (hsf : ∀ x ∈ ws', Sf w Z EL os h x)
    (k : ∀ v h', Keep h h' ws' → Q' v h' → Rn w Z EL own nm bytes ml ret R hS ws Q os (cells + rm.cells) (slots + rm.slots) h' pc' Ls (v.toList ++ rest)) : Rn w Z EL own nm bytes ml ret R hS ws Q os cells slots h pc Ls st := by
  refine Rn.called hws hsf k fun p l e s m args below meth c T locs hx hby hml X hZ hown eT hO hge => ?_
  obtain ⟨cq, kq, qa, qb, qc⟩ := isOf hZ eT E
  obtain ⟨v, vm1, B, -, X', ⟨L, q⟩, stp⟩ := X.virtualBack hx (y := y) (z := z) hown (mvT hZ w1) (mvT hZ w2) (nf s hZ) (mvT hZ w5) (mvT hZ w6) hy (backOf (W := (rest.map fun v => v.category).sum) (Q := fun v h2 L => Fr Z.heap.size L ∧ Keep h h2 ws' ∧ Q' v h2) (C hO hge l) hZ w4 w3 hf hl) qa qc (g := mkF m pc Ls st) rfl (hsz.trans hml.symm) (Steps.refl _) (argsL := argsL) (rest := rest) hlen hst (by show 2 * 0 + _ ≤ _; omega) (hb hby hd) (fun _ _ => ⟨has, eT, hc, hs⟩)
  subst hp
  exact ⟨v, B, X', ⟨L, q⟩, fun t r => stp.trans r⟩
end Objs
section Objs2
variable {w : Bool} {Z : State} {EL : List (String × Nat)} {own nm : String} {bytes : ByteArray} {ml : Nat} {ret : Option FieldType} {R : Room} {hS : Heap} {ws : List Addr} {Q : Option Value → Heap → Prop} {os : List Addr} {cells slots : Nat} {h h' : Heap} {pc pc' : Nat} {Ls Ls' : Array Slot} {rest : List Value} {a0 : Array Value}
theorem Rn.callU {ix : Nat} {C0 owner : String} {y z : MethodName} {yb : ByteArray} {yl : Nat} {yr : Option FieldType} {rm : Room} {as : Array Value} {ws' : List Addr} {Q' : Option Value → Heap → Prop} {a : Addr} {argsL : List Value} {st : List Value}
    (C : Ct Z z yb yl yr rm as h ws' Q') (E : Exa Z h a C0) (w1 : (Jvm.Cond.methodLink own ix y).before a0 Z = true) (w2 : (Jvm.Cond.sameMethod y.cls owner y.name y.desc).before a0 Z = true) (w7 : (Jvm.Cond.declares ⟨owner, y.name, y.desc⟩).before a0 Z = true) (hy : owner ≠ "java/lang/invoke/MethodHandle" ∧ owner ≠ "java/lang/invoke/VarHandle") (w5 : (Jvm.Cond.selects C0 y z).before a0 Z = true) (w6 : (Jvm.Cond.instanceMethod z).before a0 Z = true) (w3 : (Jvm.Cond.initialized z.cls).before a0 Z = true) (w4 : (Jvm.Cond.code z yb yl yr).before a0 Z = true)
    (hst : st = argsL.reverse ++ .ref a :: rest) (has : (.ref a :: argsL).toArray = as) (hlen : ∀ sig, parseMethodDescriptor y.desc = some sig → argsL.length = sig.parameters.length) (hsz : Ls.size = ml) (hd : decode bytes pc = .ok (.invokevirtual ix, 3)) (hp : pc + 3 = pc')
    (hf : rm.frames + 1 ≤ R.frames) (hl : (rest.map fun v => v.category).sum + (yl + 11) + rm.locals ≤ R.locals) (hc : cells + rm.cells ≤ R.cells) (hs : slots + rm.slots ≤ R.slots) (hws : ∀ x ∈ ws', x ∈ ws ∨ hS.size ≤ x) (hsf : ∀ x ∈ ws', Sf w Z EL os h x)
    (k : ∀ v h', Keep h h' ws' → Q' v h' → Rn w Z EL own nm bytes ml ret R hS ws Q os (cells + rm.cells) (slots + rm.slots) h' pc' Ls (v.toList ++ rest)) : Rn w Z EL own nm bytes ml ret R hS ws Q os cells slots h pc Ls st := by
  refine Rn.called hws hsf k fun p l e s m args below meth c T locs hx hby hml X hZ hown eT hO hge => ?_
  obtain ⟨cq, kq, qa, qb, qc⟩ := isOf hZ eT E
  obtain ⟨v, vm1, B, -, X', ⟨L, q⟩, stp⟩ := X.virtualBackUp hx (x := y) (y := z) hown (mvT hZ w1) (mvT hZ w2) (mvT hZ w7) hy (mvT hZ w5) (mvT hZ w6) (backOf (W := (rest.map fun v => v.category).sum) (Q := fun v h2 L => Fr Z.heap.size L ∧ Keep h h2 ws' ∧ Q' v h2) (C hO hge l) hZ w4 w3 hf hl) qa qc (g := mkF m pc Ls st) rfl (hsz.trans hml.symm) (Steps.refl _) (argsL := argsL) (rest := rest) hlen hst (by show 2 * 0 + _ ≤ _; omega) (hb hby hd) (fun _ _ => ⟨has, eT, hc, hs⟩)
  subst hp
  exact ⟨v, B, X', ⟨L, q⟩, fun t r => stp.trans r⟩
end Objs2
section Objs3
variable {w : Bool} {Z : State} {EL : List (String × Nat)} {own nm : String} {bytes : ByteArray} {ml : Nat} {ret : Option FieldType} {R : Room} {hS : Heap} {ws : List Addr} {Q : Option Value → Heap → Prop} {os : List Addr} {cells slots : Nat} {h h' : Heap} {pc pc' : Nat} {Ls Ls' : Array Slot} {rest : List Value} {a0 : Array Value}
theorem Rn.instNull {ix : Nat} (hd : decode bytes pc = .ok (.instanceof ix, 3)) (hp : pc + 3 = pc') (k : Rn w Z EL own nm bytes ml ret R hS ws Q os cells slots h pc' Ls (.int 0 :: rest)) : Rn w Z EL own nm bytes ml ret R hS ws Q os cells slots h pc Ls (.null :: rest) :=
  k.pure fun p l e s m args below meth c T locs hx hby X hZ hown eT t r => by subst hp; exact Jvm.Stand.instanceofNull X hx (g := mkF m pc Ls (.null :: rest)) rfl rfl (hb hby hd) t r
theorem Rn.castNull {ix : Nat} (hd : decode bytes pc = .ok (.checkcast ix, 3)) (hp : pc + 3 = pc') (k : Rn w Z EL own nm bytes ml ret R hS ws Q os cells slots h pc' Ls (.null :: rest)) : Rn w Z EL own nm bytes ml ret R hS ws Q os cells slots h pc Ls (.null :: rest) :=
  k.pure fun p l e s m args below meth c T locs hx hby X hZ hown eT t r => by subst hp; exact Jvm.Stand.checkcastNull X hx (g := mkF m pc Ls (.null :: rest)) rfl rfl (hb hby hd) t r
theorem ni_of {C C0 : String} {y z : MethodName} (w5 : (Jvm.Cond.selects C y z).before a0 Z = true) (e : z.cls = C0) (s : State) (hZ : Z.Warmed39 s.vm) : ∃ c k, s.vm.findClass C0 = some c ∧ s.vm.classes[c]? = some k ∧ k.isInterface = false := by
  subst e
  obtain ⟨c2, r2, m2, -, -, q3, -, kP, hkP, hkPi⟩ := Cond.selects_spec (mvT (args := #[]) (s := s) hZ w5)
  exact ⟨_, kP, findClass_of_methodNamed q3, hkP, hkPi⟩
theorem Rn.callP {ix : Nat} {C0 : String} {y : MethodName} {yb : ByteArray} {yl : Nat} {yr : Option FieldType} {rm : Room} {as : Array Value} {ws' : List Addr} {Q' : Option Value → Heap → Prop} {a : Addr} {argsL : List Value} {st : List Value}
    (C : Ct Z y yb yl yr rm as h ws' Q') (E : Exa Z h a C0) (w1 : (Jvm.Cond.methodLink own ix y).before a0 Z = true) (w6 : (Jvm.Cond.instanceMethod y).before a0 Z = true) (w7 : (Jvm.Cond.privateMethod y).before a0 Z = true) (ni : ∀ s : State, Z.Warmed39 s.vm → ∃ c k, s.vm.findClass y.cls = some c ∧ s.vm.classes[c]? = some k ∧ k.isInterface = false) (w3 : (Jvm.Cond.initialized y.cls).before a0 Z = true) (w4 : (Jvm.Cond.code y yb yl yr).before a0 Z = true) (hy : y.cls ≠ "java/lang/invoke/MethodHandle" ∧ y.cls ≠ "java/lang/invoke/VarHandle")
    (hst : st = argsL.reverse ++ .ref a :: rest) (has : (.ref a :: argsL).toArray = as) (hlen : ∀ sig, parseMethodDescriptor y.desc = some sig → argsL.length = sig.parameters.length) (hsz : Ls.size = ml) (hd : decode bytes pc = .ok (.invokevirtual ix, 3)) (hp : pc + 3 = pc')
    (hf : rm.frames + 1 ≤ R.frames) (hl : (rest.map fun v => v.category).sum + (yl + 11) + rm.locals ≤ R.locals) (hc : cells + rm.cells ≤ R.cells) (hs : slots + rm.slots ≤ R.slots) (hws : ∀ x ∈ ws', x ∈ ws ∨ hS.size ≤ x) (hsf : ∀ x ∈ ws', Sf w Z EL os h x)
    (k : ∀ v h', Keep h h' ws' → Q' v h' → Rn w Z EL own nm bytes ml ret R hS ws Q os (cells + rm.cells) (slots + rm.slots) h' pc' Ls (v.toList ++ rest)) : Rn w Z EL own nm bytes ml ret R hS ws Q os cells slots h pc Ls st := by
  refine Rn.called hws hsf k fun p l e s m args below meth c T locs hx hby hml X hZ hown eT hO hge => ?_
  obtain ⟨cl, e1, e2⟩ := E.cell
  obtain ⟨c9, k9, z1, z2, z3⟩ := ni s hZ
  have hpv : s.PrivateAt y := Cond.privateMethod_at (mvP (args := #[]) hZ w7)
  have hin : (Jvm.Cond.instanceMethod y).before args s = true := mvT hZ w6
  have hsel : (Jvm.Cond.selects y.cls y y).before args s = true := selects_self_of_private z1 z2 z3 hpv hin hy
  obtain ⟨v, vm1, B, -, X', ⟨L, q⟩, stp⟩ := X.privateBack hx (y := y) hown (mvT hZ w1) hin hsel hpv (mvT hZ w4) hy (backOf (W := (rest.map fun v => v.category).sum) (Q := fun v h2 L => Fr Z.heap.size L ∧ Keep h h2 ws' ∧ Q' v h2) (C hO hge l) hZ w4 w3 hf hl) (g := mkF m pc Ls st) rfl (hsz.trans hml.symm) (Steps.refl _) (a := a) (cell := cl) (by rw [eT]; exact e1) e2 (argsL := argsL) (rest := rest) hlen hst (by show 2 * 0 + _ ≤ _; omega) (hb hby hd) (fun _ _ => ⟨has, eT, hc, hs⟩)
  subst hp
  exact ⟨v, B, X', ⟨L, q⟩, fun t r => stp.trans r⟩
/-- 'anewarray' of an array type -/
theorem Rn.newRA {ix : Nat} {n : Int32} {cap : Nat} {ty : FieldType} {C ad : String} (w1 : (Jvm.Cond.classLink own ix C).before a0 Z = true) (w2 : (Jvm.Cond.arrayOver (.array ty)).before a0 Z = true) (hC : (FieldType.array ty).toString = C) (had : "[" ++ C = ad) (hd : decode bytes pc = .ok (.anewarray ix, 3)) (hn : ¬ n < 0) (hcap : n.toNatClampNeg ≤ cap) (hb8 : cap * 8 ≤ 536870912) (hc : cells + 1 ≤ R.cells) (hs : slots + cap ≤ R.slots) (hp : pc + 3 = pc')
    (k : ∀ h' a, a = h.size → hS.size ≤ a → Ext h h' → (Ax Z h' a (.array ty) (List.replicate n.toNatClampNeg .null) ∧ Exa Z h' a ad ∧ ∀ y, ∀ {h2 : Heap} {vs : List Value}, Ax Z h2 a (.array ty) vs → (∃ cl, h2[a]? = some cl ∧ ∃ cl', h'[a]? = some cl' ∧ cl.cls = cl'.cls) → Ins Z h2 y C true → Sto Z h2 a (.ref y)) → Rn w Z EL own nm bytes ml ret R hS ws Q (a :: os) (cells + 1) (slots + cap) h' pc' Ls (.ref a :: rest)) : Rn w Z EL own nm bytes ml ret R hS ws Q os cells slots h pc Ls (.int n :: rest) := by
  refine Rn.made (G := fun h' a => Ax Z h' a (.array ty) (List.replicate n.toNatClampNeg .null) ∧ Exa Z h' a ad ∧ ∀ y, ∀ {h2 : Heap} {vs : List Value}, Ax Z h2 a (.array ty) vs → (∃ cl, h2[a]? = some cl ∧ ∃ cl', h'[a]? = some cl' ∧ cl.cls = cl'.cls) → Ins Z h2 y C true → Sto Z h2 a (.ref y)) (st' := fun a => .ref a :: rest) (st := fun _ => rest) k (fun h' g => g.1.lt) fun p l e s m args below meth c T locs hx hby X hZ hown eT => ?_
  subst hp
  obtain ⟨T', h', cA, X', e', E, A, B, O, st⟩ := Jvm.RoadKit.newRA X hx hZ hown hC w1 w2 eT (g := mkF m pc Ls (.int n :: rest)) rfl (hb hby hd) rfl hn hcap hb8 hc hs had
  refine ⟨T', h', X', e', E, ⟨Ax.new A hn, B, fun y h2 vs A2 ⟨cl, q1, cl', q2, q3⟩ I => ?_⟩, st⟩
  obtain ⟨c2, A3, -⟩ := A2
  cases q1.symm.trans A3.1
  cases q2.symm.trans A.1
  exact Sto.ofVA A3 q3 O I
/-- 'System.arraycopy' between arrays of one primitive type (or one array and itself) -/
theorem Rn.arraycopy {ix : Nat} {a b : Addr} {ty : FieldType} {vs vd vs' : List Value} {sp dp nn : Int32} (A : Ax Z h a ty vs) (B : Ax Z h b ty vd) (fa : ∀ x ∈ vs, fits ty x = true) (fb : ∀ x ∈ vd, fits ty x = true) (hty : refKind ty = false)
    (w1 : (Jvm.Cond.methodLink own ix Jvm.Stand.acN).before a0 Z = true) (w2 : (Jvm.Cond.native Jvm.Stand.acN).before a0 Z = true) (w3 : (Jvm.Cond.static Jvm.Stand.acN).before a0 Z = true) (w4 : (Jvm.Cond.initialized "java/lang/System").before a0 Z = true)
    (h1 : ¬ sp < 0) (h2 : ¬ dp < 0) (h3 : ¬ nn < 0) (h4 : sp.toNatClampNeg + nn.toNatClampNeg ≤ vs.length) (h5 : dp.toNatClampNeg + nn.toNatClampNeg ≤ vd.length)
    (hv : vd.take dp.toNatClampNeg ++ (List.range nn.toNatClampNeg).map (fun i => vs.getD (sp.toNatClampNeg + i) (.int 0)) ++ vd.drop (dp.toNatClampNeg + nn.toNatClampNeg) = vs')
    (hsz : Ls.size = ml) (hd : decode bytes pc = .ok (.invokestatic ix, 3)) (hf : 1 ≤ R.frames) (hl : (rest.map fun v => v.category).sum + 18 ≤ R.locals) (q : b ∈ ws ∨ hS.size ≤ b) (sf : Sf w Z EL os h b) (hp : pc + 3 = pc')
    (k : ∀ h', Keep h h' [b] → Ax Z h' b ty vs' → Rn w Z EL own nm bytes ml ret R hS ws Q os cells slots h' pc' Ls rest) : Rn w Z EL own nm bytes ml ret R hS ws Q os cells slots h pc Ls (.int nn :: .int dp :: .ref b :: .int sp :: .ref a :: rest) := by
  intro p l e s vm0 m args below meth c T locs ok X sn fr K O eT
  have hlen : ∀ {xs : List Value}, xs.length < 2 ^ 31 → (Int32.ofNat xs.length).toNatClampNeg = xs.length ∧ ¬ Int32.ofNat xs.length < 0 := fun {xs} hx => by
    have e1 : (Int32.ofNat xs.length).toInt = xs.length := Int32.toInt_ofNat_of_lt hx
    refine ⟨by simp [Int32.toNatClampNeg, e1], ?_⟩
    rw [Int32.lt_iff_toInt_lt, e1]; have : (0 : Int32).toInt = 0 := rfl; omega
  obtain ⟨la, na⟩ := hlen (xs := vs) (by obtain ⟨_, _, _, z⟩ := A; exact z)
  obtain ⟨lb, nb⟩ := hlen (xs := vd) (by obtain ⟨_, _, _, z⟩ := B; exact z)
  obtain ⟨ka, Aa⟩ := A.arv (d := .int 0) fa _ la na
  obtain ⟨kb, Bb⟩ := B.arv (d := .int 0) fb _ lb nb
  obtain ⟨T', h', L, X', e', N', K', A', stp⟩ := cpA X ok.1 ok.2.2.2.1 ok.2.2.2.2.1 w1 w2 w3 w4 eT Aa Bb (Or.inl ⟨rfl, hty⟩) h1 h2 h3 (by rw [la]; exact h4) (by rw [lb]; exact h5) rfl h5 fr (ge_of O q) (g := mkF m pc Ls (.int nn :: .int dp :: .ref b :: .int sp :: .ref a :: rest)) rfl (hsz.trans ok.2.2.1.symm) rfl (hb ok.2.1 hd) hf (W := (rest.map fun v => v.category).sum) (by show 2 * 0 + _ ≤ _; omega) hl
  have A2 : Ax Z h' b ty vs' := by
    rw [← hv]
    refine Ax.ofArv A' ?_
    simp only [List.length_append, List.length_take, List.length_map, List.length_range, List.length_drop]; omega
  subst hp
  exact (k h' K' A2 p l e s vm0 m args below meth c T' L ok X' (sn.keep ok.2.2.2.1 K' fun x hx => by cases List.mem_singleton.mp hx; exact sf) N' (K.trans K' fun x hx => by cases List.mem_singleton.mp hx; exact q) O e').pre stp
end Objs3
theorem ns_root {Z : State} {a0 : Array Value} {O K : String} {n : Nat} (w : (Jvm.Cond.noSuperclass O).before a0 Z = true) (wi : (Jvm.Cond.instantiable K n).before a0 Z = true) (hn : O ≠ K) : NS Z O K := by
  obtain ⟨c, k, h1, h2, h3, -, -⟩ := Cond.noSuperclass_spec w
  obtain ⟨t, kt, g1, -⟩ := Cond.instantiable_spec wi
  have ne := ids_ne h1 g1 hn
  refine ⟨c, t, h1, g1, fun fuel => ?_⟩
  cases fuel with
  | zero => rfl
  | succ f => simp [Vm.isSubclassAux, ne, h2, h3]
theorem ns_no {Z : State} {a0 : Array Value} {C S K : String} {n : Nat} (w : (Jvm.Cond.superclass C S).before a0 Z = true) (wi : (Jvm.Cond.instantiable K n).before a0 Z = true) (nn : NS Z C K) (hn : C ≠ K) : ∃ c t, Z.vm.findClass C = some c ∧ Z.vm.findClass K = some t ∧ Z.vm.assignable c t = false := by
  obtain ⟨c, t, h0, g0, n3⟩ := nn
  obtain ⟨p, k, kp, h1, h2, h3, h4, h5, -, h7⟩ := Cond.superclass_spec h0 w
  obtain ⟨t', k', g1, g2, g5, g7, -⟩ := Cond.instantiable_spec wi
  cases g0.symm.trans g1
  have g8 : k'.isInterface = false := by cases q : k'.isInterface <;> simp [q] at g7 ⊢
  have ne := ids_ne h0 g0 hn
  refine ⟨c, t, h0, g0, ?_⟩
  show Z.vm.assignableAux (255 + 1) c t = false
  simp [Vm.assignableAux, ne, h2, g2, h5, g5, g8, Vm.isSubclass, n3]
/-! ### walks that load String literals -/
section Wide
variable {Z : State} {EL : List (String × Nat)} {own nm : String} {bytes : ByteArray} {ml : Nat} {ret : Option FieldType} {R : Room} {hS : Heap} {ws : List Addr} {Q : Option Value → Heap → Prop} {os : List Addr} {cells slots : Nat} {h h' : Heap} {pc pc' : Nat} {Ls Ls' : Array Slot} {rest : List Value} {a0 : Array Value}
theorem Sn.later {s : State} {vm0 vm1 : Vm} {k1 : Nat} (sn : Sn true Z EL s vm0 h os) (hS1 : s.Since vm1 k1) (hk : k1 ≤ h'.size) (C : CHr Z EL vm0 h vm1 h') : Sn true Z EL s vm1 h' os :=
  ⟨⟨k1, hS1, hk⟩, sn.2.1.trans C, sn.2.2.1, fun x hx => ⟨Nat.lt_of_lt_of_le (sn.2.2.2 x hx).1 C.2.1, C.safe (sn.2.2.2 x hx).1 (sn.2.2.2 x hx).2⟩⟩
/-- 'ldc' of a literal that is only handed on -/
theorem Rn.ldcO {ix n : Nat} {text : String} (hE : EW Z a0 EL) (wS : ∀ a ∈ Bundle.stringAtoms, a.before a0 Z = true) (wd : (Jvm.Cond.stringLink own ix text).before a0 Z = true) (hd : decode bytes pc = .ok (.ldc ix, 2)) (hn : 4 * text.toList.length ≤ n) (hbig : n ≤ 536870912) (hc : cells + 2 ≤ R.cells) (hs : slots + (n + 4) ≤ R.slots) (hp : pc + 2 = pc')
    (k : ∀ h' a, Ext h h' → Rn true Z EL own nm bytes ml ret R hS ws Q os (cells + 2) (slots + (n + 4)) h' pc' Ls (.ref a :: rest)) : Rn true Z EL own nm bytes ml ret R hS ws Q os cells slots h pc Ls rest := by
  intro p l e s vm0 m args below meth c T locs ok X sn fr K O eT
  obtain ⟨hx, hby, hml, hZ, hown, hnm, hret, hlk⟩ := ok
  obtain ⟨⟨k0, hS0, hk0⟩, hC, -, -⟩ := id sn
  obtain ⟨a, T', h1, k1, X', e', E, hS1, hk1, hZ', hown', C, -, stp⟩ := ldcOH X hx hZ hown wd wS eT hS0 hk0 hE hC.1 (g := mkF m pc Ls rest) rfl (hb hby hd) hn hbig hc hs
  subst hp
  exact (k h1 a E p l e s T'.vm m args below meth c T' locs ⟨hx, hby, hml, hZ', hown', hnm, hret, hlk⟩ X' (sn.later hS1 hk1 C) fr (K.ext E) O e').pre stp
/-- 'ldc' of a literal that is read -/
theorem Rn.ldcR {ix n : Nat} {text : String} {vs : List Value} {z : Int32} (hE : EW Z a0 EL) (wS : ∀ a ∈ Bundle.stringAtoms, a.before a0 Z = true) (wd : (Jvm.Cond.stringLink own ix text).before a0 Z = true) (hm : (own, ix) ∈ EL) (ht : (∀ c ∈ text.toList, c.toNat < 256) ∧ text.toList.map (fun c => Value.int (Jvm.Lit.byteI c.toNat.toUInt16)) = vs) (hz : ¬ z < 0) (hl : z.toNatClampNeg = vs.length) (hd : decode bytes pc = .ok (.ldc ix, 2)) (hn : 4 * text.toList.length ≤ n) (hbig : n ≤ 536870912) (hc : cells + 2 ≤ R.cells) (hs : slots + (n + 4) ≤ R.slots) (hp : pc + 2 = pc')
    (k : ∀ h' a t, Ext h h' → Exa Z h' a "java/lang/String" → Fld Z h' a "java/lang/String" "coder" "B" (.int 0) → Fld Z h' a "java/lang/String" "value" "[B" (.ref t) → Ax Z h' t .byte vs → (∀ x ∈ os, x ≠ a ∧ x ≠ t) → Rn true Z EL own nm bytes ml ret R hS ws Q os (cells + 2) (slots + (n + 4)) h' pc' Ls (.ref a :: rest)) : Rn true Z EL own nm bytes ml ret R hS ws Q os cells slots h pc Ls rest := by
  intro p l e s vm0 m args below meth c T locs ok X sn fr K O eT
  obtain ⟨hx, hby, hml, hZ, hown, hnm, hret, hlk⟩ := ok
  obtain ⟨⟨k0, hS0, hk0⟩, hC, -, hos⟩ := id sn
  obtain ⟨a, T', h1, k1, b, kb, X', e', E, hS1, hk1, hZ', hown', A1, A2, A3, A4, -, -, C, -, hne, stp⟩ := ldcCH X hx hZ hown wd wS eT hS0 hk0 hE hm hC.1 ht hz hl (g := mkF m pc Ls rest) rfl (hb hby hd) hn hbig hc hs
  subst hp
  exact (k h1 a b E A1 A2 A3 (Ax.ofArv A4 hl.symm) (fun x hx => hne x (C.safe (hos x hx).1 (hos x hx).2)) p l e s T'.vm m args below meth c T' locs ⟨hx, hby, hml, hZ', hown', hnm, hret, hlk⟩ X' (sn.later hS1 hk1 C) fr (K.ext E) O e').pre stp
/-- the contract of a method whose walk may load literals -/
def CtW (Z : State) (EL : List (String × Nat)) (y : MethodName) (bytes : ByteArray) (ml : Nat) (ret : Option FieldType) (rm : Room) (as : Array Value) (h : Heap) (os ws : List Addr) (Q : Option Value → Heap → Prop) : Prop :=
  Ext Z.heap h → (∀ x ∈ ws, Z.heap.size ≤ x) → (∃ a0, EW Z a0 EL) → ∀ l, MetFree l y (head1 [Jvm.Cond.code y bytes ml ret] rm) (fun a U => a = as ∧ Z.Warmed39 U.vm ∧ U.heap = h ∧ CHv Z EL U.vm h ∧ ∀ x ∈ os, x < h.size ∧ Safe Z EL U.vm h x) (fun _ _ _ _ _ => True) (fun _ U o U' => ∃ v L, o = .returned v ∧ (Fr Z.heap.size L ∧ Keep h U'.heap ws ∧ Q v U'.heap) ∧ CHr Z EL U.vm U.heap U'.vm U'.heap ∧ ReturnedEndW U o U' L rm.cells rm.slots)
theorem metW_of {wsT : List Jvm.Cond} {cls d : String} {as : Array Value} (pn : plainName cls = true) (ef : ∀ m, entryFrame m as ml = mkF m 0 Ls []) (hO : Ext Z.heap h) (hW : ∀ x ∈ ws, Z.heap.size ≤ x) (hE : ∃ a0, EW Z a0 EL) (l : Launch) (k : Rn true Z EL cls nm bytes ml ret R h ws Q os 0 0 h 0 Ls []) :
    MetFree l ⟨cls, nm, d⟩ (head1 (Jvm.Cond.code ⟨cls, nm, d⟩ bytes ml ret :: wsT) R) (fun a U => a = as ∧ Z.Warmed39 U.vm ∧ U.heap = h ∧ CHv Z EL U.vm h ∧ ∀ x ∈ os, x < h.size ∧ Safe Z EL U.vm h x) (fun _ _ _ _ _ => True) (fun _ U o U' => ∃ v L, o = .returned v ∧ (Fr Z.heap.size L ∧ Keep h U'.heap ws ∧ Q v U'.heap) ∧ CHr Z EL U.vm U.heap U'.vm U'.heap ∧ ReturnedEndW U o U' L R.cells R.slots) := by
  refine MetFree.of_bodySF (plainFor_of_name pn) hisR ?_
  intro p e s m args below meth c s₁ Bd hml0 hP hK
  obtain ⟨rfl, hZ, rfl, hC, hos⟩ := hP
  have g := k p l e s s.vm m args below meth c s₁ [] ⟨Bd.exec, Bd.bytes, hml0, hZ, findClass_of_methodNamed Bd.named, (name_of_methodNamed Bd.named Bd.method).1, Bd.returns, Bd.notSynchronized⟩ (Stand.of_body Bd) ⟨⟨_, (State.WarmedH.refl s).since s.heap.size, Nat.le_refl _⟩, CHr.refl hC, hE, hos⟩ (Fr.nil _) (Keep.refl _ _) ⟨hO, hW⟩ (by rw [Bd.state]; rfl)
  obtain ⟨s₂, o, h1, h2, h3, h4⟩ := g
  exact ⟨s₂, o, castTop (ef m) h1, h2, h3, h4⟩
theorem CtW.intro {cls d : String} {as : Array Value} (pn : plainName cls = true) (ef : ∀ m, entryFrame m as ml = mkF m 0 Ls []) (k : Rn true Z EL cls nm bytes ml ret R h ws Q os 0 0 h 0 Ls []) : CtW Z EL ⟨cls, nm, d⟩ bytes ml ret R as h os ws Q :=
  fun hO hW hE l => metW_of pn ef hO hW hE l k
/-- what pays a call by a wide contract -/
theorem backW {y : MethodName} {yb : ByteArray} {yl : Nat} {yr : Option FieldType} {rm : Room} {len W : Nat} {as : Array Value} {os' ws' : List Addr} {Q' : Option Value → Heap → Prop} {p : Program} {l : Launch} {e : Env} {s : State} {vm0 : Vm} {args : Array Value} {below : List Frame} (C : CtW Z EL y yb yl yr rm as h os' ws' Q') (hO : Ext Z.heap h) (hge : ∀ x ∈ ws', Z.heap.size ≤ x)
    (hZ : Z.Warmed39 vm0) (wc : (Jvm.Cond.code y yb yl yr).before a0 Z = true) (wz : (Jvm.Cond.initialized y.cls).before a0 Z = true) (hf : rm.frames + 1 ≤ R.frames) (hl : W + (yl + 11) + rm.locals ≤ R.locals) (hEL : EW Z a0 EL) (H : CHv Z EL vm0 h) (hos : ∀ x ∈ os', x < h.size ∧ Safe Z EL vm0 h x) :
    BackS l R p e below (s.setVm vm0) args y len W (fun A a => a = as ∧ A.U.heap = h ∧ A.cells + rm.cells ≤ R.cells ∧ A.slots + rm.slots ≤ R.slots)
      (fun A _ v B => ∃ L, (Fr Z.heap.size L ∧ Keep h B.U.heap ws' ∧ Q' v B.U.heap) ∧ B.locs = A.locs ++ L ∧ B.cells = A.cells + rm.cells ∧ B.slots = A.slots + rm.slots ∧ CHr Z EL vm0 h B.U.vm B.U.heap) :=
  BackS.of_freeW (bytes := yb) (maxL := yl) (ret := yr) (E := fun _ first o t L k n => k = rm.cells ∧ n = rm.slots ∧ (∃ v, o = .returned v ∧ (Fr Z.heap.size L ∧ Keep h t.heap ws' ∧ Q' v t.heap)) ∧ CHr Z EL first.vm first.heap t.vm t.heap) (C hO hge ⟨_, hEL⟩ l) hf hl
    (fun m meth c A a Y hp => have hU : Z.Warmed39 A.U.vm := wtrans (s := s.setVm vm0) hZ Y.warmed
      ⟨by show (Jvm.Cond.and _ .tt).before a A.U = true; rw [Cond.before_and, mv hU wc]; rfl, mv hU wc, mv hU wz, hp.2.2.1, hp.2.2.2⟩)
    (fun m meth c A a g mk Y hp => ⟨hp.1, wtrans (s := s.setVm vm0) hZ Y.warmed, hp.2.1, (CHv.at Y hZ hEL H).1, fun x hx => ⟨(hos x hx).1, (CHv.at Y hZ hEL H).safe (hos x hx).1 (hos x hx).2⟩⟩) (fun _ _ _ _ _ _ _ _ _ => trivial)
    (fun _ _ _ _ ⟨v, L, h1, h2, h3, h4⟩ => ⟨L, _, _, h4, rfl, rfl, ⟨v, h1, h2⟩, h3⟩)
    (fun m meth c A a g mk v t L k n Y hp _ _ ⟨e1, e2, ⟨v', e3, e4⟩, e5⟩ => by
      cases e3; subst e1 e2
      refine ⟨L, e4, rfl, rfl, rfl, (CHv.at Y hZ hEL H).trans ?_⟩
      rw [← hp.2.1]; exact e5)
theorem Rn.calledW {st : List Value} {os' ws' : List Addr} {Q' : Option Value → Heap → Prop} {rm : Room} (hws : ∀ x ∈ ws', x ∈ ws ∨ hS.size ≤ x) (hos : ∀ x ∈ os', x ∈ os)
    (k : ∀ v h', Keep h h' ws' → Q' v h' → Rn true Z EL own nm bytes ml ret R hS ws Q os (cells + rm.cells) (slots + rm.slots) h' pc' Ls (v.toList ++ rest))
    (f : ∀ (p : Program) (l : Launch) (e : Env) (s : State) (vm0 : Vm) (m : MethodId) (args : Array Value) (below : List Frame) (meth : Method) (c : Code) (T : State) (locs : List Loc), p.tables.exec = Jvm.exec → c.code = bytes → c.maxLocals = ml → Stand p l e R (s.setVm vm0) m args below meth c T locs cells slots → Z.Warmed39 vm0 → (s.setVm vm0).vm.findClass own = some m.cls → T.heap = h → Ext Z.heap h → (∀ x ∈ ws', Z.heap.size ≤ x) → CHv Z EL vm0 h → (∀ x ∈ os', x < h.size ∧ Safe Z EL vm0 h x) →
      ∃ (v : Option Value) (B : Pt), Stand p l e R ((s.setVm vm0).setVm B.U.vm) m args below meth c B.U B.locs B.cells B.slots ∧ (s.setVm vm0).Since B.U.vm B.U.heap.size ∧ T.heap.size ≤ B.U.heap.size ∧ (∃ L, (Fr Z.heap.size L ∧ Keep h B.U.heap ws' ∧ Q' v B.U.heap) ∧ B.locs = locs ++ L ∧ B.cells = cells + rm.cells ∧ B.slots = slots + rm.slots ∧ CHr Z EL vm0 h B.U.vm B.U.heap) ∧ ∀ t, Steps p.tables e below (B.U.setTop (mkF m pc' Ls (v.toList ++ rest))) t → Steps p.tables e below (T.setTop (mkF m pc Ls st)) t) :
    Rn true Z EL own nm bytes ml ret R hS ws Q os cells slots h pc Ls st := by
  intro p l e s vm0 m args below meth c T locs ok X sn fr K O eT
  have X0 : Old Z Z.heap.size h := Old.keep (h := hS) ⟨rfl, O.1⟩ K O.2
  obtain ⟨hx, hby, hml, hZ, hown, hnm, hret, hlk⟩ := ok
  obtain ⟨⟨k0, hS0, hk0⟩, hC, -, hs0⟩ := id sn
  obtain ⟨v, ⟨U, L', c', s'⟩, X', hS1, hg, ⟨L, ⟨f1, K', q'⟩, e1, e2, e3, C⟩, stp⟩ := f p l e s vm0 m args below meth c T locs hx hby hml X hZ hown eT X0.2 (fun x hx => ge_of O (hws x hx)) hC.1 (fun x hx => hs0 x (hos x hx))
  dsimp only [Pt.U, Pt.locs, Pt.cells, Pt.slots] at X' K' q' e1 e2 e3 stp C hS1 hg
  subst e1 e2 e3
  obtain ⟨X2, hS2, hZ2, hown2⟩ := rebS hS0 hk0 X' hS1 (by rw [← eT]; exact hg) hZ hown
  exact (k v U.heap K' q' p l e s U.vm m args below meth c U _ ⟨hx, hby, hml, hZ2, hown2, hnm, hret, hlk⟩ X2 (sn.later hS2 (Nat.le_refl _) C) (fr.app f1) (K.trans K' hws) O rfl).pre stp
theorem Rn.callSW {ix : Nat} {y : MethodName} {yb : ByteArray} {yl : Nat} {yr : Option FieldType} {rm : Room} {as : Array Value} {os' ws' : List Addr} {Q' : Option Value → Heap → Prop} {argsL : List Value} {st : List Value} (hE : EW Z a0 EL)
    (C : CtW Z EL y yb yl yr rm as h os' ws' Q') (w1 : (Jvm.Cond.methodLink own ix y).before a0 Z = true) (w2 : (Jvm.Cond.static y).before a0 Z = true) (w3 : (Jvm.Cond.initialized y.cls).before a0 Z = true) (w4 : (Jvm.Cond.code y yb yl yr).before a0 Z = true) (hy : y.cls ≠ "java/lang/invoke/MethodHandle" ∧ y.cls ≠ "java/lang/invoke/VarHandle")
    (hst : st = argsL.reverse ++ rest) (has : argsL.toArray = as) (hlen : ∀ sig, parseMethodDescriptor y.desc = some sig → argsL.length = sig.parameters.length) (hsz : Ls.size = ml) (hd : decode bytes pc = .ok (.invokestatic ix, 3)) (hp : pc + 3 = pc')
    (hf : rm.frames + 1 ≤ R.frames) (hl : (rest.map fun v => v.category).sum + (yl + 11) + rm.locals ≤ R.locals) (hc : cells + rm.cells ≤ R.cells) (hs : slots + rm.slots ≤ R.slots) (hws : ∀ x ∈ ws', x ∈ ws ∨ hS.size ≤ x) (hos : ∀ x ∈ os', x ∈ os)
    (k : ∀ v h', Keep h h' ws' → Q' v h' → Rn true Z EL own nm bytes ml ret R hS ws Q os (cells + rm.cells) (slots + rm.slots) h' pc' Ls (v.toList ++ rest)) : Rn true Z EL own nm bytes ml ret R hS ws Q os cells slots h pc Ls st := by
  refine Rn.calledW hws hos k fun p l e s vm0 m args below meth c T locs hx hby hml X hZ hown eT hO hge H hsf => ?_
  have hZ' : Z.Warmed39 (s.setVm vm0).vm := hZ
  obtain ⟨v, vm1, B, -, X', hS1, hg, ⟨L, q⟩, stp⟩ := callSS X hx (y := y) hown (mvT hZ' w1) (mvT hZ' w2) (mvT hZ' w3) (mvT hZ' w4) hy (backW (W := (rest.map fun v => v.category).sum) C hO hge hZ w4 w3 hf hl hE H hsf) (g := mkF m pc Ls st) rfl (hsz.trans hml.symm) (argsL := argsL) (rest := rest) hlen hst (by show 2 * 0 + _ ≤ _; omega) (hb hby hd) (fun _ _ => ⟨has, eT, hc, hs⟩)
  subst hp
  exact ⟨v, B, X', hS1, hg, ⟨L, q⟩, fun t r => stp.trans r⟩
theorem Rn.callIW {ix : Nat} {y : MethodName} {yb : ByteArray} {yl : Nat} {rm : Room} {as : Array Value} {os' ws' : List Addr} {Q' : Option Value → Heap → Prop} {a : Addr} {argsL : List Value} {st : List Value} (hE : EW Z a0 EL)
    (C : CtW Z EL y yb yl none rm as h os' ws' Q') (hy1 : y.name = "<init>") (w1 : (Jvm.Cond.methodLink own ix y).before a0 Z = true) (w2 : (Jvm.Cond.instanceMethod y).before a0 Z = true) (w3 : (Jvm.Cond.initialized y.cls).before a0 Z = true) (w4 : (Jvm.Cond.code y yb yl none).before a0 Z = true) (hy : y.cls ≠ "java/lang/invoke/MethodHandle" ∧ y.cls ≠ "java/lang/invoke/VarHandle")
    (hst : st = argsL.reverse ++ .ref a :: rest) (has : (.ref a :: argsL).toArray = as) (hlen : ∀ sig, parseMethodDescriptor y.desc = some sig → argsL.length = sig.parameters.length) (hsz : Ls.size = ml) (hd : decode bytes pc = .ok (.invokespecial ix, 3)) (hp : pc + 3 = pc')
    (hf : rm.frames + 1 ≤ R.frames) (hl : (rest.map fun v => v.category).sum + (yl + 11) + rm.locals ≤ R.locals) (hc : cells + rm.cells ≤ R.cells) (hs : slots + rm.slots ≤ R.slots) (hws : ∀ x ∈ ws', x ∈ ws ∨ hS.size ≤ x) (hos : ∀ x ∈ os', x ∈ os)
    (k : ∀ v h', Keep h h' ws' → Q' v h' → Rn true Z EL own nm bytes ml ret R hS ws Q os (cells + rm.cells) (slots + rm.slots) h' pc' Ls (v.toList ++ rest)) : Rn true Z EL own nm bytes ml ret R hS ws Q os cells slots h pc Ls st := by
  refine Rn.calledW hws hos k fun p l e s vm0 m args below meth c T locs hx hby hml X hZ hown eT hO hge H hsf => ?_
  have hZ' : Z.Warmed39 (s.setVm vm0).vm := hZ
  obtain ⟨v, vm1, B, -, X', hS1, hg, ⟨L, q⟩, stp⟩ := X.specialBackS hx (y := y) hy1 hown (mvT hZ' w1) (mvT hZ' w2) (mvT hZ' w4) hy (backW (W := (rest.map fun v => v.category).sum) C hO hge hZ w4 w3 hf hl hE H hsf) (g := mkF m pc Ls st) rfl (hsz.trans hml.symm) (Steps.refl _) (a := a) (argsL := argsL) (rest := rest) hlen hst (by show 2 * 0 + _ ≤ _; omega) (hb hby hd) (fun _ _ => ⟨has, eT, hc, hs⟩)
  subst hp
  exact ⟨v, B, X', hS1, hg, ⟨L, q⟩, fun t r => stp.trans r⟩
theorem Rn.callVW {ix : Nat} {C0 : String} {y z : MethodName} {yb : ByteArray} {yl : Nat} {yr : Option FieldType} {rm : Room} {as : Array Value} {os' ws' : List Addr} {Q' : Option Value → Heap → Prop} {a : Addr} {argsL : List Value} {st : List Value} (hE : EW Z a0 EL)
    (C : CtW Z EL z yb yl yr rm as h os' ws' Q') (E : Exa Z h a C0) (w1 : (Jvm.Cond.methodLink own ix y).before a0 Z = true) (w2 : (Jvm.Cond.declares y).before a0 Z = true) (nf : ∀ s : State, Z.Warmed39 s.vm → NotFace s y) (w5 : (Jvm.Cond.selects C0 y z).before a0 Z = true) (w6 : (Jvm.Cond.instanceMethod z).before a0 Z = true) (w3 : (Jvm.Cond.initialized z.cls).before a0 Z = true) (w4 : (Jvm.Cond.code z yb yl yr).before a0 Z = true) (hy : y.cls ≠ "java/lang/invoke/MethodHandle" ∧ y.cls ≠ "java/lang/invoke/VarHandle")
    (hst : st = argsL.reverse ++ .ref a :: rest) (has : (.ref a :: argsL).toArray = as) (hlen : ∀ sig, parseMethodDescriptor y.desc = some sig → argsL.length = sig.parameters.length) (hsz : Ls.size = ml) (hd : decode bytes pc = .ok (.invokevirtual ix, 3)) (hp : pc + 3 = pc')
    (hf : rm.frames + 1 ≤ R.frames) (hl : (rest.map fun v => v.category).sum + (yl + 11) + rm.locals ≤ R.locals) (hc : cells + rm.cells ≤ R.cells) (hs : slots + rm.slots ≤ R.slots) (hws : ∀ x ∈ ws', x ∈ ws ∨ hS.size ≤ x) (hos : ∀ x ∈ os', x ∈ os)
    (k : ∀ v h', Keep h h' ws' → Q' v h' → Rn true Z EL own nm bytes ml ret R hS ws Q os (cells + rm.cells) (slots + rm.slots) h' pc' Ls (v.toList ++ rest)) : Rn true Z EL own nm bytes ml ret R hS ws Q os cells slots h pc Ls st := by
  refine Rn.calledW hws hos k fun p l e s vm0 m args below meth c T locs hx hby hml X hZ hown eT hO hge H hsf => ?_
  have hZ' : Z.Warmed39 (s.setVm vm0).vm := hZ
  obtain ⟨cq, kq, qa, qb, qc⟩ := isOf hZ' eT E
  obtain ⟨v, vm1, B, -, X', hS1, hg, ⟨L, q⟩, stp⟩ := X.virtualBackS hx (y := y) (z := z) hown (mvT hZ' w1) (mvT hZ' w2) (nf _ hZ') (mvT hZ' w5) (mvT hZ' w6) hy (backW (W := (rest.map fun v => v.category).sum) C hO hge hZ w4 w3 hf hl hE H hsf) qa qc (g := mkF m pc Ls st) rfl (hsz.trans hml.symm) (Steps.refl _) (argsL := argsL) (rest := rest) hlen hst (by show 2 * 0 + _ ≤ _; omega) (hb hby hd) (fun _ _ => ⟨has, eT, hc, hs⟩)
  subst hp
  exact ⟨v, B, X', hS1, hg, ⟨L, q⟩, fun t r => stp.trans r⟩
end Wide
section Strs
variable {Z : State} {h h' : Heap} {x t : Addr} {bs : List Value}
/-- a String of Latin-1 bytes -/
def Sg (Z : State) (h : Heap) (x t : Addr) (bs : List Value) : Prop := Exa Z h x "java/lang/String" ∧ Fld Z h x "java/lang/String" "coder" "B" (.int (0 : Int32)) ∧ Fld Z h x "java/lang/String" "value" "[B" (.ref t) ∧ Ax Z h t .byte bs
theorem Sg.lt (F : Sg Z h x t bs) : x < h.size := F.1.lt
theorem Sg.ltt (F : Sg Z h x t bs) : t < h.size := F.2.2.2.lt
theorem Sg.ext (F : Sg Z h x t bs) (E : Ext h h') : Sg Z h' x t bs := ⟨F.1.ext E, F.2.1.ext E, F.2.2.1.ext E, F.2.2.2.ext E⟩
theorem Sg.keep {ws : List Addr} (F : Sg Z h x t bs) (K : Keep h h' ws) (q : x ∉ ws) (r : t ∉ ws) : Sg Z h' x t bs := ⟨F.1.keep K, F.2.1.keep K q, F.2.2.1.keep K q, F.2.2.2.keep K r⟩
/-- the low byte, signed -/
def b8 (c : Int32) : Int32 := c.toInt8.toInt32
theorem nar_b8 (c : Int32) : nar .byte (b8 c) = b8 c := by
  show (c.toInt8.toInt32).toInt8.toInt32 = c.toInt8.toInt32
  rw [Int8.toInt8_toInt32]
theorem b8_fits (c : Int32) : fits .byte (.int (b8 c)) = true := fits_nar_byte c
end Strs
theorem own_if_t {p : Prop} [Decidable p] (h : p) : (some (Value.int (nar .boolean 1)) : Option Value) = some (.int (if p then 1 else 0)) := by rw [if_pos h]; rfl
theorem own_if_f {p : Prop} [Decidable p] (h : ¬ p) : (some (Value.int (nar .boolean 0)) : Option Value) = some (.int (if p then 1 else 0)) := by rw [if_neg h]; rfl
theorem pd_0 : parseMethodDescriptor "([CI[BII)I" = some ⟨[(.array .char), .int, (.array .byte), .int, .int], some .int⟩ := by decide +kernel
theorem pd_1 : parseMethodDescriptor "([CII)[B" = some ⟨[(.array .char), .int, .int], some (.array .byte)⟩ := by decide +kernel
theorem pd_2 : parseMethodDescriptor "([BI)B" = some ⟨[(.array .byte), .int], some .byte⟩ := by decide +kernel
theorem pd_3 : parseMethodDescriptor "([CIILjava/lang/Void;)V" = some ⟨[(.array .char), .int, .int, (.object "java/lang/Void")], none⟩ := by decide +kernel
theorem pd_4 : parseMethodDescriptor "(I)Lcom/example/faultgauge/faultgauge/exec/TestResult$Difference;" = some ⟨[.int], some (.object "com/example/faultgauge/faultgauge/exec/TestResult$Difference")⟩ := by decide +kernel
theorem pd_5 : parseMethodDescriptor "(I)Lcom/example/faultgauge/faultgauge/exec/Ending;" = some ⟨[.int], some (.object "com/example/faultgauge/faultgauge/exec/Ending")⟩ := by decide +kernel
theorem pd_6 : parseMethodDescriptor "([C)V" = some ⟨[(.array .char)], none⟩ := by decide +kernel
theorem pd_7 : parseMethodDescriptor "(ILcom/example/faultgauge/faultgauge/exec/TestResult$Difference;Lcom/example/faultgauge/faultgauge/exec/Ending;ILjava/lang/String;)V" = some ⟨[.int, (.object "com/example/faultgauge/faultgauge/exec/TestResult$Difference"), (.object "com/example/faultgauge/faultgauge/exec/Ending"), .int, (.object "java/lang/String")], none⟩ := by decide +kernel
theorem pd_8 : parseMethodDescriptor "()Z" = some ⟨[], some .boolean⟩ := by decide +kernel
theorem pd_9 : parseMethodDescriptor "()Lcom/example/faultgauge/faultgauge/exec/TestResult$Difference;" = some ⟨[], some (.object "com/example/faultgauge/faultgauge/exec/TestResult$Difference")⟩ := by decide +kernel
theorem pn_0 : plainName "com/example/faultgauge/faultgauge/exec/TestResultDetectsPinLaw" = true := by first | (simp [plainName, overriddenIn]; done) | decide +kernel
theorem pn_1 : plainName "com/example/faultgauge/faultgauge/exec/TestResult" = true := by first | (simp [plainName, overriddenIn]; done) | decide +kernel
theorem pn_2 : plainName "java/lang/StringUTF16" = true := by first | (simp [plainName, overriddenIn]; done) | decide +kernel
theorem pn_3 : plainName "java/lang/String" = true := by first | (simp [plainName, overriddenIn]; done) | decide +kernel
def own_Es (Z : State) (C d n : String) (a : Addr) : Prop := Sta Z Z.heap C n d (.ref a)
def own_En (Z : State) (C d n : String) (o : Int32) (a : Addr) : Prop := Sta Z Z.heap C n d (.ref a) ∧ Exa Z Z.heap a C ∧ Fld Z Z.heap a "java/lang/Enum" "ordinal" "I" (.int o)
def own_R6 (k : Int32) : Prop := k = 0 ∨ k = 1 ∨ k = 2 ∨ k = 3 ∨ k = 4 ∨ k = 5
def own_R4 (k : Int32) : Prop := k = 0 ∨ k = 1 ∨ k = 2 ∨ k = 3
def own_p6 (a0 a1 a2 a3 a4 a5 : Addr) (k : Int32) : Addr := if k = 0 then a0 else if k = 1 then a1 else if k = 2 then a2 else if k = 3 then a3 else if k = 4 then a4 else a5
def own_p4 (a0 a1 a2 a3 : Addr) (k : Int32) : Addr := if k = 0 then a0 else if k = 1 then a1 else if k = 2 then a2 else a3
theorem own_ord {Z : State} {C d n n' : String} {o o' : Int32} {a a' : Addr} (h : own_En Z C d n o a) (h' : own_En Z C d n' o' a') (e : a = a') : o = o' := by
  by_cases q : o = o'
  · exact q
  · exact absurd e (Fld.ne h.2.2 h'.2.2 (fun z => q (Value.int.inj z)))
theorem own_r6 (x : Int32) : own_R6 ((x &&& (2147483647 : Int32)) % (6 : Int32)) := by
  have h1 := (c_and x 2147483647 (by decide)).1
  have h2 := (c_irem (x &&& (2147483647 : Int32)) 6 6 rfl).1 h1
  obtain ⟨k, ek⟩ : ∃ k, k = (x &&& (2147483647 : Int32)) % (6 : Int32) := ⟨_, rfl⟩
  rw [← ek] at h2 ⊢
  have t : ∀ j : Int32, k.toInt = j.toInt → k = j := fun j q => Int32.toInt_inj.mp q
  unfold own_R6
  rcases (by omega : k.toInt = 0 ∨ k.toInt = 1 ∨ k.toInt = 2 ∨ k.toInt = 3 ∨ k.toInt = 4 ∨ k.toInt = 5) with q | q | q | q | q | q
  · exact Or.inl (t 0 q)
  · exact Or.inr (Or.inl (t 1 q))
  · exact Or.inr (Or.inr (Or.inl (t 2 q)))
  · exact Or.inr (Or.inr (Or.inr (Or.inl (t 3 q))))
  · exact Or.inr (Or.inr (Or.inr (Or.inr (Or.inl (t 4 q)))))
  · exact Or.inr (Or.inr (Or.inr (Or.inr (Or.inr (t 5 q)))))
theorem own_r4 (x : Int32) : own_R4 (x &&& (3 : Int32)) := by
  have h := c_and x 3 (by decide)
  have e3 : (3 : Int32).toInt = 3 := rfl
  rw [e3] at h
  obtain ⟨k, ek⟩ : ∃ k, k = x &&& (3 : Int32) := ⟨_, rfl⟩
  rw [← ek] at h ⊢
  have t : ∀ j : Int32, k.toInt = j.toInt → k = j := fun j q => Int32.toInt_inj.mp q
  unfold own_R4
  rcases (by omega : k.toInt = 0 ∨ k.toInt = 1 ∨ k.toInt = 2 ∨ k.toInt = 3) with q | q | q | q
  · exact Or.inl (t 0 q)
  · exact Or.inr (Or.inl (t 1 q))
  · exact Or.inr (Or.inr (Or.inl (t 2 q)))
  · exact Or.inr (Or.inr (Or.inr (t 3 q)))
/-- a char below 256 -/
def own_B (y : Int32) : Prop := (¬ 255 < y ∧ ¬ y < 0) ∧ nar .char y = y
theorem own_b (x : Int32) : own_B (x &&& (255 : Int32)) := by
  have h := c_and x 255 (by decide)
  have e : (255 : Int32).toInt = 255 := rfl
  rw [e] at h
  refine ⟨⟨?_, ?_⟩, i2c_mask x⟩ <;> rw [Int32.lt_iff_toInt_lt]
  · rw [e]; omega
  · have e0 : (0 : Int32).toInt = 0 := rfl
    rw [e0]; omega
theorem own_b8 {x y : Int32} (hx : own_B x) (hy : own_B y) (h : b8 x = b8 y) : x = y := by
  have h1 := c_i2b x
  have h2 := c_i2b y
  have e : b8 x = x.toInt8.toInt32 := rfl
  have e' : b8 y = y.toInt8.toInt32 := rfl
  rw [e, e'] at h
  rw [h] at h1
  obtain ⟨⟨a1, a2⟩, -⟩ := hx
  obtain ⟨⟨b1, b2⟩, -⟩ := hy
  rw [Int32.lt_iff_toInt_lt] at a1 a2 b1 b2
  have e5 : (255 : Int32).toInt = 255 := rfl
  have e0 : (0 : Int32).toInt = 0 := rfl
  exact Int32.toInt_inj.mp (by omega)
theorem own_i6 {Z : State} (p0 : Addr) (n0 : own_En Z "com/example/faultgauge/faultgauge/exec/TestResult$Difference" "Lcom/example/faultgauge/faultgauge/exec/TestResult$Difference;" "SAME" 0 p0) (p1 : Addr) (n1 : own_En Z "com/example/faultgauge/faultgauge/exec/TestResult$Difference" "Lcom/example/faultgauge/faultgauge/exec/TestResult$Difference;" "OUTPUT" 1 p1) (p2 : Addr) (n2 : own_En Z "com/example/faultgauge/faultgauge/exec/TestResult$Difference" "Lcom/example/faultgauge/faultgauge/exec/TestResult$Difference;" "EXIT_STATUS" 2 p2) (p3 : Addr) (n3 : own_En Z "com/example/faultgauge/faultgauge/exec/TestResult$Difference" "Lcom/example/faultgauge/faultgauge/exec/TestResult$Difference;" "SIGNAL" 3 p3) (p4 : Addr) (n4 : own_En Z "com/example/faultgauge/faultgauge/exec/TestResult$Difference" "Lcom/example/faultgauge/faultgauge/exec/TestResult$Difference;" "TIME_LIMIT" 4 p4) (p5 : Addr) (n5 : own_En Z "com/example/faultgauge/faultgauge/exec/TestResult$Difference" "Lcom/example/faultgauge/faultgauge/exec/TestResult$Difference;" "OUTPUT_LIMIT" 5 p5) {k k' : Int32} (hk : own_R6 k) (hk' : own_R6 k') (h : (own_p6 p0 p1 p2 p3 p4 p5 k) = (own_p6 p0 p1 p2 p3 p4 p5 k')) : k = k' := by
  have t : ∀ {o o' : Int32} {n n' : String} {a a' : Addr}, own_En Z "com/example/faultgauge/faultgauge/exec/TestResult$Difference" "Lcom/example/faultgauge/faultgauge/exec/TestResult$Difference;" n o a → own_En Z "com/example/faultgauge/faultgauge/exec/TestResult$Difference" "Lcom/example/faultgauge/faultgauge/exec/TestResult$Difference;" n' o' a' → a = a' → o = o' := fun x y z => own_ord x y z
  rcases hk with rfl | rfl | rfl | rfl | rfl | rfl <;> rcases hk' with rfl | rfl | rfl | rfl | rfl | rfl <;> simp [own_p6] at h ⊢ <;> first | exact absurd (t n0 n1 h) (by decide) | exact absurd (t n0 n2 h) (by decide) | exact absurd (t n0 n3 h) (by decide) | exact absurd (t n0 n4 h) (by decide) | exact absurd (t n0 n5 h) (by decide) | exact absurd (t n1 n0 h) (by decide) | exact absurd (t n1 n2 h) (by decide) | exact absurd (t n1 n3 h) (by decide) | exact absurd (t n1 n4 h) (by decide) | exact absurd (t n1 n5 h) (by decide) | exact absurd (t n2 n0 h) (by decide) | exact absurd (t n2 n1 h) (by decide) | exact absurd (t n2 n3 h) (by decide) | exact absurd (t n2 n4 h) (by decide) | exact absurd (t n2 n5 h) (by decide) | exact absurd (t n3 n0 h) (by decide) | exact absurd (t n3 n1 h) (by decide) | exact absurd (t n3 n2 h) (by decide) | exact absurd (t n3 n4 h) (by decide) | exact absurd (t n3 n5 h) (by decide) | exact absurd (t n4 n0 h) (by decide) | exact absurd (t n4 n1 h) (by decide) | exact absurd (t n4 n2 h) (by decide) | exact absurd (t n4 n3 h) (by decide) | exact absurd (t n4 n5 h) (by decide) | exact absurd (t n5 n0 h) (by decide) | exact absurd (t n5 n1 h) (by decide) | exact absurd (t n5 n2 h) (by decide) | exact absurd (t n5 n3 h) (by decide) | exact absurd (t n5 n4 h) (by decide)
theorem d0_0 : decode method_2_code 0 = .ok (.iload_n 0, 1) := by decide +kernel
theorem d0_1 : decode method_2_code 1 = .ok (.ifCond .ne 7, 3) := by decide +kernel
theorem d0_4 : decode method_2_code 4 = .ok (.getstatic 7, 3) := by decide +kernel
theorem d0_7 : decode method_2_code 7 = .ok (.areturn, 1) := by decide +kernel
theorem d0_8 : decode method_2_code 8 = .ok (.iload_n 0, 1) := by decide +kernel
theorem d0_9 : decode method_2_code 9 = .ok (.iconst 1, 1) := by decide +kernel
theorem d0_10 : decode method_2_code 10 = .ok (.if_icmp .ne 7, 3) := by decide +kernel
theorem d0_13 : decode method_2_code 13 = .ok (.getstatic 13, 3) := by decide +kernel
theorem d0_16 : decode method_2_code 16 = .ok (.areturn, 1) := by decide +kernel
theorem d0_17 : decode method_2_code 17 = .ok (.iload_n 0, 1) := by decide +kernel
theorem d0_18 : decode method_2_code 18 = .ok (.iconst 2, 1) := by decide +kernel
theorem d0_19 : decode method_2_code 19 = .ok (.if_icmp .ne 7, 3) := by decide +kernel
theorem d0_22 : decode method_2_code 22 = .ok (.getstatic 16, 3) := by decide +kernel
theorem d0_25 : decode method_2_code 25 = .ok (.areturn, 1) := by decide +kernel
theorem d0_26 : decode method_2_code 26 = .ok (.iload_n 0, 1) := by decide +kernel
theorem d0_27 : decode method_2_code 27 = .ok (.iconst 3, 1) := by decide +kernel
theorem d0_28 : decode method_2_code 28 = .ok (.if_icmp .ne 7, 3) := by decide +kernel
theorem d0_31 : decode method_2_code 31 = .ok (.getstatic 19, 3) := by decide +kernel
theorem d0_34 : decode method_2_code 34 = .ok (.areturn, 1) := by decide +kernel
theorem d0_35 : decode method_2_code 35 = .ok (.iload_n 0, 1) := by decide +kernel
theorem d0_36 : decode method_2_code 36 = .ok (.iconst 4, 1) := by decide +kernel
theorem d0_37 : decode method_2_code 37 = .ok (.if_icmp .ne 7, 3) := by decide +kernel
theorem d0_40 : decode method_2_code 40 = .ok (.getstatic 22, 3) := by decide +kernel
theorem d0_43 : decode method_2_code 43 = .ok (.areturn, 1) := by decide +kernel
theorem d0_44 : decode method_2_code 44 = .ok (.getstatic 25, 3) := by decide +kernel
theorem d0_47 : decode method_2_code 47 = .ok (.areturn, 1) := by decide +kernel
set_option maxRecDepth 65536 in
set_option maxHeartbeats 40000000 in
theorem ct_df (Z : State) (a0 : Array Value) (hw : ∀ d ∈ tables_1, d.before a0 Z = true) (k : Int32) (h0 : Heap) (p0 : Addr) (n0 : own_En Z "com/example/faultgauge/faultgauge/exec/TestResult$Difference" "Lcom/example/faultgauge/faultgauge/exec/TestResult$Difference;" "SAME" 0 p0) (p1 : Addr) (n1 : own_En Z "com/example/faultgauge/faultgauge/exec/TestResult$Difference" "Lcom/example/faultgauge/faultgauge/exec/TestResult$Difference;" "OUTPUT" 1 p1) (p2 : Addr) (n2 : own_En Z "com/example/faultgauge/faultgauge/exec/TestResult$Difference" "Lcom/example/faultgauge/faultgauge/exec/TestResult$Difference;" "EXIT_STATUS" 2 p2) (p3 : Addr) (n3 : own_En Z "com/example/faultgauge/faultgauge/exec/TestResult$Difference" "Lcom/example/faultgauge/faultgauge/exec/TestResult$Difference;" "SIGNAL" 3 p3) (p4 : Addr) (n4 : own_En Z "com/example/faultgauge/faultgauge/exec/TestResult$Difference" "Lcom/example/faultgauge/faultgauge/exec/TestResult$Difference;" "TIME_LIMIT" 4 p4) (p5 : Addr) (n5 : own_En Z "com/example/faultgauge/faultgauge/exec/TestResult$Difference" "Lcom/example/faultgauge/faultgauge/exec/TestResult$Difference;" "OUTPUT_LIMIT" 5 p5) :
    Ct Z ⟨"com/example/faultgauge/faultgauge/exec/TestResultDetectsPinLaw", "difference", "(I)Lcom/example/faultgauge/faultgauge/exec/TestResult$Difference;"⟩ method_2_code 1 (Option.some (FieldType.object "com/example/faultgauge/faultgauge/exec/TestResult$Difference")) ({ frames := 0, cells := 0, slots := 0, locals := 0 } : Room) #[(.int k)] h0 [] (fun v h => v = some (.ref (own_p6 p0 p1 p2 p3 p4 p5 k)) ∧ h0 = h) := by
  refine Ct.intro (Ls := #[.val (.int k)]) pn_0 (by intro m; first | (simp [entryFrame, mkF, argsToLocals, Value.category]; done) | rfl) ?_
  refine Rn.iloadN (pc' := 1) d0_0 rfl rfl ?_
  refine Rn.if_ne (pc' := 8) (pn := 4) d0_1 (by decide) (by decide) rfl (fun cq1 => ?_) (fun cq1 => ?_)
  ·
    refine Rn.iloadN (pc' := 9) d0_8 rfl rfl ?_
    refine Rn.iconst (pc' := 10) (v := (1 : Int32)) d0_9 rfl rfl ?_
    refine Rn.icmp_ne (pc' := 17) (pn := 13) d0_10 (by decide) (by decide) rfl (fun cq2 => ?_) (fun cq2 => ?_)
    ·
      refine Rn.iloadN (pc' := 18) d0_17 rfl rfl ?_
      refine Rn.iconst (pc' := 19) (v := (2 : Int32)) d0_18 rfl rfl ?_
      refine Rn.icmp_ne (pc' := 26) (pn := 22) d0_19 (by decide) (by decide) rfl (fun cq3 => ?_) (fun cq3 => ?_)
      ·
        refine Rn.iloadN (pc' := 27) d0_26 rfl rfl ?_
        refine Rn.iconst (pc' := 28) (v := (3 : Int32)) d0_27 rfl rfl ?_
        refine Rn.icmp_ne (pc' := 35) (pn := 31) d0_28 (by decide) (by decide) rfl (fun cq4 => ?_) (fun cq4 => ?_)
        ·
          refine Rn.iloadN (pc' := 36) d0_35 rfl rfl ?_
          refine Rn.iconst (pc' := 37) (v := (4 : Int32)) d0_36 rfl rfl ?_
          refine Rn.icmp_ne (pc' := 44) (pn := 40) d0_37 (by decide) (by decide) rfl (fun cq5 => ?_) (fun cq5 => ?_)
          ·
            refine Rn.old fun Oq6 _ => ?_
            refine Rn.getS (pc' := 47) (hw _ (List.mem_of_getElem? (i := 77) rfl)) Via.refl (n5.1.ext Oq6) d0_44 rfl ?_
            refine Rn.retA (t := (.object "com/example/faultgauge/faultgauge/exec/TestResult$Difference")) rfl rfl rfl d0_47 (Nat.le_of_ble_eq_true rfl) (Nat.le_of_ble_eq_true rfl) ?_
            exact ⟨by simp [own_p6, *], rfl⟩
          ·
            refine Rn.old fun Oq7 _ => ?_
            refine Rn.getS (pc' := 43) (hw _ (List.mem_of_getElem? (i := 73) rfl)) Via.refl (n4.1.ext Oq7) d0_40 rfl ?_
            refine Rn.retA (t := (.object "com/example/faultgauge/faultgauge/exec/TestResult$Difference")) rfl rfl rfl d0_43 (Nat.le_of_ble_eq_true rfl) (Nat.le_of_ble_eq_true rfl) ?_
            exact ⟨by simp [own_p6, *], rfl⟩
        ·
          refine Rn.old fun Oq8 _ => ?_
          refine Rn.getS (pc' := 34) (hw _ (List.mem_of_getElem? (i := 5) rfl)) Via.refl (n3.1.ext Oq8) d0_31 rfl ?_
          refine Rn.retA (t := (.object "com/example/faultgauge/faultgauge/exec/TestResult$Difference")) rfl rfl rfl d0_34 (Nat.le_of_ble_eq_true rfl) (Nat.le_of_ble_eq_true rfl) ?_
          exact ⟨by simp [own_p6, *], rfl⟩
      ·
        refine Rn.old fun Oq9 _ => ?_
        refine Rn.getS (pc' := 25) (hw _ (List.mem_of_getElem? (i := 84) rfl)) Via.refl (n2.1.ext Oq9) d0_22 rfl ?_
        refine Rn.retA (t := (.object "com/example/faultgauge/faultgauge/exec/TestResult$Difference")) rfl rfl rfl d0_25 (Nat.le_of_ble_eq_true rfl) (Nat.le_of_ble_eq_true rfl) ?_
        exact ⟨by simp [own_p6, *], rfl⟩
    ·
      refine Rn.old fun Oq10 _ => ?_
      refine Rn.getS (pc' := 16) (hw _ (List.mem_of_getElem? (i := 89) rfl)) Via.refl (n1.1.ext Oq10) d0_13 rfl ?_
      refine Rn.retA (t := (.object "com/example/faultgauge/faultgauge/exec/TestResult$Difference")) rfl rfl rfl d0_16 (Nat.le_of_ble_eq_true rfl) (Nat.le_of_ble_eq_true rfl) ?_
      exact ⟨by simp [own_p6, *], rfl⟩
  ·
    refine Rn.old fun Oq11 _ => ?_
    refine Rn.getS (pc' := 7) (hw _ (List.mem_of_getElem? (i := 88) rfl)) Via.refl (n0.1.ext Oq11) d0_4 rfl ?_
    refine Rn.retA (t := (.object "com/example/faultgauge/faultgauge/exec/TestResult$Difference")) rfl rfl rfl d0_7 (Nat.le_of_ble_eq_true rfl) (Nat.le_of_ble_eq_true rfl) ?_
    exact ⟨by simp [own_p6, *], rfl⟩
theorem d1_0 : decode method_3_code 0 = .ok (.iload_n 0, 1) := by decide +kernel
theorem d1_1 : decode method_3_code 1 = .ok (.ifCond .ne 7, 3) := by decide +kernel
theorem d1_4 : decode method_3_code 4 = .ok (.getstatic 28, 3) := by decide +kernel
theorem d1_7 : decode method_3_code 7 = .ok (.areturn, 1) := by decide +kernel
theorem d1_8 : decode method_3_code 8 = .ok (.iload_n 0, 1) := by decide +kernel
theorem d1_9 : decode method_3_code 9 = .ok (.iconst 1, 1) := by decide +kernel
theorem d1_10 : decode method_3_code 10 = .ok (.if_icmp .ne 7, 3) := by decide +kernel
theorem d1_13 : decode method_3_code 13 = .ok (.getstatic 34, 3) := by decide +kernel
theorem d1_16 : decode method_3_code 16 = .ok (.areturn, 1) := by decide +kernel
theorem d1_17 : decode method_3_code 17 = .ok (.iload_n 0, 1) := by decide +kernel
theorem d1_18 : decode method_3_code 18 = .ok (.iconst 2, 1) := by decide +kernel
theorem d1_19 : decode method_3_code 19 = .ok (.if_icmp .ne 7, 3) := by decide +kernel
theorem d1_22 : decode method_3_code 22 = .ok (.getstatic 36, 3) := by decide +kernel
theorem d1_25 : decode method_3_code 25 = .ok (.areturn, 1) := by decide +kernel
theorem d1_26 : decode method_3_code 26 = .ok (.getstatic 39, 3) := by decide +kernel
theorem d1_29 : decode method_3_code 29 = .ok (.areturn, 1) := by decide +kernel
set_option maxRecDepth 65536 in
set_option maxHeartbeats 40000000 in
theorem ct_en (Z : State) (a0 : Array Value) (hw : ∀ d ∈ tables_1, d.before a0 Z = true) (k : Int32) (h0 : Heap) (q0 : Addr) (m0 : own_Es Z "com/example/faultgauge/faultgauge/exec/Ending" "Lcom/example/faultgauge/faultgauge/exec/Ending;" "EXIT" q0) (q1 : Addr) (m1 : own_Es Z "com/example/faultgauge/faultgauge/exec/Ending" "Lcom/example/faultgauge/faultgauge/exec/Ending;" "SIGNAL" q1) (q2 : Addr) (m2 : own_Es Z "com/example/faultgauge/faultgauge/exec/Ending" "Lcom/example/faultgauge/faultgauge/exec/Ending;" "TIMEOUT" q2) (q3 : Addr) (m3 : own_Es Z "com/example/faultgauge/faultgauge/exec/Ending" "Lcom/example/faultgauge/faultgauge/exec/Ending;" "OUTPUT_LIMIT" q3) :
    Ct Z ⟨"com/example/faultgauge/faultgauge/exec/TestResultDetectsPinLaw", "ending", "(I)Lcom/example/faultgauge/faultgauge/exec/Ending;"⟩ method_3_code 1 (Option.some (FieldType.object "com/example/faultgauge/faultgauge/exec/Ending")) ({ frames := 0, cells := 0, slots := 0, locals := 0 } : Room) #[(.int k)] h0 [] (fun v h => v = some (.ref (own_p4 q0 q1 q2 q3 k)) ∧ h0 = h) := by
  refine Ct.intro (Ls := #[.val (.int k)]) pn_0 (by intro m; first | (simp [entryFrame, mkF, argsToLocals, Value.category]; done) | rfl) ?_
  refine Rn.iloadN (pc' := 1) d1_0 rfl rfl ?_
  refine Rn.if_ne (pc' := 8) (pn := 4) d1_1 (by decide) (by decide) rfl (fun cq1 => ?_) (fun cq1 => ?_)
  ·
    refine Rn.iloadN (pc' := 9) d1_8 rfl rfl ?_
    refine Rn.iconst (pc' := 10) (v := (1 : Int32)) d1_9 rfl rfl ?_
    refine Rn.icmp_ne (pc' := 17) (pn := 13) d1_10 (by decide) (by decide) rfl (fun cq2 => ?_) (fun cq2 => ?_)
    ·
      refine Rn.iloadN (pc' := 18) d1_17 rfl rfl ?_
      refine Rn.iconst (pc' := 19) (v := (2 : Int32)) d1_18 rfl rfl ?_
      refine Rn.icmp_ne (pc' := 26) (pn := 22) d1_19 (by decide) (by decide) rfl (fun cq3 => ?_) (fun cq3 => ?_)
      ·
        refine Rn.old fun Oq4 _ => ?_
        refine Rn.getS (pc' := 29) (hw _ (List.mem_of_getElem? (i := 75) rfl)) Via.refl (m3.ext Oq4) d1_26 rfl ?_
        refine Rn.retA (t := (.object "com/example/faultgauge/faultgauge/exec/Ending")) rfl rfl rfl d1_29 (Nat.le_of_ble_eq_true rfl) (Nat.le_of_ble_eq_true rfl) ?_
        exact ⟨by simp [own_p4, *], rfl⟩
      ·
        refine Rn.old fun Oq5 _ => ?_
        refine Rn.getS (pc' := 25) (hw _ (List.mem_of_getElem? (i := 11) rfl)) Via.refl (m2.ext Oq5) d1_22 rfl ?_
        refine Rn.retA (t := (.object "com/example/faultgauge/faultgauge/exec/Ending")) rfl rfl rfl d1_25 (Nat.le_of_ble_eq_true rfl) (Nat.le_of_ble_eq_true rfl) ?_
        exact ⟨by simp [own_p4, *], rfl⟩
    ·
      refine Rn.old fun Oq6 _ => ?_
      refine Rn.getS (pc' := 16) (hw _ (List.mem_of_getElem? (i := 79) rfl)) Via.refl (m1.ext Oq6) d1_13 rfl ?_
      refine Rn.retA (t := (.object "com/example/faultgauge/faultgauge/exec/Ending")) rfl rfl rfl d1_16 (Nat.le_of_ble_eq_true rfl) (Nat.le_of_ble_eq_true rfl) ?_
      exact ⟨by simp [own_p4, *], rfl⟩
  ·
    refine Rn.old fun Oq7 _ => ?_
    refine Rn.getS (pc' := 7) (hw _ (List.mem_of_getElem? (i := 86) rfl)) Via.refl (m0.ext Oq7) d1_4 rfl ?_
    refine Rn.retA (t := (.object "com/example/faultgauge/faultgauge/exec/Ending")) rfl rfl rfl d1_7 (Nat.le_of_ble_eq_true rfl) (Nat.le_of_ble_eq_true rfl) ?_
    exact ⟨by simp [own_p4, *], rfl⟩
def own_Tr (Z : State) (h : Heap) (r : Addr) (l : Int32) (d e : Addr) (c : Int32) (s : Addr) : Prop := Exa Z h r "com/example/faultgauge/faultgauge/exec/TestResult" ∧ Fld Z h r "com/example/faultgauge/faultgauge/exec/TestResult" "line" "I" (.int l) ∧ Fld Z h r "com/example/faultgauge/faultgauge/exec/TestResult" "difference" "Lcom/example/faultgauge/faultgauge/exec/TestResult$Difference;" (.ref d) ∧ Fld Z h r "com/example/faultgauge/faultgauge/exec/TestResult" "ending" "Lcom/example/faultgauge/faultgauge/exec/Ending;" (.ref e) ∧ Fld Z h r "com/example/faultgauge/faultgauge/exec/TestResult" "code" "I" (.int c) ∧ Fld Z h r "com/example/faultgauge/faultgauge/exec/TestResult" "outputDigest" "Ljava/lang/String;" (.ref s)
theorem own_Tr.keep {Z : State} {h h' : Heap} {r : Addr} {l : Int32} {d e : Addr} {c : Int32} {s : Addr} {ws : List Addr} (F : own_Tr Z h r l d e c s) (K : Keep h h' ws) (q : r ∉ ws) : own_Tr Z h' r l d e c s := ⟨F.1.keep K, F.2.1.keep K q, F.2.2.1.keep K q, F.2.2.2.1.keep K q, F.2.2.2.2.1.keep K q, F.2.2.2.2.2.keep K q⟩
theorem own_Tr.ext {Z : State} {h h' : Heap} {r : Addr} {l : Int32} {d e : Addr} {c : Int32} {s : Addr} (F : own_Tr Z h r l d e c s) (E : Ext h h') : own_Tr Z h' r l d e c s := ⟨F.1.ext E, F.2.1.ext E, F.2.2.1.ext E, F.2.2.2.1.ext E, F.2.2.2.2.1.ext E, F.2.2.2.2.2.ext E⟩
theorem d8_0 : decode prog_53_method_1_code 0 = .ok (.aload_n 0, 1) := by decide +kernel
theorem d8_1 : decode prog_53_method_1_code 1 = .ok (.invokespecial 1, 3) := by decide +kernel
theorem d8_4 : decode prog_53_method_1_code 4 = .ok (.aload_n 0, 1) := by decide +kernel
theorem d8_5 : decode prog_53_method_1_code 5 = .ok (.iload_n 1, 1) := by decide +kernel
theorem d8_6 : decode prog_53_method_1_code 6 = .ok (.putfield 7, 3) := by decide +kernel
theorem d8_9 : decode prog_53_method_1_code 9 = .ok (.aload_n 0, 1) := by decide +kernel
theorem d8_10 : decode prog_53_method_1_code 10 = .ok (.aload_n 2, 1) := by decide +kernel
theorem d8_11 : decode prog_53_method_1_code 11 = .ok (.putfield 13, 3) := by decide +kernel
theorem d8_14 : decode prog_53_method_1_code 14 = .ok (.aload_n 0, 1) := by decide +kernel
theorem d8_15 : decode prog_53_method_1_code 15 = .ok (.aload_n 3, 1) := by decide +kernel
theorem d8_16 : decode prog_53_method_1_code 16 = .ok (.putfield 17, 3) := by decide +kernel
theorem d8_19 : decode prog_53_method_1_code 19 = .ok (.aload_n 0, 1) := by decide +kernel
theorem d8_20 : decode prog_53_method_1_code 20 = .ok (.iload 4, 2) := by decide +kernel
theorem d8_22 : decode prog_53_method_1_code 22 = .ok (.putfield 21, 3) := by decide +kernel
theorem d8_25 : decode prog_53_method_1_code 25 = .ok (.aload_n 0, 1) := by decide +kernel
theorem d8_26 : decode prog_53_method_1_code 26 = .ok (.aload 5, 2) := by decide +kernel
theorem d8_28 : decode prog_53_method_1_code 28 = .ok (.putfield 24, 3) := by decide +kernel
theorem d8_31 : decode prog_53_method_1_code 31 = .ok (.return_, 1) := by decide +kernel
set_option maxRecDepth 65536 in
set_option maxHeartbeats 40000000 in
theorem ct_tr (Z : State) (a0 : Array Value) (hw : ∀ d ∈ tables_1, d.before a0 Z = true) (r : Addr) (l : Int32) (d e : Addr) (c : Int32) (s : Addr) (h0 : Heap) (E : Exa Z h0 r "com/example/faultgauge/faultgauge/exec/TestResult") (F0 : Fld Z h0 r "com/example/faultgauge/faultgauge/exec/TestResult" "line" "I" (.int (0 : Int32))) (F1 : Fld Z h0 r "com/example/faultgauge/faultgauge/exec/TestResult" "difference" "Lcom/example/faultgauge/faultgauge/exec/TestResult$Difference;" .null) (F2 : Fld Z h0 r "com/example/faultgauge/faultgauge/exec/TestResult" "ending" "Lcom/example/faultgauge/faultgauge/exec/Ending;" .null) (F3 : Fld Z h0 r "com/example/faultgauge/faultgauge/exec/TestResult" "code" "I" (.int (0 : Int32))) (F4 : Fld Z h0 r "com/example/faultgauge/faultgauge/exec/TestResult" "outputDigest" "Ljava/lang/String;" .null) :
    Ct Z ⟨"com/example/faultgauge/faultgauge/exec/TestResult", "<init>", "(ILcom/example/faultgauge/faultgauge/exec/TestResult$Difference;Lcom/example/faultgauge/faultgauge/exec/Ending;ILjava/lang/String;)V"⟩ prog_53_method_1_code 6 (Option.none : Option FieldType) ({ frames := 1, cells := 0, slots := 0, locals := 12 } : Room) #[(.ref r), (.int l), (.ref d), (.ref e), (.int c), (.ref s)] h0 [r] (fun v h => v = none ∧ own_Tr Z h r l d e c s) := by
  refine Ct.intro (Ls := #[.val (.ref r), .val (.int l), .val (.ref d), .val (.ref e), .val (.int c), .val (.ref s)]) pn_1 (by intro m; first | (simp [entryFrame, mkF, argsToLocals, Value.category]; done) | rfl) ?_
  refine Rn.aloadN (pc' := 1) d8_0 rfl rfl rfl ?_
  refine Rn.initO (pc' := 4) (hw _ (List.mem_of_getElem? (i := 50) rfl)) (hw _ (List.mem_of_getElem? (i := 26) rfl)) (hw _ (List.mem_of_getElem? (i := 27) rfl)) rfl d8_1 (Nat.le_of_ble_eq_true rfl) (Nat.le_of_ble_eq_true rfl) rfl ?_
  refine Rn.aloadN (pc' := 5) d8_4 rfl rfl rfl ?_
  refine Rn.iloadN (pc' := 6) d8_5 rfl rfl ?_
  refine Rn.putF (pc' := 9) (hw _ (List.mem_of_getElem? (i := 51) rfl)) Via.refl F0 E (Or.inr ⟨(hw _ (List.mem_of_getElem? (i := 52) rfl)), rfl, rfl⟩) (hw _ (List.mem_of_getElem? (i := 45) rfl)) (ty := .int) (by decide) rfl rfl (Or.inl (List.mem_of_getElem? (i := 0) rfl)) Sf.no d8_6 rfl (fun hq2 Wq1 => ?_)
  have Fq3 := F0.same Wq1
  refine Rn.aloadN (pc' := 10) d8_9 rfl rfl rfl ?_
  refine Rn.aloadN (pc' := 11) d8_10 rfl rfl rfl ?_
  have Fq4 := F1.other Wq1 (Or.inr (slot_ne (t := (.object "com/example/faultgauge/faultgauge/exec/TestResult$Difference")) (t' := .int) (Or.inr (hw _ (List.mem_of_getElem? (i := 54) rfl))) (Or.inr (hw _ (List.mem_of_getElem? (i := 52) rfl))) (by decide) (by decide) (by decide)))
  have Fq5 := E.wr Wq1
  refine Rn.putF (pc' := 14) (hw _ (List.mem_of_getElem? (i := 53) rfl)) Via.refl Fq4 Fq5 (Or.inr ⟨(hw _ (List.mem_of_getElem? (i := 54) rfl)), rfl, rfl⟩) (hw _ (List.mem_of_getElem? (i := 45) rfl)) (ty := (.object "com/example/faultgauge/faultgauge/exec/TestResult$Difference")) (by decide) rfl rfl (Or.inl (List.mem_of_getElem? (i := 0) rfl)) Sf.no d8_11 rfl (fun hq7 Wq6 => ?_)
  have Fq8 := Fq4.same Wq6
  refine Rn.aloadN (pc' := 15) d8_14 rfl rfl rfl ?_
  refine Rn.aloadN (pc' := 16) d8_15 rfl rfl rfl ?_
  have Fq9 := F2.other Wq1 (Or.inr (slot_ne (t := (.object "com/example/faultgauge/faultgauge/exec/Ending")) (t' := .int) (Or.inr (hw _ (List.mem_of_getElem? (i := 56) rfl))) (Or.inr (hw _ (List.mem_of_getElem? (i := 52) rfl))) (by decide) (by decide) (by decide)))
  have Fq10 := Fq9.other Wq6 (Or.inr (slot_ne (t := (.object "com/example/faultgauge/faultgauge/exec/Ending")) (t' := (.object "com/example/faultgauge/faultgauge/exec/TestResult$Difference")) (Or.inr (hw _ (List.mem_of_getElem? (i := 56) rfl))) (Or.inr (hw _ (List.mem_of_getElem? (i := 54) rfl))) (by decide) (by decide) (by decide)))
  have Fq11 := Fq5.wr Wq6
  refine Rn.putF (pc' := 19) (hw _ (List.mem_of_getElem? (i := 55) rfl)) Via.refl Fq10 Fq11 (Or.inr ⟨(hw _ (List.mem_of_getElem? (i := 56) rfl)), rfl, rfl⟩) (hw _ (List.mem_of_getElem? (i := 45) rfl)) (ty := (.object "com/example/faultgauge/faultgauge/exec/Ending")) (by decide) rfl rfl (Or.inl (List.mem_of_getElem? (i := 0) rfl)) Sf.no d8_16 rfl (fun hq13 Wq12 => ?_)
  have Fq14 := Fq10.same Wq12
  refine Rn.aloadN (pc' := 20) d8_19 rfl rfl rfl ?_
  refine Rn.iload (pc' := 22) d8_20 rfl rfl ?_
  have Fq15 := F3.other Wq1 (Or.inr (slot_ne (t := .int) (t' := .int) (Or.inr (hw _ (List.mem_of_getElem? (i := 58) rfl))) (Or.inr (hw _ (List.mem_of_getElem? (i := 52) rfl))) (by decide) (by decide) (by decide)))
  have Fq16 := Fq15.other Wq6 (Or.inr (slot_ne (t := .int) (t' := (.object "com/example/faultgauge/faultgauge/exec/TestResult$Difference")) (Or.inr (hw _ (List.mem_of_getElem? (i := 58) rfl))) (Or.inr (hw _ (List.mem_of_getElem? (i := 54) rfl))) (by decide) (by decide) (by decide)))
  have Fq17 := Fq16.other Wq12 (Or.inr (slot_ne (t := .int) (t' := (.object "com/example/faultgauge/faultgauge/exec/Ending")) (Or.inr (hw _ (List.mem_of_getElem? (i := 58) rfl))) (Or.inr (hw _ (List.mem_of_getElem? (i := 56) rfl))) (by decide) (by decide) (by decide)))
  have Fq18 := Fq11.wr Wq12
  refine Rn.putF (pc' := 25) (hw _ (List.mem_of_getElem? (i := 57) rfl)) Via.refl Fq17 Fq18 (Or.inr ⟨(hw _ (List.mem_of_getElem? (i := 58) rfl)), rfl, rfl⟩) (hw _ (List.mem_of_getElem? (i := 45) rfl)) (ty := .int) (by decide) rfl rfl (Or.inl (List.mem_of_getElem? (i := 0) rfl)) Sf.no d8_22 rfl (fun hq20 Wq19 => ?_)
  have Fq21 := Fq17.same Wq19
  refine Rn.aloadN (pc' := 26) d8_25 rfl rfl rfl ?_
  refine Rn.aload (pc' := 28) d8_26 rfl rfl rfl ?_
  have Fq22 := F4.other Wq1 (Or.inr (slot_ne (t := (.object "java/lang/String")) (t' := .int) (Or.inr (hw _ (List.mem_of_getElem? (i := 60) rfl))) (Or.inr (hw _ (List.mem_of_getElem? (i := 52) rfl))) (by decide) (by decide) (by decide)))
  have Fq23 := Fq22.other Wq6 (Or.inr (slot_ne (t := (.object "java/lang/String")) (t' := (.object "com/example/faultgauge/faultgauge/exec/TestResult$Difference")) (Or.inr (hw _ (List.mem_of_getElem? (i := 60) rfl))) (Or.inr (hw _ (List.mem_of_getElem? (i := 54) rfl))) (by decide) (by decide) (by decide)))
  have Fq24 := Fq23.other Wq12 (Or.inr (slot_ne (t := (.object "java/lang/String")) (t' := (.object "com/example/faultgauge/faultgauge/exec/Ending")) (Or.inr (hw _ (List.mem_of_getElem? (i := 60) rfl))) (Or.inr (hw _ (List.mem_of_getElem? (i := 56) rfl))) (by decide) (by decide) (by decide)))
  have Fq25 := Fq24.other Wq19 (Or.inr (slot_ne (t := (.object "java/lang/String")) (t' := .int) (Or.inr (hw _ (List.mem_of_getElem? (i := 60) rfl))) (Or.inr (hw _ (List.mem_of_getElem? (i := 58) rfl))) (by decide) (by decide) (by decide)))
  have Fq26 := Fq18.wr Wq19
  refine Rn.putF (pc' := 31) (hw _ (List.mem_of_getElem? (i := 59) rfl)) Via.refl Fq25 Fq26 (Or.inr ⟨(hw _ (List.mem_of_getElem? (i := 60) rfl)), rfl, rfl⟩) (hw _ (List.mem_of_getElem? (i := 45) rfl)) (ty := (.object "java/lang/String")) (by decide) rfl rfl (Or.inl (List.mem_of_getElem? (i := 0) rfl)) Sf.no d8_28 rfl (fun hq28 Wq27 => ?_)
  have Fq29 := Fq25.same Wq27
  refine Rn.retV rfl d8_31 (Nat.le_of_ble_eq_true rfl) (Nat.le_of_ble_eq_true rfl) ?_
  have Fq30 := Fq26.wr Wq27
  have Fq31 := Fq3.other Wq6 (Or.inr (slot_ne (t := .int) (t' := (.object "com/example/faultgauge/faultgauge/exec/TestResult$Difference")) (Or.inr (hw _ (List.mem_of_getElem? (i := 52) rfl))) (Or.inr (hw _ (List.mem_of_getElem? (i := 54) rfl))) (by decide) (by decide) (by decide)))
  have Fq32 := Fq31.other Wq12 (Or.inr (slot_ne (t := .int) (t' := (.object "com/example/faultgauge/faultgauge/exec/Ending")) (Or.inr (hw _ (List.mem_of_getElem? (i := 52) rfl))) (Or.inr (hw _ (List.mem_of_getElem? (i := 56) rfl))) (by decide) (by decide) (by decide)))
  have Fq33 := Fq32.other Wq19 (Or.inr (slot_ne (t := .int) (t' := .int) (Or.inr (hw _ (List.mem_of_getElem? (i := 52) rfl))) (Or.inr (hw _ (List.mem_of_getElem? (i := 58) rfl))) (by decide) (by decide) (by decide)))
  have Fq34 := Fq33.other Wq27 (Or.inr (slot_ne (t := .int) (t' := (.object "java/lang/String")) (Or.inr (hw _ (List.mem_of_getElem? (i := 52) rfl))) (Or.inr (hw _ (List.mem_of_getElem? (i := 60) rfl))) (by decide) (by decide) (by decide)))
  have Fq35 := Fq8.other Wq12 (Or.inr (slot_ne (t := (.object "com/example/faultgauge/faultgauge/exec/TestResult$Difference")) (t' := (.object "com/example/faultgauge/faultgauge/exec/Ending")) (Or.inr (hw _ (List.mem_of_getElem? (i := 54) rfl))) (Or.inr (hw _ (List.mem_of_getElem? (i := 56) rfl))) (by decide) (by decide) (by decide)))
  have Fq36 := Fq35.other Wq19 (Or.inr (slot_ne (t := (.object "com/example/faultgauge/faultgauge/exec/TestResult$Difference")) (t' := .int) (Or.inr (hw _ (List.mem_of_getElem? (i := 54) rfl))) (Or.inr (hw _ (List.mem_of_getElem? (i := 58) rfl))) (by decide) (by decide) (by decide)))
  have Fq37 := Fq36.other Wq27 (Or.inr (slot_ne (t := (.object "com/example/faultgauge/faultgauge/exec/TestResult$Difference")) (t' := (.object "java/lang/String")) (Or.inr (hw _ (List.mem_of_getElem? (i := 54) rfl))) (Or.inr (hw _ (List.mem_of_getElem? (i := 60) rfl))) (by decide) (by decide) (by decide)))
  have Fq38 := Fq14.other Wq19 (Or.inr (slot_ne (t := (.object "com/example/faultgauge/faultgauge/exec/Ending")) (t' := .int) (Or.inr (hw _ (List.mem_of_getElem? (i := 56) rfl))) (Or.inr (hw _ (List.mem_of_getElem? (i := 58) rfl))) (by decide) (by decide) (by decide)))
  have Fq39 := Fq38.other Wq27 (Or.inr (slot_ne (t := (.object "com/example/faultgauge/faultgauge/exec/Ending")) (t' := (.object "java/lang/String")) (Or.inr (hw _ (List.mem_of_getElem? (i := 56) rfl))) (Or.inr (hw _ (List.mem_of_getElem? (i := 60) rfl))) (by decide) (by decide) (by decide)))
  have Fq40 := Fq21.other Wq27 (Or.inr (slot_ne (t := .int) (t' := (.object "java/lang/String")) (Or.inr (hw _ (List.mem_of_getElem? (i := 58) rfl))) (Or.inr (hw _ (List.mem_of_getElem? (i := 60) rfl))) (by decide) (by decide) (by decide)))
  exact ⟨rfl, Fq30, Fq34, Fq37, Fq39, Fq40, Fq29⟩
theorem d9_0 : decode prog_53_method_5_code 0 = .ok (.aload_n 0, 1) := by decide +kernel
theorem d9_1 : decode prog_53_method_5_code 1 = .ok (.getfield 13, 3) := by decide +kernel
theorem d9_4 : decode prog_53_method_5_code 4 = .ok (.getstatic 55, 3) := by decide +kernel
theorem d9_7 : decode prog_53_method_5_code 7 = .ok (.if_acmp .eq 7, 3) := by decide +kernel
theorem d9_10 : decode prog_53_method_5_code 10 = .ok (.iconst 1, 1) := by decide +kernel
theorem d9_11 : decode prog_53_method_5_code 11 = .ok (.goto 4, 3) := by decide +kernel
theorem d9_14 : decode prog_53_method_5_code 14 = .ok (.iconst 0, 1) := by decide +kernel
theorem d9_15 : decode prog_53_method_5_code 15 = .ok (.ireturn, 1) := by decide +kernel
set_option maxRecDepth 65536 in
set_option maxHeartbeats 40000000 in
theorem ct_dt (Z : State) (a0 : Array Value) (hw : ∀ d ∈ tables_1, d.before a0 Z = true) (r : Addr) (l : Int32) (d e : Addr) (c : Int32) (s : Addr) (h0 : Heap) (T : own_Tr Z h0 r l d e c s) (p0 : Addr) (n0 : own_En Z "com/example/faultgauge/faultgauge/exec/TestResult$Difference" "Lcom/example/faultgauge/faultgauge/exec/TestResult$Difference;" "SAME" 0 p0) :
    Ct Z ⟨"com/example/faultgauge/faultgauge/exec/TestResult", "detects", "()Z"⟩ prog_53_method_5_code 1 (Option.some FieldType.boolean) ({ frames := 0, cells := 0, slots := 0, locals := 0 } : Room) #[(.ref r)] h0 [] (fun v h => v = some (.int (if d ≠ p0 then 1 else 0)) ∧ h0 = h) := by
  refine Ct.intro (Ls := #[.val (.ref r)]) pn_1 (by intro m; first | (simp [entryFrame, mkF, argsToLocals, Value.category]; done) | rfl) ?_
  refine Rn.aloadN (pc' := 1) d9_0 rfl rfl rfl ?_
  refine Rn.getF (pc' := 4) (host := "") (Or.inl (hw _ (List.mem_of_getElem? (i := 53) rfl))) Via.refl T.2.2.1 d9_1 rfl ?_
  refine Rn.old fun Oq1 _ => ?_
  refine Rn.getS (pc' := 7) (hw _ (List.mem_of_getElem? (i := 66) rfl)) Via.refl (n0.1.ext Oq1) d9_4 rfl ?_
  refine Rn.acmp_eq (pc' := 14) (pn := 10) rfl rfl d9_7 (by decide) (by decide) rfl (fun cq2 => ?_) (fun cq2 => ?_)
  ·
    refine Rn.iconst (pc' := 15) (v := (0 : Int32)) d9_14 rfl rfl ?_
    refine Rn.retN (t := .boolean) rfl (by simp) d9_15 (Nat.le_of_ble_eq_true rfl) (Nat.le_of_ble_eq_true rfl) ?_
    refine ⟨?_, rfl⟩
    exact own_if_f (fun q => q (Value.ref.inj cq2))
  ·
    refine Rn.iconst (pc' := 11) (v := (1 : Int32)) d9_10 rfl rfl ?_
    refine Rn.goto (pc' := 15) d9_11 (by decide) (by decide) ?_
    refine Rn.retN (t := .boolean) rfl (by simp) d9_15 (Nat.le_of_ble_eq_true rfl) (Nat.le_of_ble_eq_true rfl) ?_
    refine ⟨?_, rfl⟩
    exact own_if_t (fun q => cq2 (congrArg Value.ref q))
theorem d10_0 : decode prog_53_method_4_code 0 = .ok (.aload_n 0, 1) := by decide +kernel
theorem d10_1 : decode prog_53_method_4_code 1 = .ok (.getfield 13, 3) := by decide +kernel
theorem d10_4 : decode prog_53_method_4_code 4 = .ok (.areturn, 1) := by decide +kernel
set_option maxRecDepth 65536 in
set_option maxHeartbeats 40000000 in
theorem ct_di (Z : State) (a0 : Array Value) (hw : ∀ d ∈ tables_1, d.before a0 Z = true) (r : Addr) (l : Int32) (d e : Addr) (c : Int32) (s : Addr) (h0 : Heap) (T : own_Tr Z h0 r l d e c s) :
    Ct Z ⟨"com/example/faultgauge/faultgauge/exec/TestResult", "difference", "()Lcom/example/faultgauge/faultgauge/exec/TestResult$Difference;"⟩ prog_53_method_4_code 1 (Option.some (FieldType.object "com/example/faultgauge/faultgauge/exec/TestResult$Difference")) ({ frames := 0, cells := 0, slots := 0, locals := 0 } : Room) #[(.ref r)] h0 [] (fun v h => v = some (.ref d) ∧ h0 = h) := by
  refine Ct.intro (Ls := #[.val (.ref r)]) pn_1 (by intro m; first | (simp [entryFrame, mkF, argsToLocals, Value.category]; done) | rfl) ?_
  refine Rn.aloadN (pc' := 1) d10_0 rfl rfl rfl ?_
  refine Rn.getF (pc' := 4) (host := "") (Or.inl (hw _ (List.mem_of_getElem? (i := 53) rfl))) Via.refl T.2.2.1 d10_1 rfl ?_
  refine Rn.retA (t := (.object "com/example/faultgauge/faultgauge/exec/TestResult$Difference")) rfl rfl rfl d10_4 (Nat.le_of_ble_eq_true rfl) (Nat.le_of_ble_eq_true rfl) ?_
  exact ⟨rfl, rfl⟩
theorem own_wS {Z : State} {a0 : Array Value} (hw : ∀ d ∈ tables_1, d.before a0 Z = true) : ∀ a ∈ Bundle.stringAtoms, a.before a0 Z = true := by
  intro a ha
  simp only [Bundle.stringAtoms, List.mem_cons, List.not_mem_nil, or_false] at ha
  rcases ha with rfl | rfl | rfl | rfl | rfl | rfl | rfl
  · exact (hw _ (List.mem_of_getElem? (i := 17) rfl))
  · exact (hw _ (List.mem_of_getElem? (i := 16) rfl))
  · exact (hw _ (List.mem_of_getElem? (i := 33) rfl))
  · exact (hw _ (List.mem_of_getElem? (i := 43) rfl))
  · exact (hw _ (List.mem_of_getElem? (i := 41) rfl))
  · exact (hw _ (List.mem_of_getElem? (i := 82) rfl))
  · exact (hw _ (List.mem_of_getElem? (i := 83) rfl))
theorem d6_0 : decode jdk_52_method_21_code 0 = .ok (.iconst 0, 1) := by decide +kernel
theorem d6_1 : decode jdk_52_method_21_code 1 = .ok (.istore 5, 2) := by decide +kernel
theorem d6_3 : decode jdk_52_method_21_code 3 = .ok (.iload 5, 2) := by decide +kernel
theorem d6_5 : decode jdk_52_method_21_code 5 = .ok (.iload 4, 2) := by decide +kernel
theorem d6_7 : decode jdk_52_method_21_code 7 = .ok (.if_icmp .ge 37, 3) := by decide +kernel
theorem d6_10 : decode jdk_52_method_21_code 10 = .ok (.aload_n 0, 1) := by decide +kernel
theorem d6_11 : decode jdk_52_method_21_code 11 = .ok (.iload_n 1, 1) := by decide +kernel
theorem d6_12 : decode jdk_52_method_21_code 12 = .ok (.caload, 1) := by decide +kernel
theorem d6_13 : decode jdk_52_method_21_code 13 = .ok (.istore 6, 2) := by decide +kernel
theorem d6_15 : decode jdk_52_method_21_code 15 = .ok (.iload 6, 2) := by decide +kernel
theorem d6_17 : decode jdk_52_method_21_code 17 = .ok (.sipush 255, 3) := by decide +kernel
theorem d6_20 : decode jdk_52_method_21_code 20 = .ok (.if_icmp .le 6, 3) := by decide +kernel
theorem d6_23 : decode jdk_52_method_21_code 23 = .ok (.iload 5, 2) := by decide +kernel
theorem d6_25 : decode jdk_52_method_21_code 25 = .ok (.ireturn, 1) := by decide +kernel
theorem d6_26 : decode jdk_52_method_21_code 26 = .ok (.aload_n 2, 1) := by decide +kernel
theorem d6_27 : decode jdk_52_method_21_code 27 = .ok (.iload_n 3, 1) := by decide +kernel
theorem d6_28 : decode jdk_52_method_21_code 28 = .ok (.iload 6, 2) := by decide +kernel
theorem d6_30 : decode jdk_52_method_21_code 30 = .ok (.i2b, 1) := by decide +kernel
theorem d6_31 : decode jdk_52_method_21_code 31 = .ok (.bastore, 1) := by decide +kernel
theorem d6_32 : decode jdk_52_method_21_code 32 = .ok (.iinc 1 1, 3) := by decide +kernel
theorem d6_35 : decode jdk_52_method_21_code 35 = .ok (.iinc 3 1, 3) := by decide +kernel
theorem d6_38 : decode jdk_52_method_21_code 38 = .ok (.iinc 5 1, 3) := by decide +kernel
theorem d6_41 : decode jdk_52_method_21_code 41 = .ok (.goto (-38), 3) := by decide +kernel
theorem d6_44 : decode jdk_52_method_21_code 44 = .ok (.iload 4, 2) := by decide +kernel
theorem d6_46 : decode jdk_52_method_21_code 46 = .ok (.ireturn, 1) := by decide +kernel
set_option maxRecDepth 65536 in
set_option maxHeartbeats 40000000 in
theorem ct_cmpb2 (Z : State) (a0 : Array Value) (hw : ∀ d ∈ tables_1, d.before a0 Z = true) (src t : Addr) (c0 c1 : Int32) (hp0 : ¬ 255 < c0) (hp1 : ¬ 255 < c1) (h0 : Heap) (A : Ax Z h0 src .char [.int c0, .int c1]) (B : Ax Z h0 t .byte [.int (0 : Int32), .int (0 : Int32)]) (hn : src ≠ t) :
    Ct Z ⟨"java/lang/StringUTF16", "compress", "([CI[BII)I"⟩ jdk_52_method_21_code 7 (Option.some FieldType.int) ({ frames := 0, cells := 0, slots := 0, locals := 0 } : Room) #[(.ref src), (.int (0 : Int32)), (.ref t), (.int (0 : Int32)), (.int (2 : Int32))] h0 [t] (fun v h => v = some (.int (2 : Int32)) ∧ Ax Z h t .byte [.int (b8 c0), .int (b8 c1)]) := by
  refine Ct.intro (Ls := #[.val (.ref src), .val (.int (0 : Int32)), .val (.ref t), .val (.int (0 : Int32)), .val (.int (2 : Int32)), .unset, .unset]) pn_2 (by intro m; first | (simp [entryFrame, mkF, argsToLocals, Value.category]; done) | rfl) ?_
  refine Rn.iconst (pc' := 1) (v := (0 : Int32)) d6_0 rfl rfl ?_
  refine Rn.istore (pc' := 3) (Ls' := #[.val (.ref src), .val (.int (0 : Int32)), .val (.ref t), .val (.int (0 : Int32)), .val (.int (2 : Int32)), .val (.int (0 : Int32)), .unset]) d6_1 rfl rfl ?_
  refine Rn.iload (pc' := 5) d6_3 rfl rfl ?_
  refine Rn.iload (pc' := 7) d6_5 rfl rfl ?_
  refine Rn.icmp_ge (pc' := 44) (pn := 10) d6_7 (by decide) (by decide) rfl (fun cq1 => absurd cq1 (by decide)) (fun cq1 => ?_)
  refine Rn.aloadN (pc' := 11) d6_10 rfl rfl rfl ?_
  refine Rn.iloadN (pc' := 12) d6_11 rfl rfl ?_
  refine Rn.caload (pc' := 13) (v := .int c0) A (by decide) rfl d6_12 rfl ?_
  refine Rn.istore (pc' := 15) (Ls' := #[.val (.ref src), .val (.int (0 : Int32)), .val (.ref t), .val (.int (0 : Int32)), .val (.int (2 : Int32)), .val (.int (0 : Int32)), .val (.int c0)]) d6_13 rfl rfl ?_
  refine Rn.iload (pc' := 17) d6_15 rfl rfl ?_
  refine Rn.sipush (pc' := 20) (v := (255 : Int32)) d6_17 rfl rfl ?_
  refine Rn.icmp_le (pc' := 26) (pn := 23) d6_20 (by decide) (by decide) rfl (fun cq2 => ?_) (fun cq2 => absurd cq2 hp0)
  refine Rn.aloadN (pc' := 27) d6_26 rfl rfl rfl ?_
  refine Rn.iloadN (pc' := 28) d6_27 rfl rfl ?_
  refine Rn.iload (pc' := 30) d6_28 rfl rfl ?_
  refine Rn.i2b (pc' := 31) (v := (b8 c0)) d6_30 rfl rfl ?_
  refine Rn.bastore (pc' := 32) (v := .int (b8 c0)) B (by decide) (Nat.le_of_ble_eq_true rfl) (congrArg Value.int (nar_b8 c0)) (Or.inl (List.mem_of_getElem? (i := 0) rfl)) Sf.no d6_31 rfl (fun hq4 Wq3 Aq5 => ?_)
  have Aq6 : Ax Z hq4 t .byte ([.int (b8 c0), .int (0 : Int32)]) := Aq5
  refine Rn.iinc (pc' := 35) (v := (1 : Int32)) (Ls' := #[.val (.ref src), .val (.int (1 : Int32)), .val (.ref t), .val (.int (0 : Int32)), .val (.int (2 : Int32)), .val (.int (0 : Int32)), .val (.int c0)]) d6_32 rfl rfl rfl rfl ?_
  refine Rn.iinc (pc' := 38) (v := (1 : Int32)) (Ls' := #[.val (.ref src), .val (.int (1 : Int32)), .val (.ref t), .val (.int (1 : Int32)), .val (.int (2 : Int32)), .val (.int (0 : Int32)), .val (.int c0)]) d6_35 rfl rfl rfl rfl ?_
  refine Rn.iinc (pc' := 41) (v := (1 : Int32)) (Ls' := #[.val (.ref src), .val (.int (1 : Int32)), .val (.ref t), .val (.int (1 : Int32)), .val (.int (2 : Int32)), .val (.int (1 : Int32)), .val (.int c0)]) d6_38 rfl rfl rfl rfl ?_
  refine Rn.goto (pc' := 3) d6_41 (by decide) (by decide) ?_
  refine Rn.iload (pc' := 5) d6_3 rfl rfl ?_
  refine Rn.iload (pc' := 7) d6_5 rfl rfl ?_
  refine Rn.icmp_ge (pc' := 44) (pn := 10) d6_7 (by decide) (by decide) rfl (fun cq7 => absurd cq7 (by decide)) (fun cq7 => ?_)
  refine Rn.aloadN (pc' := 11) d6_10 rfl rfl rfl ?_
  refine Rn.iloadN (pc' := 12) d6_11 rfl rfl ?_
  have Fq8 := A.other Wq3 hn
  refine Rn.caload (pc' := 13) (v := .int c1) Fq8 (by decide) rfl d6_12 rfl ?_
  refine Rn.istore (pc' := 15) (Ls' := #[.val (.ref src), .val (.int (1 : Int32)), .val (.ref t), .val (.int (1 : Int32)), .val (.int (2 : Int32)), .val (.int (1 : Int32)), .val (.int c1)]) d6_13 rfl rfl ?_
  refine Rn.iload (pc' := 17) d6_15 rfl rfl ?_
  refine Rn.sipush (pc' := 20) (v := (255 : Int32)) d6_17 rfl rfl ?_
  refine Rn.icmp_le (pc' := 26) (pn := 23) d6_20 (by decide) (by decide) rfl (fun cq9 => ?_) (fun cq9 => absurd cq9 hp1)
  refine Rn.aloadN (pc' := 27) d6_26 rfl rfl rfl ?_
  refine Rn.iloadN (pc' := 28) d6_27 rfl rfl ?_
  refine Rn.iload (pc' := 30) d6_28 rfl rfl ?_
  refine Rn.i2b (pc' := 31) (v := (b8 c1)) d6_30 rfl rfl ?_
  refine Rn.bastore (pc' := 32) (v := .int (b8 c1)) Aq6 (by decide) (Nat.le_of_ble_eq_true rfl) (congrArg Value.int (nar_b8 c1)) (Or.inl (List.mem_of_getElem? (i := 0) rfl)) Sf.no d6_31 rfl (fun hq11 Wq10 Aq12 => ?_)
  have Aq13 : Ax Z hq11 t .byte ([.int (b8 c0), .int (b8 c1)]) := Aq12
  refine Rn.iinc (pc' := 35) (v := (2 : Int32)) (Ls' := #[.val (.ref src), .val (.int (2 : Int32)), .val (.ref t), .val (.int (1 : Int32)), .val (.int (2 : Int32)), .val (.int (1 : Int32)), .val (.int c1)]) d6_32 rfl rfl rfl rfl ?_
  refine Rn.iinc (pc' := 38) (v := (2 : Int32)) (Ls' := #[.val (.ref src), .val (.int (2 : Int32)), .val (.ref t), .val (.int (2 : Int32)), .val (.int (2 : Int32)), .val (.int (1 : Int32)), .val (.int c1)]) d6_35 rfl rfl rfl rfl ?_
  refine Rn.iinc (pc' := 41) (v := (2 : Int32)) (Ls' := #[.val (.ref src), .val (.int (2 : Int32)), .val (.ref t), .val (.int (2 : Int32)), .val (.int (2 : Int32)), .val (.int (2 : Int32)), .val (.int c1)]) d6_38 rfl rfl rfl rfl ?_
  refine Rn.goto (pc' := 3) d6_41 (by decide) (by decide) ?_
  refine Rn.iload (pc' := 5) d6_3 rfl rfl ?_
  refine Rn.iload (pc' := 7) d6_5 rfl rfl ?_
  refine Rn.icmp_ge (pc' := 44) (pn := 10) d6_7 (by decide) (by decide) rfl (fun cq14 => ?_) (fun cq14 => absurd cq14 (by decide))
  refine Rn.iload (pc' := 46) d6_44 rfl rfl ?_
  refine Rn.retI rfl d6_46 (Nat.le_of_ble_eq_true rfl) (Nat.le_of_ble_eq_true rfl) ?_
  exact ⟨rfl, Aq13⟩
theorem d5_0 : decode jdk_52_method_16_code 0 = .ok (.iload_n 2, 1) := by decide +kernel
theorem d5_1 : decode jdk_52_method_16_code 1 = .ok (.newarray .byte, 2) := by decide +kernel
theorem d5_3 : decode jdk_52_method_16_code 3 = .ok (.astore_n 3, 1) := by decide +kernel
theorem d5_4 : decode jdk_52_method_16_code 4 = .ok (.aload_n 0, 1) := by decide +kernel
theorem d5_5 : decode jdk_52_method_16_code 5 = .ok (.iload_n 1, 1) := by decide +kernel
theorem d5_6 : decode jdk_52_method_16_code 6 = .ok (.aload_n 3, 1) := by decide +kernel
theorem d5_7 : decode jdk_52_method_16_code 7 = .ok (.iconst 0, 1) := by decide +kernel
theorem d5_8 : decode jdk_52_method_16_code 8 = .ok (.iload_n 2, 1) := by decide +kernel
theorem d5_9 : decode jdk_52_method_16_code 9 = .ok (.invokestatic 115, 3) := by decide +kernel
theorem d5_12 : decode jdk_52_method_16_code 12 = .ok (.istore 4, 2) := by decide +kernel
theorem d5_14 : decode jdk_52_method_16_code 14 = .ok (.iload 4, 2) := by decide +kernel
theorem d5_16 : decode jdk_52_method_16_code 16 = .ok (.iload_n 2, 1) := by decide +kernel
theorem d5_17 : decode jdk_52_method_16_code 17 = .ok (.if_icmp .eq 40, 3) := by decide +kernel
theorem d5_20 : decode jdk_52_method_16_code 20 = .ok (.aload_n 0, 1) := by decide +kernel
theorem d5_21 : decode jdk_52_method_16_code 21 = .ok (.iload_n 1, 1) := by decide +kernel
theorem d5_22 : decode jdk_52_method_16_code 22 = .ok (.iload_n 2, 1) := by decide +kernel
theorem d5_23 : decode jdk_52_method_16_code 23 = .ok (.invokestatic 119, 3) := by decide +kernel
theorem d5_26 : decode jdk_52_method_16_code 26 = .ok (.astore 5, 2) := by decide +kernel
theorem d5_28 : decode jdk_52_method_16_code 28 = .ok (.aload 5, 2) := by decide +kernel
theorem d5_30 : decode jdk_52_method_16_code 30 = .ok (.iload 4, 2) := by decide +kernel
theorem d5_32 : decode jdk_52_method_16_code 32 = .ok (.invokestatic 71, 3) := by decide +kernel
theorem d5_35 : decode jdk_52_method_16_code 35 = .ok (.sipush 255, 3) := by decide +kernel
theorem d5_38 : decode jdk_52_method_16_code 38 = .ok (.if_icmp .gt 16, 3) := by decide +kernel
theorem d5_41 : decode jdk_52_method_16_code 41 = .ok (.aload 5, 2) := by decide +kernel
theorem d5_43 : decode jdk_52_method_16_code 43 = .ok (.iconst 0, 1) := by decide +kernel
theorem d5_44 : decode jdk_52_method_16_code 44 = .ok (.aload_n 3, 1) := by decide +kernel
theorem d5_45 : decode jdk_52_method_16_code 45 = .ok (.iconst 0, 1) := by decide +kernel
theorem d5_46 : decode jdk_52_method_16_code 46 = .ok (.iload_n 2, 1) := by decide +kernel
theorem d5_47 : decode jdk_52_method_16_code 47 = .ok (.invokestatic 123, 3) := by decide +kernel
theorem d5_50 : decode jdk_52_method_16_code 50 = .ok (.iload_n 2, 1) := by decide +kernel
theorem d5_51 : decode jdk_52_method_16_code 51 = .ok (.if_icmp .eq 6, 3) := by decide +kernel
theorem d5_54 : decode jdk_52_method_16_code 54 = .ok (.aload 5, 2) := by decide +kernel
theorem d5_56 : decode jdk_52_method_16_code 56 = .ok (.areturn, 1) := by decide +kernel
theorem d5_57 : decode jdk_52_method_16_code 57 = .ok (.aload_n 3, 1) := by decide +kernel
theorem d5_58 : decode jdk_52_method_16_code 58 = .ok (.areturn, 1) := by decide +kernel
set_option maxRecDepth 65536 in
set_option maxHeartbeats 40000000 in
theorem ct_cmpa2 (Z : State) (a0 : Array Value) (hw : ∀ d ∈ tables_1, d.before a0 Z = true) (src : Addr) (c0 c1 : Int32) (hp0 : ¬ 255 < c0) (hp1 : ¬ 255 < c1) (h0 : Heap) (A : Ax Z h0 src .char [.int c0, .int c1]) :
    Ct Z ⟨"java/lang/StringUTF16", "compress", "([CII)[B"⟩ jdk_52_method_16_code 6 (Option.some (FieldType.array FieldType.byte)) ({ frames := 1, cells := 1, slots := 2, locals := 18 } : Room) #[(.ref src), (.int (0 : Int32)), (.int (2 : Int32))] h0 [] (fun v h => ∃ t, v = some (.ref t) ∧ h0.size ≤ t ∧ Ax Z h t .byte [.int (b8 c0), .int (b8 c1)]) := by
  refine Ct.intro (Ls := #[.val (.ref src), .val (.int (0 : Int32)), .val (.int (2 : Int32)), .unset, .unset, .unset]) pn_2 (by intro m; first | (simp [entryFrame, mkF, argsToLocals, Value.category]; done) | rfl) ?_
  refine Rn.iloadN (pc' := 1) d5_0 rfl rfl ?_
  refine Rn.newP (pc' := 3) (cap := 2) (ty := .byte) (ad := "[B") (hw _ (List.mem_of_getElem? (i := 33) rfl)) rfl rfl d5_1 (by decide) (Nat.le_of_ble_eq_true rfl) (by decide) (Nat.le_of_ble_eq_true rfl) (Nat.le_of_ble_eq_true rfl) rfl (fun hq2 aq1 eq3 gq4 Eq5 ⟨Aq6, Bq7⟩ => ?_)
  have nq8 : src ≠ aq1 := by rw [eq3]; exact Nat.ne_of_lt (A.lt)
  have Aq9 : Ax Z hq2 aq1 .byte ([.int (0 : Int32), .int (0 : Int32)]) := Aq6
  refine Rn.astoreN (pc' := 4) (Ls' := #[.val (.ref src), .val (.int (0 : Int32)), .val (.int (2 : Int32)), .val (.ref aq1), .unset, .unset]) d5_3 rfl rfl rfl ?_
  refine Rn.aloadN (pc' := 5) d5_4 rfl rfl rfl ?_
  refine Rn.iloadN (pc' := 6) d5_5 rfl rfl ?_
  refine Rn.aloadN (pc' := 7) d5_6 rfl rfl rfl ?_
  refine Rn.iconst (pc' := 8) (v := (0 : Int32)) d5_7 rfl rfl ?_
  refine Rn.iloadN (pc' := 9) d5_8 rfl rfl ?_
  have Fq10 := A.ext Eq5
  refine Rn.callS (pc' := 12) (argsL := [.ref src, .int (0 : Int32), .ref aq1, .int (0 : Int32), .int (2 : Int32)]) (rest := []) (ct_cmpb2 Z a0 hw src aq1 c0 c1 hp0 hp1 hq2 Fq10 Aq9 nq8) (hw _ (List.mem_of_getElem? (i := 34) rfl)) (hw _ (List.mem_of_getElem? (i := 35) rfl)) (hw _ (List.mem_of_getElem? (i := 31) rfl)) (hw _ (List.mem_of_getElem? (i := 36) rfl)) (by decide) rfl rfl (lenOf pd_0 rfl) rfl d5_9 rfl (Nat.le_of_ble_eq_true rfl) (Nat.le_of_ble_eq_true rfl) (Nat.le_of_ble_eq_true rfl) (Nat.le_of_ble_eq_true rfl) (allS (Or.inr gq4) all0) (allS Sf.no (all0)) (fun vq11 hq12 Kq13 qq14 => ?_)
  obtain ⟨rfl, At⟩ := qq14
  simp only [Option.toList, List.cons_append, List.nil_append]
  refine Rn.istore (pc' := 14) (Ls' := #[.val (.ref src), .val (.int (0 : Int32)), .val (.int (2 : Int32)), .val (.ref aq1), .val (.int (2 : Int32)), .unset]) d5_12 rfl rfl ?_
  refine Rn.iload (pc' := 16) d5_14 rfl rfl ?_
  refine Rn.iloadN (pc' := 17) d5_16 rfl rfl ?_
  refine Rn.icmp_eq (pc' := 57) (pn := 20) d5_17 (by decide) (by decide) rfl (fun cq15 => ?_) (fun cq15 => absurd cq15 (by decide))
  refine Rn.aloadN (pc' := 58) d5_57 rfl rfl rfl ?_
  refine Rn.retA (t := (.array .byte)) rfl rfl rfl d5_58 (Nat.le_of_ble_eq_true rfl) (Nat.le_of_ble_eq_true rfl) ?_
  exact ⟨_, rfl, gq4, At⟩
theorem d7_0 : decode jdk_52_method_15_code 0 = .ok (.iload_n 1, 1) := by decide +kernel
theorem d7_1 : decode jdk_52_method_15_code 1 = .ok (.aload_n 0, 1) := by decide +kernel
theorem d7_2 : decode jdk_52_method_15_code 2 = .ok (.arraylength, 1) := by decide +kernel
theorem d7_3 : decode jdk_52_method_15_code 3 = .ok (.isub, 1) := by decide +kernel
theorem d7_4 : decode jdk_52_method_15_code 4 = .ok (.bipush 31, 2) := by decide +kernel
theorem d7_6 : decode jdk_52_method_15_code 6 = .ok (.iushr, 1) := by decide +kernel
theorem d7_7 : decode jdk_52_method_15_code 7 = .ok (.i2b, 1) := by decide +kernel
theorem d7_8 : decode jdk_52_method_15_code 8 = .ok (.ireturn, 1) := by decide +kernel
set_option maxRecDepth 65536 in
set_option maxHeartbeats 40000000 in
theorem ct_cod2 (Z : State) (a0 : Array Value) (hw : ∀ d ∈ tables_1, d.before a0 Z = true) (t : Addr) (c0 c1 : Int32) (h0 : Heap) (A : Ax Z h0 t .byte [.int (b8 c0), .int (b8 c1)]) :
    Ct Z ⟨"java/lang/StringUTF16", "coderFromArrayLen", "([BI)B"⟩ jdk_52_method_15_code 2 (Option.some FieldType.byte) ({ frames := 0, cells := 0, slots := 0, locals := 0 } : Room) #[(.ref t), (.int (2 : Int32))] h0 [] (fun v h => v = some (.int (0 : Int32)) ∧ h0 = h) := by
  refine Ct.intro (Ls := #[.val (.ref t), .val (.int (2 : Int32))]) pn_2 (by intro m; first | (simp [entryFrame, mkF, argsToLocals, Value.category]; done) | rfl) ?_
  refine Rn.iloadN (pc' := 1) d7_0 rfl rfl ?_
  refine Rn.aloadN (pc' := 2) d7_1 rfl rfl rfl ?_
  refine Rn.arraylength (pc' := 3) (n := (2 : Int32)) A rfl d7_2 rfl ?_
  refine Rn.isub (pc' := 4) (v := (0 : Int32)) d7_3 rfl rfl ?_
  refine Rn.bipush (pc' := 6) (v := (31 : Int32)) d7_4 rfl rfl ?_
  refine Rn.iushr (pc' := 7) (v := (0 : Int32)) d7_6 rfl rfl ?_
  refine Rn.i2b (pc' := 8) (v := (0 : Int32)) d7_7 rfl rfl ?_
  refine Rn.retN (t := .byte) rfl (by simp) d7_8 (Nat.le_of_ble_eq_true rfl) (Nat.le_of_ble_eq_true rfl) ?_
  exact ⟨rfl, rfl⟩
theorem d3_0 : decode jdk_42_method_149_code 0 = .ok (.aload_n 0, 1) := by decide +kernel
theorem d3_1 : decode jdk_42_method_149_code 1 = .ok (.invokespecial 1, 3) := by decide +kernel
theorem d3_4 : decode jdk_42_method_149_code 4 = .ok (.iload_n 3, 1) := by decide +kernel
theorem d3_5 : decode jdk_42_method_149_code 5 = .ok (.ifCond .ne 22, 3) := by decide +kernel
theorem d3_8 : decode jdk_42_method_149_code 8 = .ok (.aload_n 0, 1) := by decide +kernel
theorem d3_9 : decode jdk_42_method_149_code 9 = .ok (.ldc 7, 2) := by decide +kernel
theorem d3_11 : decode jdk_42_method_149_code 11 = .ok (.getfield 9, 3) := by decide +kernel
theorem d3_14 : decode jdk_42_method_149_code 14 = .ok (.putfield 9, 3) := by decide +kernel
theorem d3_17 : decode jdk_42_method_149_code 17 = .ok (.aload_n 0, 1) := by decide +kernel
theorem d3_18 : decode jdk_42_method_149_code 18 = .ok (.ldc 7, 2) := by decide +kernel
theorem d3_20 : decode jdk_42_method_149_code 20 = .ok (.getfield 15, 3) := by decide +kernel
theorem d3_23 : decode jdk_42_method_149_code 23 = .ok (.putfield 15, 3) := by decide +kernel
theorem d3_26 : decode jdk_42_method_149_code 26 = .ok (.return_, 1) := by decide +kernel
theorem d3_27 : decode jdk_42_method_149_code 27 = .ok (.getstatic 38, 3) := by decide +kernel
theorem d3_30 : decode jdk_42_method_149_code 30 = .ok (.ifCond .eq 28, 3) := by decide +kernel
theorem d3_33 : decode jdk_42_method_149_code 33 = .ok (.aload_n 1, 1) := by decide +kernel
theorem d3_34 : decode jdk_42_method_149_code 34 = .ok (.iload_n 2, 1) := by decide +kernel
theorem d3_35 : decode jdk_42_method_149_code 35 = .ok (.iload_n 3, 1) := by decide +kernel
theorem d3_36 : decode jdk_42_method_149_code 36 = .ok (.invokestatic 177, 3) := by decide +kernel
theorem d3_39 : decode jdk_42_method_149_code 39 = .ok (.astore 5, 2) := by decide +kernel
theorem d3_41 : decode jdk_42_method_149_code 41 = .ok (.aload_n 0, 1) := by decide +kernel
theorem d3_42 : decode jdk_42_method_149_code 42 = .ok (.aload 5, 2) := by decide +kernel
theorem d3_44 : decode jdk_42_method_149_code 44 = .ok (.iload_n 3, 1) := by decide +kernel
theorem d3_45 : decode jdk_42_method_149_code 45 = .ok (.invokestatic 47, 3) := by decide +kernel
theorem d3_48 : decode jdk_42_method_149_code 48 = .ok (.putfield 15, 3) := by decide +kernel
theorem d3_51 : decode jdk_42_method_149_code 51 = .ok (.aload_n 0, 1) := by decide +kernel
theorem d3_52 : decode jdk_42_method_149_code 52 = .ok (.aload 5, 2) := by decide +kernel
theorem d3_54 : decode jdk_42_method_149_code 54 = .ok (.putfield 9, 3) := by decide +kernel
theorem d3_57 : decode jdk_42_method_149_code 57 = .ok (.return_, 1) := by decide +kernel
theorem d3_58 : decode jdk_42_method_149_code 58 = .ok (.aload_n 0, 1) := by decide +kernel
theorem d3_59 : decode jdk_42_method_149_code 59 = .ok (.iconst 1, 1) := by decide +kernel
theorem d3_60 : decode jdk_42_method_149_code 60 = .ok (.putfield 15, 3) := by decide +kernel
theorem d3_63 : decode jdk_42_method_149_code 63 = .ok (.aload_n 0, 1) := by decide +kernel
theorem d3_64 : decode jdk_42_method_149_code 64 = .ok (.aload_n 1, 1) := by decide +kernel
theorem d3_65 : decode jdk_42_method_149_code 65 = .ok (.iload_n 2, 1) := by decide +kernel
theorem d3_66 : decode jdk_42_method_149_code 66 = .ok (.iload_n 3, 1) := by decide +kernel
theorem d3_67 : decode jdk_42_method_149_code 67 = .ok (.invokestatic 180, 3) := by decide +kernel
theorem d3_70 : decode jdk_42_method_149_code 70 = .ok (.putfield 9, 3) := by decide +kernel
theorem d3_73 : decode jdk_42_method_149_code 73 = .ok (.return_, 1) := by decide +kernel
set_option maxRecDepth 65536 in
set_option maxHeartbeats 40000000 in
theorem ct_siv2 (Z : State) (a0 : Array Value) (hw : ∀ d ∈ tables_1, d.before a0 Z = true) (x src : Addr) (c0 c1 : Int32) (hp0 : ¬ 255 < c0) (hp1 : ¬ 255 < c1) (z : Int32) (hz : z ≠ 0) (h0 : Heap) (E : Exa Z h0 x "java/lang/String") (V : Fld Z h0 x "java/lang/String" "value" "[B" .null) (Co : Fld Z h0 x "java/lang/String" "coder" "B" (.int (0 : Int32))) (A : Ax Z h0 src .char [.int c0, .int c1]) (hn : src ≠ x) (S : Sta Z Z.heap "java/lang/String" "COMPACT_STRINGS" "Z" (.int z)) :
    Ct Z ⟨"java/lang/String", "<init>", "([CIILjava/lang/Void;)V"⟩ jdk_42_method_149_code 6 (Option.none : Option FieldType) ({ frames := 2, cells := 1, slots := 2, locals := 36 } : Room) #[(.ref x), (.ref src), (.int (0 : Int32)), (.int (2 : Int32)), (.null)] h0 [x] (fun v h => v = none ∧ ∃ t, h0.size ≤ t ∧ Sg Z h x t [.int (b8 c0), .int (b8 c1)]) := by
  refine Ct.intro (Ls := #[.val (.ref x), .val (.ref src), .val (.int (0 : Int32)), .val (.int (2 : Int32)), .val (.null), .unset]) pn_3 (by intro m; first | (simp [entryFrame, mkF, argsToLocals, Value.category]; done) | rfl) ?_
  refine Rn.aloadN (pc' := 1) d3_0 rfl rfl rfl ?_
  refine Rn.initO (pc' := 4) (hw _ (List.mem_of_getElem? (i := 25) rfl)) (hw _ (List.mem_of_getElem? (i := 26) rfl)) (hw _ (List.mem_of_getElem? (i := 27) rfl)) rfl d3_1 (Nat.le_of_ble_eq_true rfl) (Nat.le_of_ble_eq_true rfl) rfl ?_
  refine Rn.iloadN (pc' := 5) d3_4 rfl rfl ?_
  refine Rn.if_ne (pc' := 27) (pn := 8) d3_5 (by decide) (by decide) rfl (fun cq1 => ?_) (fun cq1 => absurd cq1 (by decide))
  refine Rn.old fun Oq2 _ => ?_
  refine Rn.getS (pc' := 30) (hw _ (List.mem_of_getElem? (i := 28) rfl)) Via.refl (S.ext Oq2) d3_27 rfl ?_
  refine Rn.if_eq (pc' := 58) (pn := 33) d3_30 (by decide) (by decide) rfl (fun cq3 => absurd cq3 hz) (fun cq3 => ?_)
  refine Rn.aloadN (pc' := 34) d3_33 rfl rfl rfl ?_
  refine Rn.iloadN (pc' := 35) d3_34 rfl rfl ?_
  refine Rn.iloadN (pc' := 36) d3_35 rfl rfl ?_
  refine Rn.callS (pc' := 39) (argsL := [.ref src, .int (0 : Int32), .int (2 : Int32)]) (rest := []) (ct_cmpa2 Z a0 hw src c0 c1 hp0 hp1 h0 A) (hw _ (List.mem_of_getElem? (i := 29) rfl)) (hw _ (List.mem_of_getElem? (i := 30) rfl)) (hw _ (List.mem_of_getElem? (i := 31) rfl)) (hw _ (List.mem_of_getElem? (i := 32) rfl)) (by decide) rfl rfl (lenOf pd_1 rfl) rfl d3_36 rfl (Nat.le_of_ble_eq_true rfl) (Nat.le_of_ble_eq_true rfl) (Nat.le_of_ble_eq_true rfl) (Nat.le_of_ble_eq_true rfl) (fun _ z => nomatch z) (fun _ z => nomatch z) (fun vq4 hq5 Kq6 qq7 => ?_)
  obtain ⟨t, rfl, ht, At⟩ := qq7
  simp only [Option.toList, List.cons_append, List.nil_append]
  have Fq8 := E.keep Kq6
  have nt_x : x ≠ t := Nat.ne_of_lt (Nat.lt_of_lt_of_le E.lt ht)
  have Fq9 := A.keep Kq6 nin0
  have nt_src : src ≠ t := Nat.ne_of_lt (Nat.lt_of_lt_of_le A.lt ht)
  refine Rn.astore (pc' := 41) (Ls' := #[.val (.ref x), .val (.ref src), .val (.int (0 : Int32)), .val (.int (2 : Int32)), .val (.null), .val (.ref t)]) d3_39 rfl rfl rfl ?_
  refine Rn.aloadN (pc' := 42) d3_41 rfl rfl rfl ?_
  refine Rn.aload (pc' := 44) d3_42 rfl rfl rfl ?_
  refine Rn.iloadN (pc' := 45) d3_44 rfl rfl ?_
  refine Rn.callS (pc' := 48) (argsL := [.ref t, .int (2 : Int32)]) (rest := [.ref x]) (ct_cod2 Z a0 hw t c0 c1 hq5 At) (hw _ (List.mem_of_getElem? (i := 37) rfl)) (hw _ (List.mem_of_getElem? (i := 38) rfl)) (hw _ (List.mem_of_getElem? (i := 31) rfl)) (hw _ (List.mem_of_getElem? (i := 39) rfl)) (by decide) rfl rfl (lenOf pd_2 rfl) rfl d3_45 rfl (Nat.le_of_ble_eq_true rfl) (Nat.le_of_ble_eq_true rfl) (Nat.le_of_ble_eq_true rfl) (Nat.le_of_ble_eq_true rfl) (fun _ z => nomatch z) (fun _ z => nomatch z) (fun vq10 hq11 Kq12 qq13 => ?_)
  obtain ⟨rfl, rfl⟩ := qq13
  simp only [Option.toList, List.cons_append, List.nil_append]
  have Fq14 := Co.keep Kq6 nin0
  refine Rn.putF (pc' := 51) (hw _ (List.mem_of_getElem? (i := 40) rfl)) Via.refl Fq14 Fq8 (Or.inr ⟨(hw _ (List.mem_of_getElem? (i := 41) rfl)), rfl, rfl⟩) (hw _ (List.mem_of_getElem? (i := 16) rfl)) (ty := .byte) (by decide) rfl rfl (Or.inl (List.mem_of_getElem? (i := 0) rfl)) Sf.no d3_48 rfl (fun hq16 Wq15 => ?_)
  have Fq17 := Fq14.same Wq15
  refine Rn.aloadN (pc' := 52) d3_51 rfl rfl rfl ?_
  refine Rn.aload (pc' := 54) d3_52 rfl rfl rfl ?_
  have Fq18 := V.keep Kq6 nin0
  have Fq19 := Fq18.other Wq15 (Or.inr (slot_ne (t := (.array .byte)) (t' := .byte) (Or.inr (hw _ (List.mem_of_getElem? (i := 43) rfl))) (Or.inr (hw _ (List.mem_of_getElem? (i := 41) rfl))) (by decide) (by decide) (by decide)))
  have Fq20 := Fq8.wr Wq15
  refine Rn.putF (pc' := 57) (hw _ (List.mem_of_getElem? (i := 42) rfl)) Via.refl Fq19 Fq20 (Or.inr ⟨(hw _ (List.mem_of_getElem? (i := 43) rfl)), rfl, rfl⟩) (hw _ (List.mem_of_getElem? (i := 16) rfl)) (ty := (.array .byte)) (by decide) rfl rfl (Or.inl (List.mem_of_getElem? (i := 0) rfl)) Sf.no d3_54 rfl (fun hq22 Wq21 => ?_)
  have Fq23 := Fq19.same Wq21
  refine Rn.retV rfl d3_57 (Nat.le_of_ble_eq_true rfl) (Nat.le_of_ble_eq_true rfl) ?_
  have Fq24 := Fq20.wr Wq21
  have Fq25 := Fq17.other Wq21 (Or.inr (slot_ne (t := .byte) (t' := (.array .byte)) (Or.inr (hw _ (List.mem_of_getElem? (i := 41) rfl))) (Or.inr (hw _ (List.mem_of_getElem? (i := 43) rfl))) (by decide) (by decide) (by decide)))
  have Fq26 := At.other Wq15 (Ne.symm nt_x)
  have Fq27 := Fq26.other Wq21 (Ne.symm nt_x)
  exact ⟨rfl, t, ht, Fq24, Fq25, Fq23, Fq27⟩
theorem d2_0 : decode jdk_42_method_3_code 0 = .ok (.aload_n 0, 1) := by decide +kernel
theorem d2_1 : decode jdk_42_method_3_code 1 = .ok (.aload_n 1, 1) := by decide +kernel
theorem d2_2 : decode jdk_42_method_3_code 2 = .ok (.iconst 0, 1) := by decide +kernel
theorem d2_3 : decode jdk_42_method_3_code 3 = .ok (.aload_n 1, 1) := by decide +kernel
theorem d2_4 : decode jdk_42_method_3_code 4 = .ok (.arraylength, 1) := by decide +kernel
theorem d2_5 : decode jdk_42_method_3_code 5 = .ok (.aconst_null, 1) := by decide +kernel
theorem d2_6 : decode jdk_42_method_3_code 6 = .ok (.invokespecial 27, 3) := by decide +kernel
theorem d2_9 : decode jdk_42_method_3_code 9 = .ok (.return_, 1) := by decide +kernel
set_option maxRecDepth 65536 in
set_option maxHeartbeats 40000000 in
theorem ct_si2 (Z : State) (a0 : Array Value) (hw : ∀ d ∈ tables_1, d.before a0 Z = true) (x src : Addr) (c0 c1 : Int32) (hp0 : ¬ 255 < c0) (hp1 : ¬ 255 < c1) (z : Int32) (hz : z ≠ 0) (h0 : Heap) (E : Exa Z h0 x "java/lang/String") (V : Fld Z h0 x "java/lang/String" "value" "[B" .null) (Co : Fld Z h0 x "java/lang/String" "coder" "B" (.int (0 : Int32))) (A : Ax Z h0 src .char [.int c0, .int c1]) (hn : src ≠ x) (S : Sta Z Z.heap "java/lang/String" "COMPACT_STRINGS" "Z" (.int z)) :
    Ct Z ⟨"java/lang/String", "<init>", "([C)V"⟩ jdk_42_method_3_code 2 (Option.none : Option FieldType) ({ frames := 3, cells := 1, slots := 2, locals := 53 } : Room) #[(.ref x), (.ref src)] h0 [x] (fun v h => v = none ∧ ∃ t, h0.size ≤ t ∧ Sg Z h x t [.int (b8 c0), .int (b8 c1)]) := by
  refine Ct.intro (Ls := #[.val (.ref x), .val (.ref src)]) pn_3 (by intro m; first | (simp [entryFrame, mkF, argsToLocals, Value.category]; done) | rfl) ?_
  refine Rn.aloadN (pc' := 1) d2_0 rfl rfl rfl ?_
  refine Rn.aloadN (pc' := 2) d2_1 rfl rfl rfl ?_
  refine Rn.iconst (pc' := 3) (v := (0 : Int32)) d2_2 rfl rfl ?_
  refine Rn.aloadN (pc' := 4) d2_3 rfl rfl rfl ?_
  refine Rn.arraylength (pc' := 5) (n := (2 : Int32)) A rfl d2_4 rfl ?_
  refine Rn.aconst_null (pc' := 6) d2_5 rfl ?_
  refine Rn.callI (pc' := 9) (argsL := [.ref src, .int (0 : Int32), .int (2 : Int32), .null]) (a := x) (rest := []) (ct_siv2 Z a0 hw x src c0 c1 hp0 hp1 z hz h0 E V Co A hn S) rfl (hw _ (List.mem_of_getElem? (i := 21) rfl)) (hw _ (List.mem_of_getElem? (i := 22) rfl)) (hw _ (List.mem_of_getElem? (i := 17) rfl)) (hw _ (List.mem_of_getElem? (i := 24) rfl)) (by decide) rfl rfl (lenOf pd_3 rfl) rfl d2_6 rfl (Nat.le_of_ble_eq_true rfl) (Nat.le_of_ble_eq_true rfl) (Nat.le_of_ble_eq_true rfl) (Nat.le_of_ble_eq_true rfl) (allS (Or.inl (List.mem_of_getElem? (i := 0) rfl)) all0) (allS Sf.no (all0)) (fun vq1 hq2 Kq3 qq4 => ?_)
  obtain ⟨rfl, t, ht, G⟩ := qq4
  simp only [Option.toList, List.cons_append, List.nil_append]
  refine Rn.retV rfl d2_9 (Nat.le_of_ble_eq_true rfl) (Nat.le_of_ble_eq_true rfl) ?_
  exact ⟨rfl, t, ht, G⟩
set_option maxRecDepth 65536 in
set_option maxHeartbeats 40000000 in
theorem own_law (Z : State) (a0 : Array Value) (hw : ∀ d ∈ tables_1, d.before a0 Z = true) (hE : EW Z a0 []) (a b c d e f : Int32) (i1 j1 x1 x2 : Int32) (ei1 : (b &&& (2147483647 : Int32)) % (6 : Int32) = i1) (hi1 : own_R6 i1) (ej1 : c &&& (3 : Int32) = j1) (ex1 : (e &&& (255 : Int32)).toUInt32.toUInt16.toUInt32.toInt32 = x1) (hx1 : own_B x1) (ex2 : (f &&& (255 : Int32)).toUInt32.toUInt16.toUInt32.toInt32 = x2) (hx2 : own_B x2) (z : Int32) (hz : z ≠ 0) (S : Sta Z Z.heap "java/lang/String" "COMPACT_STRINGS" "Z" (.int z)) (p0 : Addr) (n0 : own_En Z "com/example/faultgauge/faultgauge/exec/TestResult$Difference" "Lcom/example/faultgauge/faultgauge/exec/TestResult$Difference;" "SAME" 0 p0) (p1 : Addr) (n1 : own_En Z "com/example/faultgauge/faultgauge/exec/TestResult$Difference" "Lcom/example/faultgauge/faultgauge/exec/TestResult$Difference;" "OUTPUT" 1 p1) (p2 : Addr) (n2 : own_En Z "com/example/faultgauge/faultgauge/exec/TestResult$Difference" "Lcom/example/faultgauge/faultgauge/exec/TestResult$Difference;" "EXIT_STATUS" 2 p2) (p3 : Addr) (n3 : own_En Z "com/example/faultgauge/faultgauge/exec/TestResult$Difference" "Lcom/example/faultgauge/faultgauge/exec/TestResult$Difference;" "SIGNAL" 3 p3) (p4 : Addr) (n4 : own_En Z "com/example/faultgauge/faultgauge/exec/TestResult$Difference" "Lcom/example/faultgauge/faultgauge/exec/TestResult$Difference;" "TIME_LIMIT" 4 p4) (p5 : Addr) (n5 : own_En Z "com/example/faultgauge/faultgauge/exec/TestResult$Difference" "Lcom/example/faultgauge/faultgauge/exec/TestResult$Difference;" "OUTPUT_LIMIT" 5 p5) (q0 : Addr) (m0 : own_Es Z "com/example/faultgauge/faultgauge/exec/Ending" "Lcom/example/faultgauge/faultgauge/exec/Ending;" "EXIT" q0) (q1 : Addr) (m1 : own_Es Z "com/example/faultgauge/faultgauge/exec/Ending" "Lcom/example/faultgauge/faultgauge/exec/Ending;" "SIGNAL" q1) (q2 : Addr) (m2 : own_Es Z "com/example/faultgauge/faultgauge/exec/Ending" "Lcom/example/faultgauge/faultgauge/exec/Ending;" "TIMEOUT" q2) (q3 : Addr) (m3 : own_Es Z "com/example/faultgauge/faultgauge/exec/Ending" "Lcom/example/faultgauge/faultgauge/exec/Ending;" "OUTPUT_LIMIT" q3) :
    Rn true Z [] "com/example/faultgauge/faultgauge/exec/TestResultDetectsPinLaw" "law" code 14 ret room_1 Z.heap [] (fun v _ => v = some (.int 1)) [] 0 0 Z.heap 0 #[.val (.int a), .val (.int b), .val (.int c), .val (.int d), .val (.int e), .val (.int f), .unset, .unset, .unset, .unset, .unset, .unset, .unset, .unset] [] := by
  refine Rn.iloadN (pc' := 1) at_0 rfl rfl ?_
  refine Rn.ldcI (pc' := 3) (hw _ (List.mem_of_getElem? (i := 0) rfl)) at_1 rfl ?_
  refine Rn.iand (pc' := 4) (v := (b &&& (2147483647 : Int32))) at_3 rfl rfl ?_
  refine Rn.bipush (pc' := 6) (v := (6 : Int32)) at_4 rfl rfl ?_
  refine Rn.irem (pc' := 7) (v := i1) at_6 (by decide) ei1 rfl ?_
  refine Rn.istore (pc' := 9) (Ls' := #[.val (.int a), .val (.int b), .val (.int c), .val (.int d), .val (.int e), .val (.int f), .val (.int i1), .unset, .unset, .unset, .unset, .unset, .unset, .unset]) at_7 rfl rfl ?_
  refine Rn.iload (pc' := 11) at_9 rfl rfl ?_
  refine Rn.callS (pc' := 14) (argsL := [.int i1]) (rest := []) (ct_df Z a0 hw i1 Z.heap p0 n0 p1 n1 p2 n2 p3 n3 p4 n4 p5 n5) (hw _ (List.mem_of_getElem? (i := 1) rfl)) (hw _ (List.mem_of_getElem? (i := 2) rfl)) (hw _ (List.mem_of_getElem? (i := 3) rfl)) (hw _ (List.mem_of_getElem? (i := 4) rfl)) (by decide) rfl rfl (lenOf pd_4 rfl) rfl at_11 rfl (Nat.le_of_ble_eq_true rfl) (Nat.le_of_ble_eq_true rfl) (Nat.le_of_ble_eq_true rfl) (Nat.le_of_ble_eq_true rfl) (fun _ z => nomatch z) (fun _ z => nomatch z) (fun vq1 hq2 Kq3 qq4 => ?_)
  obtain ⟨rfl, rfl⟩ := qq4
  simp only [Option.toList, List.cons_append, List.nil_append]
  refine Rn.astore (pc' := 16) (Ls' := #[.val (.int a), .val (.int b), .val (.int c), .val (.int d), .val (.int e), .val (.int f), .val (.int i1), .val (.ref (own_p6 p0 p1 p2 p3 p4 p5 i1)), .unset, .unset, .unset, .unset, .unset, .unset]) at_14 rfl rfl rfl ?_
  refine Rn.iloadN (pc' := 17) at_16 rfl rfl ?_
  refine Rn.iconst (pc' := 18) (v := (3 : Int32)) at_17 rfl rfl ?_
  refine Rn.iand (pc' := 19) (v := j1) at_18 ej1 rfl ?_
  refine Rn.callS (pc' := 22) (argsL := [.int j1]) (rest := []) (ct_en Z a0 hw j1 Z.heap q0 m0 q1 m1 q2 m2 q3 m3) (hw _ (List.mem_of_getElem? (i := 8) rfl)) (hw _ (List.mem_of_getElem? (i := 9) rfl)) (hw _ (List.mem_of_getElem? (i := 3) rfl)) (hw _ (List.mem_of_getElem? (i := 10) rfl)) (by decide) rfl rfl (lenOf pd_5 rfl) rfl at_19 rfl (Nat.le_of_ble_eq_true rfl) (Nat.le_of_ble_eq_true rfl) (Nat.le_of_ble_eq_true rfl) (Nat.le_of_ble_eq_true rfl) (fun _ z => nomatch z) (fun _ z => nomatch z) (fun vq5 hq6 Kq7 qq8 => ?_)
  obtain ⟨rfl, rfl⟩ := qq8
  simp only [Option.toList, List.cons_append, List.nil_append]
  refine Rn.astore (pc' := 24) (Ls' := #[.val (.int a), .val (.int b), .val (.int c), .val (.int d), .val (.int e), .val (.int f), .val (.int i1), .val (.ref (own_p6 p0 p1 p2 p3 p4 p5 i1)), .val (.ref (own_p4 q0 q1 q2 q3 j1)), .unset, .unset, .unset, .unset, .unset]) at_22 rfl rfl rfl ?_
  refine Rn.iconst (pc' := 25) (v := (2 : Int32)) at_24 rfl rfl ?_
  refine Rn.newP (pc' := 27) (cap := 2) (ty := .char) (ad := "[C") (hw _ (List.mem_of_getElem? (i := 14) rfl)) rfl rfl at_25 (by decide) (Nat.le_of_ble_eq_true rfl) (by decide) (Nat.le_of_ble_eq_true rfl) (Nat.le_of_ble_eq_true rfl) rfl (fun hq10 aq9 eq11 gq12 Eq13 ⟨Aq14, Bq15⟩ => ?_)
  have Aq16 : Ax Z hq10 aq9 .char ([.int (0 : Int32), .int (0 : Int32)]) := Aq14
  refine Rn.astore (pc' := 29) (Ls' := #[.val (.int a), .val (.int b), .val (.int c), .val (.int d), .val (.int e), .val (.int f), .val (.int i1), .val (.ref (own_p6 p0 p1 p2 p3 p4 p5 i1)), .val (.ref (own_p4 q0 q1 q2 q3 j1)), .val (.ref aq9), .unset, .unset, .unset, .unset]) at_27 rfl rfl rfl ?_
  refine Rn.aload (pc' := 31) at_29 rfl rfl rfl ?_
  refine Rn.iconst (pc' := 32) (v := (0 : Int32)) at_31 rfl rfl ?_
  refine Rn.iload (pc' := 34) at_32 rfl rfl ?_
  refine Rn.sipush (pc' := 37) (v := (255 : Int32)) at_34 rfl rfl ?_
  refine Rn.iand (pc' := 38) (v := (e &&& (255 : Int32))) at_37 rfl rfl ?_
  refine Rn.i2c (pc' := 39) (v := x1) at_38 ex1 rfl ?_
  refine Rn.castore (pc' := 40) (v := .int x1) Aq16 (by decide) (Nat.le_of_ble_eq_true rfl) (congrArg Value.int hx1.2) (Or.inr gq12) (Sf.mem (List.mem_of_getElem? (i := 0) rfl)) at_39 rfl (fun hq18 Wq17 Aq19 => ?_)
  have Aq20 : Ax Z hq18 aq9 .char ([.int x1, .int (0 : Int32)]) := Aq19
  refine Rn.aload (pc' := 42) at_40 rfl rfl rfl ?_
  refine Rn.iconst (pc' := 43) (v := (1 : Int32)) at_42 rfl rfl ?_
  refine Rn.iload (pc' := 45) at_43 rfl rfl ?_
  refine Rn.sipush (pc' := 48) (v := (255 : Int32)) at_45 rfl rfl ?_
  refine Rn.iand (pc' := 49) (v := (f &&& (255 : Int32))) at_48 rfl rfl ?_
  refine Rn.i2c (pc' := 50) (v := x2) at_49 ex2 rfl ?_
  refine Rn.castore (pc' := 51) (v := .int x2) Aq20 (by decide) (Nat.le_of_ble_eq_true rfl) (congrArg Value.int hx2.2) (Or.inr gq12) (Sf.mem (List.mem_of_getElem? (i := 0) rfl)) at_50 rfl (fun hq22 Wq21 Aq23 => ?_)
  have Aq24 : Ax Z hq22 aq9 .char ([.int x1, .int x2]) := Aq23
  refine Rn.iload (pc' := 53) at_51 rfl rfl ?_
  refine Rn.bipush (pc' := 55) (v := (8 : Int32)) at_53 rfl rfl ?_
  refine Rn.iushr (pc' := 56) (v := (XT.ushr e (8 : Int32))) at_55 rfl rfl ?_
  refine Rn.iconst (pc' := 57) (v := (1 : Int32)) at_56 rfl rfl ?_
  refine Rn.iand (pc' := 58) (v := ((XT.ushr e (8 : Int32)) &&& (1 : Int32))) at_57 rfl rfl ?_
  refine Rn.if_eq (pc' := 65) (pn := 61) at_58 (by decide) (by decide) rfl (fun cq25 => ?_) (fun cq25 => ?_)
  ·
    refine Rn.iconst (pc' := 66) (v := (0 : Int32)) at_65 rfl rfl ?_
    refine Rn.istore (pc' := 68) (Ls' := #[.val (.int a), .val (.int b), .val (.int c), .val (.int d), .val (.int e), .val (.int f), .val (.int i1), .val (.ref (own_p6 p0 p1 p2 p3 p4 p5 i1)), .val (.ref (own_p4 q0 q1 q2 q3 j1)), .val (.ref aq9), .val (.int (0 : Int32)), .unset, .unset, .unset]) at_66 rfl rfl ?_
    refine Rn.iload (pc' := 70) at_68 rfl rfl ?_
    refine Rn.if_eq (pc' := 78) (pn := 73) at_70 (by decide) (by decide) rfl (fun cq26 => ?_) (fun cq26 => absurd cq26 (by decide))
    refine Rn.newO (pc' := 81) (hw _ (List.mem_of_getElem? (i := 15) rfl)) (hw _ (List.mem_of_getElem? (i := 16) rfl)) (hw _ (List.mem_of_getElem? (i := 17) rfl)) at_78 (Nat.le_of_ble_eq_true rfl) (Nat.le_of_ble_eq_true rfl) rfl (fun hq28 aq27 eq29 gq30 Eq31 ⟨Aq32, Dq33, Uq34⟩ => ?_)
    have nq35 : aq9 ≠ aq27 := by rw [eq29]; exact Nat.ne_of_lt (Aq24.lt)
    have Fq36 : Fld Z hq28 aq27 "java/lang/String" "coder" "B" (.int (0 : Int32)) := Dq33 (Or.inr (hw _ (List.mem_of_getElem? (i := 41) rfl))) (ty := .byte) (by decide)
    have Fq37 : Fld Z hq28 aq27 "java/lang/String" "value" "[B" (.null) := Dq33 (Or.inr (hw _ (List.mem_of_getElem? (i := 43) rfl))) (ty := (.array .byte)) (by decide)
    refine Rn.dup (pc' := 82) at_81 rfl rfl ?_
    refine Rn.aload (pc' := 84) at_82 rfl rfl rfl ?_
    have Fq41 := Aq24.ext Eq31
    refine Rn.callI (pc' := 87) (argsL := [.ref aq9]) (a := aq27) (rest := [.ref aq27]) (ct_si2 Z a0 hw aq27 aq9 x1 x2 hx1.1.1 hx2.1.1 z hz hq28 Aq32 Fq37 Fq36 Fq41 nq35 S) rfl (hw _ (List.mem_of_getElem? (i := 18) rfl)) (hw _ (List.mem_of_getElem? (i := 19) rfl)) (hw _ (List.mem_of_getElem? (i := 17) rfl)) (hw _ (List.mem_of_getElem? (i := 20) rfl)) (by decide) rfl rfl (lenOf pd_6 rfl) rfl at_84 rfl (Nat.le_of_ble_eq_true rfl) (Nat.le_of_ble_eq_true rfl) (Nat.le_of_ble_eq_true rfl) (Nat.le_of_ble_eq_true rfl) (allS (Or.inr gq30) all0) (allS (Sf.mem (List.mem_of_getElem? (i := 0) rfl)) (all0)) (fun vq42 hq43 Kq44 qq45 => ?_)
    obtain ⟨rfl, tq38, htq39, Gq40⟩ := qq45
    simp only [Option.toList, List.cons_append, List.nil_append]
    have nq46 : aq9 ≠ tq38 := Nat.ne_of_lt (Nat.lt_of_lt_of_le Fq41.lt htq39)
    have nq47 : aq27 ≠ tq38 := Nat.ne_of_lt (Nat.lt_of_lt_of_le Aq32.lt htq39)
    refine Rn.astore (pc' := 89) (Ls' := #[.val (.int a), .val (.int b), .val (.int c), .val (.int d), .val (.int e), .val (.int f), .val (.int i1), .val (.ref (own_p6 p0 p1 p2 p3 p4 p5 i1)), .val (.ref (own_p4 q0 q1 q2 q3 j1)), .val (.ref aq9), .val (.int (0 : Int32)), .val (.ref aq27), .unset, .unset]) at_87 rfl rfl rfl ?_
    refine Rn.newO (pc' := 92) (hw _ (List.mem_of_getElem? (i := 44) rfl)) (hw _ (List.mem_of_getElem? (i := 45) rfl)) (hw _ (List.mem_of_getElem? (i := 46) rfl)) at_89 (Nat.le_of_ble_eq_true rfl) (Nat.le_of_ble_eq_true rfl) rfl (fun hq49 aq48 eq50 gq51 Eq52 ⟨Aq53, Dq54, Uq55⟩ => ?_)
    have Fq56 := Fq41.keep Kq44 (ninS nq35 nin0)
    have nq57 : aq9 ≠ aq48 := by rw [eq50]; exact Nat.ne_of_lt (Fq56.lt)
    have nq58 : aq27 ≠ aq48 := by rw [eq50]; exact Nat.ne_of_lt (Gq40.1.lt)
    have nq59 : tq38 ≠ aq48 := by rw [eq50]; exact Nat.ne_of_lt (Gq40.2.2.2.lt)
    have Fq60 : Fld Z hq49 aq48 "com/example/faultgauge/faultgauge/exec/TestResult" "line" "I" (.int (0 : Int32)) := Dq54 (Or.inr (hw _ (List.mem_of_getElem? (i := 52) rfl))) (ty := .int) (by decide)
    have Fq61 : Fld Z hq49 aq48 "com/example/faultgauge/faultgauge/exec/TestResult" "difference" "Lcom/example/faultgauge/faultgauge/exec/TestResult$Difference;" (.null) := Dq54 (Or.inr (hw _ (List.mem_of_getElem? (i := 54) rfl))) (ty := (.object "com/example/faultgauge/faultgauge/exec/TestResult$Difference")) (by decide)
    have Fq62 : Fld Z hq49 aq48 "com/example/faultgauge/faultgauge/exec/TestResult" "ending" "Lcom/example/faultgauge/faultgauge/exec/Ending;" (.null) := Dq54 (Or.inr (hw _ (List.mem_of_getElem? (i := 56) rfl))) (ty := (.object "com/example/faultgauge/faultgauge/exec/Ending")) (by decide)
    have Fq63 : Fld Z hq49 aq48 "com/example/faultgauge/faultgauge/exec/TestResult" "code" "I" (.int (0 : Int32)) := Dq54 (Or.inr (hw _ (List.mem_of_getElem? (i := 58) rfl))) (ty := .int) (by decide)
    have Fq64 : Fld Z hq49 aq48 "com/example/faultgauge/faultgauge/exec/TestResult" "outputDigest" "Ljava/lang/String;" (.null) := Dq54 (Or.inr (hw _ (List.mem_of_getElem? (i := 60) rfl))) (ty := (.object "java/lang/String")) (by decide)
    refine Rn.dup (pc' := 93) at_92 rfl rfl ?_
    refine Rn.iloadN (pc' := 94) at_93 rfl rfl ?_
    refine Rn.aload (pc' := 96) at_94 rfl rfl rfl ?_
    refine Rn.aload (pc' := 98) at_96 rfl rfl rfl ?_
    refine Rn.iloadN (pc' := 99) at_98 rfl rfl ?_
    refine Rn.aload (pc' := 101) at_99 rfl rfl rfl ?_
    refine Rn.callI (pc' := 104) (argsL := [.int a, .ref (own_p6 p0 p1 p2 p3 p4 p5 i1), .ref (own_p4 q0 q1 q2 q3 j1), .int d, .ref aq27]) (a := aq48) (rest := [.ref aq48]) (ct_tr Z a0 hw aq48 a (own_p6 p0 p1 p2 p3 p4 p5 i1) (own_p4 q0 q1 q2 q3 j1) d aq27 hq49 Aq53 Fq60 Fq61 Fq62 Fq63 Fq64) rfl (hw _ (List.mem_of_getElem? (i := 47) rfl)) (hw _ (List.mem_of_getElem? (i := 48) rfl)) (hw _ (List.mem_of_getElem? (i := 46) rfl)) (hw _ (List.mem_of_getElem? (i := 49) rfl)) (by decide) rfl rfl (lenOf pd_7 rfl) rfl at_101 rfl (Nat.le_of_ble_eq_true rfl) (Nat.le_of_ble_eq_true rfl) (Nat.le_of_ble_eq_true rfl) (Nat.le_of_ble_eq_true rfl) (allS (Or.inr gq51) all0) (allS (Sf.mem (List.mem_of_getElem? (i := 0) rfl)) (all0)) (fun vq66 hq67 Kq68 qq69 => ?_)
    obtain ⟨rfl, Tq65⟩ := qq69
    simp only [Option.toList, List.cons_append, List.nil_append]
    refine Rn.astore (pc' := 106) (Ls' := #[.val (.int a), .val (.int b), .val (.int c), .val (.int d), .val (.int e), .val (.int f), .val (.int i1), .val (.ref (own_p6 p0 p1 p2 p3 p4 p5 i1)), .val (.ref (own_p4 q0 q1 q2 q3 j1)), .val (.ref aq9), .val (.int (0 : Int32)), .val (.ref aq27), .val (.ref aq48), .unset]) at_104 rfl rfl rfl ?_
    refine Rn.iload (pc' := 108) at_106 rfl rfl ?_
    refine Rn.if_eq (pc' := 115) (pn := 111) at_108 (by decide) (by decide) rfl (fun cq70 => ?_) (fun cq70 => ?_)
    ·
      refine Rn.iconst (pc' := 116) (v := (0 : Int32)) at_115 rfl rfl ?_
      refine Rn.istore (pc' := 118) (Ls' := #[.val (.int a), .val (.int b), .val (.int c), .val (.int d), .val (.int e), .val (.int f), .val (.int i1), .val (.ref (own_p6 p0 p1 p2 p3 p4 p5 i1)), .val (.ref (own_p4 q0 q1 q2 q3 j1)), .val (.ref aq9), .val (.int (0 : Int32)), .val (.ref aq27), .val (.ref aq48), .val (.int (0 : Int32))]) at_116 rfl rfl ?_
      refine Rn.aload (pc' := 120) at_118 rfl rfl rfl ?_
      refine Rn.callV (pc' := 123) (argsL := []) (a := aq48) (rest := []) (ct_dt Z a0 hw aq48 a (own_p6 p0 p1 p2 p3 p4 p5 i1) (own_p4 q0 q1 q2 q3 j1) d aq27 hq67 Tq65 p0 n0) Tq65.1 (hw _ (List.mem_of_getElem? (i := 61) rfl)) (hw _ (List.mem_of_getElem? (i := 62) rfl)) (fun _ hZ => notFace_of_selects (args := #[]) (mvT hZ (hw _ (List.mem_of_getElem? (i := 64) rfl)))) (hw _ (List.mem_of_getElem? (i := 64) rfl)) (hw _ (List.mem_of_getElem? (i := 63) rfl)) (hw _ (List.mem_of_getElem? (i := 46) rfl)) (hw _ (List.mem_of_getElem? (i := 65) rfl)) (by decide) rfl rfl (lenOf pd_8 rfl) rfl at_120 rfl (Nat.le_of_ble_eq_true rfl) (Nat.le_of_ble_eq_true rfl) (Nat.le_of_ble_eq_true rfl) (Nat.le_of_ble_eq_true rfl) (fun _ z => nomatch z) (fun _ z => nomatch z) (fun vq71 hq72 Kq73 qq74 => ?_)
      obtain ⟨rfl, rfl⟩ := qq74
      simp only [Option.toList, List.cons_append, List.nil_append]
      refine Rn.iload (pc' := 125) at_123 rfl rfl ?_
      refine Rn.icmp_ne (pc' := 142) (pn := 128) at_125 (by decide) (by decide) rfl (fun cq75 => absurd (if_neg (c := (own_p6 p0 p1 p2 p3 p4 p5 i1) ≠ p0) (fun q => q (congrArg _ cq70))) cq75) (fun cq75 => ?_)
      refine Rn.aload (pc' := 130) at_128 rfl rfl rfl ?_
      refine Rn.callV (pc' := 133) (argsL := []) (a := aq48) (rest := []) (ct_di Z a0 hw aq48 a (own_p6 p0 p1 p2 p3 p4 p5 i1) (own_p4 q0 q1 q2 q3 j1) d aq27 hq67 Tq65) Tq65.1 (hw _ (List.mem_of_getElem? (i := 68) rfl)) (hw _ (List.mem_of_getElem? (i := 69) rfl)) (fun _ hZ => notFace_of_selects (args := #[]) (mvT hZ (hw _ (List.mem_of_getElem? (i := 71) rfl)))) (hw _ (List.mem_of_getElem? (i := 71) rfl)) (hw _ (List.mem_of_getElem? (i := 70) rfl)) (hw _ (List.mem_of_getElem? (i := 46) rfl)) (hw _ (List.mem_of_getElem? (i := 72) rfl)) (by decide) rfl rfl (lenOf pd_9 rfl) rfl at_130 rfl (Nat.le_of_ble_eq_true rfl) (Nat.le_of_ble_eq_true rfl) (Nat.le_of_ble_eq_true rfl) (Nat.le_of_ble_eq_true rfl) (fun _ z => nomatch z) (fun _ z => nomatch z) (fun vq76 hq77 Kq78 qq79 => ?_)
      obtain ⟨rfl, rfl⟩ := qq79
      simp only [Option.toList, List.cons_append, List.nil_append]
      refine Rn.aload (pc' := 135) at_133 rfl rfl rfl ?_
      refine Rn.acmp_ne (pc' := 142) (pn := 138) rfl rfl at_135 (by decide) (by decide) rfl (fun cq80 => absurd rfl cq80) (fun cq80 => ?_)
      refine Rn.iconst (pc' := 139) (v := (1 : Int32)) at_138 rfl rfl ?_
      refine Rn.goto (pc' := 143) at_139 (by decide) (by decide) ?_
      refine Rn.retN (t := .boolean) rfl (by simp) at_143 (Nat.le_of_ble_eq_true rfl) (Nat.le_of_ble_eq_true rfl) ?_
      rfl
    ·
      refine Rn.iconst (pc' := 112) (v := (1 : Int32)) at_111 rfl rfl ?_
      refine Rn.goto (pc' := 116) at_112 (by decide) (by decide) ?_
      refine Rn.istore (pc' := 118) (Ls' := #[.val (.int a), .val (.int b), .val (.int c), .val (.int d), .val (.int e), .val (.int f), .val (.int i1), .val (.ref (own_p6 p0 p1 p2 p3 p4 p5 i1)), .val (.ref (own_p4 q0 q1 q2 q3 j1)), .val (.ref aq9), .val (.int (0 : Int32)), .val (.ref aq27), .val (.ref aq48), .val (.int (1 : Int32))]) at_116 rfl rfl ?_
      refine Rn.aload (pc' := 120) at_118 rfl rfl rfl ?_
      refine Rn.callV (pc' := 123) (argsL := []) (a := aq48) (rest := []) (ct_dt Z a0 hw aq48 a (own_p6 p0 p1 p2 p3 p4 p5 i1) (own_p4 q0 q1 q2 q3 j1) d aq27 hq67 Tq65 p0 n0) Tq65.1 (hw _ (List.mem_of_getElem? (i := 61) rfl)) (hw _ (List.mem_of_getElem? (i := 62) rfl)) (fun _ hZ => notFace_of_selects (args := #[]) (mvT hZ (hw _ (List.mem_of_getElem? (i := 64) rfl)))) (hw _ (List.mem_of_getElem? (i := 64) rfl)) (hw _ (List.mem_of_getElem? (i := 63) rfl)) (hw _ (List.mem_of_getElem? (i := 46) rfl)) (hw _ (List.mem_of_getElem? (i := 65) rfl)) (by decide) rfl rfl (lenOf pd_8 rfl) rfl at_120 rfl (Nat.le_of_ble_eq_true rfl) (Nat.le_of_ble_eq_true rfl) (Nat.le_of_ble_eq_true rfl) (Nat.le_of_ble_eq_true rfl) (fun _ z => nomatch z) (fun _ z => nomatch z) (fun vq81 hq82 Kq83 qq84 => ?_)
      obtain ⟨rfl, rfl⟩ := qq84
      simp only [Option.toList, List.cons_append, List.nil_append]
      refine Rn.iload (pc' := 125) at_123 rfl rfl ?_
      refine Rn.icmp_ne (pc' := 142) (pn := 128) at_125 (by decide) (by decide) rfl (fun cq85 => absurd (if_pos (c := (own_p6 p0 p1 p2 p3 p4 p5 i1) ≠ p0) (fun q => cq70 (own_i6 p0 n0 p1 n1 p2 n2 p3 n3 p4 n4 p5 n5 hi1 (Or.inl rfl) q))) cq85) (fun cq85 => ?_)
      refine Rn.aload (pc' := 130) at_128 rfl rfl rfl ?_
      refine Rn.callV (pc' := 133) (argsL := []) (a := aq48) (rest := []) (ct_di Z a0 hw aq48 a (own_p6 p0 p1 p2 p3 p4 p5 i1) (own_p4 q0 q1 q2 q3 j1) d aq27 hq67 Tq65) Tq65.1 (hw _ (List.mem_of_getElem? (i := 68) rfl)) (hw _ (List.mem_of_getElem? (i := 69) rfl)) (fun _ hZ => notFace_of_selects (args := #[]) (mvT hZ (hw _ (List.mem_of_getElem? (i := 71) rfl)))) (hw _ (List.mem_of_getElem? (i := 71) rfl)) (hw _ (List.mem_of_getElem? (i := 70) rfl)) (hw _ (List.mem_of_getElem? (i := 46) rfl)) (hw _ (List.mem_of_getElem? (i := 72) rfl)) (by decide) rfl rfl (lenOf pd_9 rfl) rfl at_130 rfl (Nat.le_of_ble_eq_true rfl) (Nat.le_of_ble_eq_true rfl) (Nat.le_of_ble_eq_true rfl) (Nat.le_of_ble_eq_true rfl) (fun _ z => nomatch z) (fun _ z => nomatch z) (fun vq86 hq87 Kq88 qq89 => ?_)
      obtain ⟨rfl, rfl⟩ := qq89
      simp only [Option.toList, List.cons_append, List.nil_append]
      refine Rn.aload (pc' := 135) at_133 rfl rfl rfl ?_
      refine Rn.acmp_ne (pc' := 142) (pn := 138) rfl rfl at_135 (by decide) (by decide) rfl (fun cq90 => absurd rfl cq90) (fun cq90 => ?_)
      refine Rn.iconst (pc' := 139) (v := (1 : Int32)) at_138 rfl rfl ?_
      refine Rn.goto (pc' := 143) at_139 (by decide) (by decide) ?_
      refine Rn.retN (t := .boolean) rfl (by simp) at_143 (Nat.le_of_ble_eq_true rfl) (Nat.le_of_ble_eq_true rfl) ?_
      rfl
  ·
    refine Rn.iconst (pc' := 62) (v := (1 : Int32)) at_61 rfl rfl ?_
    refine Rn.goto (pc' := 66) at_62 (by decide) (by decide) ?_
    refine Rn.istore (pc' := 68) (Ls' := #[.val (.int a), .val (.int b), .val (.int c), .val (.int d), .val (.int e), .val (.int f), .val (.int i1), .val (.ref (own_p6 p0 p1 p2 p3 p4 p5 i1)), .val (.ref (own_p4 q0 q1 q2 q3 j1)), .val (.ref aq9), .val (.int (1 : Int32)), .unset, .unset, .unset]) at_66 rfl rfl ?_
    refine Rn.iload (pc' := 70) at_68 rfl rfl ?_
    refine Rn.if_eq (pc' := 78) (pn := 73) at_70 (by decide) (by decide) rfl (fun cq91 => absurd cq91 (by decide)) (fun cq91 => ?_)
    refine Rn.ldcO (pc' := 75) (n := 0) hE (own_wS hw) (hw _ (List.mem_of_getElem? (i := 81) rfl)) at_73 (Nat.le_of_ble_eq_true rfl) (Nat.le_of_ble_eq_true rfl) (Nat.le_of_ble_eq_true rfl) (Nat.le_of_ble_eq_true rfl) rfl (fun hq92 aq93 Eq94 => ?_)
    refine Rn.goto (pc' := 87) at_75 (by decide) (by decide) ?_
    refine Rn.astore (pc' := 89) (Ls' := #[.val (.int a), .val (.int b), .val (.int c), .val (.int d), .val (.int e), .val (.int f), .val (.int i1), .val (.ref (own_p6 p0 p1 p2 p3 p4 p5 i1)), .val (.ref (own_p4 q0 q1 q2 q3 j1)), .val (.ref aq9), .val (.int (1 : Int32)), .val (.ref aq93), .unset, .unset]) at_87 rfl rfl rfl ?_
    refine Rn.newO (pc' := 92) (hw _ (List.mem_of_getElem? (i := 44) rfl)) (hw _ (List.mem_of_getElem? (i := 45) rfl)) (hw _ (List.mem_of_getElem? (i := 46) rfl)) at_89 (Nat.le_of_ble_eq_true rfl) (Nat.le_of_ble_eq_true rfl) rfl (fun hq96 aq95 eq97 gq98 Eq99 ⟨Aq100, Dq101, Uq102⟩ => ?_)
    have Fq103 := Aq24.ext Eq94
    have nq104 : aq9 ≠ aq95 := by rw [eq97]; exact Nat.ne_of_lt (Fq103.lt)
    have Fq105 : Fld Z hq96 aq95 "com/example/faultgauge/faultgauge/exec/TestResult" "line" "I" (.int (0 : Int32)) := Dq101 (Or.inr (hw _ (List.mem_of_getElem? (i := 52) rfl))) (ty := .int) (by decide)
    have Fq106 : Fld Z hq96 aq95 "com/example/faultgauge/faultgauge/exec/TestResult" "difference" "Lcom/example/faultgauge/faultgauge/exec/TestResult$Difference;" (.null) := Dq101 (Or.inr (hw _ (List.mem_of_getElem? (i := 54) rfl))) (ty := (.object "com/example/faultgauge/faultgauge/exec/TestResult$Difference")) (by decide)
    have Fq107 : Fld Z hq96 aq95 "com/example/faultgauge/faultgauge/exec/TestResult" "ending" "Lcom/example/faultgauge/faultgauge/exec/Ending;" (.null) := Dq101 (Or.inr (hw _ (List.mem_of_getElem? (i := 56) rfl))) (ty := (.object "com/example/faultgauge/faultgauge/exec/Ending")) (by decide)
    have Fq108 : Fld Z hq96 aq95 "com/example/faultgauge/faultgauge/exec/TestResult" "code" "I" (.int (0 : Int32)) := Dq101 (Or.inr (hw _ (List.mem_of_getElem? (i := 58) rfl))) (ty := .int) (by decide)
    have Fq109 : Fld Z hq96 aq95 "com/example/faultgauge/faultgauge/exec/TestResult" "outputDigest" "Ljava/lang/String;" (.null) := Dq101 (Or.inr (hw _ (List.mem_of_getElem? (i := 60) rfl))) (ty := (.object "java/lang/String")) (by decide)
    refine Rn.dup (pc' := 93) at_92 rfl rfl ?_
    refine Rn.iloadN (pc' := 94) at_93 rfl rfl ?_
    refine Rn.aload (pc' := 96) at_94 rfl rfl rfl ?_
    refine Rn.aload (pc' := 98) at_96 rfl rfl rfl ?_
    refine Rn.iloadN (pc' := 99) at_98 rfl rfl ?_
    refine Rn.aload (pc' := 101) at_99 rfl rfl rfl ?_
    refine Rn.callI (pc' := 104) (argsL := [.int a, .ref (own_p6 p0 p1 p2 p3 p4 p5 i1), .ref (own_p4 q0 q1 q2 q3 j1), .int d, .ref aq93]) (a := aq95) (rest := [.ref aq95]) (ct_tr Z a0 hw aq95 a (own_p6 p0 p1 p2 p3 p4 p5 i1) (own_p4 q0 q1 q2 q3 j1) d aq93 hq96 Aq100 Fq105 Fq106 Fq107 Fq108 Fq109) rfl (hw _ (List.mem_of_getElem? (i := 47) rfl)) (hw _ (List.mem_of_getElem? (i := 48) rfl)) (hw _ (List.mem_of_getElem? (i := 46) rfl)) (hw _ (List.mem_of_getElem? (i := 49) rfl)) (by decide) rfl rfl (lenOf pd_7 rfl) rfl at_101 rfl (Nat.le_of_ble_eq_true rfl) (Nat.le_of_ble_eq_true rfl) (Nat.le_of_ble_eq_true rfl) (Nat.le_of_ble_eq_true rfl) (allS (Or.inr gq98) all0) (allS (Sf.mem (List.mem_of_getElem? (i := 0) rfl)) (all0)) (fun vq111 hq112 Kq113 qq114 => ?_)
    obtain ⟨rfl, Tq110⟩ := qq114
    simp only [Option.toList, List.cons_append, List.nil_append]
    refine Rn.astore (pc' := 106) (Ls' := #[.val (.int a), .val (.int b), .val (.int c), .val (.int d), .val (.int e), .val (.int f), .val (.int i1), .val (.ref (own_p6 p0 p1 p2 p3 p4 p5 i1)), .val (.ref (own_p4 q0 q1 q2 q3 j1)), .val (.ref aq9), .val (.int (1 : Int32)), .val (.ref aq93), .val (.ref aq95), .unset]) at_104 rfl rfl rfl ?_
    refine Rn.iload (pc' := 108) at_106 rfl rfl ?_
    refine Rn.if_eq (pc' := 115) (pn := 111) at_108 (by decide) (by decide) rfl (fun cq115 => ?_) (fun cq115 => ?_)
    ·
      refine Rn.iconst (pc' := 116) (v := (0 : Int32)) at_115 rfl rfl ?_
      refine Rn.istore (pc' := 118) (Ls' := #[.val (.int a), .val (.int b), .val (.int c), .val (.int d), .val (.int e), .val (.int f), .val (.int i1), .val (.ref (own_p6 p0 p1 p2 p3 p4 p5 i1)), .val (.ref (own_p4 q0 q1 q2 q3 j1)), .val (.ref aq9), .val (.int (1 : Int32)), .val (.ref aq93), .val (.ref aq95), .val (.int (0 : Int32))]) at_116 rfl rfl ?_
      refine Rn.aload (pc' := 120) at_118 rfl rfl rfl ?_
      refine Rn.callV (pc' := 123) (argsL := []) (a := aq95) (rest := []) (ct_dt Z a0 hw aq95 a (own_p6 p0 p1 p2 p3 p4 p5 i1) (own_p4 q0 q1 q2 q3 j1) d aq93 hq112 Tq110 p0 n0) Tq110.1 (hw _ (List.mem_of_getElem? (i := 61) rfl)) (hw _ (List.mem_of_getElem? (i := 62) rfl)) (fun _ hZ => notFace_of_selects (args := #[]) (mvT hZ (hw _ (List.mem_of_getElem? (i := 64) rfl)))) (hw _ (List.mem_of_getElem? (i := 64) rfl)) (hw _ (List.mem_of_getElem? (i := 63) rfl)) (hw _ (List.mem_of_getElem? (i := 46) rfl)) (hw _ (List.mem_of_getElem? (i := 65) rfl)) (by decide) rfl rfl (lenOf pd_8 rfl) rfl at_120 rfl (Nat.le_of_ble_eq_true rfl) (Nat.le_of_ble_eq_true rfl) (Nat.le_of_ble_eq_true rfl) (Nat.le_of_ble_eq_true rfl) (fun _ z => nomatch z) (fun _ z => nomatch z) (fun vq116 hq117 Kq118 qq119 => ?_)
      obtain ⟨rfl, rfl⟩ := qq119
      simp only [Option.toList, List.cons_append, List.nil_append]
      refine Rn.iload (pc' := 125) at_123 rfl rfl ?_
      refine Rn.icmp_ne (pc' := 142) (pn := 128) at_125 (by decide) (by decide) rfl (fun cq120 => absurd (if_neg (c := (own_p6 p0 p1 p2 p3 p4 p5 i1) ≠ p0) (fun q => q (congrArg _ cq115))) cq120) (fun cq120 => ?_)
      refine Rn.aload (pc' := 130) at_128 rfl rfl rfl ?_
      refine Rn.callV (pc' := 133) (argsL := []) (a := aq95) (rest := []) (ct_di Z a0 hw aq95 a (own_p6 p0 p1 p2 p3 p4 p5 i1) (own_p4 q0 q1 q2 q3 j1) d aq93 hq112 Tq110) Tq110.1 (hw _ (List.mem_of_getElem? (i := 68) rfl)) (hw _ (List.mem_of_getElem? (i := 69) rfl)) (fun _ hZ => notFace_of_selects (args := #[]) (mvT hZ (hw _ (List.mem_of_getElem? (i := 71) rfl)))) (hw _ (List.mem_of_getElem? (i := 71) rfl)) (hw _ (List.mem_of_getElem? (i := 70) rfl)) (hw _ (List.mem_of_getElem? (i := 46) rfl)) (hw _ (List.mem_of_getElem? (i := 72) rfl)) (by decide) rfl rfl (lenOf pd_9 rfl) rfl at_130 rfl (Nat.le_of_ble_eq_true rfl) (Nat.le_of_ble_eq_true rfl) (Nat.le_of_ble_eq_true rfl) (Nat.le_of_ble_eq_true rfl) (fun _ z => nomatch z) (fun _ z => nomatch z) (fun vq121 hq122 Kq123 qq124 => ?_)
      obtain ⟨rfl, rfl⟩ := qq124
      simp only [Option.toList, List.cons_append, List.nil_append]
      refine Rn.aload (pc' := 135) at_133 rfl rfl rfl ?_
      refine Rn.acmp_ne (pc' := 142) (pn := 138) rfl rfl at_135 (by decide) (by decide) rfl (fun cq125 => absurd rfl cq125) (fun cq125 => ?_)
      refine Rn.iconst (pc' := 139) (v := (1 : Int32)) at_138 rfl rfl ?_
      refine Rn.goto (pc' := 143) at_139 (by decide) (by decide) ?_
      refine Rn.retN (t := .boolean) rfl (by simp) at_143 (Nat.le_of_ble_eq_true rfl) (Nat.le_of_ble_eq_true rfl) ?_
      rfl
    ·
      refine Rn.iconst (pc' := 112) (v := (1 : Int32)) at_111 rfl rfl ?_
      refine Rn.goto (pc' := 116) at_112 (by decide) (by decide) ?_
      refine Rn.istore (pc' := 118) (Ls' := #[.val (.int a), .val (.int b), .val (.int c), .val (.int d), .val (.int e), .val (.int f), .val (.int i1), .val (.ref (own_p6 p0 p1 p2 p3 p4 p5 i1)), .val (.ref (own_p4 q0 q1 q2 q3 j1)), .val (.ref aq9), .val (.int (1 : Int32)), .val (.ref aq93), .val (.ref aq95), .val (.int (1 : Int32))]) at_116 rfl rfl ?_
      refine Rn.aload (pc' := 120) at_118 rfl rfl rfl ?_
      refine Rn.callV (pc' := 123) (argsL := []) (a := aq95) (rest := []) (ct_dt Z a0 hw aq95 a (own_p6 p0 p1 p2 p3 p4 p5 i1) (own_p4 q0 q1 q2 q3 j1) d aq93 hq112 Tq110 p0 n0) Tq110.1 (hw _ (List.mem_of_getElem? (i := 61) rfl)) (hw _ (List.mem_of_getElem? (i := 62) rfl)) (fun _ hZ => notFace_of_selects (args := #[]) (mvT hZ (hw _ (List.mem_of_getElem? (i := 64) rfl)))) (hw _ (List.mem_of_getElem? (i := 64) rfl)) (hw _ (List.mem_of_getElem? (i := 63) rfl)) (hw _ (List.mem_of_getElem? (i := 46) rfl)) (hw _ (List.mem_of_getElem? (i := 65) rfl)) (by decide) rfl rfl (lenOf pd_8 rfl) rfl at_120 rfl (Nat.le_of_ble_eq_true rfl) (Nat.le_of_ble_eq_true rfl) (Nat.le_of_ble_eq_true rfl) (Nat.le_of_ble_eq_true rfl) (fun _ z => nomatch z) (fun _ z => nomatch z) (fun vq126 hq127 Kq128 qq129 => ?_)
      obtain ⟨rfl, rfl⟩ := qq129
      simp only [Option.toList, List.cons_append, List.nil_append]
      refine Rn.iload (pc' := 125) at_123 rfl rfl ?_
      refine Rn.icmp_ne (pc' := 142) (pn := 128) at_125 (by decide) (by decide) rfl (fun cq130 => absurd (if_pos (c := (own_p6 p0 p1 p2 p3 p4 p5 i1) ≠ p0) (fun q => cq115 (own_i6 p0 n0 p1 n1 p2 n2 p3 n3 p4 n4 p5 n5 hi1 (Or.inl rfl) q))) cq130) (fun cq130 => ?_)
      refine Rn.aload (pc' := 130) at_128 rfl rfl rfl ?_
      refine Rn.callV (pc' := 133) (argsL := []) (a := aq95) (rest := []) (ct_di Z a0 hw aq95 a (own_p6 p0 p1 p2 p3 p4 p5 i1) (own_p4 q0 q1 q2 q3 j1) d aq93 hq112 Tq110) Tq110.1 (hw _ (List.mem_of_getElem? (i := 68) rfl)) (hw _ (List.mem_of_getElem? (i := 69) rfl)) (fun _ hZ => notFace_of_selects (args := #[]) (mvT hZ (hw _ (List.mem_of_getElem? (i := 71) rfl)))) (hw _ (List.mem_of_getElem? (i := 71) rfl)) (hw _ (List.mem_of_getElem? (i := 70) rfl)) (hw _ (List.mem_of_getElem? (i := 46) rfl)) (hw _ (List.mem_of_getElem? (i := 72) rfl)) (by decide) rfl rfl (lenOf pd_9 rfl) rfl at_130 rfl (Nat.le_of_ble_eq_true rfl) (Nat.le_of_ble_eq_true rfl) (Nat.le_of_ble_eq_true rfl) (Nat.le_of_ble_eq_true rfl) (fun _ z => nomatch z) (fun _ z => nomatch z) (fun vq131 hq132 Kq133 qq134 => ?_)
      obtain ⟨rfl, rfl⟩ := qq134
      simp only [Option.toList, List.cons_append, List.nil_append]
      refine Rn.aload (pc' := 135) at_133 rfl rfl rfl ?_
      refine Rn.acmp_ne (pc' := 142) (pn := 138) rfl rfl at_135 (by decide) (by decide) rfl (fun cq135 => absurd rfl cq135) (fun cq135 => ?_)
      refine Rn.iconst (pc' := 139) (v := (1 : Int32)) at_138 rfl rfl ?_
      refine Rn.goto (pc' := 143) at_139 (by decide) (by decide) ?_
      refine Rn.retN (t := .boolean) rfl (by simp) at_143 (Nat.le_of_ble_eq_true rfl) (Nat.le_of_ble_eq_true rfl) ?_
      rfl
set_option maxRecDepth 65536 in
set_option maxHeartbeats 40000000 in
theorem comes_1 {Post : Tables → Env → Array Value → State → Outcome → State → Prop} (hpost : ∀ tb e args s v u, (limb_1_1.after args s (.returned v) u = true ∧ limb_1_2.after args s (.returned v) u = true ∧ True) → D.FramedW s (.returned v) u (Jvm.fieldLocs frame_1_writes args s ++ Jvm.arrayLocs frame_1_arrays args s ++ Jvm.staticLocs frame_1_statics s) 24 1152 → Post tb e args s (.returned v) u) :
    ArmFor flags0 classFile x code maxLocals ret World_1 tables_1 room_1 Calls_1 rest_1 Pre_1 Post := by
  intro l hfl _ _ p e ha hc hk s m args below hf hA hF happ hP
  obtain ⟨hcalls, hrest, hpre⟩ := hP
  obtain ⟨-, -, -, hnamed, -, -, -, hat⟩ := (Spec.applies_iff hf).mp happ
  obtain ⟨hg, hn⟩ := and_e (Cond.before_iff.mp (show (Jvm.Cond.and given_1 narrow_1).before args s = true from hpre))
  obtain ⟨hn1, hg1⟩ := and_e hg
  obtain ⟨w0, w1, w2, w3, w4, w5, rfl⟩ : ∃ w0 w1 w2 w3 w4 w5 : Value, args = #[w0, w1, w2, w3, w4, w5] := by
    have hs : args.size = 6 := by simpa [Cond.value, given_1] using hn1
    obtain ⟨L⟩ := args
    match L, hs with
    | [w0, w1, w2, w3, w4, w5], _ => exact ⟨w0, w1, w2, w3, w4, w5, rfl⟩
  have hw := fun d (hd : d ∈ tables_1) => atoms_spec (ws := Jvm.Cond.code x code maxLocals ret :: tables_1) hat d (List.mem_cons_of_mem _ hd)
  have hfit : Fit s := fun {y c} hc i hi => by
    obtain ⟨ha, rfl⟩ := Array.getElem?_eq_some_iff.mp hc
    have q := List.all_eq_true.mp ((Array.all_eq_true_iff_forall_mem.mp hF) _ (Array.getElem_mem ha)) i (List.mem_range.mpr hi)
    simpa [Array.getElem?_eq_getElem hi] using q
  obtain ⟨ka0, kb0⟩ := and_e hg1
  obtain ⟨x0, e0⟩ := is_v ka0
  obtain rfl : w0 = (.int x0) := Option.some.inj e0
  obtain ⟨ka1, kb1⟩ := and_e kb0
  obtain ⟨x1, e1⟩ := is_v ka1
  obtain rfl : w1 = (.int x1) := Option.some.inj e1
  obtain ⟨ka2, kb2⟩ := and_e kb1
  obtain ⟨x2, e2⟩ := is_v ka2
  obtain rfl : w2 = (.int x2) := Option.some.inj e2
  obtain ⟨ka3, kb3⟩ := and_e kb2
  obtain ⟨x3, e3⟩ := is_v ka3
  obtain rfl : w3 = (.int x3) := Option.some.inj e3
  obtain ⟨ka4, kb4⟩ := and_e kb3
  obtain ⟨x4, e4⟩ := is_v ka4
  obtain rfl : w4 = (.int x4) := Option.some.inj e4
  obtain ⟨x5, e5⟩ := is_v kb4
  obtain rfl : w5 = (.int x5) := Option.some.inj e5
  obtain ⟨hsets, -⟩ := atoms_of _ (rest_1_c_eq ▸ (show rest_1_c.before _ s = true from hrest))
  have n3 := not_v (Cond.before_iff.mp (hsets _ (List.mem_of_getElem? (i := 2) rfl)))
  obtain ⟨z, ez⟩ := is_v (Cond.before_iff.mp (hsets _ (List.mem_of_getElem? (i := 1) rfl)))
  have SS : Sta s s.heap "java/lang/String" "COMPACT_STRINGS" "Z" (.int z) := Sta.start ez (Or.inl (hsets _ (List.mem_of_getElem? (i := 0) rfl)))
  have hz : ¬ (z = (0 : Int32)) := gotF (Cond.eq_ints ez (Term.int_eval (0))) n3
  obtain ⟨pp0, rr0⟩ := and_e hn
  obtain ⟨pp1, rr1⟩ := and_e rr0
  obtain ⟨pp2, rr2⟩ := and_e rr1
  obtain ⟨pp3, rr3⟩ := and_e rr2
  obtain ⟨pp4, rr4⟩ := and_e rr3
  obtain ⟨pp5, rr5⟩ := and_e rr4
  obtain ⟨pp6, rr6⟩ := and_e rr5
  obtain ⟨pp7, rr7⟩ := and_e rr6
  obtain ⟨pp8, rr8⟩ := and_e rr7
  obtain ⟨pp9, rr9⟩ := and_e rr8
  obtain ⟨pp10, rr10⟩ := and_e rr9
  obtain ⟨pp11, rr11⟩ := and_e rr10
  obtain ⟨pp12, rr12⟩ := and_e rr11
  obtain ⟨pp13, rr13⟩ := and_e rr12
  obtain ⟨pp14, rr14⟩ := and_e rr13
  obtain ⟨p0, e_p0⟩ := exa_v pp2
  have n0 : own_En s "com/example/faultgauge/faultgauge/exec/TestResult$Difference" "Lcom/example/faultgauge/faultgauge/exec/TestResult$Difference;" "SAME" 0 p0 := ⟨Sta.start e_p0 (Or.inr ⟨(hw _ (List.mem_of_getElem? (i := 6) rfl)), (hw _ (List.mem_of_getElem? (i := 67) rfl))⟩), Exa.start e_p0 pp2, Fld.start ((fld_at e_p0).symm.trans (eqv_i rfl pp4))⟩
  obtain ⟨p1, e_p1⟩ := exa_v pp14
  have n1 : own_En s "com/example/faultgauge/faultgauge/exec/TestResult$Difference" "Lcom/example/faultgauge/faultgauge/exec/TestResult$Difference;" "OUTPUT" 1 p1 := ⟨Sta.start e_p1 (Or.inr ⟨(hw _ (List.mem_of_getElem? (i := 6) rfl)), (hw _ (List.mem_of_getElem? (i := 90) rfl))⟩), Exa.start e_p1 pp14, Fld.start ((fld_at e_p1).symm.trans (eqv_i rfl rr14))⟩
  obtain ⟨p2, e_p2⟩ := exa_v pp11
  have n2 : own_En s "com/example/faultgauge/faultgauge/exec/TestResult$Difference" "Lcom/example/faultgauge/faultgauge/exec/TestResult$Difference;" "EXIT_STATUS" 2 p2 := ⟨Sta.start e_p2 (Or.inr ⟨(hw _ (List.mem_of_getElem? (i := 6) rfl)), (hw _ (List.mem_of_getElem? (i := 85) rfl))⟩), Exa.start e_p2 pp11, Fld.start ((fld_at e_p2).symm.trans (eqv_i rfl pp13))⟩
  obtain ⟨p3, e_p3⟩ := exa_v pp0
  have n3 : own_En s "com/example/faultgauge/faultgauge/exec/TestResult$Difference" "Lcom/example/faultgauge/faultgauge/exec/TestResult$Difference;" "SIGNAL" 3 p3 := ⟨Sta.start e_p3 (Or.inr ⟨(hw _ (List.mem_of_getElem? (i := 6) rfl)), (hw _ (List.mem_of_getElem? (i := 7) rfl))⟩), Exa.start e_p3 pp0, Fld.start ((fld_at e_p3).symm.trans (eqv_i rfl pp3))⟩
  obtain ⟨p4, e_p4⟩ := exa_v pp5
  have n4 : own_En s "com/example/faultgauge/faultgauge/exec/TestResult$Difference" "Lcom/example/faultgauge/faultgauge/exec/TestResult$Difference;" "TIME_LIMIT" 4 p4 := ⟨Sta.start e_p4 (Or.inr ⟨(hw _ (List.mem_of_getElem? (i := 6) rfl)), (hw _ (List.mem_of_getElem? (i := 74) rfl))⟩), Exa.start e_p4 pp5, Fld.start ((fld_at e_p4).symm.trans (eqv_i rfl pp7))⟩
  obtain ⟨p5, e_p5⟩ := exa_v pp8
  have n5 : own_En s "com/example/faultgauge/faultgauge/exec/TestResult$Difference" "Lcom/example/faultgauge/faultgauge/exec/TestResult$Difference;" "OUTPUT_LIMIT" 5 p5 := ⟨Sta.start e_p5 (Or.inr ⟨(hw _ (List.mem_of_getElem? (i := 6) rfl)), (hw _ (List.mem_of_getElem? (i := 78) rfl))⟩), Exa.start e_p5 pp8, Fld.start ((fld_at e_p5).symm.trans (eqv_i rfl pp10))⟩
  obtain ⟨q0, e_q0⟩ := exa_v pp12
  have m0 : own_Es s "com/example/faultgauge/faultgauge/exec/Ending" "Lcom/example/faultgauge/faultgauge/exec/Ending;" "EXIT" q0 := Sta.start e_q0 (Or.inr ⟨(hw _ (List.mem_of_getElem? (i := 12) rfl)), (hw _ (List.mem_of_getElem? (i := 87) rfl))⟩)
  obtain ⟨q1, e_q1⟩ := exa_v pp9
  have m1 : own_Es s "com/example/faultgauge/faultgauge/exec/Ending" "Lcom/example/faultgauge/faultgauge/exec/Ending;" "SIGNAL" q1 := Sta.start e_q1 (Or.inr ⟨(hw _ (List.mem_of_getElem? (i := 12) rfl)), (hw _ (List.mem_of_getElem? (i := 80) rfl))⟩)
  obtain ⟨q2, e_q2⟩ := exa_v pp1
  have m2 : own_Es s "com/example/faultgauge/faultgauge/exec/Ending" "Lcom/example/faultgauge/faultgauge/exec/Ending;" "TIMEOUT" q2 := Sta.start e_q2 (Or.inr ⟨(hw _ (List.mem_of_getElem? (i := 12) rfl)), (hw _ (List.mem_of_getElem? (i := 13) rfl))⟩)
  obtain ⟨q3, e_q3⟩ := exa_v pp6
  have m3 : own_Es s "com/example/faultgauge/faultgauge/exec/Ending" "Lcom/example/faultgauge/faultgauge/exec/Ending;" "OUTPUT_LIMIT" q3 := Sta.start e_q3 (Or.inr ⟨(hw _ (List.mem_of_getElem? (i := 12) rfl)), (hw _ (List.mem_of_getElem? (i := 76) rfl))⟩)
  have hE : EW s #[] [] := EW.nil
  have M := metW_of (ws := []) (os := []) (wsT := tables_1) (as := #[(.int x0), (.int x1), (.int x2), (.int x3), (.int x4), (.int x5)]) (Ls := #[.val (.int x0), .val (.int x1), .val (.int x2), .val (.int x3), .val (.int x4), .val (.int x5), .unset, .unset, .unset, .unset, .unset, .unset, .unset, .unset]) (d := "(IIIIII)Z") pn_0 (by intro m; first | (simp [entryFrame, mkF, argsToLocals, Value.category, maxLocals]; done) | rfl) ⟨Nat.le_refl _, fun _ _ q => q⟩ (fun _ z => nomatch z) ⟨_, hE⟩ l (own_law s _ hw hE x0 x1 x2 x3 x4 x5 _ _ _ _ rfl (own_r6 _) rfl rfl (by rw [i2c_mask]; exact own_b _) rfl (by rw [i2c_mask]; exact own_b _) z hz SS p0 n0 p1 n1 p2 n2 p3 n3 p4 n4 p5 n5 q0 m0 q1 m1 q2 m2 q3 m3)
  obtain ⟨n, o, h1, h2, h3, v, L, rfl, ⟨N, -, rfl⟩, -, hq⟩ := M p e ha hc hk s m _ below hf ((Spec.applies_iff_loose hf).mp happ).1 ⟨rfl, State.Warmed39.refl s, rfl, (fun _ z => nomatch z), fun _ z => nomatch z⟩ trivial
  refine ⟨n, _, h1, h2, h3, hpost _ _ _ _ _ _ ⟨Cond.after_iff.mpr rfl, Cond.after_iff.mpr (eq_i res_at (Term.int_eval (1)) rfl), trivial⟩ ⟨hq.1, hq.2.1, hq.2.2.1, (hq.2.2.2.sift fun y hy => Or.inr (N y hy)).mono (by decide) (by decide)⟩⟩
theorem main_1_1 : Claimed_1_1 := comes_1 fun _ _ _ _ _ _ h hF => ⟨h.1, hF⟩
theorem main_1_2 : Claimed_1_2 := comes_1 fun _ _ _ _ _ _ h hF => ⟨h.2.1, hF⟩
end Jvm.Pilot.@@N@@
namespace Jvm.Pilot.@@N@@
open Jvm Jvm.ClassFile Sem Op Lib Jvm.Free Jvm.Stand Jvm.Pilot.@@N@@.Jvm.D
/-! MADE BY PROGRAM (witnessworld.py) out of the Statement's table words and the real class files: 23 classes; the members and pool entries that the words name. The judged class is class 1, her method 3. -/
namespace start1
open Jvm.ClassFile
def u (s : String) : CpInfo := .utf8 (stringToUtf16 s)
/-- a pool by its gaps: so many unusable entries, then the entry; so many at the end -/
def gap : Nat → List CpInfo → List CpInfo
  | 0, r => r
  | n + 1, r => .unusable :: gap n r
def poolList (es : List (Nat × CpInfo)) (last : Nat) : List CpInfo := es.foldr (fun e r => gap e.1 (e.2 :: r)) (gap last [])
def pool (es : List (Nat × CpInfo)) (last : Nat) : Array CpInfo := ⟨poolList es last⟩
def fileOf (pool : Array CpInfo) (this : Nat) (attrs : Array Attribute := #[]) (ms : Array MethodInfo := #[]) (fl : Nat := 33) (sup : Nat := 0) (ifs : Array Nat := #[]) (fds : Array FieldInfo := #[]) : ClassFile where
  minorVersion := 0
  majorVersion := 65
  constantPool := pool
  accessFlags := fl
  thisClass := this
  superClass := sup
  interfaces := ifs
  fields := fds
  methods := ms
  attributes := attrs
def plain (name : String) (sup : Option ClassId) : Class where
  name := name
  kind := .ordinary
  loader := none
  accessFlags := 33
  super := sup
  interfaces := #[]
  cf := none
  fields := #[]
  methods := #[]
  instanceTypes := #[]
  staticTypes := #[]
  resolved := #[]
  callSites := []
  init := .initialized
  statics := none
  mirror := none

def pool0 : Array CpInfo := pool [(5, u "<init>"), (0, u "()V"), (1, .class_ 10), (1, u "java/lang/Object")] 113

def k0c0 : Code := { maxStack := 0, maxLocals := 1, code := object_method_1_code, exceptionTable := #[], attributes := #[] }
def k0m0 : Method := { name := "<init>", desc := "()V", sig := { parameters := [], returnType := none }, accessFlags := 1, code := some k0c0 }
/-- java/lang/Object -/
def k0 : Class := { plain "java/lang/Object" none with
  accessFlags := 33
  interfaces := #[]
  cf := some (fileOf pool0 8 #[] #[{ accessFlags := 1, nameIndex := 5, descriptorIndex := 6, attributes := #[] }] 33 0 #[] #[])
  fields := #[]
  methods := #[k0m0]
  instanceTypes := #[]
  staticTypes := #[]
  resolved := Array.replicate 124 none
  statics := none }

def pool1 : Array CpInfo := pool [(2, .class_ 4), (1, u "java/lang/Object"), (0, u "<init>"), (0, u "()V"), (0, .fieldref 8 9), (0, .class_ 10), (0, .nameAndType 11 12), (0, u "com/example/faultgauge/faultgauge/exec/TestResult$Difference"), (0, u "SAME"), (0, u "Lcom/example/faultgauge/faultgauge/exec/TestResult$Difference;"), (0, .fieldref 8 14), (0, .nameAndType 15 12), (0, u "OUTPUT"), (0, .fieldref 8 17), (0, .nameAndType 18 12), (0, u "EXIT_STATUS"), (0, .fieldref 8 20), (0, .nameAndType 21 12), (0, u "SIGNAL"), (0, .fieldref 8 23), (0, .nameAndType 24 12), (0, u "TIME_LIMIT"), (0, .fieldref 8 26), (0, .nameAndType 27 12), (0, u "OUTPUT_LIMIT"), (0, .fieldref 29 30), (0, .class_ 31), (0, .nameAndType 32 33), (0, u "com/example/faultgauge/faultgauge/exec/Ending"), (0, u "EXIT"), (0, u "Lcom/example/faultgauge/faultgauge/exec/Ending;"), (0, .fieldref 29 35), (0, .nameAndType 21 33), (0, .fieldref 29 37), (0, .nameAndType 38 33), (0, u "TIMEOUT"), (0, .fieldref 29 40), (0, .nameAndType 27 33), (0, .integer 2147483647), (0, .methodref 43 44), (0, .class_ 45), (0, .nameAndType 46 47), (0, u "com/example/faultgauge/faultgauge/exec/TestResultDetectsPinLaw"), (0, u "difference"), (0, u "(I)Lcom/example/faultgauge/faultgauge/exec/TestResult$Difference;"), (0, .methodref 43 49), (0, .nameAndType 50 51), (0, u "ending"), (0, u "(I)Lcom/example/faultgauge/faultgauge/exec/Ending;"), (0, .string 53), (0, u ""), (0, .class_ 55), (0, u "java/lang/String"), (0, .methodref 54 57), (0, .nameAndType 5 58), (0, u "([C)V"), (0, .class_ 60), (0, u "com/example/faultgauge/faultgauge/exec/TestResult"), (0, .methodref 59 62), (0, .nameAndType 5 63), (0, u "(ILcom/example/faultgauge/faultgauge/exec/TestResult$Difference;Lcom/example/faultgauge/faultgauge/exec/Ending;ILjava/lang/String;)V"), (0, .methodref 59 65), (0, .nameAndType 66 67), (0, u "detects"), (0, u "()Z"), (0, .methodref 59 69), (0, .nameAndType 46 70), (0, u "()Lcom/example/faultgauge/faultgauge/exec/TestResult$Difference;"), (3, u "law"), (0, u "(IIIIII)Z")] 6

def k1m0 : Method := { name := "<init>", desc := "()V", sig := { parameters := [], returnType := none }, accessFlags := 1, code := none }
def k1c1 : Code := { maxStack := 2, maxLocals := 1, code := method_2_code, exceptionTable := #[], attributes := #[] }
def k1m1 : Method := { name := "difference", desc := "(I)Lcom/example/faultgauge/faultgauge/exec/TestResult$Difference;", sig := { parameters := [.int], returnType := some (.object "com/example/faultgauge/faultgauge/exec/TestResult$Difference") }, accessFlags := 10, code := some k1c1 }
def k1c2 : Code := { maxStack := 2, maxLocals := 1, code := method_3_code, exceptionTable := #[], attributes := #[] }
def k1m2 : Method := { name := "ending", desc := "(I)Lcom/example/faultgauge/faultgauge/exec/Ending;", sig := { parameters := [.int], returnType := some (.object "com/example/faultgauge/faultgauge/exec/Ending") }, accessFlags := 10, code := some k1c2 }
def k1c3 : Code := { maxStack := 7, maxLocals := 14, code := code, exceptionTable := #[], attributes := #[] }
def k1m3 : Method := { name := "law", desc := "(IIIIII)Z", sig := { parameters := [.int, .int, .int, .int, .int, .int], returnType := some .boolean }, accessFlags := 9, code := some k1c3 }
/-- com/example/faultgauge/faultgauge/exec/TestResultDetectsPinLaw -/
def k1 : Class := { plain "com/example/faultgauge/faultgauge/exec/TestResultDetectsPinLaw" (some 0) with
  accessFlags := 49
  interfaces := #[]
  cf := some (fileOf pool1 43 #[] #[{ accessFlags := 1, nameIndex := 5, descriptorIndex := 6, attributes := #[] }, { accessFlags := 10, nameIndex := 46, descriptorIndex := 47, attributes := #[] }, { accessFlags := 10, nameIndex := 50, descriptorIndex := 51, attributes := #[] }, { accessFlags := 9, nameIndex := 74, descriptorIndex := 75, attributes := #[] }] 49 2 #[] #[])
  fields := #[]
  methods := #[k1m0, k1m1, k1m2, k1m3]
  instanceTypes := #[]
  staticTypes := #[]
  resolved := Array.replicate 82 none
  statics := none }

def pool2 : Array CpInfo := pool [(1, .class_ 2), (0, u "java/lang/constant/Constable"), (0, .class_ 4), (0, u "java/lang/Object")] 6

/-- java/lang/constant/Constable -/
def k2 : Class := { plain "java/lang/constant/Constable" (some 0) with
  accessFlags := 1537
  interfaces := #[]
  cf := some (fileOf pool2 1 #[] #[] 1537 3 #[] #[])
  fields := #[]
  methods := #[]
  instanceTypes := #[]
  staticTypes := #[]
  resolved := Array.replicate 11 none
  statics := none }

def pool3 : Array CpInfo := pool [(1, .class_ 2), (0, u "java/lang/Comparable"), (0, .class_ 4), (0, u "java/lang/Object")] 7

/-- java/lang/Comparable -/
def k3 : Class := { plain "java/lang/Comparable" (some 0) with
  accessFlags := 1537
  interfaces := #[]
  cf := some (fileOf pool3 1 #[] #[] 1537 3 #[] #[])
  fields := #[]
  methods := #[]
  instanceTypes := #[]
  staticTypes := #[]
  resolved := Array.replicate 12 none
  statics := none }

def pool4 : Array CpInfo := pool [(1, .class_ 2), (0, u "java/io/Serializable"), (0, .class_ 4), (0, u "java/lang/Object")] 2

/-- java/io/Serializable -/
def k4 : Class := { plain "java/io/Serializable" (some 0) with
  accessFlags := 1537
  interfaces := #[]
  cf := some (fileOf pool4 1 #[] #[] 1537 3 #[] #[])
  fields := #[]
  methods := #[]
  instanceTypes := #[]
  staticTypes := #[]
  resolved := Array.replicate 7 none
  statics := none }

def pool5 : Array CpInfo := pool [(2, .class_ 4), (1, u "java/lang/Enum"), (0, u "name"), (0, u "Ljava/lang/String;"), (2, u "ordinal"), (0, u "I"), (1, .class_ 14), (1, u "java/lang/Object"), (4, u "hash"), (86, .class_ 108), (1, u "java/lang/Enum$EnumDesc"), (2, .class_ 112), (0, u "java/lang/constant/Constable"), (0, .class_ 114), (0, u "java/lang/Comparable"), (0, .class_ 116), (0, u "java/io/Serializable")] 87

/-- java/lang/Enum -/
def k5 : Class := { plain "java/lang/Enum" (some 0) with
  accessFlags := 1057
  interfaces := #[2, 3, 4]
  cf := some (fileOf pool5 2 #[.nestMembers #[106]] #[] 1057 12 #[111, 113, 115] #[{ accessFlags := 18, nameIndex := 5, descriptorIndex := 6, attributes := #[] }, { accessFlags := 18, nameIndex := 9, descriptorIndex := 10, attributes := #[] }, { accessFlags := 2, nameIndex := 19, descriptorIndex := 10, attributes := #[] }])
  fields := #[{ name := "name", type := (.object "java/lang/String"), accessFlags := 18, slot := 0, constantValue := 0 }, { name := "ordinal", type := .int, accessFlags := 18, slot := 1, constantValue := 0 }, { name := "hash", type := .int, accessFlags := 2, slot := 2, constantValue := 0 }]
  methods := #[]
  instanceTypes := #[(.object "java/lang/String"), .int, .int]
  staticTypes := #[]
  resolved := Array.replicate 204 none
  statics := none }

def pool6 : Array CpInfo := pool [(1, .class_ 2), (0, u "com/example/faultgauge/faultgauge/exec/TestResult$Difference"), (2, u "SAME"), (0, u "Lcom/example/faultgauge/faultgauge/exec/TestResult$Difference;"), (2, u "OUTPUT"), (2, u "EXIT_STATUS"), (2, u "SIGNAL"), (2, u "TIME_LIMIT"), (2, u "OUTPUT_LIMIT"), (2, u "$VALUES"), (0, u "[Lcom/example/faultgauge/faultgauge/exec/TestResult$Difference;"), (6, .class_ 34), (1, u "java/lang/Enum"), (29, .class_ 65), (0, u "com/example/faultgauge/faultgauge/exec/TestResult")] 2

/-- com/example/faultgauge/faultgauge/exec/TestResult$Difference -/
def k6 : Class := { plain "com/example/faultgauge/faultgauge/exec/TestResult$Difference" (some 5) with
  accessFlags := 16433
  interfaces := #[]
  cf := some (fileOf pool6 1 #[.nestHost 64] #[] 16433 32 #[] #[{ accessFlags := 16409, nameIndex := 5, descriptorIndex := 6, attributes := #[] }, { accessFlags := 16409, nameIndex := 9, descriptorIndex := 6, attributes := #[] }, { accessFlags := 16409, nameIndex := 12, descriptorIndex := 6, attributes := #[] }, { accessFlags := 16409, nameIndex := 15, descriptorIndex := 6, attributes := #[] }, { accessFlags := 16409, nameIndex := 18, descriptorIndex := 6, attributes := #[] }, { accessFlags := 16409, nameIndex := 21, descriptorIndex := 6, attributes := #[] }, { accessFlags := 4122, nameIndex := 24, descriptorIndex := 25, attributes := #[] }])
  fields := #[{ name := "SAME", type := (.object "com/example/faultgauge/faultgauge/exec/TestResult$Difference"), accessFlags := 16409, slot := 0, constantValue := 0 }, { name := "OUTPUT", type := (.object "com/example/faultgauge/faultgauge/exec/TestResult$Difference"), accessFlags := 16409, slot := 1, constantValue := 0 }, { name := "EXIT_STATUS", type := (.object "com/example/faultgauge/faultgauge/exec/TestResult$Difference"), accessFlags := 16409, slot := 2, constantValue := 0 }, { name := "SIGNAL", type := (.object "com/example/faultgauge/faultgauge/exec/TestResult$Difference"), accessFlags := 16409, slot := 3, constantValue := 0 }, { name := "TIME_LIMIT", type := (.object "com/example/faultgauge/faultgauge/exec/TestResult$Difference"), accessFlags := 16409, slot := 4, constantValue := 0 }, { name := "OUTPUT_LIMIT", type := (.object "com/example/faultgauge/faultgauge/exec/TestResult$Difference"), accessFlags := 16409, slot := 5, constantValue := 0 }, { name := "$VALUES", type := (.array (.object "com/example/faultgauge/faultgauge/exec/TestResult$Difference")), accessFlags := 4122, slot := 6, constantValue := 0 }]
  methods := #[]
  instanceTypes := #[(.object "java/lang/String"), .int, .int]
  staticTypes := #[(.object "com/example/faultgauge/faultgauge/exec/TestResult$Difference"), (.object "com/example/faultgauge/faultgauge/exec/TestResult$Difference"), (.object "com/example/faultgauge/faultgauge/exec/TestResult$Difference"), (.object "com/example/faultgauge/faultgauge/exec/TestResult$Difference"), (.object "com/example/faultgauge/faultgauge/exec/TestResult$Difference"), (.object "com/example/faultgauge/faultgauge/exec/TestResult$Difference"), (.array (.object "com/example/faultgauge/faultgauge/exec/TestResult$Difference"))]
  resolved := Array.replicate 68 none
  statics := some 0 }

def pool7 : Array CpInfo := pool [(1, .class_ 2), (0, u "com/example/faultgauge/faultgauge/exec/Ending"), (2, u "EXIT"), (0, u "Lcom/example/faultgauge/faultgauge/exec/Ending;"), (2, u "SIGNAL"), (2, u "TIMEOUT"), (2, u "OUTPUT_LIMIT"), (2, u "$VALUES"), (0, u "[Lcom/example/faultgauge/faultgauge/exec/Ending;"), (6, .class_ 28), (1, u "java/lang/Enum")] 47

/-- com/example/faultgauge/faultgauge/exec/Ending -/
def k7 : Class := { plain "com/example/faultgauge/faultgauge/exec/Ending" (some 5) with
  accessFlags := 16433
  interfaces := #[]
  cf := some (fileOf pool7 1 #[] #[] 16433 26 #[] #[{ accessFlags := 16409, nameIndex := 5, descriptorIndex := 6, attributes := #[] }, { accessFlags := 16409, nameIndex := 9, descriptorIndex := 6, attributes := #[] }, { accessFlags := 16409, nameIndex := 12, descriptorIndex := 6, attributes := #[] }, { accessFlags := 16409, nameIndex := 15, descriptorIndex := 6, attributes := #[] }, { accessFlags := 4122, nameIndex := 18, descriptorIndex := 19, attributes := #[] }])
  fields := #[{ name := "EXIT", type := (.object "com/example/faultgauge/faultgauge/exec/Ending"), accessFlags := 16409, slot := 0, constantValue := 0 }, { name := "SIGNAL", type := (.object "com/example/faultgauge/faultgauge/exec/Ending"), accessFlags := 16409, slot := 1, constantValue := 0 }, { name := "TIMEOUT", type := (.object "com/example/faultgauge/faultgauge/exec/Ending"), accessFlags := 16409, slot := 2, constantValue := 0 }, { name := "OUTPUT_LIMIT", type := (.object "com/example/faultgauge/faultgauge/exec/Ending"), accessFlags := 16409, slot := 3, constantValue := 0 }, { name := "$VALUES", type := (.array (.object "com/example/faultgauge/faultgauge/exec/Ending")), accessFlags := 4122, slot := 4, constantValue := 0 }]
  methods := #[]
  instanceTypes := #[(.object "java/lang/String"), .int, .int]
  staticTypes := #[(.object "com/example/faultgauge/faultgauge/exec/Ending"), (.object "com/example/faultgauge/faultgauge/exec/Ending"), (.object "com/example/faultgauge/faultgauge/exec/Ending"), (.object "com/example/faultgauge/faultgauge/exec/Ending"), (.array (.object "com/example/faultgauge/faultgauge/exec/Ending"))]
  resolved := Array.replicate 76 none
  statics := some 1 }

def pool8 : Array CpInfo := pool [(2, .class_ 4), (1, u "java/lang/CharSequence"), (42, .class_ 48), (0, u "java/lang/CharSequence$1CodePointIterator"), (10, .class_ 60), (0, u "java/lang/CharSequence$1CharIterator"), (5, .class_ 67), (0, u "java/lang/Object")] 63

/-- java/lang/CharSequence -/
def k8 : Class := { plain "java/lang/CharSequence" (some 0) with
  accessFlags := 1537
  interfaces := #[]
  cf := some (fileOf pool8 2 #[.nestMembers #[47, 59]] #[] 1537 66 #[] #[])
  fields := #[]
  methods := #[]
  instanceTypes := #[]
  staticTypes := #[]
  resolved := Array.replicate 131 none
  statics := none }

def pool9 : Array CpInfo := pool [(1, .class_ 2), (0, u "java/lang/constant/ConstantDesc"), (0, .class_ 4), (0, u "java/lang/Object")] 32

/-- java/lang/constant/ConstantDesc -/
def k9 : Class := { plain "java/lang/constant/ConstantDesc" (some 0) with
  accessFlags := 1537
  interfaces := #[]
  cf := some (fileOf pool9 1 #[] #[] 1537 3 #[] #[])
  fields := #[]
  methods := #[]
  instanceTypes := #[]
  staticTypes := #[]
  resolved := Array.replicate 37 none
  statics := none }

def pool10 : Array CpInfo := pool [(1, .methodref 2 3), (0, .class_ 4), (0, .nameAndType 5 6), (0, u "java/lang/Object"), (0, u "<init>"), (0, u "()V"), (2, .fieldref 10 11), (0, .class_ 12), (0, .nameAndType 13 14), (0, u "java/lang/String"), (0, u "value"), (0, u "[B"), (0, .fieldref 10 16), (0, .nameAndType 17 18), (0, u "coder"), (0, u "B"), (2, u "hash"), (0, u "I"), (2, u "hashIsZero"), (0, u "Z"), (0, .methodref 10 28), (0, .nameAndType 5 29), (0, u "([CIILjava/lang/Void;)V"), (8, .fieldref 10 39), (0, .nameAndType 40 26), (0, u "COMPACT_STRINGS"), (1, .class_ 44), (1, u "java/lang/StringUTF16"), (0, u "compress"), (1, .methodref 42 48), (0, .nameAndType 49 50), (0, u "coderFromArrayLen"), (0, u "([BI)B"), (126, .methodref 42 178), (0, .nameAndType 45 179), (0, u "([CII)[B"), (395, .class_ 576), (0, u "java/lang/CharSequence"), (22, u "CASE_INSENSITIVE_ORDER"), (0, u "Ljava/util/Comparator;"), (409, u "([C)V"), (90, u "serialPersistentFields"), (0, u "[Ljava/io/ObjectStreamField;"), (0, .class_ 1104), (0, u "java/lang/String$CaseInsensitiveComparator"), (1, .class_ 1107), (0, u "java/io/Serializable"), (0, .class_ 1109), (0, u "java/lang/Comparable"), (0, .class_ 1111), (0, u "java/lang/constant/Constable"), (0, .class_ 1113), (0, u "java/lang/constant/ConstantDesc"), (2, u "serialVersionUID"), (0, u "J"), (3, u "REPL"), (0, u "C"), (2, u "LATIN1"), (1, u "UTF16")] 323

def k10m0 : Method := { name := "<init>", desc := "()V", sig := { parameters := [], returnType := none }, accessFlags := 1, code := none }
def k10c1 : Code := { maxStack := 5, maxLocals := 2, code := jdk_42_method_3_code, exceptionTable := #[], attributes := #[] }
def k10m1 : Method := { name := "<init>", desc := "([C)V", sig := { parameters := [(.array .char)], returnType := none }, accessFlags := 1, code := some k10c1 }
def k10c2 : Code := { maxStack := 4, maxLocals := 6, code := jdk_42_method_149_code, exceptionTable := #[], attributes := #[] }
def k10m2 : Method := { name := "<init>", desc := "([CIILjava/lang/Void;)V", sig := { parameters := [(.array .char), .int, .int, (.object "java/lang/Void")], returnType := none }, accessFlags := 2, code := some k10c2 }
/-- java/lang/String -/
def k10 : Class := { plain "java/lang/String" (some 0) with
  accessFlags := 49
  interfaces := #[4, 3, 8, 2, 9]
  cf := some (fileOf pool10 10 #[.nestMembers #[1103]] #[{ accessFlags := 1, nameIndex := 5, descriptorIndex := 6, attributes := #[] }, { accessFlags := 1, nameIndex := 5, descriptorIndex := 1010, attributes := #[] }, { accessFlags := 2, nameIndex := 5, descriptorIndex := 29, attributes := #[] }] 49 2 #[1106, 1108, 575, 1110, 1112] #[{ accessFlags := 18, nameIndex := 13, descriptorIndex := 14, attributes := #[] }, { accessFlags := 18, nameIndex := 17, descriptorIndex := 18, attributes := #[] }, { accessFlags := 2, nameIndex := 21, descriptorIndex := 22, attributes := #[] }, { accessFlags := 2, nameIndex := 25, descriptorIndex := 26, attributes := #[] }, { accessFlags := 26, nameIndex := 1116, descriptorIndex := 1117, attributes := #[] }, { accessFlags := 24, nameIndex := 40, descriptorIndex := 26, attributes := #[] }, { accessFlags := 26, nameIndex := 1101, descriptorIndex := 1102, attributes := #[] }, { accessFlags := 26, nameIndex := 1121, descriptorIndex := 1122, attributes := #[] }, { accessFlags := 25, nameIndex := 599, descriptorIndex := 600, attributes := #[] }, { accessFlags := 24, nameIndex := 1125, descriptorIndex := 18, attributes := #[] }, { accessFlags := 24, nameIndex := 1127, descriptorIndex := 18, attributes := #[] }])
  fields := #[{ name := "value", type := (.array .byte), accessFlags := 18, slot := 0, constantValue := 0 }, { name := "coder", type := .byte, accessFlags := 18, slot := 1, constantValue := 0 }, { name := "hash", type := .int, accessFlags := 2, slot := 2, constantValue := 0 }, { name := "hashIsZero", type := .boolean, accessFlags := 2, slot := 3, constantValue := 0 }, { name := "serialVersionUID", type := .long, accessFlags := 26, slot := 0, constantValue := 0 }, { name := "COMPACT_STRINGS", type := .boolean, accessFlags := 24, slot := 1, constantValue := 0 }, { name := "serialPersistentFields", type := (.array (.object "java/io/ObjectStreamField")), accessFlags := 26, slot := 2, constantValue := 0 }, { name := "REPL", type := .char, accessFlags := 26, slot := 3, constantValue := 0 }, { name := "CASE_INSENSITIVE_ORDER", type := (.object "java/util/Comparator"), accessFlags := 25, slot := 4, constantValue := 0 }, { name := "LATIN1", type := .byte, accessFlags := 24, slot := 5, constantValue := 0 }, { name := "UTF16", type := .byte, accessFlags := 24, slot := 6, constantValue := 0 }]
  methods := #[k10m0, k10m1, k10m2]
  instanceTypes := #[(.array .byte), .byte, .int, .boolean]
  staticTypes := #[.long, .boolean, (.array (.object "java/io/ObjectStreamField")), .char, (.object "java/util/Comparator"), .byte, .byte]
  resolved := Array.replicate 1451 none
  statics := some 2 }

def pool11 : Array CpInfo := pool [(6, .class_ 8), (1, u "java/lang/Object"), (0, u "<init>"), (0, u "()V"), (1, .class_ 14), (1, u "java/lang/StringUTF16"), (31, u "$assertionsDisabled"), (0, u "Z"), (13, u "HI_BYTE_SHIFT"), (0, u "I"), (2, u "LO_BYTE_SHIFT"), (49, .methodref 12 116), (0, .nameAndType 117 118), (0, u "compress"), (0, u "([CI[BII)I"), (3, u "([CII)[B"), (138, u "coderFromArrayLen"), (0, u "([BI)B"), (106, .class_ 371), (1, u "java/lang/StringUTF16$LinesSpliterator"), (58, u "MAX_LENGTH"), (196, .class_ 628), (0, u "java/lang/StringUTF16$CodePointsSpliterator"), (0, .class_ 630), (0, u "java/lang/StringUTF16$CharsSpliterator")] 4

def k11m0 : Method := { name := "<init>", desc := "()V", sig := { parameters := [], returnType := none }, accessFlags := 0, code := none }
def k11c1 : Code := { maxStack := 2, maxLocals := 2, code := jdk_52_method_15_code, exceptionTable := #[], attributes := #[] }
def k11m1 : Method := { name := "coderFromArrayLen", desc := "([BI)B", sig := { parameters := [(.array .byte), .int], returnType := some .byte }, accessFlags := 8, code := some k11c1 }
def k11c2 : Code := { maxStack := 5, maxLocals := 6, code := jdk_52_method_16_code, exceptionTable := #[], attributes := #[] }
def k11m2 : Method := { name := "compress", desc := "([CII)[B", sig := { parameters := [(.array .char), .int, .int], returnType := some (.array .byte) }, accessFlags := 9, code := some k11c2 }
def k11c3 : Code := { maxStack := 3, maxLocals := 7, code := jdk_52_method_21_code, exceptionTable := #[], attributes := #[] }
def k11m3 : Method := { name := "compress", desc := "([CI[BII)I", sig := { parameters := [(.array .char), .int, (.array .byte), .int, .int], returnType := some .int }, accessFlags := 9, code := some k11c3 }
/-- java/lang/StringUTF16 -/
def k11 : Class := { plain "java/lang/StringUTF16" (some 0) with
  accessFlags := 48
  interfaces := #[]
  cf := some (fileOf pool11 12 #[.nestMembers #[627, 629, 369]] #[{ accessFlags := 0, nameIndex := 9, descriptorIndex := 10, attributes := #[] }, { accessFlags := 8, nameIndex := 261, descriptorIndex := 262, attributes := #[] }, { accessFlags := 9, nameIndex := 117, descriptorIndex := 122, attributes := #[] }, { accessFlags := 9, nameIndex := 117, descriptorIndex := 118, attributes := #[] }] 48 6 #[] #[{ accessFlags := 26, nameIndex := 61, descriptorIndex := 62, attributes := #[] }, { accessFlags := 26, nameIndex := 65, descriptorIndex := 62, attributes := #[] }, { accessFlags := 24, nameIndex := 430, descriptorIndex := 62, attributes := #[] }, { accessFlags := 4120, nameIndex := 46, descriptorIndex := 47, attributes := #[] }])
  fields := #[{ name := "HI_BYTE_SHIFT", type := .int, accessFlags := 26, slot := 0, constantValue := 0 }, { name := "LO_BYTE_SHIFT", type := .int, accessFlags := 26, slot := 1, constantValue := 0 }, { name := "MAX_LENGTH", type := .int, accessFlags := 24, slot := 2, constantValue := 0 }, { name := "$assertionsDisabled", type := .boolean, accessFlags := 4120, slot := 3, constantValue := 0 }]
  methods := #[k11m0, k11m1, k11m2, k11m3]
  instanceTypes := #[]
  staticTypes := #[.int, .int, .int, .boolean]
  resolved := Array.replicate 635 none
  statics := none }

def pool12 : Array CpInfo := pool [(1, .methodref 2 3), (0, .class_ 4), (0, .nameAndType 5 6), (0, u "java/lang/Object"), (0, u "<init>"), (0, u "()V"), (0, .fieldref 8 9), (0, .class_ 10), (0, .nameAndType 11 12), (0, u "com/example/faultgauge/faultgauge/exec/TestResult"), (0, u "line"), (0, u "I"), (0, .fieldref 8 14), (0, .nameAndType 15 16), (0, u "difference"), (0, u "Lcom/example/faultgauge/faultgauge/exec/TestResult$Difference;"), (0, .fieldref 8 18), (0, .nameAndType 19 20), (0, u "ending"), (0, u "Lcom/example/faultgauge/faultgauge/exec/Ending;"), (0, .fieldref 8 22), (0, .nameAndType 23 12), (0, u "code"), (0, .fieldref 8 25), (0, .nameAndType 26 27), (0, u "outputDigest"), (0, u "Ljava/lang/String;"), (11, .class_ 41), (1, u "com/example/faultgauge/faultgauge/exec/TestResult$Difference"), (13, .fieldref 39 56), (0, .nameAndType 57 16), (0, u "SAME"), (18, u "(ILcom/example/faultgauge/faultgauge/exec/TestResult$Difference;Lcom/example/faultgauge/faultgauge/exec/Ending;ILjava/lang/String;)V"), (20, u "()Lcom/example/faultgauge/faultgauge/exec/TestResult$Difference;"), (0, u "detects"), (0, u "()Z")] 6

def k12c0 : Code := { maxStack := 2, maxLocals := 6, code := prog_53_method_1_code, exceptionTable := #[], attributes := #[] }
def k12m0 : Method := { name := "<init>", desc := "(ILcom/example/faultgauge/faultgauge/exec/TestResult$Difference;Lcom/example/faultgauge/faultgauge/exec/Ending;ILjava/lang/String;)V", sig := { parameters := [.int, (.object "com/example/faultgauge/faultgauge/exec/TestResult$Difference"), (.object "com/example/faultgauge/faultgauge/exec/Ending"), .int, (.object "java/lang/String")], returnType := none }, accessFlags := 0, code := some k12c0 }
def k12c1 : Code := { maxStack := 1, maxLocals := 1, code := prog_53_method_4_code, exceptionTable := #[], attributes := #[] }
def k12m1 : Method := { name := "difference", desc := "()Lcom/example/faultgauge/faultgauge/exec/TestResult$Difference;", sig := { parameters := [], returnType := some (.object "com/example/faultgauge/faultgauge/exec/TestResult$Difference") }, accessFlags := 1, code := some k12c1 }
def k12c2 : Code := { maxStack := 2, maxLocals := 1, code := prog_53_method_5_code, exceptionTable := #[], attributes := #[] }
def k12m2 : Method := { name := "detects", desc := "()Z", sig := { parameters := [], returnType := some .boolean }, accessFlags := 1, code := some k12c2 }
/-- com/example/faultgauge/faultgauge/exec/TestResult -/
def k12 : Class := { plain "com/example/faultgauge/faultgauge/exec/TestResult" (some 0) with
  accessFlags := 49
  interfaces := #[]
  cf := some (fileOf pool12 8 #[.nestMembers #[39]] #[{ accessFlags := 0, nameIndex := 5, descriptorIndex := 76, attributes := #[] }, { accessFlags := 1, nameIndex := 15, descriptorIndex := 97, attributes := #[] }, { accessFlags := 1, nameIndex := 98, descriptorIndex := 99, attributes := #[] }] 49 2 #[] #[{ accessFlags := 18, nameIndex := 11, descriptorIndex := 12, attributes := #[] }, { accessFlags := 18, nameIndex := 15, descriptorIndex := 16, attributes := #[] }, { accessFlags := 18, nameIndex := 19, descriptorIndex := 20, attributes := #[] }, { accessFlags := 18, nameIndex := 23, descriptorIndex := 12, attributes := #[] }, { accessFlags := 18, nameIndex := 26, descriptorIndex := 27, attributes := #[] }])
  fields := #[{ name := "line", type := .int, accessFlags := 18, slot := 0, constantValue := 0 }, { name := "difference", type := (.object "com/example/faultgauge/faultgauge/exec/TestResult$Difference"), accessFlags := 18, slot := 1, constantValue := 0 }, { name := "ending", type := (.object "com/example/faultgauge/faultgauge/exec/Ending"), accessFlags := 18, slot := 2, constantValue := 0 }, { name := "code", type := .int, accessFlags := 18, slot := 3, constantValue := 0 }, { name := "outputDigest", type := (.object "java/lang/String"), accessFlags := 18, slot := 4, constantValue := 0 }]
  methods := #[k12m0, k12m1, k12m2]
  instanceTypes := #[.int, (.object "com/example/faultgauge/faultgauge/exec/TestResult$Difference"), (.object "com/example/faultgauge/faultgauge/exec/Ending"), .int, (.object "java/lang/String")]
  staticTypes := #[]
  resolved := Array.replicate 106 none
  statics := none }

def pool13 : Array CpInfo := pool [(4, .class_ 6), (1, u "java/lang/Object"), (0, u "<init>"), (0, u "()V"), (5, .class_ 16), (1, u "java/lang/StringLatin1"), (104, u "$assertionsDisabled"), (0, u "Z"), (98, .class_ 223), (1, u "java/lang/StringLatin1$LinesSpliterator"), (166, .class_ 391), (0, u "java/lang/StringLatin1$CharsSpliterator")] 3

def k13m0 : Method := { name := "<init>", desc := "()V", sig := { parameters := [], returnType := none }, accessFlags := 0, code := none }
/-- java/lang/StringLatin1 -/
def k13 : Class := { plain "java/lang/StringLatin1" (some 0) with
  accessFlags := 48
  interfaces := #[]
  cf := some (fileOf pool13 14 #[.nestMembers #[390, 221]] #[{ accessFlags := 0, nameIndex := 7, descriptorIndex := 8, attributes := #[] }] 48 4 #[] #[{ accessFlags := 4120, nameIndex := 121, descriptorIndex := 122, attributes := #[] }])
  fields := #[{ name := "$assertionsDisabled", type := .boolean, accessFlags := 4120, slot := 0, constantValue := 0 }]
  methods := #[k13m0]
  instanceTypes := #[]
  staticTypes := #[.boolean]
  resolved := Array.replicate 395 none
  statics := none }

def pool14 : Array CpInfo := pool [(2, .class_ 4), (1, u "java/lang/Object"), (0, u "<init>"), (0, u "()V"), (17, .class_ 26), (1, u "jdk/internal/util/Preconditions"), (28, .class_ 56), (0, u "jdk/internal/util/Preconditions$4"), (57, .class_ 115), (0, u "jdk/internal/util/Preconditions$1"), (7, u "SIOOBE_FORMATTER"), (0, u "Ljava/util/function/BiFunction;"), (0, .class_ 126), (0, u "jdk/internal/util/Preconditions$2"), (3, u "AIOOBE_FORMATTER"), (0, .class_ 132), (0, u "jdk/internal/util/Preconditions$3"), (3, u "IOOBE_FORMATTER")] 57

def k14m0 : Method := { name := "<init>", desc := "()V", sig := { parameters := [], returnType := none }, accessFlags := 1, code := none }
/-- jdk/internal/util/Preconditions -/
def k14 : Class := { plain "jdk/internal/util/Preconditions" (some 0) with
  accessFlags := 33
  interfaces := #[]
  cf := some (fileOf pool14 24 #[.nestMembers #[55, 131, 125, 114]] #[{ accessFlags := 1, nameIndex := 5, descriptorIndex := 6, attributes := #[] }] 33 2 #[] #[{ accessFlags := 25, nameIndex := 123, descriptorIndex := 124, attributes := #[] }, { accessFlags := 25, nameIndex := 130, descriptorIndex := 124, attributes := #[] }, { accessFlags := 25, nameIndex := 136, descriptorIndex := 124, attributes := #[] }])
  fields := #[{ name := "SIOOBE_FORMATTER", type := (.object "java/util/function/BiFunction"), accessFlags := 25, slot := 0, constantValue := 0 }, { name := "AIOOBE_FORMATTER", type := (.object "java/util/function/BiFunction"), accessFlags := 25, slot := 1, constantValue := 0 }, { name := "IOOBE_FORMATTER", type := (.object "java/util/function/BiFunction"), accessFlags := 25, slot := 2, constantValue := 0 }]
  methods := #[k14m0]
  instanceTypes := #[]
  staticTypes := #[(.object "java/util/function/BiFunction"), (.object "java/util/function/BiFunction"), (.object "java/util/function/BiFunction")]
  resolved := Array.replicate 194 none
  statics := some 3 }

def pool15 : Array CpInfo := pool [(9, u "<init>"), (6, .class_ 18), (1, u "java/lang/Object"), (0, u "()V"), (1, .class_ 23), (1, u "jdk/internal/util/ArraysSupport"), (0, u "LOG2_ARRAY_LONG_INDEX_SCALE"), (0, u "I"), (2, u "U"), (0, u "Ljdk/internal/misc/Unsafe;"), (8, u "BIG_ENDIAN"), (0, u "Z"), (8, u "LOG2_BYTE_BIT_SIZE"), (4, u "LOG2_ARRAY_INT_INDEX_SCALE"), (54, u "JLA"), (0, u "Ljdk/internal/access/JavaLangAccess;"), (11, u "LOG2_ARRAY_BOOLEAN_INDEX_SCALE"), (9, u "LOG2_ARRAY_BYTE_INDEX_SCALE"), (5, u "LOG2_ARRAY_CHAR_INDEX_SCALE"), (5, u "LOG2_ARRAY_SHORT_INDEX_SCALE"), (18, u "LOG2_ARRAY_FLOAT_INDEX_SCALE"), (24, u "LOG2_ARRAY_DOUBLE_INDEX_SCALE"), (89, u "T_BOOLEAN"), (2, u "T_CHAR"), (1, u "T_FLOAT"), (1, u "T_DOUBLE"), (1, u "T_BYTE"), (1, u "T_SHORT"), (1, u "T_INT"), (1, u "T_LONG"), (1, u "SOFT_MAX_ARRAY_LENGTH")] 83

def k15m0 : Method := { name := "<init>", desc := "()V", sig := { parameters := [], returnType := none }, accessFlags := 2, code := none }
/-- jdk/internal/util/ArraysSupport -/
def k15 : Class := { plain "jdk/internal/util/ArraysSupport" (some 0) with
  accessFlags := 33
  interfaces := #[]
  cf := some (fileOf pool15 21 #[] #[{ accessFlags := 2, nameIndex := 9, descriptorIndex := 19, attributes := #[] }] 33 16 #[] #[{ accessFlags := 24, nameIndex := 28, descriptorIndex := 29, attributes := #[] }, { accessFlags := 26, nameIndex := 38, descriptorIndex := 39, attributes := #[] }, { accessFlags := 25, nameIndex := 121, descriptorIndex := 25, attributes := #[] }, { accessFlags := 25, nameIndex := 131, descriptorIndex := 25, attributes := #[] }, { accessFlags := 25, nameIndex := 137, descriptorIndex := 25, attributes := #[] }, { accessFlags := 25, nameIndex := 143, descriptorIndex := 25, attributes := #[] }, { accessFlags := 25, nameIndex := 53, descriptorIndex := 25, attributes := #[] }, { accessFlags := 25, nameIndex := 24, descriptorIndex := 25, attributes := #[] }, { accessFlags := 25, nameIndex := 162, descriptorIndex := 25, attributes := #[] }, { accessFlags := 25, nameIndex := 187, descriptorIndex := 25, attributes := #[] }, { accessFlags := 26, nameIndex := 48, descriptorIndex := 25, attributes := #[] }, { accessFlags := 25, nameIndex := 277, descriptorIndex := 25, attributes := #[] }, { accessFlags := 25, nameIndex := 280, descriptorIndex := 25, attributes := #[] }, { accessFlags := 25, nameIndex := 282, descriptorIndex := 25, attributes := #[] }, { accessFlags := 25, nameIndex := 284, descriptorIndex := 25, attributes := #[] }, { accessFlags := 25, nameIndex := 286, descriptorIndex := 25, attributes := #[] }, { accessFlags := 25, nameIndex := 288, descriptorIndex := 25, attributes := #[] }, { accessFlags := 25, nameIndex := 290, descriptorIndex := 25, attributes := #[] }, { accessFlags := 25, nameIndex := 292, descriptorIndex := 25, attributes := #[] }, { accessFlags := 26, nameIndex := 108, descriptorIndex := 109, attributes := #[] }, { accessFlags := 25, nameIndex := 294, descriptorIndex := 25, attributes := #[] }])
  fields := #[{ name := "U", type := (.object "jdk/internal/misc/Unsafe"), accessFlags := 24, slot := 0, constantValue := 0 }, { name := "BIG_ENDIAN", type := .boolean, accessFlags := 26, slot := 1, constantValue := 0 }, { name := "LOG2_ARRAY_BOOLEAN_INDEX_SCALE", type := .int, accessFlags := 25, slot := 2, constantValue := 0 }, { name := "LOG2_ARRAY_BYTE_INDEX_SCALE", type := .int, accessFlags := 25, slot := 3, constantValue := 0 }, { name := "LOG2_ARRAY_CHAR_INDEX_SCALE", type := .int, accessFlags := 25, slot := 4, constantValue := 0 }, { name := "LOG2_ARRAY_SHORT_INDEX_SCALE", type := .int, accessFlags := 25, slot := 5, constantValue := 0 }, { name := "LOG2_ARRAY_INT_INDEX_SCALE", type := .int, accessFlags := 25, slot := 6, constantValue := 0 }, { name := "LOG2_ARRAY_LONG_INDEX_SCALE", type := .int, accessFlags := 25, slot := 7, constantValue := 0 }, { name := "LOG2_ARRAY_FLOAT_INDEX_SCALE", type := .int, accessFlags := 25, slot := 8, constantValue := 0 }, { name := "LOG2_ARRAY_DOUBLE_INDEX_SCALE", type := .int, accessFlags := 25, slot := 9, constantValue := 0 }, { name := "LOG2_BYTE_BIT_SIZE", type := .int, accessFlags := 26, slot := 10, constantValue := 0 }, { name := "T_BOOLEAN", type := .int, accessFlags := 25, slot := 11, constantValue := 0 }, { name := "T_CHAR", type := .int, accessFlags := 25, slot := 12, constantValue := 0 }, { name := "T_FLOAT", type := .int, accessFlags := 25, slot := 13, constantValue := 0 }, { name := "T_DOUBLE", type := .int, accessFlags := 25, slot := 14, constantValue := 0 }, { name := "T_BYTE", type := .int, accessFlags := 25, slot := 15, constantValue := 0 }, { name := "T_SHORT", type := .int, accessFlags := 25, slot := 16, constantValue := 0 }, { name := "T_INT", type := .int, accessFlags := 25, slot := 17, constantValue := 0 }, { name := "T_LONG", type := .int, accessFlags := 25, slot := 18, constantValue := 0 }, { name := "JLA", type := (.object "jdk/internal/access/JavaLangAccess"), accessFlags := 26, slot := 19, constantValue := 0 }, { name := "SOFT_MAX_ARRAY_LENGTH", type := .int, accessFlags := 25, slot := 20, constantValue := 0 }]
  methods := #[k15m0]
  instanceTypes := #[]
  staticTypes := #[(.object "jdk/internal/misc/Unsafe"), .boolean, .int, .int, .int, .int, .int, .int, .int, .int, .int, .int, .int, .int, .int, .int, .int, .int, .int, (.object "jdk/internal/access/JavaLangAccess"), .int]
  resolved := Array.replicate 378 none
  statics := none }

def pool16 : Array CpInfo := pool [(1, u "java/lang/Cloneable"), (0, .class_ 1), (0, u "java/lang/Object"), (0, .class_ 3)] 3

/-- java/lang/Cloneable -/
def k16 : Class := { plain "java/lang/Cloneable" (some 0) with
  accessFlags := 1537
  interfaces := #[]
  cf := some (fileOf pool16 2 #[] #[] 1537 4 #[] #[])
  fields := #[]
  methods := #[]
  instanceTypes := #[]
  staticTypes := #[]
  resolved := Array.replicate 8 none
  statics := none }

/-- the primitive byte -/
def k17 : Class := { plain "byte" none with kind := .primitive 'B', accessFlags := 0x411 }
/-- [B -/
def k18 : Class := { plain "[B" (some 0) with kind := .array 17 .byte, interfaces := #[16, 4], accessFlags := 1041 }

/-- the primitive char -/
def k19 : Class := { plain "char" none with kind := .primitive 'C', accessFlags := 0x411 }
/-- [C -/
def k20 : Class := { plain "[C" (some 0) with kind := .array 19 .char, interfaces := #[16, 4], accessFlags := 1041 }

/-- the primitive int -/
def k21 : Class := { plain "int" none with kind := .primitive 'I', accessFlags := 0x411 }
/-- [I -/
def k22 : Class := { plain "[I" (some 0) with kind := .array 21 .int, interfaces := #[16, 4], accessFlags := 1041 }

def heap : Heap := #[{ cls := 6, slots := #[.ref 4, .ref 5, .ref 6, .ref 7, .ref 8, .ref 9, .null], vm := .statics 6 },
  { cls := 7, slots := #[.ref 10, .ref 11, .ref 12, .ref 13, .null], vm := .statics 7 },
  { cls := 10, slots := #[.long 0, .int 1, .null, .int 0, .null, .int 0, .int 0], vm := .statics 10 },
  { cls := 14, slots := #[.null, .null, .null], vm := .statics 14 },
  { cls := 6, slots := #[.null, .int 0, .int 0], vm := .none },
  { cls := 6, slots := #[.null, .int 1, .int 0], vm := .none },
  { cls := 6, slots := #[.null, .int 2, .int 0], vm := .none },
  { cls := 6, slots := #[.null, .int 3, .int 0], vm := .none },
  { cls := 6, slots := #[.null, .int 4, .int 0], vm := .none },
  { cls := 6, slots := #[.null, .int 5, .int 0], vm := .none },
  { cls := 7, slots := #[.null, .int 0, .int 0], vm := .none },
  { cls := 7, slots := #[.null, .int 1, .int 0], vm := .none },
  { cls := 7, slots := #[.null, .int 2, .int 0], vm := .none },
  { cls := 7, slots := #[.null, .int 3, .int 0], vm := .none }]
def classes : Array Class := #[k0, k1, k2, k3, k4, k5, k6, k7, k8, k9, k10, k11, k12, k13, k14, k15, k16, k17, k18, k19, k20, k21, k22]
def interned : List (Array UInt16 × Addr) := []
def slotsUsed : Nat := 52
def theMethod : MethodId := ⟨1, 3⟩
def args0 : Array Value := #[.int 5, .int 3, .int 4, .int 1, .int 2, .int 0]
def aboutOver (below : List Frame) : State where
  vm := { classes := classes, interned := interned.toArray }
  heap := heap
  slotsUsed := slotsUsed
  threads := #[{ frames := .invoking theMethod args0 :: below }]
def below0 : List Frame := [.native { method := ⟨0, 0⟩, args := #[] }]
def about1 : State := aboutOver below0
def p0 : Program := .bare "" "" ""
def e0 : Env := launch0.env 0 0 0
theorem w_frames : about1.frames = Frame.invoking theMethod args0 :: below0 := rfl
set_option maxRecDepth 65536 in
theorem w_args : argsFit about1.vm theMethod args0 = true := by decide +kernel
set_option maxRecDepth 65536 in
theorem w_heap : heapFits about1 = true := by decide +kernel
set_option maxRecDepth 65536 in
theorem w_runnable : about1.curStatus? = some .runnable := by decide +kernel
set_option maxRecDepth 65536 in
theorem w_alone : about1.alone = true := by decide +kernel
set_option maxRecDepth 65536 in
theorem w_named : about1.methodNamed? x = some theMethod := by decide +kernel
set_option maxRecDepth 65536 in
theorem w_hears : about1.hears theMethod below0 = true := by decide +kernel
set_option maxRecDepth 65536 in
theorem w_ripe : about1.ripe theMethod args0 below0 = true := by decide +kernel
theorem w_running : about1.status = .running := rfl
set_option maxRecDepth 65536 in
theorem w_room : about1.hasRoom e0.platform room_1 = true :=
  launch0.hasRoom_least _ room_1 (by decide +kernel) (by decide +kernel) (by decide +kernel) (by decide +kernel) (by decide +kernel) (by decide +kernel)
theorem allAtoms_all (ts : List Jvm.Cond) (a : Array Jvm.Value) (st : Jvm.State) : (allAtoms ts).before a st = ts.all (fun c => c.before a st) := by
  induction ts with
  | nil => rfl
  | cons c t ih =>
    show (Jvm.Cond.and c (allAtoms t)).before a st = _
    rw [Jvm.Cond.before_and, ih, List.all_cons]
def words1 : List Jvm.Cond := Jvm.Cond.code x code maxLocals ret :: tables_1
/-- a 'code' word, met by the world's own term for the bytes: nothing is compared byte by byte -/
theorem code_word {y : MethodName} {bytes : ByteArray} {mx : Nat} {rt : Option FieldType} {a : Array Value} {s : State} {m : MethodId} {meth : Method} {c : Code} (h1 : s.methodNamed? y = some m) (h2 : s.vm.method? m = some meth) (h3 : meth.code = some c) (h4 : c.code = bytes)
    (h5 : (c.maxLocals == mx && c.exceptionTable.isEmpty && decide (c.maxStack ≤ mostOperands) && decide (meth.sig.returnType = rt) && !meth.locks && decide (parseMethodDescriptor y.desc = some meth.sig)) = true) : (Jvm.Cond.code y bytes mx rt).before a s = true := by
  simp only [Bool.and_eq_true, beq_iff_eq, Bool.not_eq_true', decide_eq_true_eq] at h5
  obtain ⟨⟨⟨⟨⟨g1, g2⟩, g3⟩, g4⟩, g5⟩, g6⟩ := h5
  simp [Cond.before, Cond.holds, Cond.value, h1, h2, h3, h4, g1, g2, g3, g4, g5, g6]
def isCode : Jvm.Cond → Bool
  | .code _ _ _ _ => true
  | _ => false
theorem all_split {L : List Jvm.Cond} {P : Jvm.Cond → Bool} (h1 : L.all (fun c => isCode c || P c) = true) (h2 : ∀ c ∈ L.filter isCode, P c = true) : L.all P = true := by
  refine List.all_eq_true.mpr fun c hc => ?_
  have h := List.all_eq_true.mp h1 c hc
  rcases Bool.eq_false_or_eq_true (isCode c) with hi | hi
  · exact h2 c (List.mem_filter.mpr ⟨hc, hi⟩)
  · simpa [hi] using h
set_option maxRecDepth 65536 in
theorem w_c0 : (Jvm.Cond.code x code maxLocals ret).before args0 about1 = true := code_word (m := ⟨1, 3⟩) (meth := k1m3) (c := k1c3) (by decide +kernel) rfl rfl rfl (by decide +kernel)
set_option maxRecDepth 65536 in
theorem w_c1 : (Jvm.Cond.code ({ cls := "com/example/faultgauge/faultgauge/exec/TestResultDetectsPinLaw", name := "difference", desc := "(I)Lcom/example/faultgauge/faultgauge/exec/TestResult$Difference;" } : Jvm.MethodName) method_2_code (1 : Nat) (Option.some (Jvm.ClassFile.FieldType.object "com/example/faultgauge/faultgauge/exec/TestResult$Difference"))).before args0 about1 = true := code_word (m := ⟨1, 1⟩) (meth := k1m1) (c := k1c1) (by decide +kernel) rfl rfl rfl (by decide +kernel)
set_option maxRecDepth 65536 in
theorem w_c2 : (Jvm.Cond.code ({ cls := "com/example/faultgauge/faultgauge/exec/TestResultDetectsPinLaw", name := "ending", desc := "(I)Lcom/example/faultgauge/faultgauge/exec/Ending;" } : Jvm.MethodName) method_3_code (1 : Nat) (Option.some (Jvm.ClassFile.FieldType.object "com/example/faultgauge/faultgauge/exec/Ending"))).before args0 about1 = true := code_word (m := ⟨1, 2⟩) (meth := k1m2) (c := k1c2) (by decide +kernel) rfl rfl rfl (by decide +kernel)
set_option maxRecDepth 65536 in
theorem w_c3 : (Jvm.Cond.code ({ cls := "java/lang/String", name := "<init>", desc := "([C)V" } : Jvm.MethodName) jdk_42_method_3_code (2 : Nat) (Option.none : Option Jvm.ClassFile.FieldType)).before args0 about1 = true := code_word (m := ⟨10, 1⟩) (meth := k10m1) (c := k10c1) (by decide +kernel) rfl rfl rfl (by decide +kernel)
set_option maxRecDepth 65536 in
theorem w_c4 : (Jvm.Cond.code ({ cls := "java/lang/String", name := "<init>", desc := "([CIILjava/lang/Void;)V" } : Jvm.MethodName) jdk_42_method_149_code (6 : Nat) (Option.none : Option Jvm.ClassFile.FieldType)).before args0 about1 = true := code_word (m := ⟨10, 2⟩) (meth := k10m2) (c := k10c2) (by decide +kernel) rfl rfl rfl (by decide +kernel)
set_option maxRecDepth 65536 in
theorem w_c5 : (Jvm.Cond.code ({ cls := "java/lang/Object", name := "<init>", desc := "()V" } : Jvm.MethodName) object_method_1_code (1 : Nat) (Option.none : Option Jvm.ClassFile.FieldType)).before args0 about1 = true := code_word (m := ⟨0, 0⟩) (meth := k0m0) (c := k0c0) (by decide +kernel) rfl rfl rfl (by decide +kernel)
set_option maxRecDepth 65536 in
theorem w_c6 : (Jvm.Cond.code ({ cls := "java/lang/StringUTF16", name := "compress", desc := "([CII)[B" } : Jvm.MethodName) jdk_52_method_16_code (6 : Nat) (Option.some (Jvm.ClassFile.FieldType.array Jvm.ClassFile.FieldType.byte))).before args0 about1 = true := code_word (m := ⟨11, 2⟩) (meth := k11m2) (c := k11c2) (by decide +kernel) rfl rfl rfl (by decide +kernel)
set_option maxRecDepth 65536 in
theorem w_c7 : (Jvm.Cond.code ({ cls := "java/lang/StringUTF16", name := "compress", desc := "([CI[BII)I" } : Jvm.MethodName) jdk_52_method_21_code (7 : Nat) (Option.some Jvm.ClassFile.FieldType.int)).before args0 about1 = true := code_word (m := ⟨11, 3⟩) (meth := k11m3) (c := k11c3) (by decide +kernel) rfl rfl rfl (by decide +kernel)
set_option maxRecDepth 65536 in
theorem w_c8 : (Jvm.Cond.code ({ cls := "java/lang/StringUTF16", name := "coderFromArrayLen", desc := "([BI)B" } : Jvm.MethodName) jdk_52_method_15_code (2 : Nat) (Option.some Jvm.ClassFile.FieldType.byte)).before args0 about1 = true := code_word (m := ⟨11, 1⟩) (meth := k11m1) (c := k11c1) (by decide +kernel) rfl rfl rfl (by decide +kernel)
set_option maxRecDepth 65536 in
theorem w_c9 : (Jvm.Cond.code ({ cls := "com/example/faultgauge/faultgauge/exec/TestResult", name := "<init>", desc := "(ILcom/example/faultgauge/faultgauge/exec/TestResult$Difference;Lcom/example/faultgauge/faultgauge/exec/Ending;ILjava/lang/String;)V" } : Jvm.MethodName) prog_53_method_1_code (6 : Nat) (Option.none : Option Jvm.ClassFile.FieldType)).before args0 about1 = true := code_word (m := ⟨12, 0⟩) (meth := k12m0) (c := k12c0) (by decide +kernel) rfl rfl rfl (by decide +kernel)
set_option maxRecDepth 65536 in
theorem w_c10 : (Jvm.Cond.code ({ cls := "com/example/faultgauge/faultgauge/exec/TestResult", name := "detects", desc := "()Z" } : Jvm.MethodName) prog_53_method_5_code (1 : Nat) (Option.some Jvm.ClassFile.FieldType.boolean)).before args0 about1 = true := code_word (m := ⟨12, 2⟩) (meth := k12m2) (c := k12c2) (by decide +kernel) rfl rfl rfl (by decide +kernel)
set_option maxRecDepth 65536 in
theorem w_c11 : (Jvm.Cond.code ({ cls := "com/example/faultgauge/faultgauge/exec/TestResult", name := "difference", desc := "()Lcom/example/faultgauge/faultgauge/exec/TestResult$Difference;" } : Jvm.MethodName) prog_53_method_4_code (1 : Nat) (Option.some (Jvm.ClassFile.FieldType.object "com/example/faultgauge/faultgauge/exec/TestResult$Difference"))).before args0 about1 = true := code_word (m := ⟨12, 1⟩) (meth := k12m1) (c := k12c1) (by decide +kernel) rfl rfl rfl (by decide +kernel)
def codes1 : List Jvm.Cond := [Jvm.Cond.code x code maxLocals ret, Jvm.Cond.code ({ cls := "com/example/faultgauge/faultgauge/exec/TestResultDetectsPinLaw", name := "difference", desc := "(I)Lcom/example/faultgauge/faultgauge/exec/TestResult$Difference;" } : Jvm.MethodName) method_2_code (1 : Nat) (Option.some (Jvm.ClassFile.FieldType.object "com/example/faultgauge/faultgauge/exec/TestResult$Difference")), Jvm.Cond.code ({ cls := "com/example/faultgauge/faultgauge/exec/TestResultDetectsPinLaw", name := "ending", desc := "(I)Lcom/example/faultgauge/faultgauge/exec/Ending;" } : Jvm.MethodName) method_3_code (1 : Nat) (Option.some (Jvm.ClassFile.FieldType.object "com/example/faultgauge/faultgauge/exec/Ending")), Jvm.Cond.code ({ cls := "java/lang/String", name := "<init>", desc := "([C)V" } : Jvm.MethodName) jdk_42_method_3_code (2 : Nat) (Option.none : Option Jvm.ClassFile.FieldType), Jvm.Cond.code ({ cls := "java/lang/String", name := "<init>", desc := "([CIILjava/lang/Void;)V" } : Jvm.MethodName) jdk_42_method_149_code (6 : Nat) (Option.none : Option Jvm.ClassFile.FieldType), Jvm.Cond.code ({ cls := "java/lang/Object", name := "<init>", desc := "()V" } : Jvm.MethodName) object_method_1_code (1 : Nat) (Option.none : Option Jvm.ClassFile.FieldType), Jvm.Cond.code ({ cls := "java/lang/StringUTF16", name := "compress", desc := "([CII)[B" } : Jvm.MethodName) jdk_52_method_16_code (6 : Nat) (Option.some (Jvm.ClassFile.FieldType.array Jvm.ClassFile.FieldType.byte)), Jvm.Cond.code ({ cls := "java/lang/StringUTF16", name := "compress", desc := "([CI[BII)I" } : Jvm.MethodName) jdk_52_method_21_code (7 : Nat) (Option.some Jvm.ClassFile.FieldType.int), Jvm.Cond.code ({ cls := "java/lang/StringUTF16", name := "coderFromArrayLen", desc := "([BI)B" } : Jvm.MethodName) jdk_52_method_15_code (2 : Nat) (Option.some Jvm.ClassFile.FieldType.byte), Jvm.Cond.code ({ cls := "com/example/faultgauge/faultgauge/exec/TestResult", name := "<init>", desc := "(ILcom/example/faultgauge/faultgauge/exec/TestResult$Difference;Lcom/example/faultgauge/faultgauge/exec/Ending;ILjava/lang/String;)V" } : Jvm.MethodName) prog_53_method_1_code (6 : Nat) (Option.none : Option Jvm.ClassFile.FieldType), Jvm.Cond.code ({ cls := "com/example/faultgauge/faultgauge/exec/TestResult", name := "detects", desc := "()Z" } : Jvm.MethodName) prog_53_method_5_code (1 : Nat) (Option.some Jvm.ClassFile.FieldType.boolean), Jvm.Cond.code ({ cls := "com/example/faultgauge/faultgauge/exec/TestResult", name := "difference", desc := "()Lcom/example/faultgauge/faultgauge/exec/TestResult$Difference;" } : Jvm.MethodName) prog_53_method_4_code (1 : Nat) (Option.some (Jvm.ClassFile.FieldType.object "com/example/faultgauge/faultgauge/exec/TestResult$Difference"))]
set_option maxRecDepth 65536 in
theorem codes_eq : words1.filter isCode = codes1 := rfl
theorem w_codes : ∀ c ∈ words1.filter isCode, c.before args0 about1 = true := by
  rw [codes_eq]
  intro c hc
  simp only [codes1, List.mem_cons, List.not_mem_nil, or_false] at hc
  rcases hc with rfl | rfl | rfl | rfl | rfl | rfl | rfl | rfl | rfl | rfl | rfl | rfl
  · exact w_c0
  · exact w_c1
  · exact w_c2
  · exact w_c3
  · exact w_c4
  · exact w_c5
  · exact w_c6
  · exact w_c7
  · exact w_c8
  · exact w_c9
  · exact w_c10
  · exact w_c11
set_option maxRecDepth 65536 in
theorem w_t1 : (words1.take 24).all (fun c => isCode c || c.before args0 about1) = true := by decide +kernel
set_option maxRecDepth 65536 in
theorem w_t2 : ((words1.drop 24).take 24).all (fun c => isCode c || c.before args0 about1) = true := by decide +kernel
set_option maxRecDepth 65536 in
theorem w_t3 : (((words1.drop 24).drop 24).take 24).all (fun c => isCode c || c.before args0 about1) = true := by decide +kernel
set_option maxRecDepth 65536 in
theorem w_t4 : (((words1.drop 24).drop 24).drop 24).all (fun c => isCode c || c.before args0 about1) = true := by decide +kernel
theorem w_tables : (allAtoms (Jvm.Cond.code x code maxLocals ret :: tables_1)).before args0 about1 = true := by
  rw [allAtoms_all]
  show words1.all (fun c => c.before args0 about1) = true
  refine all_split ?_ w_codes
  rw [← List.take_append_drop 24 words1, List.all_append, w_t1, ← List.take_append_drop 24 (words1.drop 24), List.all_append, w_t2, ← List.take_append_drop 24 ((words1.drop 24).drop 24), List.all_append, w_t3, w_t4]
  rfl
set_option maxRecDepth 65536 in
theorem w_rest : rest_1_c.before args0 about1 = true := by decide +kernel
set_option maxRecDepth 65536 in
theorem w_case : (Jvm.Cond.and given_1 narrow_1).before args0 about1 = true := by decide +kernel
theorem w_applies : (headSpec (Jvm.Cond.code x code maxLocals ret :: tables_1) room_1).applies x e0.platform about1 = true :=
  (Spec.applies_iff w_frames).mpr ⟨w_running, w_runnable, w_alone, w_named, w_hears, w_ripe, w_room, w_tables⟩
theorem atStart : AtStart classFile x code maxLocals ret World_1 tables_1 room_1 Calls_1 rest_1 Pre_1 launch0 p0 e0 about1 theMethod args0 below0 :=
  ⟨lists_1, trivial, launch0.admits_env _ _ _, launch0.least_env, fairChoices_fair.cas, fairChoices_fair.clock, w_frames, w_args, w_heap, w_applies, trivial, w_rest, w_case⟩
end start1
theorem witness_1 : WitnessClaimed_1 := ⟨start1.p0, start1.e0, start1.about1, start1.theMethod, start1.args0, start1.below0, start1.atStart⟩
end Jvm.Pilot.@@N@@
