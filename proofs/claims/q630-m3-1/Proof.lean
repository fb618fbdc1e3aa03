import JvmDerived
import JvmDerived.Pilot.@@N@@Statement
import JvmDerived.Pilot.@@N@@Code
set_option linter.unusedVariables false
set_option linter.unusedSimpArgs false
namespace Jvm.OwnWp
open Sem ClassFile Op Lib Bundle Jvm.Stand Jvm.Free Jvm.LawKit Jvm.RoadKit
abbrev GoT : Type := List Addr → Heap → Nat → Nat → Nat → Array Slot → List Value → Prop
abbrev QT : Type := Option Value → List Addr → Heap → Prop
abbrev ELT : Type := List (String × Nat)
/-- each address of M is new since the law's start, stands in the heap, and is no String constant's cell -/
def Saf (Z : State) (EL : ELT) (n0 : Nat) (vm : Vm) (h : Heap) (M : List Addr) : Prop := ∀ x ∈ M, n0 ≤ x ∧ x < h.size ∧ Safe Z EL vm h x
/-- where a walk stands: all that isn't the heap is hidden -/
def Inv (p : Program) (l : Launch) (e : Env) (R : Room) (s : State) (m : MethodId) (args : Array Value) (below : List Frame) (meth : Method) (c : Code) (Z : State) (own : String) (EL : ELT) (n0 : Nat) (M : List Addr) (T : State) (h : Heap) (k n : Nat) : Prop :=
  ∃ (vm0 : Vm) (locs : List Loc) (k0 : Nat), Stand p l e R (s.setVm vm0) m args below meth c T locs k n ∧ T.heap = h ∧ s.Since vm0 k0 ∧ k0 ≤ h.size ∧ Z.Warmed39 vm0 ∧ vm0.findClass own = some m.cls ∧ Fr n0 locs ∧ CHr Z EL s.vm s.heap vm0 h ∧ Saf Z EL n0 vm0 h M ∧ Old Z n0 h
/-- what the end of a body is to say -/
def Done (s : State) (Z : State) (EL : ELT) (n0 : Nat) (R : Room) (Q : QT) (o : Outcome) (U : State) : Prop :=
  ∃ (v : Option Value) (L : List Loc) (M' : List Addr), o = .returned v ∧ Q v M' U.heap ∧ Fr n0 L ∧ CHr Z EL s.vm s.heap U.vm U.heap ∧ Saf Z EL n0 U.vm U.heap M' ∧ Old Z n0 U.heap ∧ ReturnedEndW s o U L R.cells R.slots
def Ends (p : Program) (e : Env) (below : List Frame) (P : Outcome → State → Prop) (A : State) : Prop := ∃ s₂ o, Steps p.tables e below A s₂ ∧ s₂.status = .running ∧ Ended s₂ below o ∧ P o s₂
/-- G M h k n pc ls st: from this frame, with this heap, k cells and n slots made so far, the body comes to an end that says Q -/
def IsGo (G : GoT) (l : Launch) (Z : State) (a0 : Array Value) (EL : ELT) (n0 : Nat) (own name : String) (code : ByteArray) (maxL : Nat) (ret : Option FieldType) (R : Room) (Q : QT) : Prop :=
  ∃ (p : Program) (e : Env) (s : State) (m : MethodId) (args : Array Value) (below : List Frame) (meth : Method) (c : Code),
    p.tables.exec = Jvm.exec ∧ c.code = code ∧ c.maxLocals = maxL ∧ meth.name = name ∧ meth.sig.returnType = ret ∧ meth.locks = false ∧ EW Z a0 EL ∧
    G = fun M h k n pc ls st => ∀ T, Inv p l e R s m args below meth c Z own EL n0 M T h k n → Ends p e below (Done s Z EL n0 R Q) (T.setTop (mkF m pc ls st))
/-- a method's contract: called with these arguments at this heap, M being its to write, it returns and says Q -/
def Met (l : Launch) (Z : State) (EL : ELT) (n0 : Nat) (y : MethodName) (bytes : ByteArray) (maxL : Nat) (ret : Option FieldType) (ws : List Jvm.Cond) (rm : Room) (as' : List Value) (M : List Addr) (h : Heap) (Q : QT) : Prop :=
  MetFree l y (head1 (Jvm.Cond.code y bytes maxL ret :: ws) rm) (fun a U => a = as'.toArray ∧ Z.Warmed39 U.vm ∧ U.heap = h ∧ CHv Z EL U.vm h ∧ Saf Z EL n0 U.vm h M ∧ Old Z n0 h) (fun _ _ _ _ _ => True) (fun _ U o U' => Done U Z EL n0 rm Q o U')
variable {G : GoT} {l : Launch} {Z : State} {a0 : Array Value} {EL : ELT} {n0 : Nat} {own name : String} {code : ByteArray} {maxL : Nat} {ret : Option FieldType} {R : Room} {Q : QT}
variable {M M' : List Addr} {h h' : Heap} {k n k' n' pc pc' : Nat} {ls ls' : Array Slot} {st st' rest : List Value}
theorem Saf.chr {vm vm1 : Vm} (S : Saf Z EL n0 vm h M) (A : CHr Z EL vm h vm1 h') : Saf Z EL n0 vm1 h' M := fun x hx => ⟨(S x hx).1, Nat.lt_of_lt_of_le (S x hx).2.1 A.2.1, A.safe (S x hx).2.1 (S x hx).2.2⟩
theorem Saf.sub {vm : Vm} (S : Saf Z EL n0 vm h M) (q : ∀ x ∈ M', x ∈ M) : Saf Z EL n0 vm h M' := fun x hx => S x (q x hx)
theorem Saf.app {vm : Vm} (S : Saf Z EL n0 vm h M) (S' : Saf Z EL n0 vm h M') : Saf Z EL n0 vm h (M ++ M') := fun x hx => (List.mem_append.mp hx).elim (S x) (S' x)
theorem since0 (s : State) (k0 : Nat) : s.Since s.vm k0 := ⟨State.Warmed39.refl s, by
  first
    | exact State.Booked.refl _ _
    | (intro j q h1 h2; exact absurd (Array.getElem?_eq_some_iff.mp h2).1 (Nat.not_lt.mpr h1))
    | (refine ⟨?_, ?_⟩ <;> intro j q h1 h2 <;> exact absurd (Array.getElem?_eq_some_iff.mp h2).1 (Nat.not_lt.mpr h1))⟩
/-- the way in -/
theorem Met.intro {y : MethodName} {bytes : ByteArray} {ws : List Jvm.Cond} {rm : Room} {as' : List Value} (hp : plainFor y = true) (hef : ∀ m, entryFrame m as'.toArray maxL = mkF m 0 ls []) (hEL : EW Z a0 EL)
    (body : ∀ G, IsGo G l Z a0 EL n0 y.cls y.name bytes maxL ret rm Q → G M h 0 0 0 ls []) : Met l Z EL n0 y bytes maxL ret ws rm as' M h Q := by
  refine MetFree.of_bodySF hp hisR ?_
  intro p e s m args below meth c s₁ Bd hml0 hP hK
  obtain ⟨rfl, hZ, hh, hC, hS, hn0⟩ := hP
  have hown : s.vm.findClass y.cls = some m.cls := findClass_of_methodNamed Bd.named
  have hnm := (name_of_methodNamed Bd.named Bd.method).1
  have X0 : Stand p l e rm s m as'.toArray below meth c s₁ [] 0 0 := Stand.of_body Bd
  have e0 : s₁.heap = h := by rw [← hh, Bd.state]; rfl
  have hlk : meth.locks = false := Bd.notSynchronized
  have q := body _ ⟨p, e, s, m, as'.toArray, below, meth, c, Bd.exec, Bd.bytes, hml0, hnm, Bd.returns, hlk, hEL, rfl⟩ s₁ ⟨s.vm, [], h.size, X0, e0, since0 s _, Nat.le_refl _, hZ, hown, Fr.nil n0, by rw [hh]; exact CHr.refl hC, hS, hn0⟩
  obtain ⟨s₂, o, h1, h2, h3, h4⟩ := q
  rw [← hef] at h1
  exact ⟨s₂, o, h1, h2, h3, h4⟩
/-- a step that looks at no heap -/
theorem plain (hG : IsGo G l Z a0 EL n0 own name code maxL ret R Q) (f : ∀ (p : Program) (e : Env) (below : List Frame) (m : MethodId) (c : Code) (T target : State), At T m c below → p.tables.exec = Jvm.exec → c.code = code → Steps p.tables e below (T.setTop (mkF m pc' ls' st')) target → Steps p.tables e below (T.setTop (mkF m pc ls st)) target)
    (k1 : G M h k n pc' ls' st') : G M h k n pc ls st := by
  obtain ⟨p, e, s, m, args, below, meth, c, hx, hc, hml, hnm, hr, hlk, hEL, rfl⟩ := hG
  intro T I
  obtain ⟨s₂, o, h1, h2⟩ := k1 T I
  obtain ⟨vm0, locs, k0, X, -⟩ := I
  exact ⟨s₂, o, f p e below m c T s₂ X.here hx hc h1, h2⟩
/-- a step that leaves the heap as it is -/
theorem stepX (hG : IsGo G l Z a0 EL n0 own name code maxL ret R Q)
    (f : ∀ (p : Program) (e : Env) (s : State) (m : MethodId) (args : Array Value) (below : List Frame) (meth : Method) (c : Code) (T : State) (locs : List Loc), Stand p l e R s m args below meth c T locs k n → p.tables.exec = Jvm.exec → c.code = code → c.maxLocals = maxL → T.heap = h → Z.Warmed39 s.vm → s.vm.findClass own = some m.cls →
      ∃ T', Stand p l e R s m args below meth c T' locs k n ∧ T'.heap = h ∧ ∀ target, Steps p.tables e below (T'.setTop (mkF m pc' ls' st')) target → Steps p.tables e below (T.setTop (mkF m pc ls st)) target)
    (k1 : G M h k n pc' ls' st') : G M h k n pc ls st := by
  obtain ⟨p, e, s, m, args, below, meth, c, hx, hc, hml, hnm, hr, hlk, hEL, rfl⟩ := hG
  intro T I
  obtain ⟨vm0, locs, k0, X, eT, hS, hk, hZ, hown, N, H, S, hn0⟩ := I
  obtain ⟨T', X', e', st⟩ := f p e (s.setVm vm0) m args below meth c T locs X hx hc hml eT hZ hown
  obtain ⟨s₂, o, h1, h2⟩ := k1 T' ⟨vm0, locs, k0, X', e', hS, hk, hZ, hown, N, H, S, hn0⟩
  exact ⟨s₂, o, st _ h1, h2⟩
/-- a step that writes one place of an object that is ours -/
theorem stepW (hG : IsGo G l Z a0 EL n0 own name code maxL ret R Q) {a : Addr} {sl : Nat} {v : Value} (ha : a ∈ M)
    (f : ∀ (p : Program) (e : Env) (s : State) (m : MethodId) (args : Array Value) (below : List Frame) (meth : Method) (c : Code) (T : State) (locs : List Loc), Stand p l e R s m args below meth c T locs k n → p.tables.exec = Jvm.exec → c.code = code → meth.name = name → T.heap = h → Z.Warmed39 s.vm → s.vm.findClass own = some m.cls →
      ∃ T' h', Stand p l e R s m args below meth c T' (locs ++ [⟨a, sl⟩]) k n ∧ T'.heap = h' ∧ Wr h h' a sl v ∧ ∀ target, Steps p.tables e below (T'.setTop (mkF m pc' ls' st')) target → Steps p.tables e below (T.setTop (mkF m pc ls st)) target)
    (k1 : ∀ h', Wr h h' a sl v → G M h' k n pc' ls' st') : G M h k n pc ls st := by
  obtain ⟨p, e, s, m, args, below, meth, c, hx, hc, hml, hnm, hr, hlk, hEL, rfl⟩ := hG
  intro T I
  obtain ⟨vm0, locs, k0, X, eT, hS, hk, hZ, hown, N, H, S, hn0⟩ := I
  obtain ⟨T', h', X', e', W, st⟩ := f p e (s.setVm vm0) m args below meth c T locs X hx hc hnm eT hZ hown
  have A : CHr Z EL vm0 h vm0 h' := CHr.wr W (S a ha).2.2 H.1
  obtain ⟨s₂, o, h1, h2⟩ := k1 h' W T' ⟨vm0, _, k0, X', e', hS, Nat.le_trans hk A.2.1, hZ, hown, Fr.snoc X' N (S a ha).1, H.trans A, S.chr A, hn0.wr W (S a ha).1⟩
  exact ⟨s₂, o, st _ h1, h2⟩
/-- a step that makes one object -/
theorem stepN (hG : IsGo G l Z a0 EL n0 own name code maxL ret R Q) {P : Heap → Addr → Prop} (hP : ∀ h', P h' h.size → h.size < h'.size) {st' : Addr → List Value}
    (f : ∀ (p : Program) (e : Env) (s : State) (m : MethodId) (args : Array Value) (below : List Frame) (meth : Method) (c : Code) (T : State) (locs : List Loc), Stand p l e R s m args below meth c T locs k n → p.tables.exec = Jvm.exec → c.code = code → c.maxLocals = maxL → T.heap = h → Z.Warmed39 s.vm → s.vm.findClass own = some m.cls →
      ∃ T' h', Stand p l e R s m args below meth c T' locs k' n' ∧ T'.heap = h' ∧ Ext h h' ∧ P h' h.size ∧ ∀ target, Steps p.tables e below (T'.setTop (mkF m pc' ls' (st' h.size))) target → Steps p.tables e below (T.setTop (mkF m pc ls st)) target)
    (k1 : ∀ h' a, h.size ≤ a → Ext h h' → P h' a → G (a :: M) h' k' n' pc' ls' (st' a)) : G M h k n pc ls st := by
  obtain ⟨p, e, s, m, args, below, meth, c, hx, hc, hml, hnm, hr, hlk, hEL, rfl⟩ := hG
  intro T I
  obtain ⟨vm0, locs, k0, X, eT, hS, hk, hZ, hown, N, H, S, hn0⟩ := I
  obtain ⟨T', h', X', e', E, hp, st⟩ := f p e (s.setVm vm0) m args below meth c T locs X hx hc hml eT hZ hown
  have A : CHr Z EL vm0 h vm0 h' := CHr.ext E H.1
  obtain ⟨s₂, o, h1, h2⟩ := k1 h' h.size (Nat.le_refl _) E hp T' ⟨vm0, _, k0, X', e', hS, Nat.le_trans hk A.2.1, hZ, hown, N, H.trans A, fun x hx => by
    rcases List.mem_cons.mp hx with rfl | q
    · exact ⟨hn0.1 ▸ hn0.2.1, hP _ hp, Safe.ext E H.1 (Safe.new (Nat.le_refl _))⟩
    · exact S.chr A x q, hn0.ext E⟩
  exact ⟨s₂, o, st _ h1, h2⟩
/-- less is known, more is made -/
theorem weaken (hG : IsGo G l Z a0 EL n0 own name code maxL ret R Q) (hM : ∀ x ∈ M', x ∈ M) (hk : k ≤ k') (hn : n ≤ n') (k1 : G M' h k' n' pc ls st) : G M h k n pc ls st := by
  obtain ⟨p, e, s, m, args, below, meth, c, hx, hc, hml, hnm, hr, hlk, hEL, rfl⟩ := hG
  intro T I
  obtain ⟨vm0, locs, k0, X, eT, hS, hk0, hZ, hown, N, H, S, hn0⟩ := I
  exact k1 T ⟨vm0, locs, k0, X.more hk hn, eT, hS, hk0, hZ, hown, N, H, S.sub hM, hn0⟩
theorem facts (hG : IsGo G l Z a0 EL n0 own name code maxL ret R Q) (k1 : Old Z n0 h → (∀ x ∈ M, n0 ≤ x ∧ x < h.size) → G M h k n pc ls st) : G M h k n pc ls st := by
  obtain ⟨p, e, s, m, args, below, meth, c, hx, hc, hml, hnm, hr, hlk, hEL, rfl⟩ := hG
  intro T I
  obtain ⟨vm0, locs, k0, X, eT, hS, hk0, hZ, hown, N, H, S, hn0⟩ := id I
  exact k1 hn0 (fun x hx => ⟨(S x hx).1, (S x hx).2.1⟩) T I
/-- the way out -/
theorem leaves (hG : IsGo G l Z a0 EL n0 own name code maxL ret R Q) {v : Option Value} (hv : ret = none → v = none) (hq : Q v M' h) (hM : ∀ x ∈ M', x ∈ M) (hk : k ≤ R.cells) (hn : n ≤ R.slots)
    (f : ∀ (p : Program) (e : Env) (s : State) (m : MethodId) (args : Array Value) (below : List Frame) (meth : Method) (c : Code) (T : State) (locs : List Loc) (fs : List Frame), Stand p l e R s m args below meth c T locs k n → p.tables.exec = Jvm.exec → c.code = code → meth.sig.returnType = ret →
      (∀ (f : JFrame) (acts : List Action), f.method = m → f.locked = none → f.entered = [] → (doReturn e (T.setTop f) acts v).1 = T.setFrames fs) → Steps p.tables e below (T.setTop (mkF m pc ls st)) (T.setFrames fs)) : G M h k n pc ls st := by
  obtain ⟨p, e, s, m, args, below, meth, c, hx, hc, hml, hnm, hr, hlk, hEL, rfl⟩ := hG
  intro T I
  obtain ⟨vm0, locs, k0, X, eT, hS, hk0, hZ, hown, N, H, S, hn0⟩ := I
  obtain ⟨fs, h1, h2, h3, h4⟩ := X.leaveW (v := v) hS (by rw [eT]; exact hk0) (fun q => hv (hr ▸ q)) hlk
  have A := CHv.at X hZ hEL H.1
  have eh : (T.setFrames fs).heap = h := eT
  have ev : (T.setFrames fs).vm = T.vm := rfl
  refine ⟨_, _, f p e (s.setVm vm0) m args below meth c T locs fs X hx hc hr h1, h2, h3, v, locs, M', rfl, by rw [eh]; exact hq, N, by rw [eh, ev]; exact H.trans A, by rw [eh, ev]; exact (S.chr A).sub hM, by rw [eh]; exact hn0, h4.1, h4.2.1, h4.2.2.1, h4.2.2.2.mono hk hn⟩
end Jvm.OwnWp
namespace Jvm.OwnWp
open Sem ClassFile Op Lib Bundle Jvm.Stand Jvm.Free Jvm.LawKit Jvm.RoadKit
variable {G : GoT} {l : Launch} {Z : State} {a0 : Array Value} {EL : ELT} {n0 : Nat} {own name : String} {code : ByteArray} {maxL : Nat} {ret : Option FieldType} {R : Room} {Q : QT}
variable {M M' : List Addr} {h h' : Heap} {k n k' n' pc pc' : Nat} {ls ls' : Array Slot} {st st' rest : List Value}
theorem iloadN (hG : IsGo G l Z a0 EL n0 own name code maxL ret R Q) {j : Fin 4} {x : Int32} (hd : decode code pc = .ok (.iload_n j, 1)) (hl : ls[j.val]? = some (.val (.int x))) (k1 : G M h k n (pc + 1) ls (.int x :: st)) : G M h k n pc ls st :=
  plain hG (fun _ _ _ _ _ _ _ A hx hc r => XS.iloadN A hx rfl (hb hc hd) hl r) k1
theorem iload (hG : IsGo G l Z a0 EL n0 own name code maxL ret R Q) {j : Nat} {x : Int32} (hd : decode code pc = .ok (.iload j, 2)) (hl : ls[j]? = some (.val (.int x))) (k1 : G M h k n (pc + 2) ls (.int x :: st)) : G M h k n pc ls st :=
  plain hG (fun _ _ _ _ _ _ _ A hx hc r => XS.iload A hx rfl (hb hc hd) hl r) k1
theorem istoreN (hG : IsGo G l Z a0 EL n0 own name code maxL ret R Q) {j : Fin 4} {x : Int32} (hd : decode code pc = .ok (.istore_n j, 1))  (hl : storeLocals ls j.val (.int x) = some ls') (k1 : G M h k n (pc + 1) ls' st) : G M h k n pc ls (.int x :: st) :=
  plain hG (fun _ _ _ _ _ _ _ A hx hc r => XS.istoreN A hx rfl (hb hc hd) rfl hl r) k1
theorem istore (hG : IsGo G l Z a0 EL n0 own name code maxL ret R Q) {j : Nat} {x : Int32} (hd : decode code pc = .ok (.istore j, 2))  (hl : storeLocals ls j (.int x) = some ls') (k1 : G M h k n (pc + 2) ls' st) : G M h k n pc ls (.int x :: st) :=
  plain hG (fun _ _ _ _ _ _ _ A hx hc r => XS.istore A hx rfl (hb hc hd) rfl hl r) k1
theorem aloadN (hG : IsGo G l Z a0 EL n0 own name code maxL ret R Q) {j : Fin 4} {v : Value} (hd : decode code pc = .ok (.aload_n j, 1)) (hl : ls[j.val]? = some (.val (v))) (hv : v.isRef = true) (k1 : G M h k n (pc + 1) ls (v :: st)) : G M h k n pc ls st :=
  plain hG (fun _ _ _ _ _ _ _ A hx hc r => XS.aloadN A hx rfl (hb hc hd) hl hv r) k1
theorem aload (hG : IsGo G l Z a0 EL n0 own name code maxL ret R Q) {j : Nat} {v : Value} (hd : decode code pc = .ok (.aload j, 2)) (hl : ls[j]? = some (.val (v))) (hv : v.isRef = true) (k1 : G M h k n (pc + 2) ls (v :: st)) : G M h k n pc ls st :=
  plain hG (fun _ _ _ _ _ _ _ A hx hc r => XS.aload A hx rfl (hb hc hd) hl hv r) k1
theorem astoreN (hG : IsGo G l Z a0 EL n0 own name code maxL ret R Q) {j : Fin 4} {v : Value} (hd : decode code pc = .ok (.astore_n j, 1)) (hv : v.isRef = true) (hl : storeLocals ls j.val (v) = some ls') (k1 : G M h k n (pc + 1) ls' st) : G M h k n pc ls (v :: st) :=
  plain hG (fun _ _ _ _ _ _ _ A hx hc r => XS.astoreN A hx rfl (hb hc hd) rfl hv hl r) k1
theorem astore (hG : IsGo G l Z a0 EL n0 own name code maxL ret R Q) {j : Nat} {v : Value} (hd : decode code pc = .ok (.astore j, 2)) (hv : v.isRef = true) (hl : storeLocals ls j (v) = some ls') (k1 : G M h k n (pc + 2) ls' st) : G M h k n pc ls (v :: st) :=
  plain hG (fun _ _ _ _ _ _ _ A hx hc r => XS.astore A hx rfl (hb hc hd) rfl hv hl r) k1
theorem istoreS (hG : IsGo G l Z a0 EL n0 own name code maxL ret R Q) {j : Nat} {x : Int32} {o : Slot} (hd : decode code pc = .ok (.istore j, 2)) (hold : ls[j]? = some o) (ho : One o) (k1 : G M h k n (pc + 2) (ls.setIfInBounds j (.val (.int x))) st) : G M h k n pc ls (.int x :: st) :=
  plain hG (fun _ _ _ _ _ _ _ A hx hc r => XS.istoreS A hx rfl (hb hc hd) rfl hold ho r) k1
theorem istoreSN (hG : IsGo G l Z a0 EL n0 own name code maxL ret R Q) {j : Fin 4} {x : Int32} {o : Slot} (hd : decode code pc = .ok (.istore_n j, 1)) (hold : ls[j.val]? = some o) (ho : One o) (k1 : G M h k n (pc + 1) (ls.setIfInBounds j.val (.val (.int x))) st) : G M h k n pc ls (.int x :: st) :=
  plain hG (fun _ _ _ _ _ _ _ A hx hc r => XS.istoreNS A hx rfl (hb hc hd) rfl hold ho r) k1
theorem astoreS (hG : IsGo G l Z a0 EL n0 own name code maxL ret R Q) {j : Nat} {v : Value} {o : Slot} (hd : decode code pc = .ok (.astore j, 2)) (hv : v.isRef = true) (hc1 : v.category = 1) (hold : ls[j]? = some o) (ho : One o) (k1 : G M h k n (pc + 2) (ls.setIfInBounds j (.val (v))) st) : G M h k n pc ls (v :: st) :=
  plain hG (fun _ _ _ _ _ _ _ A hx hc r => XS.astoreS A hx rfl (hb hc hd) rfl hv hc1 hold ho r) k1
theorem astoreSN (hG : IsGo G l Z a0 EL n0 own name code maxL ret R Q) {j : Fin 4} {v : Value} {o : Slot} (hd : decode code pc = .ok (.astore_n j, 1)) (hv : v.isRef = true) (hc1 : v.category = 1) (hold : ls[j.val]? = some o) (ho : One o) (k1 : G M h k n (pc + 1) (ls.setIfInBounds j.val (.val (v))) st) : G M h k n pc ls (v :: st) :=
  plain hG (fun _ _ _ _ _ _ _ A hx hc r => XT.astoreNS A hx rfl (hb hc hd) rfl hv hc1 hold ho r) k1
theorem iconst (hG : IsGo G l Z a0 EL n0 own name code maxL ret R Q) {i : Int} (hd : decode code pc = .ok (.iconst i, 1)) (x : Int32) (hv : Int32.ofInt i = x) (k1 : G M h k n (pc + 1) ls (.int x :: st)) : G M h k n pc ls st :=
  plain hG (fun _ _ _ _ _ _ _ A hx hc r => XS.iconst A hx rfl (hb hc hd) (by rw [hv]; exact r)) k1
theorem bipush (hG : IsGo G l Z a0 EL n0 own name code maxL ret R Q) {i : Int} (hd : decode code pc = .ok (.bipush i, 2)) (x : Int32) (hv : (Int8.ofInt i).toInt32 = x) (k1 : G M h k n (pc + 2) ls (.int x :: st)) : G M h k n pc ls st :=
  plain hG (fun _ _ _ _ _ _ _ A hx hc r => XS.bipush A hx rfl (hb hc hd) (by rw [hv]; exact r)) k1
theorem sipush (hG : IsGo G l Z a0 EL n0 own name code maxL ret R Q) {i : Int} (hd : decode code pc = .ok (.sipush i, 3)) (x : Int32) (hv : (Int16.ofInt i).toInt32 = x) (k1 : G M h k n (pc + 3) ls (.int x :: st)) : G M h k n pc ls st :=
  plain hG (fun _ _ _ _ _ _ _ A hx hc r => XS.sipush A hx rfl (hb hc hd) (by rw [hv]; exact r)) k1
theorem aconst_null (hG : IsGo G l Z a0 EL n0 own name code maxL ret R Q)  (hd : decode code pc = .ok (.aconst_null, 1)) (k1 : G M h k n (pc + 1) ls (.null :: st)) : G M h k n pc ls st :=
  plain hG (fun _ _ _ _ _ _ _ A hx hc r => XS.aconstNull A hx rfl (hb hc hd) r) k1
theorem iadd (hG : IsGo G l Z a0 EL n0 own name code maxL ret R Q) {x y : Int32} (hd : decode code pc = .ok (.iadd, 1)) (k1 : G M h k n (pc + 1) ls (.int (x + y) :: st)) : G M h k n pc ls (.int y :: .int x :: st) :=
  plain hG (fun _ _ _ _ _ _ _ A hx hc r => XS.iadd A hx rfl (hb hc hd) rfl r) k1
theorem isub (hG : IsGo G l Z a0 EL n0 own name code maxL ret R Q) {x y : Int32} (hd : decode code pc = .ok (.isub, 1)) (k1 : G M h k n (pc + 1) ls (.int (x - y) :: st)) : G M h k n pc ls (.int y :: .int x :: st) :=
  plain hG (fun _ _ _ _ _ _ _ A hx hc r => XS.isub A hx rfl (hb hc hd) rfl r) k1
theorem iand (hG : IsGo G l Z a0 EL n0 own name code maxL ret R Q) {x y : Int32} (hd : decode code pc = .ok (.iand, 1)) (k1 : G M h k n (pc + 1) ls (.int (x &&& y) :: st)) : G M h k n pc ls (.int y :: .int x :: st) :=
  plain hG (fun _ _ _ _ _ _ _ A hx hc r => XS.iand A hx rfl (hb hc hd) rfl r) k1
theorem imul (hG : IsGo G l Z a0 EL n0 own name code maxL ret R Q) {x y : Int32} (hd : decode code pc = .ok (.imul, 1)) (k1 : G M h k n (pc + 1) ls (.int (x * y) :: st)) : G M h k n pc ls (.int y :: .int x :: st) :=
  plain hG (fun _ _ _ _ _ _ _ A hx hc r => XS.imul A hx rfl (hb hc hd) rfl r) k1
theorem ior (hG : IsGo G l Z a0 EL n0 own name code maxL ret R Q) {x y : Int32} (hd : decode code pc = .ok (.ior, 1)) (k1 : G M h k n (pc + 1) ls (.int (x ||| y) :: st)) : G M h k n pc ls (.int y :: .int x :: st) :=
  plain hG (fun _ _ _ _ _ _ _ A hx hc r => XS.ior A hx rfl (hb hc hd) rfl r) k1
theorem ixor (hG : IsGo G l Z a0 EL n0 own name code maxL ret R Q) {x y : Int32} (hd : decode code pc = .ok (.ixor, 1)) (k1 : G M h k n (pc + 1) ls (.int (x ^^^ y) :: st)) : G M h k n pc ls (.int y :: .int x :: st) :=
  plain hG (fun _ _ _ _ _ _ _ A hx hc r => XS.ixor A hx rfl (hb hc hd) rfl r) k1
theorem ishl (hG : IsGo G l Z a0 EL n0 own name code maxL ret R Q) {x y : Int32} (hd : decode code pc = .ok (.ishl, 1)) (k1 : G M h k n (pc + 1) ls (.int (x <<< (y &&& 31)) :: st)) : G M h k n pc ls (.int y :: .int x :: st) :=
  plain hG (fun _ _ _ _ _ _ _ A hx hc r => XS.ishl A hx rfl (hb hc hd) rfl r) k1
theorem ishr (hG : IsGo G l Z a0 EL n0 own name code maxL ret R Q) {x y : Int32} (hd : decode code pc = .ok (.ishr, 1)) (k1 : G M h k n (pc + 1) ls (.int (x >>> (y &&& 31)) :: st)) : G M h k n pc ls (.int y :: .int x :: st) :=
  plain hG (fun _ _ _ _ _ _ _ A hx hc r => XS.ishr A hx rfl (hb hc hd) rfl r) k1
theorem iushr (hG : IsGo G l Z a0 EL n0 own name code maxL ret R Q) {x y : Int32} (hd : decode code pc = .ok (.iushr, 1)) (k1 : G M h k n (pc + 1) ls (.int ((x.toUInt32 >>> (y &&& 31).toUInt32).toInt32) :: st)) : G M h k n pc ls (.int y :: .int x :: st) :=
  plain hG (fun _ _ _ _ _ _ _ A hx hc r => XS.iushr A hx rfl (hb hc hd) rfl r) k1
theorem ineg (hG : IsGo G l Z a0 EL n0 own name code maxL ret R Q) {x : Int32} (hd : decode code pc = .ok (.ineg, 1)) (k1 : G M h k n (pc + 1) ls (.int (-x) :: st)) : G M h k n pc ls (.int x :: st) :=
  plain hG (fun _ _ _ _ _ _ _ A hx hc r => XS.ineg A hx rfl (hb hc hd) rfl r) k1
theorem i2b (hG : IsGo G l Z a0 EL n0 own name code maxL ret R Q) {x : Int32} (hd : decode code pc = .ok (.i2b, 1)) (k1 : G M h k n (pc + 1) ls (.int x.toInt8.toInt32 :: st)) : G M h k n pc ls (.int x :: st) :=
  plain hG (fun _ _ _ _ _ _ _ A hx hc r => XS.i2b A hx rfl (hb hc hd) rfl r) k1
theorem i2c (hG : IsGo G l Z a0 EL n0 own name code maxL ret R Q) {x : Int32} (hd : decode code pc = .ok (.i2c, 1)) (k1 : G M h k n (pc + 1) ls (.int x.toUInt32.toUInt16.toUInt32.toInt32 :: st)) : G M h k n pc ls (.int x :: st) :=
  plain hG (fun _ _ _ _ _ _ _ A hx hc r => XS.i2c A hx rfl (hb hc hd) rfl r) k1
theorem idiv (hG : IsGo G l Z a0 EL n0 own name code maxL ret R Q) {x y : Int32} (hd : decode code pc = .ok (.idiv, 1)) (hy : y ≠ 0) (k1 : G M h k n (pc + 1) ls (.int (x / y) :: st)) : G M h k n pc ls (.int y :: .int x :: st) :=
  plain hG (fun _ _ _ _ _ _ _ A hx hc r => XS.idiv A hx rfl (hb hc hd) rfl hy r) k1
theorem dup (hG : IsGo G l Z a0 EL n0 own name code maxL ret R Q) {v : Value} (hd : decode code pc = .ok (.dup, 1)) (hc1 : v.category = 1) (k1 : G M h k n (pc + 1) ls (v :: v :: st)) : G M h k n pc ls (v :: st) :=
  plain hG (fun _ _ _ _ _ _ _ A hx hc r => XS.dup A hx rfl (hb hc hd) rfl hc1 r) k1
theorem pop (hG : IsGo G l Z a0 EL n0 own name code maxL ret R Q) {v : Value} (hd : decode code pc = .ok (.pop, 1)) (hc1 : v.category = 1) (k1 : G M h k n (pc + 1) ls st) : G M h k n pc ls (v :: st) :=
  plain hG (fun _ _ _ _ _ _ _ A hx hc r => XS.pop A hx rfl (hb hc hd) rfl hc1 r) k1
theorem dup_x1 (hG : IsGo G l Z a0 EL n0 own name code maxL ret R Q) {v w : Value} (hd : decode code pc = .ok (.dup_x1, 1)) (hc1 : v.category = 1) (hc2 : w.category = 1) (k1 : G M h k n (pc + 1) ls (v :: w :: v :: st)) : G M h k n pc ls (v :: w :: st) :=
  plain hG (fun _ _ _ _ _ _ _ A hx hc r => XS.dupX1 A hx rfl (hb hc hd) rfl hc1 hc2 r) k1
theorem iinc (hG : IsGo G l Z a0 EL n0 own name code maxL ret R Q) {j : Nat} {cst : Int} {x : Int32} (hd : decode code pc = .ok (.iinc j cst, 3)) (hl : ls[j]? = some (.val (.int x))) (y : Int32) (hv : x + Int32.ofInt cst = y) (hl' : storeLocals ls j (.int y) = some ls') (k1 : G M h k n (pc + 3) ls' st) : G M h k n pc ls st :=
  plain hG (fun _ _ _ _ _ _ _ A hx hc r => XS.iinc A hx rfl (hb hc hd) hl (by rw [hv]; exact hl') r) k1
theorem goto (hG : IsGo G l Z a0 EL n0 own name code maxL ret R Q) {o : Int} (hd : decode code pc = .ok (.goto o, 3)) (ho : 0 ≤ (pc : Int) + o) (hp : ((pc : Int) + o).toNat = pc') (k1 : G M h k n pc' ls st) : G M h k n pc ls st :=
  plain hG (fun _ _ _ _ _ _ _ A hx hc r => XS.goto A hx rfl rfl (hb hc hd) ho hp r) k1
theorem ifYes (hG : IsGo G l Z a0 EL n0 own name code maxL ret R Q) {o : Int} {cd : ClassFile.Cond} {x : Int32} (hd : decode code pc = .ok (.ifCond cd o, 3)) (hc1 : if_icmp.holds cd x 0 = true) (ho : 0 ≤ (pc : Int) + o) (hp : ((pc : Int) + o).toNat = pc') (k1 : G M h k n pc' ls st) : G M h k n pc ls (.int x :: st) :=
  plain hG (fun _ _ _ _ _ _ _ A hx hc r => XS.ifYes A hx rfl rfl (hb hc hd) rfl (by rw [if0]; exact hc1) ho hp r) k1
theorem ifNo (hG : IsGo G l Z a0 EL n0 own name code maxL ret R Q) {o : Int} {cd : ClassFile.Cond} {x : Int32} (hd : decode code pc = .ok (.ifCond cd o, 3)) (hc1 : if_icmp.holds cd x 0 = false) (k1 : G M h k n (pc + 3) ls st) : G M h k n pc ls (.int x :: st) :=
  plain hG (fun _ _ _ _ _ _ _ A hx hc r => XS.ifNo A hx rfl (hb hc hd) rfl (by rw [if0]; exact hc1) r) k1
theorem icmpYes (hG : IsGo G l Z a0 EL n0 own name code maxL ret R Q) {o : Int} {cd : ClassFile.Cond} {x y : Int32} (hd : decode code pc = .ok (.if_icmp cd o, 3)) (hc1 : if_icmp.holds cd x y = true) (ho : 0 ≤ (pc : Int) + o) (hp : ((pc : Int) + o).toNat = pc') (k1 : G M h k n pc' ls st) : G M h k n pc ls (.int y :: .int x :: st) :=
  plain hG (fun _ _ _ _ _ _ _ A hx hc r => XS.icmpYes A hx rfl rfl (hb hc hd) rfl hc1 ho hp r) k1
theorem icmpNo (hG : IsGo G l Z a0 EL n0 own name code maxL ret R Q) {o : Int} {cd : ClassFile.Cond} {x y : Int32} (hd : decode code pc = .ok (.if_icmp cd o, 3)) (hc1 : if_icmp.holds cd x y = false) (k1 : G M h k n (pc + 3) ls st) : G M h k n pc ls (.int y :: .int x :: st) :=
  plain hG (fun _ _ _ _ _ _ _ A hx hc r => XS.icmpNo A hx rfl (hb hc hd) rfl hc1 r) k1
theorem icmp_eq (hG : IsGo G l Z a0 EL n0 own name code maxL ret R Q) {o : Int} {x y : Int32} (hd : decode code pc = .ok (.if_icmp .eq o, 3)) (ho : 0 ≤ (pc : Int) + o) (hp : ((pc : Int) + o).toNat = pc') (k1 : x = y → G M h k n pc' ls st) (k2 : ¬ (x = y) → G M h k n (pc + 3) ls st) : G M h k n pc ls (.int y :: .int x :: st) := by
  by_cases q : x = y
  · exact icmpYes hG hd (teq q).1 ho hp (k1 q)
  · exact icmpNo hG hd (feq q).1 (k2 q)
theorem if_eq (hG : IsGo G l Z a0 EL n0 own name code maxL ret R Q) {o : Int} {x : Int32} (hd : decode code pc = .ok (.ifCond .eq o, 3)) (ho : 0 ≤ (pc : Int) + o) (hp : ((pc : Int) + o).toNat = pc') (k1 : x = 0 → G M h k n pc' ls st) (k2 : ¬ (x = 0) → G M h k n (pc + 3) ls st) : G M h k n pc ls (.int x :: st) := by
  by_cases q : x = 0
  · exact ifYes hG hd (teq q).1 ho hp (k1 q)
  · exact ifNo hG hd (feq q).1 (k2 q)
theorem icmp_ne (hG : IsGo G l Z a0 EL n0 own name code maxL ret R Q) {o : Int} {x y : Int32} (hd : decode code pc = .ok (.if_icmp .ne o, 3)) (ho : 0 ≤ (pc : Int) + o) (hp : ((pc : Int) + o).toNat = pc') (k1 : ¬ (x = y) → G M h k n pc' ls st) (k2 : x = y → G M h k n (pc + 3) ls st) : G M h k n pc ls (.int y :: .int x :: st) := by
  by_cases q : x = y
  · exact icmpNo hG hd (teq q).2 (k2 q)
  · exact icmpYes hG hd (feq q).2 ho hp (k1 q)
theorem if_ne (hG : IsGo G l Z a0 EL n0 own name code maxL ret R Q) {o : Int} {x : Int32} (hd : decode code pc = .ok (.ifCond .ne o, 3)) (ho : 0 ≤ (pc : Int) + o) (hp : ((pc : Int) + o).toNat = pc') (k1 : ¬ (x = 0) → G M h k n pc' ls st) (k2 : x = 0 → G M h k n (pc + 3) ls st) : G M h k n pc ls (.int x :: st) := by
  by_cases q : x = 0
  · exact ifNo hG hd (teq q).2 (k2 q)
  · exact ifYes hG hd (feq q).2 ho hp (k1 q)
theorem icmp_lt (hG : IsGo G l Z a0 EL n0 own name code maxL ret R Q) {o : Int} {x y : Int32} (hd : decode code pc = .ok (.if_icmp .lt o, 3)) (ho : 0 ≤ (pc : Int) + o) (hp : ((pc : Int) + o).toNat = pc') (k1 : x < y → G M h k n pc' ls st) (k2 : ¬ (x < y) → G M h k n (pc + 3) ls st) : G M h k n pc ls (.int y :: .int x :: st) := by
  by_cases q : x < y
  · exact icmpYes hG hd (tlt q).1 ho hp (k1 q)
  · exact icmpNo hG hd (flt q).1 (k2 q)
theorem if_lt (hG : IsGo G l Z a0 EL n0 own name code maxL ret R Q) {o : Int} {x : Int32} (hd : decode code pc = .ok (.ifCond .lt o, 3)) (ho : 0 ≤ (pc : Int) + o) (hp : ((pc : Int) + o).toNat = pc') (k1 : x < 0 → G M h k n pc' ls st) (k2 : ¬ (x < 0) → G M h k n (pc + 3) ls st) : G M h k n pc ls (.int x :: st) := by
  by_cases q : x < 0
  · exact ifYes hG hd (tlt q).1 ho hp (k1 q)
  · exact ifNo hG hd (flt q).1 (k2 q)
theorem icmp_ge (hG : IsGo G l Z a0 EL n0 own name code maxL ret R Q) {o : Int} {x y : Int32} (hd : decode code pc = .ok (.if_icmp .ge o, 3)) (ho : 0 ≤ (pc : Int) + o) (hp : ((pc : Int) + o).toNat = pc') (k1 : ¬ (x < y) → G M h k n pc' ls st) (k2 : x < y → G M h k n (pc + 3) ls st) : G M h k n pc ls (.int y :: .int x :: st) := by
  by_cases q : x < y
  · exact icmpNo hG hd (tlt q).2.1 (k2 q)
  · exact icmpYes hG hd (flt q).2.1 ho hp (k1 q)
theorem if_ge (hG : IsGo G l Z a0 EL n0 own name code maxL ret R Q) {o : Int} {x : Int32} (hd : decode code pc = .ok (.ifCond .ge o, 3)) (ho : 0 ≤ (pc : Int) + o) (hp : ((pc : Int) + o).toNat = pc') (k1 : ¬ (x < 0) → G M h k n pc' ls st) (k2 : x < 0 → G M h k n (pc + 3) ls st) : G M h k n pc ls (.int x :: st) := by
  by_cases q : x < 0
  · exact ifNo hG hd (tlt q).2.1 (k2 q)
  · exact ifYes hG hd (flt q).2.1 ho hp (k1 q)
theorem icmp_gt (hG : IsGo G l Z a0 EL n0 own name code maxL ret R Q) {o : Int} {x y : Int32} (hd : decode code pc = .ok (.if_icmp .gt o, 3)) (ho : 0 ≤ (pc : Int) + o) (hp : ((pc : Int) + o).toNat = pc') (k1 : y < x → G M h k n pc' ls st) (k2 : ¬ (y < x) → G M h k n (pc + 3) ls st) : G M h k n pc ls (.int y :: .int x :: st) := by
  by_cases q : y < x
  · exact icmpYes hG hd (tlt q).2.2.1 ho hp (k1 q)
  · exact icmpNo hG hd (flt q).2.2.1 (k2 q)
theorem if_gt (hG : IsGo G l Z a0 EL n0 own name code maxL ret R Q) {o : Int} {x : Int32} (hd : decode code pc = .ok (.ifCond .gt o, 3)) (ho : 0 ≤ (pc : Int) + o) (hp : ((pc : Int) + o).toNat = pc') (k1 : 0 < x → G M h k n pc' ls st) (k2 : ¬ (0 < x) → G M h k n (pc + 3) ls st) : G M h k n pc ls (.int x :: st) := by
  by_cases q : 0 < x
  · exact ifYes hG hd (tlt q).2.2.1 ho hp (k1 q)
  · exact ifNo hG hd (flt q).2.2.1 (k2 q)
theorem icmp_le (hG : IsGo G l Z a0 EL n0 own name code maxL ret R Q) {o : Int} {x y : Int32} (hd : decode code pc = .ok (.if_icmp .le o, 3)) (ho : 0 ≤ (pc : Int) + o) (hp : ((pc : Int) + o).toNat = pc') (k1 : ¬ (y < x) → G M h k n pc' ls st) (k2 : y < x → G M h k n (pc + 3) ls st) : G M h k n pc ls (.int y :: .int x :: st) := by
  by_cases q : y < x
  · exact icmpNo hG hd (tlt q).2.2.2 (k2 q)
  · exact icmpYes hG hd (flt q).2.2.2 ho hp (k1 q)
theorem if_le (hG : IsGo G l Z a0 EL n0 own name code maxL ret R Q) {o : Int} {x : Int32} (hd : decode code pc = .ok (.ifCond .le o, 3)) (ho : 0 ≤ (pc : Int) + o) (hp : ((pc : Int) + o).toNat = pc') (k1 : ¬ (0 < x) → G M h k n pc' ls st) (k2 : 0 < x → G M h k n (pc + 3) ls st) : G M h k n pc ls (.int x :: st) := by
  by_cases q : 0 < x
  · exact ifNo hG hd (tlt q).2.2.2 (k2 q)
  · exact ifYes hG hd (flt q).2.2.2 ho hp (k1 q)
theorem ifnullYes (hG : IsGo G l Z a0 EL n0 own name code maxL ret R Q) {o : Int} (hd : decode code pc = .ok (.ifnull o, 3)) (ho : 0 ≤ (pc : Int) + o) (hp : ((pc : Int) + o).toNat = pc') (k1 : G M h k n pc' ls st) : G M h k n pc ls (.null :: st) :=
  plain hG (fun _ _ _ _ _ _ _ A hx hc r => XS.ifnullYes A hx rfl rfl (hb hc hd) rfl ho hp r) k1
theorem ifnullNo (hG : IsGo G l Z a0 EL n0 own name code maxL ret R Q) {o : Int} {a : Addr} (hd : decode code pc = .ok (.ifnull o, 3)) (k1 : G M h k n (pc + 3) ls st) : G M h k n pc ls (.ref a :: st) :=
  plain hG (fun _ _ _ _ _ _ _ A hx hc r => XS.ifnullNo A hx rfl (hb hc hd) rfl r) k1
theorem ifnonnullYes (hG : IsGo G l Z a0 EL n0 own name code maxL ret R Q) {o : Int} {a : Addr} (hd : decode code pc = .ok (.ifnonnull o, 3)) (ho : 0 ≤ (pc : Int) + o) (hp : ((pc : Int) + o).toNat = pc') (k1 : G M h k n pc' ls st) : G M h k n pc ls (.ref a :: st) :=
  plain hG (fun _ _ _ _ _ _ _ A hx hc r => XS.ifnonnullYes A hx rfl rfl (hb hc hd) rfl ho hp r) k1
theorem ifnonnullNo (hG : IsGo G l Z a0 EL n0 own name code maxL ret R Q) {o : Int} (hd : decode code pc = .ok (.ifnonnull o, 3)) (k1 : G M h k n (pc + 3) ls st) : G M h k n pc ls (.null :: st) :=
  plain hG (fun _ _ _ _ _ _ _ A hx hc r => XS.ifnonnullNo A hx rfl (hb hc hd) rfl r) k1
theorem acmp_ne (hG : IsGo G l Z a0 EL n0 own name code maxL ret R Q) {o : Int} {x y : Value} (hd : decode code pc = .ok (.if_acmp .ne o, 3)) (hx1 : x.isRef = true) (hy1 : y.isRef = true) (ho : 0 ≤ (pc : Int) + o) (hp : ((pc : Int) + o).toNat = pc') (k1 : ¬ x = y → G M h k n pc' ls st) (k2 : x = y → G M h k n (pc + 3) ls st) : G M h k n pc ls (y :: x :: st) := by
  by_cases q : x = y
  · exact plain hG (fun _ _ _ _ _ _ _ A hx hc r => XT.acmpNo A hx rfl (hb hc hd) rfl hx1 hy1 (by simp [XT.acmp, q]) r) (k2 q)
  · exact plain hG (fun _ _ _ _ _ _ _ A hx hc r => XT.acmpYes A hx rfl rfl (hb hc hd) rfl hx1 hy1 (by simp [XT.acmp, q]) ho hp r) (k1 q)
theorem acmp_eq (hG : IsGo G l Z a0 EL n0 own name code maxL ret R Q) {o : Int} {x y : Value} (hd : decode code pc = .ok (.if_acmp .eq o, 3)) (hx1 : x.isRef = true) (hy1 : y.isRef = true) (ho : 0 ≤ (pc : Int) + o) (hp : ((pc : Int) + o).toNat = pc') (k1 : x = y → G M h k n pc' ls st) (k2 : ¬ x = y → G M h k n (pc + 3) ls st) : G M h k n pc ls (y :: x :: st) := by
  by_cases q : x = y
  · exact plain hG (fun _ _ _ _ _ _ _ A hx hc r => XT.acmpYes A hx rfl rfl (hb hc hd) rfl hx1 hy1 (by simp [XT.acmp, q]) ho hp r) (k1 q)
  · exact plain hG (fun _ _ _ _ _ _ _ A hx hc r => XT.acmpNo A hx rfl (hb hc hd) rfl hx1 hy1 (by simp [XT.acmp, q]) r) (k2 q)
theorem irem (hG : IsGo G l Z a0 EL n0 own name code maxL ret R Q) {x y : Int32} (hd : decode code pc = .ok (.irem, 1)) (hy : y ≠ 0) (k1 : G M h k n (pc + 1) ls (.int (x % y) :: st)) : G M h k n pc ls (.int y :: .int x :: st) :=
  stepX hG (fun _ _ _ _ _ _ _ _ T _ X hx hc _ eT _ _ => ⟨T, X, eT, fun _ r => iremM X hx (g := mkF _ pc ls _) rfl (hb hc hd) rfl hy r⟩) k1
theorem getfield (hG : IsGo G l Z a0 EL n0 own name code maxL ret R Q) {R0 O nm d : String} {index : Nat} (hd : decode code pc = .ok (.getfield index, 3)) (w : (Cond.fieldLink own index R0 nm d).before a0 Z = true) (via : Via Z R0 O nm d) {a : Addr} {v : Value} (F : Fld Z h a O nm d v) (k1 : G M h k n (pc + 3) ls (v :: st)) : G M h k n pc ls (.ref a :: st) :=
  stepX hG (fun _ _ _ m _ _ _ _ _ _ X hx hc _ eT hZ hown => getF X hx hZ hown (host := "") (Or.inl w) via eT F (g := mkF m pc ls (.ref a :: st)) rfl rfl (hb hc hd)) k1
theorem getfieldN (hG : IsGo G l Z a0 EL n0 own name code maxL ret R Q) {R0 O nm d host : String} {index : Nat} (hd : decode code pc = .ok (.getfield index, 3)) (w : (Cond.fieldLinkNest own index R0 nm d host).before a0 Z = true) (via : Via Z R0 O nm d) {a : Addr} {v : Value} (F : Fld Z h a O nm d v) (k1 : G M h k n (pc + 3) ls (v :: st)) : G M h k n pc ls (.ref a :: st) :=
  stepX hG (fun _ _ _ m _ _ _ _ _ _ X hx hc _ eT hZ hown => getF X hx hZ hown (Or.inr w) via eT F (g := mkF m pc ls (.ref a :: st)) rfl rfl (hb hc hd)) k1
theorem getstatic (hG : IsGo G l Z a0 EL n0 own name code maxL ret R Q) {R0 O nm d : String} {index : Nat} (hd : decode code pc = .ok (.getstatic index, 3)) (w : (Cond.fieldLink own index R0 nm d).before a0 Z = true) (via : Via Z R0 O nm d) {v : Value} (F : Sta Z Z.heap O nm d v) (k1 : G M h k n (pc + 3) ls (v :: st)) : G M h k n pc ls st :=
  facts hG fun O9 _ => stepX hG (fun _ _ _ m _ _ _ _ _ _ X hx hc _ eT hZ hown => getS (host := "") X hx hZ hown w via eT (F.ext O9.2) (g := mkF m pc ls st) rfl (hb hc hd)) k1
theorem getstaticN (hG : IsGo G l Z a0 EL n0 own name code maxL ret R Q) {R0 O nm d host : String} {index : Nat} (hd : decode code pc = .ok (.getstatic index, 3)) (w : (Cond.fieldLinkNest own index R0 nm d host).before a0 Z = true) (via : Via Z R0 O nm d) {v : Value} (F : Sta Z Z.heap O nm d v) (k1 : G M h k n (pc + 3) ls (v :: st)) : G M h k n pc ls st :=
  facts hG fun O9 _ => stepX hG (fun _ _ _ m _ _ _ _ _ _ X hx hc _ eT hZ hown => getS2 X hx hZ hown (Or.inr w) via eT (F.ext O9.2) (g := mkF m pc ls st) rfl (hb hc hd)) k1
theorem checkcast (hG : IsGo G l Z a0 EL n0 own name code maxL ret R Q) {K : String} {index : Nat} (hd : decode code pc = .ok (.checkcast index, 3)) (w : (Cond.classLink own index K).before a0 Z = true) {a : Addr} (F : Ins Z h a K true) (k1 : G M h k n (pc + 3) ls (.ref a :: st)) : G M h k n pc ls (.ref a :: st) :=
  stepX hG (fun _ _ _ m _ _ _ _ _ _ X hx hc _ eT hZ hown => castY X hx hZ hown w eT F (g := mkF m pc ls (.ref a :: st)) rfl rfl (hb hc hd)) k1
theorem instYes (hG : IsGo G l Z a0 EL n0 own name code maxL ret R Q) {K : String} {index : Nat} (hd : decode code pc = .ok (.instanceof index, 3)) (w : (Cond.classLink own index K).before a0 Z = true) {a : Addr} (F : Ins Z h a K true) (k1 : G M h k n (pc + 3) ls (.int 1 :: st)) : G M h k n pc ls (.ref a :: st) :=
  stepX hG (fun _ _ _ m _ _ _ _ _ _ X hx hc _ eT hZ hown => instY X hx hZ hown w eT F (g := mkF m pc ls (.ref a :: st)) rfl rfl (hb hc hd)) k1
theorem instNot (hG : IsGo G l Z a0 EL n0 own name code maxL ret R Q) {K C : String} {index : Nat} (hd : decode code pc = .ok (.instanceof index, 3)) (w : (Cond.classLink own index K).before a0 Z = true) {a : Addr} (E : Exa Z h a C) (F : ∃ c t, Z.vm.findClass C = some c ∧ Z.vm.findClass K = some t ∧ Z.vm.assignable c t = false) (k1 : G M h k n (pc + 3) ls (.int 0 :: st)) : G M h k n pc ls (.ref a :: st) :=
  stepX hG (fun _ _ _ m _ _ _ _ _ _ X hx hc _ eT hZ hown => instNo X hx hZ hown w eT E F (g := mkF m pc ls (.ref a :: st)) rfl rfl (hb hc hd)) k1
theorem objInit (hG : IsGo G l Z a0 EL n0 own name code maxL ret R Q) {index W : Nat} (hd : decode code pc = .ok (.invokespecial index, 3)) (w1 : (Cond.methodLink own index Lib.objectInit).before a0 Z = true) (w2 : (Cond.instanceMethod Lib.objectInit).before a0 Z = true) (w3 : (Cond.code Lib.objectInit ⟨#[0xb1]⟩ 1 none).before a0 Z = true) (hls : ls.size = maxL) (hf : 1 ≤ R.frames) {a : Addr} (hW : (st.map fun v => v.category).sum ≤ W) (hl : W + 12 ≤ R.locals) (k1 : G M h k n (pc + 3) ls st) : G M h k n pc ls (.ref a :: st) :=
  stepX hG (fun _ _ _ m _ _ _ _ _ _ X hx hc hml eT hZ hown => initO X hx hZ hown w1 w2 w3 eT (g := mkF m pc ls (.ref a :: st)) rfl (by rw [hml]; exact hls) rfl (hb hc hd) hf (W := W) (by show 2 * 0 + _ ≤ _; omega) hl) k1
theorem alen (hG : IsGo G l Z a0 EL n0 own name code maxL ret R Q) (hd : decode code pc = .ok (.arraylength, 1)) {a : Addr} {kk : ClassId} {ty : FieldType} {N : Int32} {vs : List Value} {d : Value} (V : Arv Z h a kk ty N vs d) (k1 : G M h k n (pc + 1) ls (.int N :: st)) : G M h k n pc ls (.ref a :: st) :=
  stepX hG (fun _ _ _ m _ _ _ _ T _ X hx hc _ eT hZ _ => ⟨T, X, eT, fun t r => by
    obtain ⟨cl, A, -, S, hN, -⟩ := V
    refine X.arraylength hx (by rw [eT]; exact A.1) (State.isArrayOf_alike hZ.alike A.2.1) (g := mkF m pc ls (.ref a :: st)) rfl rfl (hb hc hd) t ?_
    rw [len_of S hN]; exact r⟩) k1
theorem caload (hG : IsGo G l Z a0 EL n0 own name code maxL ret R Q) (hd : decode code pc = .ok (.caload, 1)) {a : Addr} {kk : ClassId} {N j : Int32} {vs : List Value} {d v : Value} (V : Arv Z h a kk .char N vs d) (hj : ¬ j < 0 ∧ j < N) (hv : vs.getD j.toNatClampNeg d = v) (k1 : G M h k n (pc + 1) ls (v :: st)) : G M h k n pc ls (.int j :: .ref a :: st) :=
  stepX hG (fun _ _ _ m _ _ _ _ T _ X hx hc _ eT hZ _ => ⟨T, X, eT, fun t r => by
    obtain ⟨cl, A, -, S, hN, H, -⟩ := V
    exact X.caload hx (by rw [eT]; exact A.1) (State.isArrayOf_alike hZ.alike A.2.1) A.2.2 (inb_of S hj) (Has.at H (inb_of S hj) hv) (g := mkF m pc ls (.int j :: .ref a :: st)) rfl rfl (hb hc hd) t r⟩) k1
theorem baload (hG : IsGo G l Z a0 EL n0 own name code maxL ret R Q) (hd : decode code pc = .ok (.baload, 1)) {a : Addr} {kk : ClassId} {N j : Int32} {vs : List Value} {d v : Value} (V : Arv Z h a kk .byte N vs d) (hj : ¬ j < 0 ∧ j < N) (hv : vs.getD j.toNatClampNeg d = v) (k1 : G M h k n (pc + 1) ls (v :: st)) : G M h k n pc ls (.int j :: .ref a :: st) :=
  stepX hG (fun _ _ _ m _ _ _ _ T _ X hx hc _ eT hZ _ => ⟨T, X, eT, fun t r => by
    obtain ⟨cl, A, -, S, hN, H, -⟩ := V
    exact X.baloadBytes hx (by rw [eT]; exact A.1) (State.isArrayOf_alike hZ.alike A.2.1) A.2.2 (inb_of S hj) (Has.at H (inb_of S hj) hv) (g := mkF m pc ls (.int j :: .ref a :: st)) rfl rfl (hb hc hd) t r⟩) k1
theorem iaload (hG : IsGo G l Z a0 EL n0 own name code maxL ret R Q) (hd : decode code pc = .ok (.iaload, 1)) {a : Addr} {kk : ClassId} {N j : Int32} {vs : List Value} {d v : Value} (V : Arv Z h a kk .int N vs d) (hj : ¬ j < 0 ∧ j < N) (hv : vs.getD j.toNatClampNeg d = v) (k1 : G M h k n (pc + 1) ls (v :: st)) : G M h k n pc ls (.int j :: .ref a :: st) :=
  stepX hG (fun _ _ _ m _ _ _ _ T _ X hx hc _ eT hZ _ => ⟨T, X, eT, fun t r => by
    obtain ⟨cl, A, -, S, hN, H, -⟩ := V
    exact X.iaload hx (by rw [eT]; exact A.1) (State.isArrayOf_alike hZ.alike A.2.1) A.2.2 (inb_of S hj) (Has.at H (inb_of S hj) hv) (g := mkF m pc ls (.int j :: .ref a :: st)) rfl rfl (hb hc hd) t r⟩) k1
theorem aaload (hG : IsGo G l Z a0 EL n0 own name code maxL ret R Q) (hd : decode code pc = .ok (.aaload, 1)) {a : Addr} {kk : ClassId} {ty : FieldType} (hty : ty.isReference = true) {N j : Int32} {vs : List Value} {d v : Value} (V : Arv Z h a kk ty N vs d) (hj : ¬ j < 0 ∧ j < N) (hv : vs.getD j.toNatClampNeg d = v) (k1 : G M h k n (pc + 1) ls (v :: st)) : G M h k n pc ls (.int j :: .ref a :: st) :=
  stepX hG (fun _ _ _ m _ _ _ _ T _ X hx hc _ eT hZ _ => ⟨T, X, eT, fun t r => by
    obtain ⟨cl, A, -, S, hN, H, -⟩ := V
    exact X.aaload hx (by rw [eT]; exact A.1) (State.isArrayOf_alike hZ.alike A.2.1) hty A.2.2 (inb_of S hj) (Has.at H (inb_of S hj) hv) (g := mkF m pc ls (.int j :: .ref a :: st)) rfl rfl (hb hc hd) t r⟩) k1
theorem putfield (hG : IsGo G l Z a0 EL n0 own name code maxL ret R Q) {R0 O nm d C : String} {index kk : Nat} {ty : FieldType} (hd : decode code pc = .ok (.putfield index, 3)) (w : (Cond.fieldLink own index R0 nm d).before a0 Z = true) (via : Via Z R0 O nm d) {a : Addr} {v old : Value} (F : Fld Z h a O nm d old) (E : Exa Z h a C) (L : (Cond.lays C O nm d).before a0 Z = true ∨ ((Cond.laysFinal C O nm d).before a0 Z = true ∧ own = O ∧ name = "<init>")) (wi : (Cond.instantiable C kk).before a0 Z = true)
    (hty : parseFieldDescriptor d = some ty) (hn : narrow ty v = v) (hf : fits ty v = true) (ha : a ∈ M) (k1 : ∀ h', Wr h h' a (RoadKit.slotOf Z O nm d) v → G M h' k n (pc + 3) ls st) : G M h k n pc ls (v :: .ref a :: st) :=
  stepW hG ha (fun _ _ _ m _ _ _ _ _ _ X hx hc hnm eT hZ hown => putF X hx hZ hown (host := "") (Or.inl w) via eT F E (L.imp id fun q => ⟨q.1, q.2.1, hnm.trans q.2.2⟩) wi hty hn hf (g := mkF m pc ls (v :: .ref a :: st)) rfl rfl (hb hc hd)) k1
theorem castore (hG : IsGo G l Z a0 EL n0 own name code maxL ret R Q) (hd : decode code pc = .ok (.castore, 1)) {a : Addr} {kk : ClassId} {N j x : Int32} {vs : List Value} {d : Value} (V : Arv Z h a kk .char N vs d) (hj : ¬ j < 0 ∧ j < N) (i : Nat) (hji : j.toNatClampNeg = i) (hi : i < vs.length) (ha : a ∈ M) (k1 : ∀ h', Wr h h' a i (.int (nar .char x)) → Arv Z h' a kk .char N (vs.set i (.int (nar .char x))) d → G M h' k n (pc + 1) ls st) : G M h k n pc ls (.int x :: .int j :: .ref a :: st) := by
  subst hji
  obtain ⟨cl, A, q, S, hN, H, U⟩ := V
  exact stepW hG ha (fun _ _ _ m _ _ _ _ _ _ X hx hc _ eT hZ _ => stC X hx hZ eT A (inb_of S hj) (g := mkF m pc ls (.int x :: .int j :: .ref a :: st)) rfl rfl (hb hc hd)) (fun h' W => k1 h' W (Arv.set A q S hN H U (fits_nar_char x) W _ rfl hi))
theorem bastore (hG : IsGo G l Z a0 EL n0 own name code maxL ret R Q) (hd : decode code pc = .ok (.bastore, 1)) {a : Addr} {kk : ClassId} {N j x : Int32} {vs : List Value} {d : Value} (V : Arv Z h a kk .byte N vs d) (hj : ¬ j < 0 ∧ j < N) (i : Nat) (hji : j.toNatClampNeg = i) (hi : i < vs.length) (ha : a ∈ M) (k1 : ∀ h', Wr h h' a i (.int (nar .byte x)) → Arv Z h' a kk .byte N (vs.set i (.int (nar .byte x))) d → G M h' k n (pc + 1) ls st) : G M h k n pc ls (.int x :: .int j :: .ref a :: st) := by
  subst hji
  obtain ⟨cl, A, q, S, hN, H, U⟩ := V
  exact stepW hG ha (fun _ _ _ m _ _ _ _ _ _ X hx hc _ eT hZ _ => stB X hx hZ eT A (inb_of S hj) (g := mkF m pc ls (.int x :: .int j :: .ref a :: st)) rfl rfl (hb hc hd)) (fun h' W => k1 h' W (Arv.set A q S hN H U (fits_nar_byte x) W _ rfl hi))
theorem iastore (hG : IsGo G l Z a0 EL n0 own name code maxL ret R Q) (hd : decode code pc = .ok (.iastore, 1)) {a : Addr} {kk : ClassId} {N j x : Int32} {vs : List Value} {d : Value} (V : Arv Z h a kk .int N vs d) (hj : ¬ j < 0 ∧ j < N) (i : Nat) (hji : j.toNatClampNeg = i) (hi : i < vs.length) (ha : a ∈ M) (k1 : ∀ h', Wr h h' a i (.int x) → Arv Z h' a kk .int N (vs.set i (.int x)) d → G M h' k n (pc + 1) ls st) : G M h k n pc ls (.int x :: .int j :: .ref a :: st) := by
  subst hji
  obtain ⟨cl, A, q, S, hN, H, U⟩ := V
  exact stepW hG ha (fun _ _ _ m _ _ _ _ _ _ X hx hc _ eT hZ _ => stI X hx hZ eT A (inb_of S hj) (g := mkF m pc ls (.int x :: .int j :: .ref a :: st)) rfl rfl (hb hc hd)) (fun h' W => k1 h' W (Arv.set A q S hN H U (rfl) W _ rfl hi))
theorem aastore (hG : IsGo G l Z a0 EL n0 own name code maxL ret R Q) (hd : decode code pc = .ok (.aastore, 1)) {a : Addr} {kk : ClassId} {ty : FieldType} (hty : ty.isReference = true) {N j : Int32} {vs : List Value} {d v : Value} (V : Arv Z h a kk ty N vs d) (hj : ¬ j < 0 ∧ j < N) (i : Nat) (hji : j.toNatClampNeg = i) (hi : i < vs.length) (hsto : Sto Z h a v) (hfit : fits ty v = true) (ha : a ∈ M) (k1 : ∀ h', Wr h h' a i v → Arv Z h' a kk ty N (vs.set i v) d → G M h' k n (pc + 1) ls st) : G M h k n pc ls (v :: .int j :: .ref a :: st) := by
  subst hji
  obtain ⟨cl, A, q, S, hN, H, U⟩ := V
  exact stepW hG ha (fun _ _ _ m _ _ _ _ _ _ X hx hc _ eT hZ _ => stR X hx hZ eT A (inb_of S hj) hty hsto (g := mkF m pc ls (v :: .int j :: .ref a :: st)) rfl rfl (hb hc hd)) (fun h' W => k1 h' W (Arv.set A q S hN H U hfit W _ rfl hi))
theorem new (hG : IsGo G l Z a0 EL n0 own name code maxL ret R Q) {C : String} {index nn : Nat} (hd : decode code pc = .ok (.new index, 3)) (w : (Cond.classLink own index C).before a0 Z = true) (wi : (Cond.instantiable C nn).before a0 Z = true) (wz : (Cond.initialized C).before a0 Z = true) (hc : k + 1 ≤ R.cells) (hl : n + nn ≤ R.slots)
    (k1 : ∀ h' a, h.size ≤ a → Ext h h' → Exa Z h' a C → (∀ {O nm d : String} {ty : FieldType}, Laid Z a0 C O nm d → parseFieldDescriptor d = some ty → Fld Z h' a O nm d (defaultValue ty)) → G (a :: M) h' (k + 1) (n + nn) (pc + 3) ls (.ref a :: st)) : G M h k n pc ls st :=
  stepN hG (P := fun h' a => Exa Z h' a C ∧ ∀ {O nm d : String} {ty : FieldType}, Laid Z a0 C O nm d → parseFieldDescriptor d = some ty → Fld Z h' a O nm d (defaultValue ty)) (fun _ q => q.1.lt) (st' := fun a => .ref a :: st)
    (fun _ _ _ m _ _ _ _ _ _ X hx hb0 _ eT hZ hown => by
      obtain ⟨T', h', X', e', E, A, D, -, st1⟩ := newO X hx hZ hown w wi wz eT (g := mkF m pc ls st) rfl (hb hb0 hd) hc hl
      exact ⟨T', h', X', e', E, ⟨A, D⟩, st1⟩) (fun h' a q E P => k1 h' a q E P.1 P.2)
theorem newarray (hG : IsGo G l Z a0 EL n0 own name code maxL ret R Q) {aty : ArrayType} {ty : FieldType} (hd : decode code pc = .ok (.newarray aty, 2)) (hty : newarray.typeOf aty = ty) (w : (Cond.arrayClass ty).before a0 Z = true) {N : Int32} (hN : ¬ N < 0) (cap : Nat) (hcap : N.toNatClampNeg ≤ cap) (hb0 : cap * 8 ≤ 536870912) (hc : k + 1 ≤ R.cells) (hl : n + cap ≤ R.slots) (cnt : Nat) (vs : List Value) (hvs : vs = List.replicate cnt (defaultValue ty))
    (k1 : ∀ h' a kk, h.size ≤ a → Ext h h' → Arv Z h' a kk ty N vs (defaultValue ty) → G (a :: M) h' (k + 1) (n + cap) (pc + 2) ls (.ref a :: st)) : G M h k n pc ls (.int N :: st) := by
  subst hty
  exact stepN hG (P := fun h' a => ∃ kk, Arv Z h' a kk (newarray.typeOf aty) N vs (defaultValue (newarray.typeOf aty))) (fun _ q => q.elim fun _ q => q.lt) (st' := fun a => .ref a :: st)
    (fun _ _ _ m _ _ _ _ _ _ X hx hc0 _ eT hZ hown => by
      obtain ⟨T', h', cA, X', e', E, A, st1⟩ := newP X hx hZ w eT (g := mkF m pc ls (.int N :: st)) rfl (hb hc0 hd) rfl hN (cap := cap) hcap hb0 hc hl
      exact ⟨T', h', X', e', E, ⟨cA, (Arv.new A hN).pad (by subst hvs; exact pad_rep [] _ cnt)⟩, st1⟩) (fun h' a q E P => P.elim fun kk V => k1 h' a kk q E V)
theorem anewarray (hG : IsGo G l Z a0 EL n0 own name code maxL ret R Q) {C : String} {index : Nat} (hd : decode code pc = .ok (.anewarray index, 3)) (w1 : (Cond.classLink own index C).before a0 Z = true) (w2 : (Cond.arrayOver (.object C)).before a0 Z = true) {N : Int32} (hN : ¬ N < 0) (cap : Nat) (hcap : N.toNatClampNeg ≤ cap) (hb0 : cap * 8 ≤ 536870912) (hc : k + 1 ≤ R.cells) (hl : n + cap ≤ R.slots) (cnt : Nat) (vs : List Value) (hvs : vs = List.replicate cnt .null) {ad : String} (had : "[" ++ (FieldType.object C).toString = ad)
    (k1 : ∀ h' a kk, h.size ≤ a → Ext h h' → Arv Z h' a kk (.object C) N vs .null → Exa Z h' a ad → Ovr Z kk C → G (a :: M) h' (k + 1) (n + cap) (pc + 3) ls (.ref a :: st)) : G M h k n pc ls (.int N :: st) :=
  stepN hG (P := fun h' a => ∃ kk, Arv Z h' a kk (.object C) N vs .null ∧ Exa Z h' a ad ∧ Ovr Z kk C) (fun _ q => q.elim fun _ q => q.1.lt) (st' := fun a => .ref a :: st)
    (fun _ _ _ m _ _ _ _ _ _ X hx hc0 _ eT hZ hown => by
      obtain ⟨T', h', cA, X', e', E, A, A2, O, st1⟩ := newRE X hx hZ hown w1 w2 eT (g := mkF m pc ls (.int N :: st)) rfl (hb hc0 hd) rfl hN (cap := cap) hcap hb0 hc hl had
      exact ⟨T', h', X', e', E, ⟨cA, (Arv.new A hN).pad (by subst hvs; exact pad_rep [] _ cnt), A2, O⟩, st1⟩) (fun h' a q E P => P.elim fun kk V => k1 h' a kk q E V.1 V.2.1 V.2.2)
theorem ldcInt (hG : IsGo G l Z a0 EL n0 own name code maxL ret R Q) {index : Nat} {x : Int32} (hd : decode code pc = .ok (.ldc index, 2)) (w : (Cond.constant own index x).before a0 Z = true) (k1 : G M h k n (pc + 2) ls (.int x :: st)) : G M h k n pc ls st :=
  stepX hG (fun _ _ _ m _ _ _ _ T _ X hx hc _ eT hZ hown => ⟨T, X, eT, fun t r => X.ldcInt hx hown (mv hZ w) (g := mkF m pc ls st) rfl (hb hc hd) t r⟩) k1
theorem ldc (hG : IsGo G l Z a0 EL n0 own name code maxL ret R Q) {index : Nat} {text : String} (hd : decode code pc = .ok (.ldc index, 2)) (w : (Cond.stringLink own index text).before a0 Z = true) (wS : ∀ a ∈ Bundle.stringAtoms, a.before a0 Z = true) (hmem : (own, index) ∈ EL) {vs : List Value} {N : Int32}
    (ht : (∀ c ∈ text.toList, c.toNat < 256) ∧ text.toList.map (fun c => Value.int (Jvm.Lit.byteI c.toNat.toUInt16)) = vs) (hz : ¬ N < 0) (hl : N.toNatClampNeg = vs.length) {nn : Nat} (hn : 4 * text.toList.length ≤ nn) (hbig : nn ≤ 536870912) (hc : k + 2 ≤ R.cells) (hl' : n + (nn + 4) ≤ R.slots)
    (k1 : ∀ h' a b kk, Ext h h' → Exa Z h' a "java/lang/String" → Fld Z h' a "java/lang/String" "coder" "B" (.int 0) → Fld Z h' a "java/lang/String" "value" "[B" (.ref b) → Arv Z h' b kk .byte N vs (.int 0) → (∀ x ∈ M, x ≠ a ∧ x ≠ b) → G M h' (k + 2) (n + (nn + 4)) (pc + 2) ls (.ref a :: st)) : G M h k n pc ls st := by
  obtain ⟨p, e, s, m, args, below, meth, c, hx, hc0, hml, hnm, hr, hlk, hEL, rfl⟩ := hG
  intro T I
  obtain ⟨vm0, locs, k0, X, eT, hS, hk, hZ, hown, N0, H, S, hn0⟩ := I
  obtain ⟨a, T', h', k9, b, kk, X', e', E, hS', hk', hZ', hown', E1, F1, F2, V, la, lb, C, -, hne, st1⟩ := ldcCH X hx hZ hown w wS eT hS hk hEL hmem H.1 ht hz hl (g := mkF m pc ls st) rfl (hb hc0 hd) hn hbig hc hl'
  have S' := S.chr C
  obtain ⟨s₂, o, h1, h2⟩ := k1 h' a b kk E E1 F1 F2 V (fun x hx => hne x (S' x hx).2.2) T' ⟨T'.vm, locs, k9, X', e', hS', hk', hZ', hown', N0, H.trans C, S', hn0.ext E⟩
  exact ⟨s₂, o, st1 _ h1, h2⟩
theorem Met.back {y : MethodName} {bytes : ByteArray} {maxL' : Nat} {ret' : Option FieldType} {rm : Room} {as' : List Value} {M0 : List Addr} {Q' : QT} (hM : Met l Z EL n0 y bytes maxL' ret' [] rm as' M0 h Q') {p : Program} {e : Env} {below : List Frame} {s : State} {vm0 : Vm} {args : Array Value} {len W : Nat} (hZ : Z.Warmed39 vm0) (wc : (Cond.code y bytes maxL' ret').before a0 Z = true) (wz : (Cond.initialized y.cls).before a0 Z = true) (hf : rm.frames + 1 ≤ R.frames) (hl : W + (maxL' + 11) + rm.locals ≤ R.locals) (hEL : EW Z a0 EL) (H : CHv Z EL vm0 h) (S : Saf Z EL n0 vm0 h M0) (hn0 : Old Z n0 h) :
    BackS l R p e below (s.setVm vm0) args y len W (fun A a => a = as'.toArray ∧ A.U.heap = h ∧ A.cells + rm.cells ≤ R.cells ∧ A.slots + rm.slots ≤ R.slots)
      (fun A _ v B => ∃ (L : List Loc) (M' : List Addr), Q' v M' B.U.heap ∧ Fr n0 L ∧ B.locs = A.locs ++ L ∧ B.cells = A.cells + rm.cells ∧ B.slots = A.slots + rm.slots ∧ CHr Z EL vm0 h B.U.vm B.U.heap ∧ Saf Z EL n0 B.U.vm B.U.heap M' ∧ Old Z n0 B.U.heap) :=
  BackS.of_freeW (bytes := bytes) (maxL := maxL') (ret := ret') (E := fun _ first o t L k n => k = rm.cells ∧ n = rm.slots ∧ ∃ v M', o = .returned v ∧ Q' v M' t.heap ∧ Fr n0 L ∧ CHr Z EL first.vm first.heap t.vm t.heap ∧ Saf Z EL n0 t.vm t.heap M' ∧ Old Z n0 t.heap) hM hf hl
    (fun m meth c A a Y hp => have hU : Z.Warmed39 A.U.vm := wtrans (s := s.setVm vm0) hZ Y.warmed
      ⟨by show (Cond.and _ .tt).before a A.U = true; rw [Cond.before_and, mv hU wc]; rfl, mv hU wc, mv hU wz, hp.2.2.1, hp.2.2.2⟩)
    (fun m meth c A a g mk Y hp => by have q := CHv.at Y hZ hEL H; exact ⟨hp.1, wtrans (s := s.setVm vm0) hZ Y.warmed, hp.2.1, q.1, S.chr q, hn0⟩) (fun _ _ _ _ _ _ _ _ _ => trivial)
    (fun _ _ _ _ ⟨v, L, M', h1, h2, h3, h4, h5, h7, h6⟩ => ⟨L, _, _, h6, rfl, rfl, v, M', h1, h2, h3, h4, h5, h7⟩)
    (fun m meth c A a g mk v t L k n Y hp _ _ ⟨e1, e2, v', M', e3, e4, e5, e6, e7, e8⟩ => by
      cases e3; subst e1 e2
      refine ⟨L, M', e4, e5, rfl, rfl, rfl, (CHv.at Y hZ hEL H).trans ?_, e7, e8⟩
      rw [← hp.2.1]; exact e6)
theorem callStatic (hG : IsGo G l Z a0 EL n0 own name code maxL ret R Q) {y : MethodName} {bytes : ByteArray} {maxL' : Nat} {ret' : Option FieldType} {rm : Room} {as' : List Value} {M0 : List Addr} {Q' : QT} {index : Nat} {ps : List FieldType} {rt : Option FieldType} (hd : decode code pc = .ok (.invokestatic index, 3)) (w1 : (Cond.methodLink own index y).before a0 Z = true) (w2 : (Cond.static y).before a0 Z = true) (w3 : (Cond.initialized y.cls).before a0 Z = true) (w4 : (Cond.code y bytes maxL' ret').before a0 Z = true) (hy : y.cls ≠ "java/lang/invoke/MethodHandle" ∧ y.cls ≠ "java/lang/invoke/VarHandle") (hM : Met l Z EL n0 y bytes maxL' ret' [] rm as' M0 h Q') (hpd : parseMethodDescriptor y.desc = some ⟨ps, rt⟩) (hal : as'.length = ps.length) (hst : st = as'.reverse ++ rest)
    (hls : ls.size = maxL) (hM0 : ∀ x ∈ M0, x ∈ M) (hf : rm.frames + 1 ≤ R.frames) {W : Nat} (hW : (rest.map fun v => v.category).sum ≤ W) (hl : W + (maxL' + 11) + rm.locals ≤ R.locals) (hc : k + rm.cells ≤ R.cells) (hs : n + rm.slots ≤ R.slots)
    (k1 : ∀ v M' h', h.size ≤ h'.size → Q' v M' h' → G (M' ++ M) h' (k + rm.cells) (n + rm.slots) (pc + 3) ls (v.toList ++ rest)) : G M h k n pc ls st := by
  obtain ⟨p, e, s, m, args, below, meth, c, hx, hc0, hml, hnm, hr, hlk, hEL, rfl⟩ := hG
  intro T I
  obtain ⟨vm0, locs, k0, X, eT, hS, hk, hZ, hown, N0, H, S, hn0⟩ := I
  obtain ⟨v, vm₁, B, -, X2, hS2, hle, post, stp⟩ := callSS X hx hown (mvT hZ w1) (mvT hZ w2) (mvT hZ w3) (mvT hZ w4) hy (hM.back (W := W) hZ w4 w3 hf hl hEL H.1 (S.sub hM0) hn0) (g := mkF m pc ls st) rfl (by rw [hml]; exact hls) (argsL := as') (rest := rest) (lenOf hpd hal) hst (by show 2 * 0 + _ ≤ _; omega) (hb hc0 hd) (fun _ _ => ⟨rfl, eT, hc, hs⟩)
  obtain ⟨L, M', q1, q2, q3, q4, q5, q6, q7, q8⟩ := post
  obtain ⟨X3, hS3, hZ3, hown3⟩ := rebS hS hk X2 hS2 (by rw [← eT]; exact hle) hZ hown
  dsimp only [Pt.U, Pt.locs, Pt.cells, Pt.slots] at *
  obtain ⟨U, Lc, kc, sc⟩ := B
  dsimp only at *
  subst q3 q4 q5
  obtain ⟨s₂, o, h1, h2⟩ := k1 v M' U.heap (by rw [← eT]; exact hle) q1 U ⟨U.vm, locs ++ L, _, X3, rfl, hS3, Nat.le_refl _, hZ3, hown3, Fr.app N0 q2, H.trans q6, q7.app (S.chr q6), q8⟩
  exact ⟨s₂, o, stp.trans h1, h2⟩
theorem callInit (hG : IsGo G l Z a0 EL n0 own name code maxL ret R Q) {y : MethodName} {bytes : ByteArray} {maxL' : Nat} {rm : Room} {a : Addr} {as' : List Value} {M0 : List Addr} {Q' : QT} {index : Nat} {ps : List FieldType} {rt : Option FieldType} (hd : decode code pc = .ok (.invokespecial index, 3)) (hy1 : y.name = "<init>") (w1 : (Cond.methodLink own index y).before a0 Z = true) (w2 : (Cond.instanceMethod y).before a0 Z = true) (w3 : (Cond.initialized y.cls).before a0 Z = true) (w4 : (Cond.code y bytes maxL' none).before a0 Z = true) (hy : y.cls ≠ "java/lang/invoke/MethodHandle" ∧ y.cls ≠ "java/lang/invoke/VarHandle") (hM : Met l Z EL n0 y bytes maxL' none [] rm (.ref a :: as') M0 h Q') (hpd : parseMethodDescriptor y.desc = some ⟨ps, rt⟩) (hal : as'.length = ps.length) (hst : st = as'.reverse ++ .ref a :: rest)
    (hls : ls.size = maxL) (hM0 : ∀ x ∈ M0, x ∈ M) (hf : rm.frames + 1 ≤ R.frames) {W : Nat} (hW : (rest.map fun v => v.category).sum ≤ W) (hl : W + (maxL' + 11) + rm.locals ≤ R.locals) (hc : k + rm.cells ≤ R.cells) (hs : n + rm.slots ≤ R.slots)
    (k1 : ∀ v M' h', h.size ≤ h'.size → Q' v M' h' → G (M' ++ M) h' (k + rm.cells) (n + rm.slots) (pc + 3) ls (v.toList ++ rest)) : G M h k n pc ls st := by
  obtain ⟨p, e, s, m, args, below, meth, c, hx, hc0, hml, hnm, hr, hlk, hEL, rfl⟩ := hG
  intro T I
  obtain ⟨vm0, locs, k0, X, eT, hS, hk, hZ, hown, N0, H, S, hn0⟩ := I
  obtain ⟨v, vm₁, B, -, X2, hS2, hle, post, stp⟩ := X.specialBackS hx hy1 hown (mvT hZ w1) (mvT hZ w2) (mvT hZ w4) hy (hM.back (W := W) hZ w4 w3 hf hl hEL H.1 (S.sub hM0) hn0) (g := mkF m pc ls st) rfl (by rw [hml]; exact hls) (Steps.refl _) (a := a) (argsL := as') (rest := rest) (lenOf hpd hal) hst (by show 2 * 0 + _ ≤ _; omega) (hb hc0 hd) (fun _ _ => ⟨rfl, eT, hc, hs⟩)
  obtain ⟨L, M', q1, q2, q3, q4, q5, q6, q7, q8⟩ := post
  obtain ⟨X3, hS3, hZ3, hown3⟩ := rebS hS hk X2 hS2 (by rw [← eT]; exact hle) hZ hown
  dsimp only [Pt.U, Pt.locs, Pt.cells, Pt.slots] at *
  obtain ⟨U, Lc, kc, sc⟩ := B
  dsimp only at *
  subst q3 q4 q5
  obtain ⟨s₂, o, h1, h2⟩ := k1 v M' U.heap (by rw [← eT]; exact hle) q1 U ⟨U.vm, locs ++ L, _, X3, rfl, hS3, Nat.le_refl _, hZ3, hown3, Fr.app N0 q2, H.trans q6, q7.app (S.chr q6), q8⟩
  exact ⟨s₂, o, stp.trans h1, h2⟩
theorem callVirtual (hG : IsGo G l Z a0 EL n0 own name code maxL ret R Q) {y z : MethodName} {bytes : ByteArray} {maxL' : Nat} {ret' : Option FieldType} {rm : Room} {a : Addr} {as' : List Value} {M0 : List Addr} {Q' : QT} {C : String} {index : Nat} {ps : List FieldType} {rt : Option FieldType} (hd : decode code pc = .ok (.invokevirtual index, 3)) (E : Exa Z h a C) (w1 : (Cond.methodLink own index y).before a0 Z = true) (wd : (Cond.declares y).before a0 Z = true) (nf : ∀ (s : State), Z.Warmed39 s.vm → NotFace s y) (ws : (Cond.selects C y z).before a0 Z = true) (w2 : (Cond.instanceMethod z).before a0 Z = true) (w3 : (Cond.initialized z.cls).before a0 Z = true) (w4 : (Cond.code z bytes maxL' ret').before a0 Z = true) (hy : y.cls ≠ "java/lang/invoke/MethodHandle" ∧ y.cls ≠ "java/lang/invoke/VarHandle") (hM : Met l Z EL n0 z bytes maxL' ret' [] rm (.ref a :: as') M0 h Q') (hpd : parseMethodDescriptor y.desc = some ⟨ps, rt⟩) (hal : as'.length = ps.length) (hst : st = as'.reverse ++ .ref a :: rest)
    (hls : ls.size = maxL) (hM0 : ∀ x ∈ M0, x ∈ M) (hf : rm.frames + 1 ≤ R.frames) {W : Nat} (hW : (rest.map fun v => v.category).sum ≤ W) (hl : W + (maxL' + 11) + rm.locals ≤ R.locals) (hc : k + rm.cells ≤ R.cells) (hs : n + rm.slots ≤ R.slots)
    (k1 : ∀ v M' h', h.size ≤ h'.size → Q' v M' h' → G (M' ++ M) h' (k + rm.cells) (n + rm.slots) (pc + 3) ls (v.toList ++ rest)) : G M h k n pc ls st := by
  obtain ⟨p, e, s, m, args, below, meth, c, hx, hc0, hml, hnm, hr, hlk, hEL, rfl⟩ := hG
  intro T I
  obtain ⟨vm0, locs, k0, X, eT, hS, hk, hZ, hown, N0, H, S, hn0⟩ := I
  obtain ⟨cB, kB, i1, i2, i3⟩ := isOf (s := s.setVm vm0) hZ eT E
  obtain ⟨v, vm₁, B, -, X2, hS2, hle, post, stp⟩ := X.virtualBackS hx hown (mvT hZ w1) (mvT hZ wd) (nf (s.setVm vm0) hZ) (mvT hZ ws) (mvT hZ w2) hy (hM.back (W := W) hZ w4 w3 hf hl hEL H.1 (S.sub hM0) hn0) i1 i3 (g := mkF m pc ls st) rfl (by rw [hml]; exact hls) (Steps.refl _) (argsL := as') (rest := rest) (lenOf hpd hal) hst (by show 2 * 0 + _ ≤ _; omega) (hb hc0 hd) (fun _ _ => ⟨rfl, eT, hc, hs⟩)
  obtain ⟨L, M', q1, q2, q3, q4, q5, q6, q7, q8⟩ := post
  obtain ⟨X3, hS3, hZ3, hown3⟩ := rebS hS hk X2 hS2 (by rw [← eT]; exact hle) hZ hown
  dsimp only [Pt.U, Pt.locs, Pt.cells, Pt.slots] at *
  obtain ⟨U, Lc, kc, sc⟩ := B
  dsimp only at *
  subst q3 q4 q5
  obtain ⟨s₂, o, h1, h2⟩ := k1 v M' U.heap (by rw [← eT]; exact hle) q1 U ⟨U.vm, locs ++ L, _, X3, rfl, hS3, Nat.le_refl _, hZ3, hown3, Fr.app N0 q2, H.trans q6, q7.app (S.chr q6), q8⟩
  exact ⟨s₂, o, stp.trans h1, h2⟩
theorem callVirtualUp (hG : IsGo G l Z a0 EL n0 own name code maxL ret R Q) {y z : MethodName} {bytes : ByteArray} {maxL' : Nat} {ret' : Option FieldType} {rm : Room} {a : Addr} {as' : List Value} {M0 : List Addr} {Q' : QT} {C owner : String} {index : Nat} {ps : List FieldType} {rt : Option FieldType} (hd : decode code pc = .ok (.invokevirtual index, 3)) (E : Exa Z h a C) (w1 : (Cond.methodLink own index y).before a0 Z = true) (wsm : (Cond.sameMethod y.cls owner y.name y.desc).before a0 Z = true) (wd : (Cond.declares ⟨owner, y.name, y.desc⟩).before a0 Z = true) (ws : (Cond.selects C y z).before a0 Z = true) (w2 : (Cond.instanceMethod z).before a0 Z = true) (w3 : (Cond.initialized z.cls).before a0 Z = true) (w4 : (Cond.code z bytes maxL' ret').before a0 Z = true) (hy : owner ≠ "java/lang/invoke/MethodHandle" ∧ owner ≠ "java/lang/invoke/VarHandle") (hM : Met l Z EL n0 z bytes maxL' ret' [] rm (.ref a :: as') M0 h Q') (hpd : parseMethodDescriptor y.desc = some ⟨ps, rt⟩) (hal : as'.length = ps.length) (hst : st = as'.reverse ++ .ref a :: rest)
    (hls : ls.size = maxL) (hM0 : ∀ x ∈ M0, x ∈ M) (hf : rm.frames + 1 ≤ R.frames) {W : Nat} (hW : (rest.map fun v => v.category).sum ≤ W) (hl : W + (maxL' + 11) + rm.locals ≤ R.locals) (hc : k + rm.cells ≤ R.cells) (hs : n + rm.slots ≤ R.slots)
    (k1 : ∀ v M' h', h.size ≤ h'.size → Q' v M' h' → G (M' ++ M) h' (k + rm.cells) (n + rm.slots) (pc + 3) ls (v.toList ++ rest)) : G M h k n pc ls st := by
  obtain ⟨p, e, s, m, args, below, meth, c, hx, hc0, hml, hnm, hr, hlk, hEL, rfl⟩ := hG
  intro T I
  obtain ⟨vm0, locs, k0, X, eT, hS, hk, hZ, hown, N0, H, S, hn0⟩ := I
  obtain ⟨cB, kB, i1, i2, i3⟩ := isOf (s := s.setVm vm0) hZ eT E
  obtain ⟨v, vm₁, B, -, X2, hS2, hle, post, stp⟩ := X.virtualBackUpS hx hown (mvT hZ w1) (mvT hZ wsm) (mvT hZ wd) hy (mvT hZ ws) (mvT hZ w2) (hM.back (W := W) hZ w4 w3 hf hl hEL H.1 (S.sub hM0) hn0) i1 i3 (g := mkF m pc ls st) rfl (by rw [hml]; exact hls) (Steps.refl _) (argsL := as') (rest := rest) (lenOf hpd hal) hst (by show 2 * 0 + _ ≤ _; omega) (hb hc0 hd) (fun _ _ => ⟨rfl, eT, hc, hs⟩)
  obtain ⟨L, M', q1, q2, q3, q4, q5, q6, q7, q8⟩ := post
  obtain ⟨X3, hS3, hZ3, hown3⟩ := rebS hS hk X2 hS2 (by rw [← eT]; exact hle) hZ hown
  dsimp only [Pt.U, Pt.locs, Pt.cells, Pt.slots] at *
  obtain ⟨U, Lc, kc, sc⟩ := B
  dsimp only at *
  subst q3 q4 q5
  obtain ⟨s₂, o, h1, h2⟩ := k1 v M' U.heap (by rw [← eT]; exact hle) q1 U ⟨U.vm, locs ++ L, _, X3, rfl, hS3, Nat.le_refl _, hZ3, hown3, Fr.app N0 q2, H.trans q6, q7.app (S.chr q6), q8⟩
  exact ⟨s₂, o, stp.trans h1, h2⟩
theorem callFace (hG : IsGo G l Z a0 EL n0 own name code maxL ret R Q) {y z : MethodName} {bytes : ByteArray} {maxL' : Nat} {ret' : Option FieldType} {rm : Room} {a : Addr} {as' : List Value} {M0 : List Addr} {Q' : QT} {C : String} {index count : Nat} {ps : List FieldType} {rt : Option FieldType} (hd : decode code pc = .ok (.invokeinterface index count, 5)) (E : Exa Z h a C) (w1 : (Cond.methodLink own index y).before a0 Z = true) (wd : (Cond.declares y).before a0 Z = true) (wf : ∀ (s : State) (args : Array Value), Z.Warmed39 s.vm → (Cond.interfaceMethod y.cls y.cls y.name y.desc).before args s = true) (ws : (Cond.selects C y z).before a0 Z = true) (w2 : (Cond.instanceMethod z).before a0 Z = true) (wp : (Cond.publicMethod z).before a0 Z = true) (wu : (Cond.unhidden C y.name y.desc).before a0 Z = true) (wk : (Cond.castable C y.cls).before a0 Z = true) (w3 : (Cond.initialized z.cls).before a0 Z = true) (w4 : (Cond.code z bytes maxL' ret').before a0 Z = true) (hy : y.cls ≠ "java/lang/invoke/MethodHandle" ∧ y.cls ≠ "java/lang/invoke/VarHandle") (hM : Met l Z EL n0 z bytes maxL' ret' [] rm (.ref a :: as') M0 h Q') (hpd : parseMethodDescriptor y.desc = some ⟨ps, rt⟩) (hal : as'.length = ps.length) (hst : st = as'.reverse ++ .ref a :: rest)
    (hls : ls.size = maxL) (hM0 : ∀ x ∈ M0, x ∈ M) (hf : rm.frames + 1 ≤ R.frames) {W : Nat} (hW : (rest.map fun v => v.category).sum ≤ W) (hl : W + (maxL' + 11) + rm.locals ≤ R.locals) (hc : k + rm.cells ≤ R.cells) (hs : n + rm.slots ≤ R.slots)
    (k1 : ∀ v M' h', h.size ≤ h'.size → Q' v M' h' → G (M' ++ M) h' (k + rm.cells) (n + rm.slots) (pc + 5) ls (v.toList ++ rest)) : G M h k n pc ls st := by
  obtain ⟨p, e, s, m, args, below, meth, c, hx, hc0, hml, hnm, hr, hlk, hEL, rfl⟩ := hG
  intro T I
  obtain ⟨vm0, locs, k0, X, eT, hS, hk, hZ, hown, N0, H, S, hn0⟩ := I
  obtain ⟨cB, kB, i1, i2, i3⟩ := isOf (s := s.setVm vm0) hZ eT E
  obtain ⟨v, vm₁, B, -, X2, hS2, hle, post, stp⟩ := X.interfaceBackS hx hown (mvT hZ w1) (mvT hZ wd) (wf _ _ hZ) (mvT hZ ws) (mvT hZ w2) (mvT hZ wp) (mvT hZ wu) (mvT hZ wk) hy (hM.back (W := W) hZ w4 w3 hf hl hEL H.1 (S.sub hM0) hn0) i1 i2 i3 (g := mkF m pc ls st) rfl (by rw [hml]; exact hls) (Steps.refl _) (argsL := as') (rest := rest) (lenOf hpd hal) hst (by show 2 * 0 + _ ≤ _; omega) (hb hc0 hd) (fun _ _ => ⟨rfl, eT, hc, hs⟩)
  obtain ⟨L, M', q1, q2, q3, q4, q5, q6, q7, q8⟩ := post
  obtain ⟨X3, hS3, hZ3, hown3⟩ := rebS hS hk X2 hS2 (by rw [← eT]; exact hle) hZ hown
  dsimp only [Pt.U, Pt.locs, Pt.cells, Pt.slots] at *
  obtain ⟨U, Lc, kc, sc⟩ := B
  dsimp only at *
  subst q3 q4 q5
  obtain ⟨s₂, o, h1, h2⟩ := k1 v M' U.heap (by rw [← eT]; exact hle) q1 U ⟨U.vm, locs ++ L, _, X3, rfl, hS3, Nat.le_refl _, hZ3, hown3, Fr.app N0 q2, H.trans q6, q7.app (S.chr q6), q8⟩
  exact ⟨s₂, o, stp.trans h1, h2⟩
theorem ireturn (hG : IsGo G l Z a0 EL n0 own name code maxL (some .int) R Q) {x : Int32} (hd : decode code pc = .ok (.ireturn, 1)) (hq : Q (some (.int x)) M' h) (hM : ∀ x ∈ M', x ∈ M) (hk : k ≤ R.cells) (hn : n ≤ R.slots) : G M h k n pc ls (.int x :: st) :=
  leaves hG (fun q => by cases q) hq hM hk hn (fun _ _ _ _ _ _ _ _ _ _ _ X hx hc hr hl => retOut X hx hr rfl (Or.inl ⟨rfl, Or.inl rfl, x, rfl⟩) (hb hc hd) hl)
theorem ireturnN {t : FieldType} (hG : IsGo G l Z a0 EL n0 own name code maxL (some t) R Q) {x : Int32} (ht : t = .boolean ∨ t = .byte ∨ t = .char ∨ t = .short) (hd : decode code pc = .ok (.ireturn, 1)) (hq : Q (some (.int (nar t x))) M' h) (hM : ∀ x ∈ M', x ∈ M) (hk : k ≤ R.cells) (hn : n ≤ R.slots) : G M h k n pc ls (.int x :: st) :=
  leaves hG (fun q => by cases q) hq hM hk hn (fun _ _ _ _ _ _ _ _ _ _ _ X hx hc hr hl => retN X hx hr ht (hb hc hd) hl)
theorem areturn {t : FieldType} (hG : IsGo G l Z a0 EL n0 own name code maxL (some t) R Q) {v : Value} (ht : t.isReference = true) (hnr : narrow t v = v) (hv : v.isRef = true) (hd : decode code pc = .ok (.areturn, 1)) (hq : Q (some v) M' h) (hM : ∀ x ∈ M', x ∈ M) (hk : k ≤ R.cells) (hn : n ≤ R.slots) : G M h k n pc ls (v :: st) :=
  leaves hG (fun q => by cases q) hq hM hk hn (fun _ _ _ _ _ _ _ _ _ _ _ X hx hc hr hl => retOut X hx hr hnr (Or.inr (Or.inr (Or.inr (Or.inr ⟨rfl, ht, hv⟩)))) (hb hc hd) hl)
theorem return0 (hG : IsGo G l Z a0 EL n0 own name code maxL none R Q) (hd : decode code pc = .ok (.return_, 1)) (hq : Q none M' h) (hM : ∀ x ∈ M', x ∈ M) (hk : k ≤ R.cells) (hn : n ≤ R.slots) : G M h k n pc ls [] :=
  leaves hG (fun _ => rfl) hq hM hk hn (fun _ _ _ _ _ _ _ _ _ _ _ X hx hc hr hl => X.returnOut hx hr (hb hc hd) hl)
end Jvm.OwnWp
namespace Jvm.OwnWp
open Sem ClassFile Op Lib Bundle Jvm.Stand Jvm.Free Jvm.LawKit Jvm.RoadKit
/-- a list of ints as an array's values -/
abbrev ints (xs : List Int32) : List Value := xs.map Value.int
theorem ofN_clamp {i : Nat} (h : i < 2 ^ 31) : (Int32.ofNat i).toNatClampNeg = i := clamp_of rfl h
theorem ofN_toInt {i : Nat} (h : i < 2 ^ 31) : (Int32.ofNat i).toInt = i := toInt_of rfl h
theorem ofN_succ (i : Nat) : Int32.ofNat i + Int32.ofInt 1 = Int32.ofNat (i + 1) := (inc_ofNat i).symm
theorem ofN_lt {i n : Nat} (h : i < n) (hn : n < 2 ^ 31) : Int32.ofNat i < Int32.ofNat n := by
  rw [Int32.lt_iff_toInt_lt, ofN_toInt (by omega), ofN_toInt hn]; omega
theorem ofN_nlt {i n : Nat} (h : n ≤ i) (hi : i < 2 ^ 31) : ¬ Int32.ofNat i < Int32.ofNat n := by
  rw [Int32.lt_iff_toInt_lt, ofN_toInt hi, ofN_toInt (by omega)]; omega
theorem ofN_nn {i : Nat} (h : i < 2 ^ 31) : ¬ Int32.ofNat i < 0 := by
  have e : (0 : Int32) = Int32.ofNat 0 := rfl
  rw [e]; exact ofN_nlt (Nat.zero_le _) h
theorem ofN_inj {i n : Nat} (hi : i < 2 ^ 31) (hn : n < 2 ^ 31) (h : Int32.ofNat i = Int32.ofNat n) : i = n := by
  have := congrArg Int32.toInt h
  rw [ofN_toInt hi, ofN_toInt hn] at this; omega
theorem ofN_in {i n : Nat} (h : i < n) (hn : n < 2 ^ 31) : ¬ Int32.ofNat i < 0 ∧ Int32.ofNat i < Int32.ofNat n := ⟨ofN_nn (by omega), ofN_lt h hn⟩
theorem ints_at {xs : List Int32} {i : Nat} (h : i < 2 ^ 31) : (ints xs).getD (Int32.ofNat i).toNatClampNeg (.int 0) = .int (xs.getD i 0) := by
  rw [ofN_clamp h]; simp only [ints, List.getD_eq_getElem?_getD, List.getElem?_map]
  cases xs[i]? <;> rfl
theorem ints_rep (n : Nat) : ints (List.replicate n 0) = List.replicate n (Value.int 0) := by simp [ints]
theorem byte_idem (x : Int32) : nar .byte (nar .byte x) = nar .byte x := by
  show x.toInt8.toInt32.toInt8.toInt32 = x.toInt8.toInt32
  simp
theorem byte_idem2 (x : Int32) : nar .byte x.toInt8.toInt32 = nar .byte x := byte_idem x
theorem nar_char {x : Int32} (h0 : ¬ x < 0) (h1 : ¬ (65535 : Int32) < x) : nar .char x = x := by
  have e := c_i2c x
  have r : (nar .char x).toInt = x.toInt := by
    show (x.toUInt32.toUInt16.toUInt32.toInt32).toInt = x.toInt
    rw [Int32.lt_iff_toInt_lt] at h0 h1
    have e1 : (65535 : Int32).toInt = 65535 := rfl
    have e2 : (0 : Int32).toInt = 0 := rfl
    omega
  exact Int32.toInt_inj.mp r
theorem nar_bool1 : nar .boolean 1 = 1 := by decide
theorem nar_bool0 : nar .boolean 0 = 0 := by decide
theorem Arv.neTy {Z : State} {h : Heap} {a b : Addr} {k k' : ClassId} {t t' : FieldType} {z z' : Int32} {vs vs' : List Value} {d d' : Value} (F : Arv Z h a k t z vs d) (F' : Arv Z h b k' t' z' vs' d') (hne : t ≠ t') : a ≠ b := fun q => by
  subst q
  obtain ⟨c, A, -⟩ := F
  obtain ⟨c', A', -⟩ := F'
  cases A.1.symm.trans A'.1
  obtain ⟨-, k1, h1, comp, h2⟩ := A.2.1
  obtain ⟨-, k2, h3, comp', h4⟩ := A'.2.1
  cases h1.symm.trans h3
  rw [h2] at h4
  cases h4
  exact hne rfl
theorem Sto.ofArv {Z : State} {h : Heap} {a y : Addr} {k : ClassId} {t : FieldType} {z : Int32} {vs : List Value} {d : Value} {C : String} (F : Arv Z h a k t z vs d) (O : Ovr Z k C) (I : Ins Z h y C true) : Sto Z h a (.ref y) := by
  obtain ⟨c, A, q, -⟩ := F
  exact Sto.ofV A q O I
/-- 1 where the two lists are one, 0 else -/
def eqv (xs ys : List Int32) : Int32 := if xs = ys then 1 else 0
theorem eqv_yes {xs ys : List Int32} (h : xs = ys) : eqv xs ys = 1 := if_pos h
theorem eqv_no {xs ys : List Int32} (h : ¬ xs = ys) : eqv xs ys = 0 := if_neg h
theorem getD_in {xs : List Int32} {i : Nat} (h : i < xs.length) : xs.getD i 0 ∈ xs := by
  rw [List.getD_eq_getElem?_getD, List.getElem?_eq_getElem h]; exact List.getElem_mem h
theorem take_succ' {xs : List Int32} {i : Nat} (h : i < xs.length) : xs.take (i + 1) = xs.take i ++ [xs.getD i 0] := by
  rw [List.take_add_one, List.getElem?_eq_getElem h, List.getD_eq_getElem?_getD, List.getElem?_eq_getElem h]; rfl
end Jvm.OwnWp
namespace Jvm.OwnWp
open Sem ClassFile Op Lib Bundle Jvm.Stand Jvm.Free Jvm.LawKit Jvm.RoadKit
theorem forallS {P : Int32 → Prop} {y : Int32} {L : List Int32} (q : P y) (r : ∀ x ∈ L, P x) : ∀ x ∈ y :: L, P x := fun x z => (List.mem_cons.mp z).elim (fun u => u ▸ q) (r x)
theorem eqv_one {xs ys : List Int32} (h : ¬ eqv xs ys = 0) : eqv xs ys = 1 := by
  unfold eqv at h ⊢
  by_cases q : xs = ys
  · rw [if_pos q]
  · rw [if_neg q] at h; exact absurd rfl h
theorem fill_step {cs : List Int32} {i r : Nat} {v : Int32} (h : i + (r + 1) = cs.length) (f : Int32 → Int32) (hv : v = f (cs.getD i 0)) : (ints ((cs.take i).map f ++ List.replicate (r + 1) 0)).set i (.int v) = ints ((cs.take (i + 1)).map f ++ List.replicate r 0) := by
  subst hv
  have e : List.replicate (r + 1) (0 : Int32) = 0 :: List.replicate r 0 := rfl
  have l1 : ((cs.take i).map f).length = i := by simp; omega
  show List.set (List.map Value.int _) i _ = _
  rw [← List.map_set, take_succ' (by omega), List.map_append, e, List.set_append_right _ _ (by omega), l1, Nat.sub_self]
  simp
end Jvm.OwnWp
namespace Jvm.OwnWp
open Sem ClassFile Op Lib Bundle Jvm.Stand Jvm.Free Jvm.LawKit Jvm.RoadKit
theorem shr0 (x : Int32) : x >>> ((0 : Int32) &&& 31) = x := by
  have s := c_ishr x 0 0 (by decide)
  refine Int32.toInt_inj.mp ?_
  rw [s]; simp
theorem ints_at' {xs : List Int32} (i : Nat) : (ints xs).getD i (.int 0) = .int (xs.getD i 0) := by
  simp only [ints, List.getD_eq_getElem?_getD, List.getElem?_map]
  cases xs[i]? <;> rfl
/-- a char read of a byte -/
def chr8 (u : Int32) : Int32 := nar .char ((u &&& 255).toUInt32.toUInt16.toUInt32.toInt32)
theorem char_idem (x : Int32) : nar .char (nar .char x) = nar .char x := by
  have e := c_i2c x
  have e' : (nar .char x).toInt = x.toUInt32.toUInt16.toUInt32.toInt32.toInt := rfl
  refine nar_char ?_ ?_
  · rw [Int32.lt_iff_toInt_lt, e']; have e0 : (0 : Int32).toInt = 0 := rfl; omega
  · rw [Int32.lt_iff_toInt_lt, e']; have e0 : (65535 : Int32).toInt = 65535 := rfl; omega
theorem chr8_nar (u : Int32) : nar .char (chr8 u) = chr8 u := char_idem _
theorem chr8_lo {c : Int32} (h : ¬ c < 0 ∧ ¬ (255 : Int32) < c) : chr8 (nar .byte c) = c := by
  obtain ⟨h0, h1⟩ := h
  rw [Int32.lt_iff_toInt_lt] at h0 h1
  have e0 : (0 : Int32).toInt = 0 := rfl
  have e1 : (255 : Int32).toInt = 255 := rfl
  have b := c_i2b c
  have b' : ((nar .byte c).toInt - c.toInt) % 256 = 0 := b.1
  have m := c_mask (nar .byte c) 255 8 (by decide) (by decide)
  have m' : (nar .byte c &&& 255).toInt = (nar .byte c).toInt % 256 := m
  have v : nar .byte c &&& 255 = c := Int32.toInt_inj.mp (by omega)
  show nar .char (nar .char (nar .byte c &&& 255)) = c
  rw [v, char_idem]
  refine nar_char ?_ ?_
  · rw [Int32.lt_iff_toInt_lt]; omega
  · rw [Int32.lt_iff_toInt_lt]; have e2 : (65535 : Int32).toInt = 65535 := rfl; omega
end Jvm.OwnWp
namespace Jvm.Pilot.@@N@@
open Jvm Jvm.ClassFile Sem Op Lib Jvm.Free Jvm.Stand Jvm.LawKit Jvm.RoadKit Bundle Jvm.OwnWp Jvm.Pilot.@@N@@.Jvm.D
def digs : List Int32 := [48, 49, 50, 51, 52, 53, 54, 55, 56, 57, 65, 66, 67, 68, 69, 70]
def dig (j : Int32) : Int32 := digs.getD j.toNatClampNeg 0
def digv (v : Int32) : Int32 := if v < 10 then nar .char ((48 + v).toUInt32.toUInt16.toUInt32.toInt32) else nar .char ((65 + (v - 10)).toUInt32.toUInt16.toUInt32.toInt32)
theorem byte_idem3 (x : Int32) : nar .byte x.toInt8.toInt32 = x.toInt8.toInt32 := byte_idem x
theorem digs_lat : ∀ c ∈ digs, ¬ c < 0 ∧ ¬ (255 : Int32) < c := by decide
theorem dig_lat (j : Int32) : ¬ dig j < 0 ∧ ¬ (255 : Int32) < dig j := by
  unfold dig
  by_cases h : j.toNatClampNeg < digs.length
  · exact digs_lat _ (getD_in h)
  · rw [List.getD_eq_getElem?_getD, List.getElem?_eq_none (by omega)]; decide
theorem dig_nar (j : Int32) : nar .char (dig j) = dig j := by
  have h := dig_lat j
  refine nar_char h.1 ?_
  intro q
  apply h.2
  rw [Int32.lt_iff_toInt_lt] at q ⊢
  have e1 : (65535 : Int32).toInt = 65535 := rfl
  have e2 : (255 : Int32).toInt = 255 := rfl
  omega
theorem and15 (y : Int32) : ¬ (y &&& (15 : Int32)) < 0 ∧ (y &&& (15 : Int32)) < (16 : Int32) := by
  have a := c_and y 15 (by decide)
  have e0 : (0 : Int32).toInt = 0 := rfl
  have e1 : (15 : Int32).toInt = 15 := rfl
  have e2 : (16 : Int32).toInt = 16 := rfl
  rw [Int32.lt_iff_toInt_lt, Int32.lt_iff_toInt_lt]
  omega
theorem dig_digv {j : Int32} (h0 : 0 ≤ j.toInt) (h1 : j.toInt < 16) : dig j = digv j := by
  have t : ∀ k : Fin 16, dig (Int32.ofNat k.val) = digv (Int32.ofNat k.val) := by decide
  have e : j = Int32.ofNat j.toInt.toNat := by
    refine Int32.toInt_inj.mp ?_
    rw [ofN_toInt (by omega)]; omega
  rw [e]
  exact t ⟨j.toInt.toNat, by omega⟩
theorem own_hi (p : Int32) : dig ((p.toInt8.toInt32 >>> ((4 : Int32) &&& 31)) &&& (15 : Int32)) = digv ((p &&& (255 : Int32)) / (16 : Int32)) := by
  have b := c_i2b p
  have s := c_ishr p.toInt8.toInt32 4 4 (by decide)
  have m := c_mask (p.toInt8.toInt32 >>> ((4 : Int32) &&& 31)) 15 4 (by decide) (by decide)
  have m2 := c_mask p 255 8 (by decide) (by decide)
  have d := (c_idiv (p &&& (255 : Int32)) 16 16 rfl (by decide)).1
  have m' : ((p.toInt8.toInt32 >>> ((4 : Int32) &&& 31)) &&& (15 : Int32)).toInt = (p.toInt8.toInt32 >>> ((4 : Int32) &&& 31)).toInt % 16 := m
  have s' : (p.toInt8.toInt32 >>> ((4 : Int32) &&& 31)).toInt = p.toInt8.toInt32.toInt / 16 := s
  have m2' : (p &&& (255 : Int32)).toInt = p.toInt % 256 := m2
  have d' := d (by omega)
  have e : (p.toInt8.toInt32 >>> ((4 : Int32) &&& 31)) &&& (15 : Int32) = (p &&& (255 : Int32)) / (16 : Int32) := Int32.toInt_inj.mp (by omega)
  rw [e]; exact dig_digv (by omega) (by omega)
theorem own_lo (p : Int32) : dig (p.toInt8.toInt32 &&& (15 : Int32)) = digv ((p &&& (255 : Int32)) % (16 : Int32)) := by
  have b := c_i2b p
  have m := c_mask p.toInt8.toInt32 15 4 (by decide) (by decide)
  have m2 := c_mask p 255 8 (by decide) (by decide)
  have d := (c_irem (p &&& (255 : Int32)) 16 16 rfl).1
  have m' : (p.toInt8.toInt32 &&& (15 : Int32)).toInt = p.toInt8.toInt32.toInt % 16 := m
  have m2' : (p &&& (255 : Int32)).toInt = p.toInt % 256 := m2
  have d' := d (by omega)
  have e : p.toInt8.toInt32 &&& (15 : Int32) = (p &&& (255 : Int32)) % (16 : Int32) := Int32.toInt_inj.mp (by omega)
  rw [e]; exact dig_digv (by omega) (by omega)
theorem own_mod5 (p : Int32) : (p &&& (2147483647 : Int32)) % (5 : Int32) = 0 ∨ (p &&& (2147483647 : Int32)) % (5 : Int32) = 1 ∨ (p &&& (2147483647 : Int32)) % (5 : Int32) = 2 ∨ (p &&& (2147483647 : Int32)) % (5 : Int32) = 3 ∨ (p &&& (2147483647 : Int32)) % (5 : Int32) = 4 := by
  have a := c_and p 2147483647 (by decide)
  have d := (c_irem (p &&& (2147483647 : Int32)) 5 5 rfl).1 a.1
  generalize hq : (p &&& (2147483647 : Int32)) % (5 : Int32) = q at d ⊢
  have r : q.toInt = 0 ∨ q.toInt = 1 ∨ q.toInt = 2 ∨ q.toInt = 3 ∨ q.toInt = 4 := by omega
  rcases r with r | r | r | r | r
  · exact Or.inl (Int32.toInt_inj.mp r)
  · exact Or.inr (Or.inl (Int32.toInt_inj.mp r))
  · exact Or.inr (Or.inr (Or.inl (Int32.toInt_inj.mp r)))
  · exact Or.inr (Or.inr (Or.inr (Or.inl (Int32.toInt_inj.mp r))))
  · exact Or.inr (Or.inr (Or.inr (Or.inr (Int32.toInt_inj.mp r))))
theorem fold_all (f : Nat → Option Bool) : ∀ (L : List Nat) (acc : Option Bool), L.foldl (fun acc i => match acc with | some true => f i | x => x) acc = some true → acc = some true ∧ ∀ i ∈ L, f i = some true
  | [], acc, h => ⟨h, fun _ q => nomatch q⟩
  | i :: L, acc, h => by
    obtain ⟨h1, h2⟩ := fold_all f L _ h
    match acc, h1 with
    | some true, h1 => exact ⟨rfl, fun j hj => (List.mem_cons.mp hj).elim (fun e => e ▸ h1) (h2 j)⟩
theorem all_e {args : Array Value} {first s : State} {o : Option Outcome} {idx : List Nat} {t : Term} {c : Jvm.Cond} {a : Addr} {cell : Cell} (h : (Jvm.Cond.all t c).value args first o s idx = some true) (ht : t.eval args first o idx s = some (.ref a)) (ha : s.arrayAt? a = some cell) : ∀ i, i < cell.slots.size → c.value args first o s (i :: idx) = some true := by
  have h' : (match t.eval args first o idx s with
    | some (.ref a) => match s.arrayAt? a with
      | some cell => (List.range cell.slots.size).foldl (init := some true) fun acc i => match acc with
        | some true => c.value args first o s (i :: idx)
        | x => x
      | none => none
    | _ => none) = some true := h
  rw [ht] at h'
  dsimp only at h'
  rw [ha] at h'
  dsimp only at h'
  exact fun i hi => (fold_all (fun i => c.value args first o s (i :: idx)) _ _ h').2 i (List.mem_range.mpr hi)
theorem own_digits {args : Array Value} {s : State} (hf : Fit s) (h : narrow_1.value args s none s [] = some true) : ∃ (dg : Addr) (kd : ClassId), (Term.static "ridgecard/Hex" "DIGITS" "[C").eval args s none [] s = some (.ref dg) ∧ Arv s s.heap dg kd .char (16 : Int32) (ints digs) (.int 0) := by
  obtain ⟨h1, h⟩ := and_e h
  obtain ⟨h2, h⟩ := and_e h
  obtain ⟨h3, h4⟩ := and_e h
  have hlen := Cond.eq_int (Cond.before_iff.mpr h2) (Term.int_eval 16)
  obtain ⟨dg, cl', ed, hat, -⟩ := Term.length_spec hlen
  obtain ⟨cl, A⟩ := Arr.start ed h1
  have hat2 : s.arrayAt? dg = some cl := Arr.fin (Vm.Alike.refl _) A
  cases hat.symm.trans hat2
  have h31 := Jvm.Free.SBG.length_lt ed hat hlen
  have hsz : cl'.slots.size = 16 := by
    have e := (len_f ed hat h31).symm.trans hlen
    have e' : cl'.slots.size.toInt32 = (16 : Int32) := Value.int.inj (Option.some.inj e)
    have := congrArg Int32.toInt e'
    rw [len_toInt h31] at this
    have e2 : (16 : Int32).toInt = 16 := rfl
    omega
  have key : ∀ i, i < 16 → cl'.slots[i]? = some (.int (digs.getD i 0)) := fun i hi => by
    have hin : ¬ ((Int32.ofNat i) < 0 ∨ cl'.slots.size ≤ (Int32.ofNat i).toNatClampNeg) := by
      rw [ofN_clamp (by omega)]
      exact fun q => q.elim (ofN_nn (by omega)) (by omega)
    have hcl : (Int32.ofNat i).toNatClampNeg = i := ofN_clamp (by omega)
    have hix := idx_at (s := s) (args := args) (first := s) (o := none) (j := Int32.ofNat i) (ofN_nn (by omega))
    rw [hcl] at hix
    have hex : ∃ v, cl'.slots[i]? = some v := ⟨_, Array.getElem?_eq_getElem (by omega)⟩
    obtain ⟨v, hv⟩ := hex
    have hfit := elem_fits hf A hin (by rw [hcl]; exact hv)
    obtain ⟨x, rfl⟩ : ∃ x, v = .int x := by cases v <;> simp [fits] at hfit <;> exact ⟨_, rfl⟩
    have edi : (Term.static "ridgecard/Hex" "DIGITS" "[C").eval args s none [i] s = some (.ref dg) := ed
    have hel := elem_f edi hix hat (ofN_nn (by omega))
    rw [hcl, hv] at hel
    have o1 := op1_f (f := .i2l) hel
    have o2 := op1_f (f := .i2l) hix
    have ti : (Int32.ofNat i).toInt = i := ofN_toInt (by omega)
    have rx := rng_char hfit
    have rr := rng32 x
    rw [hv]
    by_cases hc : i < 10
    · have b := all_e h3 ed hat i (by omega)
      have o3 := op2_f (f := .ladd) o2 (long_at (args := args) (first := s) (o := none) (idx := [i]) (s := s) 48)
      rcases or_e2 (Cond.le_ints (Term.int_eval 10) hix) (eq_L o1 o3) b with q | q
      · rw [Int32.le_iff_toInt_le, ti] at q
        have : (10 : Int32).toInt = 10 := rfl
        omega
      · have q2 := congrArg Int64.toInt q
        have c1 := c_i2l x
        have c2 := c_i2l (Int32.ofNat i)
        have c3 := c_ladd (Int32.ofNat i).toInt64 48
        have r1 := rng64 ((Int32.ofNat i).toInt64 + 48)
        have e48 : (48 : Int64).toInt = 48 := rfl
        have t : ∀ k : Fin 10, digs.getD k.val 0 = Int32.ofNat (48 + k.val) := by decide
        have e3 : x = Int32.ofNat (48 + i) := Int32.toInt_inj.mp (by rw [ofN_toInt (by omega)]; omega)
        rw [e3, t ⟨i, hc⟩]
    · have b := all_e h4 ed hat i (by omega)
      have o3 := op2_f (f := .ladd) o2 (long_at (args := args) (first := s) (o := none) (idx := [i]) (s := s) 55)
      rcases or_e2 (Cond.lt_ints hix (Term.int_eval 10)) (eq_L o1 o3) b with q | q
      · rw [Int32.lt_iff_toInt_lt, ti] at q
        have : (10 : Int32).toInt = 10 := rfl
        omega
      · have q2 := congrArg Int64.toInt q
        have c1 := c_i2l x
        have c2 := c_i2l (Int32.ofNat i)
        have c3 := c_ladd (Int32.ofNat i).toInt64 55
        have r1 := rng64 ((Int32.ofNat i).toInt64 + 55)
        have e48 : (55 : Int64).toInt = 55 := rfl
        have t : ∀ k : Fin 6, digs.getD (10 + k.val) 0 = Int32.ofNat (65 + k.val) := by decide
        have e3 : x = Int32.ofNat (65 + (i - 10)) := Int32.toInt_inj.mp (by rw [ofN_toInt (by omega)]; omega)
        have t' := t ⟨i - 10, by omega⟩
        have e4 : 10 + (i - 10) = i := by omega
        simp only [e4] at t'
        rw [e3, t']
  have hd : ∀ i, i < 16 → (ints digs).getD i (.int 0) = .int (digs.getD i 0) := fun i _ => ints_at' i
  refine ⟨dg, cl'.cls, ed, cl', A, rfl, by rw [hsz]; rfl, by decide, fun i hi => ?_, fun i hi => ?_⟩
  · rw [key i (by omega), hd i (by omega)]
  · rw [hd i (by omega)]
    have := key i (by omega)
    exact elem_fits hf A (j := Int32.ofNat i) (by rw [ofN_clamp (by omega)]; exact fun q => q.elim (ofN_nn (by omega)) (by omega)) (by rw [ofN_clamp (by omega)]; exact this)
abbrev EL0 : ELT := [("java/lang/String", (7 : Nat))]
/-- what holds at the law's start -/
def Ctx (l : Launch) (Z : State) (a0 : Array Value) (n0 : Nat) (g0 : Int32) (gf : Value) (dg : Addr) (kd : ClassId) : Prop := (∀ d ∈ tables_1, d.before a0 Z = true) ∧ (∀ a ∈ Bundle.stringAtoms, a.before a0 Z = true) ∧ EW Z a0 EL0 ∧ (Sta Z Z.heap "java/lang/String" "COMPACT_STRINGS" "Z" (.int g0) ∧ ¬ g0 = 0) ∧ (Sta Z Z.heap "jdk/internal/util/Preconditions" "SIOOBE_FORMATTER" "Ljava/util/function/BiFunction;" gf ∧ gf.isRef = true ∧ Sta Z Z.heap "ridgecard/Hex" "DIGITS" "[C" (.ref dg) ∧ Arv Z Z.heap dg kd .char (16 : Int32) (ints digs) (.int 0))
theorem d_jdk_52_method_21_code_3 : decode jdk_52_method_21_code 3 = .ok (.iload 5, 2) := by decide +kernel
theorem d_jdk_52_method_21_code_5 : decode jdk_52_method_21_code 5 = .ok (.iload 4, 2) := by decide +kernel
theorem d_jdk_52_method_21_code_7 : decode jdk_52_method_21_code 7 = .ok (.if_icmp .ge 37, 3) := by decide +kernel
theorem d_jdk_52_method_21_code_44 : decode jdk_52_method_21_code 44 = .ok (.iload 4, 2) := by decide +kernel
theorem d_jdk_52_method_21_code_46 : decode jdk_52_method_21_code 46 = .ok (.ireturn, 1) := by decide +kernel
theorem d_jdk_52_method_21_code_10 : decode jdk_52_method_21_code 10 = .ok (.aload_n 0, 1) := by decide +kernel
theorem d_jdk_52_method_21_code_11 : decode jdk_52_method_21_code 11 = .ok (.iload_n 1, 1) := by decide +kernel
theorem d_jdk_52_method_21_code_12 : decode jdk_52_method_21_code 12 = .ok (.caload, 1) := by decide +kernel
theorem d_jdk_52_method_21_code_13 : decode jdk_52_method_21_code 13 = .ok (.istore 6, 2) := by decide +kernel
theorem d_jdk_52_method_21_code_15 : decode jdk_52_method_21_code 15 = .ok (.iload 6, 2) := by decide +kernel
theorem d_jdk_52_method_21_code_17 : decode jdk_52_method_21_code 17 = .ok (.sipush 255, 3) := by decide +kernel
theorem d_jdk_52_method_21_code_20 : decode jdk_52_method_21_code 20 = .ok (.if_icmp .le 6, 3) := by decide +kernel
theorem d_jdk_52_method_21_code_26 : decode jdk_52_method_21_code 26 = .ok (.aload_n 2, 1) := by decide +kernel
theorem d_jdk_52_method_21_code_27 : decode jdk_52_method_21_code 27 = .ok (.iload_n 3, 1) := by decide +kernel
theorem d_jdk_52_method_21_code_28 : decode jdk_52_method_21_code 28 = .ok (.iload 6, 2) := by decide +kernel
theorem d_jdk_52_method_21_code_30 : decode jdk_52_method_21_code 30 = .ok (.i2b, 1) := by decide +kernel
theorem d_jdk_52_method_21_code_31 : decode jdk_52_method_21_code 31 = .ok (.bastore, 1) := by decide +kernel
theorem d_jdk_52_method_21_code_32 : decode jdk_52_method_21_code 32 = .ok (.iinc 1 1, 3) := by decide +kernel
theorem d_jdk_52_method_21_code_35 : decode jdk_52_method_21_code 35 = .ok (.iinc 3 1, 3) := by decide +kernel
theorem d_jdk_52_method_21_code_38 : decode jdk_52_method_21_code 38 = .ok (.iinc 5 1, 3) := by decide +kernel
theorem d_jdk_52_method_21_code_41 : decode jdk_52_method_21_code 41 = .ok (.goto (-38), 3) := by decide +kernel
theorem d_jdk_52_method_21_code_0 : decode jdk_52_method_21_code 0 = .ok (.iconst 0, 1) := by decide +kernel
theorem d_jdk_52_method_21_code_1 : decode jdk_52_method_21_code 1 = .ok (.istore 5, 2) := by decide +kernel
theorem pl_0 : plainFor (⟨"java/lang/StringUTF16", "compress", "([CI[BII)I"⟩ : MethodName) = true := by first | exact plainFor_of_name (by first | (simp [plainName, overriddenIn]; done) | decide +kernel) | decide +kernel
theorem d_jdk_52_method_16_code_0 : decode jdk_52_method_16_code 0 = .ok (.iload_n 2, 1) := by decide +kernel
theorem d_jdk_52_method_16_code_1 : decode jdk_52_method_16_code 1 = .ok (.newarray .byte, 2) := by decide +kernel
theorem w1 {Z : State} {a0 : Array Value} (hw : ∀ d ∈ tables_1, d.before a0 Z = true) : (Jvm.Cond.arrayClass Jvm.ClassFile.FieldType.byte).before a0 Z = true := hw _ (List.mem_of_getElem? (i := 1) rfl)
theorem d_jdk_52_method_16_code_3 : decode jdk_52_method_16_code 3 = .ok (.astore_n 3, 1) := by decide +kernel
theorem d_jdk_52_method_16_code_4 : decode jdk_52_method_16_code 4 = .ok (.aload_n 0, 1) := by decide +kernel
theorem d_jdk_52_method_16_code_5 : decode jdk_52_method_16_code 5 = .ok (.iload_n 1, 1) := by decide +kernel
theorem d_jdk_52_method_16_code_6 : decode jdk_52_method_16_code 6 = .ok (.aload_n 3, 1) := by decide +kernel
theorem d_jdk_52_method_16_code_7 : decode jdk_52_method_16_code 7 = .ok (.iconst 0, 1) := by decide +kernel
theorem d_jdk_52_method_16_code_8 : decode jdk_52_method_16_code 8 = .ok (.iload_n 2, 1) := by decide +kernel
theorem d_jdk_52_method_16_code_9 : decode jdk_52_method_16_code 9 = .ok (.invokestatic 115, 3) := by decide +kernel
theorem w44 {Z : State} {a0 : Array Value} (hw : ∀ d ∈ tables_1, d.before a0 Z = true) : (Jvm.Cond.methodLink "java/lang/StringUTF16" (115 : Nat) ({ cls := "java/lang/StringUTF16", name := "compress", desc := "([CI[BII)I" } : Jvm.MethodName)).before a0 Z = true := hw _ (List.mem_of_getElem? (i := 44) rfl)
theorem w46 {Z : State} {a0 : Array Value} (hw : ∀ d ∈ tables_1, d.before a0 Z = true) : (Jvm.Cond.code ({ cls := "java/lang/StringUTF16", name := "compress", desc := "([CI[BII)I" } : Jvm.MethodName) jdk_52_method_21_code (7 : Nat) (Option.some Jvm.ClassFile.FieldType.int)).before a0 Z = true := hw _ (List.mem_of_getElem? (i := 46) rfl)
theorem w42 {Z : State} {a0 : Array Value} (hw : ∀ d ∈ tables_1, d.before a0 Z = true) : (Jvm.Cond.initialized "java/lang/StringUTF16").before a0 Z = true := hw _ (List.mem_of_getElem? (i := 42) rfl)
theorem w45 {Z : State} {a0 : Array Value} (hw : ∀ d ∈ tables_1, d.before a0 Z = true) : (Jvm.Cond.static ({ cls := "java/lang/StringUTF16", name := "compress", desc := "([CI[BII)I" } : Jvm.MethodName)).before a0 Z = true := hw _ (List.mem_of_getElem? (i := 45) rfl)
theorem pd_0 : parseMethodDescriptor "([CI[BII)I" = some ⟨[(.array .char), .int, (.array .byte), .int, .int], some .int⟩ := by decide +kernel
theorem d_jdk_52_method_16_code_12 : decode jdk_52_method_16_code 12 = .ok (.istore 4, 2) := by decide +kernel
theorem d_jdk_52_method_16_code_14 : decode jdk_52_method_16_code 14 = .ok (.iload 4, 2) := by decide +kernel
theorem d_jdk_52_method_16_code_16 : decode jdk_52_method_16_code 16 = .ok (.iload_n 2, 1) := by decide +kernel
theorem d_jdk_52_method_16_code_17 : decode jdk_52_method_16_code 17 = .ok (.if_icmp .eq 40, 3) := by decide +kernel
theorem d_jdk_52_method_16_code_57 : decode jdk_52_method_16_code 57 = .ok (.aload_n 3, 1) := by decide +kernel
theorem d_jdk_52_method_16_code_58 : decode jdk_52_method_16_code 58 = .ok (.areturn, 1) := by decide +kernel
theorem pl_1 : plainFor (⟨"java/lang/StringUTF16", "compress", "([CII)[B"⟩ : MethodName) = true := by first | exact plainFor_of_name (by first | (simp [plainName, overriddenIn]; done) | decide +kernel) | decide +kernel
theorem d_jdk_52_method_15_code_0 : decode jdk_52_method_15_code 0 = .ok (.iload_n 1, 1) := by decide +kernel
theorem d_jdk_52_method_15_code_1 : decode jdk_52_method_15_code 1 = .ok (.aload_n 0, 1) := by decide +kernel
theorem d_jdk_52_method_15_code_2 : decode jdk_52_method_15_code 2 = .ok (.arraylength, 1) := by decide +kernel
theorem d_jdk_52_method_15_code_3 : decode jdk_52_method_15_code 3 = .ok (.isub, 1) := by decide +kernel
theorem d_jdk_52_method_15_code_4 : decode jdk_52_method_15_code 4 = .ok (.bipush 31, 2) := by decide +kernel
theorem d_jdk_52_method_15_code_6 : decode jdk_52_method_15_code 6 = .ok (.iushr, 1) := by decide +kernel
theorem d_jdk_52_method_15_code_7 : decode jdk_52_method_15_code 7 = .ok (.i2b, 1) := by decide +kernel
theorem d_jdk_52_method_15_code_8 : decode jdk_52_method_15_code 8 = .ok (.ireturn, 1) := by decide +kernel
theorem pl_2 : plainFor (⟨"java/lang/StringUTF16", "coderFromArrayLen", "([BI)B"⟩ : MethodName) = true := by first | exact plainFor_of_name (by first | (simp [plainName, overriddenIn]; done) | decide +kernel) | decide +kernel
theorem d_jdk_42_method_149_code_0 : decode jdk_42_method_149_code 0 = .ok (.aload_n 0, 1) := by decide +kernel
theorem d_jdk_42_method_149_code_1 : decode jdk_42_method_149_code 1 = .ok (.invokespecial 1, 3) := by decide +kernel
theorem w17 {Z : State} {a0 : Array Value} (hw : ∀ d ∈ tables_1, d.before a0 Z = true) : (Jvm.Cond.methodLink "java/lang/String" (1 : Nat) ({ cls := "java/lang/Object", name := "<init>", desc := "()V" } : Jvm.MethodName)).before a0 Z = true := hw _ (List.mem_of_getElem? (i := 17) rfl)
theorem w18 {Z : State} {a0 : Array Value} (hw : ∀ d ∈ tables_1, d.before a0 Z = true) : (Jvm.Cond.instanceMethod ({ cls := "java/lang/Object", name := "<init>", desc := "()V" } : Jvm.MethodName)).before a0 Z = true := hw _ (List.mem_of_getElem? (i := 18) rfl)
theorem w19 {Z : State} {a0 : Array Value} (hw : ∀ d ∈ tables_1, d.before a0 Z = true) : (Jvm.Cond.code ({ cls := "java/lang/Object", name := "<init>", desc := "()V" } : Jvm.MethodName) object_method_1_code (1 : Nat) (Option.none : Option Jvm.ClassFile.FieldType)).before a0 Z = true := hw _ (List.mem_of_getElem? (i := 19) rfl)
theorem d_jdk_42_method_149_code_4 : decode jdk_42_method_149_code 4 = .ok (.iload_n 3, 1) := by decide +kernel
theorem d_jdk_42_method_149_code_5 : decode jdk_42_method_149_code 5 = .ok (.ifCond .ne 22, 3) := by decide +kernel
theorem d_jdk_42_method_149_code_8 : decode jdk_42_method_149_code 8 = .ok (.aload_n 0, 1) := by decide +kernel
theorem d_jdk_42_method_149_code_9 : decode jdk_42_method_149_code 9 = .ok (.ldc 7, 2) := by decide +kernel
theorem w20 {Z : State} {a0 : Array Value} (hw : ∀ d ∈ tables_1, d.before a0 Z = true) : (Jvm.Cond.stringLink "java/lang/String" (7 : Nat) "").before a0 Z = true := hw _ (List.mem_of_getElem? (i := 20) rfl)
theorem d_jdk_42_method_149_code_11 : decode jdk_42_method_149_code 11 = .ok (.getfield 9, 3) := by decide +kernel
theorem w25 {Z : State} {a0 : Array Value} (hw : ∀ d ∈ tables_1, d.before a0 Z = true) : (Jvm.Cond.fieldLink "java/lang/String" (9 : Nat) "java/lang/String" "value" "[B").before a0 Z = true := hw _ (List.mem_of_getElem? (i := 25) rfl)
theorem d_jdk_42_method_149_code_14 : decode jdk_42_method_149_code 14 = .ok (.putfield 9, 3) := by decide +kernel
theorem w21 {Z : State} {a0 : Array Value} (hw : ∀ d ∈ tables_1, d.before a0 Z = true) : (Jvm.Cond.laysFinal "java/lang/String" "java/lang/String" "value" "[B").before a0 Z = true := hw _ (List.mem_of_getElem? (i := 21) rfl)
theorem w8 {Z : State} {a0 : Array Value} (hw : ∀ d ∈ tables_1, d.before a0 Z = true) : (Jvm.Cond.instantiable "java/lang/String" (4 : Nat)).before a0 Z = true := hw _ (List.mem_of_getElem? (i := 8) rfl)
theorem pf__B : parseFieldDescriptor "[B" = some (.array .byte) := by decide +kernel
theorem d_jdk_42_method_149_code_17 : decode jdk_42_method_149_code 17 = .ok (.aload_n 0, 1) := by decide +kernel
theorem d_jdk_42_method_149_code_18 : decode jdk_42_method_149_code 18 = .ok (.ldc 7, 2) := by decide +kernel
theorem d_jdk_42_method_149_code_20 : decode jdk_42_method_149_code 20 = .ok (.getfield 15, 3) := by decide +kernel
theorem w26 {Z : State} {a0 : Array Value} (hw : ∀ d ∈ tables_1, d.before a0 Z = true) : (Jvm.Cond.fieldLink "java/lang/String" (15 : Nat) "java/lang/String" "coder" "B").before a0 Z = true := hw _ (List.mem_of_getElem? (i := 26) rfl)
theorem d_jdk_42_method_149_code_23 : decode jdk_42_method_149_code 23 = .ok (.putfield 15, 3) := by decide +kernel
theorem w22 {Z : State} {a0 : Array Value} (hw : ∀ d ∈ tables_1, d.before a0 Z = true) : (Jvm.Cond.laysFinal "java/lang/String" "java/lang/String" "coder" "B").before a0 Z = true := hw _ (List.mem_of_getElem? (i := 22) rfl)
theorem pf_B : parseFieldDescriptor "B" = some .byte := by decide +kernel
theorem d_jdk_42_method_149_code_26 : decode jdk_42_method_149_code 26 = .ok (.return_, 1) := by decide +kernel
theorem pl_3 : plainFor (⟨"java/lang/String", "<init>", "([CIILjava/lang/Void;)V"⟩ : MethodName) = true := by first | exact plainFor_of_name (by first | (simp [plainName, overriddenIn]; done) | decide +kernel) | decide +kernel
theorem d_jdk_42_method_149_code_27 : decode jdk_42_method_149_code 27 = .ok (.getstatic 38, 3) := by decide +kernel
theorem w37 {Z : State} {a0 : Array Value} (hw : ∀ d ∈ tables_1, d.before a0 Z = true) : (Jvm.Cond.fieldLink "java/lang/String" (38 : Nat) "java/lang/String" "COMPACT_STRINGS" "Z").before a0 Z = true := hw _ (List.mem_of_getElem? (i := 37) rfl)
theorem d_jdk_42_method_149_code_30 : decode jdk_42_method_149_code 30 = .ok (.ifCond .eq 28, 3) := by decide +kernel
theorem d_jdk_42_method_149_code_33 : decode jdk_42_method_149_code 33 = .ok (.aload_n 1, 1) := by decide +kernel
theorem d_jdk_42_method_149_code_34 : decode jdk_42_method_149_code 34 = .ok (.iload_n 2, 1) := by decide +kernel
theorem d_jdk_42_method_149_code_35 : decode jdk_42_method_149_code 35 = .ok (.iload_n 3, 1) := by decide +kernel
theorem d_jdk_42_method_149_code_36 : decode jdk_42_method_149_code 36 = .ok (.invokestatic 177, 3) := by decide +kernel
theorem w40 {Z : State} {a0 : Array Value} (hw : ∀ d ∈ tables_1, d.before a0 Z = true) : (Jvm.Cond.methodLink "java/lang/String" (177 : Nat) ({ cls := "java/lang/StringUTF16", name := "compress", desc := "([CII)[B" } : Jvm.MethodName)).before a0 Z = true := hw _ (List.mem_of_getElem? (i := 40) rfl)
theorem w43 {Z : State} {a0 : Array Value} (hw : ∀ d ∈ tables_1, d.before a0 Z = true) : (Jvm.Cond.code ({ cls := "java/lang/StringUTF16", name := "compress", desc := "([CII)[B" } : Jvm.MethodName) jdk_52_method_16_code (6 : Nat) (Option.some (Jvm.ClassFile.FieldType.array Jvm.ClassFile.FieldType.byte))).before a0 Z = true := hw _ (List.mem_of_getElem? (i := 43) rfl)
theorem w41 {Z : State} {a0 : Array Value} (hw : ∀ d ∈ tables_1, d.before a0 Z = true) : (Jvm.Cond.static ({ cls := "java/lang/StringUTF16", name := "compress", desc := "([CII)[B" } : Jvm.MethodName)).before a0 Z = true := hw _ (List.mem_of_getElem? (i := 41) rfl)
theorem pd_1 : parseMethodDescriptor "([CII)[B" = some ⟨[(.array .char), .int, .int], some (.array .byte)⟩ := by decide +kernel
theorem d_jdk_42_method_149_code_39 : decode jdk_42_method_149_code 39 = .ok (.astore 5, 2) := by decide +kernel
theorem d_jdk_42_method_149_code_41 : decode jdk_42_method_149_code 41 = .ok (.aload_n 0, 1) := by decide +kernel
theorem d_jdk_42_method_149_code_42 : decode jdk_42_method_149_code 42 = .ok (.aload 5, 2) := by decide +kernel
theorem d_jdk_42_method_149_code_44 : decode jdk_42_method_149_code 44 = .ok (.iload_n 3, 1) := by decide +kernel
theorem d_jdk_42_method_149_code_45 : decode jdk_42_method_149_code 45 = .ok (.invokestatic 47, 3) := by decide +kernel
theorem w47 {Z : State} {a0 : Array Value} (hw : ∀ d ∈ tables_1, d.before a0 Z = true) : (Jvm.Cond.methodLink "java/lang/String" (47 : Nat) ({ cls := "java/lang/StringUTF16", name := "coderFromArrayLen", desc := "([BI)B" } : Jvm.MethodName)).before a0 Z = true := hw _ (List.mem_of_getElem? (i := 47) rfl)
theorem w49 {Z : State} {a0 : Array Value} (hw : ∀ d ∈ tables_1, d.before a0 Z = true) : (Jvm.Cond.code ({ cls := "java/lang/StringUTF16", name := "coderFromArrayLen", desc := "([BI)B" } : Jvm.MethodName) jdk_52_method_15_code (2 : Nat) (Option.some Jvm.ClassFile.FieldType.byte)).before a0 Z = true := hw _ (List.mem_of_getElem? (i := 49) rfl)
theorem w48 {Z : State} {a0 : Array Value} (hw : ∀ d ∈ tables_1, d.before a0 Z = true) : (Jvm.Cond.static ({ cls := "java/lang/StringUTF16", name := "coderFromArrayLen", desc := "([BI)B" } : Jvm.MethodName)).before a0 Z = true := hw _ (List.mem_of_getElem? (i := 48) rfl)
theorem pd_2 : parseMethodDescriptor "([BI)B" = some ⟨[(.array .byte), .int], some .byte⟩ := by decide +kernel
theorem d_jdk_42_method_149_code_48 : decode jdk_42_method_149_code 48 = .ok (.putfield 15, 3) := by decide +kernel
theorem d_jdk_42_method_149_code_51 : decode jdk_42_method_149_code 51 = .ok (.aload_n 0, 1) := by decide +kernel
theorem d_jdk_42_method_149_code_52 : decode jdk_42_method_149_code 52 = .ok (.aload 5, 2) := by decide +kernel
theorem d_jdk_42_method_149_code_54 : decode jdk_42_method_149_code 54 = .ok (.putfield 9, 3) := by decide +kernel
theorem d_jdk_42_method_149_code_57 : decode jdk_42_method_149_code 57 = .ok (.return_, 1) := by decide +kernel
theorem d_jdk_42_method_3_code_0 : decode jdk_42_method_3_code 0 = .ok (.aload_n 0, 1) := by decide +kernel
theorem d_jdk_42_method_3_code_1 : decode jdk_42_method_3_code 1 = .ok (.aload_n 1, 1) := by decide +kernel
theorem d_jdk_42_method_3_code_2 : decode jdk_42_method_3_code 2 = .ok (.iconst 0, 1) := by decide +kernel
theorem d_jdk_42_method_3_code_3 : decode jdk_42_method_3_code 3 = .ok (.aload_n 1, 1) := by decide +kernel
theorem d_jdk_42_method_3_code_4 : decode jdk_42_method_3_code 4 = .ok (.arraylength, 1) := by decide +kernel
theorem d_jdk_42_method_3_code_5 : decode jdk_42_method_3_code 5 = .ok (.aconst_null, 1) := by decide +kernel
theorem d_jdk_42_method_3_code_6 : decode jdk_42_method_3_code 6 = .ok (.invokespecial 27, 3) := by decide +kernel
theorem w13 {Z : State} {a0 : Array Value} (hw : ∀ d ∈ tables_1, d.before a0 Z = true) : (Jvm.Cond.methodLink "java/lang/String" (27 : Nat) ({ cls := "java/lang/String", name := "<init>", desc := "([CIILjava/lang/Void;)V" } : Jvm.MethodName)).before a0 Z = true := hw _ (List.mem_of_getElem? (i := 13) rfl)
theorem w16 {Z : State} {a0 : Array Value} (hw : ∀ d ∈ tables_1, d.before a0 Z = true) : (Jvm.Cond.code ({ cls := "java/lang/String", name := "<init>", desc := "([CIILjava/lang/Void;)V" } : Jvm.MethodName) jdk_42_method_149_code (6 : Nat) (Option.none : Option Jvm.ClassFile.FieldType)).before a0 Z = true := hw _ (List.mem_of_getElem? (i := 16) rfl)
theorem w9 {Z : State} {a0 : Array Value} (hw : ∀ d ∈ tables_1, d.before a0 Z = true) : (Jvm.Cond.initialized "java/lang/String").before a0 Z = true := hw _ (List.mem_of_getElem? (i := 9) rfl)
theorem w14 {Z : State} {a0 : Array Value} (hw : ∀ d ∈ tables_1, d.before a0 Z = true) : (Jvm.Cond.instanceMethod ({ cls := "java/lang/String", name := "<init>", desc := "([CIILjava/lang/Void;)V" } : Jvm.MethodName)).before a0 Z = true := hw _ (List.mem_of_getElem? (i := 14) rfl)
theorem pd_3 : parseMethodDescriptor "([CIILjava/lang/Void;)V" = some ⟨[(.array .char), .int, .int, (.object "java/lang/Void")], none⟩ := by decide +kernel
theorem d_jdk_42_method_3_code_9 : decode jdk_42_method_3_code 9 = .ok (.return_, 1) := by decide +kernel
theorem pl_4 : plainFor (⟨"java/lang/String", "<init>", "([C)V"⟩ : MethodName) = true := by first | exact plainFor_of_name (by first | (simp [plainName, overriddenIn]; done) | decide +kernel) | decide +kernel
theorem d_jdk_42_method_152_code_0 : decode jdk_42_method_152_code 0 = .ok (.getstatic 38, 3) := by decide +kernel
theorem d_jdk_42_method_152_code_3 : decode jdk_42_method_152_code 3 = .ok (.ifCond .eq 10, 3) := by decide +kernel
theorem d_jdk_42_method_152_code_6 : decode jdk_42_method_152_code 6 = .ok (.aload_n 0, 1) := by decide +kernel
theorem d_jdk_42_method_152_code_7 : decode jdk_42_method_152_code 7 = .ok (.getfield 15, 3) := by decide +kernel
theorem d_jdk_42_method_152_code_10 : decode jdk_42_method_152_code 10 = .ok (.goto 4, 3) := by decide +kernel
theorem d_jdk_42_method_152_code_14 : decode jdk_42_method_152_code 14 = .ok (.ireturn, 1) := by decide +kernel
theorem pl_5 : plainFor (⟨"java/lang/String", "coder", "()B"⟩ : MethodName) = true := by first | exact plainFor_of_name (by first | (simp [plainName, overriddenIn]; done) | decide +kernel) | decide +kernel
theorem d_jdk_42_method_154_code_0 : decode jdk_42_method_154_code 0 = .ok (.getstatic 38, 3) := by decide +kernel
theorem d_jdk_42_method_154_code_3 : decode jdk_42_method_154_code 3 = .ok (.ifCond .eq 14, 3) := by decide +kernel
theorem d_jdk_42_method_154_code_6 : decode jdk_42_method_154_code 6 = .ok (.aload_n 0, 1) := by decide +kernel
theorem d_jdk_42_method_154_code_7 : decode jdk_42_method_154_code 7 = .ok (.getfield 15, 3) := by decide +kernel
theorem d_jdk_42_method_154_code_10 : decode jdk_42_method_154_code 10 = .ok (.ifCond .ne 7, 3) := by decide +kernel
theorem d_jdk_42_method_154_code_13 : decode jdk_42_method_154_code 13 = .ok (.iconst 1, 1) := by decide +kernel
theorem d_jdk_42_method_154_code_14 : decode jdk_42_method_154_code 14 = .ok (.goto 4, 3) := by decide +kernel
theorem d_jdk_42_method_154_code_18 : decode jdk_42_method_154_code 18 = .ok (.ireturn, 1) := by decide +kernel
theorem pl_6 : plainFor (⟨"java/lang/String", "isLatin1", "()Z"⟩ : MethodName) = true := by first | exact plainFor_of_name (by first | (simp [plainName, overriddenIn]; done) | decide +kernel) | decide +kernel
theorem d_jdk_42_method_54_code_0 : decode jdk_42_method_54_code 0 = .ok (.aload_n 0, 1) := by decide +kernel
theorem d_jdk_42_method_54_code_1 : decode jdk_42_method_54_code 1 = .ok (.getfield 9, 3) := by decide +kernel
theorem d_jdk_42_method_54_code_4 : decode jdk_42_method_54_code 4 = .ok (.arraylength, 1) := by decide +kernel
theorem d_jdk_42_method_54_code_5 : decode jdk_42_method_54_code 5 = .ok (.aload_n 0, 1) := by decide +kernel
theorem d_jdk_42_method_54_code_6 : decode jdk_42_method_54_code 6 = .ok (.invokevirtual 335, 3) := by decide +kernel
theorem w32 {Z : State} {a0 : Array Value} (hw : ∀ d ∈ tables_1, d.before a0 Z = true) : (Jvm.Cond.methodLink "java/lang/String" (335 : Nat) ({ cls := "java/lang/String", name := "coder", desc := "()B" } : Jvm.MethodName)).before a0 Z = true := hw _ (List.mem_of_getElem? (i := 32) rfl)
theorem w36 {Z : State} {a0 : Array Value} (hw : ∀ d ∈ tables_1, d.before a0 Z = true) : (Jvm.Cond.code ({ cls := "java/lang/String", name := "coder", desc := "()B" } : Jvm.MethodName) jdk_42_method_152_code (1 : Nat) (Option.some Jvm.ClassFile.FieldType.byte)).before a0 Z = true := hw _ (List.mem_of_getElem? (i := 36) rfl)
theorem w35 {Z : State} {a0 : Array Value} (hw : ∀ d ∈ tables_1, d.before a0 Z = true) : (Jvm.Cond.selects "java/lang/String" ({ cls := "java/lang/String", name := "coder", desc := "()B" } : Jvm.MethodName) ({ cls := "java/lang/String", name := "coder", desc := "()B" } : Jvm.MethodName)).before a0 Z = true := hw _ (List.mem_of_getElem? (i := 35) rfl)
theorem w33 {Z : State} {a0 : Array Value} (hw : ∀ d ∈ tables_1, d.before a0 Z = true) : (Jvm.Cond.declares ({ cls := "java/lang/String", name := "coder", desc := "()B" } : Jvm.MethodName)).before a0 Z = true := hw _ (List.mem_of_getElem? (i := 33) rfl)
theorem w34 {Z : State} {a0 : Array Value} (hw : ∀ d ∈ tables_1, d.before a0 Z = true) : (Jvm.Cond.instanceMethod ({ cls := "java/lang/String", name := "coder", desc := "()B" } : Jvm.MethodName)).before a0 Z = true := hw _ (List.mem_of_getElem? (i := 34) rfl)
theorem pd_4 : parseMethodDescriptor "()B" = some ⟨[], some .byte⟩ := by decide +kernel
theorem d_jdk_42_method_54_code_9 : decode jdk_42_method_54_code 9 = .ok (.ishr, 1) := by decide +kernel
theorem d_jdk_42_method_54_code_10 : decode jdk_42_method_54_code 10 = .ok (.ireturn, 1) := by decide +kernel
theorem pl_7 : plainFor (⟨"java/lang/String", "length", "()I"⟩ : MethodName) = true := by first | exact plainFor_of_name (by first | (simp [plainName, overriddenIn]; done) | decide +kernel) | decide +kernel
theorem d_jdk_41_method_11_code_0 : decode jdk_41_method_11_code 0 = .ok (.iload_n 0, 1) := by decide +kernel
theorem d_jdk_41_method_11_code_1 : decode jdk_41_method_11_code 1 = .ok (.ifCond .lt 8, 3) := by decide +kernel
theorem d_jdk_41_method_11_code_4 : decode jdk_41_method_11_code 4 = .ok (.iload_n 0, 1) := by decide +kernel
theorem d_jdk_41_method_11_code_5 : decode jdk_41_method_11_code 5 = .ok (.iload_n 1, 1) := by decide +kernel
theorem d_jdk_41_method_11_code_6 : decode jdk_41_method_11_code 6 = .ok (.if_icmp .lt 10, 3) := by decide +kernel
theorem d_jdk_41_method_11_code_16 : decode jdk_41_method_11_code 16 = .ok (.iload_n 0, 1) := by decide +kernel
theorem d_jdk_41_method_11_code_17 : decode jdk_41_method_11_code 17 = .ok (.ireturn, 1) := by decide +kernel
theorem pl_8 : plainFor (⟨"jdk/internal/util/Preconditions", "checkIndex", "(IILjava/util/function/BiFunction;)I"⟩ : MethodName) = true := by first | exact plainFor_of_name (by first | (simp [plainName, overriddenIn]; done) | decide +kernel) | decide +kernel
theorem d_jdk_42_method_155_code_0 : decode jdk_42_method_155_code 0 = .ok (.iload_n 0, 1) := by decide +kernel
theorem d_jdk_42_method_155_code_1 : decode jdk_42_method_155_code 1 = .ok (.iload_n 1, 1) := by decide +kernel
theorem d_jdk_42_method_155_code_2 : decode jdk_42_method_155_code 2 = .ok (.getstatic 1053, 3) := by decide +kernel
theorem w71 {Z : State} {a0 : Array Value} (hw : ∀ d ∈ tables_1, d.before a0 Z = true) : (Jvm.Cond.fieldLink "java/lang/String" (1053 : Nat) "jdk/internal/util/Preconditions" "SIOOBE_FORMATTER" "Ljava/util/function/BiFunction;").before a0 Z = true := hw _ (List.mem_of_getElem? (i := 71) rfl)
theorem d_jdk_42_method_155_code_5 : decode jdk_42_method_155_code 5 = .ok (.invokestatic 1059, 3) := by decide +kernel
theorem w73 {Z : State} {a0 : Array Value} (hw : ∀ d ∈ tables_1, d.before a0 Z = true) : (Jvm.Cond.methodLink "java/lang/String" (1059 : Nat) ({ cls := "jdk/internal/util/Preconditions", name := "checkIndex", desc := "(IILjava/util/function/BiFunction;)I" } : Jvm.MethodName)).before a0 Z = true := hw _ (List.mem_of_getElem? (i := 73) rfl)
theorem w75 {Z : State} {a0 : Array Value} (hw : ∀ d ∈ tables_1, d.before a0 Z = true) : (Jvm.Cond.code ({ cls := "jdk/internal/util/Preconditions", name := "checkIndex", desc := "(IILjava/util/function/BiFunction;)I" } : Jvm.MethodName) jdk_41_method_11_code (3 : Nat) (Option.some Jvm.ClassFile.FieldType.int)).before a0 Z = true := hw _ (List.mem_of_getElem? (i := 75) rfl)
theorem w72 {Z : State} {a0 : Array Value} (hw : ∀ d ∈ tables_1, d.before a0 Z = true) : (Jvm.Cond.initialized "jdk/internal/util/Preconditions").before a0 Z = true := hw _ (List.mem_of_getElem? (i := 72) rfl)
theorem w74 {Z : State} {a0 : Array Value} (hw : ∀ d ∈ tables_1, d.before a0 Z = true) : (Jvm.Cond.static ({ cls := "jdk/internal/util/Preconditions", name := "checkIndex", desc := "(IILjava/util/function/BiFunction;)I" } : Jvm.MethodName)).before a0 Z = true := hw _ (List.mem_of_getElem? (i := 74) rfl)
theorem pd_5 : parseMethodDescriptor "(IILjava/util/function/BiFunction;)I" = some ⟨[.int, .int, (.object "java/util/function/BiFunction")], some .int⟩ := by decide +kernel
theorem d_jdk_42_method_155_code_8 : decode jdk_42_method_155_code 8 = .ok (.pop, 1) := by decide +kernel
theorem d_jdk_42_method_155_code_9 : decode jdk_42_method_155_code 9 = .ok (.return_, 1) := by decide +kernel
theorem pl_9 : plainFor (⟨"java/lang/String", "checkIndex", "(II)V"⟩ : MethodName) = true := by first | exact plainFor_of_name (by first | (simp [plainName, overriddenIn]; done) | decide +kernel) | decide +kernel
theorem d_jdk_43_method_2_code_0 : decode jdk_43_method_2_code 0 = .ok (.iload_n 1, 1) := by decide +kernel
theorem d_jdk_43_method_2_code_1 : decode jdk_43_method_2_code 1 = .ok (.aload_n 0, 1) := by decide +kernel
theorem d_jdk_43_method_2_code_2 : decode jdk_43_method_2_code 2 = .ok (.arraylength, 1) := by decide +kernel
theorem d_jdk_43_method_2_code_3 : decode jdk_43_method_2_code 3 = .ok (.invokestatic 9, 3) := by decide +kernel
theorem w68 {Z : State} {a0 : Array Value} (hw : ∀ d ∈ tables_1, d.before a0 Z = true) : (Jvm.Cond.methodLink "java/lang/StringLatin1" (9 : Nat) ({ cls := "java/lang/String", name := "checkIndex", desc := "(II)V" } : Jvm.MethodName)).before a0 Z = true := hw _ (List.mem_of_getElem? (i := 68) rfl)
theorem w70 {Z : State} {a0 : Array Value} (hw : ∀ d ∈ tables_1, d.before a0 Z = true) : (Jvm.Cond.code ({ cls := "java/lang/String", name := "checkIndex", desc := "(II)V" } : Jvm.MethodName) jdk_42_method_155_code (2 : Nat) (Option.none : Option Jvm.ClassFile.FieldType)).before a0 Z = true := hw _ (List.mem_of_getElem? (i := 70) rfl)
theorem w69 {Z : State} {a0 : Array Value} (hw : ∀ d ∈ tables_1, d.before a0 Z = true) : (Jvm.Cond.static ({ cls := "java/lang/String", name := "checkIndex", desc := "(II)V" } : Jvm.MethodName)).before a0 Z = true := hw _ (List.mem_of_getElem? (i := 69) rfl)
theorem pd_6 : parseMethodDescriptor "(II)V" = some ⟨[.int, .int], none⟩ := by decide +kernel
theorem d_jdk_43_method_2_code_6 : decode jdk_43_method_2_code 6 = .ok (.aload_n 0, 1) := by decide +kernel
theorem d_jdk_43_method_2_code_7 : decode jdk_43_method_2_code 7 = .ok (.iload_n 1, 1) := by decide +kernel
theorem d_jdk_43_method_2_code_8 : decode jdk_43_method_2_code 8 = .ok (.baload, 1) := by decide +kernel
theorem d_jdk_43_method_2_code_9 : decode jdk_43_method_2_code 9 = .ok (.sipush 255, 3) := by decide +kernel
theorem d_jdk_43_method_2_code_12 : decode jdk_43_method_2_code 12 = .ok (.iand, 1) := by decide +kernel
theorem d_jdk_43_method_2_code_13 : decode jdk_43_method_2_code 13 = .ok (.i2c, 1) := by decide +kernel
theorem d_jdk_43_method_2_code_14 : decode jdk_43_method_2_code 14 = .ok (.ireturn, 1) := by decide +kernel
theorem pl_10 : plainFor (⟨"java/lang/StringLatin1", "charAt", "([BI)C"⟩ : MethodName) = true := by first | exact plainFor_of_name (by first | (simp [plainName, overriddenIn]; done) | decide +kernel) | decide +kernel
theorem d_jdk_42_method_56_code_0 : decode jdk_42_method_56_code 0 = .ok (.aload_n 0, 1) := by decide +kernel
theorem d_jdk_42_method_56_code_1 : decode jdk_42_method_56_code 1 = .ok (.invokevirtual 492, 3) := by decide +kernel
theorem w59 {Z : State} {a0 : Array Value} (hw : ∀ d ∈ tables_1, d.before a0 Z = true) : (Jvm.Cond.methodLink "java/lang/String" (492 : Nat) ({ cls := "java/lang/String", name := "isLatin1", desc := "()Z" } : Jvm.MethodName)).before a0 Z = true := hw _ (List.mem_of_getElem? (i := 59) rfl)
theorem w63 {Z : State} {a0 : Array Value} (hw : ∀ d ∈ tables_1, d.before a0 Z = true) : (Jvm.Cond.code ({ cls := "java/lang/String", name := "isLatin1", desc := "()Z" } : Jvm.MethodName) jdk_42_method_154_code (1 : Nat) (Option.some Jvm.ClassFile.FieldType.boolean)).before a0 Z = true := hw _ (List.mem_of_getElem? (i := 63) rfl)
theorem w62 {Z : State} {a0 : Array Value} (hw : ∀ d ∈ tables_1, d.before a0 Z = true) : (Jvm.Cond.selects "java/lang/String" ({ cls := "java/lang/String", name := "isLatin1", desc := "()Z" } : Jvm.MethodName) ({ cls := "java/lang/String", name := "isLatin1", desc := "()Z" } : Jvm.MethodName)).before a0 Z = true := hw _ (List.mem_of_getElem? (i := 62) rfl)
theorem w60 {Z : State} {a0 : Array Value} (hw : ∀ d ∈ tables_1, d.before a0 Z = true) : (Jvm.Cond.declares ({ cls := "java/lang/String", name := "isLatin1", desc := "()Z" } : Jvm.MethodName)).before a0 Z = true := hw _ (List.mem_of_getElem? (i := 60) rfl)
theorem w61 {Z : State} {a0 : Array Value} (hw : ∀ d ∈ tables_1, d.before a0 Z = true) : (Jvm.Cond.instanceMethod ({ cls := "java/lang/String", name := "isLatin1", desc := "()Z" } : Jvm.MethodName)).before a0 Z = true := hw _ (List.mem_of_getElem? (i := 61) rfl)
theorem pd_7 : parseMethodDescriptor "()Z" = some ⟨[], some .boolean⟩ := by decide +kernel
theorem d_jdk_42_method_56_code_4 : decode jdk_42_method_56_code 4 = .ok (.ifCond .eq 12, 3) := by decide +kernel
theorem d_jdk_42_method_56_code_7 : decode jdk_42_method_56_code 7 = .ok (.aload_n 0, 1) := by decide +kernel
theorem d_jdk_42_method_56_code_8 : decode jdk_42_method_56_code 8 = .ok (.getfield 9, 3) := by decide +kernel
theorem d_jdk_42_method_56_code_11 : decode jdk_42_method_56_code 11 = .ok (.iload_n 1, 1) := by decide +kernel
theorem d_jdk_42_method_56_code_12 : decode jdk_42_method_56_code 12 = .ok (.invokestatic 495, 3) := by decide +kernel
theorem w64 {Z : State} {a0 : Array Value} (hw : ∀ d ∈ tables_1, d.before a0 Z = true) : (Jvm.Cond.methodLink "java/lang/String" (495 : Nat) ({ cls := "java/lang/StringLatin1", name := "charAt", desc := "([BI)C" } : Jvm.MethodName)).before a0 Z = true := hw _ (List.mem_of_getElem? (i := 64) rfl)
theorem w67 {Z : State} {a0 : Array Value} (hw : ∀ d ∈ tables_1, d.before a0 Z = true) : (Jvm.Cond.code ({ cls := "java/lang/StringLatin1", name := "charAt", desc := "([BI)C" } : Jvm.MethodName) jdk_43_method_2_code (2 : Nat) (Option.some Jvm.ClassFile.FieldType.char)).before a0 Z = true := hw _ (List.mem_of_getElem? (i := 67) rfl)
theorem w66 {Z : State} {a0 : Array Value} (hw : ∀ d ∈ tables_1, d.before a0 Z = true) : (Jvm.Cond.initialized "java/lang/StringLatin1").before a0 Z = true := hw _ (List.mem_of_getElem? (i := 66) rfl)
theorem w65 {Z : State} {a0 : Array Value} (hw : ∀ d ∈ tables_1, d.before a0 Z = true) : (Jvm.Cond.static ({ cls := "java/lang/StringLatin1", name := "charAt", desc := "([BI)C" } : Jvm.MethodName)).before a0 Z = true := hw _ (List.mem_of_getElem? (i := 65) rfl)
theorem pd_8 : parseMethodDescriptor "([BI)C" = some ⟨[(.array .byte), .int], some .char⟩ := by decide +kernel
theorem d_jdk_42_method_56_code_15 : decode jdk_42_method_56_code 15 = .ok (.ireturn, 1) := by decide +kernel
theorem pl_11 : plainFor (⟨"java/lang/String", "charAt", "(I)C"⟩ : MethodName) = true := by first | exact plainFor_of_name (by first | (simp [plainName, overriddenIn]; done) | decide +kernel) | decide +kernel
theorem d_prog_19_method_3_code_0 : decode prog_19_method_3_code 0 = .ok (.aload_n 0, 1) := by decide +kernel
theorem d_prog_19_method_3_code_1 : decode prog_19_method_3_code 1 = .ok (.arraylength, 1) := by decide +kernel
theorem d_prog_19_method_3_code_2 : decode prog_19_method_3_code 2 = .ok (.iconst 2, 1) := by decide +kernel
theorem d_prog_19_method_3_code_3 : decode prog_19_method_3_code 3 = .ok (.imul, 1) := by decide +kernel
theorem d_prog_19_method_3_code_4 : decode prog_19_method_3_code 4 = .ok (.newarray .char, 2) := by decide +kernel
theorem w6 {Z : State} {a0 : Array Value} (hw : ∀ d ∈ tables_1, d.before a0 Z = true) : (Jvm.Cond.arrayClass Jvm.ClassFile.FieldType.char).before a0 Z = true := hw _ (List.mem_of_getElem? (i := 6) rfl)
theorem d_prog_19_method_3_code_6 : decode prog_19_method_3_code 6 = .ok (.astore_n 1, 1) := by decide +kernel
theorem d_prog_19_method_3_code_7 : decode prog_19_method_3_code 7 = .ok (.iconst 0, 1) := by decide +kernel
theorem d_prog_19_method_3_code_8 : decode prog_19_method_3_code 8 = .ok (.istore_n 2, 1) := by decide +kernel
theorem d_prog_19_method_3_code_9 : decode prog_19_method_3_code 9 = .ok (.iload_n 2, 1) := by decide +kernel
theorem d_prog_19_method_3_code_10 : decode prog_19_method_3_code 10 = .ok (.aload_n 0, 1) := by decide +kernel
theorem d_prog_19_method_3_code_11 : decode prog_19_method_3_code 11 = .ok (.arraylength, 1) := by decide +kernel
theorem d_prog_19_method_3_code_12 : decode prog_19_method_3_code 12 = .ok (.if_icmp .ge 43, 3) := by decide +kernel
theorem d_prog_19_method_3_code_55 : decode prog_19_method_3_code 55 = .ok (.new 50, 3) := by decide +kernel
theorem w7 {Z : State} {a0 : Array Value} (hw : ∀ d ∈ tables_1, d.before a0 Z = true) : (Jvm.Cond.classLink "ridgecard/Hex" (50 : Nat) "java/lang/String").before a0 Z = true := hw _ (List.mem_of_getElem? (i := 7) rfl)
theorem d_prog_19_method_3_code_58 : decode prog_19_method_3_code 58 = .ok (.dup, 1) := by decide +kernel
theorem d_prog_19_method_3_code_59 : decode prog_19_method_3_code 59 = .ok (.aload_n 1, 1) := by decide +kernel
theorem d_prog_19_method_3_code_60 : decode prog_19_method_3_code 60 = .ok (.invokespecial 52, 3) := by decide +kernel
theorem w10 {Z : State} {a0 : Array Value} (hw : ∀ d ∈ tables_1, d.before a0 Z = true) : (Jvm.Cond.methodLink "ridgecard/Hex" (52 : Nat) ({ cls := "java/lang/String", name := "<init>", desc := "([C)V" } : Jvm.MethodName)).before a0 Z = true := hw _ (List.mem_of_getElem? (i := 10) rfl)
theorem w12 {Z : State} {a0 : Array Value} (hw : ∀ d ∈ tables_1, d.before a0 Z = true) : (Jvm.Cond.code ({ cls := "java/lang/String", name := "<init>", desc := "([C)V" } : Jvm.MethodName) jdk_42_method_3_code (2 : Nat) (Option.none : Option Jvm.ClassFile.FieldType)).before a0 Z = true := hw _ (List.mem_of_getElem? (i := 12) rfl)
theorem w11 {Z : State} {a0 : Array Value} (hw : ∀ d ∈ tables_1, d.before a0 Z = true) : (Jvm.Cond.instanceMethod ({ cls := "java/lang/String", name := "<init>", desc := "([C)V" } : Jvm.MethodName)).before a0 Z = true := hw _ (List.mem_of_getElem? (i := 11) rfl)
theorem pd_9 : parseMethodDescriptor "([C)V" = some ⟨[(.array .char)], none⟩ := by decide +kernel
theorem d_prog_19_method_3_code_63 : decode prog_19_method_3_code 63 = .ok (.areturn, 1) := by decide +kernel
theorem pl_12 : plainFor (⟨"ridgecard/Hex", "format", "([B)Ljava/lang/String;"⟩ : MethodName) = true := by first | exact plainFor_of_name (by first | (simp [plainName, overriddenIn]; done) | decide +kernel) | decide +kernel
theorem d_prog_19_method_3_code_15 : decode prog_19_method_3_code 15 = .ok (.aload_n 1, 1) := by decide +kernel
theorem d_prog_19_method_3_code_16 : decode prog_19_method_3_code 16 = .ok (.iconst 2, 1) := by decide +kernel
theorem d_prog_19_method_3_code_17 : decode prog_19_method_3_code 17 = .ok (.iload_n 2, 1) := by decide +kernel
theorem d_prog_19_method_3_code_18 : decode prog_19_method_3_code 18 = .ok (.imul, 1) := by decide +kernel
theorem d_prog_19_method_3_code_19 : decode prog_19_method_3_code 19 = .ok (.getstatic 46, 3) := by decide +kernel
theorem w38 {Z : State} {a0 : Array Value} (hw : ∀ d ∈ tables_1, d.before a0 Z = true) : (Jvm.Cond.fieldLink "ridgecard/Hex" (46 : Nat) "ridgecard/Hex" "DIGITS" "[C").before a0 Z = true := hw _ (List.mem_of_getElem? (i := 38) rfl)
theorem d_prog_19_method_3_code_22 : decode prog_19_method_3_code 22 = .ok (.aload_n 0, 1) := by decide +kernel
theorem d_prog_19_method_3_code_23 : decode prog_19_method_3_code 23 = .ok (.iload_n 2, 1) := by decide +kernel
theorem d_prog_19_method_3_code_24 : decode prog_19_method_3_code 24 = .ok (.baload, 1) := by decide +kernel
theorem d_prog_19_method_3_code_25 : decode prog_19_method_3_code 25 = .ok (.iconst 4, 1) := by decide +kernel
theorem d_prog_19_method_3_code_26 : decode prog_19_method_3_code 26 = .ok (.ishr, 1) := by decide +kernel
theorem d_prog_19_method_3_code_27 : decode prog_19_method_3_code 27 = .ok (.bipush 15, 2) := by decide +kernel
theorem d_prog_19_method_3_code_29 : decode prog_19_method_3_code 29 = .ok (.iand, 1) := by decide +kernel
theorem d_prog_19_method_3_code_30 : decode prog_19_method_3_code 30 = .ok (.caload, 1) := by decide +kernel
theorem d_prog_19_method_3_code_31 : decode prog_19_method_3_code 31 = .ok (.castore, 1) := by decide +kernel
theorem d_prog_19_method_3_code_32 : decode prog_19_method_3_code 32 = .ok (.aload_n 1, 1) := by decide +kernel
theorem d_prog_19_method_3_code_33 : decode prog_19_method_3_code 33 = .ok (.iconst 2, 1) := by decide +kernel
theorem d_prog_19_method_3_code_34 : decode prog_19_method_3_code 34 = .ok (.iload_n 2, 1) := by decide +kernel
theorem d_prog_19_method_3_code_35 : decode prog_19_method_3_code 35 = .ok (.imul, 1) := by decide +kernel
theorem d_prog_19_method_3_code_36 : decode prog_19_method_3_code 36 = .ok (.iconst 1, 1) := by decide +kernel
theorem d_prog_19_method_3_code_37 : decode prog_19_method_3_code 37 = .ok (.iadd, 1) := by decide +kernel
theorem d_prog_19_method_3_code_38 : decode prog_19_method_3_code 38 = .ok (.getstatic 46, 3) := by decide +kernel
theorem d_prog_19_method_3_code_41 : decode prog_19_method_3_code 41 = .ok (.aload_n 0, 1) := by decide +kernel
theorem d_prog_19_method_3_code_42 : decode prog_19_method_3_code 42 = .ok (.iload_n 2, 1) := by decide +kernel
theorem d_prog_19_method_3_code_43 : decode prog_19_method_3_code 43 = .ok (.baload, 1) := by decide +kernel
theorem d_prog_19_method_3_code_44 : decode prog_19_method_3_code 44 = .ok (.bipush 15, 2) := by decide +kernel
theorem d_prog_19_method_3_code_46 : decode prog_19_method_3_code 46 = .ok (.iand, 1) := by decide +kernel
theorem d_prog_19_method_3_code_47 : decode prog_19_method_3_code 47 = .ok (.caload, 1) := by decide +kernel
theorem d_prog_19_method_3_code_48 : decode prog_19_method_3_code 48 = .ok (.castore, 1) := by decide +kernel
theorem d_prog_19_method_3_code_49 : decode prog_19_method_3_code 49 = .ok (.iinc 2 1, 3) := by decide +kernel
theorem d_prog_19_method_3_code_52 : decode prog_19_method_3_code 52 = .ok (.goto (-43), 3) := by decide +kernel
theorem d_method_3_code_0 : decode method_3_code 0 = .ok (.iload_n 0, 1) := by decide +kernel
theorem d_method_3_code_1 : decode method_3_code 1 = .ok (.bipush 10, 2) := by decide +kernel
theorem d_method_3_code_3 : decode method_3_code 3 = .ok (.if_icmp .ge 9, 3) := by decide +kernel
theorem d_method_3_code_12 : decode method_3_code 12 = .ok (.bipush 65, 2) := by decide +kernel
theorem d_method_3_code_14 : decode method_3_code 14 = .ok (.iload_n 0, 1) := by decide +kernel
theorem d_method_3_code_15 : decode method_3_code 15 = .ok (.bipush 10, 2) := by decide +kernel
theorem d_method_3_code_17 : decode method_3_code 17 = .ok (.isub, 1) := by decide +kernel
theorem d_method_3_code_18 : decode method_3_code 18 = .ok (.iadd, 1) := by decide +kernel
theorem d_method_3_code_19 : decode method_3_code 19 = .ok (.i2c, 1) := by decide +kernel
theorem d_method_3_code_20 : decode method_3_code 20 = .ok (.ireturn, 1) := by decide +kernel
theorem d_method_3_code_6 : decode method_3_code 6 = .ok (.bipush 48, 2) := by decide +kernel
theorem d_method_3_code_8 : decode method_3_code 8 = .ok (.iload_n 0, 1) := by decide +kernel
theorem d_method_3_code_9 : decode method_3_code 9 = .ok (.iadd, 1) := by decide +kernel
theorem d_method_3_code_10 : decode method_3_code 10 = .ok (.i2c, 1) := by decide +kernel
theorem d_method_3_code_11 : decode method_3_code 11 = .ok (.ireturn, 1) := by decide +kernel
theorem pl_13 : plainFor (⟨"ridgecard/HexFormatPinLaw", "digit", "(I)C"⟩ : MethodName) = true := by first | exact plainFor_of_name (by first | (simp [plainName, overriddenIn]; done) | decide +kernel) | decide +kernel
theorem d_method_4_code_0 : decode method_4_code 0 = .ok (.iload_n 2, 1) := by decide +kernel
theorem d_method_4_code_1 : decode method_4_code 1 = .ok (.sipush 255, 3) := by decide +kernel
theorem d_method_4_code_4 : decode method_4_code 4 = .ok (.iand, 1) := by decide +kernel
theorem d_method_4_code_5 : decode method_4_code 5 = .ok (.istore_n 3, 1) := by decide +kernel
theorem d_method_4_code_6 : decode method_4_code 6 = .ok (.aload_n 0, 1) := by decide +kernel
theorem d_method_4_code_7 : decode method_4_code 7 = .ok (.iconst 2, 1) := by decide +kernel
theorem d_method_4_code_8 : decode method_4_code 8 = .ok (.iload_n 1, 1) := by decide +kernel
theorem d_method_4_code_9 : decode method_4_code 9 = .ok (.imul, 1) := by decide +kernel
theorem d_method_4_code_10 : decode method_4_code 10 = .ok (.invokevirtual 26, 3) := by decide +kernel
theorem w54 {Z : State} {a0 : Array Value} (hw : ∀ d ∈ tables_1, d.before a0 Z = true) : (Jvm.Cond.methodLink "ridgecard/HexFormatPinLaw" (26 : Nat) ({ cls := "java/lang/String", name := "charAt", desc := "(I)C" } : Jvm.MethodName)).before a0 Z = true := hw _ (List.mem_of_getElem? (i := 54) rfl)
theorem w58 {Z : State} {a0 : Array Value} (hw : ∀ d ∈ tables_1, d.before a0 Z = true) : (Jvm.Cond.code ({ cls := "java/lang/String", name := "charAt", desc := "(I)C" } : Jvm.MethodName) jdk_42_method_56_code (2 : Nat) (Option.some Jvm.ClassFile.FieldType.char)).before a0 Z = true := hw _ (List.mem_of_getElem? (i := 58) rfl)
theorem w57 {Z : State} {a0 : Array Value} (hw : ∀ d ∈ tables_1, d.before a0 Z = true) : (Jvm.Cond.selects "java/lang/String" ({ cls := "java/lang/String", name := "charAt", desc := "(I)C" } : Jvm.MethodName) ({ cls := "java/lang/String", name := "charAt", desc := "(I)C" } : Jvm.MethodName)).before a0 Z = true := hw _ (List.mem_of_getElem? (i := 57) rfl)
theorem w55 {Z : State} {a0 : Array Value} (hw : ∀ d ∈ tables_1, d.before a0 Z = true) : (Jvm.Cond.declares ({ cls := "java/lang/String", name := "charAt", desc := "(I)C" } : Jvm.MethodName)).before a0 Z = true := hw _ (List.mem_of_getElem? (i := 55) rfl)
theorem w56 {Z : State} {a0 : Array Value} (hw : ∀ d ∈ tables_1, d.before a0 Z = true) : (Jvm.Cond.instanceMethod ({ cls := "java/lang/String", name := "charAt", desc := "(I)C" } : Jvm.MethodName)).before a0 Z = true := hw _ (List.mem_of_getElem? (i := 56) rfl)
theorem pd_10 : parseMethodDescriptor "(I)C" = some ⟨[.int], some .char⟩ := by decide +kernel
theorem d_method_4_code_13 : decode method_4_code 13 = .ok (.iload_n 3, 1) := by decide +kernel
theorem d_method_4_code_14 : decode method_4_code 14 = .ok (.bipush 16, 2) := by decide +kernel
theorem d_method_4_code_16 : decode method_4_code 16 = .ok (.idiv, 1) := by decide +kernel
theorem d_method_4_code_17 : decode method_4_code 17 = .ok (.invokestatic 30, 3) := by decide +kernel
theorem w76 {Z : State} {a0 : Array Value} (hw : ∀ d ∈ tables_1, d.before a0 Z = true) : (Jvm.Cond.methodLink "ridgecard/HexFormatPinLaw" (30 : Nat) ({ cls := "ridgecard/HexFormatPinLaw", name := "digit", desc := "(I)C" } : Jvm.MethodName)).before a0 Z = true := hw _ (List.mem_of_getElem? (i := 76) rfl)
theorem w78 {Z : State} {a0 : Array Value} (hw : ∀ d ∈ tables_1, d.before a0 Z = true) : (Jvm.Cond.code ({ cls := "ridgecard/HexFormatPinLaw", name := "digit", desc := "(I)C" } : Jvm.MethodName) method_3_code (1 : Nat) (Option.some Jvm.ClassFile.FieldType.char)).before a0 Z = true := hw _ (List.mem_of_getElem? (i := 78) rfl)
theorem w52 {Z : State} {a0 : Array Value} (hw : ∀ d ∈ tables_1, d.before a0 Z = true) : (Jvm.Cond.initialized "ridgecard/HexFormatPinLaw").before a0 Z = true := hw _ (List.mem_of_getElem? (i := 52) rfl)
theorem w77 {Z : State} {a0 : Array Value} (hw : ∀ d ∈ tables_1, d.before a0 Z = true) : (Jvm.Cond.static ({ cls := "ridgecard/HexFormatPinLaw", name := "digit", desc := "(I)C" } : Jvm.MethodName)).before a0 Z = true := hw _ (List.mem_of_getElem? (i := 77) rfl)
theorem d_method_4_code_20 : decode method_4_code 20 = .ok (.if_icmp .ne 26, 3) := by decide +kernel
theorem d_method_4_code_23 : decode method_4_code 23 = .ok (.aload_n 0, 1) := by decide +kernel
theorem d_method_4_code_24 : decode method_4_code 24 = .ok (.iconst 2, 1) := by decide +kernel
theorem d_method_4_code_25 : decode method_4_code 25 = .ok (.iload_n 1, 1) := by decide +kernel
theorem d_method_4_code_26 : decode method_4_code 26 = .ok (.imul, 1) := by decide +kernel
theorem d_method_4_code_27 : decode method_4_code 27 = .ok (.iconst 1, 1) := by decide +kernel
theorem d_method_4_code_28 : decode method_4_code 28 = .ok (.iadd, 1) := by decide +kernel
theorem d_method_4_code_29 : decode method_4_code 29 = .ok (.invokevirtual 26, 3) := by decide +kernel
theorem d_method_4_code_32 : decode method_4_code 32 = .ok (.iload_n 3, 1) := by decide +kernel
theorem d_method_4_code_33 : decode method_4_code 33 = .ok (.bipush 16, 2) := by decide +kernel
theorem d_method_4_code_35 : decode method_4_code 35 = .ok (.irem, 1) := by decide +kernel
theorem d_method_4_code_36 : decode method_4_code 36 = .ok (.invokestatic 30, 3) := by decide +kernel
theorem d_method_4_code_39 : decode method_4_code 39 = .ok (.if_icmp .ne 7, 3) := by decide +kernel
theorem d_method_4_code_42 : decode method_4_code 42 = .ok (.iconst 1, 1) := by decide +kernel
theorem d_method_4_code_43 : decode method_4_code 43 = .ok (.goto 4, 3) := by decide +kernel
theorem d_method_4_code_47 : decode method_4_code 47 = .ok (.ireturn, 1) := by decide +kernel
theorem pl_14 : plainFor (⟨"ridgecard/HexFormatPinLaw", "pair", "(Ljava/lang/String;II)Z"⟩ : MethodName) = true := by first | exact plainFor_of_name (by first | (simp [plainName, overriddenIn]; done) | decide +kernel) | decide +kernel
theorem w0 {Z : State} {a0 : Array Value} (hw : ∀ d ∈ tables_1, d.before a0 Z = true) : (Jvm.Cond.constant "ridgecard/HexFormatPinLaw" (7 : Nat) (2147483647 : Int32)).before a0 Z = true := hw _ (List.mem_of_getElem? (i := 0) rfl)
theorem w2 {Z : State} {a0 : Array Value} (hw : ∀ d ∈ tables_1, d.before a0 Z = true) : (Jvm.Cond.methodLink "ridgecard/HexFormatPinLaw" (8 : Nat) ({ cls := "ridgecard/Hex", name := "format", desc := "([B)Ljava/lang/String;" } : Jvm.MethodName)).before a0 Z = true := hw _ (List.mem_of_getElem? (i := 2) rfl)
theorem w5 {Z : State} {a0 : Array Value} (hw : ∀ d ∈ tables_1, d.before a0 Z = true) : (Jvm.Cond.code ({ cls := "ridgecard/Hex", name := "format", desc := "([B)Ljava/lang/String;" } : Jvm.MethodName) prog_19_method_3_code (3 : Nat) (Option.some (Jvm.ClassFile.FieldType.object "java/lang/String"))).before a0 Z = true := hw _ (List.mem_of_getElem? (i := 5) rfl)
theorem w4 {Z : State} {a0 : Array Value} (hw : ∀ d ∈ tables_1, d.before a0 Z = true) : (Jvm.Cond.initialized "ridgecard/Hex").before a0 Z = true := hw _ (List.mem_of_getElem? (i := 4) rfl)
theorem w3 {Z : State} {a0 : Array Value} (hw : ∀ d ∈ tables_1, d.before a0 Z = true) : (Jvm.Cond.static ({ cls := "ridgecard/Hex", name := "format", desc := "([B)Ljava/lang/String;" } : Jvm.MethodName)).before a0 Z = true := hw _ (List.mem_of_getElem? (i := 3) rfl)
theorem pd_11 : parseMethodDescriptor "([B)Ljava/lang/String;" = some ⟨[(.array .byte)], some (.object "java/lang/String")⟩ := by decide +kernel
theorem w27 {Z : State} {a0 : Array Value} (hw : ∀ d ∈ tables_1, d.before a0 Z = true) : (Jvm.Cond.methodLink "ridgecard/HexFormatPinLaw" (14 : Nat) ({ cls := "java/lang/String", name := "length", desc := "()I" } : Jvm.MethodName)).before a0 Z = true := hw _ (List.mem_of_getElem? (i := 27) rfl)
theorem w31 {Z : State} {a0 : Array Value} (hw : ∀ d ∈ tables_1, d.before a0 Z = true) : (Jvm.Cond.code ({ cls := "java/lang/String", name := "length", desc := "()I" } : Jvm.MethodName) jdk_42_method_54_code (1 : Nat) (Option.some Jvm.ClassFile.FieldType.int)).before a0 Z = true := hw _ (List.mem_of_getElem? (i := 31) rfl)
theorem w30 {Z : State} {a0 : Array Value} (hw : ∀ d ∈ tables_1, d.before a0 Z = true) : (Jvm.Cond.selects "java/lang/String" ({ cls := "java/lang/String", name := "length", desc := "()I" } : Jvm.MethodName) ({ cls := "java/lang/String", name := "length", desc := "()I" } : Jvm.MethodName)).before a0 Z = true := hw _ (List.mem_of_getElem? (i := 30) rfl)
theorem w28 {Z : State} {a0 : Array Value} (hw : ∀ d ∈ tables_1, d.before a0 Z = true) : (Jvm.Cond.declares ({ cls := "java/lang/String", name := "length", desc := "()I" } : Jvm.MethodName)).before a0 Z = true := hw _ (List.mem_of_getElem? (i := 28) rfl)
theorem w29 {Z : State} {a0 : Array Value} (hw : ∀ d ∈ tables_1, d.before a0 Z = true) : (Jvm.Cond.instanceMethod ({ cls := "java/lang/String", name := "length", desc := "()I" } : Jvm.MethodName)).before a0 Z = true := hw _ (List.mem_of_getElem? (i := 29) rfl)
theorem pd_12 : parseMethodDescriptor "()I" = some ⟨[], some .int⟩ := by decide +kernel
theorem w50 {Z : State} {a0 : Array Value} (hw : ∀ d ∈ tables_1, d.before a0 Z = true) : (Jvm.Cond.methodLink "ridgecard/HexFormatPinLaw" (20 : Nat) ({ cls := "ridgecard/HexFormatPinLaw", name := "pair", desc := "(Ljava/lang/String;II)Z" } : Jvm.MethodName)).before a0 Z = true := hw _ (List.mem_of_getElem? (i := 50) rfl)
theorem w53 {Z : State} {a0 : Array Value} (hw : ∀ d ∈ tables_1, d.before a0 Z = true) : (Jvm.Cond.code ({ cls := "ridgecard/HexFormatPinLaw", name := "pair", desc := "(Ljava/lang/String;II)Z" } : Jvm.MethodName) method_4_code (4 : Nat) (Option.some Jvm.ClassFile.FieldType.boolean)).before a0 Z = true := hw _ (List.mem_of_getElem? (i := 53) rfl)
theorem w51 {Z : State} {a0 : Array Value} (hw : ∀ d ∈ tables_1, d.before a0 Z = true) : (Jvm.Cond.static ({ cls := "ridgecard/HexFormatPinLaw", name := "pair", desc := "(Ljava/lang/String;II)Z" } : Jvm.MethodName)).before a0 Z = true := hw _ (List.mem_of_getElem? (i := 51) rfl)
theorem pd_13 : parseMethodDescriptor "(Ljava/lang/String;II)Z" = some ⟨[(.object "java/lang/String"), .int, .int], some .boolean⟩ := by decide +kernel
theorem pl_15 : plainFor (⟨"ridgecard/HexFormatPinLaw", "law", "(IIIII)Z"⟩ : MethodName) = true := by first | exact plainFor_of_name (by first | (simp [plainName, overriddenIn]; done) | decide +kernel) | decide +kernel
theorem w39 {Z : State} {a0 : Array Value} (hw : ∀ d ∈ tables_1, d.before a0 Z = true) : (Jvm.Cond.laysStatic "ridgecard/Hex" "DIGITS" "[C").before a0 Z = true := hw _ (List.mem_of_getElem? (i := 39) rfl)
def Q_cmp5 (Z : State) (g0 : Int32) (gf : Value) (dg : Addr) (kd : ClassId) (b : Addr) (d : Addr) (kb : ClassId) (kd : ClassId) (N : Int32) (cs : List Int32) (h : Heap) : QT := fun v' M9 h9 => v' = some (.int N) ∧ M9 = [] ∧ Keep h h9 [d] ∧ Arv Z h9 d kd .byte N (ints (cs.map (nar .byte))) (.int 0)
theorem ef_cmp5 (m : MethodId) (b : Addr) (d : Addr) (kb : ClassId) (kd : ClassId) (N : Int32) (cs : List Int32) : entryFrame m [(.ref b), (.int (0 : Int32)), (.ref d), (.int (0 : Int32)), (.int N)].toArray 7 = mkF m 0 #[.val (.ref b), .val (.int (0 : Int32)), .val (.ref d), .val (.int (0 : Int32)), .val (.int N), .unset, .unset] [] := by first | rfl | (simp [entryFrame, mkF, argsToLocals, Value.category]; done)
set_option maxRecDepth 65536 in
set_option maxHeartbeats 4000000 in
theorem m_cmp5 {l : Launch} {Z : State} {a0 : Array Value} {n0 : Nat} {g0 : Int32} {gf : Value} {dg : Addr} {kd : ClassId} (hC : Ctx l Z a0 n0 g0 gf dg kd) (b : Addr) (d : Addr) (kb : ClassId) (kd : ClassId) (N : Int32) (cs : List Int32) (h : Heap) (p0_arv : Arv Z h b kb .char N (ints cs) (.int 0)) (p1_arv : Arv Z h d kd .byte N (ints (List.replicate cs.length 0)) (.int 0)) (hN : N = Int32.ofNat cs.length) (hlen : cs.length ≤ 32) (hlat : ∀ c ∈ cs, ¬ c < 0 ∧ ¬ (255 : Int32) < c) :
    Met l Z EL0 n0 (⟨"java/lang/StringUTF16", "compress", "([CI[BII)I"⟩ : MethodName) jdk_52_method_21_code 7 (some .int) [] ({ frames := 0, cells := 0, slots := 0, locals := 0 } : Room) [(.ref b), (.int (0 : Int32)), (.ref d), (.int (0 : Int32)), (.int N)] [d] h (Q_cmp5 Z g0 gf dg kd b d kb kd N cs h) := by
  obtain ⟨hw, hS, hE, hK, hX⟩ := id hC
  refine Met.intro pl_0 (fun m => ef_cmp5 m b d kb kd N cs) hE ?_
  intro G hG
  have loop : ∀ (r i : Nat) (h1 : Heap) (s6 : Slot), i + r = cs.length → One s6 → Keep h h1 [d] → Arv Z h1 d kd .byte N (ints ((cs.take i).map (nar .byte) ++ List.replicate r 0)) (.int 0) → Arv Z h1 b kb .char N (ints cs) (.int 0) → G [d] h1 0 0 3 #[.val (.ref b), .val (.int (Int32.ofNat i)), .val (.ref d), .val (.int (Int32.ofNat i)), .val (.int N), .val (.int (Int32.ofNat i)), s6] [] := by
    intro r; induction r with
    | zero =>
      intro i h1 s6 hi hs6 K V1 V2
      have e : i = cs.length := by omega
      have V3 : Arv Z h1 d kd .byte N (ints (cs.map (nar .byte))) (.int 0) := by subst e; simpa using V1
      refine iload hG d_jdk_52_method_21_code_3 rfl ?_
      refine iload hG d_jdk_52_method_21_code_5 rfl ?_
      refine icmpYes hG d_jdk_52_method_21_code_7 (flt (by rw [hN]; exact ofN_nlt (by omega) (by omega))).2.1 (by decide) (pc' := 44) rfl ?_
      refine iload hG d_jdk_52_method_21_code_44 rfl ?_
      have K1 : Keep h h1 [d] := ((Keep.refl _ _).trans K (allS (Or.inl (List.mem_of_getElem? (i := 0) rfl)) all0))
      exact ireturn hG d_jdk_52_method_21_code_46 (M' := []) ⟨rfl, rfl, K1, V3⟩ all0 (Nat.le_of_ble_eq_true rfl) (Nat.le_of_ble_eq_true rfl)
    | succ r ih =>
      intro i h1 s6 hi hs6 K V1 V2
      have hin := ofN_in (i := i) (n := cs.length) (by omega) (by omega)
      rw [← hN] at hin
      have hc := hlat _ (getD_in (xs := cs) (i := i) (by omega))
      refine iload hG d_jdk_52_method_21_code_3 rfl ?_
      refine iload hG d_jdk_52_method_21_code_5 rfl ?_
      refine icmpNo hG d_jdk_52_method_21_code_7 (tlt hin.2).2.1 ?_
      refine aloadN hG d_jdk_52_method_21_code_10 rfl rfl ?_
      refine iloadN hG d_jdk_52_method_21_code_11 rfl ?_
      refine caload hG d_jdk_52_method_21_code_12 V2 hin (v := (.int (cs.getD i 0))) (ints_at (by omega)) ?_
      refine istoreS hG d_jdk_52_method_21_code_13 (o := s6) rfl hs6 ?_
      show G [d] h1 (0) (0) 15 #[.val (.ref b), .val (.int (Int32.ofNat i)), .val (.ref d), .val (.int (Int32.ofNat i)), .val (.int N), .val (.int (Int32.ofNat i)), .val (.int (cs.getD i 0))] []
      refine iload hG d_jdk_52_method_21_code_15 rfl ?_
      refine sipush hG d_jdk_52_method_21_code_17 (255) rfl ?_
      refine icmpYes hG d_jdk_52_method_21_code_20 (flt hc.2).2.2.2 (by decide) (pc' := 26) rfl ?_
      refine aloadN hG d_jdk_52_method_21_code_26 rfl rfl ?_
      refine iloadN hG d_jdk_52_method_21_code_27 rfl ?_
      refine iload hG d_jdk_52_method_21_code_28 rfl ?_
      refine i2b hG d_jdk_52_method_21_code_30 ?_
      refine bastore hG d_jdk_52_method_21_code_31 V1 hin (i := i) (ofN_clamp (by omega)) (by simp; omega) (List.mem_of_getElem? (i := 0) rfl) (fun h2 W3 V4 => ?_)
      have V5 : Arv Z h2 d kd .byte N (ints ((cs.take (i + 1)).map (nar .byte) ++ List.replicate r 0)) (.int 0) := by rw [fill_step (by omega) (nar .byte) (byte_idem2 _)] at V4; assumption
      refine iinc hG d_jdk_52_method_21_code_32 rfl (Int32.ofNat (i + 1)) (ofN_succ i) rfl ?_
      refine iinc hG d_jdk_52_method_21_code_35 rfl (Int32.ofNat (i + 1)) (ofN_succ i) rfl ?_
      refine iinc hG d_jdk_52_method_21_code_38 rfl (Int32.ofNat (i + 1)) (ofN_succ i) rfl ?_
      refine goto hG d_jdk_52_method_21_code_41 (by decide) (pc' := 3) rfl ?_
      have ne6 : b ≠ d := (Arv.neTy V2 V1 (by decide))
      have V7 : Arv Z h2 b kb .char N (ints cs) (.int 0) := (V2.other W3 ne6)
      exact ih (i + 1) h2 _ (by omega) (One.val rfl) (((Keep.refl _ _).trans K (allS (Or.inl (List.mem_of_getElem? (i := 0) rfl)) all0)).wr W3 (Or.inl (List.mem_of_getElem? (i := 0) rfl))) V5 V7
  refine iconst hG d_jdk_52_method_21_code_0 (0) rfl ?_
  refine istore hG d_jdk_52_method_21_code_1 rfl ?_
  exact loop cs.length 0 h _ (by omega) One.u (Keep.refl _ _) (by simpa using p1_arv) p0_arv
def Q_cmp3 (Z : State) (g0 : Int32) (gf : Value) (dg : Addr) (kd : ClassId) (b : Addr) (kb : ClassId) (N : Int32) (cs : List Int32) (h : Heap) : QT := fun v' M9 h9 => ∃ (t : Addr), ∃ (kt : ClassId), v' = some (.ref t) ∧ M9 = [t] ∧ Keep h h9 [] ∧ h.size ≤ t ∧ Arv Z h9 t kt .byte N (ints (cs.map (nar .byte))) (.int 0)
theorem ef_cmp3 (m : MethodId) (b : Addr) (kb : ClassId) (N : Int32) (cs : List Int32) : entryFrame m [(.ref b), (.int (0 : Int32)), (.int N)].toArray 6 = mkF m 0 #[.val (.ref b), .val (.int (0 : Int32)), .val (.int N), .unset, .unset, .unset] [] := by first | rfl | (simp [entryFrame, mkF, argsToLocals, Value.category]; done)
set_option maxRecDepth 65536 in
set_option maxHeartbeats 4000000 in
theorem m_cmp3 {l : Launch} {Z : State} {a0 : Array Value} {n0 : Nat} {g0 : Int32} {gf : Value} {dg : Addr} {kd : ClassId} (hC : Ctx l Z a0 n0 g0 gf dg kd) (b : Addr) (kb : ClassId) (N : Int32) (cs : List Int32) (h : Heap) (p0_arv : Arv Z h b kb .char N (ints cs) (.int 0)) (hN : N = Int32.ofNat cs.length) (hlen : cs.length ≤ 32) (hlat : ∀ c ∈ cs, ¬ c < 0 ∧ ¬ (255 : Int32) < c) :
    Met l Z EL0 n0 (⟨"java/lang/StringUTF16", "compress", "([CII)[B"⟩ : MethodName) jdk_52_method_16_code 6 (some (.array .byte)) [] ({ frames := 1, cells := 1, slots := 32, locals := 18 } : Room) [(.ref b), (.int (0 : Int32)), (.int N)] [] h (Q_cmp3 Z g0 gf dg kd b kb N cs h) := by
  obtain ⟨hw, hS, hE, hK, hX⟩ := id hC
  refine Met.intro pl_1 (fun m => ef_cmp3 m b kb N cs) hE ?_
  intro G hG
  refine iloadN hG d_jdk_52_method_16_code_0 rfl ?_
  refine newarray hG d_jdk_52_method_16_code_1 rfl (w1 hw) (by rw [hN]; exact ofN_nn (by omega)) (cap := 32) (by rw [hN, ofN_clamp (by omega)]; exact hlen) (by decide) (Nat.le_of_ble_eq_true rfl) (Nat.le_of_ble_eq_true rfl) (cnt := cs.length) (vs := (ints (List.replicate cs.length 0))) (ints_rep _) (fun h8 a9 kk10 g11 E12 V13 => ?_)
  show G [a9] h8 (1) (32) 3 #[.val (.ref b), .val (.int (0 : Int32)), .val (.int N), .unset, .unset, .unset] [(.ref a9)]
  refine astoreN hG d_jdk_52_method_16_code_3 rfl rfl ?_
  refine aloadN hG d_jdk_52_method_16_code_4 rfl rfl ?_
  refine iloadN hG d_jdk_52_method_16_code_5 rfl ?_
  refine aloadN hG d_jdk_52_method_16_code_6 rfl rfl ?_
  refine iconst hG d_jdk_52_method_16_code_7 (0) rfl ?_
  refine iloadN hG d_jdk_52_method_16_code_8 rfl ?_
  have V14 : Arv Z h8 b kb .char N (ints cs) (.int 0) := (p0_arv.ext E12)
  refine callStatic hG d_jdk_52_method_16_code_9 (w44 hw) (w45 hw) (w42 hw) (w46 hw) (by decide) (m_cmp5 hC (b) (a9) (kb) (kk10) (N) (cs) h8 V14 V13 hN hlen hlat) pd_0 rfl (rest := []) rfl rfl (allS (List.mem_of_getElem? (i := 0) rfl) all0) (Nat.le_of_ble_eq_true rfl) (W := 0) (Nat.le_of_ble_eq_true rfl) (Nat.le_of_ble_eq_true rfl) (Nat.le_of_ble_eq_true rfl) (Nat.le_of_ble_eq_true rfl) (fun v15 M16 h17 le18 hq19 => ?_)
  obtain ⟨rfl, rfl, K20, f21⟩ := hq19
  show G [a9] h17 (1) (32) 12 #[.val (.ref b), .val (.int (0 : Int32)), .val (.int N), .val (.ref a9), .unset, .unset] [(.int N)]
  refine istore hG d_jdk_52_method_16_code_12 rfl ?_
  refine iload hG d_jdk_52_method_16_code_14 rfl ?_
  refine iloadN hG d_jdk_52_method_16_code_16 rfl ?_
  refine icmpYes hG d_jdk_52_method_16_code_17 (teq rfl).1 (by decide) (pc' := 57) rfl ?_
  refine aloadN hG d_jdk_52_method_16_code_57 rfl rfl ?_
  have K22 : Keep h h17 [] := (((Keep.refl _ _).ext E12).trans K20 (allS (Or.inr g11) all0))
  exact areturn hG rfl rfl rfl d_jdk_52_method_16_code_58 (M' := [a9]) ⟨a9, kk10, rfl, rfl, K22, g11, f21⟩ (allS (List.mem_of_getElem? (i := 0) rfl) all0) (Nat.le_of_ble_eq_true rfl) (Nat.le_of_ble_eq_true rfl)
def Q_codL (Z : State) (g0 : Int32) (gf : Value) (dg : Addr) (kd : ClassId) (t : Addr) (kt : ClassId) (N : Int32) (xs : List Int32) (h : Heap) : QT := fun v' M9 h9 => v' = some (.int (0 : Int32)) ∧ M9 = [] ∧ h = h9
theorem ef_codL (m : MethodId) (t : Addr) (kt : ClassId) (N : Int32) (xs : List Int32) : entryFrame m [(.ref t), (.int N)].toArray 2 = mkF m 0 #[.val (.ref t), .val (.int N)] [] := by first | rfl | (simp [entryFrame, mkF, argsToLocals, Value.category]; done)
set_option maxRecDepth 65536 in
set_option maxHeartbeats 4000000 in
theorem m_codL {l : Launch} {Z : State} {a0 : Array Value} {n0 : Nat} {g0 : Int32} {gf : Value} {dg : Addr} {kd : ClassId} (hC : Ctx l Z a0 n0 g0 gf dg kd) (t : Addr) (kt : ClassId) (N : Int32) (xs : List Int32) (h : Heap) (p0_arv : Arv Z h t kt .byte N (ints xs) (.int 0)) :
    Met l Z EL0 n0 (⟨"java/lang/StringUTF16", "coderFromArrayLen", "([BI)B"⟩ : MethodName) jdk_52_method_15_code 2 (some .byte) [] ({ frames := 0, cells := 0, slots := 0, locals := 0 } : Room) [(.ref t), (.int N)] [] h (Q_codL Z g0 gf dg kd t kt N xs h) := by
  obtain ⟨hw, hS, hE, hK, hX⟩ := id hC
  refine Met.intro pl_2 (fun m => ef_codL m t kt N xs) hE ?_
  intro G hG
  refine iloadN hG d_jdk_52_method_15_code_0 rfl ?_
  refine aloadN hG d_jdk_52_method_15_code_1 rfl rfl ?_
  refine alen hG d_jdk_52_method_15_code_2 p0_arv ?_
  refine isub hG d_jdk_52_method_15_code_3 ?_
  refine bipush hG d_jdk_52_method_15_code_4 (31) rfl ?_
  refine iushr hG d_jdk_52_method_15_code_6 ?_
  refine i2b hG d_jdk_52_method_15_code_7 ?_
  exact ireturnN hG (by simp) d_jdk_52_method_15_code_8 (M' := []) ⟨(by rw [Int32.sub_self]; decide), rfl, rfl⟩ all0 (Nat.le_of_ble_eq_true rfl) (Nat.le_of_ble_eq_true rfl)
def Q_initV0 (Z : State) (g0 : Int32) (gf : Value) (dg : Addr) (kd : ClassId) (a : Addr) (b : Addr) (h : Heap) : QT := fun v' M9 h9 => ∃ (t : Addr), ∃ (kt : ClassId), v' = none ∧ M9 = [] ∧ Keep h h9 [a] ∧ Exa Z h9 a "java/lang/String" ∧ Fld Z h9 a "java/lang/String" "coder" "B" (.int (0 : Int32)) ∧ Fld Z h9 a "java/lang/String" "value" "[B" (.ref t) ∧ Arv Z h9 t kt .byte (0 : Int32) (ints []) (.int 0) ∧ (a ≠ t)
theorem ef_initV0 (m : MethodId) (a : Addr) (b : Addr) : entryFrame m [(.ref a), (.ref b), (.int (0 : Int32)), (.int (0 : Int32)), .null].toArray 6 = mkF m 0 #[.val (.ref a), .val (.ref b), .val (.int (0 : Int32)), .val (.int (0 : Int32)), .val .null, .unset] [] := by first | rfl | (simp [entryFrame, mkF, argsToLocals, Value.category]; done)
set_option maxRecDepth 65536 in
set_option maxHeartbeats 4000000 in
theorem m_initV0 {l : Launch} {Z : State} {a0 : Array Value} {n0 : Nat} {g0 : Int32} {gf : Value} {dg : Addr} {kd : ClassId} (hC : Ctx l Z a0 n0 g0 gf dg kd) (a : Addr) (b : Addr) (h : Heap) (p0_exa : Exa Z h a "java/lang/String") (p1_fld : Fld Z h a "java/lang/String" "value" "[B" .null) (p2_fld : Fld Z h a "java/lang/String" "coder" "B" (.int (0 : Int32))) :
    Met l Z EL0 n0 (⟨"java/lang/String", "<init>", "([CIILjava/lang/Void;)V"⟩ : MethodName) jdk_42_method_149_code 6 none [] ({ frames := 1, cells := 4, slots := 8, locals := 12 } : Room) [(.ref a), (.ref b), (.int (0 : Int32)), (.int (0 : Int32)), .null] [a] h (Q_initV0 Z g0 gf dg kd a b h) := by
  obtain ⟨hw, hS, hE, hK, hX⟩ := id hC
  refine Met.intro pl_3 (fun m => ef_initV0 m a b) hE ?_
  intro G hG
  refine aloadN hG d_jdk_42_method_149_code_0 rfl rfl ?_
  refine objInit hG d_jdk_42_method_149_code_1 (w17 hw) (w18 hw) (w19 hw) rfl (Nat.le_of_ble_eq_true rfl) (W := 0) (Nat.le_of_ble_eq_true rfl) (Nat.le_of_ble_eq_true rfl) ?_
  refine iloadN hG d_jdk_42_method_149_code_4 rfl ?_
  refine ifNo hG d_jdk_42_method_149_code_5 (by decide) ?_
  refine aloadN hG d_jdk_42_method_149_code_8 rfl rfl ?_
  refine ldc hG d_jdk_42_method_149_code_9 (w20 hw) hS (by decide) (vs := []) (N := 0) ⟨by decide, by decide +kernel⟩ (by decide) (by decide) (nn := 0) (by decide) (by decide) (Nat.le_of_ble_eq_true rfl) (Nat.le_of_ble_eq_true rfl) (fun h23 a24 b25 kk26 E27 X28 F29 F30 V31 ne32 => ?_)
  show G [a] h23 (2) (4) 11 #[.val (.ref a), .val (.ref b), .val (.int (0 : Int32)), .val (.int (0 : Int32)), .val .null, .unset] [(.ref a24), (.ref a)]
  refine getfield hG d_jdk_42_method_149_code_11 (w25 hw) Via.refl F30 ?_
  have E33 : Exa Z h23 a "java/lang/String" := (p0_exa.ext E27)
  have F34 : Fld Z h23 a "java/lang/String" "value" "[B" .null := (p1_fld.ext E27)
  refine putfield hG d_jdk_42_method_149_code_14 (w25 hw) Via.refl F34 E33 (Or.inr ⟨(w21 hw), rfl, rfl⟩) (w8 hw) pf__B rfl rfl (List.mem_of_getElem? (i := 0) rfl) (fun h35 W36 => ?_)
  have F37 : Fld Z h35 a "java/lang/String" "value" "[B" (.ref b25) := F34.same W36
  refine aloadN hG d_jdk_42_method_149_code_17 rfl rfl ?_
  refine ldc hG d_jdk_42_method_149_code_18 (w20 hw) hS (by decide) (vs := []) (N := 0) ⟨by decide, by decide +kernel⟩ (by decide) (by decide) (nn := 0) (by decide) (by decide) (Nat.le_of_ble_eq_true rfl) (Nat.le_of_ble_eq_true rfl) (fun h38 a39 b40 kk41 E42 X43 F44 F45 V46 ne47 => ?_)
  show G [a] h38 (4) (8) 20 #[.val (.ref a), .val (.ref b), .val (.int (0 : Int32)), .val (.int (0 : Int32)), .val .null, .unset] [(.ref a39), (.ref a)]
  refine getfield hG d_jdk_42_method_149_code_20 (w26 hw) Via.refl F44 ?_
  have E48 : Exa Z h38 a "java/lang/String" := ((E33.wr W36).ext E42)
  have F49 : Fld Z h38 a "java/lang/String" "coder" "B" (.int (0 : Int32)) := (((p2_fld.ext E27).other W36 (Or.inr (RoadKit.slot_ne (Or.inr (w22 hw)) (Or.inr (w21 hw)) (by decide) pf_B pf__B))).ext E42)
  refine putfield hG d_jdk_42_method_149_code_23 (w26 hw) Via.refl F49 E48 (Or.inr ⟨(w22 hw), rfl, rfl⟩) (w8 hw) pf_B rfl rfl (List.mem_of_getElem? (i := 0) rfl) (fun h50 W51 => ?_)
  have F52 : Fld Z h50 a "java/lang/String" "coder" "B" (.int (0 : Int32)) := F49.same W51
  have E53 : Exa Z h50 a "java/lang/String" := (E48.wr W51)
  have F54 : Fld Z h50 a "java/lang/String" "value" "[B" (.ref b25) := ((F37.ext E42).other W51 (Or.inr (RoadKit.slot_ne (Or.inr (w21 hw)) (Or.inr (w22 hw)) (by decide) pf__B pf_B)))
  have V55 : Arv Z h50 b25 kk26 .byte (0 : Int32) [] (.int 0) := (((V31.other W36 (Ne.symm (ne32 _ (List.mem_of_getElem? (i := 0) rfl)).2)).ext E42).other W51 (Ne.symm (ne32 _ (List.mem_of_getElem? (i := 0) rfl)).2))
  have K56 : Keep h h50 [a] := (((((Keep.refl _ _).ext E27).wr W36 (Or.inl (List.mem_of_getElem? (i := 0) rfl))).ext E42).wr W51 (Or.inl (List.mem_of_getElem? (i := 0) rfl)))
  exact return0 hG d_jdk_42_method_149_code_26 (M' := []) ⟨b25, kk26, rfl, rfl, K56, E53, F52, F54, V55, (ne32 _ (List.mem_of_getElem? (i := 0) rfl)).2⟩ all0 (Nat.le_of_ble_eq_true rfl) (Nat.le_of_ble_eq_true rfl)
def Q_initV1 (Z : State) (g0 : Int32) (gf : Value) (dg : Addr) (kd : ClassId) (a : Addr) (b : Addr) (kb : ClassId) (N : Int32) (cs : List Int32) (h : Heap) : QT := fun v' M9 h9 => ∃ (t : Addr), ∃ (kt : ClassId), v' = none ∧ M9 = [t] ∧ Keep h h9 [a] ∧ h.size ≤ t ∧ Exa Z h9 a "java/lang/String" ∧ Fld Z h9 a "java/lang/String" "coder" "B" (.int (0 : Int32)) ∧ Fld Z h9 a "java/lang/String" "value" "[B" (.ref t) ∧ Arv Z h9 t kt .byte N (ints (cs.map (nar .byte))) (.int 0)
theorem ef_initV1 (m : MethodId) (a : Addr) (b : Addr) (kb : ClassId) (N : Int32) (cs : List Int32) : entryFrame m [(.ref a), (.ref b), (.int (0 : Int32)), (.int N), .null].toArray 6 = mkF m 0 #[.val (.ref a), .val (.ref b), .val (.int (0 : Int32)), .val (.int N), .val .null, .unset] [] := by first | rfl | (simp [entryFrame, mkF, argsToLocals, Value.category]; done)
set_option maxRecDepth 65536 in
set_option maxHeartbeats 4000000 in
theorem m_initV1 {l : Launch} {Z : State} {a0 : Array Value} {n0 : Nat} {g0 : Int32} {gf : Value} {dg : Addr} {kd : ClassId} (hC : Ctx l Z a0 n0 g0 gf dg kd) (a : Addr) (b : Addr) (kb : ClassId) (N : Int32) (cs : List Int32) (h : Heap) (p0_exa : Exa Z h a "java/lang/String") (p1_fld : Fld Z h a "java/lang/String" "value" "[B" .null) (p2_fld : Fld Z h a "java/lang/String" "coder" "B" (.int (0 : Int32))) (p3_arv : Arv Z h b kb .char N (ints cs) (.int 0)) (hN : N = Int32.ofNat cs.length) (hlen : cs.length ≤ 32) (hlat : ∀ c ∈ cs, ¬ c < 0 ∧ ¬ (255 : Int32) < c) (hpos : ¬ N = 0) :
    Met l Z EL0 n0 (⟨"java/lang/String", "<init>", "([CIILjava/lang/Void;)V"⟩ : MethodName) jdk_42_method_149_code 6 none [] ({ frames := 2, cells := 1, slots := 32, locals := 35 } : Room) [(.ref a), (.ref b), (.int (0 : Int32)), (.int N), .null] [a] h (Q_initV1 Z g0 gf dg kd a b kb N cs h) := by
  obtain ⟨hw, hS, hE, hK, hX⟩ := id hC
  refine Met.intro pl_3 (fun m => ef_initV1 m a b kb N cs) hE ?_
  intro G hG
  refine aloadN hG d_jdk_42_method_149_code_0 rfl rfl ?_
  refine objInit hG d_jdk_42_method_149_code_1 (w17 hw) (w18 hw) (w19 hw) rfl (Nat.le_of_ble_eq_true rfl) (W := 0) (Nat.le_of_ble_eq_true rfl) (Nat.le_of_ble_eq_true rfl) ?_
  refine iloadN hG d_jdk_42_method_149_code_4 rfl ?_
  refine ifYes hG d_jdk_42_method_149_code_5 (feq hpos).2 (by decide) (pc' := 27) rfl ?_
  refine getstatic hG d_jdk_42_method_149_code_27 (w37 hw) Via.refl hK.1 ?_
  refine ifNo hG d_jdk_42_method_149_code_30 (feq hK.2).1 ?_
  refine aloadN hG d_jdk_42_method_149_code_33 rfl rfl ?_
  refine iloadN hG d_jdk_42_method_149_code_34 rfl ?_
  refine iloadN hG d_jdk_42_method_149_code_35 rfl ?_
  refine callStatic hG d_jdk_42_method_149_code_36 (w40 hw) (w41 hw) (w42 hw) (w43 hw) (by decide) (m_cmp3 hC (b) (kb) (N) (cs) h p3_arv hN hlen hlat) pd_1 rfl (rest := []) rfl rfl all0 (Nat.le_of_ble_eq_true rfl) (W := 0) (Nat.le_of_ble_eq_true rfl) (Nat.le_of_ble_eq_true rfl) (Nat.le_of_ble_eq_true rfl) (Nat.le_of_ble_eq_true rfl) (fun v57 M58 h59 le60 hq61 => ?_)
  obtain ⟨t62, kt63, rfl, rfl, K64, g65, f66⟩ := hq61
  show G [t62, a] h59 (1) (32) 39 #[.val (.ref a), .val (.ref b), .val (.int (0 : Int32)), .val (.int N), .val .null, .unset] [(.ref t62)]
  refine astore hG d_jdk_42_method_149_code_39 rfl rfl ?_
  refine aloadN hG d_jdk_42_method_149_code_41 rfl rfl ?_
  refine aload hG d_jdk_42_method_149_code_42 rfl rfl ?_
  refine iloadN hG d_jdk_42_method_149_code_44 rfl ?_
  refine callStatic hG d_jdk_42_method_149_code_45 (w47 hw) (w48 hw) (w42 hw) (w49 hw) (by decide) (m_codL hC (t62) (kt63) (N) ((cs.map (nar .byte))) h59 f66) pd_2 rfl (rest := [(.ref a)]) rfl rfl all0 (Nat.le_of_ble_eq_true rfl) (W := 1) (Nat.le_of_ble_eq_true rfl) (Nat.le_of_ble_eq_true rfl) (Nat.le_of_ble_eq_true rfl) (Nat.le_of_ble_eq_true rfl) (fun v67 M68 h69 le70 hq71 => ?_)
  obtain ⟨rfl, rfl, rfl⟩ := hq71
  show G [t62, a] h59 (1) (32) 48 #[.val (.ref a), .val (.ref b), .val (.int (0 : Int32)), .val (.int N), .val .null, .val (.ref t62)] [(.int (0 : Int32)), (.ref a)]
  have E72 : Exa Z h59 a "java/lang/String" := (p0_exa.keep K64)
  have F73 : Fld Z h59 a "java/lang/String" "coder" "B" (.int (0 : Int32)) := (p2_fld.keep K64 nin0)
  refine putfield hG d_jdk_42_method_149_code_48 (w26 hw) Via.refl F73 E72 (Or.inr ⟨(w22 hw), rfl, rfl⟩) (w8 hw) pf_B rfl rfl (List.mem_of_getElem? (i := 1) rfl) (fun h74 W75 => ?_)
  have F76 : Fld Z h74 a "java/lang/String" "coder" "B" (.int (0 : Int32)) := F73.same W75
  refine aloadN hG d_jdk_42_method_149_code_51 rfl rfl ?_
  refine aload hG d_jdk_42_method_149_code_52 rfl rfl ?_
  have E77 : Exa Z h74 a "java/lang/String" := (E72.wr W75)
  have F78 : Fld Z h74 a "java/lang/String" "value" "[B" .null := ((p1_fld.keep K64 nin0).other W75 (Or.inr (RoadKit.slot_ne (Or.inr (w21 hw)) (Or.inr (w22 hw)) (by decide) pf__B pf_B)))
  refine putfield hG d_jdk_42_method_149_code_54 (w25 hw) Via.refl F78 E77 (Or.inr ⟨(w21 hw), rfl, rfl⟩) (w8 hw) pf__B rfl rfl (List.mem_of_getElem? (i := 1) rfl) (fun h79 W80 => ?_)
  have F81 : Fld Z h79 a "java/lang/String" "value" "[B" (.ref t62) := F78.same W80
  have E82 : Exa Z h79 a "java/lang/String" := (E77.wr W80)
  have F83 : Fld Z h79 a "java/lang/String" "coder" "B" (.int (0 : Int32)) := (F76.other W80 (Or.inr (RoadKit.slot_ne (Or.inr (w22 hw)) (Or.inr (w21 hw)) (by decide) pf_B pf__B)))
  have ne84 : t62 ≠ a := (Nat.ne_of_gt (Nat.lt_of_lt_of_le p0_exa.lt g65))
  have V85 : Arv Z h79 t62 kt63 .byte N (ints (cs.map (nar .byte))) (.int 0) := ((f66.other W75 ne84).other W80 ne84)
  have K86 : Keep h h79 [a] := ((((Keep.refl _ _).trans K64 all0).wr W75 (Or.inl (List.mem_of_getElem? (i := 0) rfl))).wr W80 (Or.inl (List.mem_of_getElem? (i := 0) rfl)))
  exact return0 hG d_jdk_42_method_149_code_57 (M' := [t62]) ⟨t62, kt63, rfl, rfl, K86, g65, E82, F83, F81, V85⟩ (allS (List.mem_of_getElem? (i := 0) rfl) all0) (Nat.le_of_ble_eq_true rfl) (Nat.le_of_ble_eq_true rfl)
def Q_initC0 (Z : State) (g0 : Int32) (gf : Value) (dg : Addr) (kd : ClassId) (a : Addr) (b : Addr) (kb : ClassId) (h : Heap) : QT := fun v' M9 h9 => ∃ (t : Addr), ∃ (kt : ClassId), v' = none ∧ M9 = [] ∧ Keep h h9 [a] ∧ Exa Z h9 a "java/lang/String" ∧ Fld Z h9 a "java/lang/String" "coder" "B" (.int (0 : Int32)) ∧ Fld Z h9 a "java/lang/String" "value" "[B" (.ref t) ∧ Arv Z h9 t kt .byte (0 : Int32) (ints []) (.int 0) ∧ (a ≠ t)
theorem ef_initC0 (m : MethodId) (a : Addr) (b : Addr) (kb : ClassId) : entryFrame m [(.ref a), (.ref b)].toArray 2 = mkF m 0 #[.val (.ref a), .val (.ref b)] [] := by first | rfl | (simp [entryFrame, mkF, argsToLocals, Value.category]; done)
set_option maxRecDepth 65536 in
set_option maxHeartbeats 4000000 in
theorem m_initC0 {l : Launch} {Z : State} {a0 : Array Value} {n0 : Nat} {g0 : Int32} {gf : Value} {dg : Addr} {kd : ClassId} (hC : Ctx l Z a0 n0 g0 gf dg kd) (a : Addr) (b : Addr) (kb : ClassId) (h : Heap) (p0_exa : Exa Z h a "java/lang/String") (p1_fld : Fld Z h a "java/lang/String" "value" "[B" .null) (p2_fld : Fld Z h a "java/lang/String" "coder" "B" (.int (0 : Int32))) (p3_arv : Arv Z h b kb .char (0 : Int32) (ints []) (.int 0)) :
    Met l Z EL0 n0 (⟨"java/lang/String", "<init>", "([C)V"⟩ : MethodName) jdk_42_method_3_code 2 none [] ({ frames := 2, cells := 4, slots := 8, locals := 29 } : Room) [(.ref a), (.ref b)] [a] h (Q_initC0 Z g0 gf dg kd a b kb h) := by
  obtain ⟨hw, hS, hE, hK, hX⟩ := id hC
  refine Met.intro pl_4 (fun m => ef_initC0 m a b kb) hE ?_
  intro G hG
  refine aloadN hG d_jdk_42_method_3_code_0 rfl rfl ?_
  refine aloadN hG d_jdk_42_method_3_code_1 rfl rfl ?_
  refine iconst hG d_jdk_42_method_3_code_2 (0) rfl ?_
  refine aloadN hG d_jdk_42_method_3_code_3 rfl rfl ?_
  refine alen hG d_jdk_42_method_3_code_4 p3_arv ?_
  refine aconst_null hG d_jdk_42_method_3_code_5 ?_
  refine callInit hG d_jdk_42_method_3_code_6 rfl (w13 hw) (w14 hw) (w9 hw) (w16 hw) (by decide) (m_initV0 hC (a) (b) h p0_exa p1_fld p2_fld) pd_3 rfl (rest := []) rfl rfl (allS (List.mem_of_getElem? (i := 0) rfl) all0) (Nat.le_of_ble_eq_true rfl) (W := 0) (Nat.le_of_ble_eq_true rfl) (Nat.le_of_ble_eq_true rfl) (Nat.le_of_ble_eq_true rfl) (Nat.le_of_ble_eq_true rfl) (fun v87 M88 h89 le90 hq91 => ?_)
  obtain ⟨t92, kt93, rfl, rfl, K94, f95, f96, f97, f98, hat99⟩ := hq91
  show G [a] h89 (4) (8) 9 #[.val (.ref a), .val (.ref b)] []
  have K100 : Keep h h89 [a] := ((Keep.refl _ _).trans K94 (allS (Or.inl (List.mem_of_getElem? (i := 0) rfl)) all0))
  exact return0 hG d_jdk_42_method_3_code_9 (M' := []) ⟨t92, kt93, rfl, rfl, K100, f95, f96, f97, f98, hat99⟩ all0 (Nat.le_of_ble_eq_true rfl) (Nat.le_of_ble_eq_true rfl)
def Q_initC1 (Z : State) (g0 : Int32) (gf : Value) (dg : Addr) (kd : ClassId) (a : Addr) (b : Addr) (kb : ClassId) (N : Int32) (cs : List Int32) (h : Heap) : QT := fun v' M9 h9 => ∃ (t : Addr), ∃ (kt : ClassId), v' = none ∧ M9 = [t] ∧ Keep h h9 [a] ∧ h.size ≤ t ∧ Exa Z h9 a "java/lang/String" ∧ Fld Z h9 a "java/lang/String" "coder" "B" (.int (0 : Int32)) ∧ Fld Z h9 a "java/lang/String" "value" "[B" (.ref t) ∧ Arv Z h9 t kt .byte N (ints (cs.map (nar .byte))) (.int 0)
theorem ef_initC1 (m : MethodId) (a : Addr) (b : Addr) (kb : ClassId) (N : Int32) (cs : List Int32) : entryFrame m [(.ref a), (.ref b)].toArray 2 = mkF m 0 #[.val (.ref a), .val (.ref b)] [] := by first | rfl | (simp [entryFrame, mkF, argsToLocals, Value.category]; done)
set_option maxRecDepth 65536 in
set_option maxHeartbeats 4000000 in
theorem m_initC1 {l : Launch} {Z : State} {a0 : Array Value} {n0 : Nat} {g0 : Int32} {gf : Value} {dg : Addr} {kd : ClassId} (hC : Ctx l Z a0 n0 g0 gf dg kd) (a : Addr) (b : Addr) (kb : ClassId) (N : Int32) (cs : List Int32) (h : Heap) (p0_exa : Exa Z h a "java/lang/String") (p1_fld : Fld Z h a "java/lang/String" "value" "[B" .null) (p2_fld : Fld Z h a "java/lang/String" "coder" "B" (.int (0 : Int32))) (p3_arv : Arv Z h b kb .char N (ints cs) (.int 0)) (hN : N = Int32.ofNat cs.length) (hlen : cs.length ≤ 32) (hlat : ∀ c ∈ cs, ¬ c < 0 ∧ ¬ (255 : Int32) < c) (hpos : ¬ N = 0) :
    Met l Z EL0 n0 (⟨"java/lang/String", "<init>", "([C)V"⟩ : MethodName) jdk_42_method_3_code 2 none [] ({ frames := 3, cells := 1, slots := 32, locals := 52 } : Room) [(.ref a), (.ref b)] [a] h (Q_initC1 Z g0 gf dg kd a b kb N cs h) := by
  obtain ⟨hw, hS, hE, hK, hX⟩ := id hC
  refine Met.intro pl_4 (fun m => ef_initC1 m a b kb N cs) hE ?_
  intro G hG
  refine aloadN hG d_jdk_42_method_3_code_0 rfl rfl ?_
  refine aloadN hG d_jdk_42_method_3_code_1 rfl rfl ?_
  refine iconst hG d_jdk_42_method_3_code_2 (0) rfl ?_
  refine aloadN hG d_jdk_42_method_3_code_3 rfl rfl ?_
  refine alen hG d_jdk_42_method_3_code_4 p3_arv ?_
  refine aconst_null hG d_jdk_42_method_3_code_5 ?_
  refine callInit hG d_jdk_42_method_3_code_6 rfl (w13 hw) (w14 hw) (w9 hw) (w16 hw) (by decide) (m_initV1 hC (a) (b) (kb) (N) (cs) h p0_exa p1_fld p2_fld p3_arv hN hlen hlat hpos) pd_3 rfl (rest := []) rfl rfl (allS (List.mem_of_getElem? (i := 0) rfl) all0) (Nat.le_of_ble_eq_true rfl) (W := 0) (Nat.le_of_ble_eq_true rfl) (Nat.le_of_ble_eq_true rfl) (Nat.le_of_ble_eq_true rfl) (Nat.le_of_ble_eq_true rfl) (fun v101 M102 h103 le104 hq105 => ?_)
  obtain ⟨t106, kt107, rfl, rfl, K108, g109, f110, f111, f112, f113⟩ := hq105
  show G [t106, a] h103 (1) (32) 9 #[.val (.ref a), .val (.ref b)] []
  have K114 : Keep h h103 [a] := ((Keep.refl _ _).trans K108 (allS (Or.inl (List.mem_of_getElem? (i := 0) rfl)) all0))
  exact return0 hG d_jdk_42_method_3_code_9 (M' := [t106]) ⟨t106, kt107, rfl, rfl, K114, g109, f110, f111, f112, f113⟩ (allS (List.mem_of_getElem? (i := 0) rfl) all0) (Nat.le_of_ble_eq_true rfl) (Nat.le_of_ble_eq_true rfl)
def Q_coder (Z : State) (g0 : Int32) (gf : Value) (dg : Addr) (kd : ClassId) (a : Addr) (cd : Int32) (h : Heap) : QT := fun v' M9 h9 => v' = some (.int cd) ∧ M9 = [] ∧ h = h9
theorem ef_coder (m : MethodId) (a : Addr) (cd : Int32) : entryFrame m [(.ref a)].toArray 1 = mkF m 0 #[.val (.ref a)] [] := by first | rfl | (simp [entryFrame, mkF, argsToLocals, Value.category]; done)
set_option maxRecDepth 65536 in
set_option maxHeartbeats 4000000 in
theorem m_coder {l : Launch} {Z : State} {a0 : Array Value} {n0 : Nat} {g0 : Int32} {gf : Value} {dg : Addr} {kd : ClassId} (hC : Ctx l Z a0 n0 g0 gf dg kd) (a : Addr) (cd : Int32) (h : Heap) (p0_fld : Fld Z h a "java/lang/String" "coder" "B" (.int cd)) (hcd : nar .byte cd = cd) :
    Met l Z EL0 n0 (⟨"java/lang/String", "coder", "()B"⟩ : MethodName) jdk_42_method_152_code 1 (some .byte) [] ({ frames := 0, cells := 0, slots := 0, locals := 0 } : Room) [(.ref a)] [] h (Q_coder Z g0 gf dg kd a cd h) := by
  obtain ⟨hw, hS, hE, hK, hX⟩ := id hC
  refine Met.intro pl_5 (fun m => ef_coder m a cd) hE ?_
  intro G hG
  refine getstatic hG d_jdk_42_method_152_code_0 (w37 hw) Via.refl hK.1 ?_
  refine ifNo hG d_jdk_42_method_152_code_3 (feq hK.2).1 ?_
  refine aloadN hG d_jdk_42_method_152_code_6 rfl rfl ?_
  refine getfield hG d_jdk_42_method_152_code_7 (w26 hw) Via.refl p0_fld ?_
  refine goto hG d_jdk_42_method_152_code_10 (by decide) (pc' := 14) rfl ?_
  exact ireturnN hG (by simp) d_jdk_42_method_152_code_14 (M' := []) ⟨(by rw [hcd]), rfl, rfl⟩ all0 (Nat.le_of_ble_eq_true rfl) (Nat.le_of_ble_eq_true rfl)
def Q_isl (Z : State) (g0 : Int32) (gf : Value) (dg : Addr) (kd : ClassId) (a : Addr) (h : Heap) : QT := fun v' M9 h9 => v' = some (.int (1 : Int32)) ∧ M9 = [] ∧ h = h9
theorem ef_isl (m : MethodId) (a : Addr) : entryFrame m [(.ref a)].toArray 1 = mkF m 0 #[.val (.ref a)] [] := by first | rfl | (simp [entryFrame, mkF, argsToLocals, Value.category]; done)
set_option maxRecDepth 65536 in
set_option maxHeartbeats 4000000 in
theorem m_isl {l : Launch} {Z : State} {a0 : Array Value} {n0 : Nat} {g0 : Int32} {gf : Value} {dg : Addr} {kd : ClassId} (hC : Ctx l Z a0 n0 g0 gf dg kd) (a : Addr) (h : Heap) (p0_fld : Fld Z h a "java/lang/String" "coder" "B" (.int (0 : Int32))) :
    Met l Z EL0 n0 (⟨"java/lang/String", "isLatin1", "()Z"⟩ : MethodName) jdk_42_method_154_code 1 (some .boolean) [] ({ frames := 0, cells := 0, slots := 0, locals := 0 } : Room) [(.ref a)] [] h (Q_isl Z g0 gf dg kd a h) := by
  obtain ⟨hw, hS, hE, hK, hX⟩ := id hC
  refine Met.intro pl_6 (fun m => ef_isl m a) hE ?_
  intro G hG
  refine getstatic hG d_jdk_42_method_154_code_0 (w37 hw) Via.refl hK.1 ?_
  refine ifNo hG d_jdk_42_method_154_code_3 (feq hK.2).1 ?_
  refine aloadN hG d_jdk_42_method_154_code_6 rfl rfl ?_
  refine getfield hG d_jdk_42_method_154_code_7 (w26 hw) Via.refl p0_fld ?_
  refine ifNo hG d_jdk_42_method_154_code_10 (by decide) ?_
  refine iconst hG d_jdk_42_method_154_code_13 (1) rfl ?_
  refine goto hG d_jdk_42_method_154_code_14 (by decide) (pc' := 18) rfl ?_
  exact ireturnN hG (by simp) d_jdk_42_method_154_code_18 (M' := []) ⟨rfl, rfl, rfl⟩ all0 (Nat.le_of_ble_eq_true rfl) (Nat.le_of_ble_eq_true rfl)
def Q_len (Z : State) (g0 : Int32) (gf : Value) (dg : Addr) (kd : ClassId) (a : Addr) (ta : Addr) (ka : ClassId) (Na : Int32) (xs : List Int32) (h : Heap) : QT := fun v' M9 h9 => v' = some (.int Na) ∧ M9 = [] ∧ h = h9
theorem ef_len (m : MethodId) (a : Addr) (ta : Addr) (ka : ClassId) (Na : Int32) (xs : List Int32) : entryFrame m [(.ref a)].toArray 1 = mkF m 0 #[.val (.ref a)] [] := by first | rfl | (simp [entryFrame, mkF, argsToLocals, Value.category]; done)
set_option maxRecDepth 65536 in
set_option maxHeartbeats 4000000 in
theorem m_len {l : Launch} {Z : State} {a0 : Array Value} {n0 : Nat} {g0 : Int32} {gf : Value} {dg : Addr} {kd : ClassId} (hC : Ctx l Z a0 n0 g0 gf dg kd) (a : Addr) (ta : Addr) (ka : ClassId) (Na : Int32) (xs : List Int32) (h : Heap) (p0_exa : Exa Z h a "java/lang/String") (p1_fld : Fld Z h a "java/lang/String" "coder" "B" (.int (0 : Int32))) (p2_fld : Fld Z h a "java/lang/String" "value" "[B" (.ref ta)) (p3_arv : Arv Z h ta ka .byte Na (ints xs) (.int 0)) :
    Met l Z EL0 n0 (⟨"java/lang/String", "length", "()I"⟩ : MethodName) jdk_42_method_54_code 1 (some .int) [] ({ frames := 1, cells := 0, slots := 0, locals := 13 } : Room) [(.ref a)] [] h (Q_len Z g0 gf dg kd a ta ka Na xs h) := by
  obtain ⟨hw, hS, hE, hK, hX⟩ := id hC
  refine Met.intro pl_7 (fun m => ef_len m a ta ka Na xs) hE ?_
  intro G hG
  refine aloadN hG d_jdk_42_method_54_code_0 rfl rfl ?_
  refine getfield hG d_jdk_42_method_54_code_1 (w25 hw) Via.refl p2_fld ?_
  refine alen hG d_jdk_42_method_54_code_4 p3_arv ?_
  refine aloadN hG d_jdk_42_method_54_code_5 rfl rfl ?_
  refine callVirtual hG d_jdk_42_method_54_code_6 p0_exa (w32 hw) (w33 hw) (fun _ hz => notFace_of_selects (args := #[]) (mvT hz (w35 hw))) (w35 hw) (w34 hw) (w9 hw) (w36 hw) (by decide) (m_coder hC (a) ((0 : Int32)) h p1_fld rfl) pd_4 rfl (rest := [(.int Na)]) rfl rfl all0 (Nat.le_of_ble_eq_true rfl) (W := 1) (Nat.le_of_ble_eq_true rfl) (Nat.le_of_ble_eq_true rfl) (Nat.le_of_ble_eq_true rfl) (Nat.le_of_ble_eq_true rfl) (fun v115 M116 h117 le118 hq119 => ?_)
  obtain ⟨rfl, rfl, rfl⟩ := hq119
  show G [] h (0) (0) 9 #[.val (.ref a)] [(.int (0 : Int32)), (.int Na)]
  refine ishr hG d_jdk_42_method_54_code_9 ?_
  exact ireturn hG d_jdk_42_method_54_code_10 (M' := []) ⟨(by rw [shr0]), rfl, rfl⟩ all0 (Nat.le_of_ble_eq_true rfl) (Nat.le_of_ble_eq_true rfl)
def Q_pck (Z : State) (g0 : Int32) (gf : Value) (dg : Addr) (kd : ClassId) (J : Int32) (N : Int32) (gf : Value) (h : Heap) : QT := fun v' M9 h9 => v' = some (.int J) ∧ M9 = [] ∧ h = h9
theorem ef_pck (m : MethodId) (J : Int32) (N : Int32) (gf : Value) (hgf : gf.isRef = true) : entryFrame m [(.int J), (.int N), gf].toArray 3 = mkF m 0 #[.val (.int J), .val (.int N), .val gf] [] := by rcases ref_cases hgf with rfl | ⟨_, rfl⟩ <;> first | rfl | (simp [entryFrame, mkF, argsToLocals, Value.category]; done)
set_option maxRecDepth 65536 in
set_option maxHeartbeats 4000000 in
theorem m_pck {l : Launch} {Z : State} {a0 : Array Value} {n0 : Nat} {g0 : Int32} {gf : Value} {dg : Addr} {kd : ClassId} (hC : Ctx l Z a0 n0 g0 gf dg kd) (J : Int32) (N : Int32) (gf : Value) (h : Heap) (hin : ¬ J < 0 ∧ J < N) (hgf : gf.isRef = true) :
    Met l Z EL0 n0 (⟨"jdk/internal/util/Preconditions", "checkIndex", "(IILjava/util/function/BiFunction;)I"⟩ : MethodName) jdk_41_method_11_code 3 (some .int) [] ({ frames := 0, cells := 0, slots := 0, locals := 0 } : Room) [(.int J), (.int N), gf] [] h (Q_pck Z g0 gf dg kd J N gf h) := by
  obtain ⟨hw, hS, hE, hK, hX⟩ := id hC
  refine Met.intro pl_8 (fun m => ef_pck m J N gf hgf) hE ?_
  intro G hG
  refine iloadN hG d_jdk_41_method_11_code_0 rfl ?_
  refine ifNo hG d_jdk_41_method_11_code_1 (flt hin.1).1 ?_
  refine iloadN hG d_jdk_41_method_11_code_4 rfl ?_
  refine iloadN hG d_jdk_41_method_11_code_5 rfl ?_
  refine icmpYes hG d_jdk_41_method_11_code_6 (tlt hin.2).1 (by decide) (pc' := 16) rfl ?_
  refine iloadN hG d_jdk_41_method_11_code_16 rfl ?_
  exact ireturn hG d_jdk_41_method_11_code_17 (M' := []) ⟨rfl, rfl, rfl⟩ all0 (Nat.le_of_ble_eq_true rfl) (Nat.le_of_ble_eq_true rfl)
def Q_ckx (Z : State) (g0 : Int32) (gf : Value) (dg : Addr) (kd : ClassId) (J : Int32) (N : Int32) (h : Heap) : QT := fun v' M9 h9 => v' = none ∧ M9 = [] ∧ h = h9
theorem ef_ckx (m : MethodId) (J : Int32) (N : Int32) : entryFrame m [(.int J), (.int N)].toArray 2 = mkF m 0 #[.val (.int J), .val (.int N)] [] := by first | rfl | (simp [entryFrame, mkF, argsToLocals, Value.category]; done)
set_option maxRecDepth 65536 in
set_option maxHeartbeats 4000000 in
theorem m_ckx {l : Launch} {Z : State} {a0 : Array Value} {n0 : Nat} {g0 : Int32} {gf : Value} {dg : Addr} {kd : ClassId} (hC : Ctx l Z a0 n0 g0 gf dg kd) (J : Int32) (N : Int32) (h : Heap) (hin : ¬ J < 0 ∧ J < N) :
    Met l Z EL0 n0 (⟨"java/lang/String", "checkIndex", "(II)V"⟩ : MethodName) jdk_42_method_155_code 2 none [] ({ frames := 1, cells := 0, slots := 0, locals := 14 } : Room) [(.int J), (.int N)] [] h (Q_ckx Z g0 gf dg kd J N h) := by
  obtain ⟨hw, hS, hE, hK, hX⟩ := id hC
  refine Met.intro pl_9 (fun m => ef_ckx m J N) hE ?_
  intro G hG
  refine iloadN hG d_jdk_42_method_155_code_0 rfl ?_
  refine iloadN hG d_jdk_42_method_155_code_1 rfl ?_
  refine getstatic hG d_jdk_42_method_155_code_2 (w71 hw) Via.refl hX.1 ?_
  refine callStatic hG d_jdk_42_method_155_code_5 (w73 hw) (w74 hw) (w72 hw) (w75 hw) (by decide) (m_pck hC (J) (N) (gf) h hin hX.2.1) pd_5 rfl (rest := []) rfl rfl all0 (Nat.le_of_ble_eq_true rfl) (W := 0) (Nat.le_of_ble_eq_true rfl) (Nat.le_of_ble_eq_true rfl) (Nat.le_of_ble_eq_true rfl) (Nat.le_of_ble_eq_true rfl) (fun v120 M121 h122 le123 hq124 => ?_)
  obtain ⟨rfl, rfl, rfl⟩ := hq124
  show G [] h (0) (0) 8 #[.val (.int J), .val (.int N)] [(.int J)]
  refine OwnWp.pop hG d_jdk_42_method_155_code_8 rfl ?_
  exact return0 hG d_jdk_42_method_155_code_9 (M' := []) ⟨rfl, rfl, rfl⟩ all0 (Nat.le_of_ble_eq_true rfl) (Nat.le_of_ble_eq_true rfl)
def Q_chl (Z : State) (g0 : Int32) (gf : Value) (dg : Addr) (kd : ClassId) (t : Addr) (kt : ClassId) (N : Int32) (xs : List Int32) (J : Int32) (h : Heap) : QT := fun v' M9 h9 => v' = some (.int (chr8 (xs.getD J.toNatClampNeg 0))) ∧ M9 = [] ∧ h = h9
theorem ef_chl (m : MethodId) (t : Addr) (kt : ClassId) (N : Int32) (xs : List Int32) (J : Int32) : entryFrame m [(.ref t), (.int J)].toArray 2 = mkF m 0 #[.val (.ref t), .val (.int J)] [] := by first | rfl | (simp [entryFrame, mkF, argsToLocals, Value.category]; done)
set_option maxRecDepth 65536 in
set_option maxHeartbeats 4000000 in
theorem m_chl {l : Launch} {Z : State} {a0 : Array Value} {n0 : Nat} {g0 : Int32} {gf : Value} {dg : Addr} {kd : ClassId} (hC : Ctx l Z a0 n0 g0 gf dg kd) (t : Addr) (kt : ClassId) (N : Int32) (xs : List Int32) (J : Int32) (h : Heap) (p0_arv : Arv Z h t kt .byte N (ints xs) (.int 0)) (hin : ¬ J < 0 ∧ J < N) :
    Met l Z EL0 n0 (⟨"java/lang/StringLatin1", "charAt", "([BI)C"⟩ : MethodName) jdk_43_method_2_code 2 (some .char) [] ({ frames := 2, cells := 0, slots := 0, locals := 27 } : Room) [(.ref t), (.int J)] [] h (Q_chl Z g0 gf dg kd t kt N xs J h) := by
  obtain ⟨hw, hS, hE, hK, hX⟩ := id hC
  refine Met.intro pl_10 (fun m => ef_chl m t kt N xs J) hE ?_
  intro G hG
  refine iloadN hG d_jdk_43_method_2_code_0 rfl ?_
  refine aloadN hG d_jdk_43_method_2_code_1 rfl rfl ?_
  refine alen hG d_jdk_43_method_2_code_2 p0_arv ?_
  refine callStatic hG d_jdk_43_method_2_code_3 (w68 hw) (w69 hw) (w9 hw) (w70 hw) (by decide) (m_ckx hC (J) (N) h hin) pd_6 rfl (rest := []) rfl rfl all0 (Nat.le_of_ble_eq_true rfl) (W := 0) (Nat.le_of_ble_eq_true rfl) (Nat.le_of_ble_eq_true rfl) (Nat.le_of_ble_eq_true rfl) (Nat.le_of_ble_eq_true rfl) (fun v125 M126 h127 le128 hq129 => ?_)
  obtain ⟨rfl, rfl, rfl⟩ := hq129
  show G [] h (0) (0) 6 #[.val (.ref t), .val (.int J)] []
  refine aloadN hG d_jdk_43_method_2_code_6 rfl rfl ?_
  refine iloadN hG d_jdk_43_method_2_code_7 rfl ?_
  refine baload hG d_jdk_43_method_2_code_8 p0_arv hin (v := (.int (xs.getD J.toNatClampNeg 0))) (ints_at' _) ?_
  refine sipush hG d_jdk_43_method_2_code_9 (255) rfl ?_
  refine iand hG d_jdk_43_method_2_code_12 ?_
  refine i2c hG d_jdk_43_method_2_code_13 ?_
  exact ireturnN hG (by simp) d_jdk_43_method_2_code_14 (M' := []) ⟨rfl, rfl, rfl⟩ all0 (Nat.le_of_ble_eq_true rfl) (Nat.le_of_ble_eq_true rfl)
def Q_cha (Z : State) (g0 : Int32) (gf : Value) (dg : Addr) (kd : ClassId) (a : Addr) (ta : Addr) (ka : ClassId) (Na : Int32) (xs : List Int32) (J : Int32) (h : Heap) : QT := fun v' M9 h9 => v' = some (.int (chr8 (xs.getD J.toNatClampNeg 0))) ∧ M9 = [] ∧ h = h9
theorem ef_cha (m : MethodId) (a : Addr) (ta : Addr) (ka : ClassId) (Na : Int32) (xs : List Int32) (J : Int32) : entryFrame m [(.ref a), (.int J)].toArray 2 = mkF m 0 #[.val (.ref a), .val (.int J)] [] := by first | rfl | (simp [entryFrame, mkF, argsToLocals, Value.category]; done)
set_option maxRecDepth 65536 in
set_option maxHeartbeats 4000000 in
theorem m_cha {l : Launch} {Z : State} {a0 : Array Value} {n0 : Nat} {g0 : Int32} {gf : Value} {dg : Addr} {kd : ClassId} (hC : Ctx l Z a0 n0 g0 gf dg kd) (a : Addr) (ta : Addr) (ka : ClassId) (Na : Int32) (xs : List Int32) (J : Int32) (h : Heap) (p0_exa : Exa Z h a "java/lang/String") (p1_fld : Fld Z h a "java/lang/String" "coder" "B" (.int (0 : Int32))) (p2_fld : Fld Z h a "java/lang/String" "value" "[B" (.ref ta)) (p3_arv : Arv Z h ta ka .byte Na (ints xs) (.int 0)) (hin : ¬ J < 0 ∧ J < Na) :
    Met l Z EL0 n0 (⟨"java/lang/String", "charAt", "(I)C"⟩ : MethodName) jdk_42_method_56_code 2 (some .char) [] ({ frames := 3, cells := 0, slots := 0, locals := 40 } : Room) [(.ref a), (.int J)] [] h (Q_cha Z g0 gf dg kd a ta ka Na xs J h) := by
  obtain ⟨hw, hS, hE, hK, hX⟩ := id hC
  refine Met.intro pl_11 (fun m => ef_cha m a ta ka Na xs J) hE ?_
  intro G hG
  refine aloadN hG d_jdk_42_method_56_code_0 rfl rfl ?_
  refine callVirtual hG d_jdk_42_method_56_code_1 p0_exa (w59 hw) (w60 hw) (fun _ hz => notFace_of_selects (args := #[]) (mvT hz (w62 hw))) (w62 hw) (w61 hw) (w9 hw) (w63 hw) (by decide) (m_isl hC (a) h p1_fld) pd_7 rfl (rest := []) rfl rfl all0 (Nat.le_of_ble_eq_true rfl) (W := 0) (Nat.le_of_ble_eq_true rfl) (Nat.le_of_ble_eq_true rfl) (Nat.le_of_ble_eq_true rfl) (Nat.le_of_ble_eq_true rfl) (fun v130 M131 h132 le133 hq134 => ?_)
  obtain ⟨rfl, rfl, rfl⟩ := hq134
  show G [] h (0) (0) 4 #[.val (.ref a), .val (.int J)] [(.int (1 : Int32))]
  refine ifNo hG d_jdk_42_method_56_code_4 (by decide) ?_
  refine aloadN hG d_jdk_42_method_56_code_7 rfl rfl ?_
  refine getfield hG d_jdk_42_method_56_code_8 (w25 hw) Via.refl p2_fld ?_
  refine iloadN hG d_jdk_42_method_56_code_11 rfl ?_
  refine callStatic hG d_jdk_42_method_56_code_12 (w64 hw) (w65 hw) (w66 hw) (w67 hw) (by decide) (m_chl hC (ta) (ka) (Na) (xs) (J) h p3_arv hin) pd_8 rfl (rest := []) rfl rfl all0 (Nat.le_of_ble_eq_true rfl) (W := 0) (Nat.le_of_ble_eq_true rfl) (Nat.le_of_ble_eq_true rfl) (Nat.le_of_ble_eq_true rfl) (Nat.le_of_ble_eq_true rfl) (fun v135 M136 h137 le138 hq139 => ?_)
  obtain ⟨rfl, rfl, rfl⟩ := hq139
  show G [] h (0) (0) 15 #[.val (.ref a), .val (.int J)] [(.int (chr8 (xs.getD J.toNatClampNeg 0)))]
  exact ireturnN hG (by simp) d_jdk_42_method_56_code_15 (M' := []) ⟨(by rw [chr8_nar]), rfl, rfl⟩ all0 (Nat.le_of_ble_eq_true rfl) (Nat.le_of_ble_eq_true rfl)
def Q_fmt0 (Z : State) (g0 : Int32) (gf : Value) (dg : Addr) (kd : ClassId) (b : Addr) (kb : ClassId) (h : Heap) : QT := fun v' M9 h9 => ∃ (s : Addr), ∃ (t : Addr), ∃ (kt : ClassId), v' = some (.ref s) ∧ M9 = [] ∧ Keep h h9 [] ∧ h.size ≤ s ∧ Exa Z h9 s "java/lang/String" ∧ Fld Z h9 s "java/lang/String" "coder" "B" (.int (0 : Int32)) ∧ Fld Z h9 s "java/lang/String" "value" "[B" (.ref t) ∧ Arv Z h9 t kt .byte (0 : Int32) [] (.int 0)
theorem ef_fmt0 (m : MethodId) (b : Addr) (kb : ClassId) : entryFrame m [(.ref b)].toArray 3 = mkF m 0 #[.val (.ref b), .unset, .unset] [] := by first | rfl | (simp [entryFrame, mkF, argsToLocals, Value.category]; done)
set_option maxRecDepth 65536 in
set_option maxHeartbeats 4000000 in
theorem m_fmt0 {l : Launch} {Z : State} {a0 : Array Value} {n0 : Nat} {g0 : Int32} {gf : Value} {dg : Addr} {kd : ClassId} (hC : Ctx l Z a0 n0 g0 gf dg kd) (b : Addr) (kb : ClassId) (h : Heap) (p0_arv : Arv Z h b kb .byte (0 : Int32) [] (.int 0)) :
    Met l Z EL0 n0 (⟨"ridgecard/Hex", "format", "([B)Ljava/lang/String;"⟩ : MethodName) prog_19_method_3_code 3 (some (.object "java/lang/String")) [] ({ frames := 3, cells := 6, slots := 12, locals := 43 } : Room) [(.ref b)] [] h (Q_fmt0 Z g0 gf dg kd b kb h) := by
  obtain ⟨hw, hS, hE, hK, hX⟩ := id hC
  refine Met.intro pl_12 (fun m => ef_fmt0 m b kb) hE ?_
  intro G hG
  refine aloadN hG d_prog_19_method_3_code_0 rfl rfl ?_
  refine alen hG d_prog_19_method_3_code_1 p0_arv ?_
  refine iconst hG d_prog_19_method_3_code_2 (2) rfl ?_
  refine imul hG d_prog_19_method_3_code_3 ?_
  show G [] h (0) (0) 4 #[.val (.ref b), .unset, .unset] [(.int (0 : Int32))]
  refine newarray hG d_prog_19_method_3_code_4 rfl (w6 hw) (by decide) (cap := 0) (by decide) (by decide) (Nat.le_of_ble_eq_true rfl) (Nat.le_of_ble_eq_true rfl) (cnt := 0) (vs := []) rfl (fun h140 a141 kk142 g143 E144 V145 => ?_)
  show G [a141] h140 (1) (0) 6 #[.val (.ref b), .unset, .unset] [(.ref a141)]
  refine astoreN hG d_prog_19_method_3_code_6 rfl rfl ?_
  refine iconst hG d_prog_19_method_3_code_7 (0) rfl ?_
  refine istoreN hG d_prog_19_method_3_code_8 rfl ?_
  refine iloadN hG d_prog_19_method_3_code_9 rfl ?_
  refine aloadN hG d_prog_19_method_3_code_10 rfl rfl ?_
  have V146 : Arv Z h140 b kb .byte (0 : Int32) [] (.int 0) := (p0_arv.ext E144)
  refine alen hG d_prog_19_method_3_code_11 V146 ?_
  refine icmpYes hG d_prog_19_method_3_code_12 (by decide) (by decide) (pc' := 55) rfl ?_
  refine new hG d_prog_19_method_3_code_55 (w7 hw) (w8 hw) (w9 hw) (Nat.le_of_ble_eq_true rfl) (Nat.le_of_ble_eq_true rfl) (fun h147 a148 g149 E150 X151 D152 => ?_)
  show G [a148, a141] h147 (2) (4) 58 #[.val (.ref b), .val (.ref a141), .val (.int (0 : Int32))] [(.ref a148)]
  refine dup hG d_prog_19_method_3_code_58 rfl ?_
  refine aloadN hG d_prog_19_method_3_code_59 rfl rfl ?_
  have F153 : Fld Z h147 a148 "java/lang/String" "value" "[B" .null := D152 (Or.inr (w21 hw)) pf__B
  have F154 : Fld Z h147 a148 "java/lang/String" "coder" "B" (.int (0 : Int32)) := D152 (Or.inr (w22 hw)) pf_B
  have V155 : Arv Z h147 a141 kk142 .char (0 : Int32) [] (.int 0) := (V145.ext E150)
  refine callInit hG d_prog_19_method_3_code_60 rfl (w10 hw) (w11 hw) (w9 hw) (w12 hw) (by decide) (m_initC0 hC (a148) (a141) (kk142) h147 X151 F153 F154 V155) pd_9 rfl (rest := [(.ref a148)]) rfl rfl (allS (List.mem_of_getElem? (i := 0) rfl) all0) (Nat.le_of_ble_eq_true rfl) (W := 1) (Nat.le_of_ble_eq_true rfl) (Nat.le_of_ble_eq_true rfl) (Nat.le_of_ble_eq_true rfl) (Nat.le_of_ble_eq_true rfl) (fun v156 M157 h158 le159 hq160 => ?_)
  obtain ⟨t161, kt162, rfl, rfl, K163, f164, f165, f166, f167, hat168⟩ := hq160
  show G [a148, a141] h158 (6) (12) 63 #[.val (.ref b), .val (.ref a141), .val (.int (0 : Int32))] [(.ref a148)]
  have K169 : Keep h h158 [] := ((((Keep.refl _ _).ext E144).ext E150).trans K163 (allS (Or.inr (Nat.le_trans E144.1 g149)) all0))
  exact areturn hG rfl rfl rfl d_prog_19_method_3_code_63 (M' := []) ⟨a148, t161, kt162, rfl, rfl, K169, (Nat.le_trans E144.1 g149), f164, f165, f166, f167⟩ all0 (Nat.le_of_ble_eq_true rfl) (Nat.le_of_ble_eq_true rfl)
def Q_fmt1 (Z : State) (g0 : Int32) (gf : Value) (dg : Addr) (kd : ClassId) (b : Addr) (kb : ClassId) (x0 : Int32) (h : Heap) : QT := fun v' M9 h9 => ∃ (s : Addr), ∃ (t : Addr), ∃ (kt : ClassId), v' = some (.ref s) ∧ M9 = [] ∧ Keep h h9 [] ∧ h.size ≤ s ∧ Exa Z h9 s "java/lang/String" ∧ Fld Z h9 s "java/lang/String" "coder" "B" (.int (0 : Int32)) ∧ Fld Z h9 s "java/lang/String" "value" "[B" (.ref t) ∧ Arv Z h9 t kt .byte (2 : Int32) [(.int (nar .byte (dig ((x0 >>> ((4 : Int32) &&& 31)) &&& (15 : Int32))))), (.int (nar .byte (dig (x0 &&& (15 : Int32)))))] (.int 0)
theorem ef_fmt1 (m : MethodId) (b : Addr) (kb : ClassId) (x0 : Int32) : entryFrame m [(.ref b)].toArray 3 = mkF m 0 #[.val (.ref b), .unset, .unset] [] := by first | rfl | (simp [entryFrame, mkF, argsToLocals, Value.category]; done)
set_option maxRecDepth 65536 in
set_option maxHeartbeats 4000000 in
theorem m_fmt1 {l : Launch} {Z : State} {a0 : Array Value} {n0 : Nat} {g0 : Int32} {gf : Value} {dg : Addr} {kd : ClassId} (hC : Ctx l Z a0 n0 g0 gf dg kd) (b : Addr) (kb : ClassId) (x0 : Int32) (h : Heap) (p0_arv : Arv Z h b kb .byte (1 : Int32) [(.int x0)] (.int 0)) :
    Met l Z EL0 n0 (⟨"ridgecard/Hex", "format", "([B)Ljava/lang/String;"⟩ : MethodName) prog_19_method_3_code 3 (some (.object "java/lang/String")) [] ({ frames := 4, cells := 3, slots := 38, locals := 66 } : Room) [(.ref b)] [] h (Q_fmt1 Z g0 gf dg kd b kb x0 h) := by
  obtain ⟨hw, hS, hE, hK, hX⟩ := id hC
  refine Met.intro pl_12 (fun m => ef_fmt1 m b kb x0) hE ?_
  intro G hG
  refine aloadN hG d_prog_19_method_3_code_0 rfl rfl ?_
  refine alen hG d_prog_19_method_3_code_1 p0_arv ?_
  refine iconst hG d_prog_19_method_3_code_2 (2) rfl ?_
  refine imul hG d_prog_19_method_3_code_3 ?_
  show G [] h (0) (0) 4 #[.val (.ref b), .unset, .unset] [(.int (2 : Int32))]
  refine newarray hG d_prog_19_method_3_code_4 rfl (w6 hw) (by decide) (cap := 2) (by decide) (by decide) (Nat.le_of_ble_eq_true rfl) (Nat.le_of_ble_eq_true rfl) (cnt := 2) (vs := [(.int (0 : Int32)), (.int (0 : Int32))]) rfl (fun h170 a171 kk172 g173 E174 V175 => ?_)
  show G [a171] h170 (1) (2) 6 #[.val (.ref b), .unset, .unset] [(.ref a171)]
  refine astoreN hG d_prog_19_method_3_code_6 rfl rfl ?_
  refine iconst hG d_prog_19_method_3_code_7 (0) rfl ?_
  refine istoreN hG d_prog_19_method_3_code_8 rfl ?_
  refine iloadN hG d_prog_19_method_3_code_9 rfl ?_
  refine aloadN hG d_prog_19_method_3_code_10 rfl rfl ?_
  have V176 : Arv Z h170 b kb .byte (1 : Int32) [(.int x0)] (.int 0) := (p0_arv.ext E174)
  refine alen hG d_prog_19_method_3_code_11 V176 ?_
  refine icmpNo hG d_prog_19_method_3_code_12 (by decide) ?_
  refine aloadN hG d_prog_19_method_3_code_15 rfl rfl ?_
  refine iconst hG d_prog_19_method_3_code_16 (2) rfl ?_
  refine iloadN hG d_prog_19_method_3_code_17 rfl ?_
  refine imul hG d_prog_19_method_3_code_18 ?_
  show G [a171] h170 (1) (2) 19 #[.val (.ref b), .val (.ref a171), .val (.int (0 : Int32))] [(.int (0 : Int32)), (.ref a171)]
  refine getstatic hG d_prog_19_method_3_code_19 (w38 hw) Via.refl hX.2.2.1 ?_
  refine aloadN hG d_prog_19_method_3_code_22 rfl rfl ?_
  refine iloadN hG d_prog_19_method_3_code_23 rfl ?_
  refine baload hG d_prog_19_method_3_code_24 V176 ⟨by decide, by decide⟩ (v := (.int x0)) rfl ?_
  refine iconst hG d_prog_19_method_3_code_25 (4) rfl ?_
  refine ishr hG d_prog_19_method_3_code_26 ?_
  refine bipush hG d_prog_19_method_3_code_27 (15) rfl ?_
  refine iand hG d_prog_19_method_3_code_29 ?_
  refine facts hG (fun O177 _ => ?_)
  have o178 : Arv Z h170 dg kd .char (16 : Int32) (ints digs) (.int 0) := hX.2.2.2.ext O177.2
  refine caload hG d_prog_19_method_3_code_30 o178 (and15 (x0 >>> ((4 : Int32) &&& 31))) (v := (.int (dig ((x0 >>> ((4 : Int32) &&& 31)) &&& (15 : Int32))))) (ints_at' _) ?_
  refine castore hG d_prog_19_method_3_code_31 V175 ⟨by decide, by decide⟩ (i := 0) rfl (Nat.le_of_ble_eq_true rfl) (List.mem_of_getElem? (i := 0) rfl) (fun h179 W180 V181 => ?_)
  rw [(dig_nar _)] at V181
  have V183 : Arv Z h179 a171 kk172 .char (2 : Int32) [(.int (dig ((x0 >>> ((4 : Int32) &&& 31)) &&& (15 : Int32)))), (.int (0 : Int32))] (.int 0) := V181
  refine aloadN hG d_prog_19_method_3_code_32 rfl rfl ?_
  refine iconst hG d_prog_19_method_3_code_33 (2) rfl ?_
  refine iloadN hG d_prog_19_method_3_code_34 rfl ?_
  refine imul hG d_prog_19_method_3_code_35 ?_
  show G [a171] h179 (1) (2) 36 #[.val (.ref b), .val (.ref a171), .val (.int (0 : Int32))] [(.int (0 : Int32)), (.ref a171)]
  refine iconst hG d_prog_19_method_3_code_36 (1) rfl ?_
  refine iadd hG d_prog_19_method_3_code_37 ?_
  show G [a171] h179 (1) (2) 38 #[.val (.ref b), .val (.ref a171), .val (.int (0 : Int32))] [(.int (1 : Int32)), (.ref a171)]
  refine getstatic hG d_prog_19_method_3_code_38 (w38 hw) Via.refl hX.2.2.1 ?_
  refine aloadN hG d_prog_19_method_3_code_41 rfl rfl ?_
  refine iloadN hG d_prog_19_method_3_code_42 rfl ?_
  have ne184 : b ≠ a171 := (Nat.ne_of_lt (Nat.lt_of_lt_of_le p0_arv.lt g173))
  have V185 : Arv Z h179 b kb .byte (1 : Int32) [(.int x0)] (.int 0) := (V176.other W180 ne184)
  refine baload hG d_prog_19_method_3_code_43 V185 ⟨by decide, by decide⟩ (v := (.int x0)) rfl ?_
  refine bipush hG d_prog_19_method_3_code_44 (15) rfl ?_
  refine iand hG d_prog_19_method_3_code_46 ?_
  refine facts hG (fun O186 m187 => ?_)
  have ne188 : dg ≠ a171 := (Nat.ne_of_lt (Nat.lt_of_lt_of_le (O186.1 ▸ hX.2.2.2.lt) (m187 _ (List.mem_of_getElem? (i := 0) rfl)).1))
  have V189 : Arv Z h179 dg kd .char (16 : Int32) (ints digs) (.int 0) := (o178.other W180 ne188)
  refine caload hG d_prog_19_method_3_code_47 V189 (and15 x0) (v := (.int (dig (x0 &&& (15 : Int32))))) (ints_at' _) ?_
  refine castore hG d_prog_19_method_3_code_48 V183 ⟨by decide, by decide⟩ (i := 1) rfl (Nat.le_of_ble_eq_true rfl) (List.mem_of_getElem? (i := 0) rfl) (fun h190 W191 V192 => ?_)
  rw [(dig_nar _)] at V192
  have V194 : Arv Z h190 a171 kk172 .char (2 : Int32) [(.int (dig ((x0 >>> ((4 : Int32) &&& 31)) &&& (15 : Int32)))), (.int (dig (x0 &&& (15 : Int32))))] (.int 0) := V192
  refine iinc hG d_prog_19_method_3_code_49 rfl (1) rfl rfl ?_
  refine goto hG d_prog_19_method_3_code_52 (by decide) (pc' := 9) rfl ?_
  refine iloadN hG d_prog_19_method_3_code_9 rfl ?_
  refine aloadN hG d_prog_19_method_3_code_10 rfl rfl ?_
  have V195 : Arv Z h190 b kb .byte (1 : Int32) [(.int x0)] (.int 0) := (V185.other W191 ne184)
  refine alen hG d_prog_19_method_3_code_11 V195 ?_
  refine icmpYes hG d_prog_19_method_3_code_12 (by decide) (by decide) (pc' := 55) rfl ?_
  refine new hG d_prog_19_method_3_code_55 (w7 hw) (w8 hw) (w9 hw) (Nat.le_of_ble_eq_true rfl) (Nat.le_of_ble_eq_true rfl) (fun h196 a197 g198 E199 X200 D201 => ?_)
  show G [a197, a171] h196 (2) (6) 58 #[.val (.ref b), .val (.ref a171), .val (.int (1 : Int32))] [(.ref a197)]
  refine dup hG d_prog_19_method_3_code_58 rfl ?_
  refine aloadN hG d_prog_19_method_3_code_59 rfl rfl ?_
  have F202 : Fld Z h196 a197 "java/lang/String" "value" "[B" .null := D201 (Or.inr (w21 hw)) pf__B
  have F203 : Fld Z h196 a197 "java/lang/String" "coder" "B" (.int (0 : Int32)) := D201 (Or.inr (w22 hw)) pf_B
  have V204 : Arv Z h196 a171 kk172 .char (2 : Int32) [(.int (dig ((x0 >>> ((4 : Int32) &&& 31)) &&& (15 : Int32)))), (.int (dig (x0 &&& (15 : Int32))))] (.int 0) := (V194.ext E199)
  refine callInit hG d_prog_19_method_3_code_60 rfl (w10 hw) (w11 hw) (w9 hw) (w12 hw) (by decide) (m_initC1 hC (a197) (a171) (kk172) ((2 : Int32)) ([(dig ((x0 >>> ((4 : Int32) &&& 31)) &&& (15 : Int32))), (dig (x0 &&& (15 : Int32)))]) h196 X200 F202 F203 V204 rfl (by first | exact Nat.le_of_ble_eq_true rfl | (simp; done) | (simp; omega)) (forallS (dig_lat _) (forallS (dig_lat _) (fun _ q => nomatch q))) (by decide)) pd_9 rfl (rest := [(.ref a197)]) rfl rfl (allS (List.mem_of_getElem? (i := 0) rfl) all0) (Nat.le_of_ble_eq_true rfl) (W := 1) (Nat.le_of_ble_eq_true rfl) (Nat.le_of_ble_eq_true rfl) (Nat.le_of_ble_eq_true rfl) (Nat.le_of_ble_eq_true rfl) (fun v205 M206 h207 le208 hq209 => ?_)
  obtain ⟨t210, kt211, rfl, rfl, K212, g213, f214, f215, f216, f217⟩ := hq209
  show G [t210, a197, a171] h207 (3) (38) 63 #[.val (.ref b), .val (.ref a171), .val (.int (1 : Int32))] [(.ref a197)]
  have V218 : Arv Z h207 t210 kt211 .byte (2 : Int32) [(.int (nar .byte (dig ((x0 >>> ((4 : Int32) &&& 31)) &&& (15 : Int32))))), (.int (nar .byte (dig (x0 &&& (15 : Int32)))))] (.int 0) := f217
  have K219 : Keep h h207 [] := ((((((Keep.refl _ _).ext E174).wr W180 (Or.inr g173)).wr W191 (Or.inr g173)).ext E199).trans K212 (allS (Or.inr (Nat.le_trans (Nat.le_trans (Nat.le_trans E174.1 (Nat.le_of_eq (Wr.size W180).symm)) (Nat.le_of_eq (Wr.size W191).symm)) g198)) all0))
  exact areturn hG rfl rfl rfl d_prog_19_method_3_code_63 (M' := []) ⟨a197, t210, kt211, rfl, rfl, K219, (Nat.le_trans (Nat.le_trans (Nat.le_trans E174.1 (Nat.le_of_eq (Wr.size W180).symm)) (Nat.le_of_eq (Wr.size W191).symm)) g198), f214, f215, f216, V218⟩ all0 (Nat.le_of_ble_eq_true rfl) (Nat.le_of_ble_eq_true rfl)
def Q_fmt2 (Z : State) (g0 : Int32) (gf : Value) (dg : Addr) (kd : ClassId) (b : Addr) (kb : ClassId) (x0 : Int32) (x1 : Int32) (h : Heap) : QT := fun v' M9 h9 => ∃ (s : Addr), ∃ (t : Addr), ∃ (kt : ClassId), v' = some (.ref s) ∧ M9 = [] ∧ Keep h h9 [] ∧ h.size ≤ s ∧ Exa Z h9 s "java/lang/String" ∧ Fld Z h9 s "java/lang/String" "coder" "B" (.int (0 : Int32)) ∧ Fld Z h9 s "java/lang/String" "value" "[B" (.ref t) ∧ Arv Z h9 t kt .byte (4 : Int32) [(.int (nar .byte (dig ((x0 >>> ((4 : Int32) &&& 31)) &&& (15 : Int32))))), (.int (nar .byte (dig (x0 &&& (15 : Int32))))), (.int (nar .byte (dig ((x1 >>> ((4 : Int32) &&& 31)) &&& (15 : Int32))))), (.int (nar .byte (dig (x1 &&& (15 : Int32)))))] (.int 0)
theorem ef_fmt2 (m : MethodId) (b : Addr) (kb : ClassId) (x0 : Int32) (x1 : Int32) : entryFrame m [(.ref b)].toArray 3 = mkF m 0 #[.val (.ref b), .unset, .unset] [] := by first | rfl | (simp [entryFrame, mkF, argsToLocals, Value.category]; done)
set_option maxRecDepth 65536 in
set_option maxHeartbeats 4000000 in
theorem m_fmt2 {l : Launch} {Z : State} {a0 : Array Value} {n0 : Nat} {g0 : Int32} {gf : Value} {dg : Addr} {kd : ClassId} (hC : Ctx l Z a0 n0 g0 gf dg kd) (b : Addr) (kb : ClassId) (x0 : Int32) (x1 : Int32) (h : Heap) (p0_arv : Arv Z h b kb .byte (2 : Int32) [(.int x0), (.int x1)] (.int 0)) :
    Met l Z EL0 n0 (⟨"ridgecard/Hex", "format", "([B)Ljava/lang/String;"⟩ : MethodName) prog_19_method_3_code 3 (some (.object "java/lang/String")) [] ({ frames := 4, cells := 3, slots := 40, locals := 66 } : Room) [(.ref b)] [] h (Q_fmt2 Z g0 gf dg kd b kb x0 x1 h) := by
  obtain ⟨hw, hS, hE, hK, hX⟩ := id hC
  refine Met.intro pl_12 (fun m => ef_fmt2 m b kb x0 x1) hE ?_
  intro G hG
  refine aloadN hG d_prog_19_method_3_code_0 rfl rfl ?_
  refine alen hG d_prog_19_method_3_code_1 p0_arv ?_
  refine iconst hG d_prog_19_method_3_code_2 (2) rfl ?_
  refine imul hG d_prog_19_method_3_code_3 ?_
  show G [] h (0) (0) 4 #[.val (.ref b), .unset, .unset] [(.int (4 : Int32))]
  refine newarray hG d_prog_19_method_3_code_4 rfl (w6 hw) (by decide) (cap := 4) (by decide) (by decide) (Nat.le_of_ble_eq_true rfl) (Nat.le_of_ble_eq_true rfl) (cnt := 4) (vs := [(.int (0 : Int32)), (.int (0 : Int32)), (.int (0 : Int32)), (.int (0 : Int32))]) rfl (fun h220 a221 kk222 g223 E224 V225 => ?_)
  show G [a221] h220 (1) (4) 6 #[.val (.ref b), .unset, .unset] [(.ref a221)]
  refine astoreN hG d_prog_19_method_3_code_6 rfl rfl ?_
  refine iconst hG d_prog_19_method_3_code_7 (0) rfl ?_
  refine istoreN hG d_prog_19_method_3_code_8 rfl ?_
  refine iloadN hG d_prog_19_method_3_code_9 rfl ?_
  refine aloadN hG d_prog_19_method_3_code_10 rfl rfl ?_
  have V226 : Arv Z h220 b kb .byte (2 : Int32) [(.int x0), (.int x1)] (.int 0) := (p0_arv.ext E224)
  refine alen hG d_prog_19_method_3_code_11 V226 ?_
  refine icmpNo hG d_prog_19_method_3_code_12 (by decide) ?_
  refine aloadN hG d_prog_19_method_3_code_15 rfl rfl ?_
  refine iconst hG d_prog_19_method_3_code_16 (2) rfl ?_
  refine iloadN hG d_prog_19_method_3_code_17 rfl ?_
  refine imul hG d_prog_19_method_3_code_18 ?_
  show G [a221] h220 (1) (4) 19 #[.val (.ref b), .val (.ref a221), .val (.int (0 : Int32))] [(.int (0 : Int32)), (.ref a221)]
  refine getstatic hG d_prog_19_method_3_code_19 (w38 hw) Via.refl hX.2.2.1 ?_
  refine aloadN hG d_prog_19_method_3_code_22 rfl rfl ?_
  refine iloadN hG d_prog_19_method_3_code_23 rfl ?_
  refine baload hG d_prog_19_method_3_code_24 V226 ⟨by decide, by decide⟩ (v := (.int x0)) rfl ?_
  refine iconst hG d_prog_19_method_3_code_25 (4) rfl ?_
  refine ishr hG d_prog_19_method_3_code_26 ?_
  refine bipush hG d_prog_19_method_3_code_27 (15) rfl ?_
  refine iand hG d_prog_19_method_3_code_29 ?_
  refine facts hG (fun O227 _ => ?_)
  have o228 : Arv Z h220 dg kd .char (16 : Int32) (ints digs) (.int 0) := hX.2.2.2.ext O227.2
  refine caload hG d_prog_19_method_3_code_30 o228 (and15 (x0 >>> ((4 : Int32) &&& 31))) (v := (.int (dig ((x0 >>> ((4 : Int32) &&& 31)) &&& (15 : Int32))))) (ints_at' _) ?_
  refine castore hG d_prog_19_method_3_code_31 V225 ⟨by decide, by decide⟩ (i := 0) rfl (Nat.le_of_ble_eq_true rfl) (List.mem_of_getElem? (i := 0) rfl) (fun h229 W230 V231 => ?_)
  rw [(dig_nar _)] at V231
  have V233 : Arv Z h229 a221 kk222 .char (4 : Int32) [(.int (dig ((x0 >>> ((4 : Int32) &&& 31)) &&& (15 : Int32)))), (.int (0 : Int32)), (.int (0 : Int32)), (.int (0 : Int32))] (.int 0) := V231
  refine aloadN hG d_prog_19_method_3_code_32 rfl rfl ?_
  refine iconst hG d_prog_19_method_3_code_33 (2) rfl ?_
  refine iloadN hG d_prog_19_method_3_code_34 rfl ?_
  refine imul hG d_prog_19_method_3_code_35 ?_
  show G [a221] h229 (1) (4) 36 #[.val (.ref b), .val (.ref a221), .val (.int (0 : Int32))] [(.int (0 : Int32)), (.ref a221)]
  refine iconst hG d_prog_19_method_3_code_36 (1) rfl ?_
  refine iadd hG d_prog_19_method_3_code_37 ?_
  show G [a221] h229 (1) (4) 38 #[.val (.ref b), .val (.ref a221), .val (.int (0 : Int32))] [(.int (1 : Int32)), (.ref a221)]
  refine getstatic hG d_prog_19_method_3_code_38 (w38 hw) Via.refl hX.2.2.1 ?_
  refine aloadN hG d_prog_19_method_3_code_41 rfl rfl ?_
  refine iloadN hG d_prog_19_method_3_code_42 rfl ?_
  have ne234 : b ≠ a221 := (Nat.ne_of_lt (Nat.lt_of_lt_of_le p0_arv.lt g223))
  have V235 : Arv Z h229 b kb .byte (2 : Int32) [(.int x0), (.int x1)] (.int 0) := (V226.other W230 ne234)
  refine baload hG d_prog_19_method_3_code_43 V235 ⟨by decide, by decide⟩ (v := (.int x0)) rfl ?_
  refine bipush hG d_prog_19_method_3_code_44 (15) rfl ?_
  refine iand hG d_prog_19_method_3_code_46 ?_
  refine facts hG (fun O236 m237 => ?_)
  have ne238 : dg ≠ a221 := (Nat.ne_of_lt (Nat.lt_of_lt_of_le (O236.1 ▸ hX.2.2.2.lt) (m237 _ (List.mem_of_getElem? (i := 0) rfl)).1))
  have V239 : Arv Z h229 dg kd .char (16 : Int32) (ints digs) (.int 0) := (o228.other W230 ne238)
  refine caload hG d_prog_19_method_3_code_47 V239 (and15 x0) (v := (.int (dig (x0 &&& (15 : Int32))))) (ints_at' _) ?_
  refine castore hG d_prog_19_method_3_code_48 V233 ⟨by decide, by decide⟩ (i := 1) rfl (Nat.le_of_ble_eq_true rfl) (List.mem_of_getElem? (i := 0) rfl) (fun h240 W241 V242 => ?_)
  rw [(dig_nar _)] at V242
  have V244 : Arv Z h240 a221 kk222 .char (4 : Int32) [(.int (dig ((x0 >>> ((4 : Int32) &&& 31)) &&& (15 : Int32)))), (.int (dig (x0 &&& (15 : Int32)))), (.int (0 : Int32)), (.int (0 : Int32))] (.int 0) := V242
  refine iinc hG d_prog_19_method_3_code_49 rfl (1) rfl rfl ?_
  refine goto hG d_prog_19_method_3_code_52 (by decide) (pc' := 9) rfl ?_
  refine iloadN hG d_prog_19_method_3_code_9 rfl ?_
  refine aloadN hG d_prog_19_method_3_code_10 rfl rfl ?_
  have V245 : Arv Z h240 b kb .byte (2 : Int32) [(.int x0), (.int x1)] (.int 0) := (V235.other W241 ne234)
  refine alen hG d_prog_19_method_3_code_11 V245 ?_
  refine icmpNo hG d_prog_19_method_3_code_12 (by decide) ?_
  refine aloadN hG d_prog_19_method_3_code_15 rfl rfl ?_
  refine iconst hG d_prog_19_method_3_code_16 (2) rfl ?_
  refine iloadN hG d_prog_19_method_3_code_17 rfl ?_
  refine imul hG d_prog_19_method_3_code_18 ?_
  show G [a221] h240 (1) (4) 19 #[.val (.ref b), .val (.ref a221), .val (.int (1 : Int32))] [(.int (2 : Int32)), (.ref a221)]
  refine getstatic hG d_prog_19_method_3_code_19 (w38 hw) Via.refl hX.2.2.1 ?_
  refine aloadN hG d_prog_19_method_3_code_22 rfl rfl ?_
  refine iloadN hG d_prog_19_method_3_code_23 rfl ?_
  refine baload hG d_prog_19_method_3_code_24 V245 ⟨by decide, by decide⟩ (v := (.int x1)) rfl ?_
  refine iconst hG d_prog_19_method_3_code_25 (4) rfl ?_
  refine ishr hG d_prog_19_method_3_code_26 ?_
  refine bipush hG d_prog_19_method_3_code_27 (15) rfl ?_
  refine iand hG d_prog_19_method_3_code_29 ?_
  have V246 : Arv Z h240 dg kd .char (16 : Int32) (ints digs) (.int 0) := (V239.other W241 ne238)
  refine caload hG d_prog_19_method_3_code_30 V246 (and15 (x1 >>> ((4 : Int32) &&& 31))) (v := (.int (dig ((x1 >>> ((4 : Int32) &&& 31)) &&& (15 : Int32))))) (ints_at' _) ?_
  refine castore hG d_prog_19_method_3_code_31 V244 ⟨by decide, by decide⟩ (i := 2) rfl (Nat.le_of_ble_eq_true rfl) (List.mem_of_getElem? (i := 0) rfl) (fun h247 W248 V249 => ?_)
  rw [(dig_nar _)] at V249
  have V251 : Arv Z h247 a221 kk222 .char (4 : Int32) [(.int (dig ((x0 >>> ((4 : Int32) &&& 31)) &&& (15 : Int32)))), (.int (dig (x0 &&& (15 : Int32)))), (.int (dig ((x1 >>> ((4 : Int32) &&& 31)) &&& (15 : Int32)))), (.int (0 : Int32))] (.int 0) := V249
  refine aloadN hG d_prog_19_method_3_code_32 rfl rfl ?_
  refine iconst hG d_prog_19_method_3_code_33 (2) rfl ?_
  refine iloadN hG d_prog_19_method_3_code_34 rfl ?_
  refine imul hG d_prog_19_method_3_code_35 ?_
  show G [a221] h247 (1) (4) 36 #[.val (.ref b), .val (.ref a221), .val (.int (1 : Int32))] [(.int (2 : Int32)), (.ref a221)]
  refine iconst hG d_prog_19_method_3_code_36 (1) rfl ?_
  refine iadd hG d_prog_19_method_3_code_37 ?_
  show G [a221] h247 (1) (4) 38 #[.val (.ref b), .val (.ref a221), .val (.int (1 : Int32))] [(.int (3 : Int32)), (.ref a221)]
  refine getstatic hG d_prog_19_method_3_code_38 (w38 hw) Via.refl hX.2.2.1 ?_
  refine aloadN hG d_prog_19_method_3_code_41 rfl rfl ?_
  refine iloadN hG d_prog_19_method_3_code_42 rfl ?_
  have V252 : Arv Z h247 b kb .byte (2 : Int32) [(.int x0), (.int x1)] (.int 0) := (V245.other W248 ne234)
  refine baload hG d_prog_19_method_3_code_43 V252 ⟨by decide, by decide⟩ (v := (.int x1)) rfl ?_
  refine bipush hG d_prog_19_method_3_code_44 (15) rfl ?_
  refine iand hG d_prog_19_method_3_code_46 ?_
  have V253 : Arv Z h247 dg kd .char (16 : Int32) (ints digs) (.int 0) := (V246.other W248 ne238)
  refine caload hG d_prog_19_method_3_code_47 V253 (and15 x1) (v := (.int (dig (x1 &&& (15 : Int32))))) (ints_at' _) ?_
  refine castore hG d_prog_19_method_3_code_48 V251 ⟨by decide, by decide⟩ (i := 3) rfl (Nat.le_of_ble_eq_true rfl) (List.mem_of_getElem? (i := 0) rfl) (fun h254 W255 V256 => ?_)
  rw [(dig_nar _)] at V256
  have V258 : Arv Z h254 a221 kk222 .char (4 : Int32) [(.int (dig ((x0 >>> ((4 : Int32) &&& 31)) &&& (15 : Int32)))), (.int (dig (x0 &&& (15 : Int32)))), (.int (dig ((x1 >>> ((4 : Int32) &&& 31)) &&& (15 : Int32)))), (.int (dig (x1 &&& (15 : Int32))))] (.int 0) := V256
  refine iinc hG d_prog_19_method_3_code_49 rfl (2) rfl rfl ?_
  refine goto hG d_prog_19_method_3_code_52 (by decide) (pc' := 9) rfl ?_
  refine iloadN hG d_prog_19_method_3_code_9 rfl ?_
  refine aloadN hG d_prog_19_method_3_code_10 rfl rfl ?_
  have V259 : Arv Z h254 b kb .byte (2 : Int32) [(.int x0), (.int x1)] (.int 0) := (V252.other W255 ne234)
  refine alen hG d_prog_19_method_3_code_11 V259 ?_
  refine icmpYes hG d_prog_19_method_3_code_12 (by decide) (by decide) (pc' := 55) rfl ?_
  refine new hG d_prog_19_method_3_code_55 (w7 hw) (w8 hw) (w9 hw) (Nat.le_of_ble_eq_true rfl) (Nat.le_of_ble_eq_true rfl) (fun h260 a261 g262 E263 X264 D265 => ?_)
  show G [a261, a221] h260 (2) (8) 58 #[.val (.ref b), .val (.ref a221), .val (.int (2 : Int32))] [(.ref a261)]
  refine dup hG d_prog_19_method_3_code_58 rfl ?_
  refine aloadN hG d_prog_19_method_3_code_59 rfl rfl ?_
  have F266 : Fld Z h260 a261 "java/lang/String" "value" "[B" .null := D265 (Or.inr (w21 hw)) pf__B
  have F267 : Fld Z h260 a261 "java/lang/String" "coder" "B" (.int (0 : Int32)) := D265 (Or.inr (w22 hw)) pf_B
  have V268 : Arv Z h260 a221 kk222 .char (4 : Int32) [(.int (dig ((x0 >>> ((4 : Int32) &&& 31)) &&& (15 : Int32)))), (.int (dig (x0 &&& (15 : Int32)))), (.int (dig ((x1 >>> ((4 : Int32) &&& 31)) &&& (15 : Int32)))), (.int (dig (x1 &&& (15 : Int32))))] (.int 0) := (V258.ext E263)
  refine callInit hG d_prog_19_method_3_code_60 rfl (w10 hw) (w11 hw) (w9 hw) (w12 hw) (by decide) (m_initC1 hC (a261) (a221) (kk222) ((4 : Int32)) ([(dig ((x0 >>> ((4 : Int32) &&& 31)) &&& (15 : Int32))), (dig (x0 &&& (15 : Int32))), (dig ((x1 >>> ((4 : Int32) &&& 31)) &&& (15 : Int32))), (dig (x1 &&& (15 : Int32)))]) h260 X264 F266 F267 V268 rfl (by first | exact Nat.le_of_ble_eq_true rfl | (simp; done) | (simp; omega)) (forallS (dig_lat _) (forallS (dig_lat _) (forallS (dig_lat _) (forallS (dig_lat _) (fun _ q => nomatch q))))) (by decide)) pd_9 rfl (rest := [(.ref a261)]) rfl rfl (allS (List.mem_of_getElem? (i := 0) rfl) all0) (Nat.le_of_ble_eq_true rfl) (W := 1) (Nat.le_of_ble_eq_true rfl) (Nat.le_of_ble_eq_true rfl) (Nat.le_of_ble_eq_true rfl) (Nat.le_of_ble_eq_true rfl) (fun v269 M270 h271 le272 hq273 => ?_)
  obtain ⟨t274, kt275, rfl, rfl, K276, g277, f278, f279, f280, f281⟩ := hq273
  show G [t274, a261, a221] h271 (3) (40) 63 #[.val (.ref b), .val (.ref a221), .val (.int (2 : Int32))] [(.ref a261)]
  have V282 : Arv Z h271 t274 kt275 .byte (4 : Int32) [(.int (nar .byte (dig ((x0 >>> ((4 : Int32) &&& 31)) &&& (15 : Int32))))), (.int (nar .byte (dig (x0 &&& (15 : Int32))))), (.int (nar .byte (dig ((x1 >>> ((4 : Int32) &&& 31)) &&& (15 : Int32))))), (.int (nar .byte (dig (x1 &&& (15 : Int32)))))] (.int 0) := f281
  have K283 : Keep h h271 [] := ((((((((Keep.refl _ _).ext E224).wr W230 (Or.inr g223)).wr W241 (Or.inr g223)).wr W248 (Or.inr g223)).wr W255 (Or.inr g223)).ext E263).trans K276 (allS (Or.inr (Nat.le_trans (Nat.le_trans (Nat.le_trans (Nat.le_trans (Nat.le_trans E224.1 (Nat.le_of_eq (Wr.size W230).symm)) (Nat.le_of_eq (Wr.size W241).symm)) (Nat.le_of_eq (Wr.size W248).symm)) (Nat.le_of_eq (Wr.size W255).symm)) g262)) all0))
  exact areturn hG rfl rfl rfl d_prog_19_method_3_code_63 (M' := []) ⟨a261, t274, kt275, rfl, rfl, K283, (Nat.le_trans (Nat.le_trans (Nat.le_trans (Nat.le_trans (Nat.le_trans E224.1 (Nat.le_of_eq (Wr.size W230).symm)) (Nat.le_of_eq (Wr.size W241).symm)) (Nat.le_of_eq (Wr.size W248).symm)) (Nat.le_of_eq (Wr.size W255).symm)) g262), f278, f279, f280, V282⟩ all0 (Nat.le_of_ble_eq_true rfl) (Nat.le_of_ble_eq_true rfl)
def Q_fmt3 (Z : State) (g0 : Int32) (gf : Value) (dg : Addr) (kd : ClassId) (b : Addr) (kb : ClassId) (x0 : Int32) (x1 : Int32) (x2 : Int32) (h : Heap) : QT := fun v' M9 h9 => ∃ (s : Addr), ∃ (t : Addr), ∃ (kt : ClassId), v' = some (.ref s) ∧ M9 = [] ∧ Keep h h9 [] ∧ h.size ≤ s ∧ Exa Z h9 s "java/lang/String" ∧ Fld Z h9 s "java/lang/String" "coder" "B" (.int (0 : Int32)) ∧ Fld Z h9 s "java/lang/String" "value" "[B" (.ref t) ∧ Arv Z h9 t kt .byte (6 : Int32) [(.int (nar .byte (dig ((x0 >>> ((4 : Int32) &&& 31)) &&& (15 : Int32))))), (.int (nar .byte (dig (x0 &&& (15 : Int32))))), (.int (nar .byte (dig ((x1 >>> ((4 : Int32) &&& 31)) &&& (15 : Int32))))), (.int (nar .byte (dig (x1 &&& (15 : Int32))))), (.int (nar .byte (dig ((x2 >>> ((4 : Int32) &&& 31)) &&& (15 : Int32))))), (.int (nar .byte (dig (x2 &&& (15 : Int32)))))] (.int 0)
theorem ef_fmt3 (m : MethodId) (b : Addr) (kb : ClassId) (x0 : Int32) (x1 : Int32) (x2 : Int32) : entryFrame m [(.ref b)].toArray 3 = mkF m 0 #[.val (.ref b), .unset, .unset] [] := by first | rfl | (simp [entryFrame, mkF, argsToLocals, Value.category]; done)
set_option maxRecDepth 65536 in
set_option maxHeartbeats 4000000 in
theorem m_fmt3 {l : Launch} {Z : State} {a0 : Array Value} {n0 : Nat} {g0 : Int32} {gf : Value} {dg : Addr} {kd : ClassId} (hC : Ctx l Z a0 n0 g0 gf dg kd) (b : Addr) (kb : ClassId) (x0 : Int32) (x1 : Int32) (x2 : Int32) (h : Heap) (p0_arv : Arv Z h b kb .byte (3 : Int32) [(.int x0), (.int x1), (.int x2)] (.int 0)) :
    Met l Z EL0 n0 (⟨"ridgecard/Hex", "format", "([B)Ljava/lang/String;"⟩ : MethodName) prog_19_method_3_code 3 (some (.object "java/lang/String")) [] ({ frames := 4, cells := 3, slots := 42, locals := 66 } : Room) [(.ref b)] [] h (Q_fmt3 Z g0 gf dg kd b kb x0 x1 x2 h) := by
  obtain ⟨hw, hS, hE, hK, hX⟩ := id hC
  refine Met.intro pl_12 (fun m => ef_fmt3 m b kb x0 x1 x2) hE ?_
  intro G hG
  refine aloadN hG d_prog_19_method_3_code_0 rfl rfl ?_
  refine alen hG d_prog_19_method_3_code_1 p0_arv ?_
  refine iconst hG d_prog_19_method_3_code_2 (2) rfl ?_
  refine imul hG d_prog_19_method_3_code_3 ?_
  show G [] h (0) (0) 4 #[.val (.ref b), .unset, .unset] [(.int (6 : Int32))]
  refine newarray hG d_prog_19_method_3_code_4 rfl (w6 hw) (by decide) (cap := 6) (by decide) (by decide) (Nat.le_of_ble_eq_true rfl) (Nat.le_of_ble_eq_true rfl) (cnt := 6) (vs := [(.int (0 : Int32)), (.int (0 : Int32)), (.int (0 : Int32)), (.int (0 : Int32)), (.int (0 : Int32)), (.int (0 : Int32))]) rfl (fun h284 a285 kk286 g287 E288 V289 => ?_)
  show G [a285] h284 (1) (6) 6 #[.val (.ref b), .unset, .unset] [(.ref a285)]
  refine astoreN hG d_prog_19_method_3_code_6 rfl rfl ?_
  refine iconst hG d_prog_19_method_3_code_7 (0) rfl ?_
  refine istoreN hG d_prog_19_method_3_code_8 rfl ?_
  refine iloadN hG d_prog_19_method_3_code_9 rfl ?_
  refine aloadN hG d_prog_19_method_3_code_10 rfl rfl ?_
  have V290 : Arv Z h284 b kb .byte (3 : Int32) [(.int x0), (.int x1), (.int x2)] (.int 0) := (p0_arv.ext E288)
  refine alen hG d_prog_19_method_3_code_11 V290 ?_
  refine icmpNo hG d_prog_19_method_3_code_12 (by decide) ?_
  refine aloadN hG d_prog_19_method_3_code_15 rfl rfl ?_
  refine iconst hG d_prog_19_method_3_code_16 (2) rfl ?_
  refine iloadN hG d_prog_19_method_3_code_17 rfl ?_
  refine imul hG d_prog_19_method_3_code_18 ?_
  show G [a285] h284 (1) (6) 19 #[.val (.ref b), .val (.ref a285), .val (.int (0 : Int32))] [(.int (0 : Int32)), (.ref a285)]
  refine getstatic hG d_prog_19_method_3_code_19 (w38 hw) Via.refl hX.2.2.1 ?_
  refine aloadN hG d_prog_19_method_3_code_22 rfl rfl ?_
  refine iloadN hG d_prog_19_method_3_code_23 rfl ?_
  refine baload hG d_prog_19_method_3_code_24 V290 ⟨by decide, by decide⟩ (v := (.int x0)) rfl ?_
  refine iconst hG d_prog_19_method_3_code_25 (4) rfl ?_
  refine ishr hG d_prog_19_method_3_code_26 ?_
  refine bipush hG d_prog_19_method_3_code_27 (15) rfl ?_
  refine iand hG d_prog_19_method_3_code_29 ?_
  refine facts hG (fun O291 _ => ?_)
  have o292 : Arv Z h284 dg kd .char (16 : Int32) (ints digs) (.int 0) := hX.2.2.2.ext O291.2
  refine caload hG d_prog_19_method_3_code_30 o292 (and15 (x0 >>> ((4 : Int32) &&& 31))) (v := (.int (dig ((x0 >>> ((4 : Int32) &&& 31)) &&& (15 : Int32))))) (ints_at' _) ?_
  refine castore hG d_prog_19_method_3_code_31 V289 ⟨by decide, by decide⟩ (i := 0) rfl (Nat.le_of_ble_eq_true rfl) (List.mem_of_getElem? (i := 0) rfl) (fun h293 W294 V295 => ?_)
  rw [(dig_nar _)] at V295
  have V297 : Arv Z h293 a285 kk286 .char (6 : Int32) [(.int (dig ((x0 >>> ((4 : Int32) &&& 31)) &&& (15 : Int32)))), (.int (0 : Int32)), (.int (0 : Int32)), (.int (0 : Int32)), (.int (0 : Int32)), (.int (0 : Int32))] (.int 0) := V295
  refine aloadN hG d_prog_19_method_3_code_32 rfl rfl ?_
  refine iconst hG d_prog_19_method_3_code_33 (2) rfl ?_
  refine iloadN hG d_prog_19_method_3_code_34 rfl ?_
  refine imul hG d_prog_19_method_3_code_35 ?_
  show G [a285] h293 (1) (6) 36 #[.val (.ref b), .val (.ref a285), .val (.int (0 : Int32))] [(.int (0 : Int32)), (.ref a285)]
  refine iconst hG d_prog_19_method_3_code_36 (1) rfl ?_
  refine iadd hG d_prog_19_method_3_code_37 ?_
  show G [a285] h293 (1) (6) 38 #[.val (.ref b), .val (.ref a285), .val (.int (0 : Int32))] [(.int (1 : Int32)), (.ref a285)]
  refine getstatic hG d_prog_19_method_3_code_38 (w38 hw) Via.refl hX.2.2.1 ?_
  refine aloadN hG d_prog_19_method_3_code_41 rfl rfl ?_
  refine iloadN hG d_prog_19_method_3_code_42 rfl ?_
  have ne298 : b ≠ a285 := (Nat.ne_of_lt (Nat.lt_of_lt_of_le p0_arv.lt g287))
  have V299 : Arv Z h293 b kb .byte (3 : Int32) [(.int x0), (.int x1), (.int x2)] (.int 0) := (V290.other W294 ne298)
  refine baload hG d_prog_19_method_3_code_43 V299 ⟨by decide, by decide⟩ (v := (.int x0)) rfl ?_
  refine bipush hG d_prog_19_method_3_code_44 (15) rfl ?_
  refine iand hG d_prog_19_method_3_code_46 ?_
  refine facts hG (fun O300 m301 => ?_)
  have ne302 : dg ≠ a285 := (Nat.ne_of_lt (Nat.lt_of_lt_of_le (O300.1 ▸ hX.2.2.2.lt) (m301 _ (List.mem_of_getElem? (i := 0) rfl)).1))
  have V303 : Arv Z h293 dg kd .char (16 : Int32) (ints digs) (.int 0) := (o292.other W294 ne302)
  refine caload hG d_prog_19_method_3_code_47 V303 (and15 x0) (v := (.int (dig (x0 &&& (15 : Int32))))) (ints_at' _) ?_
  refine castore hG d_prog_19_method_3_code_48 V297 ⟨by decide, by decide⟩ (i := 1) rfl (Nat.le_of_ble_eq_true rfl) (List.mem_of_getElem? (i := 0) rfl) (fun h304 W305 V306 => ?_)
  rw [(dig_nar _)] at V306
  have V308 : Arv Z h304 a285 kk286 .char (6 : Int32) [(.int (dig ((x0 >>> ((4 : Int32) &&& 31)) &&& (15 : Int32)))), (.int (dig (x0 &&& (15 : Int32)))), (.int (0 : Int32)), (.int (0 : Int32)), (.int (0 : Int32)), (.int (0 : Int32))] (.int 0) := V306
  refine iinc hG d_prog_19_method_3_code_49 rfl (1) rfl rfl ?_
  refine goto hG d_prog_19_method_3_code_52 (by decide) (pc' := 9) rfl ?_
  refine iloadN hG d_prog_19_method_3_code_9 rfl ?_
  refine aloadN hG d_prog_19_method_3_code_10 rfl rfl ?_
  have V309 : Arv Z h304 b kb .byte (3 : Int32) [(.int x0), (.int x1), (.int x2)] (.int 0) := (V299.other W305 ne298)
  refine alen hG d_prog_19_method_3_code_11 V309 ?_
  refine icmpNo hG d_prog_19_method_3_code_12 (by decide) ?_
  refine aloadN hG d_prog_19_method_3_code_15 rfl rfl ?_
  refine iconst hG d_prog_19_method_3_code_16 (2) rfl ?_
  refine iloadN hG d_prog_19_method_3_code_17 rfl ?_
  refine imul hG d_prog_19_method_3_code_18 ?_
  show G [a285] h304 (1) (6) 19 #[.val (.ref b), .val (.ref a285), .val (.int (1 : Int32))] [(.int (2 : Int32)), (.ref a285)]
  refine getstatic hG d_prog_19_method_3_code_19 (w38 hw) Via.refl hX.2.2.1 ?_
  refine aloadN hG d_prog_19_method_3_code_22 rfl rfl ?_
  refine iloadN hG d_prog_19_method_3_code_23 rfl ?_
  refine baload hG d_prog_19_method_3_code_24 V309 ⟨by decide, by decide⟩ (v := (.int x1)) rfl ?_
  refine iconst hG d_prog_19_method_3_code_25 (4) rfl ?_
  refine ishr hG d_prog_19_method_3_code_26 ?_
  refine bipush hG d_prog_19_method_3_code_27 (15) rfl ?_
  refine iand hG d_prog_19_method_3_code_29 ?_
  have V310 : Arv Z h304 dg kd .char (16 : Int32) (ints digs) (.int 0) := (V303.other W305 ne302)
  refine caload hG d_prog_19_method_3_code_30 V310 (and15 (x1 >>> ((4 : Int32) &&& 31))) (v := (.int (dig ((x1 >>> ((4 : Int32) &&& 31)) &&& (15 : Int32))))) (ints_at' _) ?_
  refine castore hG d_prog_19_method_3_code_31 V308 ⟨by decide, by decide⟩ (i := 2) rfl (Nat.le_of_ble_eq_true rfl) (List.mem_of_getElem? (i := 0) rfl) (fun h311 W312 V313 => ?_)
  rw [(dig_nar _)] at V313
  have V315 : Arv Z h311 a285 kk286 .char (6 : Int32) [(.int (dig ((x0 >>> ((4 : Int32) &&& 31)) &&& (15 : Int32)))), (.int (dig (x0 &&& (15 : Int32)))), (.int (dig ((x1 >>> ((4 : Int32) &&& 31)) &&& (15 : Int32)))), (.int (0 : Int32)), (.int (0 : Int32)), (.int (0 : Int32))] (.int 0) := V313
  refine aloadN hG d_prog_19_method_3_code_32 rfl rfl ?_
  refine iconst hG d_prog_19_method_3_code_33 (2) rfl ?_
  refine iloadN hG d_prog_19_method_3_code_34 rfl ?_
  refine imul hG d_prog_19_method_3_code_35 ?_
  show G [a285] h311 (1) (6) 36 #[.val (.ref b), .val (.ref a285), .val (.int (1 : Int32))] [(.int (2 : Int32)), (.ref a285)]
  refine iconst hG d_prog_19_method_3_code_36 (1) rfl ?_
  refine iadd hG d_prog_19_method_3_code_37 ?_
  show G [a285] h311 (1) (6) 38 #[.val (.ref b), .val (.ref a285), .val (.int (1 : Int32))] [(.int (3 : Int32)), (.ref a285)]
  refine getstatic hG d_prog_19_method_3_code_38 (w38 hw) Via.refl hX.2.2.1 ?_
  refine aloadN hG d_prog_19_method_3_code_41 rfl rfl ?_
  refine iloadN hG d_prog_19_method_3_code_42 rfl ?_
  have V316 : Arv Z h311 b kb .byte (3 : Int32) [(.int x0), (.int x1), (.int x2)] (.int 0) := (V309.other W312 ne298)
  refine baload hG d_prog_19_method_3_code_43 V316 ⟨by decide, by decide⟩ (v := (.int x1)) rfl ?_
  refine bipush hG d_prog_19_method_3_code_44 (15) rfl ?_
  refine iand hG d_prog_19_method_3_code_46 ?_
  have V317 : Arv Z h311 dg kd .char (16 : Int32) (ints digs) (.int 0) := (V310.other W312 ne302)
  refine caload hG d_prog_19_method_3_code_47 V317 (and15 x1) (v := (.int (dig (x1 &&& (15 : Int32))))) (ints_at' _) ?_
  refine castore hG d_prog_19_method_3_code_48 V315 ⟨by decide, by decide⟩ (i := 3) rfl (Nat.le_of_ble_eq_true rfl) (List.mem_of_getElem? (i := 0) rfl) (fun h318 W319 V320 => ?_)
  rw [(dig_nar _)] at V320
  have V322 : Arv Z h318 a285 kk286 .char (6 : Int32) [(.int (dig ((x0 >>> ((4 : Int32) &&& 31)) &&& (15 : Int32)))), (.int (dig (x0 &&& (15 : Int32)))), (.int (dig ((x1 >>> ((4 : Int32) &&& 31)) &&& (15 : Int32)))), (.int (dig (x1 &&& (15 : Int32)))), (.int (0 : Int32)), (.int (0 : Int32))] (.int 0) := V320
  refine iinc hG d_prog_19_method_3_code_49 rfl (2) rfl rfl ?_
  refine goto hG d_prog_19_method_3_code_52 (by decide) (pc' := 9) rfl ?_
  refine iloadN hG d_prog_19_method_3_code_9 rfl ?_
  refine aloadN hG d_prog_19_method_3_code_10 rfl rfl ?_
  have V323 : Arv Z h318 b kb .byte (3 : Int32) [(.int x0), (.int x1), (.int x2)] (.int 0) := (V316.other W319 ne298)
  refine alen hG d_prog_19_method_3_code_11 V323 ?_
  refine icmpNo hG d_prog_19_method_3_code_12 (by decide) ?_
  refine aloadN hG d_prog_19_method_3_code_15 rfl rfl ?_
  refine iconst hG d_prog_19_method_3_code_16 (2) rfl ?_
  refine iloadN hG d_prog_19_method_3_code_17 rfl ?_
  refine imul hG d_prog_19_method_3_code_18 ?_
  show G [a285] h318 (1) (6) 19 #[.val (.ref b), .val (.ref a285), .val (.int (2 : Int32))] [(.int (4 : Int32)), (.ref a285)]
  refine getstatic hG d_prog_19_method_3_code_19 (w38 hw) Via.refl hX.2.2.1 ?_
  refine aloadN hG d_prog_19_method_3_code_22 rfl rfl ?_
  refine iloadN hG d_prog_19_method_3_code_23 rfl ?_
  refine baload hG d_prog_19_method_3_code_24 V323 ⟨by decide, by decide⟩ (v := (.int x2)) rfl ?_
  refine iconst hG d_prog_19_method_3_code_25 (4) rfl ?_
  refine ishr hG d_prog_19_method_3_code_26 ?_
  refine bipush hG d_prog_19_method_3_code_27 (15) rfl ?_
  refine iand hG d_prog_19_method_3_code_29 ?_
  have V324 : Arv Z h318 dg kd .char (16 : Int32) (ints digs) (.int 0) := (V317.other W319 ne302)
  refine caload hG d_prog_19_method_3_code_30 V324 (and15 (x2 >>> ((4 : Int32) &&& 31))) (v := (.int (dig ((x2 >>> ((4 : Int32) &&& 31)) &&& (15 : Int32))))) (ints_at' _) ?_
  refine castore hG d_prog_19_method_3_code_31 V322 ⟨by decide, by decide⟩ (i := 4) rfl (Nat.le_of_ble_eq_true rfl) (List.mem_of_getElem? (i := 0) rfl) (fun h325 W326 V327 => ?_)
  rw [(dig_nar _)] at V327
  have V329 : Arv Z h325 a285 kk286 .char (6 : Int32) [(.int (dig ((x0 >>> ((4 : Int32) &&& 31)) &&& (15 : Int32)))), (.int (dig (x0 &&& (15 : Int32)))), (.int (dig ((x1 >>> ((4 : Int32) &&& 31)) &&& (15 : Int32)))), (.int (dig (x1 &&& (15 : Int32)))), (.int (dig ((x2 >>> ((4 : Int32) &&& 31)) &&& (15 : Int32)))), (.int (0 : Int32))] (.int 0) := V327
  refine aloadN hG d_prog_19_method_3_code_32 rfl rfl ?_
  refine iconst hG d_prog_19_method_3_code_33 (2) rfl ?_
  refine iloadN hG d_prog_19_method_3_code_34 rfl ?_
  refine imul hG d_prog_19_method_3_code_35 ?_
  show G [a285] h325 (1) (6) 36 #[.val (.ref b), .val (.ref a285), .val (.int (2 : Int32))] [(.int (4 : Int32)), (.ref a285)]
  refine iconst hG d_prog_19_method_3_code_36 (1) rfl ?_
  refine iadd hG d_prog_19_method_3_code_37 ?_
  show G [a285] h325 (1) (6) 38 #[.val (.ref b), .val (.ref a285), .val (.int (2 : Int32))] [(.int (5 : Int32)), (.ref a285)]
  refine getstatic hG d_prog_19_method_3_code_38 (w38 hw) Via.refl hX.2.2.1 ?_
  refine aloadN hG d_prog_19_method_3_code_41 rfl rfl ?_
  refine iloadN hG d_prog_19_method_3_code_42 rfl ?_
  have V330 : Arv Z h325 b kb .byte (3 : Int32) [(.int x0), (.int x1), (.int x2)] (.int 0) := (V323.other W326 ne298)
  refine baload hG d_prog_19_method_3_code_43 V330 ⟨by decide, by decide⟩ (v := (.int x2)) rfl ?_
  refine bipush hG d_prog_19_method_3_code_44 (15) rfl ?_
  refine iand hG d_prog_19_method_3_code_46 ?_
  have V331 : Arv Z h325 dg kd .char (16 : Int32) (ints digs) (.int 0) := (V324.other W326 ne302)
  refine caload hG d_prog_19_method_3_code_47 V331 (and15 x2) (v := (.int (dig (x2 &&& (15 : Int32))))) (ints_at' _) ?_
  refine castore hG d_prog_19_method_3_code_48 V329 ⟨by decide, by decide⟩ (i := 5) rfl (Nat.le_of_ble_eq_true rfl) (List.mem_of_getElem? (i := 0) rfl) (fun h332 W333 V334 => ?_)
  rw [(dig_nar _)] at V334
  have V336 : Arv Z h332 a285 kk286 .char (6 : Int32) [(.int (dig ((x0 >>> ((4 : Int32) &&& 31)) &&& (15 : Int32)))), (.int (dig (x0 &&& (15 : Int32)))), (.int (dig ((x1 >>> ((4 : Int32) &&& 31)) &&& (15 : Int32)))), (.int (dig (x1 &&& (15 : Int32)))), (.int (dig ((x2 >>> ((4 : Int32) &&& 31)) &&& (15 : Int32)))), (.int (dig (x2 &&& (15 : Int32))))] (.int 0) := V334
  refine iinc hG d_prog_19_method_3_code_49 rfl (3) rfl rfl ?_
  refine goto hG d_prog_19_method_3_code_52 (by decide) (pc' := 9) rfl ?_
  refine iloadN hG d_prog_19_method_3_code_9 rfl ?_
  refine aloadN hG d_prog_19_method_3_code_10 rfl rfl ?_
  have V337 : Arv Z h332 b kb .byte (3 : Int32) [(.int x0), (.int x1), (.int x2)] (.int 0) := (V330.other W333 ne298)
  refine alen hG d_prog_19_method_3_code_11 V337 ?_
  refine icmpYes hG d_prog_19_method_3_code_12 (by decide) (by decide) (pc' := 55) rfl ?_
  refine new hG d_prog_19_method_3_code_55 (w7 hw) (w8 hw) (w9 hw) (Nat.le_of_ble_eq_true rfl) (Nat.le_of_ble_eq_true rfl) (fun h338 a339 g340 E341 X342 D343 => ?_)
  show G [a339, a285] h338 (2) (10) 58 #[.val (.ref b), .val (.ref a285), .val (.int (3 : Int32))] [(.ref a339)]
  refine dup hG d_prog_19_method_3_code_58 rfl ?_
  refine aloadN hG d_prog_19_method_3_code_59 rfl rfl ?_
  have F344 : Fld Z h338 a339 "java/lang/String" "value" "[B" .null := D343 (Or.inr (w21 hw)) pf__B
  have F345 : Fld Z h338 a339 "java/lang/String" "coder" "B" (.int (0 : Int32)) := D343 (Or.inr (w22 hw)) pf_B
  have V346 : Arv Z h338 a285 kk286 .char (6 : Int32) [(.int (dig ((x0 >>> ((4 : Int32) &&& 31)) &&& (15 : Int32)))), (.int (dig (x0 &&& (15 : Int32)))), (.int (dig ((x1 >>> ((4 : Int32) &&& 31)) &&& (15 : Int32)))), (.int (dig (x1 &&& (15 : Int32)))), (.int (dig ((x2 >>> ((4 : Int32) &&& 31)) &&& (15 : Int32)))), (.int (dig (x2 &&& (15 : Int32))))] (.int 0) := (V336.ext E341)
  refine callInit hG d_prog_19_method_3_code_60 rfl (w10 hw) (w11 hw) (w9 hw) (w12 hw) (by decide) (m_initC1 hC (a339) (a285) (kk286) ((6 : Int32)) ([(dig ((x0 >>> ((4 : Int32) &&& 31)) &&& (15 : Int32))), (dig (x0 &&& (15 : Int32))), (dig ((x1 >>> ((4 : Int32) &&& 31)) &&& (15 : Int32))), (dig (x1 &&& (15 : Int32))), (dig ((x2 >>> ((4 : Int32) &&& 31)) &&& (15 : Int32))), (dig (x2 &&& (15 : Int32)))]) h338 X342 F344 F345 V346 rfl (by first | exact Nat.le_of_ble_eq_true rfl | (simp; done) | (simp; omega)) (forallS (dig_lat _) (forallS (dig_lat _) (forallS (dig_lat _) (forallS (dig_lat _) (forallS (dig_lat _) (forallS (dig_lat _) (fun _ q => nomatch q))))))) (by decide)) pd_9 rfl (rest := [(.ref a339)]) rfl rfl (allS (List.mem_of_getElem? (i := 0) rfl) all0) (Nat.le_of_ble_eq_true rfl) (W := 1) (Nat.le_of_ble_eq_true rfl) (Nat.le_of_ble_eq_true rfl) (Nat.le_of_ble_eq_true rfl) (Nat.le_of_ble_eq_true rfl) (fun v347 M348 h349 le350 hq351 => ?_)
  obtain ⟨t352, kt353, rfl, rfl, K354, g355, f356, f357, f358, f359⟩ := hq351
  show G [t352, a339, a285] h349 (3) (42) 63 #[.val (.ref b), .val (.ref a285), .val (.int (3 : Int32))] [(.ref a339)]
  have V360 : Arv Z h349 t352 kt353 .byte (6 : Int32) [(.int (nar .byte (dig ((x0 >>> ((4 : Int32) &&& 31)) &&& (15 : Int32))))), (.int (nar .byte (dig (x0 &&& (15 : Int32))))), (.int (nar .byte (dig ((x1 >>> ((4 : Int32) &&& 31)) &&& (15 : Int32))))), (.int (nar .byte (dig (x1 &&& (15 : Int32))))), (.int (nar .byte (dig ((x2 >>> ((4 : Int32) &&& 31)) &&& (15 : Int32))))), (.int (nar .byte (dig (x2 &&& (15 : Int32)))))] (.int 0) := f359
  have K361 : Keep h h349 [] := ((((((((((Keep.refl _ _).ext E288).wr W294 (Or.inr g287)).wr W305 (Or.inr g287)).wr W312 (Or.inr g287)).wr W319 (Or.inr g287)).wr W326 (Or.inr g287)).wr W333 (Or.inr g287)).ext E341).trans K354 (allS (Or.inr (Nat.le_trans (Nat.le_trans (Nat.le_trans (Nat.le_trans (Nat.le_trans (Nat.le_trans (Nat.le_trans E288.1 (Nat.le_of_eq (Wr.size W294).symm)) (Nat.le_of_eq (Wr.size W305).symm)) (Nat.le_of_eq (Wr.size W312).symm)) (Nat.le_of_eq (Wr.size W319).symm)) (Nat.le_of_eq (Wr.size W326).symm)) (Nat.le_of_eq (Wr.size W333).symm)) g340)) all0))
  exact areturn hG rfl rfl rfl d_prog_19_method_3_code_63 (M' := []) ⟨a339, t352, kt353, rfl, rfl, K361, (Nat.le_trans (Nat.le_trans (Nat.le_trans (Nat.le_trans (Nat.le_trans (Nat.le_trans (Nat.le_trans E288.1 (Nat.le_of_eq (Wr.size W294).symm)) (Nat.le_of_eq (Wr.size W305).symm)) (Nat.le_of_eq (Wr.size W312).symm)) (Nat.le_of_eq (Wr.size W319).symm)) (Nat.le_of_eq (Wr.size W326).symm)) (Nat.le_of_eq (Wr.size W333).symm)) g340), f356, f357, f358, V360⟩ all0 (Nat.le_of_ble_eq_true rfl) (Nat.le_of_ble_eq_true rfl)
def Q_fmt4 (Z : State) (g0 : Int32) (gf : Value) (dg : Addr) (kd : ClassId) (b : Addr) (kb : ClassId) (x0 : Int32) (x1 : Int32) (x2 : Int32) (x3 : Int32) (h : Heap) : QT := fun v' M9 h9 => ∃ (s : Addr), ∃ (t : Addr), ∃ (kt : ClassId), v' = some (.ref s) ∧ M9 = [] ∧ Keep h h9 [] ∧ h.size ≤ s ∧ Exa Z h9 s "java/lang/String" ∧ Fld Z h9 s "java/lang/String" "coder" "B" (.int (0 : Int32)) ∧ Fld Z h9 s "java/lang/String" "value" "[B" (.ref t) ∧ Arv Z h9 t kt .byte (8 : Int32) [(.int (nar .byte (dig ((x0 >>> ((4 : Int32) &&& 31)) &&& (15 : Int32))))), (.int (nar .byte (dig (x0 &&& (15 : Int32))))), (.int (nar .byte (dig ((x1 >>> ((4 : Int32) &&& 31)) &&& (15 : Int32))))), (.int (nar .byte (dig (x1 &&& (15 : Int32))))), (.int (nar .byte (dig ((x2 >>> ((4 : Int32) &&& 31)) &&& (15 : Int32))))), (.int (nar .byte (dig (x2 &&& (15 : Int32))))), (.int (nar .byte (dig ((x3 >>> ((4 : Int32) &&& 31)) &&& (15 : Int32))))), (.int (nar .byte (dig (x3 &&& (15 : Int32)))))] (.int 0)
theorem ef_fmt4 (m : MethodId) (b : Addr) (kb : ClassId) (x0 : Int32) (x1 : Int32) (x2 : Int32) (x3 : Int32) : entryFrame m [(.ref b)].toArray 3 = mkF m 0 #[.val (.ref b), .unset, .unset] [] := by first | rfl | (simp [entryFrame, mkF, argsToLocals, Value.category]; done)
set_option maxRecDepth 65536 in
set_option maxHeartbeats 4000000 in
theorem m_fmt4 {l : Launch} {Z : State} {a0 : Array Value} {n0 : Nat} {g0 : Int32} {gf : Value} {dg : Addr} {kd : ClassId} (hC : Ctx l Z a0 n0 g0 gf dg kd) (b : Addr) (kb : ClassId) (x0 : Int32) (x1 : Int32) (x2 : Int32) (x3 : Int32) (h : Heap) (p0_arv : Arv Z h b kb .byte (4 : Int32) [(.int x0), (.int x1), (.int x2), (.int x3)] (.int 0)) :
    Met l Z EL0 n0 (⟨"ridgecard/Hex", "format", "([B)Ljava/lang/String;"⟩ : MethodName) prog_19_method_3_code 3 (some (.object "java/lang/String")) [] ({ frames := 4, cells := 3, slots := 44, locals := 66 } : Room) [(.ref b)] [] h (Q_fmt4 Z g0 gf dg kd b kb x0 x1 x2 x3 h) := by
  obtain ⟨hw, hS, hE, hK, hX⟩ := id hC
  refine Met.intro pl_12 (fun m => ef_fmt4 m b kb x0 x1 x2 x3) hE ?_
  intro G hG
  refine aloadN hG d_prog_19_method_3_code_0 rfl rfl ?_
  refine alen hG d_prog_19_method_3_code_1 p0_arv ?_
  refine iconst hG d_prog_19_method_3_code_2 (2) rfl ?_
  refine imul hG d_prog_19_method_3_code_3 ?_
  show G [] h (0) (0) 4 #[.val (.ref b), .unset, .unset] [(.int (8 : Int32))]
  refine newarray hG d_prog_19_method_3_code_4 rfl (w6 hw) (by decide) (cap := 8) (by decide) (by decide) (Nat.le_of_ble_eq_true rfl) (Nat.le_of_ble_eq_true rfl) (cnt := 8) (vs := [(.int (0 : Int32)), (.int (0 : Int32)), (.int (0 : Int32)), (.int (0 : Int32)), (.int (0 : Int32)), (.int (0 : Int32)), (.int (0 : Int32)), (.int (0 : Int32))]) rfl (fun h362 a363 kk364 g365 E366 V367 => ?_)
  show G [a363] h362 (1) (8) 6 #[.val (.ref b), .unset, .unset] [(.ref a363)]
  refine astoreN hG d_prog_19_method_3_code_6 rfl rfl ?_
  refine iconst hG d_prog_19_method_3_code_7 (0) rfl ?_
  refine istoreN hG d_prog_19_method_3_code_8 rfl ?_
  refine iloadN hG d_prog_19_method_3_code_9 rfl ?_
  refine aloadN hG d_prog_19_method_3_code_10 rfl rfl ?_
  have V368 : Arv Z h362 b kb .byte (4 : Int32) [(.int x0), (.int x1), (.int x2), (.int x3)] (.int 0) := (p0_arv.ext E366)
  refine alen hG d_prog_19_method_3_code_11 V368 ?_
  refine icmpNo hG d_prog_19_method_3_code_12 (by decide) ?_
  refine aloadN hG d_prog_19_method_3_code_15 rfl rfl ?_
  refine iconst hG d_prog_19_method_3_code_16 (2) rfl ?_
  refine iloadN hG d_prog_19_method_3_code_17 rfl ?_
  refine imul hG d_prog_19_method_3_code_18 ?_
  show G [a363] h362 (1) (8) 19 #[.val (.ref b), .val (.ref a363), .val (.int (0 : Int32))] [(.int (0 : Int32)), (.ref a363)]
  refine getstatic hG d_prog_19_method_3_code_19 (w38 hw) Via.refl hX.2.2.1 ?_
  refine aloadN hG d_prog_19_method_3_code_22 rfl rfl ?_
  refine iloadN hG d_prog_19_method_3_code_23 rfl ?_
  refine baload hG d_prog_19_method_3_code_24 V368 ⟨by decide, by decide⟩ (v := (.int x0)) rfl ?_
  refine iconst hG d_prog_19_method_3_code_25 (4) rfl ?_
  refine ishr hG d_prog_19_method_3_code_26 ?_
  refine bipush hG d_prog_19_method_3_code_27 (15) rfl ?_
  refine iand hG d_prog_19_method_3_code_29 ?_
  refine facts hG (fun O369 _ => ?_)
  have o370 : Arv Z h362 dg kd .char (16 : Int32) (ints digs) (.int 0) := hX.2.2.2.ext O369.2
  refine caload hG d_prog_19_method_3_code_30 o370 (and15 (x0 >>> ((4 : Int32) &&& 31))) (v := (.int (dig ((x0 >>> ((4 : Int32) &&& 31)) &&& (15 : Int32))))) (ints_at' _) ?_
  refine castore hG d_prog_19_method_3_code_31 V367 ⟨by decide, by decide⟩ (i := 0) rfl (Nat.le_of_ble_eq_true rfl) (List.mem_of_getElem? (i := 0) rfl) (fun h371 W372 V373 => ?_)
  rw [(dig_nar _)] at V373
  have V375 : Arv Z h371 a363 kk364 .char (8 : Int32) [(.int (dig ((x0 >>> ((4 : Int32) &&& 31)) &&& (15 : Int32)))), (.int (0 : Int32)), (.int (0 : Int32)), (.int (0 : Int32)), (.int (0 : Int32)), (.int (0 : Int32)), (.int (0 : Int32)), (.int (0 : Int32))] (.int 0) := V373
  refine aloadN hG d_prog_19_method_3_code_32 rfl rfl ?_
  refine iconst hG d_prog_19_method_3_code_33 (2) rfl ?_
  refine iloadN hG d_prog_19_method_3_code_34 rfl ?_
  refine imul hG d_prog_19_method_3_code_35 ?_
  show G [a363] h371 (1) (8) 36 #[.val (.ref b), .val (.ref a363), .val (.int (0 : Int32))] [(.int (0 : Int32)), (.ref a363)]
  refine iconst hG d_prog_19_method_3_code_36 (1) rfl ?_
  refine iadd hG d_prog_19_method_3_code_37 ?_
  show G [a363] h371 (1) (8) 38 #[.val (.ref b), .val (.ref a363), .val (.int (0 : Int32))] [(.int (1 : Int32)), (.ref a363)]
  refine getstatic hG d_prog_19_method_3_code_38 (w38 hw) Via.refl hX.2.2.1 ?_
  refine aloadN hG d_prog_19_method_3_code_41 rfl rfl ?_
  refine iloadN hG d_prog_19_method_3_code_42 rfl ?_
  have ne376 : b ≠ a363 := (Nat.ne_of_lt (Nat.lt_of_lt_of_le p0_arv.lt g365))
  have V377 : Arv Z h371 b kb .byte (4 : Int32) [(.int x0), (.int x1), (.int x2), (.int x3)] (.int 0) := (V368.other W372 ne376)
  refine baload hG d_prog_19_method_3_code_43 V377 ⟨by decide, by decide⟩ (v := (.int x0)) rfl ?_
  refine bipush hG d_prog_19_method_3_code_44 (15) rfl ?_
  refine iand hG d_prog_19_method_3_code_46 ?_
  refine facts hG (fun O378 m379 => ?_)
  have ne380 : dg ≠ a363 := (Nat.ne_of_lt (Nat.lt_of_lt_of_le (O378.1 ▸ hX.2.2.2.lt) (m379 _ (List.mem_of_getElem? (i := 0) rfl)).1))
  have V381 : Arv Z h371 dg kd .char (16 : Int32) (ints digs) (.int 0) := (o370.other W372 ne380)
  refine caload hG d_prog_19_method_3_code_47 V381 (and15 x0) (v := (.int (dig (x0 &&& (15 : Int32))))) (ints_at' _) ?_
  refine castore hG d_prog_19_method_3_code_48 V375 ⟨by decide, by decide⟩ (i := 1) rfl (Nat.le_of_ble_eq_true rfl) (List.mem_of_getElem? (i := 0) rfl) (fun h382 W383 V384 => ?_)
  rw [(dig_nar _)] at V384
  have V386 : Arv Z h382 a363 kk364 .char (8 : Int32) [(.int (dig ((x0 >>> ((4 : Int32) &&& 31)) &&& (15 : Int32)))), (.int (dig (x0 &&& (15 : Int32)))), (.int (0 : Int32)), (.int (0 : Int32)), (.int (0 : Int32)), (.int (0 : Int32)), (.int (0 : Int32)), (.int (0 : Int32))] (.int 0) := V384
  refine iinc hG d_prog_19_method_3_code_49 rfl (1) rfl rfl ?_
  refine goto hG d_prog_19_method_3_code_52 (by decide) (pc' := 9) rfl ?_
  refine iloadN hG d_prog_19_method_3_code_9 rfl ?_
  refine aloadN hG d_prog_19_method_3_code_10 rfl rfl ?_
  have V387 : Arv Z h382 b kb .byte (4 : Int32) [(.int x0), (.int x1), (.int x2), (.int x3)] (.int 0) := (V377.other W383 ne376)
  refine alen hG d_prog_19_method_3_code_11 V387 ?_
  refine icmpNo hG d_prog_19_method_3_code_12 (by decide) ?_
  refine aloadN hG d_prog_19_method_3_code_15 rfl rfl ?_
  refine iconst hG d_prog_19_method_3_code_16 (2) rfl ?_
  refine iloadN hG d_prog_19_method_3_code_17 rfl ?_
  refine imul hG d_prog_19_method_3_code_18 ?_
  show G [a363] h382 (1) (8) 19 #[.val (.ref b), .val (.ref a363), .val (.int (1 : Int32))] [(.int (2 : Int32)), (.ref a363)]
  refine getstatic hG d_prog_19_method_3_code_19 (w38 hw) Via.refl hX.2.2.1 ?_
  refine aloadN hG d_prog_19_method_3_code_22 rfl rfl ?_
  refine iloadN hG d_prog_19_method_3_code_23 rfl ?_
  refine baload hG d_prog_19_method_3_code_24 V387 ⟨by decide, by decide⟩ (v := (.int x1)) rfl ?_
  refine iconst hG d_prog_19_method_3_code_25 (4) rfl ?_
  refine ishr hG d_prog_19_method_3_code_26 ?_
  refine bipush hG d_prog_19_method_3_code_27 (15) rfl ?_
  refine iand hG d_prog_19_method_3_code_29 ?_
  have V388 : Arv Z h382 dg kd .char (16 : Int32) (ints digs) (.int 0) := (V381.other W383 ne380)
  refine caload hG d_prog_19_method_3_code_30 V388 (and15 (x1 >>> ((4 : Int32) &&& 31))) (v := (.int (dig ((x1 >>> ((4 : Int32) &&& 31)) &&& (15 : Int32))))) (ints_at' _) ?_
  refine castore hG d_prog_19_method_3_code_31 V386 ⟨by decide, by decide⟩ (i := 2) rfl (Nat.le_of_ble_eq_true rfl) (List.mem_of_getElem? (i := 0) rfl) (fun h389 W390 V391 => ?_)
  rw [(dig_nar _)] at V391
  have V393 : Arv Z h389 a363 kk364 .char (8 : Int32) [(.int (dig ((x0 >>> ((4 : Int32) &&& 31)) &&& (15 : Int32)))), (.int (dig (x0 &&& (15 : Int32)))), (.int (dig ((x1 >>> ((4 : Int32) &&& 31)) &&& (15 : Int32)))), (.int (0 : Int32)), (.int (0 : Int32)), (.int (0 : Int32)), (.int (0 : Int32)), (.int (0 : Int32))] (.int 0) := V391
  refine aloadN hG d_prog_19_method_3_code_32 rfl rfl ?_
  refine iconst hG d_prog_19_method_3_code_33 (2) rfl ?_
  refine iloadN hG d_prog_19_method_3_code_34 rfl ?_
  refine imul hG d_prog_19_method_3_code_35 ?_
  show G [a363] h389 (1) (8) 36 #[.val (.ref b), .val (.ref a363), .val (.int (1 : Int32))] [(.int (2 : Int32)), (.ref a363)]
  refine iconst hG d_prog_19_method_3_code_36 (1) rfl ?_
  refine iadd hG d_prog_19_method_3_code_37 ?_
  show G [a363] h389 (1) (8) 38 #[.val (.ref b), .val (.ref a363), .val (.int (1 : Int32))] [(.int (3 : Int32)), (.ref a363)]
  refine getstatic hG d_prog_19_method_3_code_38 (w38 hw) Via.refl hX.2.2.1 ?_
  refine aloadN hG d_prog_19_method_3_code_41 rfl rfl ?_
  refine iloadN hG d_prog_19_method_3_code_42 rfl ?_
  have V394 : Arv Z h389 b kb .byte (4 : Int32) [(.int x0), (.int x1), (.int x2), (.int x3)] (.int 0) := (V387.other W390 ne376)
  refine baload hG d_prog_19_method_3_code_43 V394 ⟨by decide, by decide⟩ (v := (.int x1)) rfl ?_
  refine bipush hG d_prog_19_method_3_code_44 (15) rfl ?_
  refine iand hG d_prog_19_method_3_code_46 ?_
  have V395 : Arv Z h389 dg kd .char (16 : Int32) (ints digs) (.int 0) := (V388.other W390 ne380)
  refine caload hG d_prog_19_method_3_code_47 V395 (and15 x1) (v := (.int (dig (x1 &&& (15 : Int32))))) (ints_at' _) ?_
  refine castore hG d_prog_19_method_3_code_48 V393 ⟨by decide, by decide⟩ (i := 3) rfl (Nat.le_of_ble_eq_true rfl) (List.mem_of_getElem? (i := 0) rfl) (fun h396 W397 V398 => ?_)
  rw [(dig_nar _)] at V398
  have V400 : Arv Z h396 a363 kk364 .char (8 : Int32) [(.int (dig ((x0 >>> ((4 : Int32) &&& 31)) &&& (15 : Int32)))), (.int (dig (x0 &&& (15 : Int32)))), (.int (dig ((x1 >>> ((4 : Int32) &&& 31)) &&& (15 : Int32)))), (.int (dig (x1 &&& (15 : Int32)))), (.int (0 : Int32)), (.int (0 : Int32)), (.int (0 : Int32)), (.int (0 : Int32))] (.int 0) := V398
  refine iinc hG d_prog_19_method_3_code_49 rfl (2) rfl rfl ?_
  refine goto hG d_prog_19_method_3_code_52 (by decide) (pc' := 9) rfl ?_
  refine iloadN hG d_prog_19_method_3_code_9 rfl ?_
  refine aloadN hG d_prog_19_method_3_code_10 rfl rfl ?_
  have V401 : Arv Z h396 b kb .byte (4 : Int32) [(.int x0), (.int x1), (.int x2), (.int x3)] (.int 0) := (V394.other W397 ne376)
  refine alen hG d_prog_19_method_3_code_11 V401 ?_
  refine icmpNo hG d_prog_19_method_3_code_12 (by decide) ?_
  refine aloadN hG d_prog_19_method_3_code_15 rfl rfl ?_
  refine iconst hG d_prog_19_method_3_code_16 (2) rfl ?_
  refine iloadN hG d_prog_19_method_3_code_17 rfl ?_
  refine imul hG d_prog_19_method_3_code_18 ?_
  show G [a363] h396 (1) (8) 19 #[.val (.ref b), .val (.ref a363), .val (.int (2 : Int32))] [(.int (4 : Int32)), (.ref a363)]
  refine getstatic hG d_prog_19_method_3_code_19 (w38 hw) Via.refl hX.2.2.1 ?_
  refine aloadN hG d_prog_19_method_3_code_22 rfl rfl ?_
  refine iloadN hG d_prog_19_method_3_code_23 rfl ?_
  refine baload hG d_prog_19_method_3_code_24 V401 ⟨by decide, by decide⟩ (v := (.int x2)) rfl ?_
  refine iconst hG d_prog_19_method_3_code_25 (4) rfl ?_
  refine ishr hG d_prog_19_method_3_code_26 ?_
  refine bipush hG d_prog_19_method_3_code_27 (15) rfl ?_
  refine iand hG d_prog_19_method_3_code_29 ?_
  have V402 : Arv Z h396 dg kd .char (16 : Int32) (ints digs) (.int 0) := (V395.other W397 ne380)
  refine caload hG d_prog_19_method_3_code_30 V402 (and15 (x2 >>> ((4 : Int32) &&& 31))) (v := (.int (dig ((x2 >>> ((4 : Int32) &&& 31)) &&& (15 : Int32))))) (ints_at' _) ?_
  refine castore hG d_prog_19_method_3_code_31 V400 ⟨by decide, by decide⟩ (i := 4) rfl (Nat.le_of_ble_eq_true rfl) (List.mem_of_getElem? (i := 0) rfl) (fun h403 W404 V405 => ?_)
  rw [(dig_nar _)] at V405
  have V407 : Arv Z h403 a363 kk364 .char (8 : Int32) [(.int (dig ((x0 >>> ((4 : Int32) &&& 31)) &&& (15 : Int32)))), (.int (dig (x0 &&& (15 : Int32)))), (.int (dig ((x1 >>> ((4 : Int32) &&& 31)) &&& (15 : Int32)))), (.int (dig (x1 &&& (15 : Int32)))), (.int (dig ((x2 >>> ((4 : Int32) &&& 31)) &&& (15 : Int32)))), (.int (0 : Int32)), (.int (0 : Int32)), (.int (0 : Int32))] (.int 0) := V405
  refine aloadN hG d_prog_19_method_3_code_32 rfl rfl ?_
  refine iconst hG d_prog_19_method_3_code_33 (2) rfl ?_
  refine iloadN hG d_prog_19_method_3_code_34 rfl ?_
  refine imul hG d_prog_19_method_3_code_35 ?_
  show G [a363] h403 (1) (8) 36 #[.val (.ref b), .val (.ref a363), .val (.int (2 : Int32))] [(.int (4 : Int32)), (.ref a363)]
  refine iconst hG d_prog_19_method_3_code_36 (1) rfl ?_
  refine iadd hG d_prog_19_method_3_code_37 ?_
  show G [a363] h403 (1) (8) 38 #[.val (.ref b), .val (.ref a363), .val (.int (2 : Int32))] [(.int (5 : Int32)), (.ref a363)]
  refine getstatic hG d_prog_19_method_3_code_38 (w38 hw) Via.refl hX.2.2.1 ?_
  refine aloadN hG d_prog_19_method_3_code_41 rfl rfl ?_
  refine iloadN hG d_prog_19_method_3_code_42 rfl ?_
  have V408 : Arv Z h403 b kb .byte (4 : Int32) [(.int x0), (.int x1), (.int x2), (.int x3)] (.int 0) := (V401.other W404 ne376)
  refine baload hG d_prog_19_method_3_code_43 V408 ⟨by decide, by decide⟩ (v := (.int x2)) rfl ?_
  refine bipush hG d_prog_19_method_3_code_44 (15) rfl ?_
  refine iand hG d_prog_19_method_3_code_46 ?_
  have V409 : Arv Z h403 dg kd .char (16 : Int32) (ints digs) (.int 0) := (V402.other W404 ne380)
  refine caload hG d_prog_19_method_3_code_47 V409 (and15 x2) (v := (.int (dig (x2 &&& (15 : Int32))))) (ints_at' _) ?_
  refine castore hG d_prog_19_method_3_code_48 V407 ⟨by decide, by decide⟩ (i := 5) rfl (Nat.le_of_ble_eq_true rfl) (List.mem_of_getElem? (i := 0) rfl) (fun h410 W411 V412 => ?_)
  rw [(dig_nar _)] at V412
  have V414 : Arv Z h410 a363 kk364 .char (8 : Int32) [(.int (dig ((x0 >>> ((4 : Int32) &&& 31)) &&& (15 : Int32)))), (.int (dig (x0 &&& (15 : Int32)))), (.int (dig ((x1 >>> ((4 : Int32) &&& 31)) &&& (15 : Int32)))), (.int (dig (x1 &&& (15 : Int32)))), (.int (dig ((x2 >>> ((4 : Int32) &&& 31)) &&& (15 : Int32)))), (.int (dig (x2 &&& (15 : Int32)))), (.int (0 : Int32)), (.int (0 : Int32))] (.int 0) := V412
  refine iinc hG d_prog_19_method_3_code_49 rfl (3) rfl rfl ?_
  refine goto hG d_prog_19_method_3_code_52 (by decide) (pc' := 9) rfl ?_
  refine iloadN hG d_prog_19_method_3_code_9 rfl ?_
  refine aloadN hG d_prog_19_method_3_code_10 rfl rfl ?_
  have V415 : Arv Z h410 b kb .byte (4 : Int32) [(.int x0), (.int x1), (.int x2), (.int x3)] (.int 0) := (V408.other W411 ne376)
  refine alen hG d_prog_19_method_3_code_11 V415 ?_
  refine icmpNo hG d_prog_19_method_3_code_12 (by decide) ?_
  refine aloadN hG d_prog_19_method_3_code_15 rfl rfl ?_
  refine iconst hG d_prog_19_method_3_code_16 (2) rfl ?_
  refine iloadN hG d_prog_19_method_3_code_17 rfl ?_
  refine imul hG d_prog_19_method_3_code_18 ?_
  show G [a363] h410 (1) (8) 19 #[.val (.ref b), .val (.ref a363), .val (.int (3 : Int32))] [(.int (6 : Int32)), (.ref a363)]
  refine getstatic hG d_prog_19_method_3_code_19 (w38 hw) Via.refl hX.2.2.1 ?_
  refine aloadN hG d_prog_19_method_3_code_22 rfl rfl ?_
  refine iloadN hG d_prog_19_method_3_code_23 rfl ?_
  refine baload hG d_prog_19_method_3_code_24 V415 ⟨by decide, by decide⟩ (v := (.int x3)) rfl ?_
  refine iconst hG d_prog_19_method_3_code_25 (4) rfl ?_
  refine ishr hG d_prog_19_method_3_code_26 ?_
  refine bipush hG d_prog_19_method_3_code_27 (15) rfl ?_
  refine iand hG d_prog_19_method_3_code_29 ?_
  have V416 : Arv Z h410 dg kd .char (16 : Int32) (ints digs) (.int 0) := (V409.other W411 ne380)
  refine caload hG d_prog_19_method_3_code_30 V416 (and15 (x3 >>> ((4 : Int32) &&& 31))) (v := (.int (dig ((x3 >>> ((4 : Int32) &&& 31)) &&& (15 : Int32))))) (ints_at' _) ?_
  refine castore hG d_prog_19_method_3_code_31 V414 ⟨by decide, by decide⟩ (i := 6) rfl (Nat.le_of_ble_eq_true rfl) (List.mem_of_getElem? (i := 0) rfl) (fun h417 W418 V419 => ?_)
  rw [(dig_nar _)] at V419
  have V421 : Arv Z h417 a363 kk364 .char (8 : Int32) [(.int (dig ((x0 >>> ((4 : Int32) &&& 31)) &&& (15 : Int32)))), (.int (dig (x0 &&& (15 : Int32)))), (.int (dig ((x1 >>> ((4 : Int32) &&& 31)) &&& (15 : Int32)))), (.int (dig (x1 &&& (15 : Int32)))), (.int (dig ((x2 >>> ((4 : Int32) &&& 31)) &&& (15 : Int32)))), (.int (dig (x2 &&& (15 : Int32)))), (.int (dig ((x3 >>> ((4 : Int32) &&& 31)) &&& (15 : Int32)))), (.int (0 : Int32))] (.int 0) := V419
  refine aloadN hG d_prog_19_method_3_code_32 rfl rfl ?_
  refine iconst hG d_prog_19_method_3_code_33 (2) rfl ?_
  refine iloadN hG d_prog_19_method_3_code_34 rfl ?_
  refine imul hG d_prog_19_method_3_code_35 ?_
  show G [a363] h417 (1) (8) 36 #[.val (.ref b), .val (.ref a363), .val (.int (3 : Int32))] [(.int (6 : Int32)), (.ref a363)]
  refine iconst hG d_prog_19_method_3_code_36 (1) rfl ?_
  refine iadd hG d_prog_19_method_3_code_37 ?_
  show G [a363] h417 (1) (8) 38 #[.val (.ref b), .val (.ref a363), .val (.int (3 : Int32))] [(.int (7 : Int32)), (.ref a363)]
  refine getstatic hG d_prog_19_method_3_code_38 (w38 hw) Via.refl hX.2.2.1 ?_
  refine aloadN hG d_prog_19_method_3_code_41 rfl rfl ?_
  refine iloadN hG d_prog_19_method_3_code_42 rfl ?_
  have V422 : Arv Z h417 b kb .byte (4 : Int32) [(.int x0), (.int x1), (.int x2), (.int x3)] (.int 0) := (V415.other W418 ne376)
  refine baload hG d_prog_19_method_3_code_43 V422 ⟨by decide, by decide⟩ (v := (.int x3)) rfl ?_
  refine bipush hG d_prog_19_method_3_code_44 (15) rfl ?_
  refine iand hG d_prog_19_method_3_code_46 ?_
  have V423 : Arv Z h417 dg kd .char (16 : Int32) (ints digs) (.int 0) := (V416.other W418 ne380)
  refine caload hG d_prog_19_method_3_code_47 V423 (and15 x3) (v := (.int (dig (x3 &&& (15 : Int32))))) (ints_at' _) ?_
  refine castore hG d_prog_19_method_3_code_48 V421 ⟨by decide, by decide⟩ (i := 7) rfl (Nat.le_of_ble_eq_true rfl) (List.mem_of_getElem? (i := 0) rfl) (fun h424 W425 V426 => ?_)
  rw [(dig_nar _)] at V426
  have V428 : Arv Z h424 a363 kk364 .char (8 : Int32) [(.int (dig ((x0 >>> ((4 : Int32) &&& 31)) &&& (15 : Int32)))), (.int (dig (x0 &&& (15 : Int32)))), (.int (dig ((x1 >>> ((4 : Int32) &&& 31)) &&& (15 : Int32)))), (.int (dig (x1 &&& (15 : Int32)))), (.int (dig ((x2 >>> ((4 : Int32) &&& 31)) &&& (15 : Int32)))), (.int (dig (x2 &&& (15 : Int32)))), (.int (dig ((x3 >>> ((4 : Int32) &&& 31)) &&& (15 : Int32)))), (.int (dig (x3 &&& (15 : Int32))))] (.int 0) := V426
  refine iinc hG d_prog_19_method_3_code_49 rfl (4) rfl rfl ?_
  refine goto hG d_prog_19_method_3_code_52 (by decide) (pc' := 9) rfl ?_
  refine iloadN hG d_prog_19_method_3_code_9 rfl ?_
  refine aloadN hG d_prog_19_method_3_code_10 rfl rfl ?_
  have V429 : Arv Z h424 b kb .byte (4 : Int32) [(.int x0), (.int x1), (.int x2), (.int x3)] (.int 0) := (V422.other W425 ne376)
  refine alen hG d_prog_19_method_3_code_11 V429 ?_
  refine icmpYes hG d_prog_19_method_3_code_12 (by decide) (by decide) (pc' := 55) rfl ?_
  refine new hG d_prog_19_method_3_code_55 (w7 hw) (w8 hw) (w9 hw) (Nat.le_of_ble_eq_true rfl) (Nat.le_of_ble_eq_true rfl) (fun h430 a431 g432 E433 X434 D435 => ?_)
  show G [a431, a363] h430 (2) (12) 58 #[.val (.ref b), .val (.ref a363), .val (.int (4 : Int32))] [(.ref a431)]
  refine dup hG d_prog_19_method_3_code_58 rfl ?_
  refine aloadN hG d_prog_19_method_3_code_59 rfl rfl ?_
  have F436 : Fld Z h430 a431 "java/lang/String" "value" "[B" .null := D435 (Or.inr (w21 hw)) pf__B
  have F437 : Fld Z h430 a431 "java/lang/String" "coder" "B" (.int (0 : Int32)) := D435 (Or.inr (w22 hw)) pf_B
  have V438 : Arv Z h430 a363 kk364 .char (8 : Int32) [(.int (dig ((x0 >>> ((4 : Int32) &&& 31)) &&& (15 : Int32)))), (.int (dig (x0 &&& (15 : Int32)))), (.int (dig ((x1 >>> ((4 : Int32) &&& 31)) &&& (15 : Int32)))), (.int (dig (x1 &&& (15 : Int32)))), (.int (dig ((x2 >>> ((4 : Int32) &&& 31)) &&& (15 : Int32)))), (.int (dig (x2 &&& (15 : Int32)))), (.int (dig ((x3 >>> ((4 : Int32) &&& 31)) &&& (15 : Int32)))), (.int (dig (x3 &&& (15 : Int32))))] (.int 0) := (V428.ext E433)
  refine callInit hG d_prog_19_method_3_code_60 rfl (w10 hw) (w11 hw) (w9 hw) (w12 hw) (by decide) (m_initC1 hC (a431) (a363) (kk364) ((8 : Int32)) ([(dig ((x0 >>> ((4 : Int32) &&& 31)) &&& (15 : Int32))), (dig (x0 &&& (15 : Int32))), (dig ((x1 >>> ((4 : Int32) &&& 31)) &&& (15 : Int32))), (dig (x1 &&& (15 : Int32))), (dig ((x2 >>> ((4 : Int32) &&& 31)) &&& (15 : Int32))), (dig (x2 &&& (15 : Int32))), (dig ((x3 >>> ((4 : Int32) &&& 31)) &&& (15 : Int32))), (dig (x3 &&& (15 : Int32)))]) h430 X434 F436 F437 V438 rfl (by first | exact Nat.le_of_ble_eq_true rfl | (simp; done) | (simp; omega)) (forallS (dig_lat _) (forallS (dig_lat _) (forallS (dig_lat _) (forallS (dig_lat _) (forallS (dig_lat _) (forallS (dig_lat _) (forallS (dig_lat _) (forallS (dig_lat _) (fun _ q => nomatch q))))))))) (by decide)) pd_9 rfl (rest := [(.ref a431)]) rfl rfl (allS (List.mem_of_getElem? (i := 0) rfl) all0) (Nat.le_of_ble_eq_true rfl) (W := 1) (Nat.le_of_ble_eq_true rfl) (Nat.le_of_ble_eq_true rfl) (Nat.le_of_ble_eq_true rfl) (Nat.le_of_ble_eq_true rfl) (fun v439 M440 h441 le442 hq443 => ?_)
  obtain ⟨t444, kt445, rfl, rfl, K446, g447, f448, f449, f450, f451⟩ := hq443
  show G [t444, a431, a363] h441 (3) (44) 63 #[.val (.ref b), .val (.ref a363), .val (.int (4 : Int32))] [(.ref a431)]
  have V452 : Arv Z h441 t444 kt445 .byte (8 : Int32) [(.int (nar .byte (dig ((x0 >>> ((4 : Int32) &&& 31)) &&& (15 : Int32))))), (.int (nar .byte (dig (x0 &&& (15 : Int32))))), (.int (nar .byte (dig ((x1 >>> ((4 : Int32) &&& 31)) &&& (15 : Int32))))), (.int (nar .byte (dig (x1 &&& (15 : Int32))))), (.int (nar .byte (dig ((x2 >>> ((4 : Int32) &&& 31)) &&& (15 : Int32))))), (.int (nar .byte (dig (x2 &&& (15 : Int32))))), (.int (nar .byte (dig ((x3 >>> ((4 : Int32) &&& 31)) &&& (15 : Int32))))), (.int (nar .byte (dig (x3 &&& (15 : Int32)))))] (.int 0) := f451
  have K453 : Keep h h441 [] := ((((((((((((Keep.refl _ _).ext E366).wr W372 (Or.inr g365)).wr W383 (Or.inr g365)).wr W390 (Or.inr g365)).wr W397 (Or.inr g365)).wr W404 (Or.inr g365)).wr W411 (Or.inr g365)).wr W418 (Or.inr g365)).wr W425 (Or.inr g365)).ext E433).trans K446 (allS (Or.inr (Nat.le_trans (Nat.le_trans (Nat.le_trans (Nat.le_trans (Nat.le_trans (Nat.le_trans (Nat.le_trans (Nat.le_trans (Nat.le_trans E366.1 (Nat.le_of_eq (Wr.size W372).symm)) (Nat.le_of_eq (Wr.size W383).symm)) (Nat.le_of_eq (Wr.size W390).symm)) (Nat.le_of_eq (Wr.size W397).symm)) (Nat.le_of_eq (Wr.size W404).symm)) (Nat.le_of_eq (Wr.size W411).symm)) (Nat.le_of_eq (Wr.size W418).symm)) (Nat.le_of_eq (Wr.size W425).symm)) g432)) all0))
  exact areturn hG rfl rfl rfl d_prog_19_method_3_code_63 (M' := []) ⟨a431, t444, kt445, rfl, rfl, K453, (Nat.le_trans (Nat.le_trans (Nat.le_trans (Nat.le_trans (Nat.le_trans (Nat.le_trans (Nat.le_trans (Nat.le_trans (Nat.le_trans E366.1 (Nat.le_of_eq (Wr.size W372).symm)) (Nat.le_of_eq (Wr.size W383).symm)) (Nat.le_of_eq (Wr.size W390).symm)) (Nat.le_of_eq (Wr.size W397).symm)) (Nat.le_of_eq (Wr.size W404).symm)) (Nat.le_of_eq (Wr.size W411).symm)) (Nat.le_of_eq (Wr.size W418).symm)) (Nat.le_of_eq (Wr.size W425).symm)) g432), f448, f449, f450, V452⟩ all0 (Nat.le_of_ble_eq_true rfl) (Nat.le_of_ble_eq_true rfl)
def Q_digit (Z : State) (g0 : Int32) (gf : Value) (dg : Addr) (kd : ClassId) (v : Int32) (h : Heap) : QT := fun v' M9 h9 => v' = some (.int (digv v)) ∧ M9 = [] ∧ h = h9
theorem ef_digit (m : MethodId) (v : Int32) : entryFrame m [(.int v)].toArray 1 = mkF m 0 #[.val (.int v)] [] := by first | rfl | (simp [entryFrame, mkF, argsToLocals, Value.category]; done)
set_option maxRecDepth 65536 in
set_option maxHeartbeats 4000000 in
theorem m_digit {l : Launch} {Z : State} {a0 : Array Value} {n0 : Nat} {g0 : Int32} {gf : Value} {dg : Addr} {kd : ClassId} (hC : Ctx l Z a0 n0 g0 gf dg kd) (v : Int32) (h : Heap) :
    Met l Z EL0 n0 (⟨"ridgecard/HexFormatPinLaw", "digit", "(I)C"⟩ : MethodName) method_3_code 1 (some .char) [] ({ frames := 0, cells := 0, slots := 0, locals := 0 } : Room) [(.int v)] [] h (Q_digit Z g0 gf dg kd v h) := by
  obtain ⟨hw, hS, hE, hK, hX⟩ := id hC
  refine Met.intro pl_13 (fun m => ef_digit m v) hE ?_
  intro G hG
  refine iloadN hG d_method_3_code_0 rfl ?_
  refine bipush hG d_method_3_code_1 (10) rfl ?_
  refine icmp_ge hG d_method_3_code_3 (by decide) (pc' := 12) rfl (fun q454 => ?_) (fun q454 => ?_)
  · skip
    refine bipush hG d_method_3_code_12 (65) rfl ?_
    refine iloadN hG d_method_3_code_14 rfl ?_
    refine bipush hG d_method_3_code_15 (10) rfl ?_
    refine isub hG d_method_3_code_17 ?_
    refine iadd hG d_method_3_code_18 ?_
    refine i2c hG d_method_3_code_19 ?_
    exact ireturnN hG (by simp) d_method_3_code_20 (M' := []) ⟨(by rw [digv, if_neg q454]), rfl, rfl⟩ all0 (Nat.le_of_ble_eq_true rfl) (Nat.le_of_ble_eq_true rfl)
  · skip
    refine bipush hG d_method_3_code_6 (48) rfl ?_
    refine iloadN hG d_method_3_code_8 rfl ?_
    refine iadd hG d_method_3_code_9 ?_
    refine i2c hG d_method_3_code_10 ?_
    exact ireturnN hG (by simp) d_method_3_code_11 (M' := []) ⟨(by rw [digv, if_pos q454]), rfl, rfl⟩ all0 (Nat.le_of_ble_eq_true rfl) (Nat.le_of_ble_eq_true rfl)
def Q_pair0 (Z : State) (g0 : Int32) (gf : Value) (dg : Addr) (kd : ClassId) (a : Addr) (ta : Addr) (ka : ClassId) (Na : Int32) (xs : List Int32) (b : Int32) (h : Heap) : QT := fun v' M9 h9 => v' = some (.int (1 : Int32)) ∧ M9 = [] ∧ h = h9
theorem ef_pair0 (m : MethodId) (a : Addr) (ta : Addr) (ka : ClassId) (Na : Int32) (xs : List Int32) (b : Int32) : entryFrame m [(.ref a), (.int (0 : Int32)), (.int b)].toArray 4 = mkF m 0 #[.val (.ref a), .val (.int (0 : Int32)), .val (.int b), .unset] [] := by first | rfl | (simp [entryFrame, mkF, argsToLocals, Value.category]; done)
set_option maxRecDepth 65536 in
set_option maxHeartbeats 4000000 in
theorem m_pair0 {l : Launch} {Z : State} {a0 : Array Value} {n0 : Nat} {g0 : Int32} {gf : Value} {dg : Addr} {kd : ClassId} (hC : Ctx l Z a0 n0 g0 gf dg kd) (a : Addr) (ta : Addr) (ka : ClassId) (Na : Int32) (xs : List Int32) (b : Int32) (h : Heap) (p0_exa : Exa Z h a "java/lang/String") (p1_fld : Fld Z h a "java/lang/String" "coder" "B" (.int (0 : Int32))) (p2_fld : Fld Z h a "java/lang/String" "value" "[B" (.ref ta)) (p3_arv : Arv Z h ta ka .byte Na (ints xs) (.int 0)) (hin0 : ¬ (0 : Int32) < 0 ∧ (0 : Int32) < Na) (hin1 : ¬ (1 : Int32) < 0 ∧ (1 : Int32) < Na) (hp0 : chr8 (xs.getD (0 : Int32).toNatClampNeg 0) = digv ((b &&& (255 : Int32)) / (16 : Int32))) (hp1 : chr8 (xs.getD (1 : Int32).toNatClampNeg 0) = digv ((b &&& (255 : Int32)) % (16 : Int32))) :
    Met l Z EL0 n0 (⟨"ridgecard/HexFormatPinLaw", "pair", "(Ljava/lang/String;II)Z"⟩ : MethodName) method_4_code 4 (some .boolean) [] ({ frames := 4, cells := 0, slots := 0, locals := 53 } : Room) [(.ref a), (.int (0 : Int32)), (.int b)] [] h (Q_pair0 Z g0 gf dg kd a ta ka Na xs b h) := by
  obtain ⟨hw, hS, hE, hK, hX⟩ := id hC
  refine Met.intro pl_14 (fun m => ef_pair0 m a ta ka Na xs b) hE ?_
  intro G hG
  refine iloadN hG d_method_4_code_0 rfl ?_
  refine sipush hG d_method_4_code_1 (255) rfl ?_
  refine iand hG d_method_4_code_4 ?_
  refine istoreN hG d_method_4_code_5 rfl ?_
  refine aloadN hG d_method_4_code_6 rfl rfl ?_
  refine iconst hG d_method_4_code_7 (2) rfl ?_
  refine iloadN hG d_method_4_code_8 rfl ?_
  refine imul hG d_method_4_code_9 ?_
  show G [] h (0) (0) 10 #[.val (.ref a), .val (.int (0 : Int32)), .val (.int b), .val (.int (b &&& (255 : Int32)))] [(.int (0 : Int32)), (.ref a)]
  refine callVirtual hG d_method_4_code_10 p0_exa (w54 hw) (w55 hw) (fun _ hz => notFace_of_selects (args := #[]) (mvT hz (w57 hw))) (w57 hw) (w56 hw) (w9 hw) (w58 hw) (by decide) (m_cha hC (a) (ta) (ka) (Na) (xs) ((0 : Int32)) h p0_exa p1_fld p2_fld p3_arv hin0) pd_10 rfl (rest := []) rfl rfl all0 (Nat.le_of_ble_eq_true rfl) (W := 0) (Nat.le_of_ble_eq_true rfl) (Nat.le_of_ble_eq_true rfl) (Nat.le_of_ble_eq_true rfl) (Nat.le_of_ble_eq_true rfl) (fun v455 M456 h457 le458 hq459 => ?_)
  obtain ⟨rfl, rfl, rfl⟩ := hq459
  show G [] h (0) (0) 13 #[.val (.ref a), .val (.int (0 : Int32)), .val (.int b), .val (.int (b &&& (255 : Int32)))] [(.int (chr8 (xs.getD (0 : Int32).toNatClampNeg 0)))]
  refine iloadN hG d_method_4_code_13 rfl ?_
  refine bipush hG d_method_4_code_14 (16) rfl ?_
  refine idiv hG d_method_4_code_16 (by decide) ?_
  refine callStatic hG d_method_4_code_17 (w76 hw) (w77 hw) (w52 hw) (w78 hw) (by decide) (m_digit hC (((b &&& (255 : Int32)) / (16 : Int32))) h) pd_10 rfl (rest := [(.int (chr8 (xs.getD (0 : Int32).toNatClampNeg 0)))]) rfl rfl all0 (Nat.le_of_ble_eq_true rfl) (W := 1) (Nat.le_of_ble_eq_true rfl) (Nat.le_of_ble_eq_true rfl) (Nat.le_of_ble_eq_true rfl) (Nat.le_of_ble_eq_true rfl) (fun v460 M461 h462 le463 hq464 => ?_)
  obtain ⟨rfl, rfl, rfl⟩ := hq464
  show G [] h (0) (0) 20 #[.val (.ref a), .val (.int (0 : Int32)), .val (.int b), .val (.int (b &&& (255 : Int32)))] [(.int (digv ((b &&& (255 : Int32)) / (16 : Int32)))), (.int (chr8 (xs.getD (0 : Int32).toNatClampNeg 0)))]
  refine icmpNo hG d_method_4_code_20 (teq hp0).2 ?_
  refine aloadN hG d_method_4_code_23 rfl rfl ?_
  refine iconst hG d_method_4_code_24 (2) rfl ?_
  refine iloadN hG d_method_4_code_25 rfl ?_
  refine imul hG d_method_4_code_26 ?_
  show G [] h (0) (0) 27 #[.val (.ref a), .val (.int (0 : Int32)), .val (.int b), .val (.int (b &&& (255 : Int32)))] [(.int (0 : Int32)), (.ref a)]
  refine iconst hG d_method_4_code_27 (1) rfl ?_
  refine iadd hG d_method_4_code_28 ?_
  show G [] h (0) (0) 29 #[.val (.ref a), .val (.int (0 : Int32)), .val (.int b), .val (.int (b &&& (255 : Int32)))] [(.int (1 : Int32)), (.ref a)]
  refine callVirtual hG d_method_4_code_29 p0_exa (w54 hw) (w55 hw) (fun _ hz => notFace_of_selects (args := #[]) (mvT hz (w57 hw))) (w57 hw) (w56 hw) (w9 hw) (w58 hw) (by decide) (m_cha hC (a) (ta) (ka) (Na) (xs) ((1 : Int32)) h p0_exa p1_fld p2_fld p3_arv hin1) pd_10 rfl (rest := []) rfl rfl all0 (Nat.le_of_ble_eq_true rfl) (W := 0) (Nat.le_of_ble_eq_true rfl) (Nat.le_of_ble_eq_true rfl) (Nat.le_of_ble_eq_true rfl) (Nat.le_of_ble_eq_true rfl) (fun v465 M466 h467 le468 hq469 => ?_)
  obtain ⟨rfl, rfl, rfl⟩ := hq469
  show G [] h (0) (0) 32 #[.val (.ref a), .val (.int (0 : Int32)), .val (.int b), .val (.int (b &&& (255 : Int32)))] [(.int (chr8 (xs.getD (1 : Int32).toNatClampNeg 0)))]
  refine iloadN hG d_method_4_code_32 rfl ?_
  refine bipush hG d_method_4_code_33 (16) rfl ?_
  refine irem hG d_method_4_code_35 (by decide) ?_
  refine callStatic hG d_method_4_code_36 (w76 hw) (w77 hw) (w52 hw) (w78 hw) (by decide) (m_digit hC (((b &&& (255 : Int32)) % (16 : Int32))) h) pd_10 rfl (rest := [(.int (chr8 (xs.getD (1 : Int32).toNatClampNeg 0)))]) rfl rfl all0 (Nat.le_of_ble_eq_true rfl) (W := 1) (Nat.le_of_ble_eq_true rfl) (Nat.le_of_ble_eq_true rfl) (Nat.le_of_ble_eq_true rfl) (Nat.le_of_ble_eq_true rfl) (fun v470 M471 h472 le473 hq474 => ?_)
  obtain ⟨rfl, rfl, rfl⟩ := hq474
  show G [] h (0) (0) 39 #[.val (.ref a), .val (.int (0 : Int32)), .val (.int b), .val (.int (b &&& (255 : Int32)))] [(.int (digv ((b &&& (255 : Int32)) % (16 : Int32)))), (.int (chr8 (xs.getD (1 : Int32).toNatClampNeg 0)))]
  refine icmpNo hG d_method_4_code_39 (teq hp1).2 ?_
  refine iconst hG d_method_4_code_42 (1) rfl ?_
  refine goto hG d_method_4_code_43 (by decide) (pc' := 47) rfl ?_
  exact ireturnN hG (by simp) d_method_4_code_47 (M' := []) ⟨rfl, rfl, rfl⟩ all0 (Nat.le_of_ble_eq_true rfl) (Nat.le_of_ble_eq_true rfl)
def Q_pair1 (Z : State) (g0 : Int32) (gf : Value) (dg : Addr) (kd : ClassId) (a : Addr) (ta : Addr) (ka : ClassId) (Na : Int32) (xs : List Int32) (b : Int32) (h : Heap) : QT := fun v' M9 h9 => v' = some (.int (1 : Int32)) ∧ M9 = [] ∧ h = h9
theorem ef_pair1 (m : MethodId) (a : Addr) (ta : Addr) (ka : ClassId) (Na : Int32) (xs : List Int32) (b : Int32) : entryFrame m [(.ref a), (.int (1 : Int32)), (.int b)].toArray 4 = mkF m 0 #[.val (.ref a), .val (.int (1 : Int32)), .val (.int b), .unset] [] := by first | rfl | (simp [entryFrame, mkF, argsToLocals, Value.category]; done)
set_option maxRecDepth 65536 in
set_option maxHeartbeats 4000000 in
theorem m_pair1 {l : Launch} {Z : State} {a0 : Array Value} {n0 : Nat} {g0 : Int32} {gf : Value} {dg : Addr} {kd : ClassId} (hC : Ctx l Z a0 n0 g0 gf dg kd) (a : Addr) (ta : Addr) (ka : ClassId) (Na : Int32) (xs : List Int32) (b : Int32) (h : Heap) (p0_exa : Exa Z h a "java/lang/String") (p1_fld : Fld Z h a "java/lang/String" "coder" "B" (.int (0 : Int32))) (p2_fld : Fld Z h a "java/lang/String" "value" "[B" (.ref ta)) (p3_arv : Arv Z h ta ka .byte Na (ints xs) (.int 0)) (hin0 : ¬ (2 : Int32) < 0 ∧ (2 : Int32) < Na) (hin1 : ¬ (3 : Int32) < 0 ∧ (3 : Int32) < Na) (hp0 : chr8 (xs.getD (2 : Int32).toNatClampNeg 0) = digv ((b &&& (255 : Int32)) / (16 : Int32))) (hp1 : chr8 (xs.getD (3 : Int32).toNatClampNeg 0) = digv ((b &&& (255 : Int32)) % (16 : Int32))) :
    Met l Z EL0 n0 (⟨"ridgecard/HexFormatPinLaw", "pair", "(Ljava/lang/String;II)Z"⟩ : MethodName) method_4_code 4 (some .boolean) [] ({ frames := 4, cells := 0, slots := 0, locals := 53 } : Room) [(.ref a), (.int (1 : Int32)), (.int b)] [] h (Q_pair1 Z g0 gf dg kd a ta ka Na xs b h) := by
  obtain ⟨hw, hS, hE, hK, hX⟩ := id hC
  refine Met.intro pl_14 (fun m => ef_pair1 m a ta ka Na xs b) hE ?_
  intro G hG
  refine iloadN hG d_method_4_code_0 rfl ?_
  refine sipush hG d_method_4_code_1 (255) rfl ?_
  refine iand hG d_method_4_code_4 ?_
  refine istoreN hG d_method_4_code_5 rfl ?_
  refine aloadN hG d_method_4_code_6 rfl rfl ?_
  refine iconst hG d_method_4_code_7 (2) rfl ?_
  refine iloadN hG d_method_4_code_8 rfl ?_
  refine imul hG d_method_4_code_9 ?_
  show G [] h (0) (0) 10 #[.val (.ref a), .val (.int (1 : Int32)), .val (.int b), .val (.int (b &&& (255 : Int32)))] [(.int (2 : Int32)), (.ref a)]
  refine callVirtual hG d_method_4_code_10 p0_exa (w54 hw) (w55 hw) (fun _ hz => notFace_of_selects (args := #[]) (mvT hz (w57 hw))) (w57 hw) (w56 hw) (w9 hw) (w58 hw) (by decide) (m_cha hC (a) (ta) (ka) (Na) (xs) ((2 : Int32)) h p0_exa p1_fld p2_fld p3_arv hin0) pd_10 rfl (rest := []) rfl rfl all0 (Nat.le_of_ble_eq_true rfl) (W := 0) (Nat.le_of_ble_eq_true rfl) (Nat.le_of_ble_eq_true rfl) (Nat.le_of_ble_eq_true rfl) (Nat.le_of_ble_eq_true rfl) (fun v475 M476 h477 le478 hq479 => ?_)
  obtain ⟨rfl, rfl, rfl⟩ := hq479
  show G [] h (0) (0) 13 #[.val (.ref a), .val (.int (1 : Int32)), .val (.int b), .val (.int (b &&& (255 : Int32)))] [(.int (chr8 (xs.getD (2 : Int32).toNatClampNeg 0)))]
  refine iloadN hG d_method_4_code_13 rfl ?_
  refine bipush hG d_method_4_code_14 (16) rfl ?_
  refine idiv hG d_method_4_code_16 (by decide) ?_
  refine callStatic hG d_method_4_code_17 (w76 hw) (w77 hw) (w52 hw) (w78 hw) (by decide) (m_digit hC (((b &&& (255 : Int32)) / (16 : Int32))) h) pd_10 rfl (rest := [(.int (chr8 (xs.getD (2 : Int32).toNatClampNeg 0)))]) rfl rfl all0 (Nat.le_of_ble_eq_true rfl) (W := 1) (Nat.le_of_ble_eq_true rfl) (Nat.le_of_ble_eq_true rfl) (Nat.le_of_ble_eq_true rfl) (Nat.le_of_ble_eq_true rfl) (fun v480 M481 h482 le483 hq484 => ?_)
  obtain ⟨rfl, rfl, rfl⟩ := hq484
  show G [] h (0) (0) 20 #[.val (.ref a), .val (.int (1 : Int32)), .val (.int b), .val (.int (b &&& (255 : Int32)))] [(.int (digv ((b &&& (255 : Int32)) / (16 : Int32)))), (.int (chr8 (xs.getD (2 : Int32).toNatClampNeg 0)))]
  refine icmpNo hG d_method_4_code_20 (teq hp0).2 ?_
  refine aloadN hG d_method_4_code_23 rfl rfl ?_
  refine iconst hG d_method_4_code_24 (2) rfl ?_
  refine iloadN hG d_method_4_code_25 rfl ?_
  refine imul hG d_method_4_code_26 ?_
  show G [] h (0) (0) 27 #[.val (.ref a), .val (.int (1 : Int32)), .val (.int b), .val (.int (b &&& (255 : Int32)))] [(.int (2 : Int32)), (.ref a)]
  refine iconst hG d_method_4_code_27 (1) rfl ?_
  refine iadd hG d_method_4_code_28 ?_
  show G [] h (0) (0) 29 #[.val (.ref a), .val (.int (1 : Int32)), .val (.int b), .val (.int (b &&& (255 : Int32)))] [(.int (3 : Int32)), (.ref a)]
  refine callVirtual hG d_method_4_code_29 p0_exa (w54 hw) (w55 hw) (fun _ hz => notFace_of_selects (args := #[]) (mvT hz (w57 hw))) (w57 hw) (w56 hw) (w9 hw) (w58 hw) (by decide) (m_cha hC (a) (ta) (ka) (Na) (xs) ((3 : Int32)) h p0_exa p1_fld p2_fld p3_arv hin1) pd_10 rfl (rest := []) rfl rfl all0 (Nat.le_of_ble_eq_true rfl) (W := 0) (Nat.le_of_ble_eq_true rfl) (Nat.le_of_ble_eq_true rfl) (Nat.le_of_ble_eq_true rfl) (Nat.le_of_ble_eq_true rfl) (fun v485 M486 h487 le488 hq489 => ?_)
  obtain ⟨rfl, rfl, rfl⟩ := hq489
  show G [] h (0) (0) 32 #[.val (.ref a), .val (.int (1 : Int32)), .val (.int b), .val (.int (b &&& (255 : Int32)))] [(.int (chr8 (xs.getD (3 : Int32).toNatClampNeg 0)))]
  refine iloadN hG d_method_4_code_32 rfl ?_
  refine bipush hG d_method_4_code_33 (16) rfl ?_
  refine irem hG d_method_4_code_35 (by decide) ?_
  refine callStatic hG d_method_4_code_36 (w76 hw) (w77 hw) (w52 hw) (w78 hw) (by decide) (m_digit hC (((b &&& (255 : Int32)) % (16 : Int32))) h) pd_10 rfl (rest := [(.int (chr8 (xs.getD (3 : Int32).toNatClampNeg 0)))]) rfl rfl all0 (Nat.le_of_ble_eq_true rfl) (W := 1) (Nat.le_of_ble_eq_true rfl) (Nat.le_of_ble_eq_true rfl) (Nat.le_of_ble_eq_true rfl) (Nat.le_of_ble_eq_true rfl) (fun v490 M491 h492 le493 hq494 => ?_)
  obtain ⟨rfl, rfl, rfl⟩ := hq494
  show G [] h (0) (0) 39 #[.val (.ref a), .val (.int (1 : Int32)), .val (.int b), .val (.int (b &&& (255 : Int32)))] [(.int (digv ((b &&& (255 : Int32)) % (16 : Int32)))), (.int (chr8 (xs.getD (3 : Int32).toNatClampNeg 0)))]
  refine icmpNo hG d_method_4_code_39 (teq hp1).2 ?_
  refine iconst hG d_method_4_code_42 (1) rfl ?_
  refine goto hG d_method_4_code_43 (by decide) (pc' := 47) rfl ?_
  exact ireturnN hG (by simp) d_method_4_code_47 (M' := []) ⟨rfl, rfl, rfl⟩ all0 (Nat.le_of_ble_eq_true rfl) (Nat.le_of_ble_eq_true rfl)
def Q_pair2 (Z : State) (g0 : Int32) (gf : Value) (dg : Addr) (kd : ClassId) (a : Addr) (ta : Addr) (ka : ClassId) (Na : Int32) (xs : List Int32) (b : Int32) (h : Heap) : QT := fun v' M9 h9 => v' = some (.int (1 : Int32)) ∧ M9 = [] ∧ h = h9
theorem ef_pair2 (m : MethodId) (a : Addr) (ta : Addr) (ka : ClassId) (Na : Int32) (xs : List Int32) (b : Int32) : entryFrame m [(.ref a), (.int (2 : Int32)), (.int b)].toArray 4 = mkF m 0 #[.val (.ref a), .val (.int (2 : Int32)), .val (.int b), .unset] [] := by first | rfl | (simp [entryFrame, mkF, argsToLocals, Value.category]; done)
set_option maxRecDepth 65536 in
set_option maxHeartbeats 4000000 in
theorem m_pair2 {l : Launch} {Z : State} {a0 : Array Value} {n0 : Nat} {g0 : Int32} {gf : Value} {dg : Addr} {kd : ClassId} (hC : Ctx l Z a0 n0 g0 gf dg kd) (a : Addr) (ta : Addr) (ka : ClassId) (Na : Int32) (xs : List Int32) (b : Int32) (h : Heap) (p0_exa : Exa Z h a "java/lang/String") (p1_fld : Fld Z h a "java/lang/String" "coder" "B" (.int (0 : Int32))) (p2_fld : Fld Z h a "java/lang/String" "value" "[B" (.ref ta)) (p3_arv : Arv Z h ta ka .byte Na (ints xs) (.int 0)) (hin0 : ¬ (4 : Int32) < 0 ∧ (4 : Int32) < Na) (hin1 : ¬ (5 : Int32) < 0 ∧ (5 : Int32) < Na) (hp0 : chr8 (xs.getD (4 : Int32).toNatClampNeg 0) = digv ((b &&& (255 : Int32)) / (16 : Int32))) (hp1 : chr8 (xs.getD (5 : Int32).toNatClampNeg 0) = digv ((b &&& (255 : Int32)) % (16 : Int32))) :
    Met l Z EL0 n0 (⟨"ridgecard/HexFormatPinLaw", "pair", "(Ljava/lang/String;II)Z"⟩ : MethodName) method_4_code 4 (some .boolean) [] ({ frames := 4, cells := 0, slots := 0, locals := 53 } : Room) [(.ref a), (.int (2 : Int32)), (.int b)] [] h (Q_pair2 Z g0 gf dg kd a ta ka Na xs b h) := by
  obtain ⟨hw, hS, hE, hK, hX⟩ := id hC
  refine Met.intro pl_14 (fun m => ef_pair2 m a ta ka Na xs b) hE ?_
  intro G hG
  refine iloadN hG d_method_4_code_0 rfl ?_
  refine sipush hG d_method_4_code_1 (255) rfl ?_
  refine iand hG d_method_4_code_4 ?_
  refine istoreN hG d_method_4_code_5 rfl ?_
  refine aloadN hG d_method_4_code_6 rfl rfl ?_
  refine iconst hG d_method_4_code_7 (2) rfl ?_
  refine iloadN hG d_method_4_code_8 rfl ?_
  refine imul hG d_method_4_code_9 ?_
  show G [] h (0) (0) 10 #[.val (.ref a), .val (.int (2 : Int32)), .val (.int b), .val (.int (b &&& (255 : Int32)))] [(.int (4 : Int32)), (.ref a)]
  refine callVirtual hG d_method_4_code_10 p0_exa (w54 hw) (w55 hw) (fun _ hz => notFace_of_selects (args := #[]) (mvT hz (w57 hw))) (w57 hw) (w56 hw) (w9 hw) (w58 hw) (by decide) (m_cha hC (a) (ta) (ka) (Na) (xs) ((4 : Int32)) h p0_exa p1_fld p2_fld p3_arv hin0) pd_10 rfl (rest := []) rfl rfl all0 (Nat.le_of_ble_eq_true rfl) (W := 0) (Nat.le_of_ble_eq_true rfl) (Nat.le_of_ble_eq_true rfl) (Nat.le_of_ble_eq_true rfl) (Nat.le_of_ble_eq_true rfl) (fun v495 M496 h497 le498 hq499 => ?_)
  obtain ⟨rfl, rfl, rfl⟩ := hq499
  show G [] h (0) (0) 13 #[.val (.ref a), .val (.int (2 : Int32)), .val (.int b), .val (.int (b &&& (255 : Int32)))] [(.int (chr8 (xs.getD (4 : Int32).toNatClampNeg 0)))]
  refine iloadN hG d_method_4_code_13 rfl ?_
  refine bipush hG d_method_4_code_14 (16) rfl ?_
  refine idiv hG d_method_4_code_16 (by decide) ?_
  refine callStatic hG d_method_4_code_17 (w76 hw) (w77 hw) (w52 hw) (w78 hw) (by decide) (m_digit hC (((b &&& (255 : Int32)) / (16 : Int32))) h) pd_10 rfl (rest := [(.int (chr8 (xs.getD (4 : Int32).toNatClampNeg 0)))]) rfl rfl all0 (Nat.le_of_ble_eq_true rfl) (W := 1) (Nat.le_of_ble_eq_true rfl) (Nat.le_of_ble_eq_true rfl) (Nat.le_of_ble_eq_true rfl) (Nat.le_of_ble_eq_true rfl) (fun v500 M501 h502 le503 hq504 => ?_)
  obtain ⟨rfl, rfl, rfl⟩ := hq504
  show G [] h (0) (0) 20 #[.val (.ref a), .val (.int (2 : Int32)), .val (.int b), .val (.int (b &&& (255 : Int32)))] [(.int (digv ((b &&& (255 : Int32)) / (16 : Int32)))), (.int (chr8 (xs.getD (4 : Int32).toNatClampNeg 0)))]
  refine icmpNo hG d_method_4_code_20 (teq hp0).2 ?_
  refine aloadN hG d_method_4_code_23 rfl rfl ?_
  refine iconst hG d_method_4_code_24 (2) rfl ?_
  refine iloadN hG d_method_4_code_25 rfl ?_
  refine imul hG d_method_4_code_26 ?_
  show G [] h (0) (0) 27 #[.val (.ref a), .val (.int (2 : Int32)), .val (.int b), .val (.int (b &&& (255 : Int32)))] [(.int (4 : Int32)), (.ref a)]
  refine iconst hG d_method_4_code_27 (1) rfl ?_
  refine iadd hG d_method_4_code_28 ?_
  show G [] h (0) (0) 29 #[.val (.ref a), .val (.int (2 : Int32)), .val (.int b), .val (.int (b &&& (255 : Int32)))] [(.int (5 : Int32)), (.ref a)]
  refine callVirtual hG d_method_4_code_29 p0_exa (w54 hw) (w55 hw) (fun _ hz => notFace_of_selects (args := #[]) (mvT hz (w57 hw))) (w57 hw) (w56 hw) (w9 hw) (w58 hw) (by decide) (m_cha hC (a) (ta) (ka) (Na) (xs) ((5 : Int32)) h p0_exa p1_fld p2_fld p3_arv hin1) pd_10 rfl (rest := []) rfl rfl all0 (Nat.le_of_ble_eq_true rfl) (W := 0) (Nat.le_of_ble_eq_true rfl) (Nat.le_of_ble_eq_true rfl) (Nat.le_of_ble_eq_true rfl) (Nat.le_of_ble_eq_true rfl) (fun v505 M506 h507 le508 hq509 => ?_)
  obtain ⟨rfl, rfl, rfl⟩ := hq509
  show G [] h (0) (0) 32 #[.val (.ref a), .val (.int (2 : Int32)), .val (.int b), .val (.int (b &&& (255 : Int32)))] [(.int (chr8 (xs.getD (5 : Int32).toNatClampNeg 0)))]
  refine iloadN hG d_method_4_code_32 rfl ?_
  refine bipush hG d_method_4_code_33 (16) rfl ?_
  refine irem hG d_method_4_code_35 (by decide) ?_
  refine callStatic hG d_method_4_code_36 (w76 hw) (w77 hw) (w52 hw) (w78 hw) (by decide) (m_digit hC (((b &&& (255 : Int32)) % (16 : Int32))) h) pd_10 rfl (rest := [(.int (chr8 (xs.getD (5 : Int32).toNatClampNeg 0)))]) rfl rfl all0 (Nat.le_of_ble_eq_true rfl) (W := 1) (Nat.le_of_ble_eq_true rfl) (Nat.le_of_ble_eq_true rfl) (Nat.le_of_ble_eq_true rfl) (Nat.le_of_ble_eq_true rfl) (fun v510 M511 h512 le513 hq514 => ?_)
  obtain ⟨rfl, rfl, rfl⟩ := hq514
  show G [] h (0) (0) 39 #[.val (.ref a), .val (.int (2 : Int32)), .val (.int b), .val (.int (b &&& (255 : Int32)))] [(.int (digv ((b &&& (255 : Int32)) % (16 : Int32)))), (.int (chr8 (xs.getD (5 : Int32).toNatClampNeg 0)))]
  refine icmpNo hG d_method_4_code_39 (teq hp1).2 ?_
  refine iconst hG d_method_4_code_42 (1) rfl ?_
  refine goto hG d_method_4_code_43 (by decide) (pc' := 47) rfl ?_
  exact ireturnN hG (by simp) d_method_4_code_47 (M' := []) ⟨rfl, rfl, rfl⟩ all0 (Nat.le_of_ble_eq_true rfl) (Nat.le_of_ble_eq_true rfl)
def Q_pair3 (Z : State) (g0 : Int32) (gf : Value) (dg : Addr) (kd : ClassId) (a : Addr) (ta : Addr) (ka : ClassId) (Na : Int32) (xs : List Int32) (b : Int32) (h : Heap) : QT := fun v' M9 h9 => v' = some (.int (1 : Int32)) ∧ M9 = [] ∧ h = h9
theorem ef_pair3 (m : MethodId) (a : Addr) (ta : Addr) (ka : ClassId) (Na : Int32) (xs : List Int32) (b : Int32) : entryFrame m [(.ref a), (.int (3 : Int32)), (.int b)].toArray 4 = mkF m 0 #[.val (.ref a), .val (.int (3 : Int32)), .val (.int b), .unset] [] := by first | rfl | (simp [entryFrame, mkF, argsToLocals, Value.category]; done)
set_option maxRecDepth 65536 in
set_option maxHeartbeats 4000000 in
theorem m_pair3 {l : Launch} {Z : State} {a0 : Array Value} {n0 : Nat} {g0 : Int32} {gf : Value} {dg : Addr} {kd : ClassId} (hC : Ctx l Z a0 n0 g0 gf dg kd) (a : Addr) (ta : Addr) (ka : ClassId) (Na : Int32) (xs : List Int32) (b : Int32) (h : Heap) (p0_exa : Exa Z h a "java/lang/String") (p1_fld : Fld Z h a "java/lang/String" "coder" "B" (.int (0 : Int32))) (p2_fld : Fld Z h a "java/lang/String" "value" "[B" (.ref ta)) (p3_arv : Arv Z h ta ka .byte Na (ints xs) (.int 0)) (hin0 : ¬ (6 : Int32) < 0 ∧ (6 : Int32) < Na) (hin1 : ¬ (7 : Int32) < 0 ∧ (7 : Int32) < Na) (hp0 : chr8 (xs.getD (6 : Int32).toNatClampNeg 0) = digv ((b &&& (255 : Int32)) / (16 : Int32))) (hp1 : chr8 (xs.getD (7 : Int32).toNatClampNeg 0) = digv ((b &&& (255 : Int32)) % (16 : Int32))) :
    Met l Z EL0 n0 (⟨"ridgecard/HexFormatPinLaw", "pair", "(Ljava/lang/String;II)Z"⟩ : MethodName) method_4_code 4 (some .boolean) [] ({ frames := 4, cells := 0, slots := 0, locals := 53 } : Room) [(.ref a), (.int (3 : Int32)), (.int b)] [] h (Q_pair3 Z g0 gf dg kd a ta ka Na xs b h) := by
  obtain ⟨hw, hS, hE, hK, hX⟩ := id hC
  refine Met.intro pl_14 (fun m => ef_pair3 m a ta ka Na xs b) hE ?_
  intro G hG
  refine iloadN hG d_method_4_code_0 rfl ?_
  refine sipush hG d_method_4_code_1 (255) rfl ?_
  refine iand hG d_method_4_code_4 ?_
  refine istoreN hG d_method_4_code_5 rfl ?_
  refine aloadN hG d_method_4_code_6 rfl rfl ?_
  refine iconst hG d_method_4_code_7 (2) rfl ?_
  refine iloadN hG d_method_4_code_8 rfl ?_
  refine imul hG d_method_4_code_9 ?_
  show G [] h (0) (0) 10 #[.val (.ref a), .val (.int (3 : Int32)), .val (.int b), .val (.int (b &&& (255 : Int32)))] [(.int (6 : Int32)), (.ref a)]
  refine callVirtual hG d_method_4_code_10 p0_exa (w54 hw) (w55 hw) (fun _ hz => notFace_of_selects (args := #[]) (mvT hz (w57 hw))) (w57 hw) (w56 hw) (w9 hw) (w58 hw) (by decide) (m_cha hC (a) (ta) (ka) (Na) (xs) ((6 : Int32)) h p0_exa p1_fld p2_fld p3_arv hin0) pd_10 rfl (rest := []) rfl rfl all0 (Nat.le_of_ble_eq_true rfl) (W := 0) (Nat.le_of_ble_eq_true rfl) (Nat.le_of_ble_eq_true rfl) (Nat.le_of_ble_eq_true rfl) (Nat.le_of_ble_eq_true rfl) (fun v515 M516 h517 le518 hq519 => ?_)
  obtain ⟨rfl, rfl, rfl⟩ := hq519
  show G [] h (0) (0) 13 #[.val (.ref a), .val (.int (3 : Int32)), .val (.int b), .val (.int (b &&& (255 : Int32)))] [(.int (chr8 (xs.getD (6 : Int32).toNatClampNeg 0)))]
  refine iloadN hG d_method_4_code_13 rfl ?_
  refine bipush hG d_method_4_code_14 (16) rfl ?_
  refine idiv hG d_method_4_code_16 (by decide) ?_
  refine callStatic hG d_method_4_code_17 (w76 hw) (w77 hw) (w52 hw) (w78 hw) (by decide) (m_digit hC (((b &&& (255 : Int32)) / (16 : Int32))) h) pd_10 rfl (rest := [(.int (chr8 (xs.getD (6 : Int32).toNatClampNeg 0)))]) rfl rfl all0 (Nat.le_of_ble_eq_true rfl) (W := 1) (Nat.le_of_ble_eq_true rfl) (Nat.le_of_ble_eq_true rfl) (Nat.le_of_ble_eq_true rfl) (Nat.le_of_ble_eq_true rfl) (fun v520 M521 h522 le523 hq524 => ?_)
  obtain ⟨rfl, rfl, rfl⟩ := hq524
  show G [] h (0) (0) 20 #[.val (.ref a), .val (.int (3 : Int32)), .val (.int b), .val (.int (b &&& (255 : Int32)))] [(.int (digv ((b &&& (255 : Int32)) / (16 : Int32)))), (.int (chr8 (xs.getD (6 : Int32).toNatClampNeg 0)))]
  refine icmpNo hG d_method_4_code_20 (teq hp0).2 ?_
  refine aloadN hG d_method_4_code_23 rfl rfl ?_
  refine iconst hG d_method_4_code_24 (2) rfl ?_
  refine iloadN hG d_method_4_code_25 rfl ?_
  refine imul hG d_method_4_code_26 ?_
  show G [] h (0) (0) 27 #[.val (.ref a), .val (.int (3 : Int32)), .val (.int b), .val (.int (b &&& (255 : Int32)))] [(.int (6 : Int32)), (.ref a)]
  refine iconst hG d_method_4_code_27 (1) rfl ?_
  refine iadd hG d_method_4_code_28 ?_
  show G [] h (0) (0) 29 #[.val (.ref a), .val (.int (3 : Int32)), .val (.int b), .val (.int (b &&& (255 : Int32)))] [(.int (7 : Int32)), (.ref a)]
  refine callVirtual hG d_method_4_code_29 p0_exa (w54 hw) (w55 hw) (fun _ hz => notFace_of_selects (args := #[]) (mvT hz (w57 hw))) (w57 hw) (w56 hw) (w9 hw) (w58 hw) (by decide) (m_cha hC (a) (ta) (ka) (Na) (xs) ((7 : Int32)) h p0_exa p1_fld p2_fld p3_arv hin1) pd_10 rfl (rest := []) rfl rfl all0 (Nat.le_of_ble_eq_true rfl) (W := 0) (Nat.le_of_ble_eq_true rfl) (Nat.le_of_ble_eq_true rfl) (Nat.le_of_ble_eq_true rfl) (Nat.le_of_ble_eq_true rfl) (fun v525 M526 h527 le528 hq529 => ?_)
  obtain ⟨rfl, rfl, rfl⟩ := hq529
  show G [] h (0) (0) 32 #[.val (.ref a), .val (.int (3 : Int32)), .val (.int b), .val (.int (b &&& (255 : Int32)))] [(.int (chr8 (xs.getD (7 : Int32).toNatClampNeg 0)))]
  refine iloadN hG d_method_4_code_32 rfl ?_
  refine bipush hG d_method_4_code_33 (16) rfl ?_
  refine irem hG d_method_4_code_35 (by decide) ?_
  refine callStatic hG d_method_4_code_36 (w76 hw) (w77 hw) (w52 hw) (w78 hw) (by decide) (m_digit hC (((b &&& (255 : Int32)) % (16 : Int32))) h) pd_10 rfl (rest := [(.int (chr8 (xs.getD (7 : Int32).toNatClampNeg 0)))]) rfl rfl all0 (Nat.le_of_ble_eq_true rfl) (W := 1) (Nat.le_of_ble_eq_true rfl) (Nat.le_of_ble_eq_true rfl) (Nat.le_of_ble_eq_true rfl) (Nat.le_of_ble_eq_true rfl) (fun v530 M531 h532 le533 hq534 => ?_)
  obtain ⟨rfl, rfl, rfl⟩ := hq534
  show G [] h (0) (0) 39 #[.val (.ref a), .val (.int (3 : Int32)), .val (.int b), .val (.int (b &&& (255 : Int32)))] [(.int (digv ((b &&& (255 : Int32)) % (16 : Int32)))), (.int (chr8 (xs.getD (7 : Int32).toNatClampNeg 0)))]
  refine icmpNo hG d_method_4_code_39 (teq hp1).2 ?_
  refine iconst hG d_method_4_code_42 (1) rfl ?_
  refine goto hG d_method_4_code_43 (by decide) (pc' := 47) rfl ?_
  exact ireturnN hG (by simp) d_method_4_code_47 (M' := []) ⟨rfl, rfl, rfl⟩ all0 (Nat.le_of_ble_eq_true rfl) (Nat.le_of_ble_eq_true rfl)
def Q_law (Z : State) (g0 : Int32) (gf : Value) (dg : Addr) (kd : ClassId) (p0 : Int32) (p1 : Int32) (p2 : Int32) (p3 : Int32) (p4 : Int32) (h : Heap) : QT := fun v' M9 h9 => v' = some (.int (1 : Int32)) ∧ M9 = [] ∧ Keep h h9 []
theorem ef_law (m : MethodId) (p0 : Int32) (p1 : Int32) (p2 : Int32) (p3 : Int32) (p4 : Int32) : entryFrame m [(.int p0), (.int p1), (.int p2), (.int p3), (.int p4)].toArray maxLocals = mkF m 0 #[.val (.int p0), .val (.int p1), .val (.int p2), .val (.int p3), .val (.int p4), .unset, .unset, .unset, .unset] [] := by first | rfl | (simp [entryFrame, mkF, argsToLocals, Value.category]; done)
set_option maxRecDepth 65536 in
set_option maxHeartbeats 4000000 in
theorem m_law {l : Launch} {Z : State} {a0 : Array Value} {n0 : Nat} {g0 : Int32} {gf : Value} {dg : Addr} {kd : ClassId} (hC : Ctx l Z a0 n0 g0 gf dg kd) (p0 : Int32) (p1 : Int32) (p2 : Int32) (p3 : Int32) (p4 : Int32) (h : Heap) :
    Met l Z EL0 n0 x code maxLocals ret tables_1 room_1 [(.int p0), (.int p1), (.int p2), (.int p3), (.int p4)] [] h (Q_law Z g0 gf dg kd p0 p1 p2 p3 p4 h) := by
  obtain ⟨hw, hS, hE, hK, hX⟩ := id hC
  refine Met.intro pl_15 (fun m => ef_law m p0 p1 p2 p3 p4) hE ?_
  intro G hG
  refine iloadN hG at_0 rfl ?_
  refine ldcInt hG at_1 (w0 hw) ?_
  refine iand hG at_3 ?_
  refine iconst hG at_4 (5) rfl ?_
  refine irem hG at_5 (by decide) ?_
  rcases own_mod5 p0 with q0 | q0 | q0 | q0 | q0
  · rw [q0]
    refine istore hG at_6 rfl ?_
    refine iload hG at_8 rfl ?_
    refine newarray hG at_10 rfl (w1 hw) (by decide) (cap := 0) (by decide) (by decide) (Nat.le_of_ble_eq_true rfl) (Nat.le_of_ble_eq_true rfl) (cnt := 0) (vs := []) rfl (fun h535 a536 kk537 g538 E539 V540 => ?_)
    show G [a536] h535 (1) (0) 12 #[.val (.int p0), .val (.int p1), .val (.int p2), .val (.int p3), .val (.int p4), .val (.int (0 : Int32)), .unset, .unset, .unset] [(.ref a536)]
    refine astore hG at_12 rfl rfl ?_
    refine iload hG at_14 rfl ?_
    refine ifYes hG at_16 (by decide) (by decide) (pc' := 25) rfl ?_
    refine iload hG at_25 rfl ?_
    refine iconst hG at_27 (1) rfl ?_
    refine icmpYes hG at_28 (by decide) (by decide) (pc' := 37) rfl ?_
    refine iload hG at_37 rfl ?_
    refine iconst hG at_39 (2) rfl ?_
    refine icmpYes hG at_40 (by decide) (by decide) (pc' := 49) rfl ?_
    refine iload hG at_49 rfl ?_
    refine iconst hG at_51 (3) rfl ?_
    refine icmpYes hG at_52 (by decide) (by decide) (pc' := 62) rfl ?_
    refine aload hG at_62 rfl rfl ?_
    refine callStatic hG at_64 (w2 hw) (w3 hw) (w4 hw) (w5 hw) (by decide) (m_fmt0 hC (a536) (kk537) h535 V540) pd_11 rfl (rest := []) rfl rfl all0 (Nat.le_of_ble_eq_true rfl) (W := 0) (Nat.le_of_ble_eq_true rfl) (Nat.le_of_ble_eq_true rfl) (Nat.le_of_ble_eq_true rfl) (Nat.le_of_ble_eq_true rfl) (fun v541 M542 h543 le544 hq545 => ?_)
    obtain ⟨s546, t547, kt548, rfl, rfl, K549, g550, f551, f552, f553, f554⟩ := hq545
    show G [a536] h543 (7) (12) 67 #[.val (.int p0), .val (.int p1), .val (.int p2), .val (.int p3), .val (.int p4), .val (.int (0 : Int32)), .val (.ref a536), .unset, .unset] [(.ref s546)]
    refine astore hG at_67 rfl rfl ?_
    refine aload hG at_69 rfl rfl ?_
    refine ifnullNo hG at_71 ?_
    refine aload hG at_74 rfl rfl ?_
    refine callVirtual hG at_76 f551 (w27 hw) (w28 hw) (fun _ hz => notFace_of_selects (args := #[]) (mvT hz (w30 hw))) (w30 hw) (w29 hw) (w9 hw) (w31 hw) (by decide) (m_len hC (s546) (t547) (kt548) ((0 : Int32)) ([]) h543 f551 f552 f553 f554) pd_12 rfl (rest := []) rfl rfl all0 (Nat.le_of_ble_eq_true rfl) (W := 0) (Nat.le_of_ble_eq_true rfl) (Nat.le_of_ble_eq_true rfl) (Nat.le_of_ble_eq_true rfl) (Nat.le_of_ble_eq_true rfl) (fun v555 M556 h557 le558 hq559 => ?_)
    obtain ⟨rfl, rfl, rfl⟩ := hq559
    show G [a536] h543 (7) (12) 79 #[.val (.int p0), .val (.int p1), .val (.int p2), .val (.int p3), .val (.int p4), .val (.int (0 : Int32)), .val (.ref a536), .val (.ref s546), .unset] [(.int (0 : Int32))]
    refine iconst hG at_79 (2) rfl ?_
    refine iload hG at_80 rfl ?_
    refine imul hG at_82 ?_
    show G [a536] h543 (7) (12) 83 #[.val (.int p0), .val (.int p1), .val (.int p2), .val (.int p3), .val (.int p4), .val (.int (0 : Int32)), .val (.ref a536), .val (.ref s546), .unset] [(.int (0 : Int32)), (.int (0 : Int32))]
    refine icmpYes hG at_83 (by decide) (by decide) (pc' := 88) rfl ?_
    refine iconst hG at_88 (1) rfl ?_
    refine istore hG at_89 rfl ?_
    refine iload hG at_91 rfl ?_
    refine ifYes hG at_93 (by decide) (by decide) (pc' := 118) rfl ?_
    refine iload hG at_118 rfl ?_
    refine iconst hG at_120 (1) rfl ?_
    refine icmpYes hG at_121 (by decide) (by decide) (pc' := 146) rfl ?_
    refine iload hG at_146 rfl ?_
    refine iconst hG at_148 (2) rfl ?_
    refine icmpYes hG at_149 (by decide) (by decide) (pc' := 174) rfl ?_
    refine iload hG at_174 rfl ?_
    refine iconst hG at_176 (3) rfl ?_
    refine icmpYes hG at_177 (by decide) (by decide) (pc' := 203) rfl ?_
    refine iload hG at_203 rfl ?_
    have K560 : Keep h h543 [] := (((Keep.refl _ _).ext E539).trans K549 all0)
    exact ireturnN hG (by simp) at_205 (M' := []) ⟨rfl, rfl, K560⟩ all0 (Nat.le_of_ble_eq_true rfl) (Nat.le_of_ble_eq_true rfl)
  · rw [q0]
    refine istore hG at_6 rfl ?_
    refine iload hG at_8 rfl ?_
    refine newarray hG at_10 rfl (w1 hw) (by decide) (cap := 1) (by decide) (by decide) (Nat.le_of_ble_eq_true rfl) (Nat.le_of_ble_eq_true rfl) (cnt := 1) (vs := [(.int (0 : Int32))]) rfl (fun h561 a562 kk563 g564 E565 V566 => ?_)
    show G [a562] h561 (1) (1) 12 #[.val (.int p0), .val (.int p1), .val (.int p2), .val (.int p3), .val (.int p4), .val (.int (1 : Int32)), .unset, .unset, .unset] [(.ref a562)]
    refine astore hG at_12 rfl rfl ?_
    refine iload hG at_14 rfl ?_
    refine ifNo hG at_16 (by decide) ?_
    refine aload hG at_19 rfl rfl ?_
    refine iconst hG at_21 (0) rfl ?_
    refine iloadN hG at_22 rfl ?_
    refine i2b hG at_23 ?_
    refine bastore hG at_24 V566 ⟨by decide, by decide⟩ (i := 0) rfl (Nat.le_of_ble_eq_true rfl) (List.mem_of_getElem? (i := 0) rfl) (fun h567 W568 V569 => ?_)
    rw [(byte_idem3 p1)] at V569
    have V571 : Arv Z h567 a562 kk563 .byte (1 : Int32) [(.int p1.toInt8.toInt32)] (.int 0) := V569
    refine iload hG at_25 rfl ?_
    refine iconst hG at_27 (1) rfl ?_
    refine icmpYes hG at_28 (by decide) (by decide) (pc' := 37) rfl ?_
    refine iload hG at_37 rfl ?_
    refine iconst hG at_39 (2) rfl ?_
    refine icmpYes hG at_40 (by decide) (by decide) (pc' := 49) rfl ?_
    refine iload hG at_49 rfl ?_
    refine iconst hG at_51 (3) rfl ?_
    refine icmpYes hG at_52 (by decide) (by decide) (pc' := 62) rfl ?_
    refine aload hG at_62 rfl rfl ?_
    refine callStatic hG at_64 (w2 hw) (w3 hw) (w4 hw) (w5 hw) (by decide) (m_fmt1 hC (a562) (kk563) (p1.toInt8.toInt32) h567 V571) pd_11 rfl (rest := []) rfl rfl all0 (Nat.le_of_ble_eq_true rfl) (W := 0) (Nat.le_of_ble_eq_true rfl) (Nat.le_of_ble_eq_true rfl) (Nat.le_of_ble_eq_true rfl) (Nat.le_of_ble_eq_true rfl) (fun v572 M573 h574 le575 hq576 => ?_)
    obtain ⟨s577, t578, kt579, rfl, rfl, K580, g581, f582, f583, f584, f585⟩ := hq576
    show G [a562] h574 (4) (39) 67 #[.val (.int p0), .val (.int p1), .val (.int p2), .val (.int p3), .val (.int p4), .val (.int (1 : Int32)), .val (.ref a562), .unset, .unset] [(.ref s577)]
    refine astore hG at_67 rfl rfl ?_
    refine aload hG at_69 rfl rfl ?_
    refine ifnullNo hG at_71 ?_
    refine aload hG at_74 rfl rfl ?_
    refine callVirtual hG at_76 f582 (w27 hw) (w28 hw) (fun _ hz => notFace_of_selects (args := #[]) (mvT hz (w30 hw))) (w30 hw) (w29 hw) (w9 hw) (w31 hw) (by decide) (m_len hC (s577) (t578) (kt579) ((2 : Int32)) ([(nar .byte (dig ((p1.toInt8.toInt32 >>> ((4 : Int32) &&& 31)) &&& (15 : Int32)))), (nar .byte (dig (p1.toInt8.toInt32 &&& (15 : Int32))))]) h574 f582 f583 f584 f585) pd_12 rfl (rest := []) rfl rfl all0 (Nat.le_of_ble_eq_true rfl) (W := 0) (Nat.le_of_ble_eq_true rfl) (Nat.le_of_ble_eq_true rfl) (Nat.le_of_ble_eq_true rfl) (Nat.le_of_ble_eq_true rfl) (fun v586 M587 h588 le589 hq590 => ?_)
    obtain ⟨rfl, rfl, rfl⟩ := hq590
    show G [a562] h574 (4) (39) 79 #[.val (.int p0), .val (.int p1), .val (.int p2), .val (.int p3), .val (.int p4), .val (.int (1 : Int32)), .val (.ref a562), .val (.ref s577), .unset] [(.int (2 : Int32))]
    refine iconst hG at_79 (2) rfl ?_
    refine iload hG at_80 rfl ?_
    refine imul hG at_82 ?_
    show G [a562] h574 (4) (39) 83 #[.val (.int p0), .val (.int p1), .val (.int p2), .val (.int p3), .val (.int p4), .val (.int (1 : Int32)), .val (.ref a562), .val (.ref s577), .unset] [(.int (2 : Int32)), (.int (2 : Int32))]
    refine icmpYes hG at_83 (by decide) (by decide) (pc' := 88) rfl ?_
    refine iconst hG at_88 (1) rfl ?_
    refine istore hG at_89 rfl ?_
    refine iload hG at_91 rfl ?_
    refine ifNo hG at_93 (by decide) ?_
    refine iload hG at_96 rfl ?_
    refine ifNo hG at_98 (by decide) ?_
    refine aload hG at_101 rfl rfl ?_
    refine iconst hG at_103 (0) rfl ?_
    refine iloadN hG at_104 rfl ?_
    refine callStatic hG at_105 (w50 hw) (w51 hw) (w52 hw) (w53 hw) (by decide) (m_pair0 hC (s577) (t578) (kt579) ((2 : Int32)) ([(nar .byte (dig ((p1.toInt8.toInt32 >>> ((4 : Int32) &&& 31)) &&& (15 : Int32)))), (nar .byte (dig (p1.toInt8.toInt32 &&& (15 : Int32))))]) (p1) h574 f582 f583 f584 f585 (by decide) (by decide) ((chr8_lo (dig_lat _)).trans (own_hi p1)) ((chr8_lo (dig_lat _)).trans (own_lo p1))) pd_13 rfl (rest := []) rfl rfl all0 (Nat.le_of_ble_eq_true rfl) (W := 0) (Nat.le_of_ble_eq_true rfl) (Nat.le_of_ble_eq_true rfl) (Nat.le_of_ble_eq_true rfl) (Nat.le_of_ble_eq_true rfl) (fun v591 M592 h593 le594 hq595 => ?_)
    obtain ⟨rfl, rfl, rfl⟩ := hq595
    show G [a562] h574 (4) (39) 108 #[.val (.int p0), .val (.int p1), .val (.int p2), .val (.int p3), .val (.int p4), .val (.int (1 : Int32)), .val (.ref a562), .val (.ref s577), .val (.int (1 : Int32))] [(.int (1 : Int32))]
    refine ifNo hG at_108 (by decide) ?_
    refine iconst hG at_111 (1) rfl ?_
    refine goto hG at_112 (by decide) (pc' := 116) rfl ?_
    refine istore hG at_116 rfl ?_
    refine iload hG at_118 rfl ?_
    refine iconst hG at_120 (1) rfl ?_
    refine icmpYes hG at_121 (by decide) (by decide) (pc' := 146) rfl ?_
    refine iload hG at_146 rfl ?_
    refine iconst hG at_148 (2) rfl ?_
    refine icmpYes hG at_149 (by decide) (by decide) (pc' := 174) rfl ?_
    refine iload hG at_174 rfl ?_
    refine iconst hG at_176 (3) rfl ?_
    refine icmpYes hG at_177 (by decide) (by decide) (pc' := 203) rfl ?_
    refine iload hG at_203 rfl ?_
    have K596 : Keep h h574 [] := ((((Keep.refl _ _).ext E565).wr W568 (Or.inr g564)).trans K580 all0)
    exact ireturnN hG (by simp) at_205 (M' := []) ⟨rfl, rfl, K596⟩ all0 (Nat.le_of_ble_eq_true rfl) (Nat.le_of_ble_eq_true rfl)
  · rw [q0]
    refine istore hG at_6 rfl ?_
    refine iload hG at_8 rfl ?_
    refine newarray hG at_10 rfl (w1 hw) (by decide) (cap := 2) (by decide) (by decide) (Nat.le_of_ble_eq_true rfl) (Nat.le_of_ble_eq_true rfl) (cnt := 2) (vs := [(.int (0 : Int32)), (.int (0 : Int32))]) rfl (fun h597 a598 kk599 g600 E601 V602 => ?_)
    show G [a598] h597 (1) (2) 12 #[.val (.int p0), .val (.int p1), .val (.int p2), .val (.int p3), .val (.int p4), .val (.int (2 : Int32)), .unset, .unset, .unset] [(.ref a598)]
    refine astore hG at_12 rfl rfl ?_
    refine iload hG at_14 rfl ?_
    refine ifNo hG at_16 (by decide) ?_
    refine aload hG at_19 rfl rfl ?_
    refine iconst hG at_21 (0) rfl ?_
    refine iloadN hG at_22 rfl ?_
    refine i2b hG at_23 ?_
    refine bastore hG at_24 V602 ⟨by decide, by decide⟩ (i := 0) rfl (Nat.le_of_ble_eq_true rfl) (List.mem_of_getElem? (i := 0) rfl) (fun h603 W604 V605 => ?_)
    rw [(byte_idem3 p1)] at V605
    have V607 : Arv Z h603 a598 kk599 .byte (2 : Int32) [(.int p1.toInt8.toInt32), (.int (0 : Int32))] (.int 0) := V605
    refine iload hG at_25 rfl ?_
    refine iconst hG at_27 (1) rfl ?_
    refine icmpNo hG at_28 (by decide) ?_
    refine aload hG at_31 rfl rfl ?_
    refine iconst hG at_33 (1) rfl ?_
    refine iloadN hG at_34 rfl ?_
    refine i2b hG at_35 ?_
    refine bastore hG at_36 V607 ⟨by decide, by decide⟩ (i := 1) rfl (Nat.le_of_ble_eq_true rfl) (List.mem_of_getElem? (i := 0) rfl) (fun h608 W609 V610 => ?_)
    rw [(byte_idem3 p2)] at V610
    have V612 : Arv Z h608 a598 kk599 .byte (2 : Int32) [(.int p1.toInt8.toInt32), (.int p2.toInt8.toInt32)] (.int 0) := V610
    refine iload hG at_37 rfl ?_
    refine iconst hG at_39 (2) rfl ?_
    refine icmpYes hG at_40 (by decide) (by decide) (pc' := 49) rfl ?_
    refine iload hG at_49 rfl ?_
    refine iconst hG at_51 (3) rfl ?_
    refine icmpYes hG at_52 (by decide) (by decide) (pc' := 62) rfl ?_
    refine aload hG at_62 rfl rfl ?_
    refine callStatic hG at_64 (w2 hw) (w3 hw) (w4 hw) (w5 hw) (by decide) (m_fmt2 hC (a598) (kk599) (p1.toInt8.toInt32) (p2.toInt8.toInt32) h608 V612) pd_11 rfl (rest := []) rfl rfl all0 (Nat.le_of_ble_eq_true rfl) (W := 0) (Nat.le_of_ble_eq_true rfl) (Nat.le_of_ble_eq_true rfl) (Nat.le_of_ble_eq_true rfl) (Nat.le_of_ble_eq_true rfl) (fun v613 M614 h615 le616 hq617 => ?_)
    obtain ⟨s618, t619, kt620, rfl, rfl, K621, g622, f623, f624, f625, f626⟩ := hq617
    show G [a598] h615 (4) (42) 67 #[.val (.int p0), .val (.int p1), .val (.int p2), .val (.int p3), .val (.int p4), .val (.int (2 : Int32)), .val (.ref a598), .unset, .unset] [(.ref s618)]
    refine astore hG at_67 rfl rfl ?_
    refine aload hG at_69 rfl rfl ?_
    refine ifnullNo hG at_71 ?_
    refine aload hG at_74 rfl rfl ?_
    refine callVirtual hG at_76 f623 (w27 hw) (w28 hw) (fun _ hz => notFace_of_selects (args := #[]) (mvT hz (w30 hw))) (w30 hw) (w29 hw) (w9 hw) (w31 hw) (by decide) (m_len hC (s618) (t619) (kt620) ((4 : Int32)) ([(nar .byte (dig ((p1.toInt8.toInt32 >>> ((4 : Int32) &&& 31)) &&& (15 : Int32)))), (nar .byte (dig (p1.toInt8.toInt32 &&& (15 : Int32)))), (nar .byte (dig ((p2.toInt8.toInt32 >>> ((4 : Int32) &&& 31)) &&& (15 : Int32)))), (nar .byte (dig (p2.toInt8.toInt32 &&& (15 : Int32))))]) h615 f623 f624 f625 f626) pd_12 rfl (rest := []) rfl rfl all0 (Nat.le_of_ble_eq_true rfl) (W := 0) (Nat.le_of_ble_eq_true rfl) (Nat.le_of_ble_eq_true rfl) (Nat.le_of_ble_eq_true rfl) (Nat.le_of_ble_eq_true rfl) (fun v627 M628 h629 le630 hq631 => ?_)
    obtain ⟨rfl, rfl, rfl⟩ := hq631
    show G [a598] h615 (4) (42) 79 #[.val (.int p0), .val (.int p1), .val (.int p2), .val (.int p3), .val (.int p4), .val (.int (2 : Int32)), .val (.ref a598), .val (.ref s618), .unset] [(.int (4 : Int32))]
    refine iconst hG at_79 (2) rfl ?_
    refine iload hG at_80 rfl ?_
    refine imul hG at_82 ?_
    show G [a598] h615 (4) (42) 83 #[.val (.int p0), .val (.int p1), .val (.int p2), .val (.int p3), .val (.int p4), .val (.int (2 : Int32)), .val (.ref a598), .val (.ref s618), .unset] [(.int (4 : Int32)), (.int (4 : Int32))]
    refine icmpYes hG at_83 (by decide) (by decide) (pc' := 88) rfl ?_
    refine iconst hG at_88 (1) rfl ?_
    refine istore hG at_89 rfl ?_
    refine iload hG at_91 rfl ?_
    refine ifNo hG at_93 (by decide) ?_
    refine iload hG at_96 rfl ?_
    refine ifNo hG at_98 (by decide) ?_
    refine aload hG at_101 rfl rfl ?_
    refine iconst hG at_103 (0) rfl ?_
    refine iloadN hG at_104 rfl ?_
    refine callStatic hG at_105 (w50 hw) (w51 hw) (w52 hw) (w53 hw) (by decide) (m_pair0 hC (s618) (t619) (kt620) ((4 : Int32)) ([(nar .byte (dig ((p1.toInt8.toInt32 >>> ((4 : Int32) &&& 31)) &&& (15 : Int32)))), (nar .byte (dig (p1.toInt8.toInt32 &&& (15 : Int32)))), (nar .byte (dig ((p2.toInt8.toInt32 >>> ((4 : Int32) &&& 31)) &&& (15 : Int32)))), (nar .byte (dig (p2.toInt8.toInt32 &&& (15 : Int32))))]) (p1) h615 f623 f624 f625 f626 (by decide) (by decide) ((chr8_lo (dig_lat _)).trans (own_hi p1)) ((chr8_lo (dig_lat _)).trans (own_lo p1))) pd_13 rfl (rest := []) rfl rfl all0 (Nat.le_of_ble_eq_true rfl) (W := 0) (Nat.le_of_ble_eq_true rfl) (Nat.le_of_ble_eq_true rfl) (Nat.le_of_ble_eq_true rfl) (Nat.le_of_ble_eq_true rfl) (fun v632 M633 h634 le635 hq636 => ?_)
    obtain ⟨rfl, rfl, rfl⟩ := hq636
    show G [a598] h615 (4) (42) 108 #[.val (.int p0), .val (.int p1), .val (.int p2), .val (.int p3), .val (.int p4), .val (.int (2 : Int32)), .val (.ref a598), .val (.ref s618), .val (.int (1 : Int32))] [(.int (1 : Int32))]
    refine ifNo hG at_108 (by decide) ?_
    refine iconst hG at_111 (1) rfl ?_
    refine goto hG at_112 (by decide) (pc' := 116) rfl ?_
    refine istore hG at_116 rfl ?_
    refine iload hG at_118 rfl ?_
    refine iconst hG at_120 (1) rfl ?_
    refine icmpNo hG at_121 (by decide) ?_
    refine iload hG at_124 rfl ?_
    refine ifNo hG at_126 (by decide) ?_
    refine aload hG at_129 rfl rfl ?_
    refine iconst hG at_131 (1) rfl ?_
    refine iloadN hG at_132 rfl ?_
    refine callStatic hG at_133 (w50 hw) (w51 hw) (w52 hw) (w53 hw) (by decide) (m_pair1 hC (s618) (t619) (kt620) ((4 : Int32)) ([(nar .byte (dig ((p1.toInt8.toInt32 >>> ((4 : Int32) &&& 31)) &&& (15 : Int32)))), (nar .byte (dig (p1.toInt8.toInt32 &&& (15 : Int32)))), (nar .byte (dig ((p2.toInt8.toInt32 >>> ((4 : Int32) &&& 31)) &&& (15 : Int32)))), (nar .byte (dig (p2.toInt8.toInt32 &&& (15 : Int32))))]) (p2) h615 f623 f624 f625 f626 (by decide) (by decide) ((chr8_lo (dig_lat _)).trans (own_hi p2)) ((chr8_lo (dig_lat _)).trans (own_lo p2))) pd_13 rfl (rest := []) rfl rfl all0 (Nat.le_of_ble_eq_true rfl) (W := 0) (Nat.le_of_ble_eq_true rfl) (Nat.le_of_ble_eq_true rfl) (Nat.le_of_ble_eq_true rfl) (Nat.le_of_ble_eq_true rfl) (fun v637 M638 h639 le640 hq641 => ?_)
    obtain ⟨rfl, rfl, rfl⟩ := hq641
    show G [a598] h615 (4) (42) 136 #[.val (.int p0), .val (.int p1), .val (.int p2), .val (.int p3), .val (.int p4), .val (.int (2 : Int32)), .val (.ref a598), .val (.ref s618), .val (.int (1 : Int32))] [(.int (1 : Int32))]
    refine ifNo hG at_136 (by decide) ?_
    refine iconst hG at_139 (1) rfl ?_
    refine goto hG at_140 (by decide) (pc' := 144) rfl ?_
    refine istore hG at_144 rfl ?_
    refine iload hG at_146 rfl ?_
    refine iconst hG at_148 (2) rfl ?_
    refine icmpYes hG at_149 (by decide) (by decide) (pc' := 174) rfl ?_
    refine iload hG at_174 rfl ?_
    refine iconst hG at_176 (3) rfl ?_
    refine icmpYes hG at_177 (by decide) (by decide) (pc' := 203) rfl ?_
    refine iload hG at_203 rfl ?_
    have K642 : Keep h h615 [] := (((((Keep.refl _ _).ext E601).wr W604 (Or.inr g600)).wr W609 (Or.inr g600)).trans K621 all0)
    exact ireturnN hG (by simp) at_205 (M' := []) ⟨rfl, rfl, K642⟩ all0 (Nat.le_of_ble_eq_true rfl) (Nat.le_of_ble_eq_true rfl)
  · rw [q0]
    refine istore hG at_6 rfl ?_
    refine iload hG at_8 rfl ?_
    refine newarray hG at_10 rfl (w1 hw) (by decide) (cap := 3) (by decide) (by decide) (Nat.le_of_ble_eq_true rfl) (Nat.le_of_ble_eq_true rfl) (cnt := 3) (vs := [(.int (0 : Int32)), (.int (0 : Int32)), (.int (0 : Int32))]) rfl (fun h643 a644 kk645 g646 E647 V648 => ?_)
    show G [a644] h643 (1) (3) 12 #[.val (.int p0), .val (.int p1), .val (.int p2), .val (.int p3), .val (.int p4), .val (.int (3 : Int32)), .unset, .unset, .unset] [(.ref a644)]
    refine astore hG at_12 rfl rfl ?_
    refine iload hG at_14 rfl ?_
    refine ifNo hG at_16 (by decide) ?_
    refine aload hG at_19 rfl rfl ?_
    refine iconst hG at_21 (0) rfl ?_
    refine iloadN hG at_22 rfl ?_
    refine i2b hG at_23 ?_
    refine bastore hG at_24 V648 ⟨by decide, by decide⟩ (i := 0) rfl (Nat.le_of_ble_eq_true rfl) (List.mem_of_getElem? (i := 0) rfl) (fun h649 W650 V651 => ?_)
    rw [(byte_idem3 p1)] at V651
    have V653 : Arv Z h649 a644 kk645 .byte (3 : Int32) [(.int p1.toInt8.toInt32), (.int (0 : Int32)), (.int (0 : Int32))] (.int 0) := V651
    refine iload hG at_25 rfl ?_
    refine iconst hG at_27 (1) rfl ?_
    refine icmpNo hG at_28 (by decide) ?_
    refine aload hG at_31 rfl rfl ?_
    refine iconst hG at_33 (1) rfl ?_
    refine iloadN hG at_34 rfl ?_
    refine i2b hG at_35 ?_
    refine bastore hG at_36 V653 ⟨by decide, by decide⟩ (i := 1) rfl (Nat.le_of_ble_eq_true rfl) (List.mem_of_getElem? (i := 0) rfl) (fun h654 W655 V656 => ?_)
    rw [(byte_idem3 p2)] at V656
    have V658 : Arv Z h654 a644 kk645 .byte (3 : Int32) [(.int p1.toInt8.toInt32), (.int p2.toInt8.toInt32), (.int (0 : Int32))] (.int 0) := V656
    refine iload hG at_37 rfl ?_
    refine iconst hG at_39 (2) rfl ?_
    refine icmpNo hG at_40 (by decide) ?_
    refine aload hG at_43 rfl rfl ?_
    refine iconst hG at_45 (2) rfl ?_
    refine iloadN hG at_46 rfl ?_
    refine i2b hG at_47 ?_
    refine bastore hG at_48 V658 ⟨by decide, by decide⟩ (i := 2) rfl (Nat.le_of_ble_eq_true rfl) (List.mem_of_getElem? (i := 0) rfl) (fun h659 W660 V661 => ?_)
    rw [(byte_idem3 p3)] at V661
    have V663 : Arv Z h659 a644 kk645 .byte (3 : Int32) [(.int p1.toInt8.toInt32), (.int p2.toInt8.toInt32), (.int p3.toInt8.toInt32)] (.int 0) := V661
    refine iload hG at_49 rfl ?_
    refine iconst hG at_51 (3) rfl ?_
    refine icmpYes hG at_52 (by decide) (by decide) (pc' := 62) rfl ?_
    refine aload hG at_62 rfl rfl ?_
    refine callStatic hG at_64 (w2 hw) (w3 hw) (w4 hw) (w5 hw) (by decide) (m_fmt3 hC (a644) (kk645) (p1.toInt8.toInt32) (p2.toInt8.toInt32) (p3.toInt8.toInt32) h659 V663) pd_11 rfl (rest := []) rfl rfl all0 (Nat.le_of_ble_eq_true rfl) (W := 0) (Nat.le_of_ble_eq_true rfl) (Nat.le_of_ble_eq_true rfl) (Nat.le_of_ble_eq_true rfl) (Nat.le_of_ble_eq_true rfl) (fun v664 M665 h666 le667 hq668 => ?_)
    obtain ⟨s669, t670, kt671, rfl, rfl, K672, g673, f674, f675, f676, f677⟩ := hq668
    show G [a644] h666 (4) (45) 67 #[.val (.int p0), .val (.int p1), .val (.int p2), .val (.int p3), .val (.int p4), .val (.int (3 : Int32)), .val (.ref a644), .unset, .unset] [(.ref s669)]
    refine astore hG at_67 rfl rfl ?_
    refine aload hG at_69 rfl rfl ?_
    refine ifnullNo hG at_71 ?_
    refine aload hG at_74 rfl rfl ?_
    refine callVirtual hG at_76 f674 (w27 hw) (w28 hw) (fun _ hz => notFace_of_selects (args := #[]) (mvT hz (w30 hw))) (w30 hw) (w29 hw) (w9 hw) (w31 hw) (by decide) (m_len hC (s669) (t670) (kt671) ((6 : Int32)) ([(nar .byte (dig ((p1.toInt8.toInt32 >>> ((4 : Int32) &&& 31)) &&& (15 : Int32)))), (nar .byte (dig (p1.toInt8.toInt32 &&& (15 : Int32)))), (nar .byte (dig ((p2.toInt8.toInt32 >>> ((4 : Int32) &&& 31)) &&& (15 : Int32)))), (nar .byte (dig (p2.toInt8.toInt32 &&& (15 : Int32)))), (nar .byte (dig ((p3.toInt8.toInt32 >>> ((4 : Int32) &&& 31)) &&& (15 : Int32)))), (nar .byte (dig (p3.toInt8.toInt32 &&& (15 : Int32))))]) h666 f674 f675 f676 f677) pd_12 rfl (rest := []) rfl rfl all0 (Nat.le_of_ble_eq_true rfl) (W := 0) (Nat.le_of_ble_eq_true rfl) (Nat.le_of_ble_eq_true rfl) (Nat.le_of_ble_eq_true rfl) (Nat.le_of_ble_eq_true rfl) (fun v678 M679 h680 le681 hq682 => ?_)
    obtain ⟨rfl, rfl, rfl⟩ := hq682
    show G [a644] h666 (4) (45) 79 #[.val (.int p0), .val (.int p1), .val (.int p2), .val (.int p3), .val (.int p4), .val (.int (3 : Int32)), .val (.ref a644), .val (.ref s669), .unset] [(.int (6 : Int32))]
    refine iconst hG at_79 (2) rfl ?_
    refine iload hG at_80 rfl ?_
    refine imul hG at_82 ?_
    show G [a644] h666 (4) (45) 83 #[.val (.int p0), .val (.int p1), .val (.int p2), .val (.int p3), .val (.int p4), .val (.int (3 : Int32)), .val (.ref a644), .val (.ref s669), .unset] [(.int (6 : Int32)), (.int (6 : Int32))]
    refine icmpYes hG at_83 (by decide) (by decide) (pc' := 88) rfl ?_
    refine iconst hG at_88 (1) rfl ?_
    refine istore hG at_89 rfl ?_
    refine iload hG at_91 rfl ?_
    refine ifNo hG at_93 (by decide) ?_
    refine iload hG at_96 rfl ?_
    refine ifNo hG at_98 (by decide) ?_
    refine aload hG at_101 rfl rfl ?_
    refine iconst hG at_103 (0) rfl ?_
    refine iloadN hG at_104 rfl ?_
    refine callStatic hG at_105 (w50 hw) (w51 hw) (w52 hw) (w53 hw) (by decide) (m_pair0 hC (s669) (t670) (kt671) ((6 : Int32)) ([(nar .byte (dig ((p1.toInt8.toInt32 >>> ((4 : Int32) &&& 31)) &&& (15 : Int32)))), (nar .byte (dig (p1.toInt8.toInt32 &&& (15 : Int32)))), (nar .byte (dig ((p2.toInt8.toInt32 >>> ((4 : Int32) &&& 31)) &&& (15 : Int32)))), (nar .byte (dig (p2.toInt8.toInt32 &&& (15 : Int32)))), (nar .byte (dig ((p3.toInt8.toInt32 >>> ((4 : Int32) &&& 31)) &&& (15 : Int32)))), (nar .byte (dig (p3.toInt8.toInt32 &&& (15 : Int32))))]) (p1) h666 f674 f675 f676 f677 (by decide) (by decide) ((chr8_lo (dig_lat _)).trans (own_hi p1)) ((chr8_lo (dig_lat _)).trans (own_lo p1))) pd_13 rfl (rest := []) rfl rfl all0 (Nat.le_of_ble_eq_true rfl) (W := 0) (Nat.le_of_ble_eq_true rfl) (Nat.le_of_ble_eq_true rfl) (Nat.le_of_ble_eq_true rfl) (Nat.le_of_ble_eq_true rfl) (fun v683 M684 h685 le686 hq687 => ?_)
    obtain ⟨rfl, rfl, rfl⟩ := hq687
    show G [a644] h666 (4) (45) 108 #[.val (.int p0), .val (.int p1), .val (.int p2), .val (.int p3), .val (.int p4), .val (.int (3 : Int32)), .val (.ref a644), .val (.ref s669), .val (.int (1 : Int32))] [(.int (1 : Int32))]
    refine ifNo hG at_108 (by decide) ?_
    refine iconst hG at_111 (1) rfl ?_
    refine goto hG at_112 (by decide) (pc' := 116) rfl ?_
    refine istore hG at_116 rfl ?_
    refine iload hG at_118 rfl ?_
    refine iconst hG at_120 (1) rfl ?_
    refine icmpNo hG at_121 (by decide) ?_
    refine iload hG at_124 rfl ?_
    refine ifNo hG at_126 (by decide) ?_
    refine aload hG at_129 rfl rfl ?_
    refine iconst hG at_131 (1) rfl ?_
    refine iloadN hG at_132 rfl ?_
    refine callStatic hG at_133 (w50 hw) (w51 hw) (w52 hw) (w53 hw) (by decide) (m_pair1 hC (s669) (t670) (kt671) ((6 : Int32)) ([(nar .byte (dig ((p1.toInt8.toInt32 >>> ((4 : Int32) &&& 31)) &&& (15 : Int32)))), (nar .byte (dig (p1.toInt8.toInt32 &&& (15 : Int32)))), (nar .byte (dig ((p2.toInt8.toInt32 >>> ((4 : Int32) &&& 31)) &&& (15 : Int32)))), (nar .byte (dig (p2.toInt8.toInt32 &&& (15 : Int32)))), (nar .byte (dig ((p3.toInt8.toInt32 >>> ((4 : Int32) &&& 31)) &&& (15 : Int32)))), (nar .byte (dig (p3.toInt8.toInt32 &&& (15 : Int32))))]) (p2) h666 f674 f675 f676 f677 (by decide) (by decide) ((chr8_lo (dig_lat _)).trans (own_hi p2)) ((chr8_lo (dig_lat _)).trans (own_lo p2))) pd_13 rfl (rest := []) rfl rfl all0 (Nat.le_of_ble_eq_true rfl) (W := 0) (Nat.le_of_ble_eq_true rfl) (Nat.le_of_ble_eq_true rfl) (Nat.le_of_ble_eq_true rfl) (Nat.le_of_ble_eq_true rfl) (fun v688 M689 h690 le691 hq692 => ?_)
    obtain ⟨rfl, rfl, rfl⟩ := hq692
    show G [a644] h666 (4) (45) 136 #[.val (.int p0), .val (.int p1), .val (.int p2), .val (.int p3), .val (.int p4), .val (.int (3 : Int32)), .val (.ref a644), .val (.ref s669), .val (.int (1 : Int32))] [(.int (1 : Int32))]
    refine ifNo hG at_136 (by decide) ?_
    refine iconst hG at_139 (1) rfl ?_
    refine goto hG at_140 (by decide) (pc' := 144) rfl ?_
    refine istore hG at_144 rfl ?_
    refine iload hG at_146 rfl ?_
    refine iconst hG at_148 (2) rfl ?_
    refine icmpNo hG at_149 (by decide) ?_
    refine iload hG at_152 rfl ?_
    refine ifNo hG at_154 (by decide) ?_
    refine aload hG at_157 rfl rfl ?_
    refine iconst hG at_159 (2) rfl ?_
    refine iloadN hG at_160 rfl ?_
    refine callStatic hG at_161 (w50 hw) (w51 hw) (w52 hw) (w53 hw) (by decide) (m_pair2 hC (s669) (t670) (kt671) ((6 : Int32)) ([(nar .byte (dig ((p1.toInt8.toInt32 >>> ((4 : Int32) &&& 31)) &&& (15 : Int32)))), (nar .byte (dig (p1.toInt8.toInt32 &&& (15 : Int32)))), (nar .byte (dig ((p2.toInt8.toInt32 >>> ((4 : Int32) &&& 31)) &&& (15 : Int32)))), (nar .byte (dig (p2.toInt8.toInt32 &&& (15 : Int32)))), (nar .byte (dig ((p3.toInt8.toInt32 >>> ((4 : Int32) &&& 31)) &&& (15 : Int32)))), (nar .byte (dig (p3.toInt8.toInt32 &&& (15 : Int32))))]) (p3) h666 f674 f675 f676 f677 (by decide) (by decide) ((chr8_lo (dig_lat _)).trans (own_hi p3)) ((chr8_lo (dig_lat _)).trans (own_lo p3))) pd_13 rfl (rest := []) rfl rfl all0 (Nat.le_of_ble_eq_true rfl) (W := 0) (Nat.le_of_ble_eq_true rfl) (Nat.le_of_ble_eq_true rfl) (Nat.le_of_ble_eq_true rfl) (Nat.le_of_ble_eq_true rfl) (fun v693 M694 h695 le696 hq697 => ?_)
    obtain ⟨rfl, rfl, rfl⟩ := hq697
    show G [a644] h666 (4) (45) 164 #[.val (.int p0), .val (.int p1), .val (.int p2), .val (.int p3), .val (.int p4), .val (.int (3 : Int32)), .val (.ref a644), .val (.ref s669), .val (.int (1 : Int32))] [(.int (1 : Int32))]
    refine ifNo hG at_164 (by decide) ?_
    refine iconst hG at_167 (1) rfl ?_
    refine goto hG at_168 (by decide) (pc' := 172) rfl ?_
    refine istore hG at_172 rfl ?_
    refine iload hG at_174 rfl ?_
    refine iconst hG at_176 (3) rfl ?_
    refine icmpYes hG at_177 (by decide) (by decide) (pc' := 203) rfl ?_
    refine iload hG at_203 rfl ?_
    have K698 : Keep h h666 [] := ((((((Keep.refl _ _).ext E647).wr W650 (Or.inr g646)).wr W655 (Or.inr g646)).wr W660 (Or.inr g646)).trans K672 all0)
    exact ireturnN hG (by simp) at_205 (M' := []) ⟨rfl, rfl, K698⟩ all0 (Nat.le_of_ble_eq_true rfl) (Nat.le_of_ble_eq_true rfl)
  · rw [q0]
    refine istore hG at_6 rfl ?_
    refine iload hG at_8 rfl ?_
    refine newarray hG at_10 rfl (w1 hw) (by decide) (cap := 4) (by decide) (by decide) (Nat.le_of_ble_eq_true rfl) (Nat.le_of_ble_eq_true rfl) (cnt := 4) (vs := [(.int (0 : Int32)), (.int (0 : Int32)), (.int (0 : Int32)), (.int (0 : Int32))]) rfl (fun h699 a700 kk701 g702 E703 V704 => ?_)
    show G [a700] h699 (1) (4) 12 #[.val (.int p0), .val (.int p1), .val (.int p2), .val (.int p3), .val (.int p4), .val (.int (4 : Int32)), .unset, .unset, .unset] [(.ref a700)]
    refine astore hG at_12 rfl rfl ?_
    refine iload hG at_14 rfl ?_
    refine ifNo hG at_16 (by decide) ?_
    refine aload hG at_19 rfl rfl ?_
    refine iconst hG at_21 (0) rfl ?_
    refine iloadN hG at_22 rfl ?_
    refine i2b hG at_23 ?_
    refine bastore hG at_24 V704 ⟨by decide, by decide⟩ (i := 0) rfl (Nat.le_of_ble_eq_true rfl) (List.mem_of_getElem? (i := 0) rfl) (fun h705 W706 V707 => ?_)
    rw [(byte_idem3 p1)] at V707
    have V709 : Arv Z h705 a700 kk701 .byte (4 : Int32) [(.int p1.toInt8.toInt32), (.int (0 : Int32)), (.int (0 : Int32)), (.int (0 : Int32))] (.int 0) := V707
    refine iload hG at_25 rfl ?_
    refine iconst hG at_27 (1) rfl ?_
    refine icmpNo hG at_28 (by decide) ?_
    refine aload hG at_31 rfl rfl ?_
    refine iconst hG at_33 (1) rfl ?_
    refine iloadN hG at_34 rfl ?_
    refine i2b hG at_35 ?_
    refine bastore hG at_36 V709 ⟨by decide, by decide⟩ (i := 1) rfl (Nat.le_of_ble_eq_true rfl) (List.mem_of_getElem? (i := 0) rfl) (fun h710 W711 V712 => ?_)
    rw [(byte_idem3 p2)] at V712
    have V714 : Arv Z h710 a700 kk701 .byte (4 : Int32) [(.int p1.toInt8.toInt32), (.int p2.toInt8.toInt32), (.int (0 : Int32)), (.int (0 : Int32))] (.int 0) := V712
    refine iload hG at_37 rfl ?_
    refine iconst hG at_39 (2) rfl ?_
    refine icmpNo hG at_40 (by decide) ?_
    refine aload hG at_43 rfl rfl ?_
    refine iconst hG at_45 (2) rfl ?_
    refine iloadN hG at_46 rfl ?_
    refine i2b hG at_47 ?_
    refine bastore hG at_48 V714 ⟨by decide, by decide⟩ (i := 2) rfl (Nat.le_of_ble_eq_true rfl) (List.mem_of_getElem? (i := 0) rfl) (fun h715 W716 V717 => ?_)
    rw [(byte_idem3 p3)] at V717
    have V719 : Arv Z h715 a700 kk701 .byte (4 : Int32) [(.int p1.toInt8.toInt32), (.int p2.toInt8.toInt32), (.int p3.toInt8.toInt32), (.int (0 : Int32))] (.int 0) := V717
    refine iload hG at_49 rfl ?_
    refine iconst hG at_51 (3) rfl ?_
    refine icmpNo hG at_52 (by decide) ?_
    refine aload hG at_55 rfl rfl ?_
    refine iconst hG at_57 (3) rfl ?_
    refine iload hG at_58 rfl ?_
    refine i2b hG at_60 ?_
    refine bastore hG at_61 V719 ⟨by decide, by decide⟩ (i := 3) rfl (Nat.le_of_ble_eq_true rfl) (List.mem_of_getElem? (i := 0) rfl) (fun h720 W721 V722 => ?_)
    rw [(byte_idem3 p4)] at V722
    have V724 : Arv Z h720 a700 kk701 .byte (4 : Int32) [(.int p1.toInt8.toInt32), (.int p2.toInt8.toInt32), (.int p3.toInt8.toInt32), (.int p4.toInt8.toInt32)] (.int 0) := V722
    refine aload hG at_62 rfl rfl ?_
    refine callStatic hG at_64 (w2 hw) (w3 hw) (w4 hw) (w5 hw) (by decide) (m_fmt4 hC (a700) (kk701) (p1.toInt8.toInt32) (p2.toInt8.toInt32) (p3.toInt8.toInt32) (p4.toInt8.toInt32) h720 V724) pd_11 rfl (rest := []) rfl rfl all0 (Nat.le_of_ble_eq_true rfl) (W := 0) (Nat.le_of_ble_eq_true rfl) (Nat.le_of_ble_eq_true rfl) (Nat.le_of_ble_eq_true rfl) (Nat.le_of_ble_eq_true rfl) (fun v725 M726 h727 le728 hq729 => ?_)
    obtain ⟨s730, t731, kt732, rfl, rfl, K733, g734, f735, f736, f737, f738⟩ := hq729
    show G [a700] h727 (4) (48) 67 #[.val (.int p0), .val (.int p1), .val (.int p2), .val (.int p3), .val (.int p4), .val (.int (4 : Int32)), .val (.ref a700), .unset, .unset] [(.ref s730)]
    refine astore hG at_67 rfl rfl ?_
    refine aload hG at_69 rfl rfl ?_
    refine ifnullNo hG at_71 ?_
    refine aload hG at_74 rfl rfl ?_
    refine callVirtual hG at_76 f735 (w27 hw) (w28 hw) (fun _ hz => notFace_of_selects (args := #[]) (mvT hz (w30 hw))) (w30 hw) (w29 hw) (w9 hw) (w31 hw) (by decide) (m_len hC (s730) (t731) (kt732) ((8 : Int32)) ([(nar .byte (dig ((p1.toInt8.toInt32 >>> ((4 : Int32) &&& 31)) &&& (15 : Int32)))), (nar .byte (dig (p1.toInt8.toInt32 &&& (15 : Int32)))), (nar .byte (dig ((p2.toInt8.toInt32 >>> ((4 : Int32) &&& 31)) &&& (15 : Int32)))), (nar .byte (dig (p2.toInt8.toInt32 &&& (15 : Int32)))), (nar .byte (dig ((p3.toInt8.toInt32 >>> ((4 : Int32) &&& 31)) &&& (15 : Int32)))), (nar .byte (dig (p3.toInt8.toInt32 &&& (15 : Int32)))), (nar .byte (dig ((p4.toInt8.toInt32 >>> ((4 : Int32) &&& 31)) &&& (15 : Int32)))), (nar .byte (dig (p4.toInt8.toInt32 &&& (15 : Int32))))]) h727 f735 f736 f737 f738) pd_12 rfl (rest := []) rfl rfl all0 (Nat.le_of_ble_eq_true rfl) (W := 0) (Nat.le_of_ble_eq_true rfl) (Nat.le_of_ble_eq_true rfl) (Nat.le_of_ble_eq_true rfl) (Nat.le_of_ble_eq_true rfl) (fun v739 M740 h741 le742 hq743 => ?_)
    obtain ⟨rfl, rfl, rfl⟩ := hq743
    show G [a700] h727 (4) (48) 79 #[.val (.int p0), .val (.int p1), .val (.int p2), .val (.int p3), .val (.int p4), .val (.int (4 : Int32)), .val (.ref a700), .val (.ref s730), .unset] [(.int (8 : Int32))]
    refine iconst hG at_79 (2) rfl ?_
    refine iload hG at_80 rfl ?_
    refine imul hG at_82 ?_
    show G [a700] h727 (4) (48) 83 #[.val (.int p0), .val (.int p1), .val (.int p2), .val (.int p3), .val (.int p4), .val (.int (4 : Int32)), .val (.ref a700), .val (.ref s730), .unset] [(.int (8 : Int32)), (.int (8 : Int32))]
    refine icmpYes hG at_83 (by decide) (by decide) (pc' := 88) rfl ?_
    refine iconst hG at_88 (1) rfl ?_
    refine istore hG at_89 rfl ?_
    refine iload hG at_91 rfl ?_
    refine ifNo hG at_93 (by decide) ?_
    refine iload hG at_96 rfl ?_
    refine ifNo hG at_98 (by decide) ?_
    refine aload hG at_101 rfl rfl ?_
    refine iconst hG at_103 (0) rfl ?_
    refine iloadN hG at_104 rfl ?_
    refine callStatic hG at_105 (w50 hw) (w51 hw) (w52 hw) (w53 hw) (by decide) (m_pair0 hC (s730) (t731) (kt732) ((8 : Int32)) ([(nar .byte (dig ((p1.toInt8.toInt32 >>> ((4 : Int32) &&& 31)) &&& (15 : Int32)))), (nar .byte (dig (p1.toInt8.toInt32 &&& (15 : Int32)))), (nar .byte (dig ((p2.toInt8.toInt32 >>> ((4 : Int32) &&& 31)) &&& (15 : Int32)))), (nar .byte (dig (p2.toInt8.toInt32 &&& (15 : Int32)))), (nar .byte (dig ((p3.toInt8.toInt32 >>> ((4 : Int32) &&& 31)) &&& (15 : Int32)))), (nar .byte (dig (p3.toInt8.toInt32 &&& (15 : Int32)))), (nar .byte (dig ((p4.toInt8.toInt32 >>> ((4 : Int32) &&& 31)) &&& (15 : Int32)))), (nar .byte (dig (p4.toInt8.toInt32 &&& (15 : Int32))))]) (p1) h727 f735 f736 f737 f738 (by decide) (by decide) ((chr8_lo (dig_lat _)).trans (own_hi p1)) ((chr8_lo (dig_lat _)).trans (own_lo p1))) pd_13 rfl (rest := []) rfl rfl all0 (Nat.le_of_ble_eq_true rfl) (W := 0) (Nat.le_of_ble_eq_true rfl) (Nat.le_of_ble_eq_true rfl) (Nat.le_of_ble_eq_true rfl) (Nat.le_of_ble_eq_true rfl) (fun v744 M745 h746 le747 hq748 => ?_)
    obtain ⟨rfl, rfl, rfl⟩ := hq748
    show G [a700] h727 (4) (48) 108 #[.val (.int p0), .val (.int p1), .val (.int p2), .val (.int p3), .val (.int p4), .val (.int (4 : Int32)), .val (.ref a700), .val (.ref s730), .val (.int (1 : Int32))] [(.int (1 : Int32))]
    refine ifNo hG at_108 (by decide) ?_
    refine iconst hG at_111 (1) rfl ?_
    refine goto hG at_112 (by decide) (pc' := 116) rfl ?_
    refine istore hG at_116 rfl ?_
    refine iload hG at_118 rfl ?_
    refine iconst hG at_120 (1) rfl ?_
    refine icmpNo hG at_121 (by decide) ?_
    refine iload hG at_124 rfl ?_
    refine ifNo hG at_126 (by decide) ?_
    refine aload hG at_129 rfl rfl ?_
    refine iconst hG at_131 (1) rfl ?_
    refine iloadN hG at_132 rfl ?_
    refine callStatic hG at_133 (w50 hw) (w51 hw) (w52 hw) (w53 hw) (by decide) (m_pair1 hC (s730) (t731) (kt732) ((8 : Int32)) ([(nar .byte (dig ((p1.toInt8.toInt32 >>> ((4 : Int32) &&& 31)) &&& (15 : Int32)))), (nar .byte (dig (p1.toInt8.toInt32 &&& (15 : Int32)))), (nar .byte (dig ((p2.toInt8.toInt32 >>> ((4 : Int32) &&& 31)) &&& (15 : Int32)))), (nar .byte (dig (p2.toInt8.toInt32 &&& (15 : Int32)))), (nar .byte (dig ((p3.toInt8.toInt32 >>> ((4 : Int32) &&& 31)) &&& (15 : Int32)))), (nar .byte (dig (p3.toInt8.toInt32 &&& (15 : Int32)))), (nar .byte (dig ((p4.toInt8.toInt32 >>> ((4 : Int32) &&& 31)) &&& (15 : Int32)))), (nar .byte (dig (p4.toInt8.toInt32 &&& (15 : Int32))))]) (p2) h727 f735 f736 f737 f738 (by decide) (by decide) ((chr8_lo (dig_lat _)).trans (own_hi p2)) ((chr8_lo (dig_lat _)).trans (own_lo p2))) pd_13 rfl (rest := []) rfl rfl all0 (Nat.le_of_ble_eq_true rfl) (W := 0) (Nat.le_of_ble_eq_true rfl) (Nat.le_of_ble_eq_true rfl) (Nat.le_of_ble_eq_true rfl) (Nat.le_of_ble_eq_true rfl) (fun v749 M750 h751 le752 hq753 => ?_)
    obtain ⟨rfl, rfl, rfl⟩ := hq753
    show G [a700] h727 (4) (48) 136 #[.val (.int p0), .val (.int p1), .val (.int p2), .val (.int p3), .val (.int p4), .val (.int (4 : Int32)), .val (.ref a700), .val (.ref s730), .val (.int (1 : Int32))] [(.int (1 : Int32))]
    refine ifNo hG at_136 (by decide) ?_
    refine iconst hG at_139 (1) rfl ?_
    refine goto hG at_140 (by decide) (pc' := 144) rfl ?_
    refine istore hG at_144 rfl ?_
    refine iload hG at_146 rfl ?_
    refine iconst hG at_148 (2) rfl ?_
    refine icmpNo hG at_149 (by decide) ?_
    refine iload hG at_152 rfl ?_
    refine ifNo hG at_154 (by decide) ?_
    refine aload hG at_157 rfl rfl ?_
    refine iconst hG at_159 (2) rfl ?_
    refine iloadN hG at_160 rfl ?_
    refine callStatic hG at_161 (w50 hw) (w51 hw) (w52 hw) (w53 hw) (by decide) (m_pair2 hC (s730) (t731) (kt732) ((8 : Int32)) ([(nar .byte (dig ((p1.toInt8.toInt32 >>> ((4 : Int32) &&& 31)) &&& (15 : Int32)))), (nar .byte (dig (p1.toInt8.toInt32 &&& (15 : Int32)))), (nar .byte (dig ((p2.toInt8.toInt32 >>> ((4 : Int32) &&& 31)) &&& (15 : Int32)))), (nar .byte (dig (p2.toInt8.toInt32 &&& (15 : Int32)))), (nar .byte (dig ((p3.toInt8.toInt32 >>> ((4 : Int32) &&& 31)) &&& (15 : Int32)))), (nar .byte (dig (p3.toInt8.toInt32 &&& (15 : Int32)))), (nar .byte (dig ((p4.toInt8.toInt32 >>> ((4 : Int32) &&& 31)) &&& (15 : Int32)))), (nar .byte (dig (p4.toInt8.toInt32 &&& (15 : Int32))))]) (p3) h727 f735 f736 f737 f738 (by decide) (by decide) ((chr8_lo (dig_lat _)).trans (own_hi p3)) ((chr8_lo (dig_lat _)).trans (own_lo p3))) pd_13 rfl (rest := []) rfl rfl all0 (Nat.le_of_ble_eq_true rfl) (W := 0) (Nat.le_of_ble_eq_true rfl) (Nat.le_of_ble_eq_true rfl) (Nat.le_of_ble_eq_true rfl) (Nat.le_of_ble_eq_true rfl) (fun v754 M755 h756 le757 hq758 => ?_)
    obtain ⟨rfl, rfl, rfl⟩ := hq758
    show G [a700] h727 (4) (48) 164 #[.val (.int p0), .val (.int p1), .val (.int p2), .val (.int p3), .val (.int p4), .val (.int (4 : Int32)), .val (.ref a700), .val (.ref s730), .val (.int (1 : Int32))] [(.int (1 : Int32))]
    refine ifNo hG at_164 (by decide) ?_
    refine iconst hG at_167 (1) rfl ?_
    refine goto hG at_168 (by decide) (pc' := 172) rfl ?_
    refine istore hG at_172 rfl ?_
    refine iload hG at_174 rfl ?_
    refine iconst hG at_176 (3) rfl ?_
    refine icmpNo hG at_177 (by decide) ?_
    refine iload hG at_180 rfl ?_
    refine ifNo hG at_182 (by decide) ?_
    refine aload hG at_185 rfl rfl ?_
    refine iconst hG at_187 (3) rfl ?_
    refine iload hG at_188 rfl ?_
    refine callStatic hG at_190 (w50 hw) (w51 hw) (w52 hw) (w53 hw) (by decide) (m_pair3 hC (s730) (t731) (kt732) ((8 : Int32)) ([(nar .byte (dig ((p1.toInt8.toInt32 >>> ((4 : Int32) &&& 31)) &&& (15 : Int32)))), (nar .byte (dig (p1.toInt8.toInt32 &&& (15 : Int32)))), (nar .byte (dig ((p2.toInt8.toInt32 >>> ((4 : Int32) &&& 31)) &&& (15 : Int32)))), (nar .byte (dig (p2.toInt8.toInt32 &&& (15 : Int32)))), (nar .byte (dig ((p3.toInt8.toInt32 >>> ((4 : Int32) &&& 31)) &&& (15 : Int32)))), (nar .byte (dig (p3.toInt8.toInt32 &&& (15 : Int32)))), (nar .byte (dig ((p4.toInt8.toInt32 >>> ((4 : Int32) &&& 31)) &&& (15 : Int32)))), (nar .byte (dig (p4.toInt8.toInt32 &&& (15 : Int32))))]) (p4) h727 f735 f736 f737 f738 (by decide) (by decide) ((chr8_lo (dig_lat _)).trans (own_hi p4)) ((chr8_lo (dig_lat _)).trans (own_lo p4))) pd_13 rfl (rest := []) rfl rfl all0 (Nat.le_of_ble_eq_true rfl) (W := 0) (Nat.le_of_ble_eq_true rfl) (Nat.le_of_ble_eq_true rfl) (Nat.le_of_ble_eq_true rfl) (Nat.le_of_ble_eq_true rfl) (fun v759 M760 h761 le762 hq763 => ?_)
    obtain ⟨rfl, rfl, rfl⟩ := hq763
    show G [a700] h727 (4) (48) 193 #[.val (.int p0), .val (.int p1), .val (.int p2), .val (.int p3), .val (.int p4), .val (.int (4 : Int32)), .val (.ref a700), .val (.ref s730), .val (.int (1 : Int32))] [(.int (1 : Int32))]
    refine ifNo hG at_193 (by decide) ?_
    refine iconst hG at_196 (1) rfl ?_
    refine goto hG at_197 (by decide) (pc' := 201) rfl ?_
    refine istore hG at_201 rfl ?_
    refine iload hG at_203 rfl ?_
    have K764 : Keep h h727 [] := (((((((Keep.refl _ _).ext E703).wr W706 (Or.inr g702)).wr W711 (Or.inr g702)).wr W716 (Or.inr g702)).wr W721 (Or.inr g702)).trans K733 all0)
    exact ireturnN hG (by simp) at_205 (M' := []) ⟨rfl, rfl, K764⟩ all0 (Nat.le_of_ble_eq_true rfl) (Nat.le_of_ble_eq_true rfl)
set_option maxRecDepth 65536 in
set_option maxHeartbeats 4000000 in
theorem comes_1 {Post : Tables → Env → Array Value → State → Outcome → State → Prop} (hpost : ∀ tb e args s v u, (limb_1_1.after args s (.returned v) u = true ∧ limb_1_2.after args s (.returned v) u = true ∧ True) → ReturnedEndW s (.returned v) u (Jvm.fieldLocs frame_1_writes args s ++ Jvm.arrayLocs frame_1_arrays args s ++ Jvm.staticLocs frame_1_statics s) 24 1152 → Post tb e args s (.returned v) u) :
    ArmFor flags0 classFile x code maxLocals ret World_1 tables_1 room_1 Calls_1 rest_1 Pre_1 Post := by
  intro l hfl _ _ p e ha hc hk s m args below hf hA hF happ hP
  obtain ⟨hcalls, hrest, hpre⟩ := hP
  obtain ⟨-, -, -, hnamed, -, -, -, hat⟩ := (Spec.applies_iff hf).mp happ
  obtain ⟨hg, hnar⟩ := and_e (Cond.before_iff.mp (show (Jvm.Cond.and given_1 narrow_1).before args s = true from hpre))
  obtain ⟨hcount, hi0⟩ := and_e hg
  obtain ⟨hx0, hi1⟩ := and_e hi0
  obtain ⟨hx1, hi2⟩ := and_e hi1
  obtain ⟨hx2, hi3⟩ := and_e hi2
  obtain ⟨hx3, hi4⟩ := and_e hi3
  have hx4 := hi4
  obtain ⟨w0, w1, w2, w3, w4, rfl⟩ : ∃ w0 w1 w2 w3 w4 : Value, args = #[w0, w1, w2, w3, w4] := by
    have hs : args.size = 5 := by simpa [Cond.value, given_1] using hcount
    obtain ⟨L⟩ := args
    match L, hs with
    | [w0, w1, w2, w3, w4], _ => exact ⟨w0, w1, w2, w3, w4, rfl⟩
  have hw := fun d (hd : d ∈ tables_1) => atoms_spec (ws := Jvm.Cond.code x code maxLocals ret :: tables_1) hat d (List.mem_cons_of_mem _ hd)
  obtain ⟨hsets, hown0⟩ := atoms_of _ (rest_1_c_eq ▸ (show rest_1_c.before _ s = true from hrest))
  have hfit : Fit s := fun {y c} hc i hi => by
    obtain ⟨ha, rfl⟩ := Array.getElem?_eq_some_iff.mp hc
    have q := List.all_eq_true.mp ((Array.all_eq_true_iff_forall_mem.mp hF) _ (Array.getElem_mem ha)) i (List.mem_range.mpr hi)
    simpa [Array.getElem?_eq_getElem hi] using q
  obtain ⟨i0, e0⟩ := is_v hx0
  obtain rfl : w0 = (.int i0) := Option.some.inj e0
  obtain ⟨i1, e1⟩ := is_v hx1
  obtain rfl : w1 = (.int i1) := Option.some.inj e1
  obtain ⟨i2, e2⟩ := is_v hx2
  obtain rfl : w2 = (.int i2) := Option.some.inj e2
  obtain ⟨i3, e3⟩ := is_v hx3
  obtain rfl : w3 = (.int i3) := Option.some.inj e3
  obtain ⟨i4, e4⟩ := is_v hx4
  obtain rfl : w4 = (.int i4) := Option.some.inj e4
  have hcw := hsets _ (List.mem_of_getElem? (i := 2) rfl)
  obtain ⟨g0, eg⟩ := is_v (Cond.before_iff.mp (hsets _ (List.mem_of_getElem? (i := 1) rfl)))
  have hK1 : Sta s s.heap "java/lang/String" "COMPACT_STRINGS" "Z" (.int g0) := Sta.start eg (Or.inl (hsets _ (List.mem_of_getElem? (i := 0) rfl)))
  have hK2 : ¬ g0 = 0 := gotF (Cond.eq_ints eg (Term.int_eval (0))) (not_v (Cond.before_iff.mp hcw))
  have hS : ∀ a ∈ Bundle.stringAtoms, a.before _ s = true := fun d hd => hw d ((by decide +kernel : ∀ d ∈ Bundle.stringAtoms, d ∈ tables_1) d hd)
  have hE : EW s _ EL0 := (EW.cons (w20 hw) (by decide) EW.nil)
  obtain ⟨gf, egf, rgf⟩ := isR_v (Cond.before_iff.mp (hsets _ (List.mem_of_getElem? (i := 8) rfl)))
  have sgf : Sta s s.heap "jdk/internal/util/Preconditions" "SIOOBE_FORMATTER" "Ljava/util/function/BiFunction;" gf := Sta.start egf (Or.inl (hsets _ (List.mem_of_getElem? (i := 7) rfl)))
  obtain ⟨dg, kd, edg, Vdg⟩ := own_digits hfit hnar
  have sdg : Sta s s.heap "ridgecard/Hex" "DIGITS" "[C" (.ref dg) := Sta.start edg (Or.inr ⟨(w4 hw), (w39 hw)⟩)
  have hC : Ctx l s _ s.heap.size g0 gf dg kd := ⟨hw, hS, hE, ⟨hK1, hK2⟩, sgf, rgf, sdg, Vdg⟩
  have hH : CHv s EL0 s.vm s.heap := CHv.start hE (fun p hp => hcalls.1 p hp) hcw (hS _ (by simp [Bundle.stringAtoms])) (hS _ (by simp [Bundle.stringAtoms, Bundle.sN]))
  obtain ⟨n, o, h1, h2, h3, ⟨v, L, M', rfl, hQ, N, -, -, -, hq⟩⟩ := m_law hC i0 i1 i2 i3 i4 s.heap p e ha hc hk s m _ below hf ((Spec.applies_iff_loose hf).mp happ).1 ⟨rfl, State.Warmed39.refl s, rfl, hH, fun _ q => (nomatch q), Old.start s⟩ trivial
  obtain ⟨rfl, -⟩ := hQ
  refine ⟨n, _, h1, h2, h3, hpost _ _ _ _ _ _ ⟨Cond.after_iff.mpr rfl, Cond.after_iff.mpr (eq_i res_at (Term.int_eval (1)) rfl), trivial⟩ ⟨hq.1, hq.2.1, hq.2.2.1, (hq.2.2.2.sift fun y hy => Or.inr (N y hy)).mono (by decide) (by decide)⟩⟩
theorem main_1_1 : Claimed_1_1 := comes_1 fun _ _ _ _ _ _ h hF => ⟨h.1, hF⟩
theorem main_1_2 : Claimed_1_2 := comes_1 fun _ _ _ _ _ _ h hF => ⟨h.2.1, hF⟩
end Jvm.Pilot.@@N@@
namespace Jvm.Pilot.@@N@@
open Jvm Jvm.ClassFile Sem Op Lib Jvm.Free Jvm.Stand Jvm.Pilot.@@N@@.Jvm.D
/-! MADE BY PROGRAM (witnessworld.py) out of the Statement's table words and the real class files: 20 classes; the members and pool entries that the words name. The judged class is class 1, her method 1. -/
namespace start1
open Jvm.ClassFile
def u (s : String) : CpInfo := .utf8 (stringToUtf16 s)
/-- a pool by its gaps: so many unusable entries, then the entry; so many at the end -/
def gap : Nat → List CpInfo → List CpInfo
  | 0, r => r
  | n + 1, r => .unusable :: gap n r
def poolList (es : List (Nat × CpInfo)) (last : Nat) : List CpInfo := es.foldr (fun e r => gap e.1 (e.2 :: r)) (gap last [])
def pool (es : List (Nat × CpInfo)) (last : Nat) : Array CpInfo := ⟨poolList es last⟩
def fileOf (pool : Array CpInfo) (this : Nat) (attrs : Array Attribute := #[]) (ms : Array MethodInfo := #[]) (fl : Nat := 33) (sup : Nat := 0) (ifs : Array Nat := #[]) (fds : Array FieldInfo := #[]) : ClassFile where
  minorVersion := 0
  majorVersion := 65
  constantPool := pool
  accessFlags := fl
  thisClass := this
  superClass := sup
  interfaces := ifs
  fields := fds
  methods := ms
  attributes := attrs
def plain (name : String) (sup : Option ClassId) : Class where
  name := name
  kind := .ordinary
  loader := none
  accessFlags := 33
  super := sup
  interfaces := #[]
  cf := none
  fields := #[]
  methods := #[]
  instanceTypes := #[]
  staticTypes := #[]
  resolved := #[]
  callSites := []
  init := .initialized
  statics := none
  mirror := none

def pool0 : Array CpInfo := pool [(5, u "<init>"), (0, u "()V"), (1, .class_ 10), (1, u "java/lang/Object")] 113

def k0c0 : Code := { maxStack := 0, maxLocals := 1, code := object_method_1_code, exceptionTable := #[], attributes := #[] }
def k0m0 : Method := { name := "<init>", desc := "()V", sig := { parameters := [], returnType := none }, accessFlags := 1, code := some k0c0 }
/-- java/lang/Object -/
def k0 : Class := { plain "java/lang/Object" none with
  accessFlags := 33
  interfaces := #[]
  cf := some (fileOf pool0 8 #[] #[{ accessFlags := 1, nameIndex := 5, descriptorIndex := 6, attributes := #[] }] 33 0 #[] #[])
  fields := #[]
  methods := #[k0m0]
  instanceTypes := #[]
  staticTypes := #[]
  resolved := Array.replicate 124 none
  statics := none }

def pool1 : Array CpInfo := pool [(2, .class_ 4), (1, u "java/lang/Object"), (0, u "<init>"), (0, u "()V"), (0, .integer 2147483647), (0, .methodref 9 10), (0, .class_ 11), (0, .nameAndType 12 13), (0, u "ridgecard/Hex"), (0, u "format"), (0, u "([B)Ljava/lang/String;"), (0, .methodref 15 16), (0, .class_ 17), (0, .nameAndType 18 19), (0, u "java/lang/String"), (0, u "length"), (0, u "()I"), (0, .methodref 21 22), (0, .class_ 23), (0, .nameAndType 24 25), (0, u "ridgecard/HexFormatPinLaw"), (0, u "pair"), (0, u "(Ljava/lang/String;II)Z"), (0, .methodref 15 27), (0, .nameAndType 28 29), (0, u "charAt"), (0, u "(I)C"), (0, .methodref 21 31), (0, .nameAndType 32 29), (0, u "digit"), (2, u "law"), (0, u "(IIIII)Z")] 5

def k1m0 : Method := { name := "<init>", desc := "()V", sig := { parameters := [], returnType := none }, accessFlags := 1, code := none }
def k1c1 : Code := { maxStack := 3, maxLocals := 9, code := code, exceptionTable := #[], attributes := #[] }
def k1m1 : Method := { name := "law", desc := "(IIIII)Z", sig := { parameters := [.int, .int, .int, .int, .int], returnType := some .boolean }, accessFlags := 9, code := some k1c1 }
def k1c2 : Code := { maxStack := 3, maxLocals := 1, code := method_3_code, exceptionTable := #[], attributes := #[] }
def k1m2 : Method := { name := "digit", desc := "(I)C", sig := { parameters := [.int], returnType := some .char }, accessFlags := 10, code := some k1c2 }
def k1c3 : Code := { maxStack := 3, maxLocals := 4, code := method_4_code, exceptionTable := #[], attributes := #[] }
def k1m3 : Method := { name := "pair", desc := "(Ljava/lang/String;II)Z", sig := { parameters := [(.object "java/lang/String"), .int, .int], returnType := some .boolean }, accessFlags := 10, code := some k1c3 }
/-- ridgecard/HexFormatPinLaw -/
def k1 : Class := { plain "ridgecard/HexFormatPinLaw" (some 0) with
  accessFlags := 49
  interfaces := #[]
  cf := some (fileOf pool1 21 #[] #[{ accessFlags := 1, nameIndex := 5, descriptorIndex := 6, attributes := #[] }, { accessFlags := 9, nameIndex := 35, descriptorIndex := 36, attributes := #[] }, { accessFlags := 10, nameIndex := 32, descriptorIndex := 29, attributes := #[] }, { accessFlags := 10, nameIndex := 24, descriptorIndex := 25, attributes := #[] }] 49 2 #[] #[])
  fields := #[]
  methods := #[k1m0, k1m1, k1m2, k1m3]
  instanceTypes := #[]
  staticTypes := #[]
  resolved := Array.replicate 42 none
  statics := none }

def pool2 : Array CpInfo := pool [(2, .class_ 4), (1, u "java/lang/Object"), (0, u "<init>"), (0, u "()V"), (17, .class_ 26), (1, u "ridgecard/Hex"), (19, .fieldref 24 47), (0, .nameAndType 48 49), (0, u "DIGITS"), (0, u "[C"), (0, .class_ 51), (0, u "java/lang/String"), (0, .methodref 50 53), (0, .nameAndType 5 54), (0, u "([C)V"), (13, u "format"), (0, u "([B)Ljava/lang/String;")] 19

def k2m0 : Method := { name := "<init>", desc := "()V", sig := { parameters := [], returnType := none }, accessFlags := 2, code := none }
def k2c1 : Code := { maxStack := 5, maxLocals := 3, code := prog_19_method_3_code, exceptionTable := #[], attributes := #[] }
def k2m1 : Method := { name := "format", desc := "([B)Ljava/lang/String;", sig := { parameters := [(.array .byte)], returnType := some (.object "java/lang/String") }, accessFlags := 8, code := some k2c1 }
/-- ridgecard/Hex -/
def k2 : Class := { plain "ridgecard/Hex" (some 0) with
  accessFlags := 48
  interfaces := #[]
  cf := some (fileOf pool2 24 #[] #[{ accessFlags := 2, nameIndex := 5, descriptorIndex := 6, attributes := #[] }, { accessFlags := 8, nameIndex := 68, descriptorIndex := 69, attributes := #[] }] 48 2 #[] #[{ accessFlags := 26, nameIndex := 48, descriptorIndex := 49, attributes := #[] }])
  fields := #[{ name := "DIGITS", type := (.array .char), accessFlags := 26, slot := 0, constantValue := 0 }]
  methods := #[k2m0, k2m1]
  instanceTypes := #[]
  staticTypes := #[(.array .char)]
  resolved := Array.replicate 89 none
  statics := some 0 }

def pool3 : Array CpInfo := pool [(1, .class_ 2), (0, u "java/io/Serializable"), (0, .class_ 4), (0, u "java/lang/Object")] 2

/-- java/io/Serializable -/
def k3 : Class := { plain "java/io/Serializable" (some 0) with
  accessFlags := 1537
  interfaces := #[]
  cf := some (fileOf pool3 1 #[] #[] 1537 3 #[] #[])
  fields := #[]
  methods := #[]
  instanceTypes := #[]
  staticTypes := #[]
  resolved := Array.replicate 7 none
  statics := none }

def pool4 : Array CpInfo := pool [(1, .class_ 2), (0, u "java/lang/Comparable"), (0, .class_ 4), (0, u "java/lang/Object")] 7

/-- java/lang/Comparable -/
def k4 : Class := { plain "java/lang/Comparable" (some 0) with
  accessFlags := 1537
  interfaces := #[]
  cf := some (fileOf pool4 1 #[] #[] 1537 3 #[] #[])
  fields := #[]
  methods := #[]
  instanceTypes := #[]
  staticTypes := #[]
  resolved := Array.replicate 12 none
  statics := none }

def pool5 : Array CpInfo := pool [(2, .class_ 4), (1, u "java/lang/CharSequence"), (42, .class_ 48), (0, u "java/lang/CharSequence$1CodePointIterator"), (10, .class_ 60), (0, u "java/lang/CharSequence$1CharIterator"), (5, .class_ 67), (0, u "java/lang/Object")] 63

/-- java/lang/CharSequence -/
def k5 : Class := { plain "java/lang/CharSequence" (some 0) with
  accessFlags := 1537
  interfaces := #[]
  cf := some (fileOf pool5 2 #[.nestMembers #[47, 59]] #[] 1537 66 #[] #[])
  fields := #[]
  methods := #[]
  instanceTypes := #[]
  staticTypes := #[]
  resolved := Array.replicate 131 none
  statics := none }

def pool6 : Array CpInfo := pool [(1, .class_ 2), (0, u "java/lang/constant/Constable"), (0, .class_ 4), (0, u "java/lang/Object")] 6

/-- java/lang/constant/Constable -/
def k6 : Class := { plain "java/lang/constant/Constable" (some 0) with
  accessFlags := 1537
  interfaces := #[]
  cf := some (fileOf pool6 1 #[] #[] 1537 3 #[] #[])
  fields := #[]
  methods := #[]
  instanceTypes := #[]
  staticTypes := #[]
  resolved := Array.replicate 11 none
  statics := none }

def pool7 : Array CpInfo := pool [(1, .class_ 2), (0, u "java/lang/constant/ConstantDesc"), (0, .class_ 4), (0, u "java/lang/Object")] 32

/-- java/lang/constant/ConstantDesc -/
def k7 : Class := { plain "java/lang/constant/ConstantDesc" (some 0) with
  accessFlags := 1537
  interfaces := #[]
  cf := some (fileOf pool7 1 #[] #[] 1537 3 #[] #[])
  fields := #[]
  methods := #[]
  instanceTypes := #[]
  staticTypes := #[]
  resolved := Array.replicate 37 none
  statics := none }

def pool8 : Array CpInfo := pool [(1, .methodref 2 3), (0, .class_ 4), (0, .nameAndType 5 6), (0, u "java/lang/Object"), (0, u "<init>"), (0, u "()V"), (0, .string 8), (0, u ""), (0, .fieldref 10 11), (0, .class_ 12), (0, .nameAndType 13 14), (0, u "java/lang/String"), (0, u "value"), (0, u "[B"), (0, .fieldref 10 16), (0, .nameAndType 17 18), (0, u "coder"), (0, u "B"), (2, u "hash"), (0, u "I"), (2, u "hashIsZero"), (0, u "Z"), (0, .methodref 10 28), (0, .nameAndType 5 29), (0, u "([CIILjava/lang/Void;)V"), (8, .fieldref 10 39), (0, .nameAndType 40 26), (0, u "COMPACT_STRINGS"), (1, .class_ 44), (1, u "java/lang/StringUTF16"), (0, u "compress"), (1, .methodref 42 48), (0, .nameAndType 49 50), (0, u "coderFromArrayLen"), (0, u "([BI)B"), (56, .class_ 109), (1, u "java/lang/StringLatin1"), (32, u "()Z"), (34, .methodref 42 178), (0, .nameAndType 45 179), (0, u "([CII)[B"), (154, u "()I"), (0, .methodref 10 336), (0, .nameAndType 17 337), (0, u "()B"), (25, u "([BI)C"), (27, u "(II)V"), (35, u "(I)C"), (64, .methodref 10 493), (0, .nameAndType 494 142), (0, u "isLatin1"), (0, .methodref 107 496), (0, .nameAndType 497 363), (0, u "charAt"), (3, u "checkIndex"), (5, u "length"), (67, .class_ 576), (0, u "java/lang/CharSequence"), (22, u "CASE_INSENSITIVE_ORDER"), (0, u "Ljava/util/Comparator;"), (409, u "([C)V"), (42, .fieldref 1054 1055), (0, .class_ 1056), (0, .nameAndType 1057 1058), (0, u "jdk/internal/util/Preconditions"), (0, u "SIOOBE_FORMATTER"), (0, u "Ljava/util/function/BiFunction;"), (0, .methodref 1054 1060), (0, .nameAndType 501 1061), (0, u "(IILjava/util/function/BiFunction;)I"), (39, u "serialPersistentFields"), (0, u "[Ljava/io/ObjectStreamField;"), (0, .class_ 1104), (0, u "java/lang/String$CaseInsensitiveComparator"), (1, .class_ 1107), (0, u "java/io/Serializable"), (0, .class_ 1109), (0, u "java/lang/Comparable"), (0, .class_ 1111), (0, u "java/lang/constant/Constable"), (0, .class_ 1113), (0, u "java/lang/constant/ConstantDesc"), (2, u "serialVersionUID"), (0, u "J"), (3, u "REPL"), (0, u "C"), (2, u "LATIN1"), (1, u "UTF16")] 323

def k8m0 : Method := { name := "<init>", desc := "()V", sig := { parameters := [], returnType := none }, accessFlags := 1, code := none }
def k8c1 : Code := { maxStack := 5, maxLocals := 2, code := jdk_42_method_3_code, exceptionTable := #[], attributes := #[] }
def k8m1 : Method := { name := "<init>", desc := "([C)V", sig := { parameters := [(.array .char)], returnType := none }, accessFlags := 1, code := some k8c1 }
def k8c2 : Code := { maxStack := 2, maxLocals := 1, code := jdk_42_method_54_code, exceptionTable := #[], attributes := #[] }
def k8m2 : Method := { name := "length", desc := "()I", sig := { parameters := [], returnType := some .int }, accessFlags := 1, code := some k8c2 }
def k8c3 : Code := { maxStack := 2, maxLocals := 2, code := jdk_42_method_56_code, exceptionTable := #[], attributes := #[] }
def k8m3 : Method := { name := "charAt", desc := "(I)C", sig := { parameters := [.int], returnType := some .char }, accessFlags := 1, code := some k8c3 }
def k8c4 : Code := { maxStack := 4, maxLocals := 6, code := jdk_42_method_149_code, exceptionTable := #[], attributes := #[] }
def k8m4 : Method := { name := "<init>", desc := "([CIILjava/lang/Void;)V", sig := { parameters := [(.array .char), .int, .int, (.object "java/lang/Void")], returnType := none }, accessFlags := 2, code := some k8c4 }
def k8c5 : Code := { maxStack := 1, maxLocals := 1, code := jdk_42_method_152_code, exceptionTable := #[], attributes := #[] }
def k8m5 : Method := { name := "coder", desc := "()B", sig := { parameters := [], returnType := some .byte }, accessFlags := 0, code := some k8c5 }
def k8c6 : Code := { maxStack := 1, maxLocals := 1, code := jdk_42_method_154_code, exceptionTable := #[], attributes := #[] }
def k8m6 : Method := { name := "isLatin1", desc := "()Z", sig := { parameters := [], returnType := some .boolean }, accessFlags := 0, code := some k8c6 }
def k8c7 : Code := { maxStack := 3, maxLocals := 2, code := jdk_42_method_155_code, exceptionTable := #[], attributes := #[] }
def k8m7 : Method := { name := "checkIndex", desc := "(II)V", sig := { parameters := [.int, .int], returnType := none }, accessFlags := 8, code := some k8c7 }
/-- java/lang/String -/
def k8 : Class := { plain "java/lang/String" (some 0) with
  accessFlags := 49
  interfaces := #[3, 4, 5, 6, 7]
  cf := some (fileOf pool8 10 #[.nestMembers #[1103]] #[{ accessFlags := 1, nameIndex := 5, descriptorIndex := 6, attributes := #[] }, { accessFlags := 1, nameIndex := 5, descriptorIndex := 1010, attributes := #[] }, { accessFlags := 1, nameIndex := 507, descriptorIndex := 334, attributes := #[] }, { accessFlags := 1, nameIndex := 497, descriptorIndex := 427, attributes := #[] }, { accessFlags := 2, nameIndex := 5, descriptorIndex := 29, attributes := #[] }, { accessFlags := 0, nameIndex := 17, descriptorIndex := 337, attributes := #[] }, { accessFlags := 0, nameIndex := 494, descriptorIndex := 142, attributes := #[] }, { accessFlags := 8, nameIndex := 501, descriptorIndex := 391, attributes := #[] }] 49 2 #[1106, 1108, 575, 1110, 1112] #[{ accessFlags := 18, nameIndex := 13, descriptorIndex := 14, attributes := #[] }, { accessFlags := 18, nameIndex := 17, descriptorIndex := 18, attributes := #[] }, { accessFlags := 2, nameIndex := 21, descriptorIndex := 22, attributes := #[] }, { accessFlags := 2, nameIndex := 25, descriptorIndex := 26, attributes := #[] }, { accessFlags := 26, nameIndex := 1116, descriptorIndex := 1117, attributes := #[] }, { accessFlags := 24, nameIndex := 40, descriptorIndex := 26, attributes := #[] }, { accessFlags := 26, nameIndex := 1101, descriptorIndex := 1102, attributes := #[] }, { accessFlags := 26, nameIndex := 1121, descriptorIndex := 1122, attributes := #[] }, { accessFlags := 25, nameIndex := 599, descriptorIndex := 600, attributes := #[] }, { accessFlags := 24, nameIndex := 1125, descriptorIndex := 18, attributes := #[] }, { accessFlags := 24, nameIndex := 1127, descriptorIndex := 18, attributes := #[] }])
  fields := #[{ name := "value", type := (.array .byte), accessFlags := 18, slot := 0, constantValue := 0 }, { name := "coder", type := .byte, accessFlags := 18, slot := 1, constantValue := 0 }, { name := "hash", type := .int, accessFlags := 2, slot := 2, constantValue := 0 }, { name := "hashIsZero", type := .boolean, accessFlags := 2, slot := 3, constantValue := 0 }, { name := "serialVersionUID", type := .long, accessFlags := 26, slot := 0, constantValue := 0 }, { name := "COMPACT_STRINGS", type := .boolean, accessFlags := 24, slot := 1, constantValue := 0 }, { name := "serialPersistentFields", type := (.array (.object "java/io/ObjectStreamField")), accessFlags := 26, slot := 2, constantValue := 0 }, { name := "REPL", type := .char, accessFlags := 26, slot := 3, constantValue := 0 }, { name := "CASE_INSENSITIVE_ORDER", type := (.object "java/util/Comparator"), accessFlags := 25, slot := 4, constantValue := 0 }, { name := "LATIN1", type := .byte, accessFlags := 24, slot := 5, constantValue := 0 }, { name := "UTF16", type := .byte, accessFlags := 24, slot := 6, constantValue := 0 }]
  methods := #[k8m0, k8m1, k8m2, k8m3, k8m4, k8m5, k8m6, k8m7]
  instanceTypes := #[(.array .byte), .byte, .int, .boolean]
  staticTypes := #[.long, .boolean, (.array (.object "java/io/ObjectStreamField")), .char, (.object "java/util/Comparator"), .byte, .byte]
  resolved := Array.replicate 1451 none
  statics := some 1 }

def pool9 : Array CpInfo := pool [(6, .class_ 8), (1, u "java/lang/Object"), (0, u "<init>"), (0, u "()V"), (1, .class_ 14), (1, u "java/lang/StringUTF16"), (31, u "$assertionsDisabled"), (0, u "Z"), (13, u "HI_BYTE_SHIFT"), (0, u "I"), (2, u "LO_BYTE_SHIFT"), (49, .methodref 12 116), (0, .nameAndType 117 118), (0, u "compress"), (0, u "([CI[BII)I"), (3, u "([CII)[B"), (138, u "coderFromArrayLen"), (0, u "([BI)B"), (106, .class_ 371), (1, u "java/lang/StringUTF16$LinesSpliterator"), (58, u "MAX_LENGTH"), (196, .class_ 628), (0, u "java/lang/StringUTF16$CodePointsSpliterator"), (0, .class_ 630), (0, u "java/lang/StringUTF16$CharsSpliterator")] 4

def k9m0 : Method := { name := "<init>", desc := "()V", sig := { parameters := [], returnType := none }, accessFlags := 0, code := none }
def k9c1 : Code := { maxStack := 2, maxLocals := 2, code := jdk_52_method_15_code, exceptionTable := #[], attributes := #[] }
def k9m1 : Method := { name := "coderFromArrayLen", desc := "([BI)B", sig := { parameters := [(.array .byte), .int], returnType := some .byte }, accessFlags := 8, code := some k9c1 }
def k9c2 : Code := { maxStack := 5, maxLocals := 6, code := jdk_52_method_16_code, exceptionTable := #[], attributes := #[] }
def k9m2 : Method := { name := "compress", desc := "([CII)[B", sig := { parameters := [(.array .char), .int, .int], returnType := some (.array .byte) }, accessFlags := 9, code := some k9c2 }
def k9c3 : Code := { maxStack := 3, maxLocals := 7, code := jdk_52_method_21_code, exceptionTable := #[], attributes := #[] }
def k9m3 : Method := { name := "compress", desc := "([CI[BII)I", sig := { parameters := [(.array .char), .int, (.array .byte), .int, .int], returnType := some .int }, accessFlags := 9, code := some k9c3 }
/-- java/lang/StringUTF16 -/
def k9 : Class := { plain "java/lang/StringUTF16" (some 0) with
  accessFlags := 48
  interfaces := #[]
  cf := some (fileOf pool9 12 #[.nestMembers #[627, 629, 369]] #[{ accessFlags := 0, nameIndex := 9, descriptorIndex := 10, attributes := #[] }, { accessFlags := 8, nameIndex := 261, descriptorIndex := 262, attributes := #[] }, { accessFlags := 9, nameIndex := 117, descriptorIndex := 122, attributes := #[] }, { accessFlags := 9, nameIndex := 117, descriptorIndex := 118, attributes := #[] }] 48 6 #[] #[{ accessFlags := 26, nameIndex := 61, descriptorIndex := 62, attributes := #[] }, { accessFlags := 26, nameIndex := 65, descriptorIndex := 62, attributes := #[] }, { accessFlags := 24, nameIndex := 430, descriptorIndex := 62, attributes := #[] }, { accessFlags := 4120, nameIndex := 46, descriptorIndex := 47, attributes := #[] }])
  fields := #[{ name := "HI_BYTE_SHIFT", type := .int, accessFlags := 26, slot := 0, constantValue := 0 }, { name := "LO_BYTE_SHIFT", type := .int, accessFlags := 26, slot := 1, constantValue := 0 }, { name := "MAX_LENGTH", type := .int, accessFlags := 24, slot := 2, constantValue := 0 }, { name := "$assertionsDisabled", type := .boolean, accessFlags := 4120, slot := 3, constantValue := 0 }]
  methods := #[k9m0, k9m1, k9m2, k9m3]
  instanceTypes := #[]
  staticTypes := #[.int, .int, .int, .boolean]
  resolved := Array.replicate 635 none
  statics := none }

def pool10 : Array CpInfo := pool [(1, .class_ 2), (0, u "java/lang/String"), (1, .class_ 6), (1, u "java/lang/Object"), (0, u "<init>"), (0, u "()V"), (0, .methodref 1 10), (0, .nameAndType 11 12), (0, u "checkIndex"), (0, u "(II)V"), (1, .class_ 16), (1, u "java/lang/StringLatin1"), (36, u "([BI)C"), (67, u "$assertionsDisabled"), (0, u "Z"), (98, .class_ 223), (1, u "java/lang/StringLatin1$LinesSpliterator"), (28, u "charAt"), (137, .class_ 391), (0, u "java/lang/StringLatin1$CharsSpliterator")] 3

def k10m0 : Method := { name := "<init>", desc := "()V", sig := { parameters := [], returnType := none }, accessFlags := 0, code := none }
def k10c1 : Code := { maxStack := 2, maxLocals := 2, code := jdk_43_method_2_code, exceptionTable := #[], attributes := #[] }
def k10m1 : Method := { name := "charAt", desc := "([BI)C", sig := { parameters := [(.array .byte), .int], returnType := some .char }, accessFlags := 9, code := some k10c1 }
/-- java/lang/StringLatin1 -/
def k10 : Class := { plain "java/lang/StringLatin1" (some 0) with
  accessFlags := 48
  interfaces := #[]
  cf := some (fileOf pool10 14 #[.nestMembers #[390, 221]] #[{ accessFlags := 0, nameIndex := 7, descriptorIndex := 8, attributes := #[] }, { accessFlags := 9, nameIndex := 252, descriptorIndex := 53, attributes := #[] }] 48 4 #[] #[{ accessFlags := 4120, nameIndex := 121, descriptorIndex := 122, attributes := #[] }])
  fields := #[{ name := "$assertionsDisabled", type := .boolean, accessFlags := 4120, slot := 0, constantValue := 0 }]
  methods := #[k10m0, k10m1]
  instanceTypes := #[]
  staticTypes := #[.boolean]
  resolved := Array.replicate 395 none
  statics := none }

def pool11 : Array CpInfo := pool [(2, .class_ 4), (1, u "java/lang/Object"), (0, u "<init>"), (0, u "()V"), (17, .class_ 26), (1, u "jdk/internal/util/Preconditions"), (6, u "checkIndex"), (21, .class_ 56), (0, u "jdk/internal/util/Preconditions$4"), (57, .class_ 115), (0, u "jdk/internal/util/Preconditions$1"), (7, u "SIOOBE_FORMATTER"), (0, u "Ljava/util/function/BiFunction;"), (0, .class_ 126), (0, u "jdk/internal/util/Preconditions$2"), (3, u "AIOOBE_FORMATTER"), (0, .class_ 132), (0, u "jdk/internal/util/Preconditions$3"), (3, u "IOOBE_FORMATTER"), (41, u "(IILjava/util/function/BiFunction;)I")] 15

def k11m0 : Method := { name := "<init>", desc := "()V", sig := { parameters := [], returnType := none }, accessFlags := 1, code := none }
def k11c1 : Code := { maxStack := 3, maxLocals := 3, code := jdk_41_method_11_code, exceptionTable := #[], attributes := #[] }
def k11m1 : Method := { name := "checkIndex", desc := "(IILjava/util/function/BiFunction;)I", sig := { parameters := [.int, .int, (.object "java/util/function/BiFunction")], returnType := some .int }, accessFlags := 9, code := some k11c1 }
/-- jdk/internal/util/Preconditions -/
def k11 : Class := { plain "jdk/internal/util/Preconditions" (some 0) with
  accessFlags := 33
  interfaces := #[]
  cf := some (fileOf pool11 24 #[.nestMembers #[55, 131, 125, 114]] #[{ accessFlags := 1, nameIndex := 5, descriptorIndex := 6, attributes := #[] }, { accessFlags := 9, nameIndex := 33, descriptorIndex := 178, attributes := #[] }] 33 2 #[] #[{ accessFlags := 25, nameIndex := 123, descriptorIndex := 124, attributes := #[] }, { accessFlags := 25, nameIndex := 130, descriptorIndex := 124, attributes := #[] }, { accessFlags := 25, nameIndex := 136, descriptorIndex := 124, attributes := #[] }])
  fields := #[{ name := "SIOOBE_FORMATTER", type := (.object "java/util/function/BiFunction"), accessFlags := 25, slot := 0, constantValue := 0 }, { name := "AIOOBE_FORMATTER", type := (.object "java/util/function/BiFunction"), accessFlags := 25, slot := 1, constantValue := 0 }, { name := "IOOBE_FORMATTER", type := (.object "java/util/function/BiFunction"), accessFlags := 25, slot := 2, constantValue := 0 }]
  methods := #[k11m0, k11m1]
  instanceTypes := #[]
  staticTypes := #[(.object "java/util/function/BiFunction"), (.object "java/util/function/BiFunction"), (.object "java/util/function/BiFunction")]
  resolved := Array.replicate 194 none
  statics := some 2 }

def pool12 : Array CpInfo := pool [(9, u "<init>"), (6, .class_ 18), (1, u "java/lang/Object"), (0, u "()V"), (1, .class_ 23), (1, u "jdk/internal/util/ArraysSupport"), (0, u "LOG2_ARRAY_LONG_INDEX_SCALE"), (0, u "I"), (2, u "U"), (0, u "Ljdk/internal/misc/Unsafe;"), (8, u "BIG_ENDIAN"), (0, u "Z"), (8, u "LOG2_BYTE_BIT_SIZE"), (4, u "LOG2_ARRAY_INT_INDEX_SCALE"), (54, u "JLA"), (0, u "Ljdk/internal/access/JavaLangAccess;"), (11, u "LOG2_ARRAY_BOOLEAN_INDEX_SCALE"), (9, u "LOG2_ARRAY_BYTE_INDEX_SCALE"), (5, u "LOG2_ARRAY_CHAR_INDEX_SCALE"), (5, u "LOG2_ARRAY_SHORT_INDEX_SCALE"), (18, u "LOG2_ARRAY_FLOAT_INDEX_SCALE"), (24, u "LOG2_ARRAY_DOUBLE_INDEX_SCALE"), (89, u "T_BOOLEAN"), (2, u "T_CHAR"), (1, u "T_FLOAT"), (1, u "T_DOUBLE"), (1, u "T_BYTE"), (1, u "T_SHORT"), (1, u "T_INT"), (1, u "T_LONG"), (1, u "SOFT_MAX_ARRAY_LENGTH")] 83

def k12m0 : Method := { name := "<init>", desc := "()V", sig := { parameters := [], returnType := none }, accessFlags := 2, code := none }
/-- jdk/internal/util/ArraysSupport -/
def k12 : Class := { plain "jdk/internal/util/ArraysSupport" (some 0) with
  accessFlags := 33
  interfaces := #[]
  cf := some (fileOf pool12 21 #[] #[{ accessFlags := 2, nameIndex := 9, descriptorIndex := 19, attributes := #[] }] 33 16 #[] #[{ accessFlags := 24, nameIndex := 28, descriptorIndex := 29, attributes := #[] }, { accessFlags := 26, nameIndex := 38, descriptorIndex := 39, attributes := #[] }, { accessFlags := 25, nameIndex := 121, descriptorIndex := 25, attributes := #[] }, { accessFlags := 25, nameIndex := 131, descriptorIndex := 25, attributes := #[] }, { accessFlags := 25, nameIndex := 137, descriptorIndex := 25, attributes := #[] }, { accessFlags := 25, nameIndex := 143, descriptorIndex := 25, attributes := #[] }, { accessFlags := 25, nameIndex := 53, descriptorIndex := 25, attributes := #[] }, { accessFlags := 25, nameIndex := 24, descriptorIndex := 25, attributes := #[] }, { accessFlags := 25, nameIndex := 162, descriptorIndex := 25, attributes := #[] }, { accessFlags := 25, nameIndex := 187, descriptorIndex := 25, attributes := #[] }, { accessFlags := 26, nameIndex := 48, descriptorIndex := 25, attributes := #[] }, { accessFlags := 25, nameIndex := 277, descriptorIndex := 25, attributes := #[] }, { accessFlags := 25, nameIndex := 280, descriptorIndex := 25, attributes := #[] }, { accessFlags := 25, nameIndex := 282, descriptorIndex := 25, attributes := #[] }, { accessFlags := 25, nameIndex := 284, descriptorIndex := 25, attributes := #[] }, { accessFlags := 25, nameIndex := 286, descriptorIndex := 25, attributes := #[] }, { accessFlags := 25, nameIndex := 288, descriptorIndex := 25, attributes := #[] }, { accessFlags := 25, nameIndex := 290, descriptorIndex := 25, attributes := #[] }, { accessFlags := 25, nameIndex := 292, descriptorIndex := 25, attributes := #[] }, { accessFlags := 26, nameIndex := 108, descriptorIndex := 109, attributes := #[] }, { accessFlags := 25, nameIndex := 294, descriptorIndex := 25, attributes := #[] }])
  fields := #[{ name := "U", type := (.object "jdk/internal/misc/Unsafe"), accessFlags := 24, slot := 0, constantValue := 0 }, { name := "BIG_ENDIAN", type := .boolean, accessFlags := 26, slot := 1, constantValue := 0 }, { name := "LOG2_ARRAY_BOOLEAN_INDEX_SCALE", type := .int, accessFlags := 25, slot := 2, constantValue := 0 }, { name := "LOG2_ARRAY_BYTE_INDEX_SCALE", type := .int, accessFlags := 25, slot := 3, constantValue := 0 }, { name := "LOG2_ARRAY_CHAR_INDEX_SCALE", type := .int, accessFlags := 25, slot := 4, constantValue := 0 }, { name := "LOG2_ARRAY_SHORT_INDEX_SCALE", type := .int, accessFlags := 25, slot := 5, constantValue := 0 }, { name := "LOG2_ARRAY_INT_INDEX_SCALE", type := .int, accessFlags := 25, slot := 6, constantValue := 0 }, { name := "LOG2_ARRAY_LONG_INDEX_SCALE", type := .int, accessFlags := 25, slot := 7, constantValue := 0 }, { name := "LOG2_ARRAY_FLOAT_INDEX_SCALE", type := .int, accessFlags := 25, slot := 8, constantValue := 0 }, { name := "LOG2_ARRAY_DOUBLE_INDEX_SCALE", type := .int, accessFlags := 25, slot := 9, constantValue := 0 }, { name := "LOG2_BYTE_BIT_SIZE", type := .int, accessFlags := 26, slot := 10, constantValue := 0 }, { name := "T_BOOLEAN", type := .int, accessFlags := 25, slot := 11, constantValue := 0 }, { name := "T_CHAR", type := .int, accessFlags := 25, slot := 12, constantValue := 0 }, { name := "T_FLOAT", type := .int, accessFlags := 25, slot := 13, constantValue := 0 }, { name := "T_DOUBLE", type := .int, accessFlags := 25, slot := 14, constantValue := 0 }, { name := "T_BYTE", type := .int, accessFlags := 25, slot := 15, constantValue := 0 }, { name := "T_SHORT", type := .int, accessFlags := 25, slot := 16, constantValue := 0 }, { name := "T_INT", type := .int, accessFlags := 25, slot := 17, constantValue := 0 }, { name := "T_LONG", type := .int, accessFlags := 25, slot := 18, constantValue := 0 }, { name := "JLA", type := (.object "jdk/internal/access/JavaLangAccess"), accessFlags := 26, slot := 19, constantValue := 0 }, { name := "SOFT_MAX_ARRAY_LENGTH", type := .int, accessFlags := 25, slot := 20, constantValue := 0 }]
  methods := #[k12m0]
  instanceTypes := #[]
  staticTypes := #[(.object "jdk/internal/misc/Unsafe"), .boolean, .int, .int, .int, .int, .int, .int, .int, .int, .int, .int, .int, .int, .int, .int, .int, .int, .int, (.object "jdk/internal/access/JavaLangAccess"), .int]
  resolved := Array.replicate 378 none
  statics := none }

def pool13 : Array CpInfo := pool [(1, u "java/lang/Cloneable"), (0, .class_ 1), (0, u "java/lang/Object"), (0, .class_ 3)] 3

/-- java/lang/Cloneable -/
def k13 : Class := { plain "java/lang/Cloneable" (some 0) with
  accessFlags := 1537
  interfaces := #[]
  cf := some (fileOf pool13 2 #[] #[] 1537 4 #[] #[])
  fields := #[]
  methods := #[]
  instanceTypes := #[]
  staticTypes := #[]
  resolved := Array.replicate 8 none
  statics := none }

/-- the primitive byte -/
def k14 : Class := { plain "byte" none with kind := .primitive 'B', accessFlags := 0x411 }
/-- [B -/
def k15 : Class := { plain "[B" (some 0) with kind := .array 14 .byte, interfaces := #[13, 3], accessFlags := 1041 }

/-- the primitive char -/
def k16 : Class := { plain "char" none with kind := .primitive 'C', accessFlags := 0x411 }
/-- [C -/
def k17 : Class := { plain "[C" (some 0) with kind := .array 16 .char, interfaces := #[13, 3], accessFlags := 1041 }

/-- the primitive int -/
def k18 : Class := { plain "int" none with kind := .primitive 'I', accessFlags := 0x411 }
/-- [I -/
def k19 : Class := { plain "[I" (some 0) with kind := .array 18 .int, interfaces := #[13, 3], accessFlags := 1041 }

def heap : Heap := #[{ cls := 2, slots := #[.ref 3], vm := .statics 2 },
  { cls := 8, slots := #[.long 0, .int 1, .null, .int 0, .null, .int 0, .int 0], vm := .statics 8 },
  { cls := 11, slots := #[.null, .null, .null], vm := .statics 11 },
  { cls := 17, slots := #[.int 48, .int 49, .int 50, .int 51, .int 52, .int 53, .int 54, .int 55, .int 56, .int 57, .int 65, .int 66, .int 67, .int 68, .int 69, .int 70], vm := .none }]
def classes : Array Class := #[k0, k1, k2, k3, k4, k5, k6, k7, k8, k9, k10, k11, k12, k13, k14, k15, k16, k17, k18, k19]
def interned : List (Array UInt16 × Addr) := []
def slotsUsed : Nat := 27
def theMethod : MethodId := ⟨1, 1⟩
def args0 : Array Value := #[.int 1, .int 7, .int 5, .int 7, .int 9]
def aboutOver (below : List Frame) : State where
  vm := { classes := classes, interned := interned.toArray }
  heap := heap
  slotsUsed := slotsUsed
  threads := #[{ frames := .invoking theMethod args0 :: below }]
def below0 : List Frame := [.native { method := ⟨0, 0⟩, args := #[] }]
def about1 : State := aboutOver below0
def p0 : Program := .bare "" "" ""
def e0 : Env := launch0.env 0 0 0
theorem w_frames : about1.frames = Frame.invoking theMethod args0 :: below0 := rfl
set_option maxRecDepth 65536 in
theorem w_args : argsFit about1.vm theMethod args0 = true := by decide +kernel
set_option maxRecDepth 65536 in
theorem w_heap : heapFits about1 = true := by decide +kernel
set_option maxRecDepth 65536 in
theorem w_runnable : about1.curStatus? = some .runnable := by decide +kernel
set_option maxRecDepth 65536 in
theorem w_alone : about1.alone = true := by decide +kernel
set_option maxRecDepth 65536 in
theorem w_named : about1.methodNamed? x = some theMethod := by decide +kernel
set_option maxRecDepth 65536 in
theorem w_hears : about1.hears theMethod below0 = true := by decide +kernel
set_option maxRecDepth 65536 in
theorem w_ripe : about1.ripe theMethod args0 below0 = true := by decide +kernel
theorem w_running : about1.status = .running := rfl
set_option maxRecDepth 65536 in
theorem w_room : about1.hasRoom e0.platform room_1 = true :=
  launch0.hasRoom_least _ room_1 (by decide +kernel) (by decide +kernel) (by decide +kernel) (by decide +kernel) (by decide +kernel) (by decide +kernel)
theorem allAtoms_all (ts : List Jvm.Cond) (a : Array Jvm.Value) (st : Jvm.State) : (allAtoms ts).before a st = ts.all (fun c => c.before a st) := by
  induction ts with
  | nil => rfl
  | cons c t ih =>
    show (Jvm.Cond.and c (allAtoms t)).before a st = _
    rw [Jvm.Cond.before_and, ih, List.all_cons]
def words1 : List Jvm.Cond := Jvm.Cond.code x code maxLocals ret :: tables_1
/-- a 'code' word, met by the world's own term for the bytes: nothing is compared byte by byte -/
theorem code_word {y : MethodName} {bytes : ByteArray} {mx : Nat} {rt : Option FieldType} {a : Array Value} {s : State} {m : MethodId} {meth : Method} {c : Code} (h1 : s.methodNamed? y = some m) (h2 : s.vm.method? m = some meth) (h3 : meth.code = some c) (h4 : c.code = bytes)
    (h5 : (c.maxLocals == mx && c.exceptionTable.isEmpty && decide (c.maxStack ≤ mostOperands) && decide (meth.sig.returnType = rt) && !meth.locks && decide (parseMethodDescriptor y.desc = some meth.sig)) = true) : (Jvm.Cond.code y bytes mx rt).before a s = true := by
  simp only [Bool.and_eq_true, beq_iff_eq, Bool.not_eq_true', decide_eq_true_eq] at h5
  obtain ⟨⟨⟨⟨⟨g1, g2⟩, g3⟩, g4⟩, g5⟩, g6⟩ := h5
  simp [Cond.before, Cond.holds, Cond.value, h1, h2, h3, h4, g1, g2, g3, g4, g5, g6]
def isCode : Jvm.Cond → Bool
  | .code _ _ _ _ => true
  | _ => false
theorem all_split {L : List Jvm.Cond} {P : Jvm.Cond → Bool} (h1 : L.all (fun c => isCode c || P c) = true) (h2 : ∀ c ∈ L.filter isCode, P c = true) : L.all P = true := by
  refine List.all_eq_true.mpr fun c hc => ?_
  have h := List.all_eq_true.mp h1 c hc
  rcases Bool.eq_false_or_eq_true (isCode c) with hi | hi
  · exact h2 c (List.mem_filter.mpr ⟨hc, hi⟩)
  · simpa [hi] using h
set_option maxRecDepth 65536 in
theorem w_c0 : (Jvm.Cond.code x code maxLocals ret).before args0 about1 = true := code_word (m := ⟨1, 1⟩) (meth := k1m1) (c := k1c1) (by decide +kernel) rfl rfl rfl (by decide +kernel)
set_option maxRecDepth 65536 in
theorem w_c1 : (Jvm.Cond.code ({ cls := "ridgecard/Hex", name := "format", desc := "([B)Ljava/lang/String;" } : Jvm.MethodName) prog_19_method_3_code (3 : Nat) (Option.some (Jvm.ClassFile.FieldType.object "java/lang/String"))).before args0 about1 = true := code_word (m := ⟨2, 1⟩) (meth := k2m1) (c := k2c1) (by decide +kernel) rfl rfl rfl (by decide +kernel)
set_option maxRecDepth 65536 in
theorem w_c2 : (Jvm.Cond.code ({ cls := "java/lang/String", name := "<init>", desc := "([C)V" } : Jvm.MethodName) jdk_42_method_3_code (2 : Nat) (Option.none : Option Jvm.ClassFile.FieldType)).before args0 about1 = true := code_word (m := ⟨8, 1⟩) (meth := k8m1) (c := k8c1) (by decide +kernel) rfl rfl rfl (by decide +kernel)
set_option maxRecDepth 65536 in
theorem w_c3 : (Jvm.Cond.code ({ cls := "java/lang/String", name := "<init>", desc := "([CIILjava/lang/Void;)V" } : Jvm.MethodName) jdk_42_method_149_code (6 : Nat) (Option.none : Option Jvm.ClassFile.FieldType)).before args0 about1 = true := code_word (m := ⟨8, 4⟩) (meth := k8m4) (c := k8c4) (by decide +kernel) rfl rfl rfl (by decide +kernel)
set_option maxRecDepth 65536 in
theorem w_c4 : (Jvm.Cond.code ({ cls := "java/lang/Object", name := "<init>", desc := "()V" } : Jvm.MethodName) object_method_1_code (1 : Nat) (Option.none : Option Jvm.ClassFile.FieldType)).before args0 about1 = true := code_word (m := ⟨0, 0⟩) (meth := k0m0) (c := k0c0) (by decide +kernel) rfl rfl rfl (by decide +kernel)
set_option maxRecDepth 65536 in
theorem w_c5 : (Jvm.Cond.code ({ cls := "java/lang/String", name := "length", desc := "()I" } : Jvm.MethodName) jdk_42_method_54_code (1 : Nat) (Option.some Jvm.ClassFile.FieldType.int)).before args0 about1 = true := code_word (m := ⟨8, 2⟩) (meth := k8m2) (c := k8c2) (by decide +kernel) rfl rfl rfl (by decide +kernel)
set_option maxRecDepth 65536 in
theorem w_c6 : (Jvm.Cond.code ({ cls := "java/lang/String", name := "coder", desc := "()B" } : Jvm.MethodName) jdk_42_method_152_code (1 : Nat) (Option.some Jvm.ClassFile.FieldType.byte)).before args0 about1 = true := code_word (m := ⟨8, 5⟩) (meth := k8m5) (c := k8c5) (by decide +kernel) rfl rfl rfl (by decide +kernel)
set_option maxRecDepth 65536 in
theorem w_c7 : (Jvm.Cond.code ({ cls := "java/lang/StringUTF16", name := "compress", desc := "([CII)[B" } : Jvm.MethodName) jdk_52_method_16_code (6 : Nat) (Option.some (Jvm.ClassFile.FieldType.array Jvm.ClassFile.FieldType.byte))).before args0 about1 = true := code_word (m := ⟨9, 2⟩) (meth := k9m2) (c := k9c2) (by decide +kernel) rfl rfl rfl (by decide +kernel)
set_option maxRecDepth 65536 in
theorem w_c8 : (Jvm.Cond.code ({ cls := "java/lang/StringUTF16", name := "compress", desc := "([CI[BII)I" } : Jvm.MethodName) jdk_52_method_21_code (7 : Nat) (Option.some Jvm.ClassFile.FieldType.int)).before args0 about1 = true := code_word (m := ⟨9, 3⟩) (meth := k9m3) (c := k9c3) (by decide +kernel) rfl rfl rfl (by decide +kernel)
set_option maxRecDepth 65536 in
theorem w_c9 : (Jvm.Cond.code ({ cls := "java/lang/StringUTF16", name := "coderFromArrayLen", desc := "([BI)B" } : Jvm.MethodName) jdk_52_method_15_code (2 : Nat) (Option.some Jvm.ClassFile.FieldType.byte)).before args0 about1 = true := code_word (m := ⟨9, 1⟩) (meth := k9m1) (c := k9c1) (by decide +kernel) rfl rfl rfl (by decide +kernel)
set_option maxRecDepth 65536 in
theorem w_c10 : (Jvm.Cond.code ({ cls := "ridgecard/HexFormatPinLaw", name := "pair", desc := "(Ljava/lang/String;II)Z" } : Jvm.MethodName) method_4_code (4 : Nat) (Option.some Jvm.ClassFile.FieldType.boolean)).before args0 about1 = true := code_word (m := ⟨1, 3⟩) (meth := k1m3) (c := k1c3) (by decide +kernel) rfl rfl rfl (by decide +kernel)
set_option maxRecDepth 65536 in
theorem w_c11 : (Jvm.Cond.code ({ cls := "java/lang/String", name := "charAt", desc := "(I)C" } : Jvm.MethodName) jdk_42_method_56_code (2 : Nat) (Option.some Jvm.ClassFile.FieldType.char)).before args0 about1 = true := code_word (m := ⟨8, 3⟩) (meth := k8m3) (c := k8c3) (by decide +kernel) rfl rfl rfl (by decide +kernel)
set_option maxRecDepth 65536 in
theorem w_c12 : (Jvm.Cond.code ({ cls := "java/lang/String", name := "isLatin1", desc := "()Z" } : Jvm.MethodName) jdk_42_method_154_code (1 : Nat) (Option.some Jvm.ClassFile.FieldType.boolean)).before args0 about1 = true := code_word (m := ⟨8, 6⟩) (meth := k8m6) (c := k8c6) (by decide +kernel) rfl rfl rfl (by decide +kernel)
set_option maxRecDepth 65536 in
theorem w_c13 : (Jvm.Cond.code ({ cls := "java/lang/StringLatin1", name := "charAt", desc := "([BI)C" } : Jvm.MethodName) jdk_43_method_2_code (2 : Nat) (Option.some Jvm.ClassFile.FieldType.char)).before args0 about1 = true := code_word (m := ⟨10, 1⟩) (meth := k10m1) (c := k10c1) (by decide +kernel) rfl rfl rfl (by decide +kernel)
set_option maxRecDepth 65536 in
theorem w_c14 : (Jvm.Cond.code ({ cls := "java/lang/String", name := "checkIndex", desc := "(II)V" } : Jvm.MethodName) jdk_42_method_155_code (2 : Nat) (Option.none : Option Jvm.ClassFile.FieldType)).before args0 about1 = true := code_word (m := ⟨8, 7⟩) (meth := k8m7) (c := k8c7) (by decide +kernel) rfl rfl rfl (by decide +kernel)
set_option maxRecDepth 65536 in
theorem w_c15 : (Jvm.Cond.code ({ cls := "jdk/internal/util/Preconditions", name := "checkIndex", desc := "(IILjava/util/function/BiFunction;)I" } : Jvm.MethodName) jdk_41_method_11_code (3 : Nat) (Option.some Jvm.ClassFile.FieldType.int)).before args0 about1 = true := code_word (m := ⟨11, 1⟩) (meth := k11m1) (c := k11c1) (by decide +kernel) rfl rfl rfl (by decide +kernel)
set_option maxRecDepth 65536 in
theorem w_c16 : (Jvm.Cond.code ({ cls := "ridgecard/HexFormatPinLaw", name := "digit", desc := "(I)C" } : Jvm.MethodName) method_3_code (1 : Nat) (Option.some Jvm.ClassFile.FieldType.char)).before args0 about1 = true := code_word (m := ⟨1, 2⟩) (meth := k1m2) (c := k1c2) (by decide +kernel) rfl rfl rfl (by decide +kernel)
def codes1 : List Jvm.Cond := [Jvm.Cond.code x code maxLocals ret, Jvm.Cond.code ({ cls := "ridgecard/Hex", name := "format", desc := "([B)Ljava/lang/String;" } : Jvm.MethodName) prog_19_method_3_code (3 : Nat) (Option.some (Jvm.ClassFile.FieldType.object "java/lang/String")), Jvm.Cond.code ({ cls := "java/lang/String", name := "<init>", desc := "([C)V" } : Jvm.MethodName) jdk_42_method_3_code (2 : Nat) (Option.none : Option Jvm.ClassFile.FieldType), Jvm.Cond.code ({ cls := "java/lang/String", name := "<init>", desc := "([CIILjava/lang/Void;)V" } : Jvm.MethodName) jdk_42_method_149_code (6 : Nat) (Option.none : Option Jvm.ClassFile.FieldType), Jvm.Cond.code ({ cls := "java/lang/Object", name := "<init>", desc := "()V" } : Jvm.MethodName) object_method_1_code (1 : Nat) (Option.none : Option Jvm.ClassFile.FieldType), Jvm.Cond.code ({ cls := "java/lang/String", name := "length", desc := "()I" } : Jvm.MethodName) jdk_42_method_54_code (1 : Nat) (Option.some Jvm.ClassFile.FieldType.int), Jvm.Cond.code ({ cls := "java/lang/String", name := "coder", desc := "()B" } : Jvm.MethodName) jdk_42_method_152_code (1 : Nat) (Option.some Jvm.ClassFile.FieldType.byte), Jvm.Cond.code ({ cls := "java/lang/StringUTF16", name := "compress", desc := "([CII)[B" } : Jvm.MethodName) jdk_52_method_16_code (6 : Nat) (Option.some (Jvm.ClassFile.FieldType.array Jvm.ClassFile.FieldType.byte)), Jvm.Cond.code ({ cls := "java/lang/StringUTF16", name := "compress", desc := "([CI[BII)I" } : Jvm.MethodName) jdk_52_method_21_code (7 : Nat) (Option.some Jvm.ClassFile.FieldType.int), Jvm.Cond.code ({ cls := "java/lang/StringUTF16", name := "coderFromArrayLen", desc := "([BI)B" } : Jvm.MethodName) jdk_52_method_15_code (2 : Nat) (Option.some Jvm.ClassFile.FieldType.byte), Jvm.Cond.code ({ cls := "ridgecard/HexFormatPinLaw", name := "pair", desc := "(Ljava/lang/String;II)Z" } : Jvm.MethodName) method_4_code (4 : Nat) (Option.some Jvm.ClassFile.FieldType.boolean), Jvm.Cond.code ({ cls := "java/lang/String", name := "charAt", desc := "(I)C" } : Jvm.MethodName) jdk_42_method_56_code (2 : Nat) (Option.some Jvm.ClassFile.FieldType.char), Jvm.Cond.code ({ cls := "java/lang/String", name := "isLatin1", desc := "()Z" } : Jvm.MethodName) jdk_42_method_154_code (1 : Nat) (Option.some Jvm.ClassFile.FieldType.boolean), Jvm.Cond.code ({ cls := "java/lang/StringLatin1", name := "charAt", desc := "([BI)C" } : Jvm.MethodName) jdk_43_method_2_code (2 : Nat) (Option.some Jvm.ClassFile.FieldType.char), Jvm.Cond.code ({ cls := "java/lang/String", name := "checkIndex", desc := "(II)V" } : Jvm.MethodName) jdk_42_method_155_code (2 : Nat) (Option.none : Option Jvm.ClassFile.FieldType), Jvm.Cond.code ({ cls := "jdk/internal/util/Preconditions", name := "checkIndex", desc := "(IILjava/util/function/BiFunction;)I" } : Jvm.MethodName) jdk_41_method_11_code (3 : Nat) (Option.some Jvm.ClassFile.FieldType.int), Jvm.Cond.code ({ cls := "ridgecard/HexFormatPinLaw", name := "digit", desc := "(I)C" } : Jvm.MethodName) method_3_code (1 : Nat) (Option.some Jvm.ClassFile.FieldType.char)]
set_option maxRecDepth 65536 in
theorem codes_eq : words1.filter isCode = codes1 := rfl
theorem w_codes : ∀ c ∈ words1.filter isCode, c.before args0 about1 = true := by
  rw [codes_eq]
  intro c hc
  simp only [codes1, List.mem_cons, List.not_mem_nil, or_false] at hc
  rcases hc with rfl | rfl | rfl | rfl | rfl | rfl | rfl | rfl | rfl | rfl | rfl | rfl | rfl | rfl | rfl | rfl | rfl
  · exact w_c0
  · exact w_c1
  · exact w_c2
  · exact w_c3
  · exact w_c4
  · exact w_c5
  · exact w_c6
  · exact w_c7
  · exact w_c8
  · exact w_c9
  · exact w_c10
  · exact w_c11
  · exact w_c12
  · exact w_c13
  · exact w_c14
  · exact w_c15
  · exact w_c16
set_option maxRecDepth 65536 in
theorem w_t1 : (words1.take 24).all (fun c => isCode c || c.before args0 about1) = true := by decide +kernel
set_option maxRecDepth 65536 in
theorem w_t2 : ((words1.drop 24).take 24).all (fun c => isCode c || c.before args0 about1) = true := by decide +kernel
set_option maxRecDepth 65536 in
theorem w_t3 : (((words1.drop 24).drop 24).take 24).all (fun c => isCode c || c.before args0 about1) = true := by decide +kernel
set_option maxRecDepth 65536 in
theorem w_t4 : (((words1.drop 24).drop 24).drop 24).all (fun c => isCode c || c.before args0 about1) = true := by decide +kernel
theorem w_tables : (allAtoms (Jvm.Cond.code x code maxLocals ret :: tables_1)).before args0 about1 = true := by
  rw [allAtoms_all]
  show words1.all (fun c => c.before args0 about1) = true
  refine all_split ?_ w_codes
  rw [← List.take_append_drop 24 words1, List.all_append, w_t1, ← List.take_append_drop 24 (words1.drop 24), List.all_append, w_t2, ← List.take_append_drop 24 ((words1.drop 24).drop 24), List.all_append, w_t3, w_t4]
  rfl
set_option maxRecDepth 65536 in
theorem w_rest : rest_1_c.before args0 about1 = true := by decide +kernel
set_option maxRecDepth 65536 in
theorem w_case : (Jvm.Cond.and given_1 narrow_1).before args0 about1 = true := by decide +kernel
set_option maxRecDepth 65536 in
theorem w_consts : constsHeld consts_1 about1 := Jvm.Lit.constsHeldB_iff.mp (by decide +kernel)
theorem w_applies : (headSpec (Jvm.Cond.code x code maxLocals ret :: tables_1) room_1).applies x e0.platform about1 = true :=
  (Spec.applies_iff w_frames).mpr ⟨w_running, w_runnable, w_alone, w_named, w_hears, w_ripe, w_room, w_tables⟩
theorem atStart : AtStart classFile x code maxLocals ret World_1 tables_1 room_1 Calls_1 rest_1 Pre_1 launch0 p0 e0 about1 theMethod args0 below0 :=
  ⟨lists_1, trivial, launch0.admits_env _ _ _, launch0.least_env, fairChoices_fair.cas, fairChoices_fair.clock, w_frames, w_args, w_heap, w_applies, ⟨w_consts, trivial⟩, w_rest, w_case⟩
end start1
theorem witness_1 : WitnessClaimed_1 := ⟨start1.p0, start1.e0, start1.about1, start1.theMethod, start1.args0, start1.below0, start1.atStart⟩
end Jvm.Pilot.@@N@@
