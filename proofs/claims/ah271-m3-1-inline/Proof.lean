import JvmDerived
import JvmDerived.Pilot.@@N@@Statement
import JvmDerived.Pilot.@@N@@Code
set_option linter.unusedVariables false
set_option linter.unusedSimpArgs false
namespace Jvm.Pilot.@@N@@
open Jvm Jvm.ClassFile Sem Op Lib Jvm.Free Jvm.Stand Jvm.LawKit Jvm.RoadKit Bundle Jvm.Pilot.@@N@@.Jvm.D
namespace Wd
section Inv
variable {Z : State} {EL : List (String × Nat)} {n0 : Nat} {vm vm1 : Vm} {h h' : Heap} {WL FL : List Addr}
/-- of tables vm and heap h: the constants EL say their text; the start's cells stand; WL: cells of our own making that are no constant's; FL: other cells -/
def Inv (Z : State) (EL : List (String × Nat)) (n0 : Nat) (vm : Vm) (h : Heap) (WL FL : List Addr) : Prop :=
  (∃ a0, EW Z a0 EL) ∧ CHv Z EL vm h ∧ Old Z n0 h ∧ (∀ x ∈ WL, n0 ≤ x ∧ x < h.size ∧ Safe Z EL vm h x) ∧ WL.Nodup ∧ ∀ y ∈ FL, y < h.size ∧ y ∉ WL
theorem Inv.ext (I : Inv Z EL n0 vm h WL FL) (E : Ext h h') : Inv Z EL n0 vm h' WL FL := by
  obtain ⟨i1, i2, i3, i4, i5, i6⟩ := I
  exact ⟨i1, CHv.ext E i2, i3.ext E, fun x hx => ⟨(i4 x hx).1, Nat.lt_of_lt_of_le (i4 x hx).2.1 E.1, Safe.ext E i2 (i4 x hx).2.2⟩, i5, fun y hy => ⟨Nat.lt_of_lt_of_le (i6 y hy).1 E.1, (i6 y hy).2⟩⟩
theorem Inv.keep {ws : List Addr} (I : Inv Z EL n0 vm h WL FL) (K : Keep h h' ws) (hs : ∀ x ∈ ws, x ∈ WL) : Inv Z EL n0 vm h' WL FL := by
  obtain ⟨i1, i2, i3, i4, i5, i6⟩ := I
  have q : ∀ x ∈ ws, Safe Z EL vm h x := fun x hx => (i4 x (hs x hx)).2.2
  exact ⟨i1, CHv.keep K q i2, i3.keep K (fun x hx => (i4 x (hs x hx)).1), fun x hx => ⟨(i4 x hx).1, Nat.lt_of_lt_of_le (i4 x hx).2.1 K.1, Safe.keep K q i2 (i4 x hx).2.2⟩, i5, fun y hy => ⟨Nat.lt_of_lt_of_le (i6 y hy).1 K.1, (i6 y hy).2⟩⟩
theorem Inv.wr {a : Addr} {sl : Nat} {v : Value} (I : Inv Z EL n0 vm h WL FL) (W : Wr h h' a sl v) (ha : a ∈ WL) : Inv Z EL n0 vm h' WL FL :=
  I.keep (Keep.of_wr W) (allS ha all0)
theorem Inv.new (I : Inv Z EL n0 vm h WL FL) (E : Ext h h') (hlt : h.size < h'.size) : Inv Z EL n0 vm h' (h.size :: WL) FL := by
  have J := I.ext E
  obtain ⟨i1, i2, i3, i4, i5, i6⟩ := I
  obtain ⟨j1, j2, j3, j4, j5, j6⟩ := J
  refine ⟨j1, j2, j3, fun x hx => ?_, ?_, fun y hy => ⟨(j6 y hy).1, fun q => ?_⟩⟩
  · rcases List.mem_cons.mp hx with rfl | hx
    · exact ⟨by rw [← i3.1]; exact i3.2.1, hlt, Safe.ext E i2 (Safe.new (Nat.le_refl _))⟩
    · exact j4 x hx
  · exact List.nodup_cons.mpr ⟨fun q => Nat.lt_irrefl _ (i4 _ q).2.1, j5⟩
  · rcases List.mem_cons.mp q with rfl | q
    · exact Nat.lt_irrefl _ (i6 _ hy).1
    · exact (j6 y hy).2 q
/-- another cell comes into sight -/
theorem Inv.adopt {y : Addr} (I : Inv Z EL n0 vm h WL FL) (h1 : y < h.size) (h2 : y ∉ WL) : Inv Z EL n0 vm h WL (y :: FL) := by
  obtain ⟨i1, i2, i3, i4, i5, i6⟩ := I
  refine ⟨i1, i2, i3, i4, i5, fun x hx => ?_⟩
  rcases List.mem_cons.mp hx with rfl | hx
  · exact ⟨h1, h2⟩
  · exact i6 x hx
/-- a cell of ours is given up -/
theorem Inv.drop {A B : List Addr} {t : Addr} (I : Inv Z EL n0 vm h (A ++ t :: B) FL) : Inv Z EL n0 vm h (A ++ B) (t :: FL) := by
  obtain ⟨i1, i2, i3, i4, i5, i6⟩ := I
  have m : ∀ x, x ∈ A ++ B → x ∈ A ++ t :: B := fun x hx => by
    rcases List.mem_append.mp hx with q | q
    · exact List.mem_append_left _ q
    · exact List.mem_append_right _ (List.mem_cons_of_mem _ q)
  have pm : (A ++ t :: B).Perm (t :: (A ++ B)) := List.perm_middle
  have nd := pm.nodup_iff.mp i5
  obtain ⟨n1, n2⟩ := List.nodup_cons.mp nd
  refine ⟨i1, i2, i3, fun x hx => i4 x (m x hx), n2, fun y hy => ?_⟩
  rcases List.mem_cons.mp hy with rfl | hy
  · exact ⟨(i4 _ (List.mem_append_right _ (List.mem_cons_self ..))).2.1, n1⟩
  · exact ⟨(i6 y hy).1, fun q => (i6 y hy).2 (m y q)⟩
/-- other cells are forgotten -/
theorem Inv.fl {FL2 : List Addr} (I : Inv Z EL n0 vm h WL FL) (q : ∀ y ∈ FL2, y ∈ FL) : Inv Z EL n0 vm h WL FL2 := by
  obtain ⟨i1, i2, i3, i4, i5, i6⟩ := I
  exact ⟨i1, i2, i3, i4, i5, fun y hy => i6 y (q y hy)⟩
theorem Inv.ne {i j : Nat} {a b : Addr} (I : Inv Z EL n0 vm h WL FL) (ha : WL[i]? = some a) (hb : WL[j]? = some b) (q : i ≠ j) : a ≠ b := fun e => by
  obtain ⟨i1, i2, i3, i4, i5, i6⟩ := I
  subst e
  obtain ⟨hi, e1⟩ := List.getElem?_eq_some_iff.mp ha
  obtain ⟨hj, e2⟩ := List.getElem?_eq_some_iff.mp hb
  have pw := List.pairwise_iff_getElem.mp i5
  rcases Nat.lt_or_gt_of_ne q with z | z
  · exact pw i j hi hj z (e1.trans e2.symm)
  · exact pw j i hj hi z (e2.trans e1.symm)
theorem Inv.neF {a b : Addr} (I : Inv Z EL n0 vm h WL FL) (ha : a ∈ FL) (hb : b ∈ WL) : a ≠ b := fun e => by
  subst e; exact (I.2.2.2.2.2 _ ha).2 hb
theorem Inv.neT {A B : List Addr} {a b : Addr} (I : Inv Z EL n0 vm h (A ++ B) FL) (ha : a ∈ A) (hb : b ∈ B) : a ≠ b := fun e => by
  subst e; exact (List.nodup_append.mp I.2.2.2.2.1).2.2 a ha a hb rfl
theorem Inv.ge {a : Addr} (I : Inv Z EL n0 vm h WL FL) (ha : a ∈ WL) : n0 ≤ a := (I.2.2.2.1 a ha).1
theorem Inv.lt {a : Addr} (I : Inv Z EL n0 vm h WL FL) (ha : a ∈ WL) : a < h.size := (I.2.2.2.1 a ha).2.1
theorem Inv.old (I : Inv Z EL n0 vm h WL FL) : Old Z n0 h := I.2.2.1
theorem Inv.n0le (I : Inv Z EL n0 vm h WL FL) : n0 ≤ h.size := by have q := I.old; rw [← q.1]; exact q.2.1
end Inv
section Walk
variable {p : Program} {l : Launch} {e : Env} {R : Room} {s : State} {m : MethodId} {args : Array Value} {below : List Frame} {meth : Method} {c : Code} {T T' : State} {cells slots : Nat} {Z : State} {EL : List (String × Nat)} {n0 : Nat} {own : String} {h h' : Heap} {WL FL : List Addr} {a0 : Array Value}
/-- where the walk stands -/
def WS (p : Program) (l : Launch) (e : Env) (R : Room) (s : State) (m : MethodId) (args : Array Value) (below : List Frame) (meth : Method) (c : Code) (Z : State) (EL : List (String × Nat)) (n0 : Nat) (own : String) (T : State) (h : Heap) (WL FL : List Addr) (cells slots : Nat) : Prop :=
  ∃ (vm0 : Vm) (k0 : Nat) (locs : List Loc), Stand p l e R (s.setVm vm0) m args below meth c T locs cells slots ∧ T.heap = h ∧ s.Since vm0 k0 ∧ k0 ≤ h.size ∧ Z.Warmed39 vm0 ∧ vm0.findClass own = some m.cls ∧ Fr n0 locs ∧ Inv Z EL n0 vm0 h WL FL
theorem WS.here (X : WS p l e R s m args below meth c Z EL n0 own T h WL FL cells slots) : At T m c below := by
  obtain ⟨_, _, _, X, -⟩ := X; exact X.here
theorem WS.hZ (X : WS p l e R s m args below meth c Z EL n0 own T h WL FL cells slots) : ∃ vm0, Inv Z EL n0 vm0 h WL FL := by
  obtain ⟨vm0, _, _, _, _, _, _, _, _, _, I⟩ := X; exact ⟨vm0, I⟩
theorem WS.old (X : WS p l e R s m args below meth c Z EL n0 own T h WL FL cells slots) : Old Z n0 h := by obtain ⟨_, I⟩ := X.hZ; exact I.old
theorem WS.n0le (X : WS p l e R s m args below meth c Z EL n0 own T h WL FL cells slots) : n0 ≤ h.size := by obtain ⟨_, I⟩ := X.hZ; exact I.n0le
theorem WS.ge {a : Addr} (X : WS p l e R s m args below meth c Z EL n0 own T h WL FL cells slots) (ha : a ∈ WL) : n0 ≤ a := by obtain ⟨_, I⟩ := X.hZ; exact I.ge ha
theorem WS.ne {i j : Nat} {a b : Addr} (X : WS p l e R s m args below meth c Z EL n0 own T h WL FL cells slots) (ha : WL[i]? = some a) (hb : WL[j]? = some b) (q : i ≠ j) : a ≠ b := by obtain ⟨_, I⟩ := X.hZ; exact I.ne ha hb q
theorem WS.neF {a b : Addr} (X : WS p l e R s m args below meth c Z EL n0 own T h WL FL cells slots) (ha : a ∈ FL) (hb : b ∈ WL) : a ≠ b := by obtain ⟨_, I⟩ := X.hZ; exact I.neF ha hb
theorem WS.neT {A B : List Addr} {a b : Addr} (X : WS p l e R s m args below meth c Z EL n0 own T h (A ++ B) FL cells slots) (ha : a ∈ A) (hb : b ∈ B) : a ≠ b := by obtain ⟨_, I⟩ := X.hZ; exact I.neT ha hb
theorem WS.sta {C n d : String} {v : Value} (X : WS p l e R s m args below meth c Z EL n0 own T h WL FL cells slots) (F : Sta Z Z.heap C n d v) : Sta Z h C n d v := F.ext X.old.2
theorem WS.drop {A B : List Addr} {t : Addr} (X : WS p l e R s m args below meth c Z EL n0 own T h (A ++ t :: B) FL cells slots) : WS p l e R s m args below meth c Z EL n0 own T h (A ++ B) (t :: FL) cells slots := by
  obtain ⟨vm0, k0, locs, X, eT, hS, hk, hZ, hown, N, I⟩ := X; exact ⟨vm0, k0, locs, X, eT, hS, hk, hZ, hown, N, I.drop⟩
theorem WS.adopt {y : Addr} (X : WS p l e R s m args below meth c Z EL n0 own T h WL FL cells slots) (h1 : y < h.size) (h2 : y ∉ WL) : WS p l e R s m args below meth c Z EL n0 own T h WL (y :: FL) cells slots := by
  obtain ⟨vm0, k0, locs, X, eT, hS, hk, hZ, hown, N, I⟩ := X; exact ⟨vm0, k0, locs, X, eT, hS, hk, hZ, hown, N, I.adopt h1 h2⟩
theorem WS.fl {FL2 : List Addr} (X : WS p l e R s m args below meth c Z EL n0 own T h WL FL cells slots) (q : ∀ y ∈ FL2, y ∈ FL) : WS p l e R s m args below meth c Z EL n0 own T h WL FL2 cells slots := by
  obtain ⟨vm0, k0, locs, X, eT, hS, hk, hZ, hown, N, I⟩ := X; exact ⟨vm0, k0, locs, X, eT, hS, hk, hZ, hown, N, I.fl q⟩
theorem WS.mono {cells' slots' : Nat} (X : WS p l e R s m args below meth c Z EL n0 own T h WL FL cells slots) (h1 : cells ≤ cells') (h2 : slots ≤ slots') : WS p l e R s m args below meth c Z EL n0 own T h WL FL cells' slots' := by
  obtain ⟨vm0, k0, locs, X, eT, hS, hk, hZ, hown, N, I⟩ := X; exact ⟨vm0, k0, locs, X.mono h1 h2, eT, hS, hk, hZ, hown, N, I⟩
/-- what is to be shown from here on -/
def Wo (p : Program) (e : Env) (s : State) (below : List Frame) (Z : State) (EL : List (String × Nat)) (n0 : Nat) (WL0 FL0 : List Addr) (rm : Room) (Q : Option Value → Heap → List Addr → List Addr → Prop) (T : State) (f : JFrame) : Prop :=
  ∃ s₂ o, Steps p.tables e below (T.setTop f) s₂ ∧ s₂.status = .running ∧ Ended s₂ below o ∧ ∃ v L WL' FL', o = .returned v ∧ Inv Z EL n0 s₂.vm s₂.heap (WL' ++ WL0) (FL' ++ FL0) ∧ Fr n0 L ∧ Q v s₂.heap WL' FL' ∧ ReturnedEndW s o s₂ L rm.cells rm.slots
variable {WL0 FL0 : List Addr} {rm : Room} {Q : Option Value → Heap → List Addr → List Addr → Prop} {f f' : JFrame} {pc : Nat} {Ls : Array Slot} {st rest : List Value}
theorem Wo.by (k : ∀ t, Steps p.tables e below (T'.setTop f') t → Steps p.tables e below (T.setTop f) t) (o : Wo p e s below Z EL n0 WL0 FL0 rm Q T' f') : Wo p e s below Z EL n0 WL0 FL0 rm Q T f := by
  obtain ⟨s₂, o, h1, r⟩ := o; exact ⟨s₂, o, k _ h1, r⟩
theorem Wo.cast (q : f = f') (o : Wo p e s below Z EL n0 WL0 FL0 rm Q T f') : Wo p e s below Z EL n0 WL0 FL0 rm Q T f := q ▸ o
/-- a method's contract -/
def Ct (l : Launch) (Z : State) (EL : List (String × Nat)) (n0 : Nat) (y : MethodName) (bytes : ByteArray) (maxL : Nat) (ret : Option FieldType) (rm : Room) (as' : Array Value) (h : Heap) (WL FL : List Addr) (Q : Option Value → Heap → List Addr → List Addr → Prop) : Prop :=
  ∀ ws : List Jvm.Cond, MetFree l y (head1 (Jvm.Cond.code y bytes maxL ret :: ws) rm) (fun a U => a = as' ∧ Z.Warmed39 U.vm ∧ U.heap = h ∧ Inv Z EL n0 U.vm h WL FL) (fun _ _ _ _ _ => True)
    (fun _ U o U' => ∃ v L WL' FL', o = .returned v ∧ Inv Z EL n0 U'.vm U'.heap (WL' ++ WL) (FL' ++ FL) ∧ Fr n0 L ∧ Q v U'.heap WL' FL' ∧ ReturnedEndW U o U' L rm.cells rm.slots)
theorem Ct.of {y : MethodName} {bytes : ByteArray} {maxL : Nat} {ret : Option FieldType} {as' : Array Value} (hy : plainFor y = true)
    (body : ∀ p e s m below meth c s₁, p.tables.exec = Jvm.exec → c.code = bytes → c.maxLocals = maxL → meth.name = y.name → meth.sig.returnType = ret → meth.locks = false →
      WS p l e rm s m as' below meth c Z EL n0 y.cls s₁ h WL FL 0 0 → Wo p e s below Z EL n0 WL FL rm Q s₁ (entryFrame m as' maxL)) :
    Ct l Z EL n0 y bytes maxL ret rm as' h WL FL Q := by
  intro ws
  refine MetFree.of_bodySF hy hisR ?_
  intro p e s m args below meth c s₁ Bd hml hP _
  obtain ⟨rfl, hZ, hh, I⟩ := hP
  have e0 : s₁.heap = h := by rw [← hh, Bd.state]; rfl
  obtain ⟨s₂, o, h1, h2, h3, h4⟩ := body p e s m below meth c s₁ Bd.exec Bd.bytes hml (name_of_methodNamed Bd.named Bd.method).1 Bd.returns (BodyLoose.notSynchronized Bd)
    ⟨s.vm, h.size, [], Stand.of_body Bd, e0, (State.WarmedH.refl s).since _, Nat.le_refl _, hZ, findClass_of_methodNamed Bd.named, Fr.nil n0, I⟩
  exact ⟨s₂, o, h1, h2, h3, h4⟩
theorem Ct.mono {y : MethodName} {bytes : ByteArray} {maxL : Nat} {ret : Option FieldType} {as' : Array Value} {Q2 : Option Value → Heap → List Addr → List Addr → Prop} (C : Ct l Z EL n0 y bytes maxL ret rm as' h WL FL Q) (hq : ∀ v h' WL' FL', Q v h' WL' FL' → Q2 v h' WL' FL') : Ct l Z EL n0 y bytes maxL ret rm as' h WL FL Q2 := by
  intro ws p e ha hc hk s m args below hf happ hP hK
  obtain ⟨n, o, h1, h2, h3, v, L, WL', FL', r1, r2, r3, r4, r5⟩ := C ws p e ha hc hk s m args below hf happ hP hK
  exact ⟨n, o, h1, h2, h3, v, L, WL', FL', r1, r2, r3, hq _ _ _ _ r4, r5⟩
/-- the tables at hand -/
theorem WS.invT {vm0 : Vm} {locs : List Loc} (X : Stand p l e R (s.setVm vm0) m args below meth c T locs cells slots) (hZ : Z.Warmed39 vm0) (I : Inv Z EL n0 vm0 h WL FL) : Inv Z EL n0 T.vm h WL FL := by
  obtain ⟨⟨a0, i1⟩, i2, i3, i4, i5, i6⟩ := I
  have A := CHv.at X hZ i1 i2
  exact ⟨⟨a0, i1⟩, A.1, i3, fun x hx => ⟨(i4 x hx).1, (i4 x hx).2.1, A.safe (i4 x hx).2.1 (i4 x hx).2.2⟩, i5, i6⟩
theorem WS.retV {WL' FL' : List Addr} (X : WS p l e R s m args below meth c Z EL n0 own T h (WL' ++ WL0) (FL' ++ FL0) cells slots) (hx : p.tables.exec = Jvm.exec) (hret : meth.sig.returnType = none) (hlk : meth.locks = false) (hd : decode c.code pc = .ok (.return_, 1)) (hc : cells ≤ rm.cells) (hl : slots ≤ rm.slots) (hQ : Q none h WL' FL') :
    Wo p e s below Z EL n0 WL0 FL0 rm Q T (mkF m pc Ls []) := by
  obtain ⟨vm0, k0, locs, X, eT, hS, hk, hZ, hown, N, I⟩ := X
  obtain ⟨fs, hr, hrun, hend, hE⟩ := (X.mono hc hl).leaveW hS (by rw [eT]; exact hk) (v := none) (fun _ => rfl) hlk
  subst eT
  exact ⟨_, _, X.returnOut hx hret hd hr, hrun, hend, none, locs, WL', FL', rfl, (show Inv Z EL n0 T.vm T.heap (WL' ++ WL0) (FL' ++ FL0) from WS.invT X hZ I), N, hQ, hE⟩
theorem WS.retN {WL' FL' : List Addr} {z : Int32} {t : FieldType} (X : WS p l e R s m args below meth c Z EL n0 own T h (WL' ++ WL0) (FL' ++ FL0) cells slots) (hx : p.tables.exec = Jvm.exec) (hret : meth.sig.returnType = some t) (ht : t = .boolean ∨ t = .byte ∨ t = .char ∨ t = .short) (hlk : meth.locks = false) (hd : decode c.code pc = .ok (.ireturn, 1)) (hc : cells ≤ rm.cells) (hl : slots ≤ rm.slots) (hQ : Q (some (.int (nar t z))) h WL' FL') :
    Wo p e s below Z EL n0 WL0 FL0 rm Q T (mkF m pc Ls (.int z :: rest)) := by
  obtain ⟨vm0, k0, locs, X, eT, hS, hk, hZ, hown, N, I⟩ := X
  obtain ⟨fs, hr, hrun, hend, hE⟩ := (X.mono hc hl).leaveW hS (by rw [eT]; exact hk) (v := some (.int (nar t z))) (fun q => by rw [hret] at q; cases q) hlk
  subst eT
  exact ⟨_, _, RoadKit.retN X hx hret ht hd hr, hrun, hend, _, locs, WL', FL', rfl, (show Inv Z EL n0 T.vm T.heap (WL' ++ WL0) (FL' ++ FL0) from WS.invT X hZ I), N, hQ, hE⟩
theorem WS.ret {WL' FL' : List Addr} {w : Value} {t : FieldType} {i : Instr} (X : WS p l e R s m args below meth c Z EL n0 own T h (WL' ++ WL0) (FL' ++ FL0) cells slots) (hx : p.tables.exec = Jvm.exec) (hret : meth.sig.returnType = some t) (hn : narrow t w = w)
    (hi : (i = .ireturn ∧ (t = .int ∨ t = .boolean ∨ t = .byte ∨ t = .char ∨ t = .short) ∧ ∃ z, w = .int z) ∨ (i = .lreturn ∧ t = .long ∧ ∃ z, w = .long z) ∨ (i = .dreturn ∧ t = .double ∧ ∃ z, w = .double z) ∨ (i = .freturn ∧ t = .float ∧ ∃ z, w = .float z) ∨ (i = .areturn ∧ t.isReference = true ∧ w.isRef = true))
    (hlk : meth.locks = false) (hd : decode c.code pc = .ok (i, 1)) (hc : cells ≤ rm.cells) (hl : slots ≤ rm.slots) (hQ : Q (some w) h WL' FL') :
    Wo p e s below Z EL n0 WL0 FL0 rm Q T (mkF m pc Ls (w :: rest)) := by
  obtain ⟨vm0, k0, locs, X, eT, hS, hk, hZ, hown, N, I⟩ := X
  obtain ⟨fs, hr, hrun, hend, hE⟩ := (X.mono hc hl).leaveW hS (by rw [eT]; exact hk) (v := some w) (fun q => by rw [hret] at q; cases q) hlk
  subst eT
  exact ⟨_, _, retOut X hx hret hn hi hd hr, hrun, hend, _, locs, WL', FL', rfl, (show Inv Z EL n0 T.vm T.heap (WL' ++ WL0) (FL' ++ FL0) from WS.invT X hZ I), N, hQ, hE⟩
theorem WS.retA {WL' FL' : List Addr} {w : Value} {t : FieldType} (X : WS p l e R s m args below meth c Z EL n0 own T h (WL' ++ WL0) (FL' ++ FL0) cells slots) (hx : p.tables.exec = Jvm.exec) (hret : meth.sig.returnType = some t) (ht : t.isReference = true) (hw : w.isRef = true) (hlk : meth.locks = false) (hd : decode c.code pc = .ok (.areturn, 1)) (hc : cells ≤ rm.cells) (hl : slots ≤ rm.slots) (hQ : Q (some w) h WL' FL') :
    Wo p e s below Z EL n0 WL0 FL0 rm Q T (mkF m pc Ls (w :: rest)) :=
  X.ret hx hret (by cases t <;> first | (cases ht; done) | (rcases ref_cases hw with rfl | ⟨a, rfl⟩ <;> rfl)) (Or.inr (Or.inr (Or.inr (Or.inr ⟨rfl, ht, hw⟩)))) hlk hd hc hl hQ
theorem WS.retI {WL' FL' : List Addr} {z : Int32} (X : WS p l e R s m args below meth c Z EL n0 own T h (WL' ++ WL0) (FL' ++ FL0) cells slots) (hx : p.tables.exec = Jvm.exec) (hret : meth.sig.returnType = some .int) (hlk : meth.locks = false) (hd : decode c.code pc = .ok (.ireturn, 1)) (hc : cells ≤ rm.cells) (hl : slots ≤ rm.slots) (hQ : Q (some (.int z)) h WL' FL') :
    Wo p e s below Z EL n0 WL0 FL0 rm Q T (mkF m pc Ls (.int z :: rest)) :=
  X.ret hx hret rfl (Or.inl ⟨rfl, Or.inl rfl, z, rfl⟩) hlk hd hc hl hQ
/-- plain steps -/
theorem P.iloadN (X : WS p l e R s m args below meth c Z EL n0 own T h WL FL cells slots) (hx : p.tables.exec = Jvm.exec) (pc' : Nat) {k : Fin 4} {v : Int32} (hd : decode c.code pc = .ok (.iload_n k, 1)) (hl : Ls[k.val]? = some (.val (.int v))) (hp : pc + 1 = pc')
    (o : Wo p e s below Z EL n0 WL0 FL0 rm Q T (mkF m pc' Ls (.int v :: st))) : Wo p e s below Z EL n0 WL0 FL0 rm Q T (mkF m pc Ls (st)) := by
  subst hp; exact Wo.by (fun _ q => XS.iloadN X.here hx rfl hd hl q) o
theorem P.iload (X : WS p l e R s m args below meth c Z EL n0 own T h WL FL cells slots) (hx : p.tables.exec = Jvm.exec) (pc' : Nat) {k : Nat} {v : Int32} (hd : decode c.code pc = .ok (.iload k, 2)) (hl : Ls[k]? = some (.val (.int v))) (hp : pc + 2 = pc')
    (o : Wo p e s below Z EL n0 WL0 FL0 rm Q T (mkF m pc' Ls (.int v :: st))) : Wo p e s below Z EL n0 WL0 FL0 rm Q T (mkF m pc Ls (st)) := by
  subst hp; exact Wo.by (fun _ q => XS.iload X.here hx rfl hd hl q) o
theorem P.aloadN (X : WS p l e R s m args below meth c Z EL n0 own T h WL FL cells slots) (hx : p.tables.exec = Jvm.exec) (pc' : Nat) {k : Fin 4} {v : Value} (hd : decode c.code pc = .ok (.aload_n k, 1)) (hl : Ls[k.val]? = some (.val v)) (hv : v.isRef = true) (hp : pc + 1 = pc')
    (o : Wo p e s below Z EL n0 WL0 FL0 rm Q T (mkF m pc' Ls (v :: st))) : Wo p e s below Z EL n0 WL0 FL0 rm Q T (mkF m pc Ls (st)) := by
  subst hp; exact Wo.by (fun _ q => XS.aloadN X.here hx rfl hd hl hv q) o
theorem P.aload (X : WS p l e R s m args below meth c Z EL n0 own T h WL FL cells slots) (hx : p.tables.exec = Jvm.exec) (pc' : Nat) {k : Nat} {v : Value} (hd : decode c.code pc = .ok (.aload k, 2)) (hl : Ls[k]? = some (.val v)) (hv : v.isRef = true) (hp : pc + 2 = pc')
    (o : Wo p e s below Z EL n0 WL0 FL0 rm Q T (mkF m pc' Ls (v :: st))) : Wo p e s below Z EL n0 WL0 FL0 rm Q T (mkF m pc Ls (st)) := by
  subst hp; exact Wo.by (fun _ q => XS.aload X.here hx rfl hd hl hv q) o
theorem P.istoreN (X : WS p l e R s m args below meth c Z EL n0 own T h WL FL cells slots) (hx : p.tables.exec = Jvm.exec) (pc' : Nat) {k : Fin 4} {x : Int32} (L' : Array Slot) (hd : decode c.code pc = .ok (.istore_n k, 1)) (hl : storeLocals Ls k.val (.int x) = some L') (hp : pc + 1 = pc')
    (o : Wo p e s below Z EL n0 WL0 FL0 rm Q T (mkF m pc' L' (st))) : Wo p e s below Z EL n0 WL0 FL0 rm Q T (mkF m pc Ls (.int x :: st)) := by
  subst hp; exact Wo.by (fun _ q => XS.istoreN X.here hx rfl hd rfl hl q) o
theorem P.istore (X : WS p l e R s m args below meth c Z EL n0 own T h WL FL cells slots) (hx : p.tables.exec = Jvm.exec) (pc' : Nat) {k : Nat} {x : Int32} (L' : Array Slot) (hd : decode c.code pc = .ok (.istore k, 2)) (hl : storeLocals Ls k (.int x) = some L') (hp : pc + 2 = pc')
    (o : Wo p e s below Z EL n0 WL0 FL0 rm Q T (mkF m pc' L' (st))) : Wo p e s below Z EL n0 WL0 FL0 rm Q T (mkF m pc Ls (.int x :: st)) := by
  subst hp; exact Wo.by (fun _ q => XS.istore X.here hx rfl hd rfl hl q) o
theorem P.astoreN (X : WS p l e R s m args below meth c Z EL n0 own T h WL FL cells slots) (hx : p.tables.exec = Jvm.exec) (pc' : Nat) {k : Fin 4} {x : Value} (L' : Array Slot) (hd : decode c.code pc = .ok (.astore_n k, 1)) (hv : x.isRef = true) (hl : storeLocals Ls k.val x = some L') (hp : pc + 1 = pc')
    (o : Wo p e s below Z EL n0 WL0 FL0 rm Q T (mkF m pc' L' (st))) : Wo p e s below Z EL n0 WL0 FL0 rm Q T (mkF m pc Ls (x :: st)) := by
  subst hp; exact Wo.by (fun _ q => XS.astoreN X.here hx rfl hd rfl hv hl q) o
theorem P.astore (X : WS p l e R s m args below meth c Z EL n0 own T h WL FL cells slots) (hx : p.tables.exec = Jvm.exec) (pc' : Nat) {k : Nat} {x : Value} (L' : Array Slot) (hd : decode c.code pc = .ok (.astore k, 2)) (hv : x.isRef = true) (hl : storeLocals Ls k x = some L') (hp : pc + 2 = pc')
    (o : Wo p e s below Z EL n0 WL0 FL0 rm Q T (mkF m pc' L' (st))) : Wo p e s below Z EL n0 WL0 FL0 rm Q T (mkF m pc Ls (x :: st)) := by
  subst hp; exact Wo.by (fun _ q => XS.astore X.here hx rfl hd rfl hv hl q) o
theorem P.iconst (X : WS p l e R s m args below meth c Z EL n0 own T h WL FL cells slots) (hx : p.tables.exec = Jvm.exec) (pc' : Nat) (z : Int32) {i : Int} (hd : decode c.code pc = .ok (.iconst i, 1)) (hz : Int32.ofInt i = z) (hp : pc + 1 = pc')
    (o : Wo p e s below Z EL n0 WL0 FL0 rm Q T (mkF m pc' Ls (.int z :: st))) : Wo p e s below Z EL n0 WL0 FL0 rm Q T (mkF m pc Ls (st)) := by
  subst hp; subst hz; exact Wo.by (fun _ q => XS.iconst X.here hx rfl hd q) o
theorem P.bipush (X : WS p l e R s m args below meth c Z EL n0 own T h WL FL cells slots) (hx : p.tables.exec = Jvm.exec) (pc' : Nat) (z : Int32) {i : Int} (hd : decode c.code pc = .ok (.bipush i, 2)) (hz : (Int8.ofInt i).toInt32 = z) (hp : pc + 2 = pc')
    (o : Wo p e s below Z EL n0 WL0 FL0 rm Q T (mkF m pc' Ls (.int z :: st))) : Wo p e s below Z EL n0 WL0 FL0 rm Q T (mkF m pc Ls (st)) := by
  subst hp; subst hz; exact Wo.by (fun _ q => XS.bipush X.here hx rfl hd q) o
theorem P.sipush (X : WS p l e R s m args below meth c Z EL n0 own T h WL FL cells slots) (hx : p.tables.exec = Jvm.exec) (pc' : Nat) (z : Int32) {i : Int} (hd : decode c.code pc = .ok (.sipush i, 3)) (hz : (Int16.ofInt i).toInt32 = z) (hp : pc + 3 = pc')
    (o : Wo p e s below Z EL n0 WL0 FL0 rm Q T (mkF m pc' Ls (.int z :: st))) : Wo p e s below Z EL n0 WL0 FL0 rm Q T (mkF m pc Ls (st)) := by
  subst hp; subst hz; exact Wo.by (fun _ q => XS.sipush X.here hx rfl hd q) o
theorem P.aconstNull (X : WS p l e R s m args below meth c Z EL n0 own T h WL FL cells slots) (hx : p.tables.exec = Jvm.exec) (pc' : Nat) (hd : decode c.code pc = .ok (.aconst_null, 1))  (hp : pc + 1 = pc')
    (o : Wo p e s below Z EL n0 WL0 FL0 rm Q T (mkF m pc' Ls (.null :: st))) : Wo p e s below Z EL n0 WL0 FL0 rm Q T (mkF m pc Ls (st)) := by
  subst hp; exact Wo.by (fun _ q => XS.aconstNull X.here hx rfl hd q) o
theorem P.iadd (X : WS p l e R s m args below meth c Z EL n0 own T h WL FL cells slots) (hx : p.tables.exec = Jvm.exec) (pc' : Nat) {x y z : Int32} (hd : decode c.code pc = .ok (.iadd, 1)) (hz : x + y = z) (hp : pc + 1 = pc')
    (o : Wo p e s below Z EL n0 WL0 FL0 rm Q T (mkF m pc' Ls (.int z :: st))) : Wo p e s below Z EL n0 WL0 FL0 rm Q T (mkF m pc Ls (.int y :: .int x :: st)) := by
  subst hp; subst hz; exact Wo.by (fun _ q => XS.iadd X.here hx rfl hd rfl q) o
theorem P.isub (X : WS p l e R s m args below meth c Z EL n0 own T h WL FL cells slots) (hx : p.tables.exec = Jvm.exec) (pc' : Nat) {x y z : Int32} (hd : decode c.code pc = .ok (.isub, 1)) (hz : x - y = z) (hp : pc + 1 = pc')
    (o : Wo p e s below Z EL n0 WL0 FL0 rm Q T (mkF m pc' Ls (.int z :: st))) : Wo p e s below Z EL n0 WL0 FL0 rm Q T (mkF m pc Ls (.int y :: .int x :: st)) := by
  subst hp; subst hz; exact Wo.by (fun _ q => XS.isub X.here hx rfl hd rfl q) o
theorem P.imul (X : WS p l e R s m args below meth c Z EL n0 own T h WL FL cells slots) (hx : p.tables.exec = Jvm.exec) (pc' : Nat) {x y z : Int32} (hd : decode c.code pc = .ok (.imul, 1)) (hz : x * y = z) (hp : pc + 1 = pc')
    (o : Wo p e s below Z EL n0 WL0 FL0 rm Q T (mkF m pc' Ls (.int z :: st))) : Wo p e s below Z EL n0 WL0 FL0 rm Q T (mkF m pc Ls (.int y :: .int x :: st)) := by
  subst hp; subst hz; exact Wo.by (fun _ q => XS.imul X.here hx rfl hd rfl q) o
theorem P.iand (X : WS p l e R s m args below meth c Z EL n0 own T h WL FL cells slots) (hx : p.tables.exec = Jvm.exec) (pc' : Nat) {x y z : Int32} (hd : decode c.code pc = .ok (.iand, 1)) (hz : x &&& y = z) (hp : pc + 1 = pc')
    (o : Wo p e s below Z EL n0 WL0 FL0 rm Q T (mkF m pc' Ls (.int z :: st))) : Wo p e s below Z EL n0 WL0 FL0 rm Q T (mkF m pc Ls (.int y :: .int x :: st)) := by
  subst hp; subst hz; exact Wo.by (fun _ q => XS.iand X.here hx rfl hd rfl q) o
theorem P.ior (X : WS p l e R s m args below meth c Z EL n0 own T h WL FL cells slots) (hx : p.tables.exec = Jvm.exec) (pc' : Nat) {x y z : Int32} (hd : decode c.code pc = .ok (.ior, 1)) (hz : x ||| y = z) (hp : pc + 1 = pc')
    (o : Wo p e s below Z EL n0 WL0 FL0 rm Q T (mkF m pc' Ls (.int z :: st))) : Wo p e s below Z EL n0 WL0 FL0 rm Q T (mkF m pc Ls (.int y :: .int x :: st)) := by
  subst hp; subst hz; exact Wo.by (fun _ q => XS.ior X.here hx rfl hd rfl q) o
theorem P.ixor (X : WS p l e R s m args below meth c Z EL n0 own T h WL FL cells slots) (hx : p.tables.exec = Jvm.exec) (pc' : Nat) {x y z : Int32} (hd : decode c.code pc = .ok (.ixor, 1)) (hz : x ^^^ y = z) (hp : pc + 1 = pc')
    (o : Wo p e s below Z EL n0 WL0 FL0 rm Q T (mkF m pc' Ls (.int z :: st))) : Wo p e s below Z EL n0 WL0 FL0 rm Q T (mkF m pc Ls (.int y :: .int x :: st)) := by
  subst hp; subst hz; exact Wo.by (fun _ q => XS.ixor X.here hx rfl hd rfl q) o
theorem P.ishl (X : WS p l e R s m args below meth c Z EL n0 own T h WL FL cells slots) (hx : p.tables.exec = Jvm.exec) (pc' : Nat) {x y z : Int32} (hd : decode c.code pc = .ok (.ishl, 1)) (hz : x <<< (y &&& 31) = z) (hp : pc + 1 = pc')
    (o : Wo p e s below Z EL n0 WL0 FL0 rm Q T (mkF m pc' Ls (.int z :: st))) : Wo p e s below Z EL n0 WL0 FL0 rm Q T (mkF m pc Ls (.int y :: .int x :: st)) := by
  subst hp; subst hz; exact Wo.by (fun _ q => XS.ishl X.here hx rfl hd rfl q) o
theorem P.ishr (X : WS p l e R s m args below meth c Z EL n0 own T h WL FL cells slots) (hx : p.tables.exec = Jvm.exec) (pc' : Nat) {x y z : Int32} (hd : decode c.code pc = .ok (.ishr, 1)) (hz : x >>> (y &&& 31) = z) (hp : pc + 1 = pc')
    (o : Wo p e s below Z EL n0 WL0 FL0 rm Q T (mkF m pc' Ls (.int z :: st))) : Wo p e s below Z EL n0 WL0 FL0 rm Q T (mkF m pc Ls (.int y :: .int x :: st)) := by
  subst hp; subst hz; exact Wo.by (fun _ q => XS.ishr X.here hx rfl hd rfl q) o
theorem P.iushr (X : WS p l e R s m args below meth c Z EL n0 own T h WL FL cells slots) (hx : p.tables.exec = Jvm.exec) (pc' : Nat) {x y z : Int32} (hd : decode c.code pc = .ok (.iushr, 1)) (hz : (x.toUInt32 >>> (y &&& 31).toUInt32).toInt32 = z) (hp : pc + 1 = pc')
    (o : Wo p e s below Z EL n0 WL0 FL0 rm Q T (mkF m pc' Ls (.int z :: st))) : Wo p e s below Z EL n0 WL0 FL0 rm Q T (mkF m pc Ls (.int y :: .int x :: st)) := by
  subst hp; subst hz; exact Wo.by (fun _ q => XS.iushr X.here hx rfl hd rfl q) o
theorem P.i2c (X : WS p l e R s m args below meth c Z EL n0 own T h WL FL cells slots) (hx : p.tables.exec = Jvm.exec) (pc' : Nat) {x z : Int32} (hd : decode c.code pc = .ok (.i2c, 1)) (hz : x.toUInt32.toUInt16.toUInt32.toInt32 = z) (hp : pc + 1 = pc')
    (o : Wo p e s below Z EL n0 WL0 FL0 rm Q T (mkF m pc' Ls (.int z :: st))) : Wo p e s below Z EL n0 WL0 FL0 rm Q T (mkF m pc Ls (.int x :: st)) := by
  subst hp; subst hz; exact Wo.by (fun _ q => XS.i2c X.here hx rfl hd rfl q) o
theorem P.i2b (X : WS p l e R s m args below meth c Z EL n0 own T h WL FL cells slots) (hx : p.tables.exec = Jvm.exec) (pc' : Nat) {x z : Int32} (hd : decode c.code pc = .ok (.i2b, 1)) (hz : x.toInt8.toInt32 = z) (hp : pc + 1 = pc')
    (o : Wo p e s below Z EL n0 WL0 FL0 rm Q T (mkF m pc' Ls (.int z :: st))) : Wo p e s below Z EL n0 WL0 FL0 rm Q T (mkF m pc Ls (.int x :: st)) := by
  subst hp; subst hz; exact Wo.by (fun _ q => XS.i2b X.here hx rfl hd rfl q) o
theorem P.i2s (X : WS p l e R s m args below meth c Z EL n0 own T h WL FL cells slots) (hx : p.tables.exec = Jvm.exec) (pc' : Nat) {x z : Int32} (hd : decode c.code pc = .ok (.i2s, 1)) (hz : x.toInt16.toInt32 = z) (hp : pc + 1 = pc')
    (o : Wo p e s below Z EL n0 WL0 FL0 rm Q T (mkF m pc' Ls (.int z :: st))) : Wo p e s below Z EL n0 WL0 FL0 rm Q T (mkF m pc Ls (.int x :: st)) := by
  subst hp; subst hz; exact Wo.by (fun _ q => XS.i2s X.here hx rfl hd rfl q) o
theorem P.ineg (X : WS p l e R s m args below meth c Z EL n0 own T h WL FL cells slots) (hx : p.tables.exec = Jvm.exec) (pc' : Nat) {x z : Int32} (hd : decode c.code pc = .ok (.ineg, 1)) (hz : -x = z) (hp : pc + 1 = pc')
    (o : Wo p e s below Z EL n0 WL0 FL0 rm Q T (mkF m pc' Ls (.int z :: st))) : Wo p e s below Z EL n0 WL0 FL0 rm Q T (mkF m pc Ls (.int x :: st)) := by
  subst hp; subst hz; exact Wo.by (fun _ q => XS.ineg X.here hx rfl hd rfl q) o
theorem P.idiv (X : WS p l e R s m args below meth c Z EL n0 own T h WL FL cells slots) (hx : p.tables.exec = Jvm.exec) (pc' : Nat) {x y z : Int32} (hd : decode c.code pc = .ok (.idiv, 1)) (hy : y ≠ 0) (hz : x / y = z) (hp : pc + 1 = pc')
    (o : Wo p e s below Z EL n0 WL0 FL0 rm Q T (mkF m pc' Ls (.int z :: st))) : Wo p e s below Z EL n0 WL0 FL0 rm Q T (mkF m pc Ls (.int y :: .int x :: st)) := by
  subst hp; subst hz; exact Wo.by (fun _ q => XS.idiv X.here hx rfl hd rfl hy q) o
theorem P.irem (X : WS p l e R s m args below meth c Z EL n0 own T h WL FL cells slots) (hx : p.tables.exec = Jvm.exec) (pc' : Nat) {x y z : Int32} (hd : decode c.code pc = .ok (.irem, 1)) (hy : y ≠ 0) (hz : x % y = z) (hp : pc + 1 = pc')
    (o : Wo p e s below Z EL n0 WL0 FL0 rm Q T (mkF m pc' Ls (.int z :: st))) : Wo p e s below Z EL n0 WL0 FL0 rm Q T (mkF m pc Ls (.int y :: .int x :: st)) := by
  subst hp; subst hz; exact Wo.by (fun _ q => XS.irem X.here hx rfl hd rfl hy (by rw [irem_eq_mod]; exact q)) o
theorem P.iinc (X : WS p l e R s m args below meth c Z EL n0 own T h WL FL cells slots) (hx : p.tables.exec = Jvm.exec) (pc' : Nat) {k : Nat} {i : Int} {x : Int32} (L' : Array Slot) (hd : decode c.code pc = .ok (.iinc k i, 3)) (hl : Ls[k]? = some (.val (.int x))) (hl' : storeLocals Ls k (.int (x + Int32.ofInt i)) = some L') (hp : pc + 3 = pc')
    (o : Wo p e s below Z EL n0 WL0 FL0 rm Q T (mkF m pc' L' (st))) : Wo p e s below Z EL n0 WL0 FL0 rm Q T (mkF m pc Ls (st)) := by
  subst hp; exact Wo.by (fun _ q => XS.iinc X.here hx rfl hd hl hl' q) o
theorem P.dup (X : WS p l e R s m args below meth c Z EL n0 own T h WL FL cells slots) (hx : p.tables.exec = Jvm.exec) (pc' : Nat) {x : Value} (hd : decode c.code pc = .ok (.dup, 1)) (hc : x.category = 1) (hp : pc + 1 = pc')
    (o : Wo p e s below Z EL n0 WL0 FL0 rm Q T (mkF m pc' Ls (x :: x :: st))) : Wo p e s below Z EL n0 WL0 FL0 rm Q T (mkF m pc Ls (x :: st)) := by
  subst hp; exact Wo.by (fun _ q => XS.dup X.here hx rfl hd rfl hc q) o
theorem P.pop (X : WS p l e R s m args below meth c Z EL n0 own T h WL FL cells slots) (hx : p.tables.exec = Jvm.exec) (pc' : Nat) {x : Value} (hd : decode c.code pc = .ok (.pop, 1)) (hc : x.category = 1) (hp : pc + 1 = pc')
    (o : Wo p e s below Z EL n0 WL0 FL0 rm Q T (mkF m pc' Ls (st))) : Wo p e s below Z EL n0 WL0 FL0 rm Q T (mkF m pc Ls (x :: st)) := by
  subst hp; exact Wo.by (fun _ q => XS.pop X.here hx rfl hd rfl hc q) o
theorem P.dupX1 (X : WS p l e R s m args below meth c Z EL n0 own T h WL FL cells slots) (hx : p.tables.exec = Jvm.exec) (pc' : Nat) {x y : Value} (hd : decode c.code pc = .ok (.dup_x1, 1)) (hc : x.category = 1) (hc' : y.category = 1) (hp : pc + 1 = pc')
    (o : Wo p e s below Z EL n0 WL0 FL0 rm Q T (mkF m pc' Ls (x :: y :: x :: st))) : Wo p e s below Z EL n0 WL0 FL0 rm Q T (mkF m pc Ls (x :: y :: st)) := by
  subst hp; exact Wo.by (fun _ q => XS.dupX1 X.here hx rfl hd rfl hc hc' q) o
theorem P.goto (X : WS p l e R s m args below meth c Z EL n0 own T h WL FL cells slots) (hx : p.tables.exec = Jvm.exec) (pc' : Nat) {off : Int} (hd : decode c.code pc = .ok (.goto off, 3))  (ho : 0 ≤ (pc : Int) + off) (hp : ((pc : Int) + off).toNat = pc')
    (o : Wo p e s below Z EL n0 WL0 FL0 rm Q T (mkF m pc' Ls (st))) : Wo p e s below Z EL n0 WL0 FL0 rm Q T (mkF m pc Ls (st)) := by
  exact Wo.by (fun _ q => XS.goto X.here hx rfl (pc0 := pc) rfl hd ho hp q) o
theorem P.ifYes (X : WS p l e R s m args below meth c Z EL n0 own T h WL FL cells slots) (hx : p.tables.exec = Jvm.exec) (pc' : Nat) {off : Int} {cd : ClassFile.Cond} {x : Int32} (hd : decode c.code pc = .ok (.ifCond cd off, 3)) (hc : ifCond.holds cd x = true) (ho : 0 ≤ (pc : Int) + off) (hp : ((pc : Int) + off).toNat = pc')
    (o : Wo p e s below Z EL n0 WL0 FL0 rm Q T (mkF m pc' Ls (st))) : Wo p e s below Z EL n0 WL0 FL0 rm Q T (mkF m pc Ls (.int x :: st)) := by
  exact Wo.by (fun _ q => XS.ifYes X.here hx rfl (pc0 := pc) rfl hd rfl hc ho hp q) o
theorem P.ifNo (X : WS p l e R s m args below meth c Z EL n0 own T h WL FL cells slots) (hx : p.tables.exec = Jvm.exec) (pc' : Nat) {off : Int} {cd : ClassFile.Cond} {x : Int32} (hd : decode c.code pc = .ok (.ifCond cd off, 3)) (hc : ifCond.holds cd x = false) (hp : pc + 3 = pc')
    (o : Wo p e s below Z EL n0 WL0 FL0 rm Q T (mkF m pc' Ls (st))) : Wo p e s below Z EL n0 WL0 FL0 rm Q T (mkF m pc Ls (.int x :: st)) := by
  subst hp; exact Wo.by (fun _ q => XS.ifNo X.here hx rfl hd rfl hc q) o
theorem P.icmpYes (X : WS p l e R s m args below meth c Z EL n0 own T h WL FL cells slots) (hx : p.tables.exec = Jvm.exec) (pc' : Nat) {off : Int} {cd : ClassFile.Cond} {x y : Int32} (hd : decode c.code pc = .ok (.if_icmp cd off, 3)) (hc : if_icmp.holds cd x y = true) (ho : 0 ≤ (pc : Int) + off) (hp : ((pc : Int) + off).toNat = pc')
    (o : Wo p e s below Z EL n0 WL0 FL0 rm Q T (mkF m pc' Ls (st))) : Wo p e s below Z EL n0 WL0 FL0 rm Q T (mkF m pc Ls (.int y :: .int x :: st)) := by
  exact Wo.by (fun _ q => XS.icmpYes X.here hx rfl (pc0 := pc) rfl hd rfl hc ho hp q) o
theorem P.icmpNo (X : WS p l e R s m args below meth c Z EL n0 own T h WL FL cells slots) (hx : p.tables.exec = Jvm.exec) (pc' : Nat) {off : Int} {cd : ClassFile.Cond} {x y : Int32} (hd : decode c.code pc = .ok (.if_icmp cd off, 3)) (hc : if_icmp.holds cd x y = false) (hp : pc + 3 = pc')
    (o : Wo p e s below Z EL n0 WL0 FL0 rm Q T (mkF m pc' Ls (st))) : Wo p e s below Z EL n0 WL0 FL0 rm Q T (mkF m pc Ls (.int y :: .int x :: st)) := by
  subst hp; exact Wo.by (fun _ q => XS.icmpNo X.here hx rfl hd rfl hc q) o
theorem P.ifnullYes (X : WS p l e R s m args below meth c Z EL n0 own T h WL FL cells slots) (hx : p.tables.exec = Jvm.exec) (pc' : Nat) {off : Int} (hd : decode c.code pc = .ok (.ifnull off, 3))  (ho : 0 ≤ (pc : Int) + off) (hp : ((pc : Int) + off).toNat = pc')
    (o : Wo p e s below Z EL n0 WL0 FL0 rm Q T (mkF m pc' Ls (st))) : Wo p e s below Z EL n0 WL0 FL0 rm Q T (mkF m pc Ls (.null :: st)) := by
  exact Wo.by (fun _ q => XS.ifnullYes X.here hx rfl (pc0 := pc) rfl hd rfl ho hp q) o
theorem P.ifnullNo (X : WS p l e R s m args below meth c Z EL n0 own T h WL FL cells slots) (hx : p.tables.exec = Jvm.exec) (pc' : Nat) {off : Int} {b : Addr} (hd : decode c.code pc = .ok (.ifnull off, 3))  (hp : pc + 3 = pc')
    (o : Wo p e s below Z EL n0 WL0 FL0 rm Q T (mkF m pc' Ls (st))) : Wo p e s below Z EL n0 WL0 FL0 rm Q T (mkF m pc Ls (.ref b :: st)) := by
  subst hp; exact Wo.by (fun _ q => XS.ifnullNo X.here hx rfl hd rfl q) o
theorem P.ifnonnullYes (X : WS p l e R s m args below meth c Z EL n0 own T h WL FL cells slots) (hx : p.tables.exec = Jvm.exec) (pc' : Nat) {off : Int} {b : Addr} (hd : decode c.code pc = .ok (.ifnonnull off, 3))  (ho : 0 ≤ (pc : Int) + off) (hp : ((pc : Int) + off).toNat = pc')
    (o : Wo p e s below Z EL n0 WL0 FL0 rm Q T (mkF m pc' Ls (st))) : Wo p e s below Z EL n0 WL0 FL0 rm Q T (mkF m pc Ls (.ref b :: st)) := by
  exact Wo.by (fun _ q => XS.ifnonnullYes X.here hx rfl (pc0 := pc) rfl hd rfl ho hp q) o
theorem P.ifnonnullNo (X : WS p l e R s m args below meth c Z EL n0 own T h WL FL cells slots) (hx : p.tables.exec = Jvm.exec) (pc' : Nat) {off : Int} (hd : decode c.code pc = .ok (.ifnonnull off, 3))  (hp : pc + 3 = pc')
    (o : Wo p e s below Z EL n0 WL0 FL0 rm Q T (mkF m pc' Ls (st))) : Wo p e s below Z EL n0 WL0 FL0 rm Q T (mkF m pc Ls (.null :: st)) := by
  subst hp; exact Wo.by (fun _ q => XS.ifnonnullNo X.here hx rfl hd rfl q) o
/-- steps that read or write -/
theorem WS.getF (X : WS p l e R s m args below meth c Z EL n0 own T h WL FL cells slots) (hx : p.tables.exec = Jvm.exec) {R0 O n d host : String} {index : Nat} (w : (Jvm.Cond.fieldLink own index R0 n d).before a0 Z = true ∨ (Jvm.Cond.fieldLinkNest own index R0 n d host).before a0 Z = true) (via : Via Z R0 O n d) {a : Addr} {v : Value} (F : Fld Z h a O n d v)
    (hd : decode c.code pc = .ok (.getfield index, 3)) (k : ∀ T', WS p l e R s m args below meth c Z EL n0 own T' h WL FL cells slots → Wo p e s below Z EL n0 WL0 FL0 rm Q T' (mkF m (pc + 3) Ls (v :: rest))) :
    Wo p e s below Z EL n0 WL0 FL0 rm Q T (mkF m pc Ls (.ref a :: rest)) := by
  obtain ⟨vm0, k0, locs, X, eT, hS, hk, hZ, hown, N, I⟩ := X
  obtain ⟨T', X', eT', st⟩ := RoadKit.getF X hx hZ hown w via eT F (g := mkF m pc Ls (.ref a :: rest)) rfl rfl hd
  exact Wo.by st (k T' ⟨vm0, k0, locs, X', eT', hS, hk, hZ, hown, N, I⟩)
theorem WS.getS (X : WS p l e R s m args below meth c Z EL n0 own T h WL FL cells slots) (hx : p.tables.exec = Jvm.exec) {R0 O n d : String} {index : Nat} (w : (Jvm.Cond.fieldLink own index R0 n d).before a0 Z = true) (via : Via Z R0 O n d) {v : Value} (F : Sta Z Z.heap O n d v)
    (hd : decode c.code pc = .ok (.getstatic index, 3)) (k : ∀ T', WS p l e R s m args below meth c Z EL n0 own T' h WL FL cells slots → Wo p e s below Z EL n0 WL0 FL0 rm Q T' (mkF m (pc + 3) Ls (v :: st))) :
    Wo p e s below Z EL n0 WL0 FL0 rm Q T (mkF m pc Ls st) := by
  have F' := X.sta F
  obtain ⟨vm0, k0, locs, X, eT, hS, hk, hZ, hown, N, I⟩ := X
  obtain ⟨T', X', eT', st⟩ := RoadKit.getS (host := "") X hx hZ hown w via eT F' (g := mkF m pc Ls st) rfl hd
  exact Wo.by st (k T' ⟨vm0, k0, locs, X', eT', hS, hk, hZ, hown, N, I⟩)
theorem WS.putF (X : WS p l e R s m args below meth c Z EL n0 own T h WL FL cells slots) (hx : p.tables.exec = Jvm.exec) {R0 O n d host C : String} {index kk : Nat} {ty : FieldType} (w : (Jvm.Cond.fieldLink own index R0 n d).before a0 Z = true ∨ (Jvm.Cond.fieldLinkNest own index R0 n d host).before a0 Z = true) (via : Via Z R0 O n d) {a : Addr} {v old : Value} (F : Fld Z h a O n d old) (E : Exa Z h a C)
    (L : (Jvm.Cond.lays C O n d).before a0 Z = true ∨ ((Jvm.Cond.laysFinal C O n d).before a0 Z = true ∧ own = O ∧ meth.name = "<init>")) (wi : (Jvm.Cond.instantiable C kk).before a0 Z = true) (hty : parseFieldDescriptor d = some ty) (hn : narrow ty v = v) (hf : fits ty v = true) (ha : a ∈ WL)
    (hd : decode c.code pc = .ok (.putfield index, 3)) (k : ∀ T' h', WS p l e R s m args below meth c Z EL n0 own T' h' WL FL cells slots → Wr h h' a (Jvm.RoadKit.slotOf Z O n d) v → Fld Z h' a O n d v → Wo p e s below Z EL n0 WL0 FL0 rm Q T' (mkF m (pc + 3) Ls rest)) :
    Wo p e s below Z EL n0 WL0 FL0 rm Q T (mkF m pc Ls (v :: .ref a :: rest)) := by
  obtain ⟨vm0, k0, locs, X, eT, hS, hk, hZ, hown, N, I⟩ := X
  obtain ⟨T', h', X', eT', W, st⟩ := RoadKit.putF X hx hZ hown w via eT F E L wi hty hn hf (g := mkF m pc Ls (v :: .ref a :: rest)) rfl rfl hd
  exact Wo.by st (k T' h' ⟨vm0, k0, _, X', eT', hS, by rw [W.size]; exact hk, hZ, hown, Fr.snoc X' N (I.ge ha), I.wr W ha⟩ W (F.same W))
theorem WS.newO (X : WS p l e R s m args below meth c Z EL n0 own T h WL FL cells slots) (hx : p.tables.exec = Jvm.exec) {C : String} {index n : Nat} (w : (Jvm.Cond.classLink own index C).before a0 Z = true) (wi : (Jvm.Cond.instantiable C n).before a0 Z = true) (wz : (Jvm.Cond.initialized C).before a0 Z = true)
    (hd : decode c.code pc = .ok (.new index, 3)) (hc : cells + 1 ≤ R.cells) (hl : slots + n ≤ R.slots)
    (k : ∀ T' h' a, WS p l e R s m args below meth c Z EL n0 own T' h' (a :: WL) FL (cells + 1) (slots + n) → Ext h h' → h.size ≤ a → Exa Z h' a C → (∀ {O nm d : String} {ty : FieldType}, Laid Z a0 C O nm d → parseFieldDescriptor d = some ty → Fld Z h' a O nm d (defaultValue ty)) → Wo p e s below Z EL n0 WL0 FL0 rm Q T' (mkF m (pc + 3) Ls (.ref a :: st))) :
    Wo p e s below Z EL n0 WL0 FL0 rm Q T (mkF m pc Ls st) := by
  obtain ⟨vm0, k0, locs, X, eT, hS, hk, hZ, hown, N, I⟩ := X
  obtain ⟨T', h', X', eT', E, A, D, -, st⟩ := RoadKit.newO X hx hZ hown w wi wz eT (g := mkF m pc Ls st) rfl hd hc hl
  exact Wo.by st (k T' h' h.size ⟨vm0, k0, _, X', eT', hS, Nat.le_trans hk E.1, hZ, hown, N, I.new E A.lt⟩ E (Nat.le_refl _) A D)
theorem WS.newP (X : WS p l e R s m args below meth c Z EL n0 own T h WL FL cells slots) (hx : p.tables.exec = Jvm.exec) {aty : ArrayType} (w : (Jvm.Cond.arrayClass (newarray.typeOf aty)).before a0 Z = true) {n : Int32} (hd : decode c.code pc = .ok (.newarray aty, 2))
    (hn : ¬ n < 0) {cap : Nat} (hcap : n.toNatClampNeg ≤ cap) (hb : cap * 8 ≤ 536870912) (hc : cells + 1 ≤ R.cells) (hl : slots + cap ≤ R.slots)
    (k : ∀ T' h' a ka, WS p l e R s m args below meth c Z EL n0 own T' h' (a :: WL) FL (cells + 1) (slots + cap) → Ext h h' → h.size ≤ a → Arv Z h' a ka (newarray.typeOf aty) n [] (defaultValue (newarray.typeOf aty)) → Wo p e s below Z EL n0 WL0 FL0 rm Q T' (mkF m (pc + 2) Ls (.ref a :: rest))) :
    Wo p e s below Z EL n0 WL0 FL0 rm Q T (mkF m pc Ls (.int n :: rest)) := by
  obtain ⟨vm0, k0, locs, X, eT, hS, hk, hZ, hown, N, I⟩ := X
  obtain ⟨T', h', cA, X', eT', E, A, st⟩ := RoadKit.newP X hx hZ w eT (g := mkF m pc Ls (.int n :: rest)) rfl hd rfl hn hcap hb hc hl
  exact Wo.by st (k T' h' h.size cA ⟨vm0, k0, _, X', eT', hS, Nat.le_trans hk E.1, hZ, hown, N, I.new E A.lt⟩ E (Nat.le_refl _) (Arv.new A hn))
theorem WS.stC (X : WS p l e R s m args below meth c Z EL n0 own T h WL FL cells slots) (hx : p.tables.exec = Jvm.exec) {a : Addr} {ka : ClassId} {N : Int32} {vs : List Value} {dv : Value} (A : Arv Z h a ka .char N vs dv) {j x : Int32} {i : Nat} (hj : ¬ j < 0 ∧ j < N) (hi : j.toNatClampNeg = i) (hl : i < vs.length) (ha : a ∈ WL)
    (hd : decode c.code pc = .ok (.castore, 1)) (k : ∀ T' h', WS p l e R s m args below meth c Z EL n0 own T' h' WL FL cells slots → Wr h h' a j.toNatClampNeg (.int (nar .char x)) → Arv Z h' a ka .char N (vs.set i (.int (nar .char x))) dv → Wo p e s below Z EL n0 WL0 FL0 rm Q T' (mkF m (pc + 1) Ls rest)) :
    Wo p e s below Z EL n0 WL0 FL0 rm Q T (mkF m pc Ls (.int x :: .int j :: .ref a :: rest)) := by
  obtain ⟨vm0, k0, locs, X, eT, hS, hk, hZ, hown, N, I⟩ := X
  obtain ⟨cl, A1, A2, A3, A4, A5, A6⟩ := A
  obtain ⟨T', h', X', eT', W, st⟩ := RoadKit.stC X hx hZ eT A1 (inb_of A3 hj) (g := mkF m pc Ls (.int x :: .int j :: .ref a :: rest)) rfl rfl hd
  exact Wo.by st (k T' h' ⟨vm0, k0, _, X', eT', hS, by rw [W.size]; exact hk, hZ, hown, Fr.snoc X' N (I.ge ha), I.wr W ha⟩ W (Arv.set A1 A2 A3 A4 A5 A6 (fits_nar_char x) W i hi hl))
theorem WS.stB (X : WS p l e R s m args below meth c Z EL n0 own T h WL FL cells slots) (hx : p.tables.exec = Jvm.exec) {a : Addr} {ka : ClassId} {N : Int32} {vs : List Value} {dv : Value} (A : Arv Z h a ka .byte N vs dv) {j x : Int32} {i : Nat} (hj : ¬ j < 0 ∧ j < N) (hi : j.toNatClampNeg = i) (hl : i < vs.length) (ha : a ∈ WL)
    (hd : decode c.code pc = .ok (.bastore, 1)) (k : ∀ T' h', WS p l e R s m args below meth c Z EL n0 own T' h' WL FL cells slots → Wr h h' a j.toNatClampNeg (.int (nar .byte x)) → Arv Z h' a ka .byte N (vs.set i (.int (nar .byte x))) dv → Wo p e s below Z EL n0 WL0 FL0 rm Q T' (mkF m (pc + 1) Ls rest)) :
    Wo p e s below Z EL n0 WL0 FL0 rm Q T (mkF m pc Ls (.int x :: .int j :: .ref a :: rest)) := by
  obtain ⟨vm0, k0, locs, X, eT, hS, hk, hZ, hown, N, I⟩ := X
  obtain ⟨cl, A1, A2, A3, A4, A5, A6⟩ := A
  obtain ⟨T', h', X', eT', W, st⟩ := RoadKit.stB X hx hZ eT A1 (inb_of A3 hj) (g := mkF m pc Ls (.int x :: .int j :: .ref a :: rest)) rfl rfl hd
  exact Wo.by st (k T' h' ⟨vm0, k0, _, X', eT', hS, by rw [W.size]; exact hk, hZ, hown, Fr.snoc X' N (I.ge ha), I.wr W ha⟩ W (Arv.set A1 A2 A3 A4 A5 A6 (fits_nar_byte x) W i hi hl))
theorem WS.initO (X : WS p l e R s m args below meth c Z EL n0 own T h WL FL cells slots) (hx : p.tables.exec = Jvm.exec) {idx : Nat} (w1 : (Jvm.Cond.methodLink own idx Lib.objectInit).before a0 Z = true) (w2 : (Jvm.Cond.instanceMethod Lib.objectInit).before a0 Z = true)
    (w3 : (Jvm.Cond.code Lib.objectInit ⟨#[0xb1]⟩ 1 none).before a0 Z = true) (hsize : Ls.size = c.maxLocals) {a : Addr} (hd : decode c.code pc = .ok (.invokespecial idx, 3))
    (hf : 1 ≤ R.frames) {W : Nat} (hW : (rest.map fun v => v.category).sum ≤ W) (hl : W + 12 ≤ R.locals)
    (k : ∀ T', WS p l e R s m args below meth c Z EL n0 own T' h WL FL cells slots → Wo p e s below Z EL n0 WL0 FL0 rm Q T' (mkF m (pc + 3) Ls rest)) :
    Wo p e s below Z EL n0 WL0 FL0 rm Q T (mkF m pc Ls (.ref a :: rest)) := by
  obtain ⟨vm0, k0, locs, X, eT, hS, hk, hZ, hown, N, I⟩ := X
  obtain ⟨T', X', eT', st⟩ := RoadKit.initO X hx hZ hown w1 w2 w3 eT (g := mkF m pc Ls (.ref a :: rest)) rfl hsize rfl hd hf (W := W) (by show 2 * 0 + _ ≤ _; omega) hl
  exact Wo.by st (k T' ⟨vm0, k0, _, X', eT', hS, hk, hZ, hown, N, I⟩)
theorem cat_ref {v : Value} (hv : v.isRef = true) : v.category = 1 := by rcases ref_cases hv with rfl | ⟨a, rfl⟩ <;> rfl
theorem nar_ref {v : Value} {t : FieldType} (ht : t.isReference = true) (hv : v.isRef = true) : narrow t v = v := by cases t <;> first | (cases ht; done) | (rcases ref_cases hv with rfl | ⟨a, rfl⟩ <;> rfl)
theorem fit_ref {v : Value} {t : FieldType} (ht : t.isReference = true) (hv : v.isRef = true) : fits t v = true := by cases t <;> first | (cases ht; done) | (rcases ref_cases hv with rfl | ⟨a, rfl⟩ <;> rfl)
theorem WS.acmp (X : WS p l e R s m args below meth c Z EL n0 own T h WL FL cells slots) (hx : p.tables.exec = Jvm.exec) {cd : ACond} {x y : Value} (h1 : x.isRef = true) (h2 : y.isRef = true) {o : Int} {pc' : Nat} {same : Bool}
    (hd : decode c.code pc = .ok (.if_acmp cd o, 3)) (hq : decide (x = y) = same) (ho : 0 ≤ (pc : Int) + o) (hp : pc' = if acV cd same = true then ((pc : Int) + o).toNat else pc + 3)
    (k : Wo p e s below Z EL n0 WL0 FL0 rm Q T (mkF m pc' Ls rest)) : Wo p e s below Z EL n0 WL0 FL0 rm Q T (mkF m pc Ls (y :: x :: rest)) := by
  obtain ⟨vm0, k0, locs, X, eT, hS, hk, hZ, hown, N, I⟩ := X
  exact Wo.by (fun t q => RoadKit.acmp (g := mkF m pc Ls (y :: x :: rest)) X hx rfl h1 h2 (pc0 := pc) rfl hd rfl hq ho hp q) k
theorem WS.alen (X : WS p l e R s m args below meth c Z EL n0 own T h WL FL cells slots) (hx : p.tables.exec = Jvm.exec) {a : Addr} {ka : ClassId} {ty : FieldType} {N : Int32} {vs : List Value} {dv : Value} (A : Arv Z h a ka ty N vs dv) (hd : decode c.code pc = .ok (.arraylength, 1))
    (k : Wo p e s below Z EL n0 WL0 FL0 rm Q T (mkF m (pc + 1) Ls (.int N :: rest))) : Wo p e s below Z EL n0 WL0 FL0 rm Q T (mkF m pc Ls (.ref a :: rest)) := by
  obtain ⟨vm0, k0, locs, X, eT, hS, hk, hZ, hown, N, I⟩ := X
  obtain ⟨cl, A1, A2, A3, A4, -, -⟩ := A
  refine Wo.by (fun t q => X.arraylength hx (by rw [eT]; exact A1.1) (State.isArrayOf_alike hZ.alike A1.2.1) (g := mkF m pc Ls (.ref a :: rest)) rfl rfl hd t ?_) k
  rw [len_of A3 A4]; exact q
theorem WS.cld (X : WS p l e R s m args below meth c Z EL n0 own T h WL FL cells slots) (hx : p.tables.exec = Jvm.exec) {a : Addr} {ka : ClassId} {N : Int32} {vs : List Value} {dv : Value} (A : Arv Z h a ka .char N vs dv) {j x : Int32} (hj : ¬ j < 0 ∧ j < N) (hv : vs.getD j.toNatClampNeg dv = .int x) (hd : decode c.code pc = .ok (.caload, 1))
    (k : Wo p e s below Z EL n0 WL0 FL0 rm Q T (mkF m (pc + 1) Ls (.int x :: rest))) : Wo p e s below Z EL n0 WL0 FL0 rm Q T (mkF m pc Ls (.int j :: .ref a :: rest)) := by
  obtain ⟨vm0, k0, locs, X, eT, hS, hk, hZ, hown, N, I⟩ := X
  obtain ⟨cl, A1, A2, A3, A4, A5, -⟩ := A
  exact Wo.by (fun t q => X.caload hx (by rw [eT]; exact A1.1) (State.isArrayOf_alike hZ.alike A1.2.1) A1.2.2 (inb_of A3 hj) (A5.at (inb_of A3 hj) hv) (g := mkF m pc Ls (.int j :: .ref a :: rest)) rfl rfl hd t q) k
theorem WS.bld (X : WS p l e R s m args below meth c Z EL n0 own T h WL FL cells slots) (hx : p.tables.exec = Jvm.exec) {a : Addr} {ka : ClassId} {N : Int32} {vs : List Value} {dv : Value} (A : Arv Z h a ka .byte N vs dv) {j x : Int32} (hj : ¬ j < 0 ∧ j < N) (hv : vs.getD j.toNatClampNeg dv = .int x) (hd : decode c.code pc = .ok (.baload, 1))
    (k : Wo p e s below Z EL n0 WL0 FL0 rm Q T (mkF m (pc + 1) Ls (.int x :: rest))) : Wo p e s below Z EL n0 WL0 FL0 rm Q T (mkF m pc Ls (.int j :: .ref a :: rest)) := by
  obtain ⟨vm0, k0, locs, X, eT, hS, hk, hZ, hown, N, I⟩ := X
  obtain ⟨cl, A1, A2, A3, A4, A5, -⟩ := A
  exact Wo.by (fun t q => X.baloadBytes hx (by rw [eT]; exact A1.1) (State.isArrayOf_alike hZ.alike A1.2.1) A1.2.2 (inb_of A3 hj) (A5.at (inb_of A3 hj) hv) (g := mkF m pc Ls (.int j :: .ref a :: rest)) rfl rfl hd t q) k
theorem WS.castY (X : WS p l e R s m args below meth c Z EL n0 own T h WL FL cells slots) (hx : p.tables.exec = Jvm.exec) {C : String} {index : Nat} (w : (Jvm.Cond.classLink own index C).before a0 Z = true) {a : Addr} (F : Ins Z h a C true) (hd : decode c.code pc = .ok (.checkcast index, 3))
    (k : ∀ T', WS p l e R s m args below meth c Z EL n0 own T' h WL FL cells slots → Wo p e s below Z EL n0 WL0 FL0 rm Q T' (mkF m (pc + 3) Ls (.ref a :: rest))) : Wo p e s below Z EL n0 WL0 FL0 rm Q T (mkF m pc Ls (.ref a :: rest)) := by
  obtain ⟨vm0, k0, locs, X, eT, hS, hk, hZ, hown, N, I⟩ := X
  obtain ⟨T', X', eT', st⟩ := RoadKit.castY X hx hZ hown w eT F (g := mkF m pc Ls (.ref a :: rest)) rfl rfl hd
  exact Wo.by st (k T' ⟨vm0, k0, _, X', eT', hS, hk, hZ, hown, N, I⟩)
theorem WS.instY (X : WS p l e R s m args below meth c Z EL n0 own T h WL FL cells slots) (hx : p.tables.exec = Jvm.exec) {C : String} {index : Nat} (w : (Jvm.Cond.classLink own index C).before a0 Z = true) {a : Addr} (F : Ins Z h a C true) (hd : decode c.code pc = .ok (.instanceof index, 3))
    (k : ∀ T', WS p l e R s m args below meth c Z EL n0 own T' h WL FL cells slots → Wo p e s below Z EL n0 WL0 FL0 rm Q T' (mkF m (pc + 3) Ls (.int 1 :: rest))) : Wo p e s below Z EL n0 WL0 FL0 rm Q T (mkF m pc Ls (.ref a :: rest)) := by
  obtain ⟨vm0, k0, locs, X, eT, hS, hk, hZ, hown, N, I⟩ := X
  obtain ⟨T', X', eT', st⟩ := RoadKit.instY X hx hZ hown w eT F (g := mkF m pc Ls (.ref a :: rest)) rfl rfl hd
  exact Wo.by st (k T' ⟨vm0, k0, _, X', eT', hS, hk, hZ, hown, N, I⟩)
theorem WS.castN (X : WS p l e R s m args below meth c Z EL n0 own T h WL FL cells slots) (hx : p.tables.exec = Jvm.exec) {index : Nat} (hd : decode c.code pc = .ok (.checkcast index, 3))
    (k : Wo p e s below Z EL n0 WL0 FL0 rm Q T (mkF m (pc + 3) Ls (.null :: rest))) : Wo p e s below Z EL n0 WL0 FL0 rm Q T (mkF m pc Ls (.null :: rest)) := by
  obtain ⟨vm0, k0, locs, X, eT, hS, hk, hZ, hown, N, I⟩ := X
  exact Wo.by (X.checkcastNull hx (g := mkF m pc Ls (.null :: rest)) rfl rfl hd) k
theorem WS.ldcI (X : WS p l e R s m args below meth c Z EL n0 own T h WL FL cells slots) (hx : p.tables.exec = Jvm.exec) {index : Nat} {v : Int32} (w : (Jvm.Cond.constant own index v).before a0 Z = true) (hd : decode c.code pc = .ok (.ldc index, 2))
    (k : Wo p e s below Z EL n0 WL0 FL0 rm Q T (mkF m (pc + 2) Ls (.int v :: st))) : Wo p e s below Z EL n0 WL0 FL0 rm Q T (mkF m pc Ls st) := by
  obtain ⟨vm0, k0, locs, X, eT, hS, hk, hZ, hown, N, I⟩ := X
  exact Wo.by (X.ldcInt hx hown (mv hZ w) (g := mkF m pc Ls st) rfl hd) k
theorem WS.cpA (X : WS p l e R s m args below meth c Z EL n0 own T h WL FL cells slots) (hx : p.tables.exec = Jvm.exec) {index : Nat} (w1 : (Jvm.Cond.methodLink own index Jvm.Stand.acN).before a0 Z = true) (w2 : (Jvm.Cond.native Jvm.Stand.acN).before a0 Z = true) (w3 : (Jvm.Cond.static Jvm.Stand.acN).before a0 Z = true) (w4 : (Jvm.Cond.initialized "java/lang/System").before a0 Z = true)
    {a b : Addr} {ka kb : ClassId} {ty ty' : FieldType} {z z' sp dp nn : Int32} {vs vd us vr : List Value} {dv dd : Value} (A : Arv Z h a ka ty z vs dv) (B : Arv Z h b kb ty' z' vd dd) (hty : (ty = ty' ∧ refKind ty = false) ∨ (refKind ty = true ∧ refKind ty' = true ∧ StoL Z h b us))
    (h1 : ¬ sp < 0) (h2 : ¬ dp < 0) (h3 : ¬ nn < 0) (h4 : sp.toNatClampNeg + nn.toNatClampNeg ≤ z.toNatClampNeg) (h5 : dp.toNatClampNeg + nn.toNatClampNeg ≤ z'.toNatClampNeg)
    (hus : us = (List.range nn.toNatClampNeg).map fun i => vs.getD (sp.toNatClampNeg + i) dv) (hl : dp.toNatClampNeg + nn.toNatClampNeg ≤ vd.length) (hr : vd.take dp.toNatClampNeg ++ us ++ vd.drop (dp.toNatClampNeg + nn.toNatClampNeg) = vr) (hb : b ∈ WL)
    (hsize : Ls.size = c.maxLocals) (hd : decode c.code pc = .ok (.invokestatic index, 3)) (hf : 1 ≤ R.frames) {W : Nat} (hW : (rest.map fun v => v.category).sum ≤ W) (hlo : W + 18 ≤ R.locals)
    (k : ∀ T' h', WS p l e R s m args below meth c Z EL n0 own T' h' WL FL cells slots → Keep h h' [b] → Arv Z h' b kb ty' z' vr dd → Wo p e s below Z EL n0 WL0 FL0 rm Q T' (mkF m (pc + 3) Ls rest)) :
    Wo p e s below Z EL n0 WL0 FL0 rm Q T (mkF m pc Ls (.int nn :: .int dp :: .ref b :: .int sp :: .ref a :: rest)) := by
  obtain ⟨vm0, k0, locs, X, eT, hS, hk, hZ, hown, N, I⟩ := X
  obtain ⟨T', h', L, X', eT', N', K, V, st⟩ := RoadKit.cpA X hx hZ hown w1 w2 w3 w4 eT A B hty h1 h2 h3 h4 h5 hus hl N (I.ge hb) (g := mkF m pc Ls (.int nn :: .int dp :: .ref b :: .int sp :: .ref a :: rest)) rfl hsize rfl hd hf (W := W) (by show 2 * 0 + _ ≤ _; omega) (by rw [show nativeFrameWords "java/lang/System" "arraycopy" 5 = 7 by decide]; omega)
  subst hr
  exact Wo.by st (k T' h' ⟨vm0, k0, _, X', eT', hS, Nat.le_trans hk K.1, hZ, hown, N', I.keep K (allS hb all0)⟩ K V)
/-- a String constant, read -/
theorem WS.ldc (X : WS p l e R s m args below meth c Z EL n0 own T h WL FL cells slots) (hx : p.tables.exec = Jvm.exec) {index : Nat} {text : String} (w : (Jvm.Cond.stringLink own index text).before a0 Z = true) (wS : ∀ a ∈ Bundle.stringAtoms, a.before a0 Z = true) (hmem : (own, index) ∈ EL)
    {vs : List Value} {z : Int32} (ht : (∀ c ∈ text.toList, c.toNat < 256) ∧ text.toList.map (fun c => Value.int (Jvm.Lit.byteI c.toNat.toUInt16)) = vs) (hz : ¬ z < 0) (hl : z.toNatClampNeg = vs.length)
    (hd : decode c.code pc = .ok (.ldc index, 2)) {n : Nat} (hn : 4 * text.toList.length ≤ n) (hbig : n ≤ 536870912) (hc : cells + 2 ≤ R.cells) (hl' : slots + (n + 4) ≤ R.slots)
    (k : ∀ T' h' a b kb, WS p l e R s m args below meth c Z EL n0 own T' h' WL (a :: b :: FL) (cells + 2) (slots + (n + 4)) → Ext h h' → Exa Z h' a "java/lang/String" → Fld Z h' a "java/lang/String" "coder" "B" (.int 0) → Fld Z h' a "java/lang/String" "value" "[B" (.ref b) → Arv Z h' b kb .byte z vs (.int 0) → Wo p e s below Z EL n0 WL0 FL0 rm Q T' (mkF m (pc + 2) Ls (.ref a :: st))) :
    Wo p e s below Z EL n0 WL0 FL0 rm Q T (mkF m pc Ls st) := by
  obtain ⟨vm0, k0, locs, X, eT, hS, hk, hZ, hown, N, ⟨a1, i1⟩, i2, i3, i4, i5, i6⟩ := X
  obtain ⟨a, T', h', k1, b, kb, X', eT', E, hS', hk', hZ', hown', A, C, V, B, la, lb, hC, -, hne, st⟩ := ldcCH X hx hZ hown w wS eT hS hk i1 hmem i2 ht hz hl (g := mkF m pc Ls st) rfl hd hn hbig hc hl'
  have S : ∀ x ∈ WL, Safe Z EL T'.vm h' x := fun x hx => hC.safe (i4 x hx).2.1 (i4 x hx).2.2
  refine Wo.by st (k T' h' a b kb ⟨T'.vm, k1, _, X', eT', hS', hk', hZ', hown', N, ⟨a1, i1⟩, hC.1, i3.ext E, fun x hx => ⟨(i4 x hx).1, Nat.lt_of_lt_of_le (i4 x hx).2.1 E.1, S x hx⟩, i5, fun y hy => ?_⟩ E A C V B)
  rcases List.mem_cons.mp hy with rfl | hy
  · exact ⟨la, fun q => (hne _ (S _ q)).1 rfl⟩
  · rcases List.mem_cons.mp hy with rfl | hy
    · exact ⟨lb, fun q => (hne _ (S _ q)).2 rfl⟩
    · exact ⟨Nat.lt_of_lt_of_le (i6 y hy).1 E.1, (i6 y hy).2⟩
/-- a String constant that nobody reads -/
theorem WS.ldcO (X : WS p l e R s m args below meth c Z EL n0 own T h WL FL cells slots) (hx : p.tables.exec = Jvm.exec) {index : Nat} {text : String} (w : (Jvm.Cond.stringLink own index text).before a0 Z = true) (wS : ∀ a ∈ Bundle.stringAtoms, a.before a0 Z = true)
    (hd : decode c.code pc = .ok (.ldc index, 2)) {n : Nat} (hn : 4 * text.toList.length ≤ n) (hbig : n ≤ 536870912) (hc : cells + 2 ≤ R.cells) (hl' : slots + (n + 4) ≤ R.slots)
    (k : ∀ T' h' a, WS p l e R s m args below meth c Z EL n0 own T' h' WL FL (cells + 2) (slots + (n + 4)) → Ext h h' → Wo p e s below Z EL n0 WL0 FL0 rm Q T' (mkF m (pc + 2) Ls (.ref a :: st))) :
    Wo p e s below Z EL n0 WL0 FL0 rm Q T (mkF m pc Ls st) := by
  obtain ⟨vm0, k0, locs, X, eT, hS, hk, hZ, hown, N, ⟨a1, i1⟩, i2, i3, i4, i5, i6⟩ := X
  obtain ⟨a, T', h', k1, X', eT', E, hS', hk', hZ', hown', hC, -, st⟩ := ldcOH X hx hZ hown w wS eT hS hk i1 i2 (g := mkF m pc Ls st) rfl hd hn hbig hc hl'
  exact Wo.by st (k T' h' a ⟨T'.vm, k1, _, X', eT', hS', hk', hZ', hown', N, ⟨a1, i1⟩, hC.1, i3.ext E, fun x hx => ⟨(i4 x hx).1, Nat.lt_of_lt_of_le (i4 x hx).2.1 E.1, hC.safe (i4 x hx).2.1 (i4 x hx).2.2⟩, i5, fun y hy => ⟨Nat.lt_of_lt_of_le (i6 y hy).1 E.1, (i6 y hy).2⟩⟩ E)
/-- who pays a call -/
def Pay (l : Launch) (R : Room) (p : Program) (e : Env) (below : List Frame) (s : State) (args : Array Value) (Z : State) (EL : List (String × Nat)) (n0 : Nat) (y : MethodName) (len W : Nat) (as' : Array Value) (h : Heap) (WL FL : List Addr) (k n : Nat) (Q : Option Value → Heap → List Addr → List Addr → Prop) : Prop :=
  ∀ vm0, Z.Warmed39 vm0 → Inv Z EL n0 vm0 h WL FL → BackS l R p e below (s.setVm vm0) args y len W (fun A a => a = as' ∧ A.U.heap = h ∧ A.cells + k ≤ R.cells ∧ A.slots + n ≤ R.slots)
    (fun A _ v B => ∃ L WL' FL', Q v B.U.heap WL' FL' ∧ Fr n0 L ∧ B.locs = A.locs ++ L ∧ B.cells = A.cells + k ∧ B.slots = A.slots + n ∧ Inv Z EL n0 B.U.vm B.U.heap (WL' ++ WL) (FL' ++ FL))
theorem Ct.pay {y : MethodName} {bytes : ByteArray} {maxL : Nat} {ret : Option FieldType} {rm : Room} {as' : Array Value} {len W : Nat} {Q : Option Value → Heap → List Addr → List Addr → Prop} (C : Ct l Z EL n0 y bytes maxL ret rm as' h WL FL Q)
    (wc : (Jvm.Cond.code y bytes maxL ret).before a0 Z = true) (wz : (Jvm.Cond.initialized y.cls).before a0 Z = true) (hf : rm.frames + 1 ≤ R.frames) (hl : W + (maxL + 11) + rm.locals ≤ R.locals) :
    Pay l R p e below s args Z EL n0 y len W as' h WL FL rm.cells rm.slots Q := fun vm0 hZ I =>
  BackS.of_freeW (bytes := bytes) (maxL := maxL) (ret := ret) (E := fun _ first o t L k n => k = rm.cells ∧ n = rm.slots ∧ ∃ v WL' FL', o = .returned v ∧ Q v t.heap WL' FL' ∧ Fr n0 L ∧ Inv Z EL n0 t.vm t.heap (WL' ++ WL) (FL' ++ FL)) (C []) hf hl
    (fun m meth c A a Y hp => have hU : Z.Warmed39 A.U.vm := wtrans (s := s.setVm vm0) hZ Y.warmed
      ⟨by show (Jvm.Cond.and _ .tt).before a A.U = true; rw [Cond.before_and, mv hU wc]; rfl, mv hU wc, mv hU wz, hp.2.2.1, hp.2.2.2⟩)
    (fun m meth c A a g mk Y hp => ⟨hp.1, wtrans (s := s.setVm vm0) hZ Y.warmed, hp.2.1, (show Inv Z EL n0 A.U.vm h WL FL from WS.invT Y hZ I)⟩) (fun _ _ _ _ _ _ _ _ _ => trivial)
    (fun _ _ _ _ ⟨v, L, WL', FL', h1, h2, h3, h4, h5⟩ => ⟨L, _, _, h5, rfl, rfl, v, WL', FL', h1, h4, h3, h2⟩)
    (fun m meth c A a g mk v t L k n Y hp _ _ ⟨e1, e2, v', WL', FL', e3, e4, e5, e6⟩ => by
      cases e3; subst e1 e2
      exact ⟨L, WL', FL', e4, e5, rfl, rfl, rfl, e6⟩)
/-- a law of the narrow shape pays too -/
theorem Pay.ofN {y : MethodName} {as' : Array Value} {len W k n : Nat} {Qn : Option Value → Heap → List Loc → Prop} {Q : Option Value → Heap → List Addr → List Addr → Prop}
    (B : ∀ vm0, Z.Warmed39 (s.setVm vm0).vm → Back l R p e below (s.setVm vm0) args y len W (fun A a => a = as' ∧ A.U.heap = h ∧ A.cells + k ≤ R.cells ∧ A.slots + n ≤ R.slots) (fun A _ v B => ∃ L, Qn v B.U.heap L ∧ B.locs = A.locs ++ L ∧ B.cells = A.cells + k ∧ B.slots = A.slots + n))
    (hq : ∀ v h' L, Qn v h' L → Fr n0 L ∧ ∃ ws FL', Keep h h' ws ∧ (∀ x ∈ ws, x ∈ WL) ∧ (∀ y ∈ FL', h.size ≤ y ∧ y < h'.size) ∧ Q v h' [] FL') :
    Pay l R p e below s args Z EL n0 y len W as' h WL FL k n Q := fun vm0 hZ I => by
  intro m meth c A g ig mk a X hg hsize hdg hW hn hp
  obtain ⟨v, B, X', ⟨L, q1, q2, q3, q4⟩, st⟩ := B vm0 hZ m meth c A g ig mk a X hg hsize hdg hW hn hp
  obtain ⟨N, ws, FL', K, hws, hF, q⟩ := hq _ _ _ q1
  refine ⟨v, B, X'.retabled X'.warmed.wide, X'.warmed.since _, by rw [hp.2.1]; exact K.1, ⟨L, [], FL', q, N, q2, q3, q4, ?_⟩, st⟩
  obtain ⟨i1, i2, i3, i4, i5, i6⟩ := WS.invT X' hZ (I.keep K hws)
  refine ⟨i1, i2, i3, i4, i5, fun y hy => ?_⟩
  rcases List.mem_append.mp hy with z | z
  · exact ⟨(hF y z).2, fun w => Nat.lt_irrefl _ (Nat.lt_of_lt_of_le (I.lt w) (hF y z).1)⟩
  · exact i6 y z
/-- behind a call -/
theorem WS.back {vm0 : Vm} {k0 : Nat} {locs : List Loc} {B : Pt} {k n : Nat} {L : List Loc} {WL' FL' : List Addr} (hS : s.Since vm0 k0) (hk : k0 ≤ T.heap.size) (hZ : Z.Warmed39 vm0) (hown : vm0.findClass own = some m.cls) (N : Fr n0 locs) (X' : Stand p l e R ((s.setVm vm0).setVm B.U.vm) m args below meth c B.U B.locs B.cells B.slots)
    (hS' : (s.setVm vm0).Since B.U.vm B.U.heap.size) (hgr : T.heap.size ≤ B.U.heap.size) (N' : Fr n0 L) (q2 : B.locs = locs ++ L) (q3 : B.cells = cells + k) (q4 : B.slots = slots + n) (I' : Inv Z EL n0 B.U.vm B.U.heap (WL' ++ WL) (FL' ++ FL)) :
    WS p l e R s m args below meth c Z EL n0 own B.U B.U.heap (WL' ++ WL) (FL' ++ FL) (cells + k) (slots + n) := by
  obtain ⟨U, Lo, ck, sl⟩ := B
  dsimp only [Pt.U, Pt.locs, Pt.cells, Pt.slots] at *
  subst q2 q3 q4
  exact ⟨U.vm, U.heap.size, _, X', rfl, hS.trans hS' (Nat.le_trans hk hgr), Nat.le_refl _, State.Warmed39.trans (t := s.setVm vm0) hZ hS'.1, by rw [hS'.1.alike.findClass]; exact hown, N.app N', I'⟩
variable {index : Nat} {y z : MethodName} {bytes : ByteArray} {maxL : Nat} {ret : Option FieldType} {W k n : Nat} {as' : Array Value} {Qc : Option Value → Heap → List Addr → List Addr → Prop} {argsL : List Value}
theorem WS.callS (X : WS p l e R s m args below meth c Z EL n0 own T h WL FL cells slots) (hx : p.tables.exec = Jvm.exec) (w1 : (Jvm.Cond.methodLink own index y).before a0 Z = true) (w2 : (Jvm.Cond.static y).before a0 Z = true) (w3 : (Jvm.Cond.initialized y.cls).before a0 Z = true) (w4 : (Jvm.Cond.code y bytes maxL ret).before a0 Z = true) (hy : y.cls ≠ "java/lang/invoke/MethodHandle" ∧ y.cls ≠ "java/lang/invoke/VarHandle")
    (hP : Pay l R p e below s args Z EL n0 y 3 W as' h WL FL k n Qc) (hsize : Ls.size = c.maxLocals) (hlen : ∀ sig, parseMethodDescriptor y.desc = some sig → argsL.length = sig.parameters.length) (hst : st = argsL.reverse ++ rest) (has : argsL.toArray = as') (hW : (rest.map fun v => v.category).sum ≤ W)
    (hd : decode c.code pc = .ok (.invokestatic index, 3)) (hc : cells + k ≤ R.cells) (hl : slots + n ≤ R.slots)
    (kk : ∀ T' h' v WL' FL', WS p l e R s m args below meth c Z EL n0 own T' h' (WL' ++ WL) (FL' ++ FL) (cells + k) (slots + n) → Qc v h' WL' FL' → Wo p e s below Z EL n0 WL0 FL0 rm Q T' (mkF m (pc + 3) Ls (v.toList ++ rest))) :
    Wo p e s below Z EL n0 WL0 FL0 rm Q T (mkF m pc Ls st) := by
  obtain ⟨vm0, k0, locs, X, eT, hS, hk, hZ, hown, N, I⟩ := X
  obtain ⟨v, vm₁, B, -, X', hS', hgr, ⟨L, WL', FL', q, N', q2, q3, q4, I'⟩, stp⟩ := callSS X hx hown (mv hZ w1) (mv hZ w2) (mv hZ w3) (mv hZ w4) hy (hP vm0 hZ I) (g := mkF m pc Ls st) rfl hsize hlen hst (by show 2 * 0 + _ ≤ _; omega) hd (fun _ _ => ⟨has, eT, hc, hl⟩)
  exact Wo.by (fun t r => stp.trans r) (kk B.U _ v WL' FL' (WS.back hS (by rw [eT]; exact hk) hZ hown N X' hS' hgr N' q2 q3 q4 I') q)
theorem WS.callC (X : WS p l e R s m args below meth c Z EL n0 own T h WL FL cells slots) (hx : p.tables.exec = Jvm.exec) (hi : y.name = "<init>") (w1 : (Jvm.Cond.methodLink own index y).before a0 Z = true) (w2 : (Jvm.Cond.instanceMethod y).before a0 Z = true) (w4 : (Jvm.Cond.code y bytes maxL none).before a0 Z = true) (hy : y.cls ≠ "java/lang/invoke/MethodHandle" ∧ y.cls ≠ "java/lang/invoke/VarHandle")
    {a : Addr} (hP : Pay l R p e below s args Z EL n0 y 3 W as' h WL FL k n Qc) (hsize : Ls.size = c.maxLocals) (hlen : ∀ sig, parseMethodDescriptor y.desc = some sig → argsL.length = sig.parameters.length) (hst : st = argsL.reverse ++ .ref a :: rest) (has : (Value.ref a :: argsL).toArray = as') (hW : (rest.map fun v => v.category).sum ≤ W)
    (hd : decode c.code pc = .ok (.invokespecial index, 3)) (hc : cells + k ≤ R.cells) (hl : slots + n ≤ R.slots)
    (kk : ∀ T' h' v WL' FL', WS p l e R s m args below meth c Z EL n0 own T' h' (WL' ++ WL) (FL' ++ FL) (cells + k) (slots + n) → Qc v h' WL' FL' → Wo p e s below Z EL n0 WL0 FL0 rm Q T' (mkF m (pc + 3) Ls (v.toList ++ rest))) :
    Wo p e s below Z EL n0 WL0 FL0 rm Q T (mkF m pc Ls st) := by
  obtain ⟨vm0, k0, locs, X, eT, hS, hk, hZ, hown, N, I⟩ := X
  obtain ⟨v, vm₁, B, -, X', hS', hgr, ⟨L, WL', FL', q, N', q2, q3, q4, I'⟩, stp⟩ := X.specialBackS hx hi hown (mv hZ w1) (mv hZ w2) (mv hZ w4) hy (hP vm0 hZ I) (g := mkF m pc Ls st) rfl hsize (Steps.refl _) hlen hst (by show 2 * 0 + _ ≤ _; omega) hd (fun _ _ => ⟨has, eT, hc, hl⟩)
  exact Wo.by (fun t r => stp.trans r) (kk B.U _ v WL' FL' (WS.back hS (by rw [eT]; exact hk) hZ hown N X' hS' hgr N' q2 q3 q4 I') q)
theorem WS.callV {C : String} (X : WS p l e R s m args below meth c Z EL n0 own T h WL FL cells slots) (hx : p.tables.exec = Jvm.exec) (w1 : (Jvm.Cond.methodLink own index y).before a0 Z = true) (w2 : (Jvm.Cond.declares y).before a0 Z = true) (w3 : (Jvm.Cond.selects C y z).before a0 Z = true) (w4 : (Jvm.Cond.instanceMethod z).before a0 Z = true) (hf : ∀ vm0, Z.Warmed39 vm0 → NotFace (s.setVm vm0) y) (hy : y.cls ≠ "java/lang/invoke/MethodHandle" ∧ y.cls ≠ "java/lang/invoke/VarHandle")
    {a : Addr} (E : Exa Z h a C) (hP : Pay l R p e below s args Z EL n0 z 3 W as' h WL FL k n Qc) (hsize : Ls.size = c.maxLocals) (hlen : ∀ sig, parseMethodDescriptor y.desc = some sig → argsL.length = sig.parameters.length) (hst : st = argsL.reverse ++ .ref a :: rest) (has : (Value.ref a :: argsL).toArray = as') (hW : (rest.map fun v => v.category).sum ≤ W)
    (hd : decode c.code pc = .ok (.invokevirtual index, 3)) (hc : cells + k ≤ R.cells) (hl : slots + n ≤ R.slots)
    (kk : ∀ T' h' v WL' FL', WS p l e R s m args below meth c Z EL n0 own T' h' (WL' ++ WL) (FL' ++ FL) (cells + k) (slots + n) → Qc v h' WL' FL' → Wo p e s below Z EL n0 WL0 FL0 rm Q T' (mkF m (pc + 3) Ls (v.toList ++ rest))) :
    Wo p e s below Z EL n0 WL0 FL0 rm Q T (mkF m pc Ls st) := by
  obtain ⟨vm0, k0, locs, X, eT, hS, hk, hZ, hown, N, I⟩ := X
  obtain ⟨cB, kB, q0, q1, q5⟩ := isOf (s := s.setVm vm0) hZ eT E
  obtain ⟨v, vm₁, B, -, X', hS', hgr, ⟨L, WL', FL', q, N', q2, q3, q4, I'⟩, stp⟩ := X.virtualBackS hx hown (mv hZ w1) (mv hZ w2) (hf vm0 hZ) (mv hZ w3) (mv hZ w4) hy (hP vm0 hZ I) q0 q5 (g := mkF m pc Ls st) rfl hsize (Steps.refl _) hlen hst (by show 2 * 0 + _ ≤ _; omega) hd (fun _ _ => ⟨has, eT, hc, hl⟩)
  exact Wo.by (fun t r => stp.trans r) (kk B.U _ v WL' FL' (WS.back hS (by rw [eT]; exact hk) hZ hown N X' hS' hgr N' q2 q3 q4 I') q)
theorem WS.callI {C : String} {count : Nat} (X : WS p l e R s m args below meth c Z EL n0 own T h WL FL cells slots) (hx : p.tables.exec = Jvm.exec) (w1 : (Jvm.Cond.methodLink own index y).before a0 Z = true) (w2 : (Jvm.Cond.declares y).before a0 Z = true) (w2' : (Jvm.Cond.interfaceMethod y.cls y.cls y.name y.desc).before a0 Z = true) (w3 : (Jvm.Cond.selects C y z).before a0 Z = true) (w4 : (Jvm.Cond.instanceMethod z).before a0 Z = true)
    (w5 : (Jvm.Cond.publicMethod z).before a0 Z = true) (w6 : (Jvm.Cond.unhidden C y.name y.desc).before a0 Z = true) (w7 : (Jvm.Cond.castable C y.cls).before a0 Z = true) (hy : y.cls ≠ "java/lang/invoke/MethodHandle" ∧ y.cls ≠ "java/lang/invoke/VarHandle")
    {a : Addr} (E : Exa Z h a C) (hP : Pay l R p e below s args Z EL n0 z 5 W as' h WL FL k n Qc) (hsize : Ls.size = c.maxLocals) (hlen : ∀ sig, parseMethodDescriptor y.desc = some sig → argsL.length = sig.parameters.length) (hst : st = argsL.reverse ++ .ref a :: rest) (has : (Value.ref a :: argsL).toArray = as') (hW : (rest.map fun v => v.category).sum ≤ W)
    (hd : decode c.code pc = .ok (.invokeinterface index count, 5)) (hc : cells + k ≤ R.cells) (hl : slots + n ≤ R.slots)
    (kk : ∀ T' h' v WL' FL', WS p l e R s m args below meth c Z EL n0 own T' h' (WL' ++ WL) (FL' ++ FL) (cells + k) (slots + n) → Qc v h' WL' FL' → Wo p e s below Z EL n0 WL0 FL0 rm Q T' (mkF m (pc + 5) Ls (v.toList ++ rest))) :
    Wo p e s below Z EL n0 WL0 FL0 rm Q T (mkF m pc Ls st) := by
  obtain ⟨vm0, k0, locs, X, eT, hS, hk, hZ, hown, N, I⟩ := X
  obtain ⟨cB, kB, q0, q1, q5⟩ := isOf (s := s.setVm vm0) hZ eT E
  obtain ⟨v, vm₁, B, -, X', hS', hgr, ⟨L, WL', FL', q, N', q2, q3, q4, I'⟩, stp⟩ := X.interfaceBackS hx hown (mv hZ w1) (mv hZ w2) (mv hZ w2' (by simp [Cond.onTables, Cond.keepsFace, Cond.keeps, Cond.steady, Cond.faceAtom]; exact hy)) (mv hZ w3) (mv hZ w4) (mv hZ w5) (mv hZ w6) (mv hZ w7) hy (hP vm0 hZ I) q0 q1 q5 (g := mkF m pc Ls st) rfl hsize (Steps.refl _) hlen hst (by show 2 * 0 + _ ≤ _; omega) hd (fun _ _ => ⟨has, eT, hc, hl⟩)
  exact Wo.by (fun t r => stp.trans r) (kk B.U _ v WL' FL' (WS.back hS (by rw [eT]; exact hk) hZ hown N X' hS' hgr N' q2 q3 q4 I') q)
theorem declM (wi : (Jvm.Cond.instanceMethod y).before a0 Z = true) (wc : (Jvm.Cond.code y bytes maxL ret).before a0 Z = true) : (Jvm.Cond.declares y).before a0 Z = true := by
  obtain ⟨mk, me, hn, hm, hst, -⟩ := Cond.instanceMethod_spec wi
  obtain ⟨me', c', q1, -, -, -, -, -, -, hsig⟩ := Cond.code_spec hn wc
  cases hm.symm.trans q1
  simp [Cond.before, Cond.holds, Cond.value, hn, hm, hst, hsig]
theorem faceO {y' : MethodName} {C : String} (ws : (Jvm.Cond.selects C y' y').before a0 Z = true) (e : y'.cls = y.cls) : NotFace Z y := fun r0 h0 => by
  obtain ⟨c2, r2, m2, q1, q2, q3, q4, kP, hkP, hkPi⟩ := Cond.selects_spec ws
  have e1 := findClass_of_methodNamed q3
  have e2 := findClass_of_methodNamed h0
  rw [e] at e1
  have e3 := Option.some.inj (e1.symm.trans e2)
  exact ⟨kP, by rw [← e3]; exact hkP, hkPi⟩
theorem nfO {vm0 : Vm} {y' : MethodName} {C : String} (hZ : Z.Warmed39 vm0) (w : (Jvm.Cond.selects C y' y').before a0 Z = true) (e : y'.cls = y.cls) : NotFace (s.setVm vm0) y := faceO (a0 := #[]) (mv (s := s.setVm vm0) hZ w) e
theorem nfS {vm0 : Vm} {S : String} (hZ : Z.Warmed39 vm0) (w : (Jvm.Cond.superclass y.cls S).before a0 Z = true) : NotFace (s.setVm vm0) y := nf_super (args := #[]) (mv (s := s.setVm vm0) hZ w)
theorem sameM {y' : MethodName} {C : String} (hy : y.cls ≠ "java/lang/invoke/MethodHandle" ∧ y.cls ≠ "java/lang/invoke/VarHandle") (wi : (Jvm.Cond.instanceMethod y).before a0 Z = true) (ws : (Jvm.Cond.selects C y' y').before a0 Z = true) (e : y'.cls = y.cls) : (Jvm.Cond.sameMethod y.cls y.cls y.name y.desc).before a0 Z = true := by
  obtain ⟨mk, me, hn, hm, hst, -⟩ := Cond.instanceMethod_spec wi
  have hf := State.methodFound?_of_named hn hy
  have hc := findClass_of_methodNamed hn
  obtain ⟨kr, hkr, hni⟩ := faceO (y := y) ws e mk hn
  have hn' : Z.methodNamed? ⟨y.cls, y.name, y.desc⟩ = some mk := hn
  simp [Cond.before, Cond.holds, Cond.value, hc, hf, hn', hkr, hni]
theorem WS.callU {C K : String} {y' : MethodName} (X : WS p l e R s m args below meth c Z EL n0 own T h WL FL cells slots) (hx : p.tables.exec = Jvm.exec) (w1 : (Jvm.Cond.methodLink own index y).before a0 Z = true) (w2 : (Jvm.Cond.instanceMethod y).before a0 Z = true) (w3 : (Jvm.Cond.superclass own y.cls).before a0 Z = true) (w4 : (Jvm.Cond.code y bytes maxL ret).before a0 Z = true) (w5 : (Jvm.Cond.selects C y' y').before a0 Z = true) (e5 : y'.cls = y.cls) (hi : y.name ≠ "<init>") (hy : y.cls ≠ "java/lang/invoke/MethodHandle" ∧ y.cls ≠ "java/lang/invoke/VarHandle")
    {a : Addr} (F : Ins Z h a K true) (hP : Pay l R p e below s args Z EL n0 y 3 W as' h WL FL k n Qc) (hsize : Ls.size = c.maxLocals) (hlen : ∀ sig, parseMethodDescriptor y.desc = some sig → argsL.length = sig.parameters.length) (hst : st = argsL.reverse ++ .ref a :: rest) (has : (Value.ref a :: argsL).toArray = as') (hW : (rest.map fun v => v.category).sum ≤ W)
    (hd : decode c.code pc = .ok (.invokespecial index, 3)) (hc : cells + k ≤ R.cells) (hl : slots + n ≤ R.slots)
    (kk : ∀ T' h' v WL' FL', WS p l e R s m args below meth c Z EL n0 own T' h' (WL' ++ WL) (FL' ++ FL) (cells + k) (slots + n) → Qc v h' WL' FL' → Wo p e s below Z EL n0 WL0 FL0 rm Q T' (mkF m (pc + 3) Ls (v.toList ++ rest))) :
    Wo p e s below Z EL n0 WL0 FL0 rm Q T (mkF m pc Ls st) := by
  obtain ⟨vm0, k0, locs, X, eT, hS, hk, hZ, hown, N, I⟩ := X
  obtain ⟨v, vm₁, B, -, X', hS', hgr, ⟨L, WL', FL', q, N', q2, q3, q4, I'⟩, stp⟩ := superBackS X hx hZ hown w1 (sameM hy w2 w5 e5) w2 w3 hi (hP vm0 hZ I) eT F (g := mkF m pc Ls st) rfl hsize w4 hlen hst (by show 2 * 0 + _ ≤ _; omega) hd (fun _ _ => ⟨has, eT, hc, hl⟩)
  exact Wo.by (fun t r => stp.trans r) (kk B.U _ v WL' FL' (WS.back hS (by rw [eT]; exact hk) hZ hown N X' hS' hgr N' q2 q3 q4 I') q)
theorem nf {vm0 : Vm} {C : String} (hZ : Z.Warmed39 vm0) (w : (Jvm.Cond.selects C y y).before a0 Z = true) : NotFace (s.setVm vm0) y := notFace_of_selects (args := #[]) (mv (s := s.setVm vm0) hZ w)
end Walk
end Wd
end Jvm.Pilot.@@N@@
/- laws to paste: Road.backV, Road.lenW, Road.chN, Road.codOf (cut by pick.py; bodies as the Statement names them) -/
namespace Jvm.Pilot.@@N@@
namespace StrChars
open Jvm Sem ClassFile Op Lib Jvm.Stand Jvm.Free.XT Jvm.Free.ALB Jvm.Free.JM Jvm.Free
open Jvm.Lib.Cold (StaticIs)
/-- a char array whose places are chars -/
def Ch (a : Addr) (A : Cell) (U : State) : Prop := Arr .char a A U ∧ Typed .char A
theorem Ch.mv {a : Addr} {A : Cell} {U U' : State} (h : Ch a A U) (hal : U.vm.Alike U'.vm) (hh : U'.heap = U.heap) : Ch a A U' := ⟨h.1.mv hal hh, h.2⟩
theorem Ch.keep {a : Addr} {A : Cell} {U U' : State} (h : Ch a A U) (hal : U.vm.Alike U'.vm) (hk : U'.heap[a]? = some A) : Ch a A U' := ⟨h.1.keep hal hk, h.2⟩
/-- what place i of a char[]'s cell holds -/
def cv (A : Cell) (i : Nat) : Int32 := match A.slots[i]? with | some (.int x) => x | _ => 0
theorem Ch.get {a : Addr} {A : Cell} {U : State} (h : Ch a A U) {i : Nat} (hi : i < A.slots.size) : A.slots[i]? = some (.int (cv A i)) := by
  have e := Array.getElem?_eq_getElem hi
  have f := h.2 i _ e
  unfold cv; rw [e]
  generalize A.slots[i] = v at f
  cases v <;> simp [fits] at f ⊢
/-- the byte that i2b leaves of a char -/
def lo8 (x : Int32) : Int32 := x.toInt8.toInt32
theorem fits_lo8 (y : Int32) : fits .byte (.int (lo8 y)) = true := by
  have h1 := y.toInt8.le_toInt
  have h2 := y.toInt8.toInt_lt
  simp only [lo8, fits, Bool.and_eq_true, decide_eq_true_eq, Int32.le_iff_toInt_le, Int8.toInt_toInt32, show (-128 : Int32).toInt = -128 from by decide, show (127 : Int32).toInt = 127 from by decide]
  omega
/-- A' is A but that each place j of lo .. hi - 1 holds f j -/
def Laid (A A' : Cell) (lo hi : Nat) (f : Nat → Value) : Prop := A'.cls = A.cls ∧ A'.vm = A.vm ∧ A'.slots.size = A.slots.size ∧ ∀ i, A'.slots[i]? = if lo ≤ i ∧ i < hi then some (f i) else A.slots[i]?
theorem Laid.zero (A : Cell) (lo : Nat) (f : Nat → Value) : Laid A A lo (lo + 0) f := ⟨rfl, rfl, rfl, fun i => by rw [if_neg (by omega)]⟩
theorem Laid.step {A Ak : Cell} {lo k : Nat} {f : Nat → Value} {v : Value} (h : Laid A Ak lo k f) (hlo : lo ≤ k) (hk : k < Ak.slots.size) (hv : v = f k) : Laid A (Ak.setSlot k v) lo (k + 1) f := by
  refine ⟨h.1, h.2.1, by simpa [Cell.setSlot] using h.2.2.1, fun i => ?_⟩
  by_cases e : k = i
  · subst e; rw [Cell.slots_setSlot_self v hk, if_pos (by omega), hv]
  · rw [Cell.slots_setSlot_ne v e, h.2.2.2 i]
    by_cases q : lo ≤ i ∧ i < k
    · rw [if_pos q, if_pos (by omega)]
    · rw [if_neg q, if_neg (by omega)]
def U16 : String := "java/lang/StringUTF16"
namespace Cmp5
def yN : MethodName := ⟨"java/lang/StringUTF16", "compress", "([CI[BII)I"⟩
abbrev yB : ByteArray := jdk_52_method_21_code
theorem d0 : decode yB 0 = .ok (.iconst 0, 1) := by decide +kernel
theorem d1 : decode yB 1 = .ok (.istore 5, 2) := by decide +kernel
theorem d3 : decode yB 3 = .ok (.iload 5, 2) := by decide +kernel
theorem d5 : decode yB 5 = .ok (.iload 4, 2) := by decide +kernel
theorem d7 : decode yB 7 = .ok (.if_icmp (.ge) 37, 3) := by decide +kernel
theorem d10 : decode yB 10 = .ok (.aload_n 0, 1) := by decide +kernel
theorem d11 : decode yB 11 = .ok (.iload_n 1, 1) := by decide +kernel
theorem d12 : decode yB 12 = .ok (.caload, 1) := by decide +kernel
theorem d13 : decode yB 13 = .ok (.istore 6, 2) := by decide +kernel
theorem d15 : decode yB 15 = .ok (.iload 6, 2) := by decide +kernel
theorem d17 : decode yB 17 = .ok (.sipush 255, 3) := by decide +kernel
theorem d20 : decode yB 20 = .ok (.if_icmp (.le) 6, 3) := by decide +kernel
theorem d26 : decode yB 26 = .ok (.aload_n 2, 1) := by decide +kernel
theorem d27 : decode yB 27 = .ok (.iload_n 3, 1) := by decide +kernel
theorem d28 : decode yB 28 = .ok (.iload 6, 2) := by decide +kernel
theorem d30 : decode yB 30 = .ok (.i2b, 1) := by decide +kernel
theorem d31 : decode yB 31 = .ok (.bastore, 1) := by decide +kernel
theorem d32 : decode yB 32 = .ok (.iinc 1 1, 3) := by decide +kernel
theorem d35 : decode yB 35 = .ok (.iinc 3 1, 3) := by decide +kernel
theorem d38 : decode yB 38 = .ok (.iinc 5 1, 3) := by decide +kernel
theorem d41 : decode yB 41 = .ok (.goto (-38), 3) := by decide +kernel
theorem d44 : decode yB 44 = .ok (.iload 4, 2) := by decide +kernel
theorem d46 : decode yB 46 = .ok (.ireturn, 1) := by decide +kernel
def site : List Cond := []
def tab : Cond := tabOf yN yB 7 (some .int) site
def P (b : Addr) (A : Cell) (d : Addr) (B : Cell) (o q len : Nat) (args : Array Value) (s : State) : Prop := args = #[.ref b, .int (Int32.ofNat o), .ref d, .int (Int32.ofNat q), .int (Int32.ofNat len)] ∧ Ch b A s ∧ Arr .byte d B s ∧ b ≠ d ∧ o + len ≤ A.slots.size ∧ q + len ≤ B.slots.size ∧ ∀ i, i < len → ¬ 255 < cv A (o + i)
def E (b : Addr) (A : Cell) (d : Addr) (B : Cell) (o q len : Nat) (r : Option Value) (s u : State) : Prop := r = some (.int (Int32.ofNat len)) ∧ ∃ B', Put d B' s u ∧ Laid B B' q (q + len) (fun j => Value.int (lo8 (cv A (o + (j - q)))))
/-- no char of the range above 255: len; the places written hold each char's low byte -/
theorem law (l : Launch) (b : Addr) (A : Cell) (d : Addr) (B : Cell) (o q len : Nat) : Law l yN 5 5 0 0 yB 7 (some .int) site (P b A d B o q len) (E b A d B o q len) (copyLocs d q len) 0 0 := by
  refine Law.of_walk (plainFor_of_name (by decide +kernel)) (by decide +kernel) (by decide +kernel) (by decide) (fun _ _ h => by rw [h.1]; rfl) (fun _ U U' hal hh h => ⟨h.1, h.2.1.mv hal hh, h.2.2.1.mv hal hh, h.2.2.2⟩) (fun r U U' V V' h1 hal h2 h => ⟨h.1, h.2.elim fun B' q => ⟨B', q.1.mv h1 h2, q.2⟩⟩) ?_
  intro p e s m args below meth c s₁ X0 hexec hbytes hml hret hlk hnm hown hh0 W hP
  obtain ⟨rfl, hA, hB, hne, l1, l2, hp⟩ := hP
  have c1 : Steps p.tables e below (s₁.setTop (entryFrame m #[.ref b, .int (Int32.ofNat o), .ref d, .int (Int32.ofNat q), .int (Int32.ofNat len)] 7)) (s₁.setTop (mkF m 0 #[.val (.ref b), .val (.int (Int32.ofNat o)), .val (.ref d), .val (.int (Int32.ofNat q)), .val (.int (Int32.ofNat len)), .unset, .unset] [])) := entry rfl
  have hA0 := hA.1.mv X0.warmed.alike hh0
  have hB0 := hB.mv X0.warmed.alike hh0
  have a31 := hA.1.2.2.2
  have c2 : Steps p.tables e below (s₁.setTop (entryFrame m #[.ref b, .int (Int32.ofNat o), .ref d, .int (Int32.ofNat q), .int (Int32.ofNat len)] 7)) (s₁.setTop (mkF m 3 #[.val (.ref b), .val (.int (Int32.ofNat o)), .val (.ref d), .val (.int (Int32.ofNat q)), .val (.int (Int32.ofNat len)), .val (.int 0), .unset] [])) := c1.trans (by
    refine iconstV X0.here hexec rfl 0 (hb hbytes d0) (by decide) ?_
    refine XS.istore X0.here hexec rfl (hb hbytes d1) rfl rfl ?_
    exact Steps.refl _)
  have loop : ∀ (r i : Nat), i + r = len → ∀ (z : Slot), (z = .unset ∨ ∃ w, z = .val w ∧ w.category = 1) → ∀ (Tl : State) (Bk : Cell), Stand p l e { frames := 0, locals := 0, cells := 0, slots := 0 } s m #[.ref b, .int (Int32.ofNat o), .ref d, .int (Int32.ofNat q), .int (Int32.ofNat len)] below meth c Tl ([] ++ copyLocs d q i) 0 0 → Put d Bk s₁ Tl → Laid B Bk q (q + i) (fun j => Value.int (lo8 (cv A (o + (j - q))))) →
      Steps p.tables e below (s₁.setTop (entryFrame m #[.ref b, .int (Int32.ofNat o), .ref d, .int (Int32.ofNat q), .int (Int32.ofNat len)] 7)) (Tl.setTop (mkF m 3 #[.val (.ref b), .val (.int (Int32.ofNat (o + i))), .val (.ref d), .val (.int (Int32.ofNat (q + i))), .val (.int (Int32.ofNat len)), .val (.int (Int32.ofNat i)), z] [])) → ∃ (T' : State) (B' : Cell) (z' : Slot), Stand p l e { frames := 0, locals := 0, cells := 0, slots := 0 } s m #[.ref b, .int (Int32.ofNat o), .ref d, .int (Int32.ofNat q), .int (Int32.ofNat len)] below meth c T' ([] ++ copyLocs d q len) 0 0 ∧ Put d B' s₁ T' ∧ Laid B B' q (q + len) (fun j => Value.int (lo8 (cv A (o + (j - q))))) ∧
      Steps p.tables e below (s₁.setTop (entryFrame m #[.ref b, .int (Int32.ofNat o), .ref d, .int (Int32.ofNat q), .int (Int32.ofNat len)] 7)) (T'.setTop (mkF m 3 #[.val (.ref b), .val (.int (Int32.ofNat (o + len))), .val (.ref d), .val (.int (Int32.ofNat (q + len))), .val (.int (Int32.ofNat len)), .val (.int (Int32.ofNat len)), z'] [])) := by
    intro r
    induction r with
    | zero =>
      intro i hi z hz Tl Bk Xl pl fl cl
      have hil : i = len := by omega
      rw [hil] at Xl fl cl
      exact ⟨Tl, Bk, z, Xl, pl, fl, cl⟩
    | succ r ih =>
      intro i hi z hz Tl Bk Xl pl fl cl
      have all := X0.warmed.alike.symm.trans Xl.warmed.alike
      have hAl := hA0.keep all (pl.other hne hA0.1)
      have hBk := hB0.like all pl.1 fl.1 fl.2.1 fl.2.2.1
      have hlt : q + i < Bk.slots.size := by rw [fl.2.2.1]; omega
      have c3 : Steps p.tables e below (s₁.setTop (entryFrame m #[.ref b, .int (Int32.ofNat o), .ref d, .int (Int32.ofNat q), .int (Int32.ofNat len)] 7)) (Tl.setTop (mkF m 12 #[.val (.ref b), .val (.int (Int32.ofNat (o + i))), .val (.ref d), .val (.int (Int32.ofNat (q + i))), .val (.int (Int32.ofNat len)), .val (.int (Int32.ofNat i)), z] [.int (Int32.ofNat (o + i)), .ref b])) := cl.trans (by
        refine XS.iload Xl.here hexec rfl (hb hbytes d3) rfl ?_
        refine XS.iload Xl.here hexec rfl (hb hbytes d5) rfl ?_
        refine XS.icmpNo Xl.here hexec rfl (hb hbytes d7) rfl (ii_ge_f (lt32 (by omega) (by omega))) ?_
        refine XS.aloadN Xl.here hexec rfl (hb hbytes d10) rfl rfl ?_
        refine XS.iloadN Xl.here hexec rfl (hb hbytes d11) rfl ?_
        exact Steps.refl _)
      have c4 : Steps p.tables e below (s₁.setTop (entryFrame m #[.ref b, .int (Int32.ofNat o), .ref d, .int (Int32.ofNat q), .int (Int32.ofNat len)] 7)) (Tl.setTop (mkF m 13 #[.val (.ref b), .val (.int (Int32.ofNat (o + i))), .val (.ref d), .val (.int (Int32.ofNat (q + i))), .val (.int (Int32.ofNat len)), .val (.int (Int32.ofNat i)), z] [.int (cv A (o + i))])) := c3.trans (by
        refine Xl.aget hexec hAl rfl (hA.get (i := o + i) (by omega)) rfl rfl (hb hbytes d12) ?_
        exact Steps.refl _)
      have c5 : Steps p.tables e below (s₁.setTop (entryFrame m #[.ref b, .int (Int32.ofNat o), .ref d, .int (Int32.ofNat q), .int (Int32.ofNat len)] 7)) (Tl.setTop (mkF m 15 #[.val (.ref b), .val (.int (Int32.ofNat (o + i))), .val (.ref d), .val (.int (Int32.ofNat (q + i))), .val (.int (Int32.ofNat len)), .val (.int (Int32.ofNat i)), .val (.int (cv A (o + i)))] [])) := c4.trans (by
        refine XS.istoreS Xl.here hexec rfl (hb hbytes d13) rfl rfl hz ?_
        exact Steps.refl _)
      have c6 : Steps p.tables e below (s₁.setTop (entryFrame m #[.ref b, .int (Int32.ofNat o), .ref d, .int (Int32.ofNat q), .int (Int32.ofNat len)] 7)) (Tl.setTop (mkF m 31 #[.val (.ref b), .val (.int (Int32.ofNat (o + i))), .val (.ref d), .val (.int (Int32.ofNat (q + i))), .val (.int (Int32.ofNat len)), .val (.int (Int32.ofNat i)), .val (.int (cv A (o + i)))] [.int (lo8 (cv A (o + i))), .int (Int32.ofNat (q + i)), .ref d])) := c5.trans (by
        refine XS.iload Xl.here hexec rfl (hb hbytes d15) rfl ?_
        refine sipushV Xl.here hexec rfl 255 (hb hbytes d17) (by decide) ?_
        refine XS.icmpYes Xl.here hexec rfl (pc0 := 20) rfl (hb hbytes d20) rfl (ii_le_t (hp i (by omega))) (by decide) rfl ?_
        refine XS.aloadN Xl.here hexec rfl (hb hbytes d26) rfl rfl ?_
        refine XS.iloadN Xl.here hexec rfl (hb hbytes d27) rfl ?_
        refine XS.iload Xl.here hexec rfl (hb hbytes d28) rfl ?_
        refine i2b Xl.here hexec rfl (hb hbytes d30) rfl ?_
        exact Steps.refl _)
      obtain ⟨T7, X7, p7, st7⟩ := Xl.aput hexec hBk rfl hlt rfl (fits_lo8 (cv A (o + i))) (g := (mkF m 31 #[.val (.ref b), .val (.int (Int32.ofNat (o + i))), .val (.ref d), .val (.int (Int32.ofNat (q + i))), .val (.int (Int32.ofNat len)), .val (.int (Int32.ofNat i)), .val (.int (cv A (o + i)))] [.int (lo8 (cv A (o + i))), .int (Int32.ofNat (q + i)), .ref d])) rfl (rest := []) rfl (hb hbytes d31)
      have c8 : Steps p.tables e below (s₁.setTop (entryFrame m #[.ref b, .int (Int32.ofNat o), .ref d, .int (Int32.ofNat q), .int (Int32.ofNat len)] 7)) (T7.setTop (mkF m 32 #[.val (.ref b), .val (.int (Int32.ofNat (o + i))), .val (.ref d), .val (.int (Int32.ofNat (q + i))), .val (.int (Int32.ofNat len)), .val (.int (Int32.ofNat i)), .val (.int (cv A (o + i)))] [])) := c6.trans (st7 _ (Steps.refl _))
      have c9 : Steps p.tables e below (s₁.setTop (entryFrame m #[.ref b, .int (Int32.ofNat o), .ref d, .int (Int32.ofNat q), .int (Int32.ofNat len)] 7)) (T7.setTop (mkF m 3 #[.val (.ref b), .val (.int (Int32.ofNat (o + i) + 1)), .val (.ref d), .val (.int (Int32.ofNat (q + i) + 1)), .val (.int (Int32.ofNat len)), .val (.int (Int32.ofNat i + 1)), .val (.int (cv A (o + i)))] [])) := c8.trans (by
        refine iincV X7.here hexec rfl 1 (hb hbytes d32) (by decide) rfl rfl ?_
        refine iincV X7.here hexec rfl 1 (hb hbytes d35) (by decide) rfl rfl ?_
        refine iincV X7.here hexec rfl 1 (hb hbytes d38) (by decide) rfl rfl ?_
        refine XS.goto X7.here hexec rfl (pc0 := 41) rfl (hb hbytes d41) (by decide) rfl ?_
        exact Steps.refl _)
      have c10 : Steps p.tables e below (s₁.setTop (entryFrame m #[.ref b, .int (Int32.ofNat o), .ref d, .int (Int32.ofNat q), .int (Int32.ofNat len)] 7)) (T7.setTop (mkF m 3 #[.val (.ref b), .val (.int (Int32.ofNat (o + (i + 1)))), .val (.ref d), .val (.int (Int32.ofNat (q + (i + 1)))), .val (.int (Int32.ofNat len)), .val (.int (Int32.ofNat (i + 1))), .val (.int (cv A (o + i)))] [])) := by
        have := c9
        rw [succ32, succ32, succ32] at this
        exact this
      exact ih (i + 1) (by omega) _ (Or.inr ⟨_, rfl, rfl⟩) T7 _ (by rw [copyLocs_step, ← List.append_assoc]; exact X7) (pl.trans p7) (fl.step (by omega) hlt (by simp)) c10
  obtain ⟨T9, B9, z9, X9, p9, f9, g9⟩ := loop len 0 (by omega) .unset (Or.inl rfl) s₁ B (by simpa [copyLocs] using X0) ⟨hB0.1, fun _ _ => rfl, rfl⟩ (Laid.zero _ _ _) c2
  have c11 : Steps p.tables e below (s₁.setTop (entryFrame m #[.ref b, .int (Int32.ofNat o), .ref d, .int (Int32.ofNat q), .int (Int32.ofNat len)] 7)) (T9.setTop (mkF m 46 #[.val (.ref b), .val (.int (Int32.ofNat (o + len))), .val (.ref d), .val (.int (Int32.ofNat (q + len))), .val (.int (Int32.ofNat len)), .val (.int (Int32.ofNat len)), z9] [.int (Int32.ofNat len)])) := g9.trans (by
    refine XS.iload X9.here hexec rfl (hb hbytes d3) rfl ?_
    refine XS.iload X9.here hexec rfl (hb hbytes d5) rfl ?_
    refine XS.icmpYes X9.here hexec rfl (pc0 := 7) rfl (hb hbytes d7) rfl (ii_ge_t (nlt32 (by omega) (Nat.le_refl _))) (by decide) rfl ?_
    refine XS.iload X9.here hexec rfl (hb hbytes d44) rfl ?_
    exact Steps.refl _)
  exact ⟨T9, some (.int (Int32.ofNat len)), _, _, _, X9, by simp, rfl, rfl, (fun h => by cases h), ⟨rfl, B9, p9.from hh0, f9⟩, fun fs hl => c11.trans (X9.ireturnOut hexec hret rfl (Or.inl rfl) (hb hbytes d46) hl)⟩
end Cmp5
namespace Cmp3
def yN : MethodName := ⟨"java/lang/StringUTF16", "compress", "([CII)[B"⟩
abbrev yB : ByteArray := jdk_52_method_16_code
theorem d0 : decode yB 0 = .ok (.iload_n 2, 1) := by decide +kernel
theorem d1 : decode yB 1 = .ok (.newarray .byte, 2) := by decide +kernel
theorem d3 : decode yB 3 = .ok (.astore_n 3, 1) := by decide +kernel
theorem d4 : decode yB 4 = .ok (.aload_n 0, 1) := by decide +kernel
theorem d5 : decode yB 5 = .ok (.iload_n 1, 1) := by decide +kernel
theorem d6 : decode yB 6 = .ok (.aload_n 3, 1) := by decide +kernel
theorem d7 : decode yB 7 = .ok (.iconst 0, 1) := by decide +kernel
theorem d8 : decode yB 8 = .ok (.iload_n 2, 1) := by decide +kernel
theorem d9 : decode yB 9 = .ok (.invokestatic 115, 3) := by decide +kernel
theorem d12 : decode yB 12 = .ok (.istore 4, 2) := by decide +kernel
theorem d14 : decode yB 14 = .ok (.iload 4, 2) := by decide +kernel
theorem d16 : decode yB 16 = .ok (.iload_n 2, 1) := by decide +kernel
theorem d17 : decode yB 17 = .ok (.if_icmp (.eq) 40, 3) := by decide +kernel
theorem d57 : decode yB 57 = .ok (.aload_n 3, 1) := by decide +kernel
theorem d58 : decode yB 58 = .ok (.areturn, 1) := by decide +kernel
def site : List Cond := [.arrayClass .byte, Cmp5.tab] ++ staticW U16 115 Cmp5.yN
def tab : Cond := tabOf yN yB 6 (some (.array .byte)) site
def P (b : Addr) (A : Cell) (o len : Nat) (args : Array Value) (s : State) : Prop := args = #[.ref b, .int (Int32.ofNat o), .int (Int32.ofNat len)] ∧ Ch b A s ∧ o + len ≤ A.slots.size ∧ len ≤ 536870912 ∧ ∀ i, i < len → ¬ 255 < cv A (o + i)
def E (b : Addr) (A : Cell) (o len : Nat) (r : Option Value) (s u : State) : Prop := NewArr .byte "[B" len (fun j => .int (lo8 (cv A (o + j)))) r s u ∧ u.heap.size = s.heap.size + 1
/-- no char of the range above 255: a new byte[] of their low bytes -/
theorem law (l : Launch) (b : Addr) (A : Cell) (o len : Nat) : Law l yN 3 3 1 18 yB 6 (some (.array .byte)) site (P b A o len) (E b A o len) [] 1 len := by
  refine Law.of_walk (plainFor_of_name (by decide +kernel)) (by decide +kernel) (by decide +kernel) (by decide) (fun _ _ h => by rw [h.1]; rfl) (fun _ U U' hal hh h => ⟨h.1, h.2.1.mv hal hh, h.2.2⟩) (fun r U U' V V' h1 hal h2 h => ⟨NewArr.mv r U U' V V' h1 hal h2 h.1, by rw [h1, h2]; exact h.2⟩) ?_
  intro p e s m args below meth c s₁ X0 hexec hbytes hml hret hlk hnm hown hh0 W hP
  obtain ⟨rfl, hA, l1, l2, hp⟩ := hP
  have a31 := hA.1.2.2.2
  have c1 : Steps p.tables e below (s₁.setTop (entryFrame m #[.ref b, .int (Int32.ofNat o), .int (Int32.ofNat len)] 6)) (s₁.setTop (mkF m 0 #[.val (.ref b), .val (.int (Int32.ofNat o)), .val (.int (Int32.ofNat len)), .unset, .unset, .unset] [])) := entry rfl
  have c2 : Steps p.tables e below (s₁.setTop (entryFrame m #[.ref b, .int (Int32.ofNat o), .int (Int32.ofNat len)] 6)) (s₁.setTop (mkF m 1 #[.val (.ref b), .val (.int (Int32.ofNat o)), .val (.int (Int32.ofNat len)), .unset, .unset, .unset] [.int (Int32.ofNat len)])) := c1.trans (by
    refine XS.iloadN X0.here hexec rfl (hb hbytes d0) rfl ?_
    exact Steps.refl _)
  obtain ⟨T3, B3, X3, ba3, bs3, bv3, bh3, bf3, st3⟩ := X0.anew hexec (atype := .byte) (wk W (.arrayClass .byte)) rfl (by show len * 1 ≤ _; omega) (by omega) (g := (mkF m 1 #[.val (.ref b), .val (.int (Int32.ofNat o)), .val (.int (Int32.ofNat len)), .unset, .unset, .unset] [.int (Int32.ofNat len)])) rfl (hb hbytes d1) (rest := []) rfl (Nat.le_refl _) (by show 0 + len ≤ len; omega)
  rw [hh0] at ba3 st3
  have kp3 : XT.Kept s T3 := (XT.Kept.of_eq hh0).push bh3
  have hA3 := hA.keep X3.warmed.alike (kp3 _ _ hA.1.1)
  have hne : b ≠ s.heap.size := hA.1.ne
  have c4 : Steps p.tables e below (s₁.setTop (entryFrame m #[.ref b, .int (Int32.ofNat o), .int (Int32.ofNat len)] 6)) (T3.setTop (mkF m 3 #[.val (.ref b), .val (.int (Int32.ofNat o)), .val (.int (Int32.ofNat len)), .unset, .unset, .unset] [.ref s.heap.size])) := c2.trans (st3 _ (Steps.refl _))
  have c5 : Steps p.tables e below (s₁.setTop (entryFrame m #[.ref b, .int (Int32.ofNat o), .int (Int32.ofNat len)] 6)) (T3.setTop (mkF m 9 #[.val (.ref b), .val (.int (Int32.ofNat o)), .val (.int (Int32.ofNat len)), .val (.ref s.heap.size), .unset, .unset] [.int (Int32.ofNat len), .int 0, .ref s.heap.size, .int (Int32.ofNat o), .ref b])) := c4.trans (by
    refine XS.astoreN X3.here hexec rfl (hb hbytes d3) rfl rfl rfl ?_
    refine XS.aloadN X3.here hexec rfl (hb hbytes d4) rfl rfl ?_
    refine XS.iloadN X3.here hexec rfl (hb hbytes d5) rfl ?_
    refine XS.aloadN X3.here hexec rfl (hb hbytes d6) rfl rfl ?_
    refine iconstV X3.here hexec rfl 0 (hb hbytes d7) (by decide) ?_
    refine XS.iloadN X3.here hexec rfl (hb hbytes d8) rfl ?_
    exact Steps.refl _)
  obtain ⟨v6, T6, X6, E6, g6⟩ := X3.callS hexec (Cmp5.law l b A s.heap.size B3 o 0 len) hown (wks W (staticW U16 115 Cmp5.yN)) (wk W Cmp5.tab) (W := 0) (Nat.le_of_ble_eq_true rfl) (Nat.le_of_ble_eq_true rfl) (Nat.le_refl _) (by show 0 + len + 0 ≤ len; omega) (g := (mkF m 9 #[.val (.ref b), .val (.int (Int32.ofNat o)), .val (.int (Int32.ofNat len)), .val (.ref s.heap.size), .unset, .unset] [.int (Int32.ofNat len), .int (Int32.ofNat 0), .ref s.heap.size, .int (Int32.ofNat o), .ref b])) rfl (by rw [hml]; rfl) c5 (argsL := [.ref b, .int (Int32.ofNat o), .ref s.heap.size, .int (Int32.ofNat 0), .int (Int32.ofNat len)]) (rest := []) rfl rfl (by show 2 * 0 + 0 ≤ _; decide) (hb hbytes d9) (⟨rfl, hA3, ba3, hne, l1, by rw [bs3]; simp, hp⟩)
  obtain ⟨rfl, B6, p6, f6⟩ := E6
  have c7 : Steps p.tables e below (s₁.setTop (entryFrame m #[.ref b, .int (Int32.ofNat o), .int (Int32.ofNat len)] 6)) (T6.setTop (mkF m 12 #[.val (.ref b), .val (.int (Int32.ofNat o)), .val (.int (Int32.ofNat len)), .val (.ref s.heap.size), .unset, .unset] [.int (Int32.ofNat len)])) := g6
  have c8 : Steps p.tables e below (s₁.setTop (entryFrame m #[.ref b, .int (Int32.ofNat o), .int (Int32.ofNat len)] 6)) (T6.setTop (mkF m 58 #[.val (.ref b), .val (.int (Int32.ofNat o)), .val (.int (Int32.ofNat len)), .val (.ref s.heap.size), .val (.int (Int32.ofNat len)), .unset] [.ref s.heap.size])) := c7.trans (by
    refine XS.istore X6.here hexec rfl (hb hbytes d12) rfl rfl ?_
    refine XS.iload X6.here hexec rfl (hb hbytes d14) rfl ?_
    refine XS.iloadN X6.here hexec rfl (hb hbytes d16) rfl ?_
    refine XS.icmpYes X6.here hexec rfl (pc0 := 17) rfl (hb hbytes d17) rfl (ii_eq_t rfl) (by decide) rfl ?_
    refine XS.aloadN X6.here hexec rfl (hb hbytes d57) rfl rfl ?_
    exact Steps.refl _)
  have X8 := X6.wide (L' := []) (cells' := 1) (slots' := len) (fun x hx hlt => by
    simp only [List.nil_append, copyLocs, List.mem_map, List.mem_range] at hx
    obtain ⟨i, -, rfl⟩ := hx
    exact absurd hlt (Nat.lt_irrefl _)) (Nat.le_refl _) (by omega)
  exact ⟨T6, some (.ref s.heap.size), _, _, _, X8, rfl, rfl, rfl, (fun h => by cases h), ⟨⟨rfl, B6, ba3.like (X3.warmed.alike.symm.trans X6.warmed.alike) p6.1 f6.1 f6.2.1 f6.2.2.1, f6.2.1.trans bv3, by rw [X6.warmed.alike.findClass, f6.1]; exact bf3, by rw [f6.2.2.1, bs3]; simp, fun j hj => by rw [f6.2.2.2 j, if_pos (by omega)]; rfl, kp3.put p6 (Nat.le_refl _)⟩, by rw [p6.2.2, bh3, hh0]; simp⟩, fun fs hl => c8.trans (X8.areturnOut hexec rfl hret rfl (hb hbytes d58) hl)⟩
end Cmp3
namespace CodL
def yN : MethodName := ⟨"java/lang/StringUTF16", "coderFromArrayLen", "([BI)B"⟩
abbrev yB : ByteArray := jdk_52_method_15_code
theorem d0 : decode yB 0 = .ok (.iload_n 1, 1) := by decide +kernel
theorem d1 : decode yB 1 = .ok (.aload_n 0, 1) := by decide +kernel
theorem d2 : decode yB 2 = .ok (.arraylength, 1) := by decide +kernel
theorem d3 : decode yB 3 = .ok (.isub, 1) := by decide +kernel
theorem d4 : decode yB 4 = .ok (.bipush 31, 2) := by decide +kernel
theorem d6 : decode yB 6 = .ok (.iushr, 1) := by decide +kernel
theorem d7 : decode yB 7 = .ok (.i2b, 1) := by decide +kernel
theorem d8 : decode yB 8 = .ok (.ireturn, 1) := by decide +kernel
def site : List Cond := []
def tab : Cond := tabOf yN yB 2 (some .byte) site
def P (d : Addr) (B : Cell) (args : Array Value) (s : State) : Prop := args = #[.ref d, .int (Int32.ofNat B.slots.size)] ∧ Arr .byte d B s
def E (r : Option Value) (s u : State) : Prop := XT.PureE (some (.int 0)) r s u
/-- an array as long as the number of chars: LATIN1 -/
theorem law (l : Launch) (d : Addr) (B : Cell) : Law l yN 2 2 0 0 yB 2 (some .byte) site (P d B) E [] 0 0 := by
  refine Law.of_walk (plainFor_of_name (by decide +kernel)) (by decide +kernel) (by decide +kernel) (by decide) (fun _ _ h => by rw [h.1]; rfl) (fun _ U U' hal hh h => ⟨h.1, h.2.mv hal hh⟩) (fun r U U' V V' h1 hal h2 h => XT.PureE.mv r U U' V V' h1 hal h2 h) ?_
  intro p e s m args below meth c s₁ X0 hexec hbytes hml hret hlk hnm hown hh0 W hP
  obtain ⟨rfl, hB⟩ := hP
  have hB0 := hB.mv X0.warmed.alike hh0
  have c1 : Steps p.tables e below (s₁.setTop (entryFrame m #[.ref d, .int (Int32.ofNat B.slots.size)] 2)) (s₁.setTop (mkF m 0 #[.val (.ref d), .val (.int (Int32.ofNat B.slots.size))] [])) := entry rfl
  have c2 : Steps p.tables e below (s₁.setTop (entryFrame m #[.ref d, .int (Int32.ofNat B.slots.size)] 2)) (s₁.setTop (mkF m 2 #[.val (.ref d), .val (.int (Int32.ofNat B.slots.size))] [.ref d, .int (Int32.ofNat B.slots.size)])) := c1.trans (by
    refine XS.iloadN X0.here hexec rfl (hb hbytes d0) rfl ?_
    refine XS.aloadN X0.here hexec rfl (hb hbytes d1) rfl rfl ?_
    exact Steps.refl _)
  have c3 : Steps p.tables e below (s₁.setTop (entryFrame m #[.ref d, .int (Int32.ofNat B.slots.size)] 2)) (s₁.setTop (mkF m 8 #[.val (.ref d), .val (.int (Int32.ofNat B.slots.size))] [.int (lo8 (ushr (Int32.ofNat B.slots.size - Int32.ofNat B.slots.size) 31))])) := c2.trans (by
    refine X0.alen hexec hB0 rfl rfl (hb hbytes d2) ?_
    refine XS.isub X0.here hexec rfl (hb hbytes d3) rfl ?_
    refine bipushV X0.here hexec rfl 31 (hb hbytes d4) (by decide) ?_
    refine iushr X0.here hexec rfl (hb hbytes d6) rfl ?_
    refine i2b X0.here hexec rfl (hb hbytes d7) rfl ?_
    exact Steps.refl _)
  have e0 : lo8 (ushr (Int32.ofNat B.slots.size - Int32.ofNat B.slots.size) 31) = 0 := by rw [Int32.sub_self]; decide
  rw [e0] at c3
  exact ⟨s₁, some (.int 0), _, _, _, X0, rfl, rfl, rfl, (fun h => by cases h), ⟨rfl, hh0⟩, fun fs hl => c3.trans (X0.ireturnOut hexec hret rfl (Or.inr (Or.inr (Or.inl rfl))) (hb hbytes d8) hl)⟩
end CodL
/-- the String at a is Latin-1 over a new byte[] (the heap's one new cell): the low bytes of the len chars of A from o on; every cell but a is kept -/
def Got (a : Addr) (D : Cell) (fV fC : Field) (A : Cell) (o len : Nat) (r : Option Value) (s u : State) : Prop := r = none ∧ ∃ D' V : Cell, Blank "java/lang/String" a D' u ∧ Same D D' [fV.slot, fC.slot] ∧ D'.slots[fV.slot]? = some (.ref s.heap.size) ∧ D'.slots[fC.slot]? = some (.int 0) ∧ Arr .byte s.heap.size V u ∧ V.vm = .none ∧ u.vm.findClass "[B" = some V.cls ∧ V.slots.size = len ∧ (∀ j, j < len → V.slots[j]? = some (.int (lo8 (cv A (o + j))))) ∧ (∀ (y : Addr) (c : Cell), y ≠ a → s.heap[y]? = some c → u.heap[y]? = some c) ∧ u.heap.size = s.heap.size + 1
theorem Got.mv {a : Addr} {D A : Cell} {fV fC : Field} {o len : Nat} : ∀ r (U U' V V' : State), U'.heap = U.heap → V.vm.Alike V'.vm → V'.heap = V.heap → Got a D fV fC A o len r U V → Got a D fV fC A o len r U' V' :=
  fun r U U' V V' h1 hal h2 ⟨e0, D', X, a1, a2, a3, a4, a5, a6, a7, a8, a9, a10, a11⟩ => ⟨e0, D', X, a1.mv hal h2, a2, by rw [h1]; exact a3, a4, by rw [h1]; exact a5.mv hal h2, a6, by rw [hal.findClass]; exact a7, a8, a9, by rw [h1, h2]; exact a10, by rw [h1, h2]; exact a11⟩
namespace New4
def yN : MethodName := ⟨"java/lang/String", "<init>", "([CIILjava/lang/Void;)V"⟩
abbrev yB : ByteArray := jdk_42_method_149_code
theorem d0 : decode yB 0 = .ok (.aload_n 0, 1) := by decide +kernel
theorem d1 : decode yB 1 = .ok (.invokespecial 1, 3) := by decide +kernel
theorem d4 : decode yB 4 = .ok (.iload_n 3, 1) := by decide +kernel
theorem d5 : decode yB 5 = .ok (.ifCond (.ne) 22, 3) := by decide +kernel
theorem d27 : decode yB 27 = .ok (.getstatic 38, 3) := by decide +kernel
theorem d30 : decode yB 30 = .ok (.ifCond (.eq) 28, 3) := by decide +kernel
theorem d33 : decode yB 33 = .ok (.aload_n 1, 1) := by decide +kernel
theorem d34 : decode yB 34 = .ok (.iload_n 2, 1) := by decide +kernel
theorem d35 : decode yB 35 = .ok (.iload_n 3, 1) := by decide +kernel
theorem d36 : decode yB 36 = .ok (.invokestatic 177, 3) := by decide +kernel
theorem d39 : decode yB 39 = .ok (.astore 5, 2) := by decide +kernel
theorem d41 : decode yB 41 = .ok (.aload_n 0, 1) := by decide +kernel
theorem d42 : decode yB 42 = .ok (.aload 5, 2) := by decide +kernel
theorem d44 : decode yB 44 = .ok (.iload_n 3, 1) := by decide +kernel
theorem d45 : decode yB 45 = .ok (.invokestatic 47, 3) := by decide +kernel
theorem d48 : decode yB 48 = .ok (.putfield 15, 3) := by decide +kernel
theorem d51 : decode yB 51 = .ok (.aload_n 0, 1) := by decide +kernel
theorem d52 : decode yB 52 = .ok (.aload 5, 2) := by decide +kernel
theorem d54 : decode yB 54 = .ok (.putfield 9, 3) := by decide +kernel
theorem d57 : decode yB 57 = .ok (.return_, 1) := by decide +kernel
def site : List Cond := [.fieldLink "java/lang/String" 38 "java/lang/String" "COMPACT_STRINGS" "Z", Cmp3.tab, CodL.tab, .laysFinal "java/lang/String" "java/lang/String" "value" "[B", .fieldLink "java/lang/String" 9 "java/lang/String" "value" "[B", .laysFinal "java/lang/String" "java/lang/String" "coder" "B", .fieldLink "java/lang/String" 15 "java/lang/String" "coder" "B"] ++ objW "java/lang/String" 1 ++ staticW "java/lang/String" 177 Cmp3.yN ++ staticW "java/lang/String" 47 CodL.yN
def tab : Cond := tabOf yN yB 6 none site
def P (a : Addr) (D : Cell) (fV fC : Field) (b : Addr) (A : Cell) (z : Int32) (o len : Nat) (args : Array Value) (s : State) : Prop := args = #[.ref a, .ref b, .int (Int32.ofNat o), .int (Int32.ofNat len), .null] ∧ Blank "java/lang/String" a D s ∧ Found "java/lang/String" "value" "[B" fV s ∧ Found "java/lang/String" "coder" "B" fC s ∧ Ch b A s ∧ StaticIs s "java/lang/String" "COMPACT_STRINGS" "Z" (.int z) ∧ ¬ z = 0 ∧ 0 < len ∧ o + len ≤ A.slots.size ∧ len ≤ 536870912 ∧ ∀ i, i < len → ¬ 255 < cv A (o + i)
def E (a : Addr) (D : Cell) (fV fC : Field) (A : Cell) (o len : Nat) (r : Option Value) (s u : State) : Prop := Got a D fV fC A o len r s u
/-- len > 0, no char of the range above 255: a Latin-1 String of their low bytes -/
theorem law (l : Launch) (a : Addr) (D : Cell) (fV fC : Field) (b : Addr) (A : Cell) (z : Int32) (o len : Nat) : Law l yN 5 4 2 35 yB 6 none site (P a D fV fC b A z o len) (E a D fV fC A o len) [⟨a, fC.slot⟩, ⟨a, fV.slot⟩] 1 len := by
  refine Law.of_walk (plainFor_of_name (by decide +kernel)) (by decide +kernel) (by decide +kernel) (by decide) (fun _ _ h => by rw [h.1]; rfl) (fun _ U U' hal hh h => ⟨h.1, h.2.1.mv hal hh, h.2.2.1.al hal, h.2.2.2.1.al hal, h.2.2.2.2.1.mv hal hh, h.2.2.2.2.2.1.there hal hh, h.2.2.2.2.2.2⟩) (fun r U U' V V' h1 hal h2 h => Got.mv r U U' V V' h1 hal h2 h) ?_
  intro p e s m args below meth c s₁ X0 hexec hbytes hml hret hlk hnm hown hh0 W hP
  obtain ⟨rfl, hB, f1, f2, hA, s1, hz, l0, l1, l2, hp⟩ := hP
  have a31 := hA.1.2.2.2
  have c1 : Steps p.tables e below (s₁.setTop (entryFrame m #[.ref a, .ref b, .int (Int32.ofNat o), .int (Int32.ofNat len), .null] 6)) (s₁.setTop (mkF m 0 #[.val (.ref a), .val (.ref b), .val (.int (Int32.ofNat o)), .val (.int (Int32.ofNat len)), .val .null, .unset] [])) := entry rfl
  have c2 : Steps p.tables e below (s₁.setTop (entryFrame m #[.ref a, .ref b, .int (Int32.ofNat o), .int (Int32.ofNat len), .null] 6)) (s₁.setTop (mkF m 1 #[.val (.ref a), .val (.ref b), .val (.int (Int32.ofNat o)), .val (.int (Int32.ofNat len)), .val .null, .unset] [.ref a])) := c1.trans (by
    refine XS.aloadN X0.here hexec rfl (hb hbytes d0) rfl rfl ?_
    exact Steps.refl _)
  obtain ⟨T3, X3, q3, st3⟩ := X0.oinit hexec hown (wks W (objW "java/lang/String" 1)) (g := (mkF m 1 #[.val (.ref a), .val (.ref b), .val (.int (Int32.ofNat o)), .val (.int (Int32.ofNat len)), .val .null, .unset] [.ref a])) rfl (by rw [hml]; rfl) (rest := []) rfl (hb hbytes d1) (W := 0) (by show 2 * 0 + 0 ≤ _; decide) (Nat.le_of_ble_eq_true rfl) (Nat.le_of_ble_eq_true rfl)
  have hh3 := q3.trans hh0
  have c4 : Steps p.tables e below (s₁.setTop (entryFrame m #[.ref a, .ref b, .int (Int32.ofNat o), .int (Int32.ofNat len), .null] 6)) (T3.setTop (mkF m 27 #[.val (.ref a), .val (.ref b), .val (.int (Int32.ofNat o)), .val (.int (Int32.ofNat len)), .val .null, .unset] [])) := (c2.trans (st3 _ (Steps.refl _))).trans (by
    refine XS.iloadN X3.here hexec rfl (hb hbytes d4) rfl ?_
    refine XS.ifYes X3.here hexec rfl (pc0 := 5) rfl (hb hbytes d5) rfl (i0_ne_t (nz32 (by omega) l0)) (by decide) rfl ?_
    exact Steps.refl _)
  obtain ⟨T5, X5, q5, st5⟩ := X3.sget hexec hown (wk W (.fieldLink "java/lang/String" 38 "java/lang/String" "COMPACT_STRINGS" "Z")) s1 (fun _ _ h => by rw [hh3]; exact h) (g := (mkF m 27 #[.val (.ref a), .val (.ref b), .val (.int (Int32.ofNat o)), .val (.int (Int32.ofNat len)), .val .null, .unset] [])) rfl (hb hbytes d27)
  have hh5 := q5.trans hh3
  have c6 : Steps p.tables e below (s₁.setTop (entryFrame m #[.ref a, .ref b, .int (Int32.ofNat o), .int (Int32.ofNat len), .null] 6)) (T5.setTop (mkF m 30 #[.val (.ref a), .val (.ref b), .val (.int (Int32.ofNat o)), .val (.int (Int32.ofNat len)), .val .null, .unset] [.int z])) := c4.trans (st5 _ (Steps.refl _))
  have c7 : Steps p.tables e below (s₁.setTop (entryFrame m #[.ref a, .ref b, .int (Int32.ofNat o), .int (Int32.ofNat len), .null] 6)) (T5.setTop (mkF m 36 #[.val (.ref a), .val (.ref b), .val (.int (Int32.ofNat o)), .val (.int (Int32.ofNat len)), .val .null, .unset] [.int (Int32.ofNat len), .int (Int32.ofNat o), .ref b])) := c6.trans (by
    refine XS.ifNo X5.here hexec rfl (hb hbytes d30) rfl (i0_eq_f hz) ?_
    refine XS.aloadN X5.here hexec rfl (hb hbytes d33) rfl rfl ?_
    refine XS.iloadN X5.here hexec rfl (hb hbytes d34) rfl ?_
    refine XS.iloadN X5.here hexec rfl (hb hbytes d35) rfl ?_
    exact Steps.refl _)
  obtain ⟨v8, T8, X8, E8, g8⟩ := X5.callS hexec (Cmp3.law l b A o len) hown (wks W (staticW "java/lang/String" 177 Cmp3.yN)) (wk W Cmp3.tab) (W := 0) (Nat.le_of_ble_eq_true rfl) (Nat.le_of_ble_eq_true rfl) (Nat.le_refl _) (by show 0 + len ≤ len; omega) (g := (mkF m 36 #[.val (.ref a), .val (.ref b), .val (.int (Int32.ofNat o)), .val (.int (Int32.ofNat len)), .val .null, .unset] [.int (Int32.ofNat len), .int (Int32.ofNat o), .ref b])) rfl (by rw [hml]; rfl) c7 (argsL := [.ref b, .int (Int32.ofNat o), .int (Int32.ofNat len)]) (rest := []) rfl rfl (by show 2 * 0 + 0 ≤ _; decide) (hb hbytes d36) (⟨rfl, hA.mv X5.warmed.alike hh5, l1, l2, hp⟩)
  obtain ⟨e8, z8⟩ := E8
  obtain ⟨rfl, N, n1, n2, n3, n4, n5, n6⟩ := NewArr.mv _ T5 s _ _ hh5.symm (Vm.Alike.refl _) rfl e8
  rw [hh5] at z8
  have hB1 := hB.keep X8.warmed.alike (n6 _ _ hB.1)
  have hne : s.heap.size ≠ a := (Nat.ne_of_lt (Array.getElem?_eq_some_iff.mp hB.1).1).symm
  have c9 : Steps p.tables e below (s₁.setTop (entryFrame m #[.ref a, .ref b, .int (Int32.ofNat o), .int (Int32.ofNat len), .null] 6)) (T8.setTop (mkF m 39 #[.val (.ref a), .val (.ref b), .val (.int (Int32.ofNat o)), .val (.int (Int32.ofNat len)), .val .null, .unset] [.ref s.heap.size])) := g8
  have c10 : Steps p.tables e below (s₁.setTop (entryFrame m #[.ref a, .ref b, .int (Int32.ofNat o), .int (Int32.ofNat len), .null] 6)) (T8.setTop (mkF m 45 #[.val (.ref a), .val (.ref b), .val (.int (Int32.ofNat o)), .val (.int (Int32.ofNat len)), .val .null, .val (.ref s.heap.size)] [.int (Int32.ofNat N.slots.size), .ref s.heap.size, .ref a])) := by
    have hc : Steps p.tables e below (s₁.setTop (entryFrame m #[.ref a, .ref b, .int (Int32.ofNat o), .int (Int32.ofNat len), .null] 6)) (T8.setTop (mkF m 45 #[.val (.ref a), .val (.ref b), .val (.int (Int32.ofNat o)), .val (.int (Int32.ofNat len)), .val .null, .val (.ref s.heap.size)] [.int (Int32.ofNat len), .ref s.heap.size, .ref a])) := c9.trans (by
      refine XS.astore X8.here hexec rfl (hb hbytes d39) rfl rfl rfl ?_
      refine XS.aloadN X8.here hexec rfl (hb hbytes d41) rfl rfl ?_
      refine XS.aload X8.here hexec rfl (hb hbytes d42) rfl rfl ?_
      refine XS.iloadN X8.here hexec rfl (hb hbytes d44) rfl ?_
      exact Steps.refl _)
    rw [n4]; exact hc
  obtain ⟨v11, T11, X11, E11, g11⟩ := X8.callS hexec (CodL.law l s.heap.size N) hown (wks W (staticW "java/lang/String" 47 CodL.yN)) (wk W CodL.tab) (W := 1) (Nat.le_of_ble_eq_true rfl) (Nat.le_of_ble_eq_true rfl) (Nat.le_refl _) (by show 0 + len + 0 ≤ len; omega) (g := (mkF m 45 #[.val (.ref a), .val (.ref b), .val (.int (Int32.ofNat o)), .val (.int (Int32.ofNat len)), .val .null, .val (.ref s.heap.size)] [.int (Int32.ofNat N.slots.size), .ref s.heap.size, .ref a])) rfl (by rw [hml]; rfl) c10 (argsL := [.ref s.heap.size, .int (Int32.ofNat N.slots.size)]) (rest := [.ref a]) rfl rfl (by show 2 * 0 + (1 + 0) ≤ _; decide) (hb hbytes d45) (⟨rfl, n1⟩)
  obtain ⟨rfl, q11⟩ := E11
  have hB11 := hB1.mv (X8.warmed.alike.symm.trans X11.warmed.alike) q11
  have c12 : Steps p.tables e below (s₁.setTop (entryFrame m #[.ref a, .ref b, .int (Int32.ofNat o), .int (Int32.ofNat len), .null] 6)) (T11.setTop (mkF m 48 #[.val (.ref a), .val (.ref b), .val (.int (Int32.ofNat o)), .val (.int (Int32.ofNat len)), .val .null, .val (.ref s.heap.size)] [.int 0, .ref a])) := g11
  obtain ⟨T13, X13, p13, bl13, sl13, st13⟩ := X11.finit hexec hown (wk W (.fieldLink "java/lang/String" 15 "java/lang/String" "coder" "B")) (Or.inr ⟨_, (wk W (.laysFinal "java/lang/String" "java/lang/String" "coder" "B"))⟩) (Or.inl ⟨rfl, hnm⟩) f2 (Or.inl rfl) hB11 (t := .byte) (by decide +kernel) rfl (g := (mkF m 48 #[.val (.ref a), .val (.ref b), .val (.int (Int32.ofNat o)), .val (.int (Int32.ofNat len)), .val .null, .val (.ref s.heap.size)] [.int 0, .ref a])) rfl (rest := []) rfl (hb hbytes d48)
  have c14 : Steps p.tables e below (s₁.setTop (entryFrame m #[.ref a, .ref b, .int (Int32.ofNat o), .int (Int32.ofNat len), .null] 6)) (T13.setTop (mkF m 54 #[.val (.ref a), .val (.ref b), .val (.int (Int32.ofNat o)), .val (.int (Int32.ofNat len)), .val .null, .val (.ref s.heap.size)] [.ref s.heap.size, .ref a])) := (c12.trans (st13 _ (Steps.refl _))).trans (by
    refine XS.aloadN X13.here hexec rfl (hb hbytes d51) rfl rfl ?_
    refine XS.aload X13.here hexec rfl (hb hbytes d52) rfl rfl ?_
    exact Steps.refl _)
  obtain ⟨T15, X15, p15, bl15, sl15, st15⟩ := X13.finit hexec hown (wk W (.fieldLink "java/lang/String" 9 "java/lang/String" "value" "[B")) (Or.inr ⟨_, (wk W (.laysFinal "java/lang/String" "java/lang/String" "value" "[B"))⟩) (Or.inl ⟨rfl, hnm⟩) f1 (Or.inl rfl) bl13 (t := (.array .byte)) (by decide +kernel) rfl (g := (mkF m 54 #[.val (.ref a), .val (.ref b), .val (.int (Int32.ofNat o)), .val (.int (Int32.ofNat len)), .val .null, .val (.ref s.heap.size)] [.ref s.heap.size, .ref a])) rfl (rest := []) rfl (hb hbytes d54)
  have c16 : Steps p.tables e below (s₁.setTop (entryFrame m #[.ref a, .ref b, .int (Int32.ofNat o), .int (Int32.ofNat len), .null] 6)) (T15.setTop (mkF m 57 #[.val (.ref a), .val (.ref b), .val (.int (Int32.ofNat o)), .val (.int (Int32.ofNat len)), .val .null, .val (.ref s.heap.size)] [])) := c14.trans (st15 _ (Steps.refl _))
  have ap := apart (Or.inr ⟨_, (wk W (.laysFinal "java/lang/String" "java/lang/String" "value" "[B"))⟩) (Or.inr ⟨_, (wk W (.laysFinal "java/lang/String" "java/lang/String" "coder" "B"))⟩) f1 f2 (t₁ := .array .byte) (t₂ := .byte) (by decide +kernel) (by decide +kernel) (by decide)
  have al := X8.warmed.alike.symm.trans X15.warmed.alike
  have n7 : T11.heap[s.heap.size]? = some N := by rw [q11]; exact n1.1
  exact ⟨T15, none, _, _, _, X15, by simp, rfl, by omega, (fun _ => rfl), ⟨rfl, _, N, bl15, ((Same.refl D _).set _ (by simp)).set _ (by simp), sl15, (Cell.slots_setSlot_ne _ ap).trans sl13, n1.keep al (p15.other hne (p13.other hne n7)), n2, by rw [al.findClass]; exact n3, n4, n5, fun y c h1 h2 => p15.other h1 (p13.other h1 (by rw [q11]; exact n6 y c h2)), by rw [p15.2.2, p13.2.2, q11]; exact z8⟩, fun fs hl => c16.trans (X15.returnOut hexec hret (hb hbytes d57) hl)⟩
end New4
namespace New1
def yN : MethodName := ⟨"java/lang/String", "<init>", "([C)V"⟩
abbrev yB : ByteArray := jdk_42_method_3_code
theorem d0 : decode yB 0 = .ok (.aload_n 0, 1) := by decide +kernel
theorem d1 : decode yB 1 = .ok (.aload_n 1, 1) := by decide +kernel
theorem d2 : decode yB 2 = .ok (.iconst 0, 1) := by decide +kernel
theorem d3 : decode yB 3 = .ok (.aload_n 1, 1) := by decide +kernel
theorem d4 : decode yB 4 = .ok (.arraylength, 1) := by decide +kernel
theorem d5 : decode yB 5 = .ok (.aconst_null, 1) := by decide +kernel
theorem d6 : decode yB 6 = .ok (.invokespecial 27, 3) := by decide +kernel
theorem d9 : decode yB 9 = .ok (.return_, 1) := by decide +kernel
def site : List Cond := [New4.tab] ++ initW "java/lang/String" 27 New4.yN
def tab : Cond := tabOf yN yB 2 none site
def P (a : Addr) (D : Cell) (fV fC : Field) (b : Addr) (A : Cell) (z : Int32) (args : Array Value) (s : State) : Prop := args = #[.ref a, .ref b] ∧ Blank "java/lang/String" a D s ∧ Found "java/lang/String" "value" "[B" fV s ∧ Found "java/lang/String" "coder" "B" fC s ∧ Ch b A s ∧ StaticIs s "java/lang/String" "COMPACT_STRINGS" "Z" (.int z) ∧ ¬ z = 0 ∧ 0 < A.slots.size ∧ A.slots.size ≤ 536870912 ∧ ∀ i, i < A.slots.size → ¬ 255 < cv A i
def E (a : Addr) (D : Cell) (fV fC : Field) (A : Cell) (r : Option Value) (s u : State) : Prop := Got a D fV fC A 0 A.slots.size r s u
/-- new String(chars), not empty, no char above 255: a Latin-1 String of their low bytes -/
theorem law (l : Launch) (a : Addr) (D : Cell) (fV fC : Field) (b : Addr) (A : Cell) (z : Int32) : Law l yN 2 1 3 52 yB 2 none site (P a D fV fC b A z) (E a D fV fC A) [⟨a, fC.slot⟩, ⟨a, fV.slot⟩] 1 A.slots.size := by
  refine Law.of_walk (plainFor_of_name (by decide +kernel)) (by decide +kernel) (by decide +kernel) (by decide) (fun _ _ h => by rw [h.1]; rfl) (fun _ U U' hal hh h => ⟨h.1, h.2.1.mv hal hh, h.2.2.1.al hal, h.2.2.2.1.al hal, h.2.2.2.2.1.mv hal hh, h.2.2.2.2.2.1.there hal hh, h.2.2.2.2.2.2⟩) (fun r U U' V V' h1 hal h2 h => Got.mv r U U' V V' h1 hal h2 h) ?_
  intro p e s m args below meth c s₁ X0 hexec hbytes hml hret hlk hnm hown hh0 W hP
  obtain ⟨rfl, hB, f1, f2, hA, s1, hz, l0, l2, hp⟩ := hP
  have c1 : Steps p.tables e below (s₁.setTop (entryFrame m #[.ref a, .ref b] 2)) (s₁.setTop (mkF m 0 #[.val (.ref a), .val (.ref b)] [])) := entry rfl
  have c2 : Steps p.tables e below (s₁.setTop (entryFrame m #[.ref a, .ref b] 2)) (s₁.setTop (mkF m 6 #[.val (.ref a), .val (.ref b)] [.null, .int (Int32.ofNat A.slots.size), .int 0, .ref b, .ref a])) := c1.trans (by
    refine XS.aloadN X0.here hexec rfl (hb hbytes d0) rfl rfl ?_
    refine XS.aloadN X0.here hexec rfl (hb hbytes d1) rfl rfl ?_
    refine iconstV X0.here hexec rfl 0 (hb hbytes d2) (by decide) ?_
    refine XS.aloadN X0.here hexec rfl (hb hbytes d3) rfl rfl ?_
    refine X0.alen hexec (hA.1.mv X0.warmed.alike hh0) rfl rfl (hb hbytes d4) ?_
    refine XS.aconstNull X0.here hexec rfl (hb hbytes d5) ?_
    exact Steps.refl _)
  obtain ⟨v3, T3, X3, E3, g3⟩ := X0.callN hexec (New4.law l a D fV fC b A z 0 A.slots.size) rfl hown (wks W (initW "java/lang/String" 27 New4.yN)) (W New4.tab (by simp only [site, List.mem_cons, List.mem_append, true_or, or_true])) (W := 0) (Nat.le_of_ble_eq_true rfl) (Nat.le_of_ble_eq_true rfl) (Nat.le_refl _) (by show 0 + A.slots.size ≤ A.slots.size; omega) (g := (mkF m 6 #[.val (.ref a), .val (.ref b)] [.null, .int (Int32.ofNat A.slots.size), .int (Int32.ofNat 0), .ref b, .ref a])) rfl (by rw [hml]; rfl) c2 (argsL := [.ref b, .int (Int32.ofNat 0), .int (Int32.ofNat A.slots.size), .null]) (rest := []) rfl rfl (by show 2 * 0 + 0 ≤ _; decide) (hb hbytes d6) (⟨rfl, hB.mv X0.warmed.alike hh0, f1.al X0.warmed.alike, f2.al X0.warmed.alike, hA.mv X0.warmed.alike hh0, s1.there X0.warmed.alike hh0, hz, l0, by omega, l2, fun i hi => by rw [Nat.zero_add]; exact hp i hi⟩)
  have e0 := Got.mv _ s₁ s _ _ hh0.symm (Vm.Alike.refl _) rfl E3
  obtain rfl := e0.1
  have c4 : Steps p.tables e below (s₁.setTop (entryFrame m #[.ref a, .ref b] 2)) (T3.setTop (mkF m 9 #[.val (.ref a), .val (.ref b)] [])) := g3
  exact ⟨T3, none, _, _, _, X3, by simp, rfl, by omega, (fun _ => rfl), e0, fun fs hl => c4.trans (X3.returnOut hexec hret (hb hbytes d9) hl)⟩
theorem pays {l : Launch} {R : Room} {p : Program} {e : Env} {below : List Frame} {s : State} {sargs : Array Value} {len W : Nat} (a : Addr) (D : Cell) (fV fC : Field) (b : Addr) (A : Cell) (z : Int32) (htab : tab.before sargs s = true) (hfr : 4 ≤ R.frames) (hlo : W + 65 ≤ R.locals) :
    Back l R p e below s sargs yN len W (fun A₁ a₁ => A₁.cells + 1 ≤ R.cells ∧ A₁.slots + A.slots.size ≤ R.slots ∧ P a D fV fC b A z a₁ A₁.U) (fun A₁ _ v₁ B₁ => E a D fV fC A v₁ A₁.U B₁.U ∧ B₁.locs = A₁.locs ++ [⟨a, fC.slot⟩, ⟨a, fV.slot⟩] ∧ B₁.cells = A₁.cells + 1 ∧ B₁.slots = A₁.slots + A.slots.size) :=
  (law l a D fV fC b A z).pays htab hfr (by omega)
end New1
/-- the byte, read back as charAt reads it, is the char -/
theorem lo8_mask {x : Int32} (h0 : ¬ x < 0) (h1 : ¬ 255 < x) : lo8 x &&& 255 = x := by
  have t : ∀ k : Fin 256, lo8 (Int32.ofNat k.val) &&& 255 = Int32.ofNat k.val := by decide +kernel
  rw [Int32.lt_iff_toInt_lt] at h0 h1
  have e0 : (0 : Int32).toInt = 0 := rfl
  have e1 : (255 : Int32).toInt = 255 := rfl
  obtain ⟨k, hk⟩ : ∃ k : Nat, x.toInt = k := ⟨x.toInt.toNat, by omega⟩
  have hx : x = Int32.ofNat k := Int32.toInt_inj.mp (by rw [hk, Int32.toInt_ofNat_small (by omega)])
  rw [hx]
  exact t ⟨k, by omega⟩
end StrChars
namespace StrChars.Road
open Jvm Sem ClassFile Op Lib Jvm.Stand Jvm.Free Jvm.Free.XT
open Jvm.Lib.Cold (StaticIs)
abbrev ST : String := "java/lang/String"
/-- every table word that New1's law asks, flat -/
abbrev words : List Jvm.Cond := [.code New1.yN New1.yB 2 none, .initialized ST, .methodLink ST 27 New4.yN, .instanceMethod New4.yN,
  .code New4.yN New4.yB 6 none, .fieldLink ST 38 ST "COMPACT_STRINGS" "Z", .laysFinal ST ST "value" "[B", .fieldLink ST 9 ST "value" "[B", .laysFinal ST ST "coder" "B", .fieldLink ST 15 ST "coder" "B",
  .methodLink ST 1 Lib.objectInit, .instanceMethod Lib.objectInit, .code Lib.objectInit ⟨#[0xb1]⟩ 1 none, .methodLink ST 177 Cmp3.yN, .static Cmp3.yN, .methodLink ST 47 CodL.yN, .static CodL.yN,
  .code Cmp3.yN Cmp3.yB 6 (some (.array .byte)), .initialized U16, .arrayClass .byte, .methodLink U16 115 Cmp5.yN, .static Cmp5.yN, .code Cmp5.yN Cmp5.yB 7 (some .int), .code CodL.yN CodL.yB 2 (some .byte)]
theorem tab_of {a : Array Value} {s : State} (h : ∀ w ∈ words, w.before a s = true) : New1.tab.before a s = true := by
  have h5 : Cmp5.tab.before a s = true := unparts (wk h (.code Cmp5.yN Cmp5.yB 7 (some .int))) (wks h (.initialized Cmp5.yN.cls :: Cmp5.site))
  have hc : CodL.tab.before a s = true := unparts (wk h (.code CodL.yN CodL.yB 2 (some .byte))) (wks h (.initialized CodL.yN.cls :: CodL.site))
  have q5 : ∀ w ∈ Cmp5.tab :: words, w.before a s = true := fun w hw => (List.mem_cons.mp hw).elim (fun e => e ▸ h5) (h w)
  have h3 : Cmp3.tab.before a s = true := unparts (wk q5 (.code Cmp3.yN Cmp3.yB 6 (some (.array .byte)))) (wks q5 (.initialized Cmp3.yN.cls :: Cmp3.site))
  have q3 : ∀ w ∈ Cmp3.tab :: CodL.tab :: words, w.before a s = true := fun w hw => (List.mem_cons.mp hw).elim (fun e => e ▸ h3) fun hw => (List.mem_cons.mp hw).elim (fun e => e ▸ hc) (h w)
  have h4 : New4.tab.before a s = true := unparts (wk q3 (.code New4.yN New4.yB 6 none)) (wks q3 (.initialized New4.yN.cls :: New4.site))
  have q4 : ∀ w ∈ New4.tab :: words, w.before a s = true := fun w hw => (List.mem_cons.mp hw).elim (fun e => e ▸ h4) (h w)
  exact unparts (wk q4 (.code New1.yN New1.yB 2 none)) (wks q4 (.initialized New1.yN.cls :: New1.site))
/-- the words ride from the start Z to the walk's own state -/
theorem moved {Z s : State} {a0 args : Array Value} (hZ : Z.Warmed39 s.vm) (hw : ∀ d ∈ words, d.before a0 Z = true) : ∀ d ∈ words, d.before args s = true := fun d hd => by
  have q := hw d hd
  have t : ∀ d ∈ words, d = .arrayClass .byte ∨ (d.onTables && d.keepsFace) = true := by decide +kernel
  rcases t d hd with rfl | t
  · exact RoadKit.mvA hZ q
  · exact RoadKit.mv hZ q t
/-- WHAT COMES BACK, over the tables of the start Z: h the heap at the call, h' behind it -/
def Q (Z : State) (x : Addr) (A : Cell) (h : Heap) (v : Option Value) (h' : Heap) (L : List Loc) : Prop := v = none ∧ (∀ y ∈ L, y.base = x) ∧ RoadKit.Keep h h' [x] ∧ h'.size = h.size + 1 ∧ RoadKit.Exa Z h' x ST ∧ RoadKit.Fld Z h' x ST "value" "[B" (.ref h.size) ∧ RoadKit.Fld Z h' x ST "coder" "B" (.int 0) ∧
  (∃ V : Cell, RoadKit.Arr Z h' h.size V .byte ∧ V.vm = .none ∧ Z.vm.findClass "[B" = some V.cls ∧ V.slots.size = A.slots.size ∧ ∀ j, j < A.slots.size → V.slots[j]? = some (.int (lo8 (cv A j)))) ∧
  ∀ (O n d : String) (w : Value), RoadKit.Fld Z h x O n d w → RoadKit.slotOf Z O n d ≠ RoadKit.slotOf Z ST "value" "[B" → RoadKit.slotOf Z O n d ≠ RoadKit.slotOf Z ST "coder" "B" → RoadKit.Fld Z h' x O n d w
/-- **new String(chars) AT A CALL, IN THE ROAD'S FORM**: for specialBack behind newO: x the fresh String, b the char[] with the cell A -/
theorem back {p : Program} {l : Launch} {e : Env} {R : Room} {s : State} {args : Array Value} {below : List Frame} {len W : Nat} {Z : State} {a0 : Array Value} {h : Heap} (hZ : Z.Warmed39 s.vm) (hw : ∀ d ∈ words, d.before a0 Z = true) {kI : Nat} (wi : (Jvm.Cond.instantiable ST kI).before a0 Z = true)
    {x b : Addr} {A : Cell} {z : Int32} {v0 c0 : Value} (E : RoadKit.Exa Z h x ST) (V : RoadKit.Fld Z h x ST "value" "[B" v0) (C : RoadKit.Fld Z h x ST "coder" "B" c0) (K : RoadKit.Arr Z h b A .char) (hty : Typed .char A) (S : RoadKit.Sta Z h ST "COMPACT_STRINGS" "Z" (.int z)) (hz : ¬ z = 0)
    (l0 : 0 < A.slots.size) (l2 : A.slots.size ≤ 536870912) (hp : ∀ i, i < A.slots.size → ¬ 255 < cv A i) (hfr : 4 ≤ R.frames) (hlo : W + 65 ≤ R.locals) :
    Back l R p e below s args New1.yN len W (fun P a => a = #[.ref x, .ref b] ∧ P.U.heap = h ∧ P.cells + 1 ≤ R.cells ∧ P.slots + A.slots.size ≤ R.slots)
      (fun P _ v B => ∃ L, Q Z x A h v B.U.heap L ∧ B.locs = P.locs ++ L ∧ B.cells = P.cells + 1 ∧ B.slots = P.slots + A.slots.size) := by
  intro m meth c P g ig mk a X hg hsize hdg hW hn hp'
  obtain ⟨rfl, rfl, r1, r2⟩ := hp'
  have al : Z.vm.Alike P.U.vm := hZ.alike.trans X.warmed.alike
  obtain ⟨D, cfV, kV, iV, fV, hD, gV, stV, knV, obV, asV, slV⟩ := id V
  obtain ⟨D', cfC, kC, iC, fC, hD', gC, stC, -, -, asC, slC⟩ := id C
  cases hD.symm.trans hD'
  obtain ⟨D2, kD, e1, e2, e3, e4, e5⟩ := id E
  cases hD.symm.trans e1
  obtain ⟨c2, k2, i1, i2, i3, -⟩ := Cond.instantiable_spec wi
  cases e2.symm.trans i1
  cases e3.symm.trans i2
  obtain ⟨kU, u1, u2⟩ := al.2.2 _ _ e3
  have hB : Blank ST x D P.U := ⟨hD, ⟨knV, fun q hq => by rw [hq] at obV; cases obV⟩, by rw [al.findClass]; exact e2, kU, u1, by rw [u2]; exact i3, by rw [u2]; exact e5 i3⟩
  have F1 : Found ST "value" "[B" fV P.U := ⟨SBG.found_only al ⟨cfV, kV, iV, gV⟩, stV⟩
  have F2 : Found ST "coder" "B" fC P.U := ⟨SBG.found_only al ⟨cfC, kC, iC, gC⟩, stC⟩
  have hA : Ch b A P.U := ⟨⟨K.1, State.isArrayOf_alike al K.2.1, K.2.2, by omega⟩, hty⟩
  have hS : StaticIs P.U ST "COMPACT_STRINGS" "Z" (.int z) := by
    obtain ⟨cfS, iS, kS, fS, st, cS, t1, t2, t3, t4, t5, t6, t7⟩ := S
    exact StaticIs.there (s := { Z with heap := P.U.heap }) ⟨cfS, iS, kS, fS, st, cS, t1, t2, t3, t4, t5, (fun q => by rw [q] at t6; cases t6), t7⟩ al rfl
  obtain ⟨v, B, X', ⟨⟨hv, E', V', q1, q2, q3, q4, q5, q6, q7, q8, q9, q10, q11⟩, hl, hc, hs⟩, st⟩ := New1.pays x D fV fC b A z (tab_of (moved hZ hw)) hfr hlo m meth c P g ig mk _ X hg hsize hdg hW hn ⟨r1, r2, rfl, hB, F1, F2, hA, hS, hz, l0, l2, hp⟩
  have al' : Z.vm.Alike B.U.vm := hZ.alike.trans X'.warmed.alike
  have hsz : E'.slots.size = D.slots.size := by
    obtain ⟨-, -, -, kB, w1, w2, w3⟩ := q1
    obtain ⟨kB', y1, y2⟩ := al'.2.2 _ _ e3
    rw [q2.2.1] at w1
    cases w1.symm.trans y1
    rw [w3, e5 i3, y2]
  refine ⟨v, B, X', ⟨_, ⟨hv, ?_, ⟨by omega, fun y cy hy hn' => q10 y cy (by simpa using hn') hy, fun y cy hy => ?_⟩, q11, ⟨E', _, q1.1, by rw [q2.2.1]; exact e2, by rw [q2.2.1]; exact e3, by rw [q2.1]; exact obV, fun _ => by rw [hsz]; exact e5 i3⟩,
    ⟨E', cfV, kV, iV, fV, q1.1, gV, stV, by rw [q2.1]; exact knV, by rw [q2.1]; exact obV, by rw [q2.2.1]; exact asV, q3⟩, ⟨E', cfC, kC, iC, fC, q1.1, gC, stC, by rw [q2.1]; exact knV, by rw [q2.1]; exact obV, by rw [q2.2.1]; exact asC, q4⟩,
    ⟨V', ⟨q5.1, State.isArrayOf_alike al'.symm q5.2.1, q5.2.2.1⟩, q6, by rw [← al'.findClass]; exact q7, q8, fun j hj => by have := q9 j hj; rwa [Nat.zero_add] at this⟩, fun O n d w F n1 n2 => ?_⟩, hl, hc, hs⟩, st⟩
  · intro y hy
    simp only [List.mem_cons, List.not_mem_nil, or_false] at hy
    rcases hy with rfl | rfl <;> rfl
  · by_cases q : y = x
    · subst q
      cases hD.symm.trans hy
      exact ⟨E', q1.1, q2.2.1, q2.1, hsz⟩
    · exact ⟨cy, q10 y cy q hy, rfl, rfl, rfl⟩
  · obtain ⟨D3, cf, k, i, f, g1, g2, g3, g4, g5, g6, g7⟩ := F
    cases hD.symm.trans g1
    simp only [RoadKit.slotOf, g2, gV, gC, Option.map_some, Option.getD_some] at n1 n2
    exact ⟨E', cf, k, i, f, q1.1, g2, g3, by rw [q2.1]; exact g4, by rw [q2.1]; exact g5, by rw [q2.2.1]; exact g6, by rw [q2.2.2 f.slot (by simp [n1, n2])]; exact g7⟩
end StrChars.Road
namespace StrChars.Road
open Jvm Sem ClassFile Op Lib Jvm.Stand Jvm.Free Jvm.Free.XT
/-- WHAT COMES BACK, the byte[] as a list of values -/
def QA (Z : State) (x : Addr) (zn : Int32) (cs : List Int32) (h : Heap) (v : Option Value) (h' : Heap) (L : List Loc) : Prop := v = none ∧ (∀ y ∈ L, y.base = x) ∧ RoadKit.Keep h h' [x] ∧ h'.size = h.size + 1 ∧ RoadKit.Exa Z h' x ST ∧ RoadKit.Fld Z h' x ST "value" "[B" (.ref h.size) ∧ RoadKit.Fld Z h' x ST "coder" "B" (.int 0) ∧
  (∃ kb, Z.vm.findClass "[B" = some kb ∧ RoadKit.Arv Z h' h.size kb .byte zn (cs.map fun c => .int (lo8 c)) (.int 0)) ∧
  ∀ (O n d : String) (w : Value), RoadKit.Fld Z h x O n d w → RoadKit.slotOf Z O n d ≠ RoadKit.slotOf Z ST "value" "[B" → RoadKit.slotOf Z O n d ≠ RoadKit.slotOf Z ST "coder" "B" → RoadKit.Fld Z h' x O n d w
/-- **new String(chars) AT A CALL, THE ARRAYS AS LISTS**: the char[] at b holds cs, not empty, no char above 255 -/
theorem backArv {p : Program} {l : Launch} {e : Env} {R : Room} {s : State} {args : Array Value} {below : List Frame} {len W : Nat} {Z : State} {a0 : Array Value} {h : Heap} (hZ : Z.Warmed39 s.vm) (hw : ∀ d ∈ words, d.before a0 Z = true) {kI : Nat} (wi : (Jvm.Cond.instantiable ST kI).before a0 Z = true)
    {x b : Addr} {k : ClassId} {zn z : Int32} {cs : List Int32} {dv v0 c0 : Value} (E : RoadKit.Exa Z h x ST) (V : RoadKit.Fld Z h x ST "value" "[B" v0) (C : RoadKit.Fld Z h x ST "coder" "B" c0) (K : RoadKit.Arv Z h b k .char zn (cs.map Value.int) dv) (S : RoadKit.Sta Z h ST "COMPACT_STRINGS" "Z" (.int z)) (hz : ¬ z = 0)
    (hlen : zn.toNatClampNeg = cs.length) (h0 : 0 < cs.length) (hbig : cs.length ≤ 536870912) (hall : ∀ c ∈ cs, ¬ 255 < c) (hfr : 4 ≤ R.frames) (hlo : W + 65 ≤ R.locals) :
    Back l R p e below s args New1.yN len W (fun P a => a = #[.ref x, .ref b] ∧ P.U.heap = h ∧ P.cells + 1 ≤ R.cells ∧ P.slots + cs.length ≤ R.slots)
      (fun P _ v B => ∃ L, QA Z x zn cs h v B.U.heap L ∧ B.locs = P.locs ++ L ∧ B.cells = P.cells + 1 ∧ B.slots = P.slots + cs.length) := by
  obtain ⟨A, K1, K2, K3, K4, K5, K6⟩ := K
  have e : A.slots.size = cs.length := K3.trans hlen
  have hat : ∀ (i : Nat) (hi : i < cs.length), A.slots[i]? = some (.int cs[i]) := fun i hi => by rw [K5 i (by omega)]; simp [List.getD_eq_getElem?_getD, hi]
  have hcv : ∀ (i : Nat) (hi : i < cs.length), cv A i = cs[i] := fun i hi => by unfold cv; rw [hat i hi]
  have hty : Typed .char A := fun i v hv => by
    have hi : i < A.slots.size := (Array.getElem?_eq_some_iff.mp hv).1
    have q := K5 i hi
    rw [hv] at q
    rw [Option.some.inj q]
    exact K6 i hi
  refine Back.mono (back hZ hw wi E V C K1 hty S hz (by omega) (by omega) (fun i hi => by rw [hcv i (by omega)]; exact hall _ (List.getElem_mem _)) hfr hlo) (fun P a hp => ⟨hp.1, hp.2.1, hp.2.2.1, by rw [e]; exact hp.2.2.2⟩) (fun P a v B hp hq => ?_)
  obtain ⟨L, ⟨q1, q2, q3, q4, q5, q6, q7, ⟨V', v1, v2, v3, v4, v5⟩, q9⟩, hl, hc, hs⟩ := hq
  refine ⟨L, ⟨q1, q2, q3, q4, q5, q6, q7, ⟨V'.cls, v3, V', v1, rfl, by rw [v4, e, hlen], K4, fun i hi => ?_, fun i hi => ?_⟩, q9⟩, hl, hc, by rw [hs, e]⟩
  · have hi' : i < cs.length := by omega
    rw [v5 i (by omega), hcv i hi']; simp [List.getD_eq_getElem?_getD, hi']
  · have hi' : i < cs.length := by omega
    simp only [List.getD_eq_getElem?_getD, List.getElem?_map, List.getElem?_eq_getElem hi', Option.map_some, Option.getD_some]
    exact fits_lo8 _
end StrChars.Road
namespace StrChars.Road
open Jvm Sem ClassFile Op Lib Jvm.Stand Jvm.Free Jvm.Free.XT
/-- WHAT COMES BACK, in the writer's own shape -/
def QV (Z : State) (x : Addr) (N : Int32) (bs : List Int32) (h : Heap) (n0 : Nat) (v : Option Value) (h' : Heap) (L : List Loc) : Prop := v = none ∧ RoadKit.Fr n0 L ∧ RoadKit.Keep h h' [x] ∧ RoadKit.Exa Z h' x ST ∧ RoadKit.Fld Z h' x ST "coder" "B" (.int 0) ∧
  ∃ (t : Addr) (kb : ClassId), n0 ≤ t ∧ h.size ≤ t ∧ ¬ t = x ∧ RoadKit.Fld Z h' x ST "value" "[B" (.ref t) ∧ RoadKit.Arv Z h' t kb .byte N (bs.map Value.int) (.int 0)
/-- **new String(chars) AT A CALL, FOR THE WRITER**: a char[] of n known ints, each 0 to 255 -/
theorem backV {p : Program} {l : Launch} {e : Env} {R : Room} {s : State} {args : Array Value} {below : List Frame} {len W : Nat} {Z : State} {a0 : Array Value} {h : Heap} (hZ : Z.Warmed39 s.vm) (hw : ∀ d ∈ words, d.before a0 Z = true) {kI : Nat} (wi : (Jvm.Cond.instantiable ST kI).before a0 Z = true)
    {x b : Addr} {kC : ClassId} {cs bs : List Int32} {d v0 c0 : Value} {z N : Int32} {n n0 : Nat} (hx0 : n0 ≤ x) (hh0 : n0 ≤ h.size) (E : RoadKit.Exa Z h x ST) (V : RoadKit.Fld Z h x ST "value" "[B" v0) (C : RoadKit.Fld Z h x ST "coder" "B" c0) (K : RoadKit.Arv Z h b kC .char N (cs.map Value.int) d) (S : RoadKit.Sta Z h ST "COMPACT_STRINGS" "Z" (.int z)) (hz : ¬ z = 0)
    (hn : cs.length = n) (hN : N = Int32.ofNat n) (l0 : 0 < n) (l2 : n ≤ 4000) (hp : ∀ c ∈ cs, ¬ c < 0 ∧ ¬ (255 : Int32) < c) (hb : bs = cs.map (fun c => c.toInt8.toInt32)) (hfr : 4 ≤ R.frames) (hlo : W + 65 ≤ R.locals) :
    Back l R p e below s args (⟨"java/lang/String", "<init>", "([C)V"⟩ : MethodName) len W (fun P a => a = #[.ref x, .ref b] ∧ P.U.heap = h ∧ P.cells + 1 ≤ R.cells ∧ P.slots + n ≤ R.slots)
      (fun P _ v B => ∃ L, QV Z x N bs h n0 v B.U.heap L ∧ B.locs = P.locs ++ L ∧ B.cells = P.cells + 1 ∧ B.slots = P.slots + n) := by
  subst hn hN hb
  refine Back.mono (backArv hZ hw wi E V C K S hz (n32 (by omega)) l0 (by omega) (fun c hc => (hp c hc).2) hfr hlo) (fun P a hp => hp) (fun P a v B hp hq => ?_)
  obtain ⟨L, ⟨q1, q2, q3, q4, q5, q6, q7, ⟨kb, v1, v2⟩, q9⟩, hl, hc, hs⟩ := hq
  exact ⟨L, ⟨q1, fun y hy => by rw [q2 y hy]; exact hx0, q3, q5, q7, h.size, kb, hh0, Nat.le_refl _, Nat.ne_of_gt E.lt, q6, by rw [List.map_map]; exact v2⟩, hl, hc, hs⟩
end StrChars.Road
namespace StrChars
open Jvm Sem ClassFile Op Lib Jvm.Stand Jvm.Free.XT Jvm.Free.ALB Jvm.Free.JM Jvm.Free
open Jvm.Lib.Cold (StaticIs)
def hi8 (x : Int32) : Int32 := lo8 (x >>> ((8 : Int32) &&& 31))
/-- what StringUTF16.getChar makes of two bytes -/
def pairCh (u v : Int32) : Int32 := (((u &&& 255) <<< ((0 : Int32) &&& 31)) ||| ((v &&& 255) <<< ((8 : Int32) &&& 31))).toUInt32.toUInt16.toUInt32.toInt32
theorem shr0 (c : Int32) : c >>> ((0 : Int32) &&& 31) = c := by
  have e : ((0 : Int32) &&& 31) = 0 := by decide
  rw [e]
  apply Int32.toBitVec_inj.mp
  rw [Int32.toBitVec_shiftRight]
  have e1 : ((0 : Int32).toBitVec.smod 32) = 0#32 := by decide
  rw [e1, BitVec.sshiftRight_eq']
  exact BitVec.sshiftRight_zero
theorem lo8_and (x : Int32) : (lo8 x &&& 255).toBitVec.toNat = x.toBitVec.toNat % 256 := by
  have h : (lo8 x).toBitVec = (x.toBitVec.signExtend 8).signExtend 32 := by rw [lo8, Int8.toBitVec_toInt32, Int32.toBitVec_toInt8]
  rw [Int32.toBitVec_and, BitVec.toNat_and, h]
  have e : ((x.toBitVec.signExtend 8).signExtend 32).toNat % 256 = x.toBitVec.toNat % 256 := by
    rw [BitVec.toNat_signExtend]
    have hlt := x.toBitVec.isLt
    simp only [BitVec.toNat_setWidth, BitVec.toNat_signExtend]
    split <;> split <;> omega
  rw [← e]
  exact Nat.and_two_pow_sub_one_eq_mod _ 8
theorem pair_says {c : Int32} (h0 : ¬ c < 0) (h1 : ¬ 65535 < c) : pairCh (lo8 c) (hi8 c) = c := by
  rw [Int32.lt_iff_toInt_lt] at h0 h1
  have e0 : (0 : Int32).toInt = 0 := rfl
  have e1 : (65535 : Int32).toInt = 65535 := rfl
  have hc : c.toInt = c.toBitVec.toNat := by
    have := c.toBitVec.isLt
    have e : c.toInt = c.toBitVec.toInt := rfl
    rw [e] at h0 h1
    rw [e]
    rw [BitVec.toInt_eq_toNat_cond] at h0 h1 ⊢
    split at h0 <;> split <;> omega
  have hn : c.toBitVec.toNat < 65536 := by omega
  have a1 := lo8_and c
  have a2 : (hi8 c &&& 255).toBitVec.toNat = c.toBitVec.toNat / 256 := by
    rw [hi8, lo8_and]
    have e : ((8 : Int32) &&& 31) = 8 := by decide
    rw [e, Int32.toBitVec_shiftRight]
    have e2 : ((8 : Int32).toBitVec.smod 32) = 8#32 := by decide
    rw [e2, BitVec.sshiftRight_eq', BitVec.toNat_sshiftRight_of_msb_false (by rw [BitVec.msb_eq_false_iff_two_mul_lt]; omega)]
    show c.toBitVec.toNat >>> 8 % 256 = _
    rw [Nat.shiftRight_eq_div_pow]
    omega
  unfold pairCh
  apply Int32.toBitVec_inj.mp
  apply BitVec.eq_of_toNat_eq
  have f0 : ((0 : Int32) &&& 31) = 0 := by decide
  have f8 : ((8 : Int32) &&& 31) = 8 := by decide
  rw [f0, f8]
  have g : (((lo8 c &&& 255) <<< (0 : Int32)) ||| ((hi8 c &&& 255) <<< (8 : Int32))).toBitVec.toNat = c.toBitVec.toNat := by
    rw [Int32.toBitVec_or, Int32.toBitVec_shiftLeft, Int32.toBitVec_shiftLeft]
    have s0 : ((0 : Int32).toBitVec.smod 32) = 0#32 := by decide
    have s8 : ((8 : Int32).toBitVec.smod 32) = 8#32 := by decide
    rw [s0, s8, BitVec.toNat_or]
    simp only [BitVec.shiftLeft_eq', BitVec.toNat_shiftLeft, a1, a2]
    show (c.toBitVec.toNat % 256) <<< 0 % 2 ^ 32 ||| (c.toBitVec.toNat / 256) <<< 8 % 2 ^ 32 = _
    rw [Nat.shiftLeft_zero, Nat.mod_eq_of_lt (show c.toBitVec.toNat % 256 < 2 ^ 32 by omega), Nat.mod_eq_of_lt (show (c.toBitVec.toNat / 256) <<< 8 < 2 ^ 32 by rw [Nat.shiftLeft_eq]; omega), Nat.or_comm, ← Nat.shiftLeft_add_eq_or_of_lt (by omega), Nat.shiftLeft_eq]
    omega
  show BitVec.toNat (((((lo8 c &&& 255) <<< (0 : Int32)) ||| ((hi8 c &&& 255) <<< (8 : Int32))).toBitVec.setWidth 16).setWidth 32) = _
  rw [BitVec.toNat_setWidth, BitVec.toNat_setWidth, g]
  omega
end StrChars
namespace StrChars
open Jvm Sem ClassFile Op Lib Jvm.Stand Jvm.Free.XT Jvm.Free.ALB Jvm.Free.JM Jvm.Free
open Jvm.Lib.Cold (StaticIs)
theorem shr1 {n : Nat} (h : 2 * n < 2 ^ 31) : Int32.ofNat (2 * n) >>> ((1 : Int32) &&& 31) = Int32.ofNat n := by
  have e : ((1 : Int32) &&& 31) = 1 := by decide
  rw [e]
  apply Int32.toBitVec_inj.mp
  rw [Int32.toBitVec_shiftRight]
  have e1 : ((1 : Int32).toBitVec.smod 32) = 1#32 := by decide
  have hm : (BitVec.ofNat 32 (2 * n)).toNat = 2 * n := by rw [BitVec.toNat_ofNat, Nat.mod_eq_of_lt (by omega)]
  rw [e1, BitVec.sshiftRight_eq']
  apply BitVec.eq_of_toNat_eq
  show ((BitVec.ofNat 32 (2 * n)).sshiftRight 1).toNat = (BitVec.ofNat 32 n).toNat
  rw [BitVec.toNat_sshiftRight_of_msb_false (by rw [BitVec.msb_eq_false_iff_two_mul_lt, hm]; omega), hm, BitVec.toNat_ofNat, Nat.shiftRight_eq_div_pow]
  omega
/-- charAt's cast of a byte read back -/
def chr8 (u : Int32) : Int32 := (u &&& 255).toUInt32.toUInt16.toUInt32.toInt32
theorem chr8_lo8 {c : Int32} (h0 : ¬ c < 0) (h1 : ¬ 255 < c) : chr8 (lo8 c) = c := by
  have t : ∀ k : Fin 256, (Int32.ofNat k.val).toUInt32.toUInt16.toUInt32.toInt32 = Int32.ofNat k.val := by decide +kernel
  unfold chr8
  rw [lo8_mask h0 h1]
  rw [Int32.lt_iff_toInt_lt] at h0 h1
  have e0 : (0 : Int32).toInt = 0 := rfl
  have e1 : (255 : Int32).toInt = 255 := rfl
  obtain ⟨k, hk⟩ : ∃ k : Nat, c.toInt = k := ⟨c.toInt.toNat, by omega⟩
  have hx : c = Int32.ofNat k := Int32.toInt_inj.mp (by rw [hk, Int32.toInt_ofNat_small (by omega)])
  rw [hx]
  exact t ⟨k, by omega⟩
theorem narrow_ch {c : Int32} (h0 : ¬ c < 0) (h1 : ¬ 65535 < c) : narrow .char (.int c) = .int c := by
  have q : narrow .char (.int (pairCh (lo8 c) (hi8 c))) = .int (pairCh (lo8 c) (hi8 c)) := narrow_c _
  rwa [pair_says h0 h1] at q
/-- the array's cell V codes the n chars f 0 .. f (n - 1) by the coder cd, as the JDK does: coder 1 just where some char is above 255 -/
def Cod (cd : Int32) (n : Nat) (f : Nat → Int32) (V : Cell) : Prop := (cd = 0 ∧ V.slots.size = n ∧ ∀ j, j < n → V.slots[j]? = some (.int (lo8 (f j))) ∧ ¬ 255 < f j) ∨ (cd = 1 ∧ V.slots.size = 2 * n ∧ (∀ j, j < n → V.slots[2 * j]? = some (.int (lo8 (f j))) ∧ V.slots[2 * j + 1]? = some (.int (hi8 (f j)))) ∧ ∃ j, j < n ∧ 255 < f j)
theorem Cod.cd {cd : Int32} {n : Nat} {f : Nat → Int32} {V : Cell} (h : Cod cd n f V) : cd = 0 ∨ cd = 1 := h.imp (fun q => q.1) fun q => q.1
theorem Cod.len {cd : Int32} {n : Nat} {f : Nat → Int32} {V : Cell} (h : Cod cd n f V) (hs : V.slots.size < 2 ^ 31) : Int32.ofNat V.slots.size >>> (cd &&& 31) = Int32.ofNat n := by
  rcases h with ⟨rfl, h, -⟩ | ⟨rfl, h, -⟩
  · rw [shr0, h]
  · rw [h, shr1 (by omega)]
/-- **x is a String of the n chars f 0 .. f (n - 1)**, Latin-1 or UTF-16; its array at t has the cell V -/
def Txt (x t : Addr) (V : Cell) (cd : Int32) (n : Nat) (f : Nat → Int32) (U : State) : Prop := Exact "java/lang/String" x U ∧ Has x "java/lang/String" "value" "[B" (.ref t) U ∧ Has x "java/lang/String" "coder" "B" (.int cd) U ∧ XT.Arr .byte t V U ∧ Cod cd n f V ∧ ∀ j, j < n → ¬ f j < 0 ∧ ¬ 65535 < f j
theorem Txt.mv {x t : Addr} {V : Cell} {cd : Int32} {n : Nat} {f : Nat → Int32} {U U' : State} (h : Txt x t V cd n f U) (hal : U.vm.Alike U'.vm) (hh : U'.heap = U.heap) : Txt x t V cd n f U' := ⟨h.1.mv hal hh, h.2.1.mv hal hh, h.2.2.1.mv hal hh, h.2.2.2.1.mv hal hh, h.2.2.2.2⟩
namespace Cdr
def yN : MethodName := ⟨"java/lang/String", "coder", "()B"⟩
abbrev yB : ByteArray := jdk_42_method_152_code
theorem d0 : decode yB 0 = .ok (.getstatic 38, 3) := by decide +kernel
theorem d3 : decode yB 3 = .ok (.ifCond (.eq) 10, 3) := by decide +kernel
theorem d6 : decode yB 6 = .ok (.aload_n 0, 1) := by decide +kernel
theorem d7 : decode yB 7 = .ok (.getfield 15, 3) := by decide +kernel
theorem d10 : decode yB 10 = .ok (.goto 4, 3) := by decide +kernel
theorem d14 : decode yB 14 = .ok (.ireturn, 1) := by decide +kernel
def site : List Cond := [.fieldLink "java/lang/String" 38 "java/lang/String" "COMPACT_STRINGS" "Z", .fieldLink "java/lang/String" 15 "java/lang/String" "coder" "B"]
def tab : Cond := tabOf yN yB 1 (some .byte) site
def P (x : Addr) (cd z : Int32) (args : Array Value) (s : State) : Prop := args = #[.ref x] ∧ Has x "java/lang/String" "coder" "B" (.int cd) s ∧ (cd = 0 ∨ cd = 1) ∧ StaticIs s "java/lang/String" "COMPACT_STRINGS" "Z" (.int z) ∧ ¬ z = 0
def E (cd : Int32) (r : Option Value) (s u : State) : Prop := XT.PureE (some (.int cd)) r s u
theorem law (l : Launch) (x : Addr) (cd z : Int32) : Law l yN 1 0 0 0 yB 1 (some .byte) site (P x cd z) (E cd) [] 0 0 := by
  refine Law.of_walk (plainFor_of_name (by decide +kernel)) (by decide +kernel) (by decide +kernel) (by decide) (fun _ _ h => by rw [h.1]; rfl) (fun _ U U' hal hh h => ⟨h.1, h.2.1.mv hal hh, h.2.2.1, h.2.2.2.1.there hal hh, h.2.2.2.2⟩) (fun r U U' V V' h1 hal h2 h => XT.PureE.mv r U U' V V' h1 hal h2 h) ?_
  intro p e s m args below meth c s₁ X0 hexec hbytes hml hret hlk hnm hown hh0 W hP
  obtain ⟨rfl, hx, hc, s1, hz⟩ := hP
  have c1 : Steps p.tables e below (s₁.setTop (entryFrame m #[.ref x] 1)) (s₁.setTop (mkF m 0 #[.val (.ref x)] [])) := entry rfl
  obtain ⟨T2, X2, q2, st2⟩ := X0.sget hexec hown (wk W (.fieldLink "java/lang/String" 38 "java/lang/String" "COMPACT_STRINGS" "Z")) s1 (fun _ _ h => by rw [hh0]; exact h) (g := (mkF m 0 #[.val (.ref x)] [])) rfl (hb hbytes d0)
  have hh2 := q2.trans hh0
  have c3 : Steps p.tables e below (s₁.setTop (entryFrame m #[.ref x] 1)) (T2.setTop (mkF m 7 #[.val (.ref x)] [.ref x])) := (c1.trans (st2 _ (Steps.refl _))).trans (by
    refine XS.ifNo X2.here hexec rfl (hb hbytes d3) rfl (i0_eq_f hz) ?_
    refine XS.aloadN X2.here hexec rfl (hb hbytes d6) rfl rfl ?_
    exact Steps.refl _)
  obtain ⟨T4, X4, q4, st4⟩ := X2.hget hexec hown (wk W (.fieldLink "java/lang/String" 15 "java/lang/String" "coder" "B")) (hx.mv X2.warmed.alike hh2) (g := (mkF m 7 #[.val (.ref x)] [.ref x])) rfl (rest := []) rfl (hb hbytes d7)
  have c5 : Steps p.tables e below (s₁.setTop (entryFrame m #[.ref x] 1)) (T4.setTop (mkF m 14 #[.val (.ref x)] [.int cd])) := (c3.trans (st4 _ (Steps.refl _))).trans (by
    refine XS.goto X4.here hexec rfl (pc0 := 10) rfl (hb hbytes d10) (by decide) rfl ?_
    exact Steps.refl _)
  exact ⟨T4, some (.int cd), _, _, _, X4, rfl, rfl, rfl, (fun h => by cases h), ⟨rfl, q4.trans hh2⟩, fun fs hl => c5.trans (X4.ireturnOut hexec hret (by rcases hc with rfl | rfl <;> rfl) (Or.inr (Or.inr (Or.inl rfl))) (hb hbytes d14) hl)⟩
end Cdr
namespace Len
def yN : MethodName := ⟨"java/lang/String", "length", "()I"⟩
abbrev yB : ByteArray := jdk_42_method_54_code
theorem d0 : decode yB 0 = .ok (.aload_n 0, 1) := by decide +kernel
theorem d1 : decode yB 1 = .ok (.getfield 9, 3) := by decide +kernel
theorem d4 : decode yB 4 = .ok (.arraylength, 1) := by decide +kernel
theorem d5 : decode yB 5 = .ok (.aload_n 0, 1) := by decide +kernel
theorem d6 : decode yB 6 = .ok (.invokevirtual 335, 3) := by decide +kernel
theorem d9 : decode yB 9 = .ok (.ishr, 1) := by decide +kernel
theorem d10 : decode yB 10 = .ok (.ireturn, 1) := by decide +kernel
def site : List Cond := [.fieldLink "java/lang/String" 9 "java/lang/String" "value" "[B", Cdr.tab] ++ virtW "java/lang/String" 335 "java/lang/String" Cdr.yN Cdr.yN
def tab : Cond := tabOf yN yB 1 (some .int) site
def P (x t : Addr) (V : Cell) (cd : Int32) (n : Nat) (f : Nat → Int32) (z : Int32) (args : Array Value) (s : State) : Prop := args = #[.ref x] ∧ Txt x t V cd n f s ∧ StaticIs s "java/lang/String" "COMPACT_STRINGS" "Z" (.int z) ∧ ¬ z = 0
def E (n : Nat) (r : Option Value) (s u : State) : Prop := XT.PureE (some (.int (Int32.ofNat n))) r s u
/-- length() of a String of n chars, in either coding -/
theorem law (l : Launch) (x t : Addr) (V : Cell) (cd : Int32) (n : Nat) (f : Nat → Int32) (z : Int32) : Law l yN 1 0 1 13 yB 1 (some .int) site (P x t V cd n f z) (E n) [] 0 0 := by
  refine Law.of_walk (plainFor_of_name (by decide +kernel)) (by decide +kernel) (by decide +kernel) (by decide) (fun _ _ h => by rw [h.1]; rfl) (fun _ U U' hal hh h => ⟨h.1, h.2.1.mv hal hh, h.2.2.1.there hal hh, h.2.2.2⟩) (fun r U U' V V' h1 hal h2 h => XT.PureE.mv r U U' V V' h1 hal h2 h) ?_
  intro p e s m args below meth c s₁ X0 hexec hbytes hml hret hlk hnm hown hh0 W hP
  obtain ⟨rfl, hx, s1, hz⟩ := hP
  have v31 := hx.2.2.2.1.2.2.2
  have c1 : Steps p.tables e below (s₁.setTop (entryFrame m #[.ref x] 1)) (s₁.setTop (mkF m 1 #[.val (.ref x)] [.ref x])) := Steps.trans (entry rfl) (by
    show Steps p.tables e below (s₁.setTop (mkF m 0 #[.val (.ref x)] [])) _
    refine XS.aloadN X0.here hexec rfl (hb hbytes d0) rfl rfl ?_
    exact Steps.refl _)
  obtain ⟨T2, X2, q2, st2⟩ := X0.hget hexec hown (wk W (.fieldLink "java/lang/String" 9 "java/lang/String" "value" "[B")) (hx.mv X0.warmed.alike hh0).2.1 (g := (mkF m 1 #[.val (.ref x)] [.ref x])) rfl (rest := []) rfl (hb hbytes d1)
  have hh2 := q2.trans hh0
  have hx2 := hx.mv X2.warmed.alike hh2
  have c3 : Steps p.tables e below (s₁.setTop (entryFrame m #[.ref x] 1)) (T2.setTop (mkF m 6 #[.val (.ref x)] [.ref x, .int (Int32.ofNat V.slots.size)])) := (c1.trans (st2 _ (Steps.refl _))).trans (by
    refine X2.alen hexec hx2.2.2.2.1 rfl rfl (hb hbytes d4) ?_
    refine XS.aloadN X2.here hexec rfl (hb hbytes d5) rfl rfl ?_
    exact Steps.refl _)
  obtain ⟨v4, T4, X4, E4, g4⟩ := X2.callV hexec (Cdr.law l x cd z) hown (wks W (virtW "java/lang/String" 335 "java/lang/String" Cdr.yN Cdr.yN)) rfl (by decide) (wk W Cdr.tab) (W := 1) (Nat.le_of_ble_eq_true rfl) (Nat.le_of_ble_eq_true rfl) (Nat.le_refl _) (Nat.le_refl _) (hx2.1.fc X2.warmed.alike) hx2.1.is (g := (mkF m 6 #[.val (.ref x)] [.ref x, .int (Int32.ofNat V.slots.size)])) rfl (by rw [hml]; rfl) c3 (argsL := []) (rest := [.int (Int32.ofNat V.slots.size)]) rfl rfl (by show 2 * 0 + (1 + 0) ≤ _; decide) (hb hbytes d6) (⟨rfl, hx2.2.2.1, hx.2.2.2.2.1.cd, s1.there X2.warmed.alike hh2, hz⟩)
  obtain ⟨rfl, q4⟩ := E4
  have c5 : Steps p.tables e below (s₁.setTop (entryFrame m #[.ref x] 1)) (T4.setTop (mkF m 10 #[.val (.ref x)] [.int (Int32.ofNat V.slots.size >>> (cd &&& 31))])) := Steps.trans g4 (by
    refine ishr X4.here hexec rfl (hb hbytes d9) rfl ?_
    exact Steps.refl _)
  rw [hx.2.2.2.2.1.len v31] at c5
  exact ⟨T4, some (.int (Int32.ofNat n)), _, _, _, X4, rfl, rfl, rfl, (fun h => by cases h), ⟨rfl, q4.trans hh2⟩, fun fs hl => c5.trans (X4.ireturnOut hexec hret rfl (Or.inl rfl) (hb hbytes d10) hl)⟩
theorem pays {l : Launch} {R : Room} {p : Program} {e : Env} {below : List Frame} {s : State} {sargs : Array Value} {len W : Nat} (x t : Addr) (V : Cell) (cd : Int32) (n : Nat) (f : Nat → Int32) (z : Int32) (htab : tab.before sargs s = true) (hfr : 2 ≤ R.frames) (hlo : W + 25 ≤ R.locals) :
    Back l R p e below s sargs yN len W (fun A₁ a₁ => A₁.cells + 0 ≤ R.cells ∧ A₁.slots + 0 ≤ R.slots ∧ P x t V cd n f z a₁ A₁.U) (fun A₁ _ v₁ B₁ => E n v₁ A₁.U B₁.U ∧ B₁.locs = A₁.locs ++ [] ∧ B₁.cells = A₁.cells + 0 ∧ B₁.slots = A₁.slots + 0) :=
  (law l x t V cd n f z).pays htab hfr (by omega)
end Len
namespace IsL
def yN : MethodName := ⟨"java/lang/String", "isLatin1", "()Z"⟩
abbrev yB : ByteArray := jdk_42_method_154_code
theorem d0 : decode yB 0 = .ok (.getstatic 38, 3) := by decide +kernel
theorem d3 : decode yB 3 = .ok (.ifCond (.eq) 14, 3) := by decide +kernel
theorem d6 : decode yB 6 = .ok (.aload_n 0, 1) := by decide +kernel
theorem d7 : decode yB 7 = .ok (.getfield 15, 3) := by decide +kernel
theorem d10 : decode yB 10 = .ok (.ifCond (.ne) 7, 3) := by decide +kernel
theorem d13 : decode yB 13 = .ok (.iconst 1, 1) := by decide +kernel
theorem d14 : decode yB 14 = .ok (.goto 4, 3) := by decide +kernel
theorem d17 : decode yB 17 = .ok (.iconst 0, 1) := by decide +kernel
theorem d18 : decode yB 18 = .ok (.ireturn, 1) := by decide +kernel
def site : List Cond := [.fieldLink "java/lang/String" 38 "java/lang/String" "COMPACT_STRINGS" "Z", .fieldLink "java/lang/String" 15 "java/lang/String" "coder" "B"]
def tab : Cond := tabOf yN yB 1 (some .boolean) site
def P (x : Addr) (cd z : Int32) (args : Array Value) (s : State) : Prop := args = #[.ref x] ∧ Has x "java/lang/String" "coder" "B" (.int cd) s ∧ (cd = 0 ∨ cd = 1) ∧ StaticIs s "java/lang/String" "COMPACT_STRINGS" "Z" (.int z) ∧ ¬ z = 0
def E (cd : Int32) (r : Option Value) (s u : State) : Prop := XT.PureE (some (.int (1 - cd))) r s u
theorem law (l : Launch) (x : Addr) (cd z : Int32) : Law l yN 1 0 0 0 yB 1 (some .boolean) site (P x cd z) (E cd) [] 0 0 := by
  refine Law.of_walk (plainFor_of_name (by decide +kernel)) (by decide +kernel) (by decide +kernel) (by decide) (fun _ _ h => by rw [h.1]; rfl) (fun _ U U' hal hh h => ⟨h.1, h.2.1.mv hal hh, h.2.2.1, h.2.2.2.1.there hal hh, h.2.2.2.2⟩) (fun r U U' V V' h1 hal h2 h => XT.PureE.mv r U U' V V' h1 hal h2 h) ?_
  intro p e s m args below meth c s₁ X0 hexec hbytes hml hret hlk hnm hown hh0 W hP
  obtain ⟨rfl, hx, hc, s1, hz⟩ := hP
  have c1 : Steps p.tables e below (s₁.setTop (entryFrame m #[.ref x] 1)) (s₁.setTop (mkF m 0 #[.val (.ref x)] [])) := entry rfl
  obtain ⟨T2, X2, q2, st2⟩ := X0.sget hexec hown (wk W (.fieldLink "java/lang/String" 38 "java/lang/String" "COMPACT_STRINGS" "Z")) s1 (fun _ _ h => by rw [hh0]; exact h) (g := (mkF m 0 #[.val (.ref x)] [])) rfl (hb hbytes d0)
  have hh2 := q2.trans hh0
  have c3 : Steps p.tables e below (s₁.setTop (entryFrame m #[.ref x] 1)) (T2.setTop (mkF m 7 #[.val (.ref x)] [.ref x])) := (c1.trans (st2 _ (Steps.refl _))).trans (by
    refine XS.ifNo X2.here hexec rfl (hb hbytes d3) rfl (i0_eq_f hz) ?_
    refine XS.aloadN X2.here hexec rfl (hb hbytes d6) rfl rfl ?_
    exact Steps.refl _)
  obtain ⟨T4, X4, q4, st4⟩ := X2.hget hexec hown (wk W (.fieldLink "java/lang/String" 15 "java/lang/String" "coder" "B")) (hx.mv X2.warmed.alike hh2) (g := (mkF m 7 #[.val (.ref x)] [.ref x])) rfl (rest := []) rfl (hb hbytes d7)
  have c5 : Steps p.tables e below (s₁.setTop (entryFrame m #[.ref x] 1)) (T4.setTop (mkF m 10 #[.val (.ref x)] [.int cd])) := c3.trans (st4 _ (Steps.refl _))
  have c6 : Steps p.tables e below (s₁.setTop (entryFrame m #[.ref x] 1)) (T4.setTop (mkF m 18 #[.val (.ref x)] [.int (1 - cd)])) := by
    rcases hc with rfl | rfl
    · exact c5.trans (by
        refine XS.ifNo X4.here hexec rfl (hb hbytes d10) rfl (i0_ne_f rfl) ?_
        refine iconstV X4.here hexec rfl 1 (hb hbytes d13) (by decide) ?_
        refine XS.goto X4.here hexec rfl (pc0 := 14) rfl (hb hbytes d14) (by decide) rfl ?_
        exact Steps.refl _)
    · exact c5.trans (by
        refine XS.ifYes X4.here hexec rfl (pc0 := 10) rfl (hb hbytes d10) rfl (i0_ne_t (by decide)) (by decide) rfl ?_
        refine iconstV X4.here hexec rfl 0 (hb hbytes d17) (by decide) ?_
        exact Steps.refl _)
  exact ⟨T4, some (.int (1 - cd)), _, _, _, X4, rfl, rfl, rfl, (fun h => by cases h), ⟨rfl, q4.trans hh2⟩, fun fs hl => c6.trans (X4.ireturnOut hexec hret (by rcases hc with rfl | rfl <;> rfl) (Or.inr (Or.inl rfl)) (hb hbytes d18) hl)⟩
end IsL
namespace LChA
def yN : MethodName := ⟨"java/lang/StringLatin1", "charAt", "([BI)C"⟩
abbrev yB : ByteArray := jdk_43_method_2_code
theorem d0 : decode yB 0 = .ok (.iload_n 1, 1) := by decide +kernel
theorem d1 : decode yB 1 = .ok (.aload_n 0, 1) := by decide +kernel
theorem d2 : decode yB 2 = .ok (.arraylength, 1) := by decide +kernel
theorem d3 : decode yB 3 = .ok (.invokestatic 9, 3) := by decide +kernel
theorem d6 : decode yB 6 = .ok (.aload_n 0, 1) := by decide +kernel
theorem d7 : decode yB 7 = .ok (.iload_n 1, 1) := by decide +kernel
theorem d8 : decode yB 8 = .ok (.baload, 1) := by decide +kernel
theorem d9 : decode yB 9 = .ok (.sipush 255, 3) := by decide +kernel
theorem d12 : decode yB 12 = .ok (.iand, 1) := by decide +kernel
theorem d13 : decode yB 13 = .ok (.i2c, 1) := by decide +kernel
theorem d14 : decode yB 14 = .ok (.ireturn, 1) := by decide +kernel
def site : List Cond := [JO.Str_checkIndex.tab] ++ staticW "java/lang/StringLatin1" 9 JO.Str_checkIndex.yN
def tab : Cond := tabOf yN yB 2 (some .char) site
def P (t : Addr) (V : Cell) (i : Nat) (u : Int32) (fm : Value) (args : Array Value) (s : State) : Prop := args = #[.ref t, .int (Int32.ofNat i)] ∧ XT.Arr .byte t V s ∧ V.slots[i]? = some (.int u) ∧ (StaticIs s "jdk/internal/util/Preconditions" "SIOOBE_FORMATTER" "Ljava/util/function/BiFunction;" fm ∧ fm.isRef = true)
def E (u : Int32) (r : Option Value) (s w : State) : Prop := XT.PureE (some (.int (chr8 u))) r s w
theorem law (l : Launch) (t : Addr) (V : Cell) (i : Nat) (u : Int32) (fm : Value) : Law l yN 2 2 2 27 yB 2 (some .char) site (P t V i u fm) (E u) [] 0 0 := by
  refine Law.of_walk (plainFor_of_name (by decide +kernel)) (by decide +kernel) (by decide +kernel) (by decide) (fun _ _ h => by rw [h.1]; rfl) (fun _ U U' hal hh h => ⟨h.1, h.2.1.mv hal hh, h.2.2.1, h.2.2.2.1.there hal hh, h.2.2.2.2⟩) (fun r U U' V V' h1 hal h2 h => XT.PureE.mv r U U' V V' h1 hal h2 h) ?_
  intro p e s m args below meth c s₁ X0 hexec hbytes hml hret hlk hnm hown hh0 W hP
  obtain ⟨rfl, hV, hu, s1, rf⟩ := hP
  have v31 := hV.2.2.2
  have hi : i < V.slots.size := (Array.getElem?_eq_some_iff.mp hu).1
  have c1 : Steps p.tables e below (s₁.setTop (entryFrame m #[.ref t, .int (Int32.ofNat i)] 2)) (s₁.setTop (mkF m 0 #[.val (.ref t), .val (.int (Int32.ofNat i))] [])) := entry rfl
  have c2 : Steps p.tables e below (s₁.setTop (entryFrame m #[.ref t, .int (Int32.ofNat i)] 2)) (s₁.setTop (mkF m 3 #[.val (.ref t), .val (.int (Int32.ofNat i))] [.int (Int32.ofNat V.slots.size), .int (Int32.ofNat i)])) := c1.trans (by
    refine XS.iloadN X0.here hexec rfl (hb hbytes d0) rfl ?_
    refine XS.aloadN X0.here hexec rfl (hb hbytes d1) rfl rfl ?_
    refine X0.alen hexec (hV.mv X0.warmed.alike hh0) rfl rfl (hb hbytes d2) ?_
    exact Steps.refl _)
  obtain ⟨v3, T3, X3, E3, g3⟩ := X0.callS hexec (JO.Str_checkIndex.law l (Int32.ofNat i) (Int32.ofNat V.slots.size) fm) hown (wks W (staticW "java/lang/StringLatin1" 9 JO.Str_checkIndex.yN)) (wk W JO.Str_checkIndex.tab) (W := 0) (Nat.le_of_ble_eq_true rfl) (Nat.le_of_ble_eq_true rfl) (Nat.le_refl _) (Nat.le_refl _) (g := (mkF m 3 #[.val (.ref t), .val (.int (Int32.ofNat i))] [.int (Int32.ofNat V.slots.size), .int (Int32.ofNat i)])) rfl (by rw [hml]; rfl) c2 (argsL := [.int (Int32.ofNat i), .int (Int32.ofNat V.slots.size)]) (rest := []) rfl rfl (by show 2 * 0 + 0 ≤ _; decide) (hb hbytes d3) (⟨rfl, rf, s1.there X0.warmed.alike hh0, Int32.ofNat_not_neg (by omega), lt32 v31 hi⟩)
  obtain ⟨rfl, q3⟩ := E3
  have hh3 := q3.trans hh0
  have c4 : Steps p.tables e below (s₁.setTop (entryFrame m #[.ref t, .int (Int32.ofNat i)] 2)) (T3.setTop (mkF m 14 #[.val (.ref t), .val (.int (Int32.ofNat i))] [.int (chr8 u)])) := Steps.trans g3 (by
    refine XS.aloadN X3.here hexec rfl (hb hbytes d6) rfl rfl ?_
    refine XS.iloadN X3.here hexec rfl (hb hbytes d7) rfl ?_
    refine X3.aget hexec (hV.mv X3.warmed.alike hh3) rfl hu rfl rfl (hb hbytes d8) ?_
    refine sipushV X3.here hexec rfl 255 (hb hbytes d9) (by decide) ?_
    refine XS.iand X3.here hexec rfl (hb hbytes d12) rfl ?_
    refine i2c X3.here hexec rfl (hb hbytes d13) rfl ?_
    exact Steps.refl _)
  exact ⟨T3, some (.int (chr8 u)), _, _, _, X3, rfl, rfl, rfl, (fun h => by cases h), ⟨rfl, hh3⟩, fun fs hl => c4.trans (X3.ireturnOut hexec hret (narrow_c _) (Or.inr (Or.inr (Or.inr (Or.inl rfl)))) (hb hbytes d14) hl)⟩
end LChA
end StrChars
namespace StrChars.Road
open Jvm Sem ClassFile Op Lib Jvm.Stand Jvm.Free Jvm.Free.XT
open Jvm.Lib.Cold (StaticIs)
theorem consq {a : Array Value} {s : State} {c : Jvm.Cond} {L : List Jvm.Cond} (h0 : c.before a s = true) (h : ∀ w ∈ L, w.before a s = true) : ∀ w ∈ c :: L, w.before a s = true := fun w hw => (List.mem_cons.mp hw).elim (fun e => e ▸ h0) (h w)
/-- the words of String.length(), either coding -/
abbrev wordsLen : List Jvm.Cond := [.code Len.yN Len.yB 1 (some .int), .initialized ST, .fieldLink ST 9 ST "value" "[B", .fieldLink ST 38 ST "COMPACT_STRINGS" "Z", .fieldLink ST 15 ST "coder" "B", .code Cdr.yN Cdr.yB 1 (some .byte), .methodLink ST 335 Cdr.yN, .declares Cdr.yN, .selects ST Cdr.yN Cdr.yN, .instanceMethod Cdr.yN]
theorem tabLen_of {a : Array Value} {s : State} (h : ∀ w ∈ wordsLen, w.before a s = true) : Len.tab.before a s = true := by
  have hc : Cdr.tab.before a s = true := unparts (wk h (.code Cdr.yN Cdr.yB 1 (some .byte))) (wks h (.initialized Cdr.yN.cls :: Cdr.site))
  have q := consq hc h
  exact unparts (wk q (.code Len.yN Len.yB 1 (some .int))) (wks q (.initialized Len.yN.cls :: Len.site))
theorem movedLen {Z s : State} {a0 args : Array Value} (hZ : Z.Warmed39 s.vm) (hw : ∀ d ∈ wordsLen, d.before a0 Z = true) : ∀ d ∈ wordsLen, d.before args s = true := fun d hd => by
  have q := hw d hd
  have t : ∀ d ∈ wordsLen, d = .arrayClass .byte ∨ (d.onTables && d.keepsFace) = true := by decide +kernel
  rcases t d hd with rfl | t
  · exact RoadKit.mvA hZ q
  · exact RoadKit.mv hZ q t
/-- the bytes of the chars cs, low before high -/
def wideBytes : List Int32 → List Value
  | [] => []
  | c :: cs => .int (lo8 c) :: .int (hi8 c) :: wideBytes cs
theorem wide_lo (d : Value) : ∀ (cs : List Int32) (j : Nat), j < cs.length → (wideBytes cs).getD (2 * j) d = .int (lo8 (cs.getD j 0))
  | [], j, h => absurd h (Nat.not_lt_zero j)
  | c :: cs, 0, _ => rfl
  | c :: cs, j + 1, h => by
    have q := wide_lo d cs j (by simpa using h)
    rw [show 2 * (j + 1) = 2 * j + 1 + 1 from by omega]
    simpa [wideBytes] using q
theorem wide_hi (d : Value) : ∀ (cs : List Int32) (j : Nat), j < cs.length → (wideBytes cs).getD (2 * j + 1) d = .int (hi8 (cs.getD j 0))
  | [], j, h => absurd h (Nat.not_lt_zero j)
  | c :: cs, 0, _ => rfl
  | c :: cs, j + 1, h => by
    have q := wide_hi d cs j (by simpa using h)
    rw [show 2 * (j + 1) + 1 = 2 * j + 1 + 1 + 1 from by omega]
    simpa [wideBytes] using q
theorem low_at (d : Value) (cs : List Int32) (j : Nat) (h : j < cs.length) : (cs.map fun c => Value.int (lo8 c)).getD j d = .int (lo8 (cs.getD j 0)) := by
  simp [List.getD_eq_getElem?_getD, h]
/-- an array of N2 bytes vs codes the chars cs by the coder cd -/
def CodA (cs : List Int32) (cd N2 : Int32) (vs : List Value) : Prop := (cd = 0 ∧ N2 = Int32.ofNat cs.length ∧ vs = (cs.map fun c => Value.int (lo8 c)) ∧ ∀ c ∈ cs, ¬ 255 < c) ∨ (cd = 1 ∧ N2 = Int32.ofNat (2 * cs.length) ∧ vs = wideBytes cs ∧ ∃ c ∈ cs, 255 < c)
theorem CodA.cod {cs : List Int32} {cd N2 : Int32} {vs : List Value} {V : Cell} (h : CodA cs cd N2 vs) (hn : 2 * cs.length < 2 ^ 31) (hs : V.slots.size = N2.toNatClampNeg) (hv : RoadKit.Has V vs (.int 0)) : Cod cd cs.length (fun j => cs.getD j 0) V := by
  rcases h with ⟨rfl, rfl, rfl, h⟩ | ⟨rfl, rfl, rfl, c, hc, hw⟩
  · rw [n32 (by omega)] at hs
    exact Or.inl ⟨rfl, hs, fun j hj => ⟨by rw [hv j (by omega), low_at _ _ _ hj], by
      have e : cs.getD j 0 = cs[j] := by simp [List.getD_eq_getElem?_getD, hj]
      show ¬ 255 < cs.getD j 0
      rw [e]; exact h _ (List.getElem_mem _)⟩⟩
  · rw [n32 (by omega)] at hs
    obtain ⟨j, hj, rfl⟩ := List.getElem_of_mem hc
    exact Or.inr ⟨rfl, hs, fun j hj => ⟨by rw [hv _ (by omega), wide_lo _ _ _ hj], by rw [hv _ (by omega), wide_hi _ _ _ hj]⟩, j, hj, by
      have e : cs.getD j 0 = cs[j] := by simp [List.getD_eq_getElem?_getD, hj]
      show 255 < cs.getD j 0
      rw [e]; exact hw⟩
/-- an object of exactly java/lang/String, its two fields found: as the laws ask it -/
theorem strObj {Z U : State} {a0 : Array Value} {kI : Nat} (wi : (Jvm.Cond.instantiable ST kI).before a0 Z = true) (al : Z.vm.Alike U.vm) {x : Addr} {v0 c0 : Value} (E : RoadKit.Exa Z U.heap x ST) (V : RoadKit.Fld Z U.heap x ST "value" "[B" v0) (C : RoadKit.Fld Z U.heap x ST "coder" "B" c0) :
    ∃ (D : Cell) (fV fC : Field), Blank ST x D U ∧ Found ST "value" "[B" fV U ∧ Found ST "coder" "B" fC U ∧ D.slots[fV.slot]? = some v0 ∧ D.slots[fC.slot]? = some c0 ∧ RoadKit.slotOf Z ST "value" "[B" = fV.slot ∧ RoadKit.slotOf Z ST "coder" "B" = fC.slot := by
  obtain ⟨D, cfV, kV, iV, fV, hD, gV, stV, knV, obV, asV, slV⟩ := V
  obtain ⟨D', cfC, kC, iC, fC, hD', gC, stC, -, -, asC, slC⟩ := C
  cases hD.symm.trans hD'
  obtain ⟨D2, kD, e1, e2, e3, e4, e5⟩ := E
  cases hD.symm.trans e1
  obtain ⟨c2, k2, i1, i2, i3, -⟩ := Cond.instantiable_spec wi
  cases e2.symm.trans i1
  cases e3.symm.trans i2
  obtain ⟨kU, u1, u2⟩ := al.2.2 _ _ e3
  exact ⟨D, fV, fC, ⟨hD, ⟨knV, fun q hq => by rw [hq] at obV; cases obV⟩, by rw [al.findClass]; exact e2, kU, u1, by rw [u2]; exact i3, by rw [u2]; exact e5 i3⟩, ⟨SBG.found_only al ⟨cfV, kV, iV, gV⟩, stV⟩, ⟨SBG.found_only al ⟨cfC, kC, iC, gC⟩, stC⟩, slV, slC, by simp [RoadKit.slotOf, gV], by simp [RoadKit.slotOf, gC]⟩
theorem sta_is {Z U : State} (al : Z.vm.Alike U.vm) {C n d : String} {v : Value} (S : RoadKit.Sta Z U.heap C n d v) : StaticIs U C n d v := by
  obtain ⟨cfS, iS, kS, fS, st, cS, t1, t2, t3, t4, t5, t6, t7⟩ := S
  exact StaticIs.there (s := { Z with heap := U.heap }) ⟨cfS, iS, kS, fS, st, cS, t1, t2, t3, t4, t5, (fun q => by rw [q] at t6; cases t6), t7⟩ al rfl
/-- **length() OF SUCH A STRING** -/
theorem lenW {p : Program} {l : Launch} {e : Env} {R : Room} {s : State} {args : Array Value} {below : List Frame} {len W : Nat} {Z : State} {a0 : Array Value} {h : Heap} (hZ : Z.Warmed39 s.vm) (hw : ∀ d ∈ wordsLen, d.before a0 Z = true) {kI : Nat} (wi : (Jvm.Cond.instantiable ST kI).before a0 Z = true)
    {x t : Addr} {kb : ClassId} {cs : List Int32} {cd N2 z : Int32} {vs : List Value} (E : RoadKit.Exa Z h x ST) (V : RoadKit.Fld Z h x ST "value" "[B" (.ref t)) (C : RoadKit.Fld Z h x ST "coder" "B" (.int cd)) (K : RoadKit.Arv Z h t kb .byte N2 vs (.int 0)) (hc : CodA cs cd N2 vs) (hb : ∀ c ∈ cs, ¬ c < 0 ∧ ¬ (65535 : Int32) < c)
    (S : RoadKit.Sta Z h ST "COMPACT_STRINGS" "Z" (.int z)) (hz : ¬ z = 0) (l2 : cs.length ≤ 4000) (hfr : 2 ≤ R.frames) (hlo : W + 25 ≤ R.locals) :
    Back l R p e below s args (⟨"java/lang/String", "length", "()I"⟩ : MethodName) len W (fun P a => a = #[.ref x] ∧ P.U.heap = h ∧ P.cells + 0 ≤ R.cells ∧ P.slots + 0 ≤ R.slots)
      (fun P _ v B => ∃ L, (v = some (.int (Int32.ofNat cs.length)) ∧ L = [] ∧ B.U.heap = h) ∧ B.locs = P.locs ++ L ∧ B.cells = P.cells + 0 ∧ B.slots = P.slots + 0) := by
  obtain ⟨A, K1, K2, K3, K4, K5, K6⟩ := K
  have hcod := hc.cod (by omega) K3 K5
  intro m meth c P g ig mk a X hg hsize hdg hW hn hp'
  obtain ⟨rfl, rfl, r1, r2⟩ := hp'
  have al : Z.vm.Alike P.U.vm := hZ.alike.trans X.warmed.alike
  obtain ⟨D, fV, fC, hB, F1, F2, g1, g2, -, -⟩ := strObj wi al E V C
  have hx : Txt x t A cd cs.length (fun j => cs.getD j 0) P.U := ⟨⟨_, hB.2.2.1, D, hB.1, rfl, by cases q : D.vm <;> first | rfl | exact absurd q (hB.2.1.2 _)⟩, Has.of hB F1 g1, Has.of hB F2 g2, ⟨K1.1, State.isArrayOf_alike al K1.2.1, K1.2.2, by rcases hcod with ⟨-, q, -⟩ | ⟨-, q, -⟩ <;> omega⟩, hcod, fun j hj => by
    have e : cs.getD j 0 = cs[j] := by simp [List.getD_eq_getElem?_getD, hj]
    show ¬ cs.getD j 0 < 0 ∧ ¬ 65535 < cs.getD j 0
    rw [e]; exact hb _ (List.getElem_mem _)⟩
  obtain ⟨v, B, X', ⟨⟨hv, hh⟩, hl, hk, hs⟩, st⟩ := Len.pays x t A cd cs.length (fun j => cs.getD j 0) z (tabLen_of (movedLen hZ hw)) hfr hlo m meth c P g ig mk _ X hg hsize hdg hW hn ⟨r1, r2, rfl, hx, sta_is al S, hz⟩
  exact ⟨v, B, X', ⟨[], ⟨hv, rfl, hh⟩, hl, hk, hs⟩, st⟩
end StrChars.Road
namespace StrChars.Road
open Jvm Sem ClassFile Op Lib Jvm.Stand Jvm.Free Jvm.Free.XT
open Jvm.Lib.Cold (StaticIs)
/-- the road's facts of a String, as the laws ask it -/
theorem txt_of {Z U : State} {a0 : Array Value} {kI : Nat} (wi : (Jvm.Cond.instantiable ST kI).before a0 Z = true) (al : Z.vm.Alike U.vm) {x t : Addr} {kb : ClassId} {cs : List Int32} {cd N2 : Int32} {vs : List Value} (E : RoadKit.Exa Z U.heap x ST) (V : RoadKit.Fld Z U.heap x ST "value" "[B" (.ref t)) (C : RoadKit.Fld Z U.heap x ST "coder" "B" (.int cd)) (K : RoadKit.Arv Z U.heap t kb .byte N2 vs (.int 0)) (hc : CodA cs cd N2 vs) (hb : ∀ c ∈ cs, ¬ c < 0 ∧ ¬ (65535 : Int32) < c) (l2 : cs.length ≤ 4000) :
    ∃ A, Txt x t A cd cs.length (fun j => cs.getD j 0) U := by
  obtain ⟨A, K1, K2, K3, K4, K5, K6⟩ := K
  have hcod := hc.cod (by omega) K3 K5
  obtain ⟨D, fV, fC, hB, F1, F2, g1, g2, -, -⟩ := strObj wi al E V C
  exact ⟨A, ⟨_, hB.2.2.1, D, hB.1, rfl, by cases q : D.vm <;> first | rfl | exact absurd q (hB.2.1.2 _)⟩, Has.of hB F1 g1, Has.of hB F2 g2, ⟨K1.1, State.isArrayOf_alike al K1.2.1, K1.2.2, by rcases hcod with ⟨-, q, -⟩ | ⟨-, q, -⟩ <;> omega⟩, hcod, fun j hj => by
    have e : cs.getD j 0 = cs[j] := by simp [List.getD_eq_getElem?_getD, hj]
    show ¬ cs.getD j 0 < 0 ∧ ¬ 65535 < cs.getD j 0
    rw [e]; exact hb _ (List.getElem_mem _)⟩
end StrChars.Road
namespace StrChars
open Jvm Sem ClassFile Op Lib Jvm.Stand Jvm.Free.XT Jvm.Free.ALB Jvm.Free.JM Jvm.Free
open Jvm.Lib.Cold (StaticIs)
namespace ChN
def yN : MethodName := ⟨"java/lang/String", "charAt", "(I)C"⟩
abbrev yB : ByteArray := jdk_42_method_56_code
theorem d0 : decode yB 0 = .ok (.aload_n 0, 1) := by decide +kernel
theorem d1 : decode yB 1 = .ok (.invokevirtual 492, 3) := by decide +kernel
theorem d4 : decode yB 4 = .ok (.ifCond (.eq) 12, 3) := by decide +kernel
theorem d7 : decode yB 7 = .ok (.aload_n 0, 1) := by decide +kernel
theorem d8 : decode yB 8 = .ok (.getfield 9, 3) := by decide +kernel
theorem d11 : decode yB 11 = .ok (.iload_n 1, 1) := by decide +kernel
theorem d12 : decode yB 12 = .ok (.invokestatic 495, 3) := by decide +kernel
theorem d15 : decode yB 15 = .ok (.ireturn, 1) := by decide +kernel
def site : List Cond := [.fieldLink "java/lang/String" 9 "java/lang/String" "value" "[B", IsL.tab, LChA.tab] ++ virtW "java/lang/String" 492 "java/lang/String" IsL.yN IsL.yN ++ staticW "java/lang/String" 495 LChA.yN
def tab : Cond := tabOf yN yB 2 (some .char) site
def P (x t : Addr) (V : Cell) (n : Nat) (f : Nat → Int32) (z : Int32) (fm : Value) (i : Nat) (args : Array Value) (s : State) : Prop := args = #[.ref x, .int (Int32.ofNat i)] ∧ Txt x t V 0 n f s ∧ i < n ∧ StaticIs s "java/lang/String" "COMPACT_STRINGS" "Z" (.int z) ∧ ¬ z = 0 ∧ StaticIs s "jdk/internal/util/Preconditions" "SIOOBE_FORMATTER" "Ljava/util/function/BiFunction;" fm ∧ fm.isRef = true
def E (f : Nat → Int32) (i : Nat) (r : Option Value) (s u : State) : Prop := XT.PureE (some (.int (f i))) r s u
/-- charAt(i) of a Latin-1 String of n chars, i < n: f i -/
theorem law (l : Launch) (x t : Addr) (V : Cell) (n : Nat) (f : Nat → Int32) (z : Int32) (fm : Value) (i : Nat) : Law l yN 2 1 3 40 yB 2 (some .char) site (P x t V n f z fm i) (E f i) [] 0 0 := by
  refine Law.of_walk (plainFor_of_name (by decide +kernel)) (by decide +kernel) (by decide +kernel) (by decide) (fun _ _ h => by rw [h.1]; rfl) (fun _ U U' hal hh h => ⟨h.1, h.2.1.mv hal hh, h.2.2.1, h.2.2.2.1.there hal hh, h.2.2.2.2.1, h.2.2.2.2.2.1.there hal hh, h.2.2.2.2.2.2⟩) (fun r U U' V V' h1 hal h2 h => XT.PureE.mv r U U' V V' h1 hal h2 h) ?_
  intro p e s m args below meth c s₁ X0 hexec hbytes hml hret hlk hnm hown hh0 W hP
  obtain ⟨rfl, hx, hi, s1, hz, s3, rf⟩ := hP
  have v31 := hx.2.2.2.1.2.2.2
  have hr := hx.2.2.2.2.2 i hi
  have hx0 := hx.mv X0.warmed.alike hh0
  have c1 : Steps p.tables e below (s₁.setTop (entryFrame m #[.ref x, .int (Int32.ofNat i)] 2)) (s₁.setTop (mkF m 1 #[.val (.ref x), .val (.int (Int32.ofNat i))] [.ref x])) := Steps.trans (entry rfl) (by
    show Steps p.tables e below (s₁.setTop (mkF m 0 #[.val (.ref x), .val (.int (Int32.ofNat i))] [])) _
    refine XS.aloadN X0.here hexec rfl (hb hbytes d0) rfl rfl ?_
    exact Steps.refl _)
  obtain ⟨v2, T2, X2, E2, g2⟩ := X0.callV hexec (IsL.law l x 0 z) hown (wks W (virtW "java/lang/String" 492 "java/lang/String" IsL.yN IsL.yN)) rfl (by decide) (wk W IsL.tab) (W := 0) (Nat.le_of_ble_eq_true rfl) (Nat.le_of_ble_eq_true rfl) (Nat.le_refl _) (Nat.le_refl _) (hx0.1.fc X0.warmed.alike) hx0.1.is (g := (mkF m 1 #[.val (.ref x), .val (.int (Int32.ofNat i))] [.ref x])) rfl (by rw [hml]; rfl) c1 (argsL := []) (rest := []) rfl rfl (by show 2 * 0 + 0 ≤ _; decide) (hb hbytes d1) (⟨rfl, hx0.2.2.1, hx.2.2.2.2.1.cd, s1.there X0.warmed.alike hh0, hz⟩)
  obtain ⟨rfl, q2⟩ := E2
  have hh2 := q2.trans hh0
  have hx2 := hx.mv X2.warmed.alike hh2
  obtain ⟨-, k1, k2⟩ | ⟨k0, -⟩ := hx.2.2.2.2.1
  · have c3 : Steps p.tables e below (s₁.setTop (entryFrame m #[.ref x, .int (Int32.ofNat i)] 2)) (T2.setTop (mkF m 8 #[.val (.ref x), .val (.int (Int32.ofNat i))] [.ref x])) := Steps.trans g2 (by
      refine XS.ifNo X2.here hexec rfl (hb hbytes d4) rfl (i0_eq_f (by decide)) ?_
      refine XS.aloadN X2.here hexec rfl (hb hbytes d7) rfl rfl ?_
      exact Steps.refl _)
    obtain ⟨T4, X4, q4, st4⟩ := X2.hget hexec hown (wk W (.fieldLink "java/lang/String" 9 "java/lang/String" "value" "[B")) hx2.2.1 (g := (mkF m 8 #[.val (.ref x), .val (.int (Int32.ofNat i))] [.ref x])) rfl (rest := []) rfl (hb hbytes d8)
    have hh4 := q4.trans hh2
    have c5 : Steps p.tables e below (s₁.setTop (entryFrame m #[.ref x, .int (Int32.ofNat i)] 2)) (T4.setTop (mkF m 12 #[.val (.ref x), .val (.int (Int32.ofNat i))] [.int (Int32.ofNat i), .ref t])) := (c3.trans (st4 _ (Steps.refl _))).trans (by
      refine XS.iloadN X4.here hexec rfl (hb hbytes d11) rfl ?_
      exact Steps.refl _)
    obtain ⟨v6, T6, X6, E6, g6⟩ := X4.callS hexec (LChA.law l t V i (lo8 (f i)) fm) hown (wks W (staticW "java/lang/String" 495 LChA.yN)) (wk W LChA.tab) (W := 0) (Nat.le_of_ble_eq_true rfl) (Nat.le_of_ble_eq_true rfl) (Nat.le_refl _) (Nat.le_refl _) (g := (mkF m 12 #[.val (.ref x), .val (.int (Int32.ofNat i))] [.int (Int32.ofNat i), .ref t])) rfl (by rw [hml]; rfl) c5 (argsL := [.ref t, .int (Int32.ofNat i)]) (rest := []) rfl rfl (by show 2 * 0 + 0 ≤ _; decide) (hb hbytes d12) (⟨rfl, hx.2.2.2.1.mv X4.warmed.alike hh4, (k2 i hi).1, s3.there X4.warmed.alike hh4, rf⟩)
    obtain ⟨rfl, q6⟩ := E6
    rw [chr8_lo8 hr.1 (k2 i hi).2] at g6
    exact ⟨T6, some (.int (f i)), _, _, _, X6, rfl, rfl, rfl, (fun h => by cases h), ⟨rfl, q6.trans hh4⟩, fun fs hl => Steps.trans g6 (X6.ireturnOut hexec hret (narrow_ch hr.1 hr.2) (Or.inr (Or.inr (Or.inr (Or.inl rfl)))) (hb hbytes d15) hl)⟩
  · exact absurd k0 (by decide)
theorem pays {l : Launch} {R : Room} {p : Program} {e : Env} {below : List Frame} {s : State} {sargs : Array Value} {len W : Nat} (x t : Addr) (V : Cell) (n : Nat) (f : Nat → Int32) (z : Int32) (fm : Value) (i : Nat) (htab : tab.before sargs s = true) (hfr : 4 ≤ R.frames) (hlo : W + 53 ≤ R.locals) :
    Back l R p e below s sargs yN len W (fun A₁ a₁ => A₁.cells + 0 ≤ R.cells ∧ A₁.slots + 0 ≤ R.slots ∧ P x t V n f z fm i a₁ A₁.U) (fun A₁ _ v₁ B₁ => E f i v₁ A₁.U B₁.U ∧ B₁.locs = A₁.locs ++ [] ∧ B₁.cells = A₁.cells + 0 ∧ B₁.slots = A₁.slots + 0) :=
  (law l x t V n f z fm i).pays htab hfr (by omega)
end ChN
end StrChars
namespace StrChars.Road
open Jvm Sem ClassFile Op Lib Jvm.Stand Jvm.Free Jvm.Free.XT
open Jvm.Lib.Cold (StaticIs)
/-- the words of String.charAt(int), the Latin-1 road alone -/
abbrev wordsChN : List Jvm.Cond := [.code ChN.yN ChN.yB 2 (some .char), .initialized ST, .fieldLink ST 9 ST "value" "[B", .fieldLink ST 38 ST "COMPACT_STRINGS" "Z", .fieldLink ST 15 ST "coder" "B", .code IsL.yN IsL.yB 1 (some .boolean), .methodLink ST 492 IsL.yN, .declares IsL.yN, .selects ST IsL.yN IsL.yN, .instanceMethod IsL.yN,
  .methodLink ST 495 LChA.yN, .static LChA.yN, .code LChA.yN LChA.yB 2 (some .char), .initialized "java/lang/StringLatin1", .methodLink "java/lang/StringLatin1" 9 JO.Str_checkIndex.yN, .static JO.Str_checkIndex.yN, .code JO.Str_checkIndex.yN JO.Str_checkIndex.yB 2 none,
  .fieldLink ST 1053 "jdk/internal/util/Preconditions" "SIOOBE_FORMATTER" "Ljava/util/function/BiFunction;", .methodLink ST 1059 JC.PreCheck.yN, .static JC.PreCheck.yN, .code JC.PreCheck.yN JC.PreCheck.yB 3 (some .int), .initialized "jdk/internal/util/Preconditions"]
theorem tabChN_of {a : Array Value} {s : State} (h : ∀ w ∈ wordsChN, w.before a s = true) : ChN.tab.before a s = true := by
  have hp : JC.PreCheck.tab.before a s = true := unparts (wk h (.code JC.PreCheck.yN JC.PreCheck.yB 3 (some .int))) (wks h (.initialized JC.PreCheck.yN.cls :: JC.PreCheck.site))
  have qk := consq hp h
  have hk : JO.Str_checkIndex.tab.before a s = true := unparts (wk qk (.code JO.Str_checkIndex.yN JO.Str_checkIndex.yB 2 none)) (wks qk (.initialized JO.Str_checkIndex.yN.cls :: JO.Str_checkIndex.site))
  have ql := consq hk h
  have hl : LChA.tab.before a s = true := unparts (wk ql (.code LChA.yN LChA.yB 2 (some .char))) (wks ql (.initialized LChA.yN.cls :: LChA.site))
  have hi : IsL.tab.before a s = true := unparts (wk h (.code IsL.yN IsL.yB 1 (some .boolean))) (wks h (.initialized IsL.yN.cls :: IsL.site))
  have q := consq hi (consq hl h)
  exact unparts (wk q (.code ChN.yN ChN.yB 2 (some .char))) (wks q (.initialized ChN.yN.cls :: ChN.site))
theorem movedChN {Z s : State} {a0 args : Array Value} (hZ : Z.Warmed39 s.vm) (hw : ∀ d ∈ wordsChN, d.before a0 Z = true) : ∀ d ∈ wordsChN, d.before args s = true := fun d hd => by
  have t : ∀ d ∈ wordsChN, (d.onTables && d.keepsFace) = true := by decide +kernel
  exact RoadKit.mv hZ (hw d hd) (t d hd)
/-- **charAt(i) OF A LATIN-1 STRING**, i < n: the char -/
theorem chN {p : Program} {l : Launch} {e : Env} {R : Room} {s : State} {args : Array Value} {below : List Frame} {len W : Nat} {Z : State} {a0 : Array Value} {h : Heap} (hZ : Z.Warmed39 s.vm) (hw : ∀ d ∈ wordsChN, d.before a0 Z = true) {kI : Nat} (wi : (Jvm.Cond.instantiable ST kI).before a0 Z = true)
    {x t : Addr} {kb : ClassId} {cs : List Int32} {N2 z : Int32} {vs : List Value} {fm : Value} {i : Nat} {j : Int32} (E : RoadKit.Exa Z h x ST) (V : RoadKit.Fld Z h x ST "value" "[B" (.ref t)) (C : RoadKit.Fld Z h x ST "coder" "B" (.int 0)) (K : RoadKit.Arv Z h t kb .byte N2 vs (.int 0)) (hc : CodA cs 0 N2 vs) (hb : ∀ c ∈ cs, ¬ c < 0 ∧ ¬ (65535 : Int32) < c)
    (S : RoadKit.Sta Z h ST "COMPACT_STRINGS" "Z" (.int z)) (hz : ¬ z = 0) (F : RoadKit.Sta Z h "jdk/internal/util/Preconditions" "SIOOBE_FORMATTER" "Ljava/util/function/BiFunction;" fm) (rf : fm.isRef = true) (l2 : cs.length ≤ 4000) (hi : i < cs.length) (hj : j = Int32.ofNat i) (hfr : 4 ≤ R.frames) (hlo : W + 53 ≤ R.locals) :
    Back l R p e below s args (⟨"java/lang/String", "charAt", "(I)C"⟩ : MethodName) len W (fun P a => a = #[.ref x, .int j] ∧ P.U.heap = h ∧ P.cells + 0 ≤ R.cells ∧ P.slots + 0 ≤ R.slots)
      (fun P _ v B => ∃ L, (v = some (.int (cs.getD i 0)) ∧ L = [] ∧ B.U.heap = h) ∧ B.locs = P.locs ++ L ∧ B.cells = P.cells + 0 ∧ B.slots = P.slots + 0) := by
  subst hj
  intro m meth c P g ig mk a X hg hsize hdg hW hn hp'
  obtain ⟨rfl, rfl, r1, r2⟩ := hp'
  have al : Z.vm.Alike P.U.vm := hZ.alike.trans X.warmed.alike
  obtain ⟨A, hx⟩ := txt_of wi al E V C K hc hb l2
  obtain ⟨v, B, X', ⟨⟨hv, hh⟩, hl, hk, hs⟩, st⟩ := ChN.pays x t A cs.length (fun j => cs.getD j 0) z fm i (tabChN_of (movedChN hZ hw)) hfr hlo m meth c P g ig mk _ X hg hsize hdg hW hn ⟨r1, r2, rfl, hx, hi, sta_is al S, hz, sta_is al F, rf⟩
  exact ⟨v, B, X', ⟨[], ⟨hv, rfl, hh⟩, hl, hk, hs⟩, st⟩
/-- what backV says of its String, as the contracts of this text ask it: cs's low bytes, coder 0 -/
theorem codOf {cs : List Int32} {n : Nat} (hn : cs.length = n) (hb : ∀ c ∈ cs, ¬ 255 < c) : CodA cs 0 (Int32.ofNat n) ((cs.map lo8).map Value.int) := Or.inl ⟨rfl, by rw [hn], by simp [List.map_map, Function.comp_def], hb⟩
end StrChars.Road
end Jvm.Pilot.@@N@@
namespace Jvm.Pilot.@@N@@
open Jvm Jvm.ClassFile Sem Op Lib Jvm.Free Jvm.Stand Jvm.LawKit Jvm.RoadKit Bundle Jvm.Pilot.@@N@@.Jvm.D
namespace Wd
section Strs
variable {p : Program} {l : Launch} {e : Env} {R : Room} {s : State} {args : Array Value} {below : List Frame} {Z : State} {EL : List (String × Nat)} {n0 : Nat} {h h' : Heap} {WL FL : List Addr} {a0 : Array Value} {len W : Nat} {x t : Addr} {cs : List Int32}
abbrev lat (cs : List Int32) : List Value := (cs.map fun c => c.toInt8.toInt32).map Value.int
/-- x is a String of the chars cs, each at most 255; t its bytes -/
def StrL (Z : State) (h : Heap) (x t : Addr) (cs : List Int32) : Prop :=
  Exa Z h x "java/lang/String" ∧ Fld Z h x "java/lang/String" "value" "[B" (.ref t) ∧ Fld Z h x "java/lang/String" "coder" "B" (.int 0) ∧ (∃ kb, Arv Z h t kb .byte (Int32.ofNat cs.length) (lat cs) (.int 0)) ∧ (∀ c ∈ cs, ¬ c < 0 ∧ ¬ (255 : Int32) < c) ∧ cs.length ≤ 4000
theorem StrL.ext (S : StrL Z h x t cs) (E : Ext h h') : StrL Z h' x t cs := by
  obtain ⟨s1, s2, s3, ⟨kb, s4⟩, s5⟩ := S; exact ⟨s1.ext E, s2.ext E, s3.ext E, ⟨kb, s4.ext E⟩, s5⟩
theorem StrL.keep {ws : List Addr} (S : StrL Z h x t cs) (K : Keep h h' ws) (h1 : x ∉ ws) (h2 : t ∉ ws) : StrL Z h' x t cs := by
  obtain ⟨s1, s2, s3, ⟨kb, s4⟩, s5⟩ := S; exact ⟨s1.keep K, s2.keep K h1, s3.keep K h1, ⟨kb, s4.keep K h2⟩, s5⟩
theorem StrL.wr {a : Addr} {sl : Nat} {v : Value} (S : StrL Z h x t cs) (W : Wr h h' a sl v) (h1 : x ≠ a) (h2 : t ≠ a) : StrL Z h' x t cs := by
  obtain ⟨s1, s2, s3, ⟨kb, s4⟩, s5⟩ := S; exact ⟨s1.wr W, s2.other W (Or.inl h1), s3.other W (Or.inl h1), ⟨kb, s4.other W h2⟩, s5⟩
/-- what new String(chars) leaves -/
def QNew (Z : State) (x : Addr) (cs : List Int32) (h : Heap) (v : Option Value) (h' : Heap) (WL' FL' : List Addr) : Prop := ∃ t : Addr, v = none ∧ WL' = [] ∧ FL' = [t] ∧ Keep h h' [x] ∧ StrL Z h' x t cs
theorem StrL.up (S : StrL Z h x t cs) : ∀ c ∈ cs, ¬ c < 0 ∧ ¬ (65535 : Int32) < c := fun c hc => ⟨(S.2.2.2.2.1 c hc).1, fun q => (S.2.2.2.2.1 c hc).2 (by rw [Int32.lt_iff_toInt_lt] at q ⊢; have e1 : (65535 : Int32).toInt = 65535 := rfl; have e2 : (255 : Int32).toInt = 255 := rfl; omega)⟩
theorem StrL.cod (S : StrL Z h x t cs) : StrChars.Road.CodA cs 0 (Int32.ofNat cs.length) (lat cs) := StrChars.Road.codOf rfl (fun c hc => (S.2.2.2.2.1 c hc).2)
theorem pay_new (hw : ∀ d ∈ StrChars.Road.words, d.before a0 Z = true) {kI : Nat} (wi : (Jvm.Cond.instantiable "java/lang/String" kI).before a0 Z = true) {b : Addr} {kC : ClassId} {d v0 c0 : Value} {z N : Int32} {n : Nat} (ge : n0 ≤ x) (ge' : n0 ≤ h.size) (hx : x ∈ WL) (E : Exa Z h x "java/lang/String") (V : Fld Z h x "java/lang/String" "value" "[B" v0) (C : Fld Z h x "java/lang/String" "coder" "B" c0) (A : Arv Z h b kC .char N (cs.map Value.int) d) (S : Sta Z h "java/lang/String" "COMPACT_STRINGS" "Z" (.int z)) (hz : ¬ z = 0)
    (hn : cs.length = n) (hN : N = Int32.ofNat n) (l0 : 0 < n) (l2 : n ≤ 4000) (hp : ∀ c ∈ cs, ¬ c < 0 ∧ ¬ (255 : Int32) < c) (hfr : 4 ≤ R.frames) (hlo : W + 65 ≤ R.locals) :
    Pay l R p e below s args Z EL n0 (⟨"java/lang/String", "<init>", "([C)V"⟩ : MethodName) len W #[.ref x, .ref b] h WL FL 1 n (QNew Z x cs h) :=
  Pay.ofN (fun vm0 hZ => StrChars.Road.backV (n0 := n0) hZ hw wi ge ge' E V C A S hz hn hN l0 l2 hp rfl hfr hlo) (fun v h' L ⟨q1, q2, q3, q4, q5, t, kb, q6, q7, q8, q9, q10⟩ => by
    refine ⟨q2, [x], [t], q3, allS hx all0, allS ⟨q7, q10.lt⟩ all0, t, q1, rfl, rfl, q3, q4, q9, q5, ⟨kb, ?_⟩, hp, by omega⟩
    rw [hN] at q10; rw [hn]; exact q10)
theorem pay_len (hw : ∀ d ∈ StrChars.Road.wordsLen, d.before a0 Z = true) {kI : Nat} (wi : (Jvm.Cond.instantiable "java/lang/String" kI).before a0 Z = true) {z : Int32} (S : StrL Z h x t cs) (O : Sta Z h "java/lang/String" "COMPACT_STRINGS" "Z" (.int z)) (hz : ¬ z = 0) (hfr : 2 ≤ R.frames) (hlo : W + 25 ≤ R.locals) :
    Pay l R p e below s args Z EL n0 (⟨"java/lang/String", "length", "()I"⟩ : MethodName) len W #[.ref x] h WL FL 0 0 (fun v h' WL' FL' => v = some (.int (Int32.ofNat cs.length)) ∧ WL' = [] ∧ FL' = [] ∧ h' = h) := by
  have up := S.up; have cd := S.cod
  obtain ⟨s1, s2, s3, ⟨kb, s4⟩, s5, s6⟩ := S
  exact Pay.ofN (Qn := fun v h' L => v = some (.int (Int32.ofNat cs.length)) ∧ L = [] ∧ h' = h) (fun vm0 hZ => StrChars.Road.lenW hZ hw wi s1 s2 s3 s4 cd up O hz s6 hfr hlo) (fun v h' L ⟨q1, q2, q3⟩ => by
    subst q2 q3
    exact ⟨Fr.nil _, [], [], Keep.refl _ _, all0, all0, q1, rfl, rfl, rfl⟩)
theorem pay_chr (hw : ∀ d ∈ StrChars.Road.wordsChN, d.before a0 Z = true) {kI : Nat} (wi : (Jvm.Cond.instantiable "java/lang/String" kI).before a0 Z = true) {z : Int32} {fm : Value} {i : Nat} {j : Int32} (S : StrL Z h x t cs) (O : Sta Z h "java/lang/String" "COMPACT_STRINGS" "Z" (.int z)) (hz : ¬ z = 0) (F : Sta Z h "jdk/internal/util/Preconditions" "SIOOBE_FORMATTER" "Ljava/util/function/BiFunction;" fm) (rf : fm.isRef = true) (hi : i < cs.length) (hj : j = Int32.ofNat i) (hfr : 4 ≤ R.frames) (hlo : W + 53 ≤ R.locals) :
    Pay l R p e below s args Z EL n0 (⟨"java/lang/String", "charAt", "(I)C"⟩ : MethodName) len W #[.ref x, .int j] h WL FL 0 0 (fun v h' WL' FL' => v = some (.int (cs.getD i 0)) ∧ WL' = [] ∧ FL' = [] ∧ h' = h) := by
  have up := S.up; have cd := S.cod
  obtain ⟨s1, s2, s3, ⟨kb, s4⟩, s5, s6⟩ := S
  exact Pay.ofN (Qn := fun v h' L => v = some (.int (cs.getD i 0)) ∧ L = [] ∧ h' = h) (fun vm0 hZ => StrChars.Road.chN hZ hw wi s1 s2 s3 s4 cd up O hz F rf s6 hi hj hfr hlo) (fun v h' L ⟨q1, q2, q3⟩ => by
    subst q2 q3
    exact ⟨Fr.nil _, [], [], Keep.refl _ _, all0, all0, q1, rfl, rfl, rfl⟩)
theorem lat_len : (lat cs).length = cs.length := by simp [lat]
theorem lat_app (cs ds : List Int32) : lat (cs ++ ds) = lat cs ++ lat ds := by simp [lat]
theorem oN {n : Nat} (h : n < 2147483648) : (Int32.ofNat n).toInt = (n : Int) := Int32.toInt_ofNat_small h
theorem oC {n : Nat} (h : n < 2147483648) : (Int32.ofNat n).toNatClampNeg = n := by simp only [Int32.toNatClampNeg, oN h]; rfl
theorem oNn {n : Nat} (h : n < 2147483648) : ¬ Int32.ofNat n < 0 := by
  rw [Int32.lt_iff_toInt_lt, oN h]; have e2 : (0 : Int32).toInt = 0 := rfl; omega
theorem oLt {a b : Nat} (h1 : a < 2147483648) (h2 : b < 2147483648) : Int32.ofNat a < Int32.ofNat b ↔ a < b := by
  rw [Int32.lt_iff_toInt_lt, oN h1, oN h2]; omega
theorem oEq {a b : Nat} (h1 : a < 2147483648) (h2 : b < 2147483648) : Int32.ofNat a = Int32.ofNat b ↔ a = b := by
  rw [← Int32.toInt_inj, oN h1, oN h2]; omega
theorem oapp (cs ds : List Int32) : Int32.ofNat cs.length + Int32.ofNat ds.length = Int32.ofNat (cs ++ ds).length := by rw [List.length_append, Int32.ofNat_add]
theorem oNo {a b : Nat} (h : a ≤ b) (hb : b < 2147483648) : ¬ (0 : Int32) < Int32.ofNat a - Int32.ofNat b := by
  have q := c_isub (Int32.ofNat a) (Int32.ofNat b)
  have r := rng32 (Int32.ofNat a - Int32.ofNat b)
  rw [oN (show a < 2147483648 by omega), oN hb] at q
  rw [Int32.lt_iff_toInt_lt]; have e2 : (0 : Int32).toInt = 0 := rfl
  omega
theorem shl0 (x : Int32) : x <<< ((0 : Int32) &&& 31) = x := by
  have e : ((0 : Int32) &&& 31) = 0 := rfl
  rw [e]; simp
theorem shr0 (x : Int32) : x >>> ((0 : Int32) &&& 31) = x := by
  have e : ((0 : Int32) &&& 31) = 0 := rfl
  rw [e]; simp
/-- x is a StringBuilder that holds the chars cs, each at most 255; t its bytes, cap many -/
def SB (Z : State) (h : Heap) (x t : Addr) (cap : Nat) (cs : List Int32) : Prop :=
  Exa Z h x "java/lang/StringBuilder" ∧ Fld Z h x "java/lang/AbstractStringBuilder" "value" "[B" (.ref t) ∧ Fld Z h x "java/lang/AbstractStringBuilder" "coder" "B" (.int 0) ∧ Fld Z h x "java/lang/AbstractStringBuilder" "count" "I" (.int (Int32.ofNat cs.length)) ∧ (∃ kb, Arv Z h t kb .byte (Int32.ofNat cap) (lat cs) (.int 0)) ∧ (∀ c ∈ cs, ¬ c < 0 ∧ ¬ (255 : Int32) < c) ∧ cs.length ≤ cap ∧ cap ≤ 4000 ∧ Exa Z h t "[B"
theorem SB.ext {cap : Nat} (S : SB Z h x t cap cs) (E : Ext h h') : SB Z h' x t cap cs := by
  obtain ⟨s1, s2, s3, s4, ⟨kb, s5⟩, s6, s7, s8, s9⟩ := S; exact ⟨s1.ext E, s2.ext E, s3.ext E, s4.ext E, ⟨kb, s5.ext E⟩, s6, s7, s8, s9.ext E⟩
theorem SB.keep {cap : Nat} {ws : List Addr} (S : SB Z h x t cap cs) (K : Keep h h' ws) (h1 : x ∉ ws) (h2 : t ∉ ws) : SB Z h' x t cap cs := by
  obtain ⟨s1, s2, s3, s4, ⟨kb, s5⟩, s6, s7, s8, s9⟩ := S; exact ⟨s1.keep K, s2.keep K h1, s3.keep K h1, s4.keep K h1, ⟨kb, s5.keep K h2⟩, s6, s7, s8, s9.keep K⟩
theorem SB.wr {cap : Nat} {a : Addr} {sl : Nat} {v : Value} (S : SB Z h x t cap cs) (W : Wr h h' a sl v) (h1 : x ≠ a) (h2 : t ≠ a) : SB Z h' x t cap cs := by
  obtain ⟨s1, s2, s3, s4, ⟨kb, s5⟩, s6, s7, s8, s9⟩ := S; exact ⟨s1.wr W, s2.other W (Or.inl h1), s3.other W (Or.inl h1), s4.other W (Or.inl h1), ⟨kb, s5.other W h2⟩, s6, s7, s8, s9.wr W⟩
section Copy
variable {m : MethodId} {meth : Method} {c : Code} {T : State} {cells slots : Nat} {own : String} {WL0 FL0 : List Addr} {rm : Room} {Q : Option Value → Heap → List Addr → List Addr → Prop} {pc : Nat} {Ls : Array Slot} {rest : List Value}
/-- arraycopy of the bytes of ds behind those of cs -/
theorem WS.cpL (X : WS p l e R s m args below meth c Z EL n0 own T h WL FL cells slots) (hx : p.tables.exec = Jvm.exec) {index : Nat} (w1 : (Jvm.Cond.methodLink own index Jvm.Stand.acN).before a0 Z = true) (w2 : (Jvm.Cond.native Jvm.Stand.acN).before a0 Z = true) (w3 : (Jvm.Cond.static Jvm.Stand.acN).before a0 Z = true) (w4 : (Jvm.Cond.initialized "java/lang/System").before a0 Z = true)
    {a b : Addr} {ka kb : ClassId} {capA cap : Nat} {cs ds : List Int32} (A : Arv Z h a ka .byte (Int32.ofNat capA) (lat ds) (.int 0)) (B : Arv Z h b kb .byte (Int32.ofNat cap) (lat cs) (.int 0))
    (hA : ds.length ≤ capA) (hB : cs.length + ds.length ≤ cap) (hc1 : capA ≤ 4000) (hc2 : cap ≤ 4000) (hb : b ∈ WL)
    (hsize : Ls.size = c.maxLocals) (hd : decode c.code pc = .ok (.invokestatic index, 3)) (hf : 1 ≤ R.frames) {W : Nat} (hW : (rest.map fun v => v.category).sum ≤ W) (hlo : W + 18 ≤ R.locals)
    (k : ∀ T' h', WS p l e R s m args below meth c Z EL n0 own T' h' WL FL cells slots → Keep h h' [b] → Arv Z h' b kb .byte (Int32.ofNat cap) (lat (cs ++ ds)) (.int 0) → Wo p e s below Z EL n0 WL0 FL0 rm Q T' (mkF m (pc + 3) Ls rest)) :
    Wo p e s below Z EL n0 WL0 FL0 rm Q T (mkF m pc Ls (.int (Int32.ofNat ds.length) :: .int (Int32.ofNat cs.length) :: .ref b :: .int 0 :: .ref a :: rest)) := by
  have z0 : (0 : Int32).toNatClampNeg = 0 := rfl
  have e1 : (Int32.ofNat ds.length).toNatClampNeg = ds.length := oC (by omega)
  have e2 : (Int32.ofNat cs.length).toNatClampNeg = cs.length := oC (by omega)
  have e3 : (Int32.ofNat cap).toNatClampNeg = cap := oC (by omega)
  have e4 : (Int32.ofNat capA).toNatClampNeg = capA := oC (by omega)
  have B' := B.pad (pad_rep (lat cs) (.int 0) (cap - cs.length))
  refine X.cpA hx w1 w2 w3 w4 A B' (Or.inl ⟨rfl, rfl⟩) (us := lat ds) (vr := lat (cs ++ ds) ++ List.replicate (cap - cs.length - ds.length) (.int 0)) (by decide) (oNn (by omega)) (oNn (by omega)) (by rw [z0, e1, e4]; omega) (by rw [e1, e2, e3]; omega) ?_ (by rw [e1, e2]; simp [lat_len]; omega) ?_ hb hsize hd hf hW hlo (fun T' h' X' K V => k T' h' X' K (V.pad (fun i => (pad_rep _ _ _ i).symm)))
  · rw [e1, z0]
    apply List.ext_getElem
    · simp [lat_len]
    · intro i h1 h2
      simp only [List.getElem_map, List.getElem_range, Nat.zero_add]
      rw [List.getD_eq_getElem?_getD, List.getElem?_eq_getElem h1]; simp [lat]
  · rw [e1, e2]
    have l1 : (lat cs).length = cs.length := lat_len
    rw [List.take_left' l1, lat_app, List.append_assoc, List.append_assoc]
    congr 2
    rw [List.drop_append, l1, List.drop_eq_nil_of_le (by rw [l1]; omega), List.nil_append, List.drop_replicate]
    congr 1; omega
/-- a byte array, copied whole into a longer fresh one -/
theorem WS.cpG (X : WS p l e R s m args below meth c Z EL n0 own T h WL FL cells slots) (hx : p.tables.exec = Jvm.exec) {index : Nat} (w1 : (Jvm.Cond.methodLink own index Jvm.Stand.acN).before a0 Z = true) (w2 : (Jvm.Cond.native Jvm.Stand.acN).before a0 Z = true) (w3 : (Jvm.Cond.static Jvm.Stand.acN).before a0 Z = true) (w4 : (Jvm.Cond.initialized "java/lang/System").before a0 Z = true)
    {a b : Addr} {ka kb : ClassId} {cap cap2 : Nat} {cs : List Int32} (A : Arv Z h a ka .byte (Int32.ofNat cap) (lat cs) (.int 0)) (B : Arv Z h b kb .byte (Int32.ofNat cap2) [] (.int 0))
    (hA : cs.length ≤ cap) (hB : cap ≤ cap2) (hc2 : cap2 ≤ 4000) (hb : b ∈ WL)
    (hsize : Ls.size = c.maxLocals) (hd : decode c.code pc = .ok (.invokestatic index, 3)) (hf : 1 ≤ R.frames) {W : Nat} (hW : (rest.map fun v => v.category).sum ≤ W) (hlo : W + 18 ≤ R.locals)
    (k : ∀ T' h', WS p l e R s m args below meth c Z EL n0 own T' h' WL FL cells slots → Keep h h' [b] → Arv Z h' b kb .byte (Int32.ofNat cap2) (lat cs) (.int 0) → Wo p e s below Z EL n0 WL0 FL0 rm Q T' (mkF m (pc + 3) Ls rest)) :
    Wo p e s below Z EL n0 WL0 FL0 rm Q T (mkF m pc Ls (.int (Int32.ofNat cap) :: .int 0 :: .ref b :: .int 0 :: .ref a :: rest)) := by
  have hl : (cs ++ List.replicate (cap - cs.length) 0).length = cap := by simp; omega
  have e2 : lat (cs ++ List.replicate (cap - cs.length) 0) = lat cs ++ List.replicate (cap - cs.length) (.int 0) := by
    rw [lat_app]; congr 1; simp [lat]
  have A' : Arv Z h a ka .byte (Int32.ofNat cap) (lat (cs ++ List.replicate (cap - cs.length) 0)) (.int 0) := by rw [e2]; exact A.pad (pad_rep (lat cs) (.int 0) (cap - cs.length))
  have r := X.cpL (Q := Q) (rm := rm) (WL0 := WL0) (FL0 := FL0) (Ls := Ls) (rest := rest) (pc := pc) hx w1 w2 w3 w4 (cs := []) (cap := cap2) A' B (Nat.le_of_eq hl) (by rw [hl]; show 0 + cap ≤ cap2; omega) (show cap ≤ 4000 by omega) hc2 hb hsize hd hf hW hlo (fun T' h' X' K V => k T' h' X' K (by
    rw [List.nil_append, e2] at V; exact V.pad (fun i => (pad_rep _ _ _ i).symm)))
  rw [hl] at r
  exact r
/-- an array of bytes, cloned -/
theorem WS.clone (X : WS p l e R s m args below meth c Z EL n0 own T h WL FL cells slots) (hx : p.tables.exec = Jvm.exec) {index : Nat} {ad : String} (w1 : (Jvm.Cond.methodLink own index ⟨ad, "clone", "()Ljava/lang/Object;"⟩).before a0 Z = true) (w2 : (Jvm.Cond.sameMethod ad "java/lang/Object" "clone" "()Ljava/lang/Object;").before a0 Z = true) (w3 : (Jvm.Cond.native ⟨"java/lang/Object", "clone", "()Ljava/lang/Object;"⟩).before a0 Z = true) (w4 : (Jvm.Cond.instanceMethod ⟨"java/lang/Object", "clone", "()Ljava/lang/Object;"⟩).before a0 Z = true)
    (w5 : (Jvm.Cond.selects ad ⟨ad, "clone", "()Ljava/lang/Object;"⟩ ⟨"java/lang/Object", "clone", "()Ljava/lang/Object;"⟩).before a0 Z = true) (w6 : (Jvm.Cond.castable ad "java/lang/Cloneable").before a0 Z = true)
    {a : Addr} {ka : ClassId} {ty : FieldType} {z : Int32} {vs : List Value} {dv : Value} (A : Arv Z h a ka ty z vs dv) (E0 : Exa Z h a ad)
    (hsize : Ls.size = c.maxLocals) (hd : decode c.code pc = .ok (.invokevirtual index, 3)) (hf : 1 ≤ R.frames) {W cap : Nat} (hW : (rest.map fun v => v.category).sum ≤ W) (hlo : W + 14 ≤ R.locals) (hcap : z.toNatClampNeg ≤ cap) (hc : cells + 1 ≤ R.cells) (hl : slots + cap ≤ R.slots)
    (k : ∀ T' h' b, WS p l e R s m args below meth c Z EL n0 own T' h' (b :: WL) FL (cells + 1) (slots + cap) → Ext h h' → h.size ≤ b → Exa Z h' b ad → Arv Z h' b ka ty z vs dv → Wo p e s below Z EL n0 WL0 FL0 rm Q T' (mkF m (pc + 3) Ls (.ref b :: rest))) :
    Wo p e s below Z EL n0 WL0 FL0 rm Q T (mkF m pc Ls (.ref a :: rest)) := by
  obtain ⟨vm0, k0, locs, X, eT, hS, hk, hZ, hown, N, I⟩ := X
  obtain ⟨T', h', X', eT', E, V, Ex, st⟩ := RoadKit.cloneH X hx hZ hown w1 w2 w3 w4 w5 w6 eT A.arh E0 (g := mkF m pc Ls (.ref a :: rest)) rfl hsize rfl hd hf (W := W) (cap := cap) (by show 2 * 0 + _ ≤ _; omega) hlo hcap hc hl
  exact Wo.by st (k T' h' h.size ⟨vm0, k0, _, X', eT', hS, Nat.le_trans hk E.1, hZ, hown, N, I.new E V.lt⟩ E (Nat.le_refl _) Ex V)
theorem WS.newPE (X : WS p l e R s m args below meth c Z EL n0 own T h WL FL cells slots) (hx : p.tables.exec = Jvm.exec) {aty : ArrayType} (w : (Jvm.Cond.arrayClass (newarray.typeOf aty)).before a0 Z = true) {n : Int32} (hd : decode c.code pc = .ok (.newarray aty, 2))
    (hn : ¬ n < 0) {cap : Nat} (hcap : n.toNatClampNeg ≤ cap) (hb : cap * 8 ≤ 536870912) (hc : cells + 1 ≤ R.cells) (hl : slots + cap ≤ R.slots) {ad : String} (had : "[" ++ (newarray.typeOf aty).toString = ad)
    (k : ∀ T' h' a ka, WS p l e R s m args below meth c Z EL n0 own T' h' (a :: WL) FL (cells + 1) (slots + cap) → Ext h h' → h.size ≤ a → Arv Z h' a ka (newarray.typeOf aty) n [] (defaultValue (newarray.typeOf aty)) → Exa Z h' a ad → Wo p e s below Z EL n0 WL0 FL0 rm Q T' (mkF m (pc + 2) Ls (.ref a :: rest))) :
    Wo p e s below Z EL n0 WL0 FL0 rm Q T (mkF m pc Ls (.int n :: rest)) := by
  obtain ⟨vm0, k0, locs, X, eT, hS, hk, hZ, hown, N, I⟩ := X
  obtain ⟨T', h', cA, X', eT', E, A, Ex, st⟩ := RoadKit.newPE X hx hZ w eT (g := mkF m pc Ls (.int n :: rest)) rfl hd rfl hn hcap hb hc hl had
  exact Wo.by st (k T' h' h.size cA ⟨vm0, k0, _, X', eT', hS, Nat.le_trans hk E.1, hZ, hown, N, I.new E A.lt⟩ E (Nat.le_refl _) (Arv.new A hn) Ex)
end Copy
theorem oAd (a b : Nat) : Int32.ofNat a + Int32.ofNat b = Int32.ofNat (a + b) := (Int32.ofNat_add a b).symm
theorem oSb {a b : Nat} (h : b ≤ a) : Int32.ofNat a - Int32.ofNat b = Int32.ofNat (a - b) := by
  obtain ⟨k, rfl⟩ : ∃ k, a = k + b := ⟨a - b, by omega⟩
  rw [Int32.ofNat_add, Int32.add_sub_cancel, Nat.add_sub_cancel]
theorem oA2 (a : Nat) : Int32.ofNat a + 2 = Int32.ofNat (a + 2) := oAd a 2
theorem oA16 (a : Nat) : Int32.ofNat a + 16 = Int32.ofNat (a + 16) := oAd a 16
theorem oPos {n : Nat} (h : 0 < n) (h2 : n < 2147483648) : (0 : Int32) < Int32.ofNat n := by
  rw [Int32.lt_iff_toInt_lt, oN h2]; have e2 : (0 : Int32).toInt = 0 := rfl; omega
theorem oBig {n : Nat} (h : n ≤ 4000) : ¬ (2147483639 : Int32) < Int32.ofNat n := by
  rw [Int32.lt_iff_toInt_lt, oN (by omega)]; have e2 : (2147483639 : Int32).toInt = 2147483639 := rfl; omega
theorem oMax {n : Nat} (h : n ≤ 4000) : ¬ Int32.ofNat n = (2147483647 : Int32) := by
  rw [← Int32.toInt_inj, oN (by omega)]; have e2 : (2147483647 : Int32).toInt = 2147483647 := rfl; omega
theorem oLt31 {n : Nat} (h : n ≤ 4000) : Int32.ofNat n < (2147483631 : Int32) := by
  rw [Int32.lt_iff_toInt_lt, oN (by omega)]; have e2 : (2147483631 : Int32).toInt = 2147483631 := rfl; omega
theorem oYes {a b : Nat} (h : b < a) (ha : a < 2147483648) : (0 : Int32) < Int32.ofNat a - Int32.ofNat b := by
  rw [oSb (Nat.le_of_lt h)]; exact oPos (by omega) (by omega)
section Dig
variable {m : MethodId} {meth : Method} {c : Code} {T : State} {cells slots : Nat} {own : String} {WL0 FL0 : List Addr} {rm : Room} {Q : Option Value → Heap → List Addr → List Addr → Prop} {pc : Nat} {Ls : Array Slot} {rest : List Value}
/-- a byte laid behind the others -/
theorem WS.stL (X : WS p l e R s m args below meth c Z EL n0 own T h WL FL cells slots) (hx : p.tables.exec = Jvm.exec) {a : Addr} {ka : ClassId} {cap : Nat} {cs : List Int32} (A : Arv Z h a ka .byte (Int32.ofNat cap) (lat cs) (.int 0)) {j x d : Int32} (hj : j = Int32.ofNat cs.length) (hn : nar .byte x = d.toInt8.toInt32) (hl : cs.length + 1 ≤ cap) (hc : cap ≤ 4000) (ha : a ∈ WL)
    (hd : decode c.code pc = .ok (.bastore, 1)) (k : ∀ T' h', WS p l e R s m args below meth c Z EL n0 own T' h' WL FL cells slots → Keep h h' [a] → Arv Z h' a ka .byte (Int32.ofNat cap) (lat (cs ++ [d])) (.int 0) → Wo p e s below Z EL n0 WL0 FL0 rm Q T' (mkF m (pc + 1) Ls rest)) :
    Wo p e s below Z EL n0 WL0 FL0 rm Q T (mkF m pc Ls (.int x :: .int j :: .ref a :: rest)) := by
  subst hj
  have A' := A.pad (pad_rep (lat cs) (.int 0) 1)
  have e1 : (Int32.ofNat cs.length).toNatClampNeg = cs.length := oC (by omega)
  refine X.stB hx A' (i := cs.length) ⟨oNn (by omega), (oLt (by omega) (by omega)).mpr (by omega)⟩ e1 (by simp [lat]) ha hd (fun T' h' X' W V => k T' h' X' ((Keep.refl h [a]).wr W (Or.inl (List.mem_of_getElem? (i := 0) rfl))) ?_)
  have e2 : (lat cs ++ List.replicate 1 (Value.int 0)).set cs.length (.int (nar .byte x)) = lat (cs ++ [d]) := by
    rw [lat_app, hn, List.set_append_right _ _ (by rw [lat_len]; exact Nat.le_refl _), lat_len, Nat.sub_self]; rfl
  rw [e2] at V; exact V
end Dig
/-- a table of bytes that the start's words tell -/
theorem digStart {Z : State} {a0 : Array Value} {f : Nat → Int32} {t X : Term} {a : Addr} (hF : Fit Z) (et : Term.eval a0 Z none [] Z t = some (.ref a)) (et' : ∀ i, Term.eval a0 Z none [i] Z t = some (.ref a)) (hlen : Cond.value a0 Z none Z [] (.eq (.length t) (.int (100 : Int32))) = some true)
    (hall : Cond.value a0 Z none Z [] (.all t (.eq (.elem t (.index 0)) X)) = some true) (hX : ∀ i, i < 100 → Term.eval a0 Z none [i] Z X = some (.int (f i))) (hex : Exa Z Z.heap a "[B") (hac : (Jvm.Cond.arrayClass .byte).before a0 Z = true) :
    ∃ k, Arv Z Z.heap a k .byte 100 ((List.range 100).map (fun i => Value.int (f i))) (.int 0) := by
  obtain ⟨cell, kc, x1, x2, x3, x4, -⟩ := hex
  obtain ⟨cc, kk, comp, y1, y2, y3⟩ := Cond.arrayClass_spec hac
  have y1' : Z.vm.findClass "[B" = some cc := y1
  cases x2.symm.trans y1'
  cases x3.symm.trans y2
  have hu : cell.vm ≠ VmData.unknown ∧ Z.arrayAt? a = some cell := by
    rw [Cond.value.eq_def] at hall
    simp only [et] at hall
    cases hA : Z.arrayAt? a with
    | none => rw [hA] at hall; cases hall
    | some cl =>
      have hA2 := hA
      simp only [State.arrayAt?, x1, x3, Option.bind_eq_bind, Option.bind_some, y3] at hA2
      split at hA2
      · cases hA2
      · rename_i hne
        cases hA2
        exact ⟨fun q => hne (Or.inl q), rfl⟩
  have arr : Arr Z Z.heap a cell .byte := ⟨x1, ⟨fun k q => (by rw [q] at x4; cases x4), kc, x3, comp, y3⟩, hu.1⟩
  have hl := eqv_i (Term.int_eval (100)) hlen
  have sz : cell.slots.size = 100 := by
    rw [Term.eval.eq_def] at hl
    simp only [et, Option.bind_eq_bind, Option.bind_some, hu.2] at hl
    split at hl
    · rename_i h2
      have q1 : cell.slots.size.toInt32 = 100 := by
        have q := Option.some.inj hl
        exact Value.int.inj q
      have q2 := len_toInt h2
      rw [q1] at q2
      have e1 : (100 : Int32).toInt = 100 := rfl
      omega
    · cases hl
  have at_ : ∀ i, i < 100 → ¬ (i.toInt32 < 0 ∨ cell.slots.size ≤ i.toInt32.toNatClampNeg) ∧ i.toInt32.toNatClampNeg = i ∧ cell.slots[i]? = some (.int (f i)) := fun i hi => by
    have q := eqv_i (hX i hi) (Cond.all_elim et hu.2 hall i (by omega))
    obtain ⟨q1, q2⟩ := elem_in q (et' i) (show Term.eval a0 Z none [i] Z (.index 0) = some (.int i.toInt32) from rfl) x1
    have e1 : i.toInt32.toNatClampNeg = i := oC (n := i) (by omega)
    rw [e1] at q2
    exact ⟨q1, e1, q2⟩
  have gd : ∀ i, i < 100 → ((List.range 100).map (fun i => Value.int (f i))).getD i (.int 0) = .int (f i) := fun i hi => by
    rw [List.getD_eq_getElem?_getD, List.getElem?_map, List.getElem?_range hi]; rfl
  refine ⟨cell.cls, cell, arr, rfl, sz, by decide, fun i hi => ?_, fun i hi => ?_⟩
  · rw [gd i (by omega)]; exact (at_ i (by omega)).2.2
  · rw [gd i (by omega)]
    obtain ⟨q1, q2, q3⟩ := at_ i (by omega)
    exact elem_fits hF arr q1 (by rw [q2]; exact q3)
/-- a call that asks less pays as one that asks more -/
theorem Pay.room {y : MethodName} {as' : Array Value} {len W k n n' : Nat} {Q : Option Value → Heap → List Addr → List Addr → Prop} (P : Pay l R p e below s args Z EL n0 y len W as' h WL FL k n Q) (hn : n ≤ n') : Pay l R p e below s args Z EL n0 y len W as' h WL FL k n' Q := fun vm0 hZ I => by
  intro m meth c A g ig mk a X hg hsize hdg hW hnm hp
  obtain ⟨v, B, X', hS', hgr, ⟨L, WL', FL', q, N, q2, q3, q4, I'⟩, st⟩ := P vm0 hZ I m meth c A g ig mk a X hg hsize hdg hW hnm ⟨hp.1, hp.2.1, hp.2.2.1, by have := hp.2.2.2; omega⟩
  exact ⟨v, (B.U, B.locs, B.cells, A.slots + n'), X'.mono (Nat.le_refl _) (by show B.slots ≤ A.slots + n'; rw [q4]; omega), hS', hgr, ⟨L, WL', FL', q, N, q2, q3, rfl, I'⟩, st⟩
section DigC
variable {m : MethodId} {meth : Method} {c : Code} {T : State} {cells slots : Nat} {own : String} {WL0 FL0 : List Addr} {rm : Room} {Q : Option Value → Heap → List Addr → List Addr → Prop} {pc : Nat} {Ls : Array Slot} {rest : List Value}
/-- a char laid behind the others -/
theorem WS.stCL (X : WS p l e R s m args below meth c Z EL n0 own T h WL FL cells slots) (hx : p.tables.exec = Jvm.exec) {a : Addr} {ka : ClassId} {N : Int32} {cs : List Int32} (A : Arv Z h a ka .char N (cs.map Value.int) (.int 0)) {j x : Int32} {cap : Nat} (hN : N = Int32.ofNat cap) (hj : j = Int32.ofNat cs.length) (hn : nar .char x = x) (hl : cs.length + 1 ≤ cap) (hc : cap ≤ 4000) (ha : a ∈ WL)
    (hd : decode c.code pc = .ok (.castore, 1)) (k : ∀ T' h', WS p l e R s m args below meth c Z EL n0 own T' h' WL FL cells slots → Keep h h' [a] → Arv Z h' a ka .char N ((cs ++ [x]).map Value.int) (.int 0) → Wo p e s below Z EL n0 WL0 FL0 rm Q T' (mkF m (pc + 1) Ls rest)) :
    Wo p e s below Z EL n0 WL0 FL0 rm Q T (mkF m pc Ls (.int x :: .int j :: .ref a :: rest)) := by
  subst hj; subst hN
  have A' := A.pad (pad_rep (cs.map Value.int) (.int 0) 1)
  have e1 : (Int32.ofNat cs.length).toNatClampNeg = cs.length := oC (by omega)
  refine X.stC hx A' (i := cs.length) ⟨oNn (by omega), (oLt (by omega) (by omega)).mpr (by omega)⟩ e1 (by simp) ha hd (fun T' h' X' W V => k T' h' X' ((Keep.refl h [a]).wr W (Or.inl (List.mem_of_getElem? (i := 0) rfl))) ?_)
  have e2 : (cs.map Value.int ++ List.replicate 1 (Value.int 0)).set cs.length (.int (nar .char x)) = (cs ++ [x]).map Value.int := by
    rw [List.map_append, hn, List.set_append_right _ _ (by simp), List.length_map, Nat.sub_self]; rfl
  rw [e2] at V; exact V
theorem WS.join (X : WS p l e R s m args below meth c Z EL n0 own T h WL FL cells slots) {Φ : State → Heap → Prop} {f f2 : JFrame}
    (B : (∀ T' h', WS p l e R s m args below meth c Z EL n0 own T' h' WL FL cells slots → Φ T' h' → Wo p e s below Z EL n0 WL0 FL0 rm Q T' f2) → Wo p e s below Z EL n0 WL0 FL0 rm Q T f)
    (J : ∀ T' h', WS p l e R s m args below meth c Z EL n0 own T' h' WL FL cells slots → Φ T' h' → Wo p e s below Z EL n0 WL0 FL0 rm Q T' f2) : Wo p e s below Z EL n0 WL0 FL0 rm Q T f := B J
end DigC
section MidSt
variable {m : MethodId} {meth : Method} {c : Code} {T : State} {cells slots : Nat} {own : String} {WL0 FL0 : List Addr} {rm : Room} {Q : Option Value → Heap → List Addr → List Addr → Prop} {pc : Nat} {Ls : Array Slot} {rest : List Value}
theorem lat_set (L : List Int32) (i : Nat) (d : Int32) : (lat L).set i (.int d.toInt8.toInt32) = lat (L.set i d) := by simp [lat, List.map_set]
theorem padL {a : Addr} {ka : ClassId} {N : Int32} {cs : List Int32} (A : Arv Z h a ka .byte N (lat cs) (.int 0)) (k : Nat) : Arv Z h a ka .byte N (lat (cs ++ List.replicate k 0)) (.int 0) := by
  have q := A.pad (pad_rep (lat cs) (.int 0) k)
  have e : lat cs ++ List.replicate k (Value.int 0) = lat (cs ++ List.replicate k 0) := by
    rw [lat_app]; congr 1; simp only [lat, List.map_replicate]; rfl
  rw [e] at q; exact q
/-- a byte laid among those behind a prefix -/
theorem WS.stM (X : WS p l e R s m args below meth c Z EL n0 own T h WL FL cells slots) (hx : p.tables.exec = Jvm.exec) {a : Addr} {ka : ClassId} {cap : Nat} {cs L L' : List Int32} (A : Arv Z h a ka .byte (Int32.ofNat cap) (lat (cs ++ L)) (.int 0)) {j x d : Int32} {i : Nat} (hj : j = Int32.ofNat (cs.length + i)) (hn : nar .byte x = d.toInt8.toInt32) (hi : i < L.length) (hL : L.set i d = L') (hl : cs.length + L.length ≤ cap) (hc : cap ≤ 4000) (ha : a ∈ WL)
    (hd : decode c.code pc = .ok (.bastore, 1)) (k : ∀ T' h', WS p l e R s m args below meth c Z EL n0 own T' h' WL FL cells slots → Keep h h' [a] → Arv Z h' a ka .byte (Int32.ofNat cap) (lat (cs ++ L')) (.int 0) → Wo p e s below Z EL n0 WL0 FL0 rm Q T' (mkF m (pc + 1) Ls rest)) :
    Wo p e s below Z EL n0 WL0 FL0 rm Q T (mkF m pc Ls (.int x :: .int j :: .ref a :: rest)) := by
  subst hj; subst hL
  have e1 : (Int32.ofNat (cs.length + i)).toNatClampNeg = cs.length + i := oC (by omega)
  refine X.stB hx A (i := cs.length + i) ⟨oNn (by omega), (oLt (by omega) (by omega)).mpr (by omega)⟩ e1 (by rw [lat_len, List.length_append]; omega) ha hd (fun T' h' X' W V => k T' h' X' ((Keep.refl h [a]).wr W (Or.inl (List.mem_of_getElem? (i := 0) rfl))) ?_)
  have e2 : (lat (cs ++ L)).set (cs.length + i) (.int (nar .byte x)) = lat (cs ++ L.set i d) := by
    rw [lat_app, hn, List.set_append_right _ _ (by rw [lat_len]; omega), lat_len, Nat.add_sub_cancel_left, lat_set, ← lat_app]
  rw [e2] at V; exact V
end MidSt
end Strs
end Wd
end Jvm.Pilot.@@N@@
namespace Jvm.Pilot.@@N@@
open Jvm Jvm.ClassFile Sem Op Lib Jvm.Free Jvm.Stand Jvm.LawKit Jvm.RoadKit Bundle Jvm.Pilot.@@N@@.Jvm.D Wd
theorem nlt {a b : Nat} (h : Nat.ble (a + 1) b = true) : a < b := Nat.le_of_ble_eq_true h
theorem nle {a b : Nat} (h : Nat.ble a b = true) : a ≤ b := Nat.le_of_ble_eq_true h
theorem fc0 {P : Int32 → Prop} : ∀ c ∈ ([] : List Int32), P c := fun _ q => nomatch q
theorem fcS {P : Int32 → Prop} {y : Int32} {L : List Int32} (q : P y) (r : ∀ c ∈ L, P c) : ∀ c ∈ y :: L, P c := fun c z => (List.mem_cons.mp z).elim (fun u => u ▸ q) (r c)
theorem msk {x m : Int32} {k : Nat} (hk : k ≤ 31) (hm : m.toBitVec.toNat = 2 ^ k - 1) : (x &&& m).toInt = x.toInt % (2 ^ k : Nat) := c_mask x m k hk hm
theorem rng255 (x : Int32) : ¬ (x &&& 255) < 0 ∧ ¬ (255 : Int32) < (x &&& 255) := by
  have h := c_mask x 255 8 (by decide) (by decide)
  rw [Int32.lt_iff_toInt_lt, Int32.lt_iff_toInt_lt, h]
  have e1 : (255 : Int32).toInt = 255 := rfl
  have e2 : (0 : Int32).toInt = 0 := rfl
  have e3 : ((2 ^ 8 : Nat) : Int) = 256 := rfl
  rw [e1, e2, e3]
  omega
theorem nar255 (x : Int32) : nar .char (x &&& 255) = x &&& 255 := i2c_mask x
theorem and3 (x : Int32) : x &&& 3 = 0 ∨ x &&& 3 = 1 ∨ x &&& 3 = 2 ∨ x &&& 3 = 3 := by
  have h := c_mask x 3 2 (by decide) (by decide)
  have e3 : ((2 ^ 2 : Nat) : Int) = 4 := rfl
  rw [e3] at h
  have : (x &&& 3).toInt = 0 ∨ (x &&& 3).toInt = 1 ∨ (x &&& 3).toInt = 2 ∨ (x &&& 3).toInt = 3 := by omega
  rcases this with q | q | q | q
  · exact Or.inl (Int32.toInt_inj.mp q)
  · exact Or.inr (Or.inl (Int32.toInt_inj.mp q))
  · exact Or.inr (Or.inr (Or.inl (Int32.toInt_inj.mp q)))
  · exact Or.inr (Or.inr (Or.inr (Int32.toInt_inj.mp q)))
theorem ofn {c : Int32} (h : ¬ c < 0 ∧ ¬ (255 : Int32) < c) : ∃ k : Fin 256, c = Int32.ofNat k.val := by
  have h1 := h.1; have h2 := h.2
  rw [Int32.lt_iff_toInt_lt] at h1 h2
  have e1 : (255 : Int32).toInt = 255 := rfl
  have e2 : (0 : Int32).toInt = 0 := rfl
  rw [e2] at h1; rw [e1] at h2
  refine ⟨⟨c.toInt.toNat, by omega⟩, Int32.toInt_inj.mp ?_⟩
  rw [Int32.toInt_ofNat_small (show c.toInt.toNat < 2 ^ 31 by omega)]
  show c.toInt = ((c.toInt.toNat : Nat) : Int)
  omega
theorem narR {c : Int32} (h : ¬ c < 0 ∧ ¬ (255 : Int32) < c) : nar .char c = c := by
  obtain ⟨k, rfl⟩ := ofn h
  exact (by decide +kernel : ∀ k : Fin 256, nar .char (Int32.ofNat k.val) = Int32.ofNat k.val) k
theorem b8 {c : Int32} (h : ¬ c < 0 ∧ ¬ (255 : Int32) < c) (d : Int32) (hd : ∀ k : Fin 256, (Int32.ofNat k.val).toInt8.toInt32 = d ↔ Int32.ofNat k.val = d) : c.toInt8.toInt32 = d ↔ c = d := by
  obtain ⟨k, rfl⟩ := ofn h
  exact hd k
def EL1 : List (String × Nat) := consts_1
def digOF (i : Nat) : Int32 := 48 + i.toInt32 % 10
def digO : List Value := (List.range 100).map fun i => Value.int (digOF i)
def digTF (i : Nat) : Int32 := 48 + i.toInt32 / 10
def digT : List Value := (List.range 100).map fun i => Value.int (digTF i)
theorem narB {c : Int32} : nar .byte (c.toInt8.toInt32) = c.toInt8.toInt32 := by simp [nar]
theorem oM1 (n : Nat) : Int32.ofNat (n + 1) + (-1) = Int32.ofNat n := by
  rw [Int32.ofNat_add]; show Int32.ofNat n + 1 + (-1) = _
  rw [Int32.add_assoc, show (1 : Int32) + (-1) = 0 from by decide, Int32.add_zero]
theorem oA1 (n : Nat) : Int32.ofNat n + 1 = Int32.ofNat (n + 1) := oAd n 1
theorem ngN {n : Nat} (h : n < 2147483648) : (-(Int32.ofNat n)).toInt = -(n : Int) := by
  rw [Int32.toInt_neg, oN h, Int.bmod_def]; split <;> omega
theorem ngL {n k : Nat} {c : Int32} (hc : c.toInt = -(k : Int)) (hn : n < 2147483648) : c < -(Int32.ofNat n) ↔ n < k := by
  rw [Int32.lt_iff_toInt_lt, ngN hn, hc]; omega
theorem ngG {n k : Nat} {c : Int32} (hc : c.toInt = -(k : Int)) (hn : n < 2147483648) : -(Int32.ofNat n) < c ↔ k < n := by
  rw [Int32.lt_iff_toInt_lt, ngN hn, hc]; omega
theorem ngD {n : Nat} (h : n < 65536) : -(Int32.ofNat n) / 100 = -(Int32.ofNat (n / 100)) := by
  apply Int32.toInt_inj.mp
  rw [Int32.toInt_div, ngN (by omega), ngN (by omega), show (100 : Int32).toInt = 100 from rfl, Int.neg_tdiv, Int.bmod_def]
  have : (n : Int).tdiv 100 = ((n / 100 : Nat) : Int) := by rw [Int.tdiv_eq_ediv_of_nonneg (by omega)]; omega
  rw [this]
  split <;> omega
theorem ngR {n : Nat} (h : n < 65536) : -(Int32.ofNat (n / 100)) * 100 - -(Int32.ofNat n) = Int32.ofNat (n % 100) := by
  apply Int32.toInt_inj.mp
  rw [Int32.toInt_sub, Int32.toInt_mul, ngN (by omega), ngN (by omega), oN (by omega), show (100 : Int32).toInt = 100 from rfl, Int.bmod_def, Int.bmod_def]
  split <;> split <;> omega
def dg (n e : Nat) : Int32 := Int32.ofNat (48 + n / 10 ^ e % 10)
def digs (n : Nat) : Nat → List Int32 | 0 => [] | k + 1 => dg n k :: digs n k
theorem digs_len (n k : Nat) : (digs n k).length = k := by induction k with | zero => rfl | succ k ih => simp [digs, ih]
theorem digs_at {n : Nat} : ∀ {k i : Nat}, i < k → (digs n k).getD i 0 = dg n (k - 1 - i)
  | k + 1, 0, _ => by simp [digs]
  | k + 1, i + 1, h => by
    have q := digs_at (n := n) (k := k) (i := i) (by omega)
    simp only [digs, List.getD_cons_succ, q]; congr 1; omega
theorem dg_nn (n e : Nat) : ¬ dg n e < 0 ∧ ¬ (255 : Int32) < dg n e := by
  unfold dg
  rw [Int32.lt_iff_toInt_lt, Int32.lt_iff_toInt_lt, oN (by omega)]
  show ¬ ((48 + n / 10 ^ e % 10 : Nat) : Int) < 0 ∧ ¬ (255 : Int) < _
  omega
theorem digs_rng (n k : Nat) : ∀ c ∈ digs n k, ¬ c < 0 ∧ ¬ (255 : Int32) < c := by
  induction k with
  | zero => intro c hc; cases hc
  | succ k ih => intro c hc; rcases List.mem_cons.mp hc with rfl | hc
                 · exact dg_nn n k
                 · exact ih c hc
def DK (n k : Nat) : Prop := (k = 1 ∧ n < 10) ∨ (k = 2 ∧ 10 ≤ n ∧ n < 100) ∨ (k = 3 ∧ 100 ≤ n ∧ n < 1000) ∨ (k = 4 ∧ 1000 ≤ n ∧ n < 10000) ∨ (k = 5 ∧ 10000 ≤ n ∧ n < 65536)
theorem DKex {n : Nat} (h : n < 65536) : ∃ k, DK n k := by
  by_cases h1 : n < 10
  · exact ⟨1, Or.inl ⟨rfl, h1⟩⟩
  by_cases h2 : n < 100
  · exact ⟨2, Or.inr (Or.inl ⟨rfl, by omega, h2⟩)⟩
  by_cases h3 : n < 1000
  · exact ⟨3, Or.inr (Or.inr (Or.inl ⟨rfl, by omega, h3⟩))⟩
  by_cases h4 : n < 10000
  · exact ⟨4, Or.inr (Or.inr (Or.inr (Or.inl ⟨rfl, by omega, h4⟩)))⟩
  · exact ⟨5, Or.inr (Or.inr (Or.inr (Or.inr ⟨rfl, by omega, h⟩)))⟩
theorem DKb {n k : Nat} (h : DK n k) : 1 ≤ k ∧ k ≤ 5 ∧ n < 65536 := by
  rcases h with h | h | h | h | h <;> omega
theorem dgc {n P e : Nat} {p : Int32} (hn : n < 65536) (hp : p = Int32.ofNat P) (hP : P = 10 ^ e) (h1 : 1 ≤ P ∧ P ≤ 10000) : (48 + (Int32.ofNat n / p) % 10).toUInt32.toUInt16.toUInt32.toInt32 = dg n e := by
  have e1 : Int32.ofNat n / p = Int32.ofNat (n / P) := by
    apply Int32.toInt_inj.mp
    have : n / P ≤ n := Nat.div_le_self _ _
    rw [hp, Int32.toInt_div, oN (by omega), oN (by omega), oN (by omega), Int.tdiv_eq_ediv_of_nonneg (by omega), ← Int.natCast_ediv, Int.bmod_def]
    generalize n / P = z at *
    split <;> omega
  have e2 : (48 : Int32) + (Int32.ofNat n / p) % 10 = Int32.ofNat (48 + n / P % 10) := by
    have : n / P ≤ n := Nat.div_le_self _ _
    rw [e1, show (48 : Int32) = Int32.ofNat 48 from rfl, show (10 : Int32) = Int32.ofNat 10 from rfl]
    have e3 : Int32.ofNat (n / P) % Int32.ofNat 10 = Int32.ofNat (n / P % 10) := by
      apply Int32.toInt_inj.mp
      generalize n / P = z at *
      rw [Int32.toInt_mod, oN (by omega), oN (by omega), oN (by omega), Int.tmod_eq_emod_of_nonneg (by omega)]; omega
    rw [e3, oAd]
  rw [e2, dg, ← hP]
  have hlt : n / P % 10 < 10 := Nat.mod_lt _ (by decide)
  generalize n / P % 10 = z at *
  exact (by decide +kernel : ∀ z : Fin 10, (Int32.ofNat (48 + z.val)).toUInt32.toUInt16.toUInt32.toInt32 = Int32.ofNat (48 + z.val)) ⟨z, hlt⟩
theorem digOv {r : Nat} (h : r < 100) : digOF r = Int32.ofNat (48 + r % 10) := (by decide +kernel : ∀ r : Fin 100, digOF r.val = Int32.ofNat (48 + r.val % 10)) ⟨r, h⟩
theorem digTv {r : Nat} (h : r < 100) : digTF r = Int32.ofNat (48 + r / 10) := (by decide +kernel : ∀ r : Fin 100, digTF r.val = Int32.ofNat (48 + r.val / 10)) ⟨r, h⟩
theorem port (x : Int32) : ∃ n : Nat, n < 65536 ∧ x &&& 65535 = Int32.ofNat n := by
  refine ⟨x.toUInt32.toNat % 65536, by omega, ?_⟩
  apply Int32.toBitVec_inj.mp
  apply BitVec.eq_of_toNat_eq
  show (x.toBitVec &&& 65535#32).toNat = (BitVec.ofNat 32 (x.toBitVec.toNat % 65536)).toNat
  rw [BitVec.toNat_and, BitVec.toNat_ofNat, BitVec.toNat_ofNat]
  have : 65535 % 2 ^ 32 = 2 ^ 16 - 1 := by decide
  rw [this, Nat.and_two_pow_sub_one_eq_mod]
  omega
theorem digD {A zs : List Int32} {n k he kq : Nat} {nd kk st : Int32} (hz : zs = A ++ [58] ++ digs n k) (hA : A.length = he) (hh : he ≤ 100) (hnd : nd = Int32.ofNat k) (hk : 1 ≤ k ∧ k ≤ 5) (hkk : kk = Int32.ofNat kq) (h4 : kq ≤ 4) (hst : st = Int32.ofNat (he + 1)) :
    (¬ kk < nd) ∨ (kk < nd ∧ he + 1 + kq < zs.length ∧ st + kk = Int32.ofNat (he + 1 + kq) ∧ ∃ q : Nat, q ≤ 4 ∧ (nd - 1) - kk = Int32.ofNat q ∧ zs.getD (he + 1 + kq) 0 = dg n q) := by
  subst hnd hkk hst hz
  by_cases h : kq < k
  · refine Or.inr ⟨(oLt (by omega) (by omega)).mpr h, ?_, oAd _ _, k - 1 - kq, by omega, ?_, ?_⟩
    · simp [digs_len]; omega
    · apply Int32.toInt_inj.mp
      rw [Int32.toInt_sub, Int32.toInt_sub, oN (by omega), oN (by omega), oN (by omega), show (1 : Int32).toInt = 1 from rfl, Int.bmod_def, Int.bmod_def]
      split <;> split <;> omega
    · rw [← digs_at h, List.getD_eq_getElem?_getD, List.getElem?_append_right (by simp; omega), ← List.getD_eq_getElem?_getD]
      congr 1; simp; omega
  · exact Or.inl fun q => h ((oLt (by omega) (by omega)).mp q)
theorem nm1 {a : Int32} (ha : ¬ a = 58) : (58 : Int32) ∉ [a] := fun q => by simp at q; exact ha q.symm
theorem nm2 {a b : Int32} (ha : ¬ a = 58) (hb : ¬ b = 58) : (58 : Int32) ∉ [a, b] := fun q => by
  simp at q; rcases q with q | q
  · exact ha q.symm
  · exact hb q.symm
theorem nm3 {a b c : Int32} (ha : ¬ a = 58) (hb : ¬ b = 58) (hc : ¬ c = 58) : (58 : Int32) ∉ [a, b, c] := fun q => by
  simp at q; rcases q with q | q | q
  · exact ha q.symm
  · exact hb q.symm
  · exact hc q.symm
theorem dgI {r : Nat} (h : r < 100) : ¬ Int32.ofNat r < 0 ∧ Int32.ofNat r < 100 := ⟨oNn (by omega), (oLt (b := 100) (by omega) (by decide)).mpr h⟩
theorem dgAt {f : Nat → Int32} {r : Nat} (h : r < 100) : ((List.range 100).map fun i => Value.int (f i)).getD (Int32.ofNat r).toNatClampNeg (.int 0) = .int (f r) := by
  rw [oC (by omega), List.getD_eq_getElem?_getD, List.getElem?_map, List.getElem?_range h]; rfl
theorem digOE {r : Nat} (h : r < 100) : digO.getD (Int32.ofNat r).toNatClampNeg (.int 0) = .int (Int32.ofNat (48 + r % 10)) := by rw [← digOv h]; exact dgAt h
theorem digTE {r : Nat} (h : r < 100) : digT.getD (Int32.ofNat r).toNatClampNeg (.int 0) = .int (Int32.ofNat (48 + r / 10)) := by rw [← digTv h]; exact dgAt h
theorem b58 {c : Int32} (h : ¬ c < 0 ∧ ¬ (255 : Int32) < c) : c.toInt8.toInt32 = 58 ↔ c = 58 := b8 h 58 (by decide +kernel)
theorem ltc {n k : Nat} {c : Int32} (hc : c = Int32.ofNat k) (hk : k < 2147483648) (hn : n < 2147483648) : Int32.ofNat n < c ↔ n < k := by rw [hc]; exact oLt hn hk
theorem shN {a b c : Int32} {hs : List Int32} (h : hs = [] ∨ hs = [a] ∨ hs = [a, b] ∨ hs = [a, b, c]) : hs.length ≤ 3 := by
  rcases h with rfl | rfl | rfl | rfl <;> simp
theorem nQ {a : Int32} {q n : Nat} (ha : a = Int32.ofNat n) : Int32.ofNat q + a = Int32.ofNat (q + n) := by rw [ha, oAd]
theorem nK {a b : Int32} {q n : Nat} (ha : a = Int32.ofNat n) (hb : b = Int32.ofNat q) : a + b = Int32.ofNat (n + q) := by rw [ha, hb, oAd]
theorem cE {a b : Int32} {l m : List Int32} (h : a = b) (t : l = m) : a :: l = b :: m := by rw [h, t]
theorem gd1 {n : Nat} (rl : 0 ≤ n) (ru : n < 10) : [(Int32.ofNat (48 + n % 10))] = digs n 1 := show _ = [Int32.ofNat (48 + n / 1 % 10)] from (cE (congrArg Int32.ofNat (by omega)) rfl)
theorem gd2 {n : Nat} (rl : 10 ≤ n) (ru : n < 100) : [(Int32.ofNat (48 + n / 10)), (Int32.ofNat (48 + n % 10))] = digs n 2 := show _ = [Int32.ofNat (48 + n / 10 % 10), Int32.ofNat (48 + n / 1 % 10)] from (cE (congrArg Int32.ofNat (by omega)) (cE (congrArg Int32.ofNat (by omega)) rfl))
theorem gd3 {n : Nat} (rl : 100 ≤ n) (ru : n < 1000) : [(Int32.ofNat (48 + (n / 100) % 10)), (Int32.ofNat (48 + (n % 100) / 10)), (Int32.ofNat (48 + (n % 100) % 10))] = digs n 3 := show _ = [Int32.ofNat (48 + n / 100 % 10), Int32.ofNat (48 + n / 10 % 10), Int32.ofNat (48 + n / 1 % 10)] from (cE (congrArg Int32.ofNat (by omega)) (cE (congrArg Int32.ofNat (by omega)) (cE (congrArg Int32.ofNat (by omega)) rfl)))
theorem gd4 {n : Nat} (rl : 1000 ≤ n) (ru : n < 10000) : [(Int32.ofNat (48 + (n / 100) / 10)), (Int32.ofNat (48 + (n / 100) % 10)), (Int32.ofNat (48 + (n % 100) / 10)), (Int32.ofNat (48 + (n % 100) % 10))] = digs n 4 := show _ = [Int32.ofNat (48 + n / 1000 % 10), Int32.ofNat (48 + n / 100 % 10), Int32.ofNat (48 + n / 10 % 10), Int32.ofNat (48 + n / 1 % 10)] from (cE (congrArg Int32.ofNat (by omega)) (cE (congrArg Int32.ofNat (by omega)) (cE (congrArg Int32.ofNat (by omega)) (cE (congrArg Int32.ofNat (by omega)) rfl))))
theorem gd5 {n : Nat} (rl : 10000 ≤ n) (ru : n < 65536) : [(Int32.ofNat (48 + ((n / 100) / 100) % 10)), (Int32.ofNat (48 + ((n / 100) % 100) / 10)), (Int32.ofNat (48 + ((n / 100) % 100) % 10)), (Int32.ofNat (48 + (n % 100) / 10)), (Int32.ofNat (48 + (n % 100) % 10))] = digs n 5 := show _ = [Int32.ofNat (48 + n / 10000 % 10), Int32.ofNat (48 + n / 1000 % 10), Int32.ofNat (48 + n / 100 % 10), Int32.ofNat (48 + n / 10 % 10), Int32.ofNat (48 + n / 1 % 10)] from (cE (congrArg Int32.ofNat (by omega)) (cE (congrArg Int32.ofNat (by omega)) (cE (congrArg Int32.ofNat (by omega)) (cE (congrArg Int32.ofNat (by omega)) (cE (congrArg Int32.ofNat (by omega)) rfl)))))
theorem atC {A D zs : List Int32} {hl : Nat} (hz : zs = A ++ [58] ++ D) (hA : A.length = hl) : hl < zs.length ∧ zs.getD hl 0 = 58 := by
  subst hz hA; exact ⟨by simp <;> omega, by simp [List.getD_eq_getElem?_getD]⟩
theorem at93 {hs D zs : List Int32} (hz : zs = [91] ++ hs ++ [93] ++ [58] ++ D) : zs.getD (hs.length + 1) 0 = 93 := by
  subst hz; simp [List.getD_eq_getElem?_getD]
section Cts
theorem mg {α : Type _} {L : List α} {a : α} (i : Nat) (h : L[i]? = some a) : a ∈ L := List.mem_of_getElem? h
theorem mc {α : Type _} {L : List α} {a b : α} (h : a ∈ L) : a ∈ b :: L := List.mem_cons_of_mem _ h
set_option maxRecDepth 65536
set_option maxHeartbeats 4000000
def Cx (a0 : Array Value) (Z : State) (gC : Int32) (gF : Value) (v_DO : Addr) (k_DO : ClassId) (v_DT : Addr) (k_DT : ClassId) : Prop := (∀ d ∈ tables_1, d.before a0 Z = true) ∧ (Sta Z Z.heap "java/lang/String" "COMPACT_STRINGS" "Z" (.int gC)) ∧ (¬ gC = (0 : Int32)) ∧ (Sta Z Z.heap "jdk/internal/util/Preconditions" "SIOOBE_FORMATTER" "Ljava/util/function/BiFunction;" gF) ∧ (gF.isRef = true) ∧ (Sta Z Z.heap "java/lang/Integer" "DigitOnes" "[B" (.ref v_DO)) ∧ (Exa Z Z.heap v_DO "[B") ∧ (Arv Z Z.heap v_DO k_DO .byte (100 : Int32) digO (.int 0)) ∧ (Sta Z Z.heap "java/lang/Integer" "DigitTens" "[B" (.ref v_DT)) ∧ (Exa Z Z.heap v_DT "[B") ∧ (Arv Z Z.heap v_DT k_DT .byte (100 : Int32) digT (.int 0))
def txt (i : Nat) : String := match tables_1[i]? with | some (Cond.stringLink _ _ t) => t | _ => ""
variable {l : Launch} {Z : State} {a0 : Array Value} {gC : Int32} {gF : Value} {v_DO : Addr} {k_DO : ClassId} {v_DT : Addr} {k_DT : ClassId} {n0 : Nat}
theorem w0 (cx : Cx a0 Z gC gF v_DO k_DO v_DT k_DT) : (Cond.arrayClass FieldType.char).before a0 Z = true := cx.1 _ (mg 0 rfl)
theorem w1 (cx : Cx a0 Z gC gF v_DO k_DO v_DT k_DT) : (Cond.classLink "com/example/need_to_know/needtoknow/ListenAddressToStringPinLaw" (7 : Nat) "java/lang/String").before a0 Z = true := cx.1 _ (mg 1 rfl)
theorem w2 (cx : Cx a0 Z gC gF v_DO k_DO v_DT k_DT) : (Cond.instantiable "java/lang/String" (4 : Nat)).before a0 Z = true := cx.1 _ (mg 2 rfl)
theorem w3 (cx : Cx a0 Z gC gF v_DO k_DO v_DT k_DT) : (Cond.initialized "java/lang/String").before a0 Z = true := cx.1 _ (mg 3 rfl)
theorem w4 (cx : Cx a0 Z gC gF v_DO k_DO v_DT k_DT) : (Cond.methodLink "com/example/need_to_know/needtoknow/ListenAddressToStringPinLaw" (9 : Nat) ⟨"java/lang/String", "<init>", "([C)V"⟩).before a0 Z = true := cx.1 _ (mg 4 rfl)
theorem w5 (cx : Cx a0 Z gC gF v_DO k_DO v_DT k_DT) : (Cond.instanceMethod ⟨"java/lang/String", "<init>", "([C)V"⟩).before a0 Z = true := cx.1 _ (mg 5 rfl)
theorem w6 (cx : Cx a0 Z gC gF v_DO k_DO v_DT k_DT) : (Cond.code ⟨"java/lang/String", "<init>", "([C)V"⟩ jdk_42_method_3_code (2 : Nat) (Option.none : Option Jvm.ClassFile.FieldType)).before a0 Z = true := cx.1 _ (mg 6 rfl)
theorem w7 (cx : Cx a0 Z gC gF v_DO k_DO v_DT k_DT) : (Cond.methodLink "java/lang/String" (27 : Nat) ⟨"java/lang/String", "<init>", "([CIILjava/lang/Void;)V"⟩).before a0 Z = true := cx.1 _ (mg 7 rfl)
theorem w8 (cx : Cx a0 Z gC gF v_DO k_DO v_DT k_DT) : (Cond.instanceMethod ⟨"java/lang/String", "<init>", "([CIILjava/lang/Void;)V"⟩).before a0 Z = true := cx.1 _ (mg 8 rfl)
theorem w10 (cx : Cx a0 Z gC gF v_DO k_DO v_DT k_DT) : (Cond.code ⟨"java/lang/String", "<init>", "([CIILjava/lang/Void;)V"⟩ jdk_42_method_149_code (6 : Nat) (Option.none : Option Jvm.ClassFile.FieldType)).before a0 Z = true := cx.1 _ (mg 10 rfl)
theorem w11 (cx : Cx a0 Z gC gF v_DO k_DO v_DT k_DT) : (Cond.methodLink "java/lang/String" (1 : Nat) ⟨"java/lang/Object", "<init>", "()V"⟩).before a0 Z = true := cx.1 _ (mg 11 rfl)
theorem w12 (cx : Cx a0 Z gC gF v_DO k_DO v_DT k_DT) : (Cond.instanceMethod ⟨"java/lang/Object", "<init>", "()V"⟩).before a0 Z = true := cx.1 _ (mg 12 rfl)
theorem w13 (cx : Cx a0 Z gC gF v_DO k_DO v_DT k_DT) : (Cond.code ⟨"java/lang/Object", "<init>", "()V"⟩ object_method_1_code (1 : Nat) (Option.none : Option Jvm.ClassFile.FieldType)).before a0 Z = true := cx.1 _ (mg 13 rfl)
theorem w14 (cx : Cx a0 Z gC gF v_DO k_DO v_DT k_DT) : (Cond.stringLink "java/lang/String" (7 : Nat) (txt 14)).before a0 Z = true := cx.1 _ (mg 14 rfl)
theorem w15 (cx : Cx a0 Z gC gF v_DO k_DO v_DT k_DT) : (Cond.arrayClass FieldType.byte).before a0 Z = true := cx.1 _ (mg 15 rfl)
theorem w16 (cx : Cx a0 Z gC gF v_DO k_DO v_DT k_DT) : (Cond.laysFinal "java/lang/String" "java/lang/String" "value" "[B").before a0 Z = true := cx.1 _ (mg 16 rfl)
theorem w17 (cx : Cx a0 Z gC gF v_DO k_DO v_DT k_DT) : (Cond.laysFinal "java/lang/String" "java/lang/String" "coder" "B").before a0 Z = true := cx.1 _ (mg 17 rfl)
theorem w20 (cx : Cx a0 Z gC gF v_DO k_DO v_DT k_DT) : (Cond.fieldLink "java/lang/String" (9 : Nat) "java/lang/String" "value" "[B").before a0 Z = true := cx.1 _ (mg 20 rfl)
theorem w21 (cx : Cx a0 Z gC gF v_DO k_DO v_DT k_DT) : (Cond.fieldLink "java/lang/String" (15 : Nat) "java/lang/String" "coder" "B").before a0 Z = true := cx.1 _ (mg 21 rfl)
theorem w22 (cx : Cx a0 Z gC gF v_DO k_DO v_DT k_DT) : (Cond.constant "com/example/need_to_know/needtoknow/ListenAddressToStringPinLaw" (12 : Nat) (65535 : Int32)).before a0 Z = true := cx.1 _ (mg 22 rfl)
theorem w23 (cx : Cx a0 Z gC gF v_DO k_DO v_DT k_DT) : (Cond.classLink "com/example/need_to_know/needtoknow/ListenAddressToStringPinLaw" (13 : Nat) "com/example/need_to_know/needtoknow/ListenAddress").before a0 Z = true := cx.1 _ (mg 23 rfl)
theorem w24 (cx : Cx a0 Z gC gF v_DO k_DO v_DT k_DT) : (Cond.instantiable "com/example/need_to_know/needtoknow/ListenAddress" (2 : Nat)).before a0 Z = true := cx.1 _ (mg 24 rfl)
theorem w25 (cx : Cx a0 Z gC gF v_DO k_DO v_DT k_DT) : (Cond.initialized "com/example/need_to_know/needtoknow/ListenAddress").before a0 Z = true := cx.1 _ (mg 25 rfl)
theorem w26 (cx : Cx a0 Z gC gF v_DO k_DO v_DT k_DT) : (Cond.methodLink "com/example/need_to_know/needtoknow/ListenAddressToStringPinLaw" (15 : Nat) ⟨"com/example/need_to_know/needtoknow/ListenAddress", "<init>", "(Ljava/lang/String;I)V"⟩).before a0 Z = true := cx.1 _ (mg 26 rfl)
theorem w27 (cx : Cx a0 Z gC gF v_DO k_DO v_DT k_DT) : (Cond.instanceMethod ⟨"com/example/need_to_know/needtoknow/ListenAddress", "<init>", "(Ljava/lang/String;I)V"⟩).before a0 Z = true := cx.1 _ (mg 27 rfl)
theorem w28 (cx : Cx a0 Z gC gF v_DO k_DO v_DT k_DT) : (Cond.code ⟨"com/example/need_to_know/needtoknow/ListenAddress", "<init>", "(Ljava/lang/String;I)V"⟩ prog_5_method_1_code (3 : Nat) (Option.none : Option Jvm.ClassFile.FieldType)).before a0 Z = true := cx.1 _ (mg 28 rfl)
theorem w29 (cx : Cx a0 Z gC gF v_DO k_DO v_DT k_DT) : (Cond.methodLink "com/example/need_to_know/needtoknow/ListenAddress" (1 : Nat) ⟨"java/lang/Object", "<init>", "()V"⟩).before a0 Z = true := cx.1 _ (mg 29 rfl)
theorem w30 (cx : Cx a0 Z gC gF v_DO k_DO v_DT k_DT) : (Cond.fieldLink "com/example/need_to_know/needtoknow/ListenAddress" (7 : Nat) "com/example/need_to_know/needtoknow/ListenAddress" "host" "Ljava/lang/String;").before a0 Z = true := cx.1 _ (mg 30 rfl)
theorem w31 (cx : Cx a0 Z gC gF v_DO k_DO v_DT k_DT) : (Cond.laysFinal "com/example/need_to_know/needtoknow/ListenAddress" "com/example/need_to_know/needtoknow/ListenAddress" "host" "Ljava/lang/String;").before a0 Z = true := cx.1 _ (mg 31 rfl)
theorem w32 (cx : Cx a0 Z gC gF v_DO k_DO v_DT k_DT) : (Cond.fieldLink "com/example/need_to_know/needtoknow/ListenAddress" (13 : Nat) "com/example/need_to_know/needtoknow/ListenAddress" "port" "I").before a0 Z = true := cx.1 _ (mg 32 rfl)
theorem w33 (cx : Cx a0 Z gC gF v_DO k_DO v_DT k_DT) : (Cond.laysFinal "com/example/need_to_know/needtoknow/ListenAddress" "com/example/need_to_know/needtoknow/ListenAddress" "port" "I").before a0 Z = true := cx.1 _ (mg 33 rfl)
theorem w34 (cx : Cx a0 Z gC gF v_DO k_DO v_DT k_DT) : (Cond.methodLink "com/example/need_to_know/needtoknow/ListenAddressToStringPinLaw" (18 : Nat) ⟨"com/example/need_to_know/needtoknow/ListenAddress", "toString", "()Ljava/lang/String;"⟩).before a0 Z = true := cx.1 _ (mg 34 rfl)
theorem w35 (cx : Cx a0 Z gC gF v_DO k_DO v_DT k_DT) : (Cond.declares ⟨"com/example/need_to_know/needtoknow/ListenAddress", "toString", "()Ljava/lang/String;"⟩).before a0 Z = true := cx.1 _ (mg 35 rfl)
theorem w36 (cx : Cx a0 Z gC gF v_DO k_DO v_DT k_DT) : (Cond.instanceMethod ⟨"com/example/need_to_know/needtoknow/ListenAddress", "toString", "()Ljava/lang/String;"⟩).before a0 Z = true := cx.1 _ (mg 36 rfl)
theorem w37 (cx : Cx a0 Z gC gF v_DO k_DO v_DT k_DT) : (Cond.selects "com/example/need_to_know/needtoknow/ListenAddress" ⟨"com/example/need_to_know/needtoknow/ListenAddress", "toString", "()Ljava/lang/String;"⟩ ⟨"com/example/need_to_know/needtoknow/ListenAddress", "toString", "()Ljava/lang/String;"⟩).before a0 Z = true := cx.1 _ (mg 37 rfl)
theorem w38 (cx : Cx a0 Z gC gF v_DO k_DO v_DT k_DT) : (Cond.code ⟨"com/example/need_to_know/needtoknow/ListenAddress", "toString", "()Ljava/lang/String;"⟩ prog_5_method_7_code (1 : Nat) (Option.some (FieldType.object "java/lang/String"))).before a0 Z = true := cx.1 _ (mg 38 rfl)
theorem w39 (cx : Cx a0 Z gC gF v_DO k_DO v_DT k_DT) : (Cond.classLink "com/example/need_to_know/needtoknow/ListenAddress" (91 : Nat) "java/lang/StringBuilder").before a0 Z = true := cx.1 _ (mg 39 rfl)
theorem w40 (cx : Cx a0 Z gC gF v_DO k_DO v_DT k_DT) : (Cond.instantiable "java/lang/StringBuilder" (4 : Nat)).before a0 Z = true := cx.1 _ (mg 40 rfl)
theorem w41 (cx : Cx a0 Z gC gF v_DO k_DO v_DT k_DT) : (Cond.initialized "java/lang/StringBuilder").before a0 Z = true := cx.1 _ (mg 41 rfl)
theorem w42 (cx : Cx a0 Z gC gF v_DO k_DO v_DT k_DT) : (Cond.methodLink "com/example/need_to_know/needtoknow/ListenAddress" (93 : Nat) ⟨"java/lang/StringBuilder", "<init>", "()V"⟩).before a0 Z = true := cx.1 _ (mg 42 rfl)
theorem w43 (cx : Cx a0 Z gC gF v_DO k_DO v_DT k_DT) : (Cond.instanceMethod ⟨"java/lang/StringBuilder", "<init>", "()V"⟩).before a0 Z = true := cx.1 _ (mg 43 rfl)
theorem w44 (cx : Cx a0 Z gC gF v_DO k_DO v_DT k_DT) : (Cond.code ⟨"java/lang/StringBuilder", "<init>", "()V"⟩ jdk_67_method_1_code (1 : Nat) (Option.none : Option Jvm.ClassFile.FieldType)).before a0 Z = true := cx.1 _ (mg 44 rfl)
theorem w45 (cx : Cx a0 Z gC gF v_DO k_DO v_DT k_DT) : (Cond.methodLink "java/lang/StringBuilder" (1 : Nat) ⟨"java/lang/AbstractStringBuilder", "<init>", "(I)V"⟩).before a0 Z = true := cx.1 _ (mg 45 rfl)
theorem w46 (cx : Cx a0 Z gC gF v_DO k_DO v_DT k_DT) : (Cond.instanceMethod ⟨"java/lang/AbstractStringBuilder", "<init>", "(I)V"⟩).before a0 Z = true := cx.1 _ (mg 46 rfl)
theorem w49 (cx : Cx a0 Z gC gF v_DO k_DO v_DT k_DT) : (Cond.initialized "java/lang/AbstractStringBuilder").before a0 Z = true := cx.1 _ (mg 49 rfl)
theorem w50 (cx : Cx a0 Z gC gF v_DO k_DO v_DT k_DT) : (Cond.code ⟨"java/lang/AbstractStringBuilder", "<init>", "(I)V"⟩ jdk_68_method_2_code (2 : Nat) (Option.none : Option Jvm.ClassFile.FieldType)).before a0 Z = true := cx.1 _ (mg 50 rfl)
theorem w51 (cx : Cx a0 Z gC gF v_DO k_DO v_DT k_DT) : (Cond.methodLink "java/lang/AbstractStringBuilder" (3 : Nat) ⟨"java/lang/Object", "<init>", "()V"⟩).before a0 Z = true := cx.1 _ (mg 51 rfl)
theorem w52 (cx : Cx a0 Z gC gF v_DO k_DO v_DT k_DT) : (Cond.fieldLink "java/lang/AbstractStringBuilder" (18 : Nat) "java/lang/String" "COMPACT_STRINGS" "Z").before a0 Z = true := cx.1 _ (mg 52 rfl)
theorem w53 (cx : Cx a0 Z gC gF v_DO k_DO v_DT k_DT) : (Cond.fieldLink "java/lang/AbstractStringBuilder" (15 : Nat) "java/lang/AbstractStringBuilder" "value" "[B").before a0 Z = true := cx.1 _ (mg 53 rfl)
theorem w54 (cx : Cx a0 Z gC gF v_DO k_DO v_DT k_DT) : (Cond.lays "java/lang/StringBuilder" "java/lang/AbstractStringBuilder" "value" "[B").before a0 Z = true := cx.1 _ (mg 54 rfl)
theorem w55 (cx : Cx a0 Z gC gF v_DO k_DO v_DT k_DT) : (Cond.fieldLink "java/lang/AbstractStringBuilder" (22 : Nat) "java/lang/AbstractStringBuilder" "coder" "B").before a0 Z = true := cx.1 _ (mg 55 rfl)
theorem w56 (cx : Cx a0 Z gC gF v_DO k_DO v_DT k_DT) : (Cond.lays "java/lang/StringBuilder" "java/lang/AbstractStringBuilder" "coder" "B").before a0 Z = true := cx.1 _ (mg 56 rfl)
theorem w57 (cx : Cx a0 Z gC gF v_DO k_DO v_DT k_DT) : (Cond.stringLink "com/example/need_to_know/needtoknow/ListenAddress" (55 : Nat) (txt 57)).before a0 Z = true := cx.1 _ (mg 57 rfl)
theorem w58 (cx : Cx a0 Z gC gF v_DO k_DO v_DT k_DT) : (Cond.methodLink "com/example/need_to_know/needtoknow/ListenAddress" (57 : Nat) ⟨"java/lang/String", "contains", "(Ljava/lang/CharSequence;)Z"⟩).before a0 Z = true := cx.1 _ (mg 58 rfl)
theorem w59 (cx : Cx a0 Z gC gF v_DO k_DO v_DT k_DT) : (Cond.declares ⟨"java/lang/String", "contains", "(Ljava/lang/CharSequence;)Z"⟩).before a0 Z = true := cx.1 _ (mg 59 rfl)
theorem w60 (cx : Cx a0 Z gC gF v_DO k_DO v_DT k_DT) : (Cond.instanceMethod ⟨"java/lang/String", "contains", "(Ljava/lang/CharSequence;)Z"⟩).before a0 Z = true := cx.1 _ (mg 60 rfl)
theorem w61 (cx : Cx a0 Z gC gF v_DO k_DO v_DT k_DT) : (Cond.selects "java/lang/String" ⟨"java/lang/String", "contains", "(Ljava/lang/CharSequence;)Z"⟩ ⟨"java/lang/String", "contains", "(Ljava/lang/CharSequence;)Z"⟩).before a0 Z = true := cx.1 _ (mg 61 rfl)
theorem w62 (cx : Cx a0 Z gC gF v_DO k_DO v_DT k_DT) : (Cond.code ⟨"java/lang/String", "contains", "(Ljava/lang/CharSequence;)Z"⟩ jdk_42_method_97_code (2 : Nat) (Option.some FieldType.boolean)).before a0 Z = true := cx.1 _ (mg 62 rfl)
theorem w63 (cx : Cx a0 Z gC gF v_DO k_DO v_DT k_DT) : (Cond.methodLink "java/lang/String" (710 : Nat) ⟨"java/lang/CharSequence", "toString", "()Ljava/lang/String;"⟩).before a0 Z = true := cx.1 _ (mg 63 rfl)
theorem w64 (cx : Cx a0 Z gC gF v_DO k_DO v_DT k_DT) : (Cond.declares ⟨"java/lang/CharSequence", "toString", "()Ljava/lang/String;"⟩).before a0 Z = true := cx.1 _ (mg 64 rfl)
theorem w65 (cx : Cx a0 Z gC gF v_DO k_DO v_DT k_DT) : (Cond.interfaceMethod "java/lang/CharSequence" "java/lang/CharSequence" "toString" "()Ljava/lang/String;").before a0 Z = true := cx.1 _ (mg 65 rfl)
theorem w66 (cx : Cx a0 Z gC gF v_DO k_DO v_DT k_DT) : (Cond.selects "java/lang/String" ⟨"java/lang/CharSequence", "toString", "()Ljava/lang/String;"⟩ ⟨"java/lang/String", "toString", "()Ljava/lang/String;"⟩).before a0 Z = true := cx.1 _ (mg 66 rfl)
theorem w67 (cx : Cx a0 Z gC gF v_DO k_DO v_DT k_DT) : (Cond.instanceMethod ⟨"java/lang/String", "toString", "()Ljava/lang/String;"⟩).before a0 Z = true := cx.1 _ (mg 67 rfl)
theorem w68 (cx : Cx a0 Z gC gF v_DO k_DO v_DT k_DT) : (Cond.publicMethod ⟨"java/lang/String", "toString", "()Ljava/lang/String;"⟩).before a0 Z = true := cx.1 _ (mg 68 rfl)
theorem w69 (cx : Cx a0 Z gC gF v_DO k_DO v_DT k_DT) : (Cond.unhidden "java/lang/String" "toString" "()Ljava/lang/String;").before a0 Z = true := cx.1 _ (mg 69 rfl)
theorem w70 (cx : Cx a0 Z gC gF v_DO k_DO v_DT k_DT) : (Cond.castable "java/lang/String" "java/lang/CharSequence").before a0 Z = true := cx.1 _ (mg 70 rfl)
theorem w71 (cx : Cx a0 Z gC gF v_DO k_DO v_DT k_DT) : (Cond.code ⟨"java/lang/String", "toString", "()Ljava/lang/String;"⟩ jdk_42_method_126_code (1 : Nat) (Option.some (FieldType.object "java/lang/String"))).before a0 Z = true := cx.1 _ (mg 71 rfl)
theorem w72 (cx : Cx a0 Z gC gF v_DO k_DO v_DT k_DT) : (Cond.methodLink "java/lang/String" (711 : Nat) ⟨"java/lang/String", "indexOf", "(Ljava/lang/String;)I"⟩).before a0 Z = true := cx.1 _ (mg 72 rfl)
theorem w73 (cx : Cx a0 Z gC gF v_DO k_DO v_DT k_DT) : (Cond.declares ⟨"java/lang/String", "indexOf", "(Ljava/lang/String;)I"⟩).before a0 Z = true := cx.1 _ (mg 73 rfl)
theorem w74 (cx : Cx a0 Z gC gF v_DO k_DO v_DT k_DT) : (Cond.instanceMethod ⟨"java/lang/String", "indexOf", "(Ljava/lang/String;)I"⟩).before a0 Z = true := cx.1 _ (mg 74 rfl)
theorem w75 (cx : Cx a0 Z gC gF v_DO k_DO v_DT k_DT) : (Cond.selects "java/lang/String" ⟨"java/lang/String", "indexOf", "(Ljava/lang/String;)I"⟩ ⟨"java/lang/String", "indexOf", "(Ljava/lang/String;)I"⟩).before a0 Z = true := cx.1 _ (mg 75 rfl)
theorem w76 (cx : Cx a0 Z gC gF v_DO k_DO v_DT k_DT) : (Cond.code ⟨"java/lang/String", "indexOf", "(Ljava/lang/String;)I"⟩ jdk_42_method_84_code (3 : Nat) (Option.some FieldType.int)).before a0 Z = true := cx.1 _ (mg 76 rfl)
theorem w77 (cx : Cx a0 Z gC gF v_DO k_DO v_DT k_DT) : (Cond.methodLink "java/lang/String" (335 : Nat) ⟨"java/lang/String", "coder", "()B"⟩).before a0 Z = true := cx.1 _ (mg 77 rfl)
theorem w78 (cx : Cx a0 Z gC gF v_DO k_DO v_DT k_DT) : (Cond.declares ⟨"java/lang/String", "coder", "()B"⟩).before a0 Z = true := cx.1 _ (mg 78 rfl)
theorem w79 (cx : Cx a0 Z gC gF v_DO k_DO v_DT k_DT) : (Cond.instanceMethod ⟨"java/lang/String", "coder", "()B"⟩).before a0 Z = true := cx.1 _ (mg 79 rfl)
theorem w80 (cx : Cx a0 Z gC gF v_DO k_DO v_DT k_DT) : (Cond.selects "java/lang/String" ⟨"java/lang/String", "coder", "()B"⟩ ⟨"java/lang/String", "coder", "()B"⟩).before a0 Z = true := cx.1 _ (mg 80 rfl)
theorem w81 (cx : Cx a0 Z gC gF v_DO k_DO v_DT k_DT) : (Cond.code ⟨"java/lang/String", "coder", "()B"⟩ jdk_42_method_152_code (1 : Nat) (Option.some FieldType.byte)).before a0 Z = true := cx.1 _ (mg 81 rfl)
theorem w82 (cx : Cx a0 Z gC gF v_DO k_DO v_DT k_DT) : (Cond.fieldLink "java/lang/String" (38 : Nat) "java/lang/String" "COMPACT_STRINGS" "Z").before a0 Z = true := cx.1 _ (mg 82 rfl)
theorem w83 (cx : Cx a0 Z gC gF v_DO k_DO v_DT k_DT) : (Cond.methodLink "java/lang/String" (492 : Nat) ⟨"java/lang/String", "isLatin1", "()Z"⟩).before a0 Z = true := cx.1 _ (mg 83 rfl)
theorem w84 (cx : Cx a0 Z gC gF v_DO k_DO v_DT k_DT) : (Cond.declares ⟨"java/lang/String", "isLatin1", "()Z"⟩).before a0 Z = true := cx.1 _ (mg 84 rfl)
theorem w85 (cx : Cx a0 Z gC gF v_DO k_DO v_DT k_DT) : (Cond.instanceMethod ⟨"java/lang/String", "isLatin1", "()Z"⟩).before a0 Z = true := cx.1 _ (mg 85 rfl)
theorem w86 (cx : Cx a0 Z gC gF v_DO k_DO v_DT k_DT) : (Cond.selects "java/lang/String" ⟨"java/lang/String", "isLatin1", "()Z"⟩ ⟨"java/lang/String", "isLatin1", "()Z"⟩).before a0 Z = true := cx.1 _ (mg 86 rfl)
theorem w87 (cx : Cx a0 Z gC gF v_DO k_DO v_DT k_DT) : (Cond.code ⟨"java/lang/String", "isLatin1", "()Z"⟩ jdk_42_method_154_code (1 : Nat) (Option.some FieldType.boolean)).before a0 Z = true := cx.1 _ (mg 87 rfl)
theorem w88 (cx : Cx a0 Z gC gF v_DO k_DO v_DT k_DT) : (Cond.methodLink "java/lang/String" (647 : Nat) ⟨"java/lang/StringLatin1", "indexOf", "([B[B)I"⟩).before a0 Z = true := cx.1 _ (mg 88 rfl)
theorem w89 (cx : Cx a0 Z gC gF v_DO k_DO v_DT k_DT) : (Cond.static ⟨"java/lang/StringLatin1", "indexOf", "([B[B)I"⟩).before a0 Z = true := cx.1 _ (mg 89 rfl)
theorem w90 (cx : Cx a0 Z gC gF v_DO k_DO v_DT k_DT) : (Cond.initialized "java/lang/StringLatin1").before a0 Z = true := cx.1 _ (mg 90 rfl)
theorem w91 (cx : Cx a0 Z gC gF v_DO k_DO v_DT k_DT) : (Cond.code ⟨"java/lang/StringLatin1", "indexOf", "([B[B)I"⟩ jdk_43_method_24_code (2 : Nat) (Option.some FieldType.int)).before a0 Z = true := cx.1 _ (mg 91 rfl)
theorem w92 (cx : Cx a0 Z gC gF v_DO k_DO v_DT k_DT) : (Cond.methodLink "com/example/need_to_know/needtoknow/ListenAddress" (94 : Nat) ⟨"java/lang/StringBuilder", "append", "(Ljava/lang/String;)Ljava/lang/StringBuilder;"⟩).before a0 Z = true := cx.1 _ (mg 92 rfl)
theorem w93 (cx : Cx a0 Z gC gF v_DO k_DO v_DT k_DT) : (Cond.declares ⟨"java/lang/StringBuilder", "append", "(Ljava/lang/String;)Ljava/lang/StringBuilder;"⟩).before a0 Z = true := cx.1 _ (mg 93 rfl)
theorem w94 (cx : Cx a0 Z gC gF v_DO k_DO v_DT k_DT) : (Cond.instanceMethod ⟨"java/lang/StringBuilder", "append", "(Ljava/lang/String;)Ljava/lang/StringBuilder;"⟩).before a0 Z = true := cx.1 _ (mg 94 rfl)
theorem w95 (cx : Cx a0 Z gC gF v_DO k_DO v_DT k_DT) : (Cond.selects "java/lang/StringBuilder" ⟨"java/lang/StringBuilder", "append", "(Ljava/lang/String;)Ljava/lang/StringBuilder;"⟩ ⟨"java/lang/StringBuilder", "append", "(Ljava/lang/String;)Ljava/lang/StringBuilder;"⟩).before a0 Z = true := cx.1 _ (mg 95 rfl)
theorem w96 (cx : Cx a0 Z gC gF v_DO k_DO v_DT k_DT) : (Cond.code ⟨"java/lang/StringBuilder", "append", "(Ljava/lang/String;)Ljava/lang/StringBuilder;"⟩ jdk_67_method_7_code (2 : Nat) (Option.some (FieldType.object "java/lang/StringBuilder"))).before a0 Z = true := cx.1 _ (mg 96 rfl)
theorem w97 (cx : Cx a0 Z gC gF v_DO k_DO v_DT k_DT) : (Cond.methodLink "java/lang/StringBuilder" (29 : Nat) ⟨"java/lang/AbstractStringBuilder", "append", "(Ljava/lang/String;)Ljava/lang/AbstractStringBuilder;"⟩).before a0 Z = true := cx.1 _ (mg 97 rfl)
theorem w98 (cx : Cx a0 Z gC gF v_DO k_DO v_DT k_DT) : (Cond.instanceMethod ⟨"java/lang/AbstractStringBuilder", "append", "(Ljava/lang/String;)Ljava/lang/AbstractStringBuilder;"⟩).before a0 Z = true := cx.1 _ (mg 98 rfl)
theorem w99 (cx : Cx a0 Z gC gF v_DO k_DO v_DT k_DT) : (Cond.superclass "java/lang/StringBuilder" "java/lang/AbstractStringBuilder").before a0 Z = true := cx.1 _ (mg 99 rfl)
theorem w101 (cx : Cx a0 Z gC gF v_DO k_DO v_DT k_DT) : (Cond.code ⟨"java/lang/AbstractStringBuilder", "append", "(Ljava/lang/String;)Ljava/lang/AbstractStringBuilder;"⟩ jdk_68_method_22_code (3 : Nat) (Option.some (FieldType.object "java/lang/AbstractStringBuilder"))).before a0 Z = true := cx.1 _ (mg 101 rfl)
theorem w102 (cx : Cx a0 Z gC gF v_DO k_DO v_DT k_DT) : (Cond.methodLink "java/lang/AbstractStringBuilder" (32 : Nat) ⟨"java/lang/String", "length", "()I"⟩).before a0 Z = true := cx.1 _ (mg 102 rfl)
theorem w103 (cx : Cx a0 Z gC gF v_DO k_DO v_DT k_DT) : (Cond.declares ⟨"java/lang/String", "length", "()I"⟩).before a0 Z = true := cx.1 _ (mg 103 rfl)
theorem w104 (cx : Cx a0 Z gC gF v_DO k_DO v_DT k_DT) : (Cond.instanceMethod ⟨"java/lang/String", "length", "()I"⟩).before a0 Z = true := cx.1 _ (mg 104 rfl)
theorem w105 (cx : Cx a0 Z gC gF v_DO k_DO v_DT k_DT) : (Cond.selects "java/lang/String" ⟨"java/lang/String", "length", "()I"⟩ ⟨"java/lang/String", "length", "()I"⟩).before a0 Z = true := cx.1 _ (mg 105 rfl)
theorem w107 (cx : Cx a0 Z gC gF v_DO k_DO v_DT k_DT) : (Cond.fieldLink "java/lang/AbstractStringBuilder" (79 : Nat) "java/lang/AbstractStringBuilder" "count" "I").before a0 Z = true := cx.1 _ (mg 107 rfl)
theorem w108 (cx : Cx a0 Z gC gF v_DO k_DO v_DT k_DT) : (Cond.lays "java/lang/StringBuilder" "java/lang/AbstractStringBuilder" "count" "I").before a0 Z = true := cx.1 _ (mg 108 rfl)
theorem w109 (cx : Cx a0 Z gC gF v_DO k_DO v_DT k_DT) : (Cond.methodLink "java/lang/AbstractStringBuilder" (100 : Nat) ⟨"java/lang/AbstractStringBuilder", "ensureCapacityInternal", "(I)V"⟩).before a0 Z = true := cx.1 _ (mg 109 rfl)
theorem w110 (cx : Cx a0 Z gC gF v_DO k_DO v_DT k_DT) : (Cond.instanceMethod ⟨"java/lang/AbstractStringBuilder", "ensureCapacityInternal", "(I)V"⟩).before a0 Z = true := cx.1 _ (mg 110 rfl)
theorem w112 (cx : Cx a0 Z gC gF v_DO k_DO v_DT k_DT) : (Cond.selects "java/lang/StringBuilder" ⟨"java/lang/AbstractStringBuilder", "ensureCapacityInternal", "(I)V"⟩ ⟨"java/lang/AbstractStringBuilder", "ensureCapacityInternal", "(I)V"⟩).before a0 Z = true := cx.1 _ (mg 112 rfl)
theorem w113 (cx : Cx a0 Z gC gF v_DO k_DO v_DT k_DT) : (Cond.code ⟨"java/lang/AbstractStringBuilder", "ensureCapacityInternal", "(I)V"⟩ jdk_68_method_9_code (3 : Nat) (Option.none : Option Jvm.ClassFile.FieldType)).before a0 Z = true := cx.1 _ (mg 113 rfl)
theorem w114 (cx : Cx a0 Z gC gF v_DO k_DO v_DT k_DT) : (Cond.methodLink "java/lang/AbstractStringBuilder" (208 : Nat) ⟨"java/lang/AbstractStringBuilder", "putStringAt", "(ILjava/lang/String;)V"⟩).before a0 Z = true := cx.1 _ (mg 114 rfl)
theorem w115 (cx : Cx a0 Z gC gF v_DO k_DO v_DT k_DT) : (Cond.instanceMethod ⟨"java/lang/AbstractStringBuilder", "putStringAt", "(ILjava/lang/String;)V"⟩).before a0 Z = true := cx.1 _ (mg 115 rfl)
theorem w117 (cx : Cx a0 Z gC gF v_DO k_DO v_DT k_DT) : (Cond.selects "java/lang/StringBuilder" ⟨"java/lang/AbstractStringBuilder", "putStringAt", "(ILjava/lang/String;)V"⟩ ⟨"java/lang/AbstractStringBuilder", "putStringAt", "(ILjava/lang/String;)V"⟩).before a0 Z = true := cx.1 _ (mg 117 rfl)
theorem w118 (cx : Cx a0 Z gC gF v_DO k_DO v_DT k_DT) : (Cond.code ⟨"java/lang/AbstractStringBuilder", "putStringAt", "(ILjava/lang/String;)V"⟩ jdk_68_method_73_code (3 : Nat) (Option.none : Option Jvm.ClassFile.FieldType)).before a0 Z = true := cx.1 _ (mg 118 rfl)
theorem w119 (cx : Cx a0 Z gC gF v_DO k_DO v_DT k_DT) : (Cond.methodLink "java/lang/AbstractStringBuilder" (397 : Nat) ⟨"java/lang/AbstractStringBuilder", "inflateIfNeededFor", "(Ljava/lang/String;)V"⟩).before a0 Z = true := cx.1 _ (mg 119 rfl)
theorem w120 (cx : Cx a0 Z gC gF v_DO k_DO v_DT k_DT) : (Cond.instanceMethod ⟨"java/lang/AbstractStringBuilder", "inflateIfNeededFor", "(Ljava/lang/String;)V"⟩).before a0 Z = true := cx.1 _ (mg 120 rfl)
theorem w122 (cx : Cx a0 Z gC gF v_DO k_DO v_DT k_DT) : (Cond.selects "java/lang/StringBuilder" ⟨"java/lang/AbstractStringBuilder", "inflateIfNeededFor", "(Ljava/lang/String;)V"⟩ ⟨"java/lang/AbstractStringBuilder", "inflateIfNeededFor", "(Ljava/lang/String;)V"⟩).before a0 Z = true := cx.1 _ (mg 122 rfl)
theorem w123 (cx : Cx a0 Z gC gF v_DO k_DO v_DT k_DT) : (Cond.code ⟨"java/lang/AbstractStringBuilder", "inflateIfNeededFor", "(Ljava/lang/String;)V"⟩ jdk_68_method_71_code (2 : Nat) (Option.none : Option Jvm.ClassFile.FieldType)).before a0 Z = true := cx.1 _ (mg 123 rfl)
theorem w124 (cx : Cx a0 Z gC gF v_DO k_DO v_DT k_DT) : (Cond.methodLink "java/lang/AbstractStringBuilder" (40 : Nat) ⟨"java/lang/String", "coder", "()B"⟩).before a0 Z = true := cx.1 _ (mg 124 rfl)
theorem w125 (cx : Cx a0 Z gC gF v_DO k_DO v_DT k_DT) : (Cond.methodLink "java/lang/AbstractStringBuilder" (399 : Nat) ⟨"java/lang/String", "getBytes", "([BIB)V"⟩).before a0 Z = true := cx.1 _ (mg 125 rfl)
theorem w126 (cx : Cx a0 Z gC gF v_DO k_DO v_DT k_DT) : (Cond.declares ⟨"java/lang/String", "getBytes", "([BIB)V"⟩).before a0 Z = true := cx.1 _ (mg 126 rfl)
theorem w127 (cx : Cx a0 Z gC gF v_DO k_DO v_DT k_DT) : (Cond.instanceMethod ⟨"java/lang/String", "getBytes", "([BIB)V"⟩).before a0 Z = true := cx.1 _ (mg 127 rfl)
theorem w128 (cx : Cx a0 Z gC gF v_DO k_DO v_DT k_DT) : (Cond.selects "java/lang/String" ⟨"java/lang/String", "getBytes", "([BIB)V"⟩ ⟨"java/lang/String", "getBytes", "([BIB)V"⟩).before a0 Z = true := cx.1 _ (mg 128 rfl)
theorem w129 (cx : Cx a0 Z gC gF v_DO k_DO v_DT k_DT) : (Cond.code ⟨"java/lang/String", "getBytes", "([BIB)V"⟩ jdk_42_method_147_code (4 : Nat) (Option.none : Option Jvm.ClassFile.FieldType)).before a0 Z = true := cx.1 _ (mg 129 rfl)
theorem w130 (cx : Cx a0 Z gC gF v_DO k_DO v_DT k_DT) : (Cond.methodLink "java/lang/String" (212 : Nat) ⟨"java/lang/System", "arraycopy", "(Ljava/lang/Object;ILjava/lang/Object;II)V"⟩).before a0 Z = true := cx.1 _ (mg 130 rfl)
theorem w131 (cx : Cx a0 Z gC gF v_DO k_DO v_DT k_DT) : (Cond.static ⟨"java/lang/System", "arraycopy", "(Ljava/lang/Object;ILjava/lang/Object;II)V"⟩).before a0 Z = true := cx.1 _ (mg 131 rfl)
theorem w132 (cx : Cx a0 Z gC gF v_DO k_DO v_DT k_DT) : (Cond.initialized "java/lang/System").before a0 Z = true := cx.1 _ (mg 132 rfl)
theorem w133 (cx : Cx a0 Z gC gF v_DO k_DO v_DT k_DT) : (Cond.native ⟨"java/lang/System", "arraycopy", "(Ljava/lang/Object;ILjava/lang/Object;II)V"⟩).before a0 Z = true := cx.1 _ (mg 133 rfl)
theorem w134 (cx : Cx a0 Z gC gF v_DO k_DO v_DT k_DT) : (Cond.methodLink "com/example/need_to_know/needtoknow/ListenAddress" (102 : Nat) ⟨"java/lang/StringBuilder", "append", "(I)Ljava/lang/StringBuilder;"⟩).before a0 Z = true := cx.1 _ (mg 134 rfl)
theorem w135 (cx : Cx a0 Z gC gF v_DO k_DO v_DT k_DT) : (Cond.declares ⟨"java/lang/StringBuilder", "append", "(I)Ljava/lang/StringBuilder;"⟩).before a0 Z = true := cx.1 _ (mg 135 rfl)
theorem w136 (cx : Cx a0 Z gC gF v_DO k_DO v_DT k_DT) : (Cond.instanceMethod ⟨"java/lang/StringBuilder", "append", "(I)Ljava/lang/StringBuilder;"⟩).before a0 Z = true := cx.1 _ (mg 136 rfl)
theorem w137 (cx : Cx a0 Z gC gF v_DO k_DO v_DT k_DT) : (Cond.selects "java/lang/StringBuilder" ⟨"java/lang/StringBuilder", "append", "(I)Ljava/lang/StringBuilder;"⟩ ⟨"java/lang/StringBuilder", "append", "(I)Ljava/lang/StringBuilder;"⟩).before a0 Z = true := cx.1 _ (mg 137 rfl)
theorem w138 (cx : Cx a0 Z gC gF v_DO k_DO v_DT k_DT) : (Cond.code ⟨"java/lang/StringBuilder", "append", "(I)Ljava/lang/StringBuilder;"⟩ jdk_67_method_15_code (2 : Nat) (Option.some (FieldType.object "java/lang/StringBuilder"))).before a0 Z = true := cx.1 _ (mg 138 rfl)
theorem w139 (cx : Cx a0 Z gC gF v_DO k_DO v_DT k_DT) : (Cond.methodLink "java/lang/StringBuilder" (53 : Nat) ⟨"java/lang/AbstractStringBuilder", "append", "(I)Ljava/lang/AbstractStringBuilder;"⟩).before a0 Z = true := cx.1 _ (mg 139 rfl)
theorem w140 (cx : Cx a0 Z gC gF v_DO k_DO v_DT k_DT) : (Cond.instanceMethod ⟨"java/lang/AbstractStringBuilder", "append", "(I)Ljava/lang/AbstractStringBuilder;"⟩).before a0 Z = true := cx.1 _ (mg 140 rfl)
theorem w142 (cx : Cx a0 Z gC gF v_DO k_DO v_DT k_DT) : (Cond.code ⟨"java/lang/AbstractStringBuilder", "append", "(I)Ljava/lang/AbstractStringBuilder;"⟩ jdk_68_method_32_code (4 : Nat) (Option.some (FieldType.object "java/lang/AbstractStringBuilder"))).before a0 Z = true := cx.1 _ (mg 142 rfl)
theorem w143 (cx : Cx a0 Z gC gF v_DO k_DO v_DT k_DT) : (Cond.methodLink "java/lang/AbstractStringBuilder" (245 : Nat) ⟨"java/lang/Integer", "stringSize", "(I)I"⟩).before a0 Z = true := cx.1 _ (mg 143 rfl)
theorem w144 (cx : Cx a0 Z gC gF v_DO k_DO v_DT k_DT) : (Cond.static ⟨"java/lang/Integer", "stringSize", "(I)I"⟩).before a0 Z = true := cx.1 _ (mg 144 rfl)
theorem w145 (cx : Cx a0 Z gC gF v_DO k_DO v_DT k_DT) : (Cond.initialized "java/lang/Integer").before a0 Z = true := cx.1 _ (mg 145 rfl)
theorem w146 (cx : Cx a0 Z gC gF v_DO k_DO v_DT k_DT) : (Cond.code ⟨"java/lang/Integer", "stringSize", "(I)I"⟩ jdk_33_method_13_code (4 : Nat) (Option.some FieldType.int)).before a0 Z = true := cx.1 _ (mg 146 rfl)
theorem w147 (cx : Cx a0 Z gC gF v_DO k_DO v_DT k_DT) : (Cond.methodLink "java/lang/AbstractStringBuilder" (83 : Nat) ⟨"java/lang/AbstractStringBuilder", "isLatin1", "()Z"⟩).before a0 Z = true := cx.1 _ (mg 147 rfl)
theorem w148 (cx : Cx a0 Z gC gF v_DO k_DO v_DT k_DT) : (Cond.declares ⟨"java/lang/AbstractStringBuilder", "isLatin1", "()Z"⟩).before a0 Z = true := cx.1 _ (mg 148 rfl)
theorem w149 (cx : Cx a0 Z gC gF v_DO k_DO v_DT k_DT) : (Cond.instanceMethod ⟨"java/lang/AbstractStringBuilder", "isLatin1", "()Z"⟩).before a0 Z = true := cx.1 _ (mg 149 rfl)
theorem w150 (cx : Cx a0 Z gC gF v_DO k_DO v_DT k_DT) : (Cond.selects "java/lang/StringBuilder" ⟨"java/lang/AbstractStringBuilder", "isLatin1", "()Z"⟩ ⟨"java/lang/AbstractStringBuilder", "isLatin1", "()Z"⟩).before a0 Z = true := cx.1 _ (mg 150 rfl)
theorem w151 (cx : Cx a0 Z gC gF v_DO k_DO v_DT k_DT) : (Cond.code ⟨"java/lang/AbstractStringBuilder", "isLatin1", "()Z"⟩ jdk_68_method_68_code (1 : Nat) (Option.some FieldType.boolean)).before a0 Z = true := cx.1 _ (mg 151 rfl)
theorem w152 (cx : Cx a0 Z gC gF v_DO k_DO v_DT k_DT) : (Cond.methodLink "java/lang/AbstractStringBuilder" (248 : Nat) ⟨"java/lang/Integer", "getChars", "(II[B)I"⟩).before a0 Z = true := cx.1 _ (mg 152 rfl)
theorem w153 (cx : Cx a0 Z gC gF v_DO k_DO v_DT k_DT) : (Cond.static ⟨"java/lang/Integer", "getChars", "(II[B)I"⟩).before a0 Z = true := cx.1 _ (mg 153 rfl)
theorem w154 (cx : Cx a0 Z gC gF v_DO k_DO v_DT k_DT) : (Cond.code ⟨"java/lang/Integer", "getChars", "(II[B)I"⟩ jdk_33_method_12_code (7 : Nat) (Option.some FieldType.int)).before a0 Z = true := cx.1 _ (mg 154 rfl)
theorem w155 (cx : Cx a0 Z gC gF v_DO k_DO v_DT k_DT) : (Cond.fieldLink "java/lang/Integer" (83 : Nat) "java/lang/Integer" "DigitOnes" "[B").before a0 Z = true := cx.1 _ (mg 155 rfl)
theorem w156 (cx : Cx a0 Z gC gF v_DO k_DO v_DT k_DT) : (Cond.methodLink "com/example/need_to_know/needtoknow/ListenAddress" (98 : Nat) ⟨"java/lang/StringBuilder", "toString", "()Ljava/lang/String;"⟩).before a0 Z = true := cx.1 _ (mg 156 rfl)
theorem w157 (cx : Cx a0 Z gC gF v_DO k_DO v_DT k_DT) : (Cond.declares ⟨"java/lang/StringBuilder", "toString", "()Ljava/lang/String;"⟩).before a0 Z = true := cx.1 _ (mg 157 rfl)
theorem w158 (cx : Cx a0 Z gC gF v_DO k_DO v_DT k_DT) : (Cond.instanceMethod ⟨"java/lang/StringBuilder", "toString", "()Ljava/lang/String;"⟩).before a0 Z = true := cx.1 _ (mg 158 rfl)
theorem w159 (cx : Cx a0 Z gC gF v_DO k_DO v_DT k_DT) : (Cond.selects "java/lang/StringBuilder" ⟨"java/lang/StringBuilder", "toString", "()Ljava/lang/String;"⟩ ⟨"java/lang/StringBuilder", "toString", "()Ljava/lang/String;"⟩).before a0 Z = true := cx.1 _ (mg 159 rfl)
theorem w160 (cx : Cx a0 Z gC gF v_DO k_DO v_DT k_DT) : (Cond.code ⟨"java/lang/StringBuilder", "toString", "()Ljava/lang/String;"⟩ jdk_67_method_42_code (1 : Nat) (Option.some (FieldType.object "java/lang/String"))).before a0 Z = true := cx.1 _ (mg 160 rfl)
theorem w161 (cx : Cx a0 Z gC gF v_DO k_DO v_DT k_DT) : (Cond.classLink "java/lang/StringBuilder" (18 : Nat) "java/lang/String").before a0 Z = true := cx.1 _ (mg 161 rfl)
theorem w162 (cx : Cx a0 Z gC gF v_DO k_DO v_DT k_DT) : (Cond.methodLink "java/lang/StringBuilder" (137 : Nat) ⟨"java/lang/String", "<init>", "(Ljava/lang/StringBuilder;)V"⟩).before a0 Z = true := cx.1 _ (mg 162 rfl)
theorem w163 (cx : Cx a0 Z gC gF v_DO k_DO v_DT k_DT) : (Cond.instanceMethod ⟨"java/lang/String", "<init>", "(Ljava/lang/StringBuilder;)V"⟩).before a0 Z = true := cx.1 _ (mg 163 rfl)
theorem w164 (cx : Cx a0 Z gC gF v_DO k_DO v_DT k_DT) : (Cond.code ⟨"java/lang/String", "<init>", "(Ljava/lang/StringBuilder;)V"⟩ jdk_42_method_53_code (2 : Nat) (Option.none : Option Jvm.ClassFile.FieldType)).before a0 Z = true := cx.1 _ (mg 164 rfl)
theorem w165 (cx : Cx a0 Z gC gF v_DO k_DO v_DT k_DT) : (Cond.methodLink "java/lang/String" (489 : Nat) ⟨"java/lang/String", "<init>", "(Ljava/lang/AbstractStringBuilder;Ljava/lang/Void;)V"⟩).before a0 Z = true := cx.1 _ (mg 165 rfl)
theorem w166 (cx : Cx a0 Z gC gF v_DO k_DO v_DT k_DT) : (Cond.instanceMethod ⟨"java/lang/String", "<init>", "(Ljava/lang/AbstractStringBuilder;Ljava/lang/Void;)V"⟩).before a0 Z = true := cx.1 _ (mg 166 rfl)
theorem w167 (cx : Cx a0 Z gC gF v_DO k_DO v_DT k_DT) : (Cond.code ⟨"java/lang/String", "<init>", "(Ljava/lang/AbstractStringBuilder;Ljava/lang/Void;)V"⟩ jdk_42_method_150_code (5 : Nat) (Option.none : Option Jvm.ClassFile.FieldType)).before a0 Z = true := cx.1 _ (mg 167 rfl)
theorem w168 (cx : Cx a0 Z gC gF v_DO k_DO v_DT k_DT) : (Cond.methodLink "java/lang/String" (552 : Nat) ⟨"java/lang/AbstractStringBuilder", "getValue", "()[B"⟩).before a0 Z = true := cx.1 _ (mg 168 rfl)
theorem w169 (cx : Cx a0 Z gC gF v_DO k_DO v_DT k_DT) : (Cond.declares ⟨"java/lang/AbstractStringBuilder", "getValue", "()[B"⟩).before a0 Z = true := cx.1 _ (mg 169 rfl)
theorem w170 (cx : Cx a0 Z gC gF v_DO k_DO v_DT k_DT) : (Cond.instanceMethod ⟨"java/lang/AbstractStringBuilder", "getValue", "()[B"⟩).before a0 Z = true := cx.1 _ (mg 170 rfl)
theorem w171 (cx : Cx a0 Z gC gF v_DO k_DO v_DT k_DT) : (Cond.selects "java/lang/StringBuilder" ⟨"java/lang/AbstractStringBuilder", "getValue", "()[B"⟩ ⟨"java/lang/AbstractStringBuilder", "getValue", "()[B"⟩).before a0 Z = true := cx.1 _ (mg 171 rfl)
theorem w172 (cx : Cx a0 Z gC gF v_DO k_DO v_DT k_DT) : (Cond.code ⟨"java/lang/AbstractStringBuilder", "getValue", "()[B"⟩ jdk_68_method_64_code (1 : Nat) (Option.some (FieldType.array FieldType.byte))).before a0 Z = true := cx.1 _ (mg 172 rfl)
theorem w173 (cx : Cx a0 Z gC gF v_DO k_DO v_DT k_DT) : (Cond.methodLink "java/lang/String" (549 : Nat) ⟨"java/lang/AbstractStringBuilder", "length", "()I"⟩).before a0 Z = true := cx.1 _ (mg 173 rfl)
theorem w174 (cx : Cx a0 Z gC gF v_DO k_DO v_DT k_DT) : (Cond.declares ⟨"java/lang/AbstractStringBuilder", "length", "()I"⟩).before a0 Z = true := cx.1 _ (mg 174 rfl)
theorem w175 (cx : Cx a0 Z gC gF v_DO k_DO v_DT k_DT) : (Cond.instanceMethod ⟨"java/lang/AbstractStringBuilder", "length", "()I"⟩).before a0 Z = true := cx.1 _ (mg 175 rfl)
theorem w176 (cx : Cx a0 Z gC gF v_DO k_DO v_DT k_DT) : (Cond.selects "java/lang/StringBuilder" ⟨"java/lang/AbstractStringBuilder", "length", "()I"⟩ ⟨"java/lang/StringBuilder", "length", "()I"⟩).before a0 Z = true := cx.1 _ (mg 176 rfl)
theorem w177 (cx : Cx a0 Z gC gF v_DO k_DO v_DT k_DT) : (Cond.instanceMethod ⟨"java/lang/StringBuilder", "length", "()I"⟩).before a0 Z = true := cx.1 _ (mg 177 rfl)
theorem w178 (cx : Cx a0 Z gC gF v_DO k_DO v_DT k_DT) : (Cond.code ⟨"java/lang/StringBuilder", "length", "()I"⟩ jdk_67_method_93_code (1 : Nat) (Option.some FieldType.int)).before a0 Z = true := cx.1 _ (mg 178 rfl)
theorem w179 (cx : Cx a0 Z gC gF v_DO k_DO v_DT k_DT) : (Cond.methodLink "java/lang/StringBuilder" (343 : Nat) ⟨"java/lang/AbstractStringBuilder", "length", "()I"⟩).before a0 Z = true := cx.1 _ (mg 179 rfl)
theorem w180 (cx : Cx a0 Z gC gF v_DO k_DO v_DT k_DT) : (Cond.code ⟨"java/lang/AbstractStringBuilder", "length", "()I"⟩ jdk_68_method_6_code (1 : Nat) (Option.some FieldType.int)).before a0 Z = true := cx.1 _ (mg 180 rfl)
theorem w181 (cx : Cx a0 Z gC gF v_DO k_DO v_DT k_DT) : (Cond.methodLink "java/lang/String" (1047 : Nat) ⟨"java/lang/AbstractStringBuilder", "isLatin1", "()Z"⟩).before a0 Z = true := cx.1 _ (mg 181 rfl)
theorem w182 (cx : Cx a0 Z gC gF v_DO k_DO v_DT k_DT) : (Cond.methodLink "java/lang/String" (54 : Nat) ⟨"java/util/Arrays", "copyOfRange", "([BII)[B"⟩).before a0 Z = true := cx.1 _ (mg 182 rfl)
theorem w183 (cx : Cx a0 Z gC gF v_DO k_DO v_DT k_DT) : (Cond.static ⟨"java/util/Arrays", "copyOfRange", "([BII)[B"⟩).before a0 Z = true := cx.1 _ (mg 183 rfl)
theorem w184 (cx : Cx a0 Z gC gF v_DO k_DO v_DT k_DT) : (Cond.initialized "java/util/Arrays").before a0 Z = true := cx.1 _ (mg 184 rfl)
theorem w185 (cx : Cx a0 Z gC gF v_DO k_DO v_DT k_DT) : (Cond.code ⟨"java/util/Arrays", "copyOfRange", "([BII)[B"⟩ jdk_65_method_132_code (3 : Nat) (Option.some (FieldType.array FieldType.byte))).before a0 Z = true := cx.1 _ (mg 185 rfl)
theorem w186 (cx : Cx a0 Z gC gF v_DO k_DO v_DT k_DT) : (Cond.methodLink "java/util/Arrays" (339 : Nat) ⟨"java/util/Arrays", "copyOfRangeByte", "([BII)[B"⟩).before a0 Z = true := cx.1 _ (mg 186 rfl)
theorem w187 (cx : Cx a0 Z gC gF v_DO k_DO v_DT k_DT) : (Cond.static ⟨"java/util/Arrays", "copyOfRangeByte", "([BII)[B"⟩).before a0 Z = true := cx.1 _ (mg 187 rfl)
theorem w188 (cx : Cx a0 Z gC gF v_DO k_DO v_DT k_DT) : (Cond.code ⟨"java/util/Arrays", "copyOfRangeByte", "([BII)[B"⟩ jdk_65_method_133_code (5 : Nat) (Option.some (FieldType.array FieldType.byte))).before a0 Z = true := cx.1 _ (mg 188 rfl)
theorem w189 (cx : Cx a0 Z gC gF v_DO k_DO v_DT k_DT) : (Cond.methodLink "java/util/Arrays" (343 : Nat) ⟨"java/util/Arrays", "checkLength", "(II)V"⟩).before a0 Z = true := cx.1 _ (mg 189 rfl)
theorem w190 (cx : Cx a0 Z gC gF v_DO k_DO v_DT k_DT) : (Cond.static ⟨"java/util/Arrays", "checkLength", "(II)V"⟩).before a0 Z = true := cx.1 _ (mg 190 rfl)
theorem w191 (cx : Cx a0 Z gC gF v_DO k_DO v_DT k_DT) : (Cond.code ⟨"java/util/Arrays", "checkLength", "(II)V"⟩ jdk_65_method_131_code (2 : Nat) (Option.none : Option Jvm.ClassFile.FieldType)).before a0 Z = true := cx.1 _ (mg 191 rfl)
theorem w192 (cx : Cx a0 Z gC gF v_DO k_DO v_DT k_DT) : (Cond.methodLink "java/util/Arrays" (304 : Nat) ⟨"java/lang/Math", "min", "(II)I"⟩).before a0 Z = true := cx.1 _ (mg 192 rfl)
theorem w193 (cx : Cx a0 Z gC gF v_DO k_DO v_DT k_DT) : (Cond.static ⟨"java/lang/Math", "min", "(II)I"⟩).before a0 Z = true := cx.1 _ (mg 193 rfl)
theorem w194 (cx : Cx a0 Z gC gF v_DO k_DO v_DT k_DT) : (Cond.initialized "java/lang/Math").before a0 Z = true := cx.1 _ (mg 194 rfl)
theorem w195 (cx : Cx a0 Z gC gF v_DO k_DO v_DT k_DT) : (Cond.code ⟨"java/lang/Math", "min", "(II)I"⟩ jdk_29_method_69_code (2 : Nat) (Option.some FieldType.int)).before a0 Z = true := cx.1 _ (mg 195 rfl)
theorem w196 (cx : Cx a0 Z gC gF v_DO k_DO v_DT k_DT) : (Cond.methodLink "java/util/Arrays" (150 : Nat) ⟨"java/lang/System", "arraycopy", "(Ljava/lang/Object;ILjava/lang/Object;II)V"⟩).before a0 Z = true := cx.1 _ (mg 196 rfl)
theorem w197 (cx : Cx a0 Z gC gF v_DO k_DO v_DT k_DT) : (Cond.methodLink "com/example/need_to_know/needtoknow/ListenAddressToStringPinLaw" (22 : Nat) ⟨"java/lang/String", "length", "()I"⟩).before a0 Z = true := cx.1 _ (mg 197 rfl)
theorem w198 (cx : Cx a0 Z gC gF v_DO k_DO v_DT k_DT) : (Cond.methodLink "com/example/need_to_know/needtoknow/ListenAddressToStringPinLaw" (26 : Nat) ⟨"com/example/need_to_know/needtoknow/ListenAddressToStringPinLaw", "at", "(Ljava/lang/String;IC)Z"⟩).before a0 Z = true := cx.1 _ (mg 198 rfl)
theorem w199 (cx : Cx a0 Z gC gF v_DO k_DO v_DT k_DT) : (Cond.static ⟨"com/example/need_to_know/needtoknow/ListenAddressToStringPinLaw", "at", "(Ljava/lang/String;IC)Z"⟩).before a0 Z = true := cx.1 _ (mg 199 rfl)
theorem w200 (cx : Cx a0 Z gC gF v_DO k_DO v_DT k_DT) : (Cond.initialized "com/example/need_to_know/needtoknow/ListenAddressToStringPinLaw").before a0 Z = true := cx.1 _ (mg 200 rfl)
theorem w201 (cx : Cx a0 Z gC gF v_DO k_DO v_DT k_DT) : (Cond.code ⟨"com/example/need_to_know/needtoknow/ListenAddressToStringPinLaw", "at", "(Ljava/lang/String;IC)Z"⟩ method_3_code (3 : Nat) (Option.some FieldType.boolean)).before a0 Z = true := cx.1 _ (mg 201 rfl)
theorem w202 (cx : Cx a0 Z gC gF v_DO k_DO v_DT k_DT) : (Cond.methodLink "com/example/need_to_know/needtoknow/ListenAddressToStringPinLaw" (36 : Nat) ⟨"java/lang/String", "charAt", "(I)C"⟩).before a0 Z = true := cx.1 _ (mg 202 rfl)
theorem w203 (cx : Cx a0 Z gC gF v_DO k_DO v_DT k_DT) : (Cond.declares ⟨"java/lang/String", "charAt", "(I)C"⟩).before a0 Z = true := cx.1 _ (mg 203 rfl)
theorem w204 (cx : Cx a0 Z gC gF v_DO k_DO v_DT k_DT) : (Cond.instanceMethod ⟨"java/lang/String", "charAt", "(I)C"⟩).before a0 Z = true := cx.1 _ (mg 204 rfl)
theorem w205 (cx : Cx a0 Z gC gF v_DO k_DO v_DT k_DT) : (Cond.selects "java/lang/String" ⟨"java/lang/String", "charAt", "(I)C"⟩ ⟨"java/lang/String", "charAt", "(I)C"⟩).before a0 Z = true := cx.1 _ (mg 205 rfl)
theorem w218 (cx : Cx a0 Z gC gF v_DO k_DO v_DT k_DT) : (Cond.methodLink "com/example/need_to_know/needtoknow/ListenAddressToStringPinLaw" (32 : Nat) ⟨"com/example/need_to_know/needtoknow/ListenAddressToStringPinLaw", "digit", "(Ljava/lang/String;IIII)Z"⟩).before a0 Z = true := cx.1 _ (mg 218 rfl)
theorem w219 (cx : Cx a0 Z gC gF v_DO k_DO v_DT k_DT) : (Cond.static ⟨"com/example/need_to_know/needtoknow/ListenAddressToStringPinLaw", "digit", "(Ljava/lang/String;IIII)Z"⟩).before a0 Z = true := cx.1 _ (mg 219 rfl)
theorem w220 (cx : Cx a0 Z gC gF v_DO k_DO v_DT k_DT) : (Cond.code ⟨"com/example/need_to_know/needtoknow/ListenAddressToStringPinLaw", "digit", "(Ljava/lang/String;IIII)Z"⟩ method_5_code (6 : Nat) (Option.some FieldType.boolean)).before a0 Z = true := cx.1 _ (mg 220 rfl)
theorem w221 (cx : Cx a0 Z gC gF v_DO k_DO v_DT k_DT) : (Cond.methodLink "com/example/need_to_know/needtoknow/ListenAddressToStringPinLaw" (40 : Nat) ⟨"com/example/need_to_know/needtoknow/ListenAddressToStringPinLaw", "pow10", "(I)I"⟩).before a0 Z = true := cx.1 _ (mg 221 rfl)
theorem w222 (cx : Cx a0 Z gC gF v_DO k_DO v_DT k_DT) : (Cond.static ⟨"com/example/need_to_know/needtoknow/ListenAddressToStringPinLaw", "pow10", "(I)I"⟩).before a0 Z = true := cx.1 _ (mg 222 rfl)
theorem w223 (cx : Cx a0 Z gC gF v_DO k_DO v_DT k_DT) : (Cond.code ⟨"com/example/need_to_know/needtoknow/ListenAddressToStringPinLaw", "pow10", "(I)I"⟩ method_4_code (1 : Nat) (Option.some FieldType.int)).before a0 Z = true := cx.1 _ (mg 223 rfl)
theorem w234 (cx : Cx a0 Z gC gF v_DO k_DO v_DT k_DT) : (Cond.methodLink "java/lang/StringLatin1" (99 : Nat) ⟨"java/lang/StringLatin1", "indexOf", "([BI[BII)I"⟩).before a0 Z = true := cx.1 _ (mg 234 rfl)
theorem w235 (cx : Cx a0 Z gC gF v_DO k_DO v_DT k_DT) : (Cond.static ⟨"java/lang/StringLatin1", "indexOf", "([BI[BII)I"⟩).before a0 Z = true := cx.1 _ (mg 235 rfl)
theorem w236 (cx : Cx a0 Z gC gF v_DO k_DO v_DT k_DT) : (Cond.code ⟨"java/lang/StringLatin1", "indexOf", "([BI[BII)I"⟩ jdk_43_method_25_code (11 : Nat) (Option.some FieldType.int)).before a0 Z = true := cx.1 _ (mg 236 rfl)
theorem w237 (cx : Cx a0 Z gC gF v_DO k_DO v_DT k_DT) : (Cond.fieldLink "java/lang/Integer" (87 : Nat) "java/lang/Integer" "DigitTens" "[B").before a0 Z = true := cx.1 _ (mg 237 rfl)
theorem w238 (cx : Cx a0 Z gC gF v_DO k_DO v_DT k_DT) : (Cond.stringLink "com/example/need_to_know/needtoknow/ListenAddress" (33 : Nat) (txt 238)).before a0 Z = true := cx.1 _ (mg 238 rfl)
theorem w239 (cx : Cx a0 Z gC gF v_DO k_DO v_DT k_DT) : (Cond.stringLink "com/example/need_to_know/needtoknow/ListenAddress" (39 : Nat) (txt 239)).before a0 Z = true := cx.1 _ (mg 239 rfl)
theorem S_C {Z : State} {a0 : Array Value} {gC : Int32} {gF : Value} {v_DO : Addr} {k_DO : ClassId} {v_DT : Addr} {k_DT : ClassId} (cx : Cx a0 Z gC gF v_DO k_DO v_DT k_DT) : Sta Z Z.heap "java/lang/String" "COMPACT_STRINGS" "Z" (.int gC) := cx.2.1
theorem N_C {Z : State} {a0 : Array Value} {gC : Int32} {gF : Value} {v_DO : Addr} {k_DO : ClassId} {v_DT : Addr} {k_DT : ClassId} (cx : Cx a0 Z gC gF v_DO k_DO v_DT k_DT) : ¬ gC = (0 : Int32) := cx.2.2.1
theorem S_F {Z : State} {a0 : Array Value} {gC : Int32} {gF : Value} {v_DO : Addr} {k_DO : ClassId} {v_DT : Addr} {k_DT : ClassId} (cx : Cx a0 Z gC gF v_DO k_DO v_DT k_DT) : Sta Z Z.heap "jdk/internal/util/Preconditions" "SIOOBE_FORMATTER" "Ljava/util/function/BiFunction;" gF := cx.2.2.2.1
theorem R_F {Z : State} {a0 : Array Value} {gC : Int32} {gF : Value} {v_DO : Addr} {k_DO : ClassId} {v_DT : Addr} {k_DT : ClassId} (cx : Cx a0 Z gC gF v_DO k_DO v_DT k_DT) : gF.isRef = true := cx.2.2.2.2.1
theorem S_DO {Z : State} {a0 : Array Value} {gC : Int32} {gF : Value} {v_DO : Addr} {k_DO : ClassId} {v_DT : Addr} {k_DT : ClassId} (cx : Cx a0 Z gC gF v_DO k_DO v_DT k_DT) : Sta Z Z.heap "java/lang/Integer" "DigitOnes" "[B" (.ref v_DO) := cx.2.2.2.2.2.1
theorem E_DO {Z : State} {a0 : Array Value} {gC : Int32} {gF : Value} {v_DO : Addr} {k_DO : ClassId} {v_DT : Addr} {k_DT : ClassId} (cx : Cx a0 Z gC gF v_DO k_DO v_DT k_DT) : Exa Z Z.heap v_DO "[B" := cx.2.2.2.2.2.2.1
theorem A_DO {Z : State} {a0 : Array Value} {gC : Int32} {gF : Value} {v_DO : Addr} {k_DO : ClassId} {v_DT : Addr} {k_DT : ClassId} (cx : Cx a0 Z gC gF v_DO k_DO v_DT k_DT) : Arv Z Z.heap v_DO k_DO .byte (100 : Int32) digO (.int 0) := cx.2.2.2.2.2.2.2.1
theorem S_DT {Z : State} {a0 : Array Value} {gC : Int32} {gF : Value} {v_DO : Addr} {k_DO : ClassId} {v_DT : Addr} {k_DT : ClassId} (cx : Cx a0 Z gC gF v_DO k_DO v_DT k_DT) : Sta Z Z.heap "java/lang/Integer" "DigitTens" "[B" (.ref v_DT) := cx.2.2.2.2.2.2.2.2.1
theorem E_DT {Z : State} {a0 : Array Value} {gC : Int32} {gF : Value} {v_DO : Addr} {k_DO : ClassId} {v_DT : Addr} {k_DT : ClassId} (cx : Cx a0 Z gC gF v_DO k_DO v_DT k_DT) : Exa Z Z.heap v_DT "[B" := cx.2.2.2.2.2.2.2.2.2.1
theorem A_DT {Z : State} {a0 : Array Value} {gC : Int32} {gF : Value} {v_DO : Addr} {k_DO : ClassId} {v_DT : Addr} {k_DT : ClassId} (cx : Cx a0 Z gC gF v_DO k_DO v_DT k_DT) : Arv Z Z.heap v_DT k_DT .byte (100 : Int32) digT (.int 0) := cx.2.2.2.2.2.2.2.2.2.2
theorem hws {Z : State} {a0 : Array Value} {gC : Int32} {gF : Value} {v_DO : Addr} {k_DO : ClassId} {v_DT : Addr} {k_DT : ClassId} (cx : Cx a0 Z gC gF v_DO k_DO v_DT k_DT) : ∀ d ∈ StrChars.Road.words, d.before a0 Z = true := fun d hd => cx.1 d ((by decide +kernel : ∀ d ∈ StrChars.Road.words, d ∈ tables_1) d hd)
theorem hln {Z : State} {a0 : Array Value} {gC : Int32} {gF : Value} {v_DO : Addr} {k_DO : ClassId} {v_DT : Addr} {k_DT : ClassId} (cx : Cx a0 Z gC gF v_DO k_DO v_DT k_DT) : ∀ d ∈ StrChars.Road.wordsLen, d.before a0 Z = true := fun d hd => cx.1 d ((by decide +kernel : ∀ d ∈ StrChars.Road.wordsLen, d ∈ tables_1) d hd)
theorem hch {Z : State} {a0 : Array Value} {gC : Int32} {gF : Value} {v_DO : Addr} {k_DO : ClassId} {v_DT : Addr} {k_DT : ClassId} (cx : Cx a0 Z gC gF v_DO k_DO v_DT k_DT) : ∀ d ∈ StrChars.Road.wordsChN, d.before a0 Z = true := fun d hd => cx.1 d ((by decide +kernel : ∀ d ∈ StrChars.Road.wordsChN, d ∈ tables_1) d hd)
theorem strAtoms {Z : State} {a0 : Array Value} {gC : Int32} {gF : Value} {v_DO : Addr} {k_DO : ClassId} {v_DT : Addr} {k_DT : ClassId} (cx : Cx a0 Z gC gF v_DO k_DO v_DT k_DT) : ∀ d ∈ Bundle.stringAtoms, d.before a0 Z = true := fun d hd => cx.1 d ((by decide +kernel : ∀ d ∈ Bundle.stringAtoms, d ∈ tables_1) d hd)
theorem pn0 : plainName "java/lang/String" = true := by first | (simp [plainName, overriddenIn]; done) | decide +kernel
theorem pn1 : plainName "java/lang/AbstractStringBuilder" = true := by first | (simp [plainName, overriddenIn]; done) | decide +kernel
theorem pn2 : plainName "java/lang/StringBuilder" = true := by first | (simp [plainName, overriddenIn]; done) | decide +kernel
theorem pn3 : plainName "java/util/Arrays" = true := by first | (simp [plainName, overriddenIn]; done) | decide +kernel
theorem pn4 : plainName "java/lang/Integer" = true := by first | (simp [plainName, overriddenIn]; done) | decide +kernel
theorem pn5 : plainName "java/lang/StringLatin1" = true := by first | (simp [plainName, overriddenIn]; done) | decide +kernel
theorem pn6 : plainName "com/example/need_to_know/needtoknow/ListenAddress" = true := by first | (simp [plainName, overriddenIn]; done) | decide +kernel
theorem pn7 : plainName "com/example/need_to_know/needtoknow/ListenAddressToStringPinLaw" = true := by first | (simp [plainName, overriddenIn]; done) | decide +kernel
theorem d1_0 : decode jdk_42_method_3_code 0 = .ok (.aload_n 0, 1) := by decide +kernel
theorem d1_1 : decode jdk_42_method_3_code 1 = .ok (.aload_n 1, 1) := by decide +kernel
theorem d1_2 : decode jdk_42_method_3_code 2 = .ok (.iconst 0, 1) := by decide +kernel
theorem d1_3 : decode jdk_42_method_3_code 3 = .ok (.aload_n 1, 1) := by decide +kernel
theorem d1_4 : decode jdk_42_method_3_code 4 = .ok (.arraylength, 1) := by decide +kernel
theorem d1_5 : decode jdk_42_method_3_code 5 = .ok (.aconst_null, 1) := by decide +kernel
theorem d1_6 : decode jdk_42_method_3_code 6 = .ok (.invokespecial 27, 3) := by decide +kernel
theorem d1_9 : decode jdk_42_method_3_code 9 = .ok (.return_, 1) := by decide +kernel
theorem d2_0 : decode jdk_42_method_149_code 0 = .ok (.aload_n 0, 1) := by decide +kernel
theorem d2_1 : decode jdk_42_method_149_code 1 = .ok (.invokespecial 1, 3) := by decide +kernel
theorem d2_4 : decode jdk_42_method_149_code 4 = .ok (.iload_n 3, 1) := by decide +kernel
theorem d2_5 : decode jdk_42_method_149_code 5 = .ok (.ifCond .ne 22, 3) := by decide +kernel
theorem d2_8 : decode jdk_42_method_149_code 8 = .ok (.aload_n 0, 1) := by decide +kernel
theorem d2_9 : decode jdk_42_method_149_code 9 = .ok (.ldc 7, 2) := by decide +kernel
theorem d2_11 : decode jdk_42_method_149_code 11 = .ok (.getfield 9, 3) := by decide +kernel
theorem d2_14 : decode jdk_42_method_149_code 14 = .ok (.putfield 9, 3) := by decide +kernel
theorem d2_17 : decode jdk_42_method_149_code 17 = .ok (.aload_n 0, 1) := by decide +kernel
theorem d2_18 : decode jdk_42_method_149_code 18 = .ok (.ldc 7, 2) := by decide +kernel
theorem d2_20 : decode jdk_42_method_149_code 20 = .ok (.getfield 15, 3) := by decide +kernel
theorem d2_23 : decode jdk_42_method_149_code 23 = .ok (.putfield 15, 3) := by decide +kernel
theorem d2_26 : decode jdk_42_method_149_code 26 = .ok (.return_, 1) := by decide +kernel
theorem d4_0 : decode prog_5_method_1_code 0 = .ok (.aload_n 0, 1) := by decide +kernel
theorem d4_1 : decode prog_5_method_1_code 1 = .ok (.invokespecial 1, 3) := by decide +kernel
theorem d4_4 : decode prog_5_method_1_code 4 = .ok (.aload_n 0, 1) := by decide +kernel
theorem d4_5 : decode prog_5_method_1_code 5 = .ok (.aload_n 1, 1) := by decide +kernel
theorem d4_6 : decode prog_5_method_1_code 6 = .ok (.putfield 7, 3) := by decide +kernel
theorem d4_9 : decode prog_5_method_1_code 9 = .ok (.aload_n 0, 1) := by decide +kernel
theorem d4_10 : decode prog_5_method_1_code 10 = .ok (.iload_n 2, 1) := by decide +kernel
theorem d4_11 : decode prog_5_method_1_code 11 = .ok (.putfield 13, 3) := by decide +kernel
theorem d4_14 : decode prog_5_method_1_code 14 = .ok (.return_, 1) := by decide +kernel
theorem d5_0 : decode prog_5_method_7_code 0 = .ok (.new 91, 3) := by decide +kernel
theorem d5_3 : decode prog_5_method_7_code 3 = .ok (.dup, 1) := by decide +kernel
theorem d5_4 : decode prog_5_method_7_code 4 = .ok (.invokespecial 93, 3) := by decide +kernel
theorem d5_7 : decode prog_5_method_7_code 7 = .ok (.aload_n 0, 1) := by decide +kernel
theorem d5_8 : decode prog_5_method_7_code 8 = .ok (.getfield 7, 3) := by decide +kernel
theorem d5_11 : decode prog_5_method_7_code 11 = .ok (.ldc 55, 2) := by decide +kernel
theorem d5_13 : decode prog_5_method_7_code 13 = .ok (.invokevirtual 57, 3) := by decide +kernel
theorem d5_16 : decode prog_5_method_7_code 16 = .ok (.ifCond .eq 33, 3) := by decide +kernel
theorem d5_19 : decode prog_5_method_7_code 19 = .ok (.new 91, 3) := by decide +kernel
theorem d5_22 : decode prog_5_method_7_code 22 = .ok (.dup, 1) := by decide +kernel
theorem d5_23 : decode prog_5_method_7_code 23 = .ok (.invokespecial 93, 3) := by decide +kernel
theorem d5_26 : decode prog_5_method_7_code 26 = .ok (.ldc 33, 2) := by decide +kernel
theorem d5_28 : decode prog_5_method_7_code 28 = .ok (.invokevirtual 94, 3) := by decide +kernel
theorem d5_31 : decode prog_5_method_7_code 31 = .ok (.aload_n 0, 1) := by decide +kernel
theorem d5_32 : decode prog_5_method_7_code 32 = .ok (.getfield 7, 3) := by decide +kernel
theorem d5_35 : decode prog_5_method_7_code 35 = .ok (.invokevirtual 94, 3) := by decide +kernel
theorem d5_38 : decode prog_5_method_7_code 38 = .ok (.ldc 39, 2) := by decide +kernel
theorem d5_40 : decode prog_5_method_7_code 40 = .ok (.invokevirtual 94, 3) := by decide +kernel
theorem d5_43 : decode prog_5_method_7_code 43 = .ok (.invokevirtual 98, 3) := by decide +kernel
theorem d5_46 : decode prog_5_method_7_code 46 = .ok (.goto 7, 3) := by decide +kernel
theorem d5_49 : decode prog_5_method_7_code 49 = .ok (.aload_n 0, 1) := by decide +kernel
theorem d5_50 : decode prog_5_method_7_code 50 = .ok (.getfield 7, 3) := by decide +kernel
theorem d5_53 : decode prog_5_method_7_code 53 = .ok (.invokevirtual 94, 3) := by decide +kernel
theorem d5_56 : decode prog_5_method_7_code 56 = .ok (.ldc 55, 2) := by decide +kernel
theorem d5_58 : decode prog_5_method_7_code 58 = .ok (.invokevirtual 94, 3) := by decide +kernel
theorem d5_61 : decode prog_5_method_7_code 61 = .ok (.aload_n 0, 1) := by decide +kernel
theorem d5_62 : decode prog_5_method_7_code 62 = .ok (.getfield 13, 3) := by decide +kernel
theorem d5_65 : decode prog_5_method_7_code 65 = .ok (.invokevirtual 102, 3) := by decide +kernel
theorem d5_68 : decode prog_5_method_7_code 68 = .ok (.invokevirtual 98, 3) := by decide +kernel
theorem d5_71 : decode prog_5_method_7_code 71 = .ok (.areturn, 1) := by decide +kernel
theorem d6_0 : decode jdk_67_method_1_code 0 = .ok (.aload_n 0, 1) := by decide +kernel
theorem d6_1 : decode jdk_67_method_1_code 1 = .ok (.bipush 16, 2) := by decide +kernel
theorem d6_3 : decode jdk_67_method_1_code 3 = .ok (.invokespecial 1, 3) := by decide +kernel
theorem d6_6 : decode jdk_67_method_1_code 6 = .ok (.return_, 1) := by decide +kernel
theorem d7_0 : decode jdk_68_method_2_code 0 = .ok (.aload_n 0, 1) := by decide +kernel
theorem d7_1 : decode jdk_68_method_2_code 1 = .ok (.invokespecial 3, 3) := by decide +kernel
theorem d7_4 : decode jdk_68_method_2_code 4 = .ok (.getstatic 18, 3) := by decide +kernel
theorem d7_7 : decode jdk_68_method_2_code 7 = .ok (.ifCond .eq 18, 3) := by decide +kernel
theorem d7_10 : decode jdk_68_method_2_code 10 = .ok (.aload_n 0, 1) := by decide +kernel
theorem d7_11 : decode jdk_68_method_2_code 11 = .ok (.iload_n 1, 1) := by decide +kernel
theorem d7_12 : decode jdk_68_method_2_code 12 = .ok (.newarray .byte, 2) := by decide +kernel
theorem d7_14 : decode jdk_68_method_2_code 14 = .ok (.putfield 15, 3) := by decide +kernel
theorem d7_17 : decode jdk_68_method_2_code 17 = .ok (.aload_n 0, 1) := by decide +kernel
theorem d7_18 : decode jdk_68_method_2_code 18 = .ok (.iconst 0, 1) := by decide +kernel
theorem d7_19 : decode jdk_68_method_2_code 19 = .ok (.putfield 22, 3) := by decide +kernel
theorem d7_22 : decode jdk_68_method_2_code 22 = .ok (.goto 16, 3) := by decide +kernel
theorem d7_38 : decode jdk_68_method_2_code 38 = .ok (.return_, 1) := by decide +kernel
theorem d8_0 : decode jdk_42_method_97_code 0 = .ok (.aload_n 0, 1) := by decide +kernel
theorem d8_1 : decode jdk_42_method_97_code 1 = .ok (.aload_n 1, 1) := by decide +kernel
theorem d8_2 : decode jdk_42_method_97_code 2 = .ok (.invokeinterface 710 1, 5) := by decide +kernel
theorem d8_7 : decode jdk_42_method_97_code 7 = .ok (.invokevirtual 711, 3) := by decide +kernel
theorem d8_10 : decode jdk_42_method_97_code 10 = .ok (.ifCond .lt 7, 3) := by decide +kernel
theorem d8_13 : decode jdk_42_method_97_code 13 = .ok (.iconst 1, 1) := by decide +kernel
theorem d8_14 : decode jdk_42_method_97_code 14 = .ok (.goto 4, 3) := by decide +kernel
theorem d8_17 : decode jdk_42_method_97_code 17 = .ok (.iconst 0, 1) := by decide +kernel
theorem d8_18 : decode jdk_42_method_97_code 18 = .ok (.ireturn, 1) := by decide +kernel
theorem d9_0 : decode jdk_42_method_126_code 0 = .ok (.aload_n 0, 1) := by decide +kernel
theorem d9_1 : decode jdk_42_method_126_code 1 = .ok (.areturn, 1) := by decide +kernel
theorem d10_0 : decode jdk_42_method_84_code 0 = .ok (.aload_n 0, 1) := by decide +kernel
theorem d10_1 : decode jdk_42_method_84_code 1 = .ok (.invokevirtual 335, 3) := by decide +kernel
theorem d10_4 : decode jdk_42_method_84_code 4 = .ok (.istore_n 2, 1) := by decide +kernel
theorem d10_5 : decode jdk_42_method_84_code 5 = .ok (.iload_n 2, 1) := by decide +kernel
theorem d10_6 : decode jdk_42_method_84_code 6 = .ok (.aload_n 1, 1) := by decide +kernel
theorem d10_7 : decode jdk_42_method_84_code 7 = .ok (.invokevirtual 335, 3) := by decide +kernel
theorem d10_10 : decode jdk_42_method_84_code 10 = .ok (.if_icmp .ne 36, 3) := by decide +kernel
theorem d10_13 : decode jdk_42_method_84_code 13 = .ok (.aload_n 0, 1) := by decide +kernel
theorem d10_14 : decode jdk_42_method_84_code 14 = .ok (.invokevirtual 492, 3) := by decide +kernel
theorem d10_17 : decode jdk_42_method_84_code 17 = .ok (.ifCond .eq 17, 3) := by decide +kernel
theorem d10_20 : decode jdk_42_method_84_code 20 = .ok (.aload_n 0, 1) := by decide +kernel
theorem d10_21 : decode jdk_42_method_84_code 21 = .ok (.getfield 9, 3) := by decide +kernel
theorem d10_24 : decode jdk_42_method_84_code 24 = .ok (.aload_n 1, 1) := by decide +kernel
theorem d10_25 : decode jdk_42_method_84_code 25 = .ok (.getfield 9, 3) := by decide +kernel
theorem d10_28 : decode jdk_42_method_84_code 28 = .ok (.invokestatic 647, 3) := by decide +kernel
theorem d10_31 : decode jdk_42_method_84_code 31 = .ok (.goto 14, 3) := by decide +kernel
theorem d10_45 : decode jdk_42_method_84_code 45 = .ok (.ireturn, 1) := by decide +kernel
theorem d11_0 : decode jdk_42_method_152_code 0 = .ok (.getstatic 38, 3) := by decide +kernel
theorem d11_3 : decode jdk_42_method_152_code 3 = .ok (.ifCond .eq 10, 3) := by decide +kernel
theorem d11_6 : decode jdk_42_method_152_code 6 = .ok (.aload_n 0, 1) := by decide +kernel
theorem d11_7 : decode jdk_42_method_152_code 7 = .ok (.getfield 15, 3) := by decide +kernel
theorem d11_10 : decode jdk_42_method_152_code 10 = .ok (.goto 4, 3) := by decide +kernel
theorem d11_14 : decode jdk_42_method_152_code 14 = .ok (.ireturn, 1) := by decide +kernel
theorem d12_0 : decode jdk_42_method_154_code 0 = .ok (.getstatic 38, 3) := by decide +kernel
theorem d12_3 : decode jdk_42_method_154_code 3 = .ok (.ifCond .eq 14, 3) := by decide +kernel
theorem d12_6 : decode jdk_42_method_154_code 6 = .ok (.aload_n 0, 1) := by decide +kernel
theorem d12_7 : decode jdk_42_method_154_code 7 = .ok (.getfield 15, 3) := by decide +kernel
theorem d12_10 : decode jdk_42_method_154_code 10 = .ok (.ifCond .ne 7, 3) := by decide +kernel
theorem d12_13 : decode jdk_42_method_154_code 13 = .ok (.iconst 1, 1) := by decide +kernel
theorem d12_14 : decode jdk_42_method_154_code 14 = .ok (.goto 4, 3) := by decide +kernel
theorem d12_18 : decode jdk_42_method_154_code 18 = .ok (.ireturn, 1) := by decide +kernel
theorem d13_0 : decode jdk_43_method_24_code 0 = .ok (.aload_n 1, 1) := by decide +kernel
theorem d13_1 : decode jdk_43_method_24_code 1 = .ok (.arraylength, 1) := by decide +kernel
theorem d13_2 : decode jdk_43_method_24_code 2 = .ok (.ifCond .ne 5, 3) := by decide +kernel
theorem d13_7 : decode jdk_43_method_24_code 7 = .ok (.aload_n 0, 1) := by decide +kernel
theorem d13_8 : decode jdk_43_method_24_code 8 = .ok (.arraylength, 1) := by decide +kernel
theorem d13_9 : decode jdk_43_method_24_code 9 = .ok (.ifCond .ne 5, 3) := by decide +kernel
theorem d13_12 : decode jdk_43_method_24_code 12 = .ok (.iconst (-1), 1) := by decide +kernel
theorem d13_13 : decode jdk_43_method_24_code 13 = .ok (.ireturn, 1) := by decide +kernel
theorem d13_14 : decode jdk_43_method_24_code 14 = .ok (.aload_n 0, 1) := by decide +kernel
theorem d13_15 : decode jdk_43_method_24_code 15 = .ok (.aload_n 0, 1) := by decide +kernel
theorem d13_16 : decode jdk_43_method_24_code 16 = .ok (.arraylength, 1) := by decide +kernel
theorem d13_17 : decode jdk_43_method_24_code 17 = .ok (.aload_n 1, 1) := by decide +kernel
theorem d13_18 : decode jdk_43_method_24_code 18 = .ok (.aload_n 1, 1) := by decide +kernel
theorem d13_19 : decode jdk_43_method_24_code 19 = .ok (.arraylength, 1) := by decide +kernel
theorem d13_20 : decode jdk_43_method_24_code 20 = .ok (.iconst 0, 1) := by decide +kernel
theorem d13_21 : decode jdk_43_method_24_code 21 = .ok (.invokestatic 99, 3) := by decide +kernel
theorem d13_24 : decode jdk_43_method_24_code 24 = .ok (.ireturn, 1) := by decide +kernel
theorem d14_0 : decode jdk_67_method_7_code 0 = .ok (.aload_n 0, 1) := by decide +kernel
theorem d14_1 : decode jdk_67_method_7_code 1 = .ok (.aload_n 1, 1) := by decide +kernel
theorem d14_2 : decode jdk_67_method_7_code 2 = .ok (.invokespecial 29, 3) := by decide +kernel
theorem d14_5 : decode jdk_67_method_7_code 5 = .ok (.pop, 1) := by decide +kernel
theorem d14_6 : decode jdk_67_method_7_code 6 = .ok (.aload_n 0, 1) := by decide +kernel
theorem d14_7 : decode jdk_67_method_7_code 7 = .ok (.areturn, 1) := by decide +kernel
theorem d15_0 : decode jdk_68_method_22_code 0 = .ok (.aload_n 1, 1) := by decide +kernel
theorem d15_1 : decode jdk_68_method_22_code 1 = .ok (.ifnonnull 8, 3) := by decide +kernel
theorem d15_9 : decode jdk_68_method_22_code 9 = .ok (.aload_n 1, 1) := by decide +kernel
theorem d15_10 : decode jdk_68_method_22_code 10 = .ok (.invokevirtual 32, 3) := by decide +kernel
theorem d15_13 : decode jdk_68_method_22_code 13 = .ok (.istore_n 2, 1) := by decide +kernel
theorem d15_14 : decode jdk_68_method_22_code 14 = .ok (.aload_n 0, 1) := by decide +kernel
theorem d15_15 : decode jdk_68_method_22_code 15 = .ok (.aload_n 0, 1) := by decide +kernel
theorem d15_16 : decode jdk_68_method_22_code 16 = .ok (.getfield 79, 3) := by decide +kernel
theorem d15_19 : decode jdk_68_method_22_code 19 = .ok (.iload_n 2, 1) := by decide +kernel
theorem d15_20 : decode jdk_68_method_22_code 20 = .ok (.iadd, 1) := by decide +kernel
theorem d15_21 : decode jdk_68_method_22_code 21 = .ok (.invokevirtual 100, 3) := by decide +kernel
theorem d15_24 : decode jdk_68_method_22_code 24 = .ok (.aload_n 0, 1) := by decide +kernel
theorem d15_25 : decode jdk_68_method_22_code 25 = .ok (.aload_n 0, 1) := by decide +kernel
theorem d15_26 : decode jdk_68_method_22_code 26 = .ok (.getfield 79, 3) := by decide +kernel
theorem d15_29 : decode jdk_68_method_22_code 29 = .ok (.aload_n 1, 1) := by decide +kernel
theorem d15_30 : decode jdk_68_method_22_code 30 = .ok (.invokevirtual 208, 3) := by decide +kernel
theorem d15_33 : decode jdk_68_method_22_code 33 = .ok (.aload_n 0, 1) := by decide +kernel
theorem d15_34 : decode jdk_68_method_22_code 34 = .ok (.dup, 1) := by decide +kernel
theorem d15_35 : decode jdk_68_method_22_code 35 = .ok (.getfield 79, 3) := by decide +kernel
theorem d15_38 : decode jdk_68_method_22_code 38 = .ok (.iload_n 2, 1) := by decide +kernel
theorem d15_39 : decode jdk_68_method_22_code 39 = .ok (.iadd, 1) := by decide +kernel
theorem d15_40 : decode jdk_68_method_22_code 40 = .ok (.putfield 79, 3) := by decide +kernel
theorem d15_43 : decode jdk_68_method_22_code 43 = .ok (.aload_n 0, 1) := by decide +kernel
theorem d15_44 : decode jdk_68_method_22_code 44 = .ok (.areturn, 1) := by decide +kernel
theorem d17_0 : decode jdk_68_method_9_code 0 = .ok (.aload_n 0, 1) := by decide +kernel
theorem d17_1 : decode jdk_68_method_9_code 1 = .ok (.getfield 15, 3) := by decide +kernel
theorem d17_4 : decode jdk_68_method_9_code 4 = .ok (.arraylength, 1) := by decide +kernel
theorem d17_5 : decode jdk_68_method_9_code 5 = .ok (.aload_n 0, 1) := by decide +kernel
theorem d17_6 : decode jdk_68_method_9_code 6 = .ok (.getfield 22, 3) := by decide +kernel
theorem d17_9 : decode jdk_68_method_9_code 9 = .ok (.ishr, 1) := by decide +kernel
theorem d17_10 : decode jdk_68_method_9_code 10 = .ok (.istore_n 2, 1) := by decide +kernel
theorem d17_11 : decode jdk_68_method_9_code 11 = .ok (.iload_n 1, 1) := by decide +kernel
theorem d17_12 : decode jdk_68_method_9_code 12 = .ok (.iload_n 2, 1) := by decide +kernel
theorem d17_13 : decode jdk_68_method_9_code 13 = .ok (.isub, 1) := by decide +kernel
theorem d17_14 : decode jdk_68_method_9_code 14 = .ok (.ifCond .le 24, 3) := by decide +kernel
theorem d17_38 : decode jdk_68_method_9_code 38 = .ok (.return_, 1) := by decide +kernel
theorem d18_0 : decode jdk_68_method_73_code 0 = .ok (.aload_n 0, 1) := by decide +kernel
theorem d18_1 : decode jdk_68_method_73_code 1 = .ok (.aload_n 2, 1) := by decide +kernel
theorem d18_2 : decode jdk_68_method_73_code 2 = .ok (.invokevirtual 397, 3) := by decide +kernel
theorem d18_5 : decode jdk_68_method_73_code 5 = .ok (.aload_n 2, 1) := by decide +kernel
theorem d18_6 : decode jdk_68_method_73_code 6 = .ok (.aload_n 0, 1) := by decide +kernel
theorem d18_7 : decode jdk_68_method_73_code 7 = .ok (.getfield 15, 3) := by decide +kernel
theorem d18_10 : decode jdk_68_method_73_code 10 = .ok (.iload_n 1, 1) := by decide +kernel
theorem d18_11 : decode jdk_68_method_73_code 11 = .ok (.aload_n 0, 1) := by decide +kernel
theorem d18_12 : decode jdk_68_method_73_code 12 = .ok (.getfield 22, 3) := by decide +kernel
theorem d18_15 : decode jdk_68_method_73_code 15 = .ok (.invokevirtual 399, 3) := by decide +kernel
theorem d18_18 : decode jdk_68_method_73_code 18 = .ok (.return_, 1) := by decide +kernel
theorem d19_0 : decode jdk_68_method_71_code 0 = .ok (.getstatic 18, 3) := by decide +kernel
theorem d19_3 : decode jdk_68_method_71_code 3 = .ok (.ifCond .eq 18, 3) := by decide +kernel
theorem d19_6 : decode jdk_68_method_71_code 6 = .ok (.aload_n 0, 1) := by decide +kernel
theorem d19_7 : decode jdk_68_method_71_code 7 = .ok (.getfield 22, 3) := by decide +kernel
theorem d19_10 : decode jdk_68_method_71_code 10 = .ok (.aload_n 1, 1) := by decide +kernel
theorem d19_11 : decode jdk_68_method_71_code 11 = .ok (.invokevirtual 40, 3) := by decide +kernel
theorem d19_14 : decode jdk_68_method_71_code 14 = .ok (.if_icmp .eq 7, 3) := by decide +kernel
theorem d19_21 : decode jdk_68_method_71_code 21 = .ok (.return_, 1) := by decide +kernel
theorem d20_0 : decode jdk_42_method_147_code 0 = .ok (.aload_n 0, 1) := by decide +kernel
theorem d20_1 : decode jdk_42_method_147_code 1 = .ok (.invokevirtual 335, 3) := by decide +kernel
theorem d20_4 : decode jdk_42_method_147_code 4 = .ok (.iload_n 3, 1) := by decide +kernel
theorem d20_5 : decode jdk_42_method_147_code 5 = .ok (.if_icmp .ne 23, 3) := by decide +kernel
theorem d20_8 : decode jdk_42_method_147_code 8 = .ok (.aload_n 0, 1) := by decide +kernel
theorem d20_9 : decode jdk_42_method_147_code 9 = .ok (.getfield 9, 3) := by decide +kernel
theorem d20_12 : decode jdk_42_method_147_code 12 = .ok (.iconst 0, 1) := by decide +kernel
theorem d20_13 : decode jdk_42_method_147_code 13 = .ok (.aload_n 1, 1) := by decide +kernel
theorem d20_14 : decode jdk_42_method_147_code 14 = .ok (.iload_n 2, 1) := by decide +kernel
theorem d20_15 : decode jdk_42_method_147_code 15 = .ok (.iload_n 3, 1) := by decide +kernel
theorem d20_16 : decode jdk_42_method_147_code 16 = .ok (.ishl, 1) := by decide +kernel
theorem d20_17 : decode jdk_42_method_147_code 17 = .ok (.aload_n 0, 1) := by decide +kernel
theorem d20_18 : decode jdk_42_method_147_code 18 = .ok (.getfield 9, 3) := by decide +kernel
theorem d20_21 : decode jdk_42_method_147_code 21 = .ok (.arraylength, 1) := by decide +kernel
theorem d20_22 : decode jdk_42_method_147_code 22 = .ok (.invokestatic 212, 3) := by decide +kernel
theorem d20_25 : decode jdk_42_method_147_code 25 = .ok (.goto 18, 3) := by decide +kernel
theorem d20_43 : decode jdk_42_method_147_code 43 = .ok (.return_, 1) := by decide +kernel
theorem d21_0 : decode jdk_67_method_15_code 0 = .ok (.aload_n 0, 1) := by decide +kernel
theorem d21_1 : decode jdk_67_method_15_code 1 = .ok (.iload_n 1, 1) := by decide +kernel
theorem d21_2 : decode jdk_67_method_15_code 2 = .ok (.invokespecial 53, 3) := by decide +kernel
theorem d21_5 : decode jdk_67_method_15_code 5 = .ok (.pop, 1) := by decide +kernel
theorem d21_6 : decode jdk_67_method_15_code 6 = .ok (.aload_n 0, 1) := by decide +kernel
theorem d21_7 : decode jdk_67_method_15_code 7 = .ok (.areturn, 1) := by decide +kernel
theorem d22_0 : decode jdk_68_method_32_code 0 = .ok (.aload_n 0, 1) := by decide +kernel
theorem d22_1 : decode jdk_68_method_32_code 1 = .ok (.getfield 79, 3) := by decide +kernel
theorem d22_4 : decode jdk_68_method_32_code 4 = .ok (.istore_n 2, 1) := by decide +kernel
theorem d22_5 : decode jdk_68_method_32_code 5 = .ok (.iload_n 2, 1) := by decide +kernel
theorem d22_6 : decode jdk_68_method_32_code 6 = .ok (.iload_n 1, 1) := by decide +kernel
theorem d22_7 : decode jdk_68_method_32_code 7 = .ok (.invokestatic 245, 3) := by decide +kernel
theorem d22_10 : decode jdk_68_method_32_code 10 = .ok (.iadd, 1) := by decide +kernel
theorem d22_11 : decode jdk_68_method_32_code 11 = .ok (.istore_n 3, 1) := by decide +kernel
theorem d22_12 : decode jdk_68_method_32_code 12 = .ok (.aload_n 0, 1) := by decide +kernel
theorem d22_13 : decode jdk_68_method_32_code 13 = .ok (.iload_n 3, 1) := by decide +kernel
theorem d22_14 : decode jdk_68_method_32_code 14 = .ok (.invokevirtual 100, 3) := by decide +kernel
theorem d22_17 : decode jdk_68_method_32_code 17 = .ok (.aload_n 0, 1) := by decide +kernel
theorem d22_18 : decode jdk_68_method_32_code 18 = .ok (.invokevirtual 83, 3) := by decide +kernel
theorem d22_21 : decode jdk_68_method_32_code 21 = .ok (.ifCond .eq 16, 3) := by decide +kernel
theorem d22_24 : decode jdk_68_method_32_code 24 = .ok (.iload_n 1, 1) := by decide +kernel
theorem d22_25 : decode jdk_68_method_32_code 25 = .ok (.iload_n 3, 1) := by decide +kernel
theorem d22_26 : decode jdk_68_method_32_code 26 = .ok (.aload_n 0, 1) := by decide +kernel
theorem d22_27 : decode jdk_68_method_32_code 27 = .ok (.getfield 15, 3) := by decide +kernel
theorem d22_30 : decode jdk_68_method_32_code 30 = .ok (.invokestatic 248, 3) := by decide +kernel
theorem d22_33 : decode jdk_68_method_32_code 33 = .ok (.pop, 1) := by decide +kernel
theorem d22_34 : decode jdk_68_method_32_code 34 = .ok (.goto 14, 3) := by decide +kernel
theorem d22_48 : decode jdk_68_method_32_code 48 = .ok (.aload_n 0, 1) := by decide +kernel
theorem d22_49 : decode jdk_68_method_32_code 49 = .ok (.iload_n 3, 1) := by decide +kernel
theorem d22_50 : decode jdk_68_method_32_code 50 = .ok (.putfield 79, 3) := by decide +kernel
theorem d22_53 : decode jdk_68_method_32_code 53 = .ok (.aload_n 0, 1) := by decide +kernel
theorem d22_54 : decode jdk_68_method_32_code 54 = .ok (.areturn, 1) := by decide +kernel
theorem d23_0 : decode jdk_33_method_13_code 0 = .ok (.iconst 1, 1) := by decide +kernel
theorem d23_1 : decode jdk_33_method_13_code 1 = .ok (.istore_n 1, 1) := by decide +kernel
theorem d23_2 : decode jdk_33_method_13_code 2 = .ok (.iload_n 0, 1) := by decide +kernel
theorem d23_3 : decode jdk_33_method_13_code 3 = .ok (.ifCond .lt 8, 3) := by decide +kernel
theorem d23_6 : decode jdk_33_method_13_code 6 = .ok (.iconst 0, 1) := by decide +kernel
theorem d23_7 : decode jdk_33_method_13_code 7 = .ok (.istore_n 1, 1) := by decide +kernel
theorem d23_8 : decode jdk_33_method_13_code 8 = .ok (.iload_n 0, 1) := by decide +kernel
theorem d23_9 : decode jdk_33_method_13_code 9 = .ok (.ineg, 1) := by decide +kernel
theorem d23_10 : decode jdk_33_method_13_code 10 = .ok (.istore_n 0, 1) := by decide +kernel
theorem d23_11 : decode jdk_33_method_13_code 11 = .ok (.bipush (-10), 2) := by decide +kernel
theorem d23_13 : decode jdk_33_method_13_code 13 = .ok (.istore_n 2, 1) := by decide +kernel
theorem d23_14 : decode jdk_33_method_13_code 14 = .ok (.iconst 1, 1) := by decide +kernel
theorem d23_15 : decode jdk_33_method_13_code 15 = .ok (.istore_n 3, 1) := by decide +kernel
theorem d23_16 : decode jdk_33_method_13_code 16 = .ok (.iload_n 3, 1) := by decide +kernel
theorem d23_17 : decode jdk_33_method_13_code 17 = .ok (.bipush 10, 2) := by decide +kernel
theorem d23_19 : decode jdk_33_method_13_code 19 = .ok (.if_icmp .ge 23, 3) := by decide +kernel
theorem d23_22 : decode jdk_33_method_13_code 22 = .ok (.iload_n 0, 1) := by decide +kernel
theorem d23_23 : decode jdk_33_method_13_code 23 = .ok (.iload_n 2, 1) := by decide +kernel
theorem d23_24 : decode jdk_33_method_13_code 24 = .ok (.if_icmp .le 7, 3) := by decide +kernel
theorem d23_27 : decode jdk_33_method_13_code 27 = .ok (.iload_n 3, 1) := by decide +kernel
theorem d23_28 : decode jdk_33_method_13_code 28 = .ok (.iload_n 1, 1) := by decide +kernel
theorem d23_29 : decode jdk_33_method_13_code 29 = .ok (.iadd, 1) := by decide +kernel
theorem d23_30 : decode jdk_33_method_13_code 30 = .ok (.ireturn, 1) := by decide +kernel
theorem d23_31 : decode jdk_33_method_13_code 31 = .ok (.bipush 10, 2) := by decide +kernel
theorem d23_33 : decode jdk_33_method_13_code 33 = .ok (.iload_n 2, 1) := by decide +kernel
theorem d23_34 : decode jdk_33_method_13_code 34 = .ok (.imul, 1) := by decide +kernel
theorem d23_35 : decode jdk_33_method_13_code 35 = .ok (.istore_n 2, 1) := by decide +kernel
theorem d23_36 : decode jdk_33_method_13_code 36 = .ok (.iinc 3 1, 3) := by decide +kernel
theorem d23_39 : decode jdk_33_method_13_code 39 = .ok (.goto (-23), 3) := by decide +kernel
theorem d24_0 : decode jdk_68_method_68_code 0 = .ok (.getstatic 18, 3) := by decide +kernel
theorem d24_3 : decode jdk_68_method_68_code 3 = .ok (.ifCond .eq 14, 3) := by decide +kernel
theorem d24_6 : decode jdk_68_method_68_code 6 = .ok (.aload_n 0, 1) := by decide +kernel
theorem d24_7 : decode jdk_68_method_68_code 7 = .ok (.getfield 22, 3) := by decide +kernel
theorem d24_10 : decode jdk_68_method_68_code 10 = .ok (.ifCond .ne 7, 3) := by decide +kernel
theorem d24_13 : decode jdk_68_method_68_code 13 = .ok (.iconst 1, 1) := by decide +kernel
theorem d24_14 : decode jdk_68_method_68_code 14 = .ok (.goto 4, 3) := by decide +kernel
theorem d24_18 : decode jdk_68_method_68_code 18 = .ok (.ireturn, 1) := by decide +kernel
theorem d25_0 : decode jdk_33_method_12_code 0 = .ok (.iload_n 1, 1) := by decide +kernel
theorem d25_1 : decode jdk_33_method_12_code 1 = .ok (.istore 5, 2) := by decide +kernel
theorem d25_3 : decode jdk_33_method_12_code 3 = .ok (.iload_n 0, 1) := by decide +kernel
theorem d25_4 : decode jdk_33_method_12_code 4 = .ok (.ifCond .ge 7, 3) := by decide +kernel
theorem d25_11 : decode jdk_33_method_12_code 11 = .ok (.iconst 0, 1) := by decide +kernel
theorem d25_12 : decode jdk_33_method_12_code 12 = .ok (.istore 6, 2) := by decide +kernel
theorem d25_14 : decode jdk_33_method_12_code 14 = .ok (.iload 6, 2) := by decide +kernel
theorem d25_16 : decode jdk_33_method_12_code 16 = .ok (.ifCond .ne 6, 3) := by decide +kernel
theorem d25_19 : decode jdk_33_method_12_code 19 = .ok (.iload_n 0, 1) := by decide +kernel
theorem d25_20 : decode jdk_33_method_12_code 20 = .ok (.ineg, 1) := by decide +kernel
theorem d25_21 : decode jdk_33_method_12_code 21 = .ok (.istore_n 0, 1) := by decide +kernel
theorem d25_22 : decode jdk_33_method_12_code 22 = .ok (.iload_n 0, 1) := by decide +kernel
theorem d25_23 : decode jdk_33_method_12_code 23 = .ok (.bipush (-100), 2) := by decide +kernel
theorem d25_25 : decode jdk_33_method_12_code 25 = .ok (.if_icmp .gt 47, 3) := by decide +kernel
theorem d25_28 : decode jdk_33_method_12_code 28 = .ok (.iload_n 0, 1) := by decide +kernel
theorem d25_29 : decode jdk_33_method_12_code 29 = .ok (.bipush 100, 2) := by decide +kernel
theorem d25_31 : decode jdk_33_method_12_code 31 = .ok (.idiv, 1) := by decide +kernel
theorem d25_32 : decode jdk_33_method_12_code 32 = .ok (.istore_n 3, 1) := by decide +kernel
theorem d25_33 : decode jdk_33_method_12_code 33 = .ok (.iload_n 3, 1) := by decide +kernel
theorem d25_34 : decode jdk_33_method_12_code 34 = .ok (.bipush 100, 2) := by decide +kernel
theorem d25_36 : decode jdk_33_method_12_code 36 = .ok (.imul, 1) := by decide +kernel
theorem d25_37 : decode jdk_33_method_12_code 37 = .ok (.iload_n 0, 1) := by decide +kernel
theorem d25_38 : decode jdk_33_method_12_code 38 = .ok (.isub, 1) := by decide +kernel
theorem d25_39 : decode jdk_33_method_12_code 39 = .ok (.istore 4, 2) := by decide +kernel
theorem d25_41 : decode jdk_33_method_12_code 41 = .ok (.iload_n 3, 1) := by decide +kernel
theorem d25_42 : decode jdk_33_method_12_code 42 = .ok (.istore_n 0, 1) := by decide +kernel
theorem d25_43 : decode jdk_33_method_12_code 43 = .ok (.aload_n 2, 1) := by decide +kernel
theorem d25_44 : decode jdk_33_method_12_code 44 = .ok (.iinc 5 (-1), 3) := by decide +kernel
theorem d25_47 : decode jdk_33_method_12_code 47 = .ok (.iload 5, 2) := by decide +kernel
theorem d25_49 : decode jdk_33_method_12_code 49 = .ok (.getstatic 83, 3) := by decide +kernel
theorem d25_52 : decode jdk_33_method_12_code 52 = .ok (.iload 4, 2) := by decide +kernel
theorem d25_54 : decode jdk_33_method_12_code 54 = .ok (.baload, 1) := by decide +kernel
theorem d25_55 : decode jdk_33_method_12_code 55 = .ok (.bastore, 1) := by decide +kernel
theorem d25_56 : decode jdk_33_method_12_code 56 = .ok (.aload_n 2, 1) := by decide +kernel
theorem d25_57 : decode jdk_33_method_12_code 57 = .ok (.iinc 5 (-1), 3) := by decide +kernel
theorem d25_60 : decode jdk_33_method_12_code 60 = .ok (.iload 5, 2) := by decide +kernel
theorem d25_62 : decode jdk_33_method_12_code 62 = .ok (.getstatic 87, 3) := by decide +kernel
theorem d25_65 : decode jdk_33_method_12_code 65 = .ok (.iload 4, 2) := by decide +kernel
theorem d25_67 : decode jdk_33_method_12_code 67 = .ok (.baload, 1) := by decide +kernel
theorem d25_68 : decode jdk_33_method_12_code 68 = .ok (.bastore, 1) := by decide +kernel
theorem d25_69 : decode jdk_33_method_12_code 69 = .ok (.goto (-47), 3) := by decide +kernel
theorem d25_72 : decode jdk_33_method_12_code 72 = .ok (.aload_n 2, 1) := by decide +kernel
theorem d25_73 : decode jdk_33_method_12_code 73 = .ok (.iinc 5 (-1), 3) := by decide +kernel
theorem d25_76 : decode jdk_33_method_12_code 76 = .ok (.iload 5, 2) := by decide +kernel
theorem d25_78 : decode jdk_33_method_12_code 78 = .ok (.getstatic 83, 3) := by decide +kernel
theorem d25_81 : decode jdk_33_method_12_code 81 = .ok (.iload_n 0, 1) := by decide +kernel
theorem d25_82 : decode jdk_33_method_12_code 82 = .ok (.ineg, 1) := by decide +kernel
theorem d25_83 : decode jdk_33_method_12_code 83 = .ok (.baload, 1) := by decide +kernel
theorem d25_84 : decode jdk_33_method_12_code 84 = .ok (.bastore, 1) := by decide +kernel
theorem d25_85 : decode jdk_33_method_12_code 85 = .ok (.iload_n 0, 1) := by decide +kernel
theorem d25_86 : decode jdk_33_method_12_code 86 = .ok (.bipush (-9), 2) := by decide +kernel
theorem d25_88 : decode jdk_33_method_12_code 88 = .ok (.if_icmp .ge 16, 3) := by decide +kernel
theorem d25_91 : decode jdk_33_method_12_code 91 = .ok (.aload_n 2, 1) := by decide +kernel
theorem d25_92 : decode jdk_33_method_12_code 92 = .ok (.iinc 5 (-1), 3) := by decide +kernel
theorem d25_95 : decode jdk_33_method_12_code 95 = .ok (.iload 5, 2) := by decide +kernel
theorem d25_97 : decode jdk_33_method_12_code 97 = .ok (.getstatic 87, 3) := by decide +kernel
theorem d25_100 : decode jdk_33_method_12_code 100 = .ok (.iload_n 0, 1) := by decide +kernel
theorem d25_101 : decode jdk_33_method_12_code 101 = .ok (.ineg, 1) := by decide +kernel
theorem d25_102 : decode jdk_33_method_12_code 102 = .ok (.baload, 1) := by decide +kernel
theorem d25_103 : decode jdk_33_method_12_code 103 = .ok (.bastore, 1) := by decide +kernel
theorem d25_104 : decode jdk_33_method_12_code 104 = .ok (.iload 6, 2) := by decide +kernel
theorem d25_106 : decode jdk_33_method_12_code 106 = .ok (.ifCond .eq 12, 3) := by decide +kernel
theorem d25_118 : decode jdk_33_method_12_code 118 = .ok (.iload 5, 2) := by decide +kernel
theorem d25_120 : decode jdk_33_method_12_code 120 = .ok (.ireturn, 1) := by decide +kernel
theorem d26_0 : decode jdk_67_method_42_code 0 = .ok (.new 18, 3) := by decide +kernel
theorem d26_3 : decode jdk_67_method_42_code 3 = .ok (.dup, 1) := by decide +kernel
theorem d26_4 : decode jdk_67_method_42_code 4 = .ok (.aload_n 0, 1) := by decide +kernel
theorem d26_5 : decode jdk_67_method_42_code 5 = .ok (.invokespecial 137, 3) := by decide +kernel
theorem d26_8 : decode jdk_67_method_42_code 8 = .ok (.areturn, 1) := by decide +kernel
theorem d27_0 : decode jdk_42_method_53_code 0 = .ok (.aload_n 0, 1) := by decide +kernel
theorem d27_1 : decode jdk_42_method_53_code 1 = .ok (.aload_n 1, 1) := by decide +kernel
theorem d27_2 : decode jdk_42_method_53_code 2 = .ok (.aconst_null, 1) := by decide +kernel
theorem d27_3 : decode jdk_42_method_53_code 3 = .ok (.invokespecial 489, 3) := by decide +kernel
theorem d27_6 : decode jdk_42_method_53_code 6 = .ok (.return_, 1) := by decide +kernel
theorem d28_0 : decode jdk_42_method_150_code 0 = .ok (.aload_n 0, 1) := by decide +kernel
theorem d28_1 : decode jdk_42_method_150_code 1 = .ok (.invokespecial 1, 3) := by decide +kernel
theorem d28_4 : decode jdk_42_method_150_code 4 = .ok (.aload_n 1, 1) := by decide +kernel
theorem d28_5 : decode jdk_42_method_150_code 5 = .ok (.invokevirtual 552, 3) := by decide +kernel
theorem d28_8 : decode jdk_42_method_150_code 8 = .ok (.astore_n 3, 1) := by decide +kernel
theorem d28_9 : decode jdk_42_method_150_code 9 = .ok (.aload_n 1, 1) := by decide +kernel
theorem d28_10 : decode jdk_42_method_150_code 10 = .ok (.invokevirtual 549, 3) := by decide +kernel
theorem d28_13 : decode jdk_42_method_150_code 13 = .ok (.istore 4, 2) := by decide +kernel
theorem d28_15 : decode jdk_42_method_150_code 15 = .ok (.aload_n 1, 1) := by decide +kernel
theorem d28_16 : decode jdk_42_method_150_code 16 = .ok (.invokevirtual 1047, 3) := by decide +kernel
theorem d28_19 : decode jdk_42_method_150_code 19 = .ok (.ifCond .eq 22, 3) := by decide +kernel
theorem d28_22 : decode jdk_42_method_150_code 22 = .ok (.aload_n 0, 1) := by decide +kernel
theorem d28_23 : decode jdk_42_method_150_code 23 = .ok (.iconst 0, 1) := by decide +kernel
theorem d28_24 : decode jdk_42_method_150_code 24 = .ok (.putfield 15, 3) := by decide +kernel
theorem d28_27 : decode jdk_42_method_150_code 27 = .ok (.aload_n 0, 1) := by decide +kernel
theorem d28_28 : decode jdk_42_method_150_code 28 = .ok (.aload_n 3, 1) := by decide +kernel
theorem d28_29 : decode jdk_42_method_150_code 29 = .ok (.iconst 0, 1) := by decide +kernel
theorem d28_30 : decode jdk_42_method_150_code 30 = .ok (.iload 4, 2) := by decide +kernel
theorem d28_32 : decode jdk_42_method_150_code 32 = .ok (.invokestatic 54, 3) := by decide +kernel
theorem d28_35 : decode jdk_42_method_150_code 35 = .ok (.putfield 9, 3) := by decide +kernel
theorem d28_38 : decode jdk_42_method_150_code 38 = .ok (.goto 59, 3) := by decide +kernel
theorem d28_97 : decode jdk_42_method_150_code 97 = .ok (.return_, 1) := by decide +kernel
theorem d29_0 : decode jdk_68_method_64_code 0 = .ok (.aload_n 0, 1) := by decide +kernel
theorem d29_1 : decode jdk_68_method_64_code 1 = .ok (.getfield 15, 3) := by decide +kernel
theorem d29_4 : decode jdk_68_method_64_code 4 = .ok (.areturn, 1) := by decide +kernel
theorem d30_0 : decode jdk_67_method_93_code 0 = .ok (.aload_n 0, 1) := by decide +kernel
theorem d30_1 : decode jdk_67_method_93_code 1 = .ok (.invokespecial 343, 3) := by decide +kernel
theorem d30_4 : decode jdk_67_method_93_code 4 = .ok (.ireturn, 1) := by decide +kernel
theorem d31_0 : decode jdk_68_method_6_code 0 = .ok (.aload_n 0, 1) := by decide +kernel
theorem d31_1 : decode jdk_68_method_6_code 1 = .ok (.getfield 79, 3) := by decide +kernel
theorem d31_4 : decode jdk_68_method_6_code 4 = .ok (.ireturn, 1) := by decide +kernel
theorem d32_0 : decode jdk_65_method_132_code 0 = .ok (.iload_n 1, 1) := by decide +kernel
theorem d32_1 : decode jdk_65_method_132_code 1 = .ok (.ifCond .ne 9, 3) := by decide +kernel
theorem d32_4 : decode jdk_65_method_132_code 4 = .ok (.iload_n 2, 1) := by decide +kernel
theorem d32_5 : decode jdk_65_method_132_code 5 = .ok (.aload_n 0, 1) := by decide +kernel
theorem d32_6 : decode jdk_65_method_132_code 6 = .ok (.arraylength, 1) := by decide +kernel
theorem d32_7 : decode jdk_65_method_132_code 7 = .ok (.if_icmp .eq 10, 3) := by decide +kernel
theorem d32_10 : decode jdk_65_method_132_code 10 = .ok (.aload_n 0, 1) := by decide +kernel
theorem d32_11 : decode jdk_65_method_132_code 11 = .ok (.iload_n 1, 1) := by decide +kernel
theorem d32_12 : decode jdk_65_method_132_code 12 = .ok (.iload_n 2, 1) := by decide +kernel
theorem d32_13 : decode jdk_65_method_132_code 13 = .ok (.invokestatic 339, 3) := by decide +kernel
theorem d32_16 : decode jdk_65_method_132_code 16 = .ok (.areturn, 1) := by decide +kernel
theorem d33_0 : decode jdk_65_method_133_code 0 = .ok (.iload_n 1, 1) := by decide +kernel
theorem d33_1 : decode jdk_65_method_133_code 1 = .ok (.iload_n 2, 1) := by decide +kernel
theorem d33_2 : decode jdk_65_method_133_code 2 = .ok (.invokestatic 343, 3) := by decide +kernel
theorem d33_5 : decode jdk_65_method_133_code 5 = .ok (.iload_n 2, 1) := by decide +kernel
theorem d33_6 : decode jdk_65_method_133_code 6 = .ok (.iload_n 1, 1) := by decide +kernel
theorem d33_7 : decode jdk_65_method_133_code 7 = .ok (.isub, 1) := by decide +kernel
theorem d33_8 : decode jdk_65_method_133_code 8 = .ok (.istore_n 3, 1) := by decide +kernel
theorem d33_9 : decode jdk_65_method_133_code 9 = .ok (.iload_n 3, 1) := by decide +kernel
theorem d33_10 : decode jdk_65_method_133_code 10 = .ok (.newarray .byte, 2) := by decide +kernel
theorem d33_12 : decode jdk_65_method_133_code 12 = .ok (.astore 4, 2) := by decide +kernel
theorem d33_14 : decode jdk_65_method_133_code 14 = .ok (.aload_n 0, 1) := by decide +kernel
theorem d33_15 : decode jdk_65_method_133_code 15 = .ok (.iload_n 1, 1) := by decide +kernel
theorem d33_16 : decode jdk_65_method_133_code 16 = .ok (.aload 4, 2) := by decide +kernel
theorem d33_18 : decode jdk_65_method_133_code 18 = .ok (.iconst 0, 1) := by decide +kernel
theorem d33_19 : decode jdk_65_method_133_code 19 = .ok (.aload_n 0, 1) := by decide +kernel
theorem d33_20 : decode jdk_65_method_133_code 20 = .ok (.arraylength, 1) := by decide +kernel
theorem d33_21 : decode jdk_65_method_133_code 21 = .ok (.iload_n 1, 1) := by decide +kernel
theorem d33_22 : decode jdk_65_method_133_code 22 = .ok (.isub, 1) := by decide +kernel
theorem d33_23 : decode jdk_65_method_133_code 23 = .ok (.iload_n 3, 1) := by decide +kernel
theorem d33_24 : decode jdk_65_method_133_code 24 = .ok (.invokestatic 304, 3) := by decide +kernel
theorem d33_27 : decode jdk_65_method_133_code 27 = .ok (.invokestatic 150, 3) := by decide +kernel
theorem d33_30 : decode jdk_65_method_133_code 30 = .ok (.aload 4, 2) := by decide +kernel
theorem d33_32 : decode jdk_65_method_133_code 32 = .ok (.areturn, 1) := by decide +kernel
theorem d34_0 : decode jdk_65_method_131_code 0 = .ok (.iload_n 1, 1) := by decide +kernel
theorem d34_1 : decode jdk_65_method_131_code 1 = .ok (.iload_n 0, 1) := by decide +kernel
theorem d34_2 : decode jdk_65_method_131_code 2 = .ok (.if_icmp .ge 35, 3) := by decide +kernel
theorem d34_37 : decode jdk_65_method_131_code 37 = .ok (.return_, 1) := by decide +kernel
theorem d35_0 : decode jdk_29_method_69_code 0 = .ok (.iload_n 0, 1) := by decide +kernel
theorem d35_1 : decode jdk_29_method_69_code 1 = .ok (.iload_n 1, 1) := by decide +kernel
theorem d35_2 : decode jdk_29_method_69_code 2 = .ok (.if_icmp .gt 7, 3) := by decide +kernel
theorem d35_9 : decode jdk_29_method_69_code 9 = .ok (.iload_n 1, 1) := by decide +kernel
theorem d35_10 : decode jdk_29_method_69_code 10 = .ok (.ireturn, 1) := by decide +kernel
theorem d36_0 : decode method_3_code 0 = .ok (.iload_n 1, 1) := by decide +kernel
theorem d36_1 : decode method_3_code 1 = .ok (.ifCond .lt 24, 3) := by decide +kernel
theorem d36_4 : decode method_3_code 4 = .ok (.iload_n 1, 1) := by decide +kernel
theorem d36_5 : decode method_3_code 5 = .ok (.aload_n 0, 1) := by decide +kernel
theorem d36_6 : decode method_3_code 6 = .ok (.invokevirtual 22, 3) := by decide +kernel
theorem d36_9 : decode method_3_code 9 = .ok (.if_icmp .ge 16, 3) := by decide +kernel
theorem d36_12 : decode method_3_code 12 = .ok (.aload_n 0, 1) := by decide +kernel
theorem d36_13 : decode method_3_code 13 = .ok (.iload_n 1, 1) := by decide +kernel
theorem d36_14 : decode method_3_code 14 = .ok (.invokevirtual 36, 3) := by decide +kernel
theorem d36_17 : decode method_3_code 17 = .ok (.iload_n 2, 1) := by decide +kernel
theorem d36_18 : decode method_3_code 18 = .ok (.if_icmp .ne 7, 3) := by decide +kernel
theorem d36_21 : decode method_3_code 21 = .ok (.iconst 1, 1) := by decide +kernel
theorem d36_22 : decode method_3_code 22 = .ok (.goto 4, 3) := by decide +kernel
theorem d36_26 : decode method_3_code 26 = .ok (.ireturn, 1) := by decide +kernel
theorem d41_0 : decode method_5_code 0 = .ok (.iload 4, 2) := by decide +kernel
theorem d41_2 : decode method_5_code 2 = .ok (.iload_n 3, 1) := by decide +kernel
theorem d41_3 : decode method_5_code 3 = .ok (.if_icmp .lt 5, 3) := by decide +kernel
theorem d41_6 : decode method_5_code 6 = .ok (.iconst 1, 1) := by decide +kernel
theorem d41_7 : decode method_5_code 7 = .ok (.ireturn, 1) := by decide +kernel
theorem d41_8 : decode method_5_code 8 = .ok (.iload_n 3, 1) := by decide +kernel
theorem d41_9 : decode method_5_code 9 = .ok (.iconst 1, 1) := by decide +kernel
theorem d41_10 : decode method_5_code 10 = .ok (.isub, 1) := by decide +kernel
theorem d41_11 : decode method_5_code 11 = .ok (.iload 4, 2) := by decide +kernel
theorem d41_13 : decode method_5_code 13 = .ok (.isub, 1) := by decide +kernel
theorem d41_14 : decode method_5_code 14 = .ok (.invokestatic 40, 3) := by decide +kernel
theorem d41_17 : decode method_5_code 17 = .ok (.istore 5, 2) := by decide +kernel
theorem d41_19 : decode method_5_code 19 = .ok (.aload_n 0, 1) := by decide +kernel
theorem d41_20 : decode method_5_code 20 = .ok (.iload_n 1, 1) := by decide +kernel
theorem d41_21 : decode method_5_code 21 = .ok (.iload 4, 2) := by decide +kernel
theorem d41_23 : decode method_5_code 23 = .ok (.iadd, 1) := by decide +kernel
theorem d41_24 : decode method_5_code 24 = .ok (.bipush 48, 2) := by decide +kernel
theorem d41_26 : decode method_5_code 26 = .ok (.iload_n 2, 1) := by decide +kernel
theorem d41_27 : decode method_5_code 27 = .ok (.iload 5, 2) := by decide +kernel
theorem d41_29 : decode method_5_code 29 = .ok (.idiv, 1) := by decide +kernel
theorem d41_30 : decode method_5_code 30 = .ok (.bipush 10, 2) := by decide +kernel
theorem d41_32 : decode method_5_code 32 = .ok (.irem, 1) := by decide +kernel
theorem d41_33 : decode method_5_code 33 = .ok (.iadd, 1) := by decide +kernel
theorem d41_34 : decode method_5_code 34 = .ok (.i2c, 1) := by decide +kernel
theorem d41_35 : decode method_5_code 35 = .ok (.invokestatic 26, 3) := by decide +kernel
theorem d41_38 : decode method_5_code 38 = .ok (.ireturn, 1) := by decide +kernel
theorem d42_0 : decode method_4_code 0 = .ok (.iload_n 0, 1) := by decide +kernel
theorem d42_1 : decode method_4_code 1 = .ok (.ifCond .ne 7, 3) := by decide +kernel
theorem d42_4 : decode method_4_code 4 = .ok (.iconst 1, 1) := by decide +kernel
theorem d42_5 : decode method_4_code 5 = .ok (.goto 37, 3) := by decide +kernel
theorem d42_8 : decode method_4_code 8 = .ok (.iload_n 0, 1) := by decide +kernel
theorem d42_9 : decode method_4_code 9 = .ok (.iconst 1, 1) := by decide +kernel
theorem d42_10 : decode method_4_code 10 = .ok (.if_icmp .ne 8, 3) := by decide +kernel
theorem d42_13 : decode method_4_code 13 = .ok (.bipush 10, 2) := by decide +kernel
theorem d42_15 : decode method_4_code 15 = .ok (.goto 27, 3) := by decide +kernel
theorem d42_18 : decode method_4_code 18 = .ok (.iload_n 0, 1) := by decide +kernel
theorem d42_19 : decode method_4_code 19 = .ok (.iconst 2, 1) := by decide +kernel
theorem d42_20 : decode method_4_code 20 = .ok (.if_icmp .ne 8, 3) := by decide +kernel
theorem d42_23 : decode method_4_code 23 = .ok (.bipush 100, 2) := by decide +kernel
theorem d42_25 : decode method_4_code 25 = .ok (.goto 17, 3) := by decide +kernel
theorem d42_28 : decode method_4_code 28 = .ok (.iload_n 0, 1) := by decide +kernel
theorem d42_29 : decode method_4_code 29 = .ok (.iconst 3, 1) := by decide +kernel
theorem d42_30 : decode method_4_code 30 = .ok (.if_icmp .ne 9, 3) := by decide +kernel
theorem d42_33 : decode method_4_code 33 = .ok (.sipush 1000, 3) := by decide +kernel
theorem d42_36 : decode method_4_code 36 = .ok (.goto 6, 3) := by decide +kernel
theorem d42_39 : decode method_4_code 39 = .ok (.sipush 10000, 3) := by decide +kernel
theorem d42_42 : decode method_4_code 42 = .ok (.ireturn, 1) := by decide +kernel
theorem d46_0 : decode jdk_43_method_25_code 0 = .ok (.aload_n 2, 1) := by decide +kernel
theorem d46_1 : decode jdk_43_method_25_code 1 = .ok (.iconst 0, 1) := by decide +kernel
theorem d46_2 : decode jdk_43_method_25_code 2 = .ok (.baload, 1) := by decide +kernel
theorem d46_3 : decode jdk_43_method_25_code 3 = .ok (.istore 5, 2) := by decide +kernel
theorem d46_5 : decode jdk_43_method_25_code 5 = .ok (.iload_n 1, 1) := by decide +kernel
theorem d46_6 : decode jdk_43_method_25_code 6 = .ok (.iload_n 3, 1) := by decide +kernel
theorem d46_7 : decode jdk_43_method_25_code 7 = .ok (.isub, 1) := by decide +kernel
theorem d46_8 : decode jdk_43_method_25_code 8 = .ok (.istore 6, 2) := by decide +kernel
theorem d46_10 : decode jdk_43_method_25_code 10 = .ok (.iload 4, 2) := by decide +kernel
theorem d46_12 : decode jdk_43_method_25_code 12 = .ok (.istore 7, 2) := by decide +kernel
theorem d46_14 : decode jdk_43_method_25_code 14 = .ok (.iload 7, 2) := by decide +kernel
theorem d46_16 : decode jdk_43_method_25_code 16 = .ok (.iload 6, 2) := by decide +kernel
theorem d46_18 : decode jdk_43_method_25_code 18 = .ok (.if_icmp .gt 101, 3) := by decide +kernel
theorem d46_21 : decode jdk_43_method_25_code 21 = .ok (.aload_n 0, 1) := by decide +kernel
theorem d46_22 : decode jdk_43_method_25_code 22 = .ok (.iload 7, 2) := by decide +kernel
theorem d46_24 : decode jdk_43_method_25_code 24 = .ok (.baload, 1) := by decide +kernel
theorem d46_25 : decode jdk_43_method_25_code 25 = .ok (.iload 5, 2) := by decide +kernel
theorem d46_27 : decode jdk_43_method_25_code 27 = .ok (.if_icmp .eq 25, 3) := by decide +kernel
theorem d46_30 : decode jdk_43_method_25_code 30 = .ok (.iinc 7 1, 3) := by decide +kernel
theorem d46_33 : decode jdk_43_method_25_code 33 = .ok (.iload 7, 2) := by decide +kernel
theorem d46_35 : decode jdk_43_method_25_code 35 = .ok (.iload 6, 2) := by decide +kernel
theorem d46_37 : decode jdk_43_method_25_code 37 = .ok (.if_icmp .gt 15, 3) := by decide +kernel
theorem d46_40 : decode jdk_43_method_25_code 40 = .ok (.aload_n 0, 1) := by decide +kernel
theorem d46_41 : decode jdk_43_method_25_code 41 = .ok (.iload 7, 2) := by decide +kernel
theorem d46_43 : decode jdk_43_method_25_code 43 = .ok (.baload, 1) := by decide +kernel
theorem d46_44 : decode jdk_43_method_25_code 44 = .ok (.iload 5, 2) := by decide +kernel
theorem d46_46 : decode jdk_43_method_25_code 46 = .ok (.if_icmp .eq 6, 3) := by decide +kernel
theorem d46_49 : decode jdk_43_method_25_code 49 = .ok (.goto (-19), 3) := by decide +kernel
theorem d46_52 : decode jdk_43_method_25_code 52 = .ok (.iload 7, 2) := by decide +kernel
theorem d46_54 : decode jdk_43_method_25_code 54 = .ok (.iload 6, 2) := by decide +kernel
theorem d46_56 : decode jdk_43_method_25_code 56 = .ok (.if_icmp .gt 57, 3) := by decide +kernel
theorem d46_59 : decode jdk_43_method_25_code 59 = .ok (.iload 7, 2) := by decide +kernel
theorem d46_61 : decode jdk_43_method_25_code 61 = .ok (.iconst 1, 1) := by decide +kernel
theorem d46_62 : decode jdk_43_method_25_code 62 = .ok (.iadd, 1) := by decide +kernel
theorem d46_63 : decode jdk_43_method_25_code 63 = .ok (.istore 8, 2) := by decide +kernel
theorem d46_65 : decode jdk_43_method_25_code 65 = .ok (.iload 8, 2) := by decide +kernel
theorem d46_67 : decode jdk_43_method_25_code 67 = .ok (.iload_n 3, 1) := by decide +kernel
theorem d46_68 : decode jdk_43_method_25_code 68 = .ok (.iadd, 1) := by decide +kernel
theorem d46_69 : decode jdk_43_method_25_code 69 = .ok (.iconst 1, 1) := by decide +kernel
theorem d46_70 : decode jdk_43_method_25_code 70 = .ok (.isub, 1) := by decide +kernel
theorem d46_71 : decode jdk_43_method_25_code 71 = .ok (.istore 9, 2) := by decide +kernel
theorem d46_73 : decode jdk_43_method_25_code 73 = .ok (.iconst 1, 1) := by decide +kernel
theorem d46_74 : decode jdk_43_method_25_code 74 = .ok (.istore 10, 2) := by decide +kernel
theorem d46_76 : decode jdk_43_method_25_code 76 = .ok (.iload 8, 2) := by decide +kernel
theorem d46_78 : decode jdk_43_method_25_code 78 = .ok (.iload 9, 2) := by decide +kernel
theorem d46_80 : decode jdk_43_method_25_code 80 = .ok (.if_icmp .ge 23, 3) := by decide +kernel
theorem d46_103 : decode jdk_43_method_25_code 103 = .ok (.iload 8, 2) := by decide +kernel
theorem d46_105 : decode jdk_43_method_25_code 105 = .ok (.iload 9, 2) := by decide +kernel
theorem d46_107 : decode jdk_43_method_25_code 107 = .ok (.if_icmp .ne 6, 3) := by decide +kernel
theorem d46_110 : decode jdk_43_method_25_code 110 = .ok (.iload 7, 2) := by decide +kernel
theorem d46_112 : decode jdk_43_method_25_code 112 = .ok (.ireturn, 1) := by decide +kernel
theorem d46_113 : decode jdk_43_method_25_code 113 = .ok (.iinc 7 1, 3) := by decide +kernel
theorem d46_116 : decode jdk_43_method_25_code 116 = .ok (.goto (-102), 3) := by decide +kernel
theorem d46_119 : decode jdk_43_method_25_code 119 = .ok (.iconst (-1), 1) := by decide +kernel
theorem d46_120 : decode jdk_43_method_25_code 120 = .ok (.ireturn, 1) := by decide +kernel
theorem pd0 : parseMethodDescriptor "([CIILjava/lang/Void;)V" = some ⟨[(.array .char), .int, .int, (.object "java/lang/Void")], none⟩ := by decide +kernel
theorem pd1 : parseMethodDescriptor "()B" = some ⟨[], some .byte⟩ := by decide +kernel
theorem pd2 : parseMethodDescriptor "(Ljava/lang/String;)V" = some ⟨[(.object "java/lang/String")], none⟩ := by decide +kernel
theorem pd3 : parseMethodDescriptor "([BIB)V" = some ⟨[(.array .byte), .int, .byte], none⟩ := by decide +kernel
theorem pd4 : parseMethodDescriptor "()I" = some ⟨[], some .int⟩ := by decide +kernel
theorem pd5 : parseMethodDescriptor "(I)V" = some ⟨[.int], none⟩ := by decide +kernel
theorem pd6 : parseMethodDescriptor "(ILjava/lang/String;)V" = some ⟨[.int, (.object "java/lang/String")], none⟩ := by decide +kernel
theorem pd7 : parseMethodDescriptor "(Ljava/lang/String;)Ljava/lang/AbstractStringBuilder;" = some ⟨[(.object "java/lang/String")], some (.object "java/lang/AbstractStringBuilder")⟩ := by decide +kernel
theorem pd8 : parseMethodDescriptor "(II)V" = some ⟨[.int, .int], none⟩ := by decide +kernel
theorem pd9 : parseMethodDescriptor "(II)I" = some ⟨[.int, .int], some .int⟩ := by decide +kernel
theorem pd10 : parseMethodDescriptor "([BII)[B" = some ⟨[(.array .byte), .int, .int], some (.array .byte)⟩ := by decide +kernel
theorem pd11 : parseMethodDescriptor "()[B" = some ⟨[], some (.array .byte)⟩ := by decide +kernel
theorem pd12 : parseMethodDescriptor "()Z" = some ⟨[], some .boolean⟩ := by decide +kernel
theorem pd13 : parseMethodDescriptor "(Ljava/lang/AbstractStringBuilder;Ljava/lang/Void;)V" = some ⟨[(.object "java/lang/AbstractStringBuilder"), (.object "java/lang/Void")], none⟩ := by decide +kernel
theorem pd14 : parseMethodDescriptor "(Ljava/lang/StringBuilder;)V" = some ⟨[(.object "java/lang/StringBuilder")], none⟩ := by decide +kernel
theorem pd15 : parseMethodDescriptor "(I)I" = some ⟨[.int], some .int⟩ := by decide +kernel
theorem pd16 : parseMethodDescriptor "(II[B)I" = some ⟨[.int, .int, (.array .byte)], some .int⟩ := by decide +kernel
theorem pd17 : parseMethodDescriptor "(I)Ljava/lang/AbstractStringBuilder;" = some ⟨[.int], some (.object "java/lang/AbstractStringBuilder")⟩ := by decide +kernel
theorem pd18 : parseMethodDescriptor "([BI[BII)I" = some ⟨[(.array .byte), .int, (.array .byte), .int, .int], some .int⟩ := by decide +kernel
theorem pd19 : parseMethodDescriptor "([B[B)I" = some ⟨[(.array .byte), (.array .byte)], some .int⟩ := by decide +kernel
theorem pd20 : parseMethodDescriptor "()Ljava/lang/String;" = some ⟨[], some (.object "java/lang/String")⟩ := by decide +kernel
theorem pd21 : parseMethodDescriptor "(Ljava/lang/String;)I" = some ⟨[(.object "java/lang/String")], some .int⟩ := by decide +kernel
theorem pd22 : parseMethodDescriptor "()V" = some ⟨[], none⟩ := by decide +kernel
theorem pd23 : parseMethodDescriptor "(Ljava/lang/CharSequence;)Z" = some ⟨[(.object "java/lang/CharSequence")], some .boolean⟩ := by decide +kernel
theorem pd24 : parseMethodDescriptor "(Ljava/lang/String;)Ljava/lang/StringBuilder;" = some ⟨[(.object "java/lang/String")], some (.object "java/lang/StringBuilder")⟩ := by decide +kernel
theorem pd25 : parseMethodDescriptor "(I)Ljava/lang/StringBuilder;" = some ⟨[.int], some (.object "java/lang/StringBuilder")⟩ := by decide +kernel
theorem pd26 : parseMethodDescriptor "(I)C" = some ⟨[.int], some .char⟩ := by decide +kernel
theorem pd27 : parseMethodDescriptor "(Ljava/lang/String;IC)Z" = some ⟨[(.object "java/lang/String"), .int, .char], some .boolean⟩ := by decide +kernel
theorem pd28 : parseMethodDescriptor "(Ljava/lang/String;IIII)Z" = some ⟨[(.object "java/lang/String"), .int, .int, .int, .int], some .boolean⟩ := by decide +kernel
theorem pd29 : parseMethodDescriptor "(Ljava/lang/String;I)V" = some ⟨[(.object "java/lang/String"), .int], none⟩ := by decide +kernel
theorem pd30 : parseMethodDescriptor "([C)V" = some ⟨[(.array .char)], none⟩ := by decide +kernel
def Q_s4e (Z : State) (gC : Int32) (gF : Value) (v_DO : Addr) (k_DO : ClassId) (v_DT : Addr) (k_DT : ClassId) (x : Addr) (b : Addr) (h : Heap) (v : Option Value) (h' : Heap) (WL' FL' : List Addr) : Prop := ∃ t : Addr, v = none ∧ WL' = [] ∧ FL' = [t] ∧ Keep h h' [x] ∧ StrL Z h' x t []
theorem ct_s4e (cx : Cx a0 Z gC gF v_DO k_DO v_DT k_DT) (x : Addr) (b : Addr) (h : Heap) (WL FL : List Addr) (P0 : Exa Z h x "java/lang/String") (P1 : Fld Z h x "java/lang/String" "value" "[B" .null) (P2 : Fld Z h x "java/lang/String" "coder" "B" (.int 0)) (P3 : x ∈ WL) :
    Ct l Z EL1 n0 (⟨"java/lang/String", "<init>", "([CIILjava/lang/Void;)V"⟩ : MethodName) jdk_42_method_149_code 6 (Option.none : Option Jvm.ClassFile.FieldType) ({ frames := 1, cells := 4, slots := 8, locals := 12 } : Room) #[(.ref x), (.ref b), (.int 0), (.int 0), .null] h WL FL (Q_s4e Z gC gF v_DO k_DO v_DT k_DT x b h) := by
  refine Ct.of (plainFor_of_name pn0) ?_
  intro p e s m below meth c s1 hx hby hml hnm hret hlk X0
  refine Wo.cast (f' := (mkF m 0 #[.val (.ref x), .val (.ref b), .val (.int 0), .val (.int 0), .val .null, .unset] [])) (by rfl) ?_
  have K0 : Keep h h [x] := Keep.refl _ _
  show Wo _ _ _ _ _ _ _ _ _ _ _ s1 (mkF m 0 #[.val (.ref x), .val (.ref b), .val (.int 0), .val (.int 0), .val .null, .unset] [])
  refine P.aloadN X0 hx 1 (hb hby d2_0) rfl rfl rfl ?_
  refine X0.initO hx (w11 cx) (w12 cx) (w13 cx) (by rw [hml]; rfl) (hb hby d2_1) (nle rfl) (W := 0) (Nat.le_of_eq rfl) (nle rfl) ?_
  intro T1 X1
  refine P.iloadN X1 hx 5 (hb hby d2_4) rfl rfl ?_
  refine P.ifNo X1 hx 8 (hb hby d2_5) (by decide) rfl ?_
  refine P.aloadN X1 hx 9 (hb hby d2_8) rfl rfl rfl ?_
  refine X1.ldc hx (w14 cx) (strAtoms cx) (by decide) (vs := []) (z := (0 : Int32)) ⟨by decide, by decide⟩ (by decide) rfl (hb hby d2_9) (n := 0) (nle rfl) (nle rfl) (nle rfl) (nle rfl) ?_
  intro T2 h2 a2 b2 k2 X2 E2 A2 C2 V2 B2
  have K3 : Keep h h2 [x] := K0.ext E2
  refine X2.getF hx (host := "") (Or.inl (w20 cx)) Via.refl V2 (hb hby d2_11) ?_
  intro T4 X4
  have F5 := P1.ext E2
  have F6 := P0.ext E2
  refine X4.putF hx (host := "") (Or.inl (w20 cx)) Via.refl F5 F6 (Or.inr ⟨(w16 cx), rfl, hnm⟩) (w2 cx) (ty := (.array .byte)) (by decide) rfl rfl P3 (hb hby d2_14) ?_
  intro T7 h7 X7 W7 G7
  have K8 : Keep h h7 [x] := K3.wr W7 (Or.inl (mg 0 rfl))
  refine P.aloadN X7 hx 18 (hb hby d2_17) rfl rfl rfl ?_
  refine X7.ldc hx (w14 cx) (strAtoms cx) (by decide) (vs := []) (z := (0 : Int32)) ⟨by decide, by decide⟩ (by decide) rfl (hb hby d2_18) (n := 0) (nle rfl) (nle rfl) (nle rfl) (nle rfl) ?_
  intro T9 h9 a9 b9 k9 X9 E9 A9 C9 V9 B9
  have K10 : Keep h h9 [x] := K8.ext E9
  refine X9.getF hx (host := "") (Or.inl (w21 cx)) Via.refl C9 (hb hby d2_20) ?_
  intro T11 X11
  have F12 := ((P2.ext E2).other W7 (Or.inr (slot_ne (Or.inr (w17 cx)) (Or.inr (w16 cx)) (by decide) (t := .byte) (t' := (.array .byte)) (by decide) (by decide)))).ext E9
  have F13 := (F6.wr W7).ext E9
  refine X11.putF hx (host := "") (Or.inl (w21 cx)) Via.refl F12 F13 (Or.inr ⟨(w17 cx), rfl, hnm⟩) (w2 cx) (ty := .byte) (by decide) rfl rfl P3 (hb hby d2_23) ?_
  intro T14 h14 X14 W14 G14
  have K15 : Keep h h14 [x] := K10.wr W14 (Or.inl (mg 0 rfl))
  have F16 := (G7.ext E9).other W14 (Or.inr (slot_ne (Or.inr (w16 cx)) (Or.inr (w17 cx)) (by decide) (t := (.array .byte)) (t' := .byte) (by decide) (by decide)))
  have F17 := F13.wr W14
  have F18 := ((B2.other W7 (X14.neF (mg 3 rfl) P3)).ext E9).other W14 (X14.neF (mg 3 rfl) P3)
  have S19 : StrL Z h14 x b2 [] := ⟨F17, F16, G14, ⟨_, F18⟩, fc0, nle rfl⟩
  have X20 := WS.fl (FL2 := (b2 :: FL)) X14 (fun y hy => (List.mem_cons.mp hy).elim (fun q => q ▸ (mg 3 rfl)) (fun q0 => (List.mem_append_right [a9, b9, a2, b2] q0)))
  exact WS.retV X20 (WL' := []) (FL' := [b2]) hx hret hlk (hb hby d2_26) (nle rfl) (nle rfl) ⟨b2, rfl, rfl, rfl, K15, S19⟩
def Q_s1e (Z : State) (gC : Int32) (gF : Value) (v_DO : Addr) (k_DO : ClassId) (v_DT : Addr) (k_DT : ClassId) (x : Addr) (b : Addr) (kb : ClassId) (dv : Value) (h : Heap) (v : Option Value) (h' : Heap) (WL' FL' : List Addr) : Prop := ∃ t : Addr, v = none ∧ WL' = [] ∧ FL' = [t] ∧ Keep h h' [x] ∧ StrL Z h' x t []
theorem ct_s1e (cx : Cx a0 Z gC gF v_DO k_DO v_DT k_DT) (x : Addr) (b : Addr) (kb : ClassId) (dv : Value) (h : Heap) (WL FL : List Addr) (P0 : Exa Z h x "java/lang/String") (P1 : Fld Z h x "java/lang/String" "value" "[B" .null) (P2 : Fld Z h x "java/lang/String" "coder" "B" (.int 0)) (P3 : x ∈ WL) (P4 : Arv Z h b kb .char (0 : Int32) [] dv) :
    Ct l Z EL1 n0 (⟨"java/lang/String", "<init>", "([C)V"⟩ : MethodName) jdk_42_method_3_code 2 (Option.none : Option Jvm.ClassFile.FieldType) ({ frames := 2, cells := 4, slots := 8, locals := 29 } : Room) #[(.ref x), (.ref b)] h WL FL (Q_s1e Z gC gF v_DO k_DO v_DT k_DT x b kb dv h) := by
  refine Ct.of (plainFor_of_name pn0) ?_
  intro p e s m below meth c s1 hx hby hml hnm hret hlk X0
  refine Wo.cast (f' := (mkF m 0 #[.val (.ref x), .val (.ref b)] [])) (by rfl) ?_
  have K0 : Keep h h [x] := Keep.refl _ _
  show Wo _ _ _ _ _ _ _ _ _ _ _ s1 (mkF m 0 #[.val (.ref x), .val (.ref b)] [])
  refine P.aloadN X0 hx 1 (hb hby d1_0) rfl rfl rfl ?_
  refine P.aloadN X0 hx 2 (hb hby d1_1) rfl rfl rfl ?_
  refine P.iconst X0 hx 3 0 (hb hby d1_2) rfl rfl ?_
  refine P.aloadN X0 hx 4 (hb hby d1_3) rfl rfl rfl ?_
  refine WS.alen X0 hx P4 (hb hby d1_4) ?_
  refine P.aconstNull X0 hx 6 (hb hby d1_5) rfl ?_
  refine X0.callC hx rfl (w7 cx) (w8 cx) (w10 cx) (by decide) (Ct.pay (W := 0) (ct_s4e cx x b h _ _ P0 P1 P2 P3) (w10 cx) (w3 cx) (nle rfl) (nle rfl)) (by rw [hml]; rfl) (argsL := [.ref b, .int 0, .int 0, .null]) (rest := []) (lenOf pd0 rfl) rfl rfl (Nat.le_of_eq rfl) (hb hby d1_6) (nle rfl) (nle rfl) ?_
  rintro T1 h1 _ _ _ X1 ⟨a2, rfl, rfl, rfl, J1, G3⟩
  have K4 : Keep h h1 [x] := K0.trans J1 (allS (Or.inl (mg 0 rfl)) all0)
  exact WS.retV X1 (WL' := []) (FL' := [a2]) hx hret hlk (hb hby d1_9) (nle rfl) (nle rfl) ⟨a2, rfl, rfl, rfl, K4, G3⟩
def Q_scoder (Z : State) (gC : Int32) (gF : Value) (v_DO : Addr) (k_DO : ClassId) (v_DT : Addr) (k_DT : ClassId) (x : Addr) (h : Heap) (v : Option Value) (h' : Heap) (WL' FL' : List Addr) : Prop := v = some (.int 0) ∧ WL' = [] ∧ FL' = [] ∧ h' = h
theorem ct_scoder (cx : Cx a0 Z gC gF v_DO k_DO v_DT k_DT) (x : Addr) (h : Heap) (WL FL : List Addr) (P0 : Fld Z h x "java/lang/String" "coder" "B" (.int 0)) :
    Ct l Z EL1 n0 (⟨"java/lang/String", "coder", "()B"⟩ : MethodName) jdk_42_method_152_code 1 (Option.some FieldType.byte) ({ frames := 0, cells := 0, slots := 0, locals := 0 } : Room) #[(.ref x)] h WL FL (Q_scoder Z gC gF v_DO k_DO v_DT k_DT x h) := by
  refine Ct.of (plainFor_of_name pn0) ?_
  intro p e s m below meth c s1 hx hby hml hnm hret hlk X0
  refine Wo.cast (f' := (mkF m 0 #[.val (.ref x)] [])) (by rfl) ?_
  show Wo _ _ _ _ _ _ _ _ _ _ _ s1 (mkF m 0 #[.val (.ref x)] [])
  refine X0.getS hx (w82 cx) Via.refl (S_C cx) (hb hby d11_0) ?_
  intro T1 X1
  refine P.ifNo X1 hx 6 (hb hby d11_3) ((if0 _ _).trans (feq (N_C cx)).1) rfl ?_
  refine P.aloadN X1 hx 7 (hb hby d11_6) rfl rfl rfl ?_
  refine X1.getF hx (host := "") (Or.inl (w21 cx)) Via.refl P0 (hb hby d11_7) ?_
  intro T2 X2
  refine P.goto X2 hx 14 (hb hby d11_10) (by decide) (by decide) ?_
  exact WS.retN X2 (WL' := []) (FL' := []) hx (t := .byte) hret (by simp) hlk (hb hby d11_14) (nle rfl) (nle rfl) ⟨rfl, rfl, rfl, rfl⟩
def Q_getby (Z : State) (gC : Int32) (gF : Value) (v_DO : Addr) (k_DO : ClassId) (v_DT : Addr) (k_DT : ClassId) (g : Addr) (u : Addr) (t : Addr) (kt : ClassId) (cap : Nat) (cs : List Int32) (ds : List Int32) (h : Heap) (v : Option Value) (h' : Heap) (WL' FL' : List Addr) : Prop := v = none ∧ WL' = [] ∧ FL' = [] ∧ Keep h h' [t] ∧ Arv Z h' t kt .byte (Int32.ofNat cap) (lat (cs ++ ds)) (.int 0)
theorem ct_getby (cx : Cx a0 Z gC gF v_DO k_DO v_DT k_DT) (g : Addr) (u : Addr) (t : Addr) (kt : ClassId) (cap : Nat) (cs : List Int32) (ds : List Int32) (h : Heap) (WL FL : List Addr) (P0 : StrL Z h g u ds) (P1 : Arv Z h t kt .byte (Int32.ofNat cap) (lat cs) (.int 0)) (P2 : t ∈ WL) (hBB : cs.length + ds.length ≤ cap) (hc : cap ≤ 4000) :
    Ct l Z EL1 n0 (⟨"java/lang/String", "getBytes", "([BIB)V"⟩ : MethodName) jdk_42_method_147_code 4 (Option.none : Option Jvm.ClassFile.FieldType) ({ frames := 1, cells := 0, slots := 0, locals := 18 } : Room) #[(.ref g), (.ref t), (.int (Int32.ofNat cs.length)), (.int 0)] h WL FL (Q_getby Z gC gF v_DO k_DO v_DT k_DT g u t kt cap cs ds h) := by
  refine Ct.of (plainFor_of_name pn0) ?_
  intro p e s m below meth c s1 hx hby hml hnm hret hlk X0
  refine Wo.cast (f' := (mkF m 0 #[.val (.ref g), .val (.ref t), .val (.int (Int32.ofNat cs.length)), .val (.int 0)] [])) (by rfl) ?_
  have K0 : Keep h h [t] := Keep.refl _ _
  show Wo _ _ _ _ _ _ _ _ _ _ _ s1 (mkF m 0 #[.val (.ref g), .val (.ref t), .val (.int (Int32.ofNat cs.length)), .val (.int 0)] [])
  refine P.aloadN X0 hx 1 (hb hby d20_0) rfl rfl rfl ?_
  obtain ⟨k1, A1⟩ := P0.2.2.2.1
  refine X0.callV hx (w77 cx) (w78 cx) (w80 cx) (w79 cx) (fun _ hZ => nf hZ (w80 cx)) (by decide) P0.1 (Ct.pay (W := 0) (ct_scoder cx g h _ _ P0.2.2.1) (w81 cx) (w3 cx) (nle rfl) (nle rfl)) (by rw [hml]; rfl) (argsL := []) (rest := []) (lenOf pd1 rfl) rfl rfl (Nat.le_of_eq rfl) (hb hby d20_1) (nle rfl) (nle rfl) ?_
  rintro T2 h2 _ _ _ X2 ⟨rfl, rfl, rfl, J2⟩
  rw [J2] at X2
  refine P.iloadN X2 hx 5 (hb hby d20_4) rfl rfl ?_
  refine P.icmpNo X2 hx 8 (hb hby d20_5) (by decide) rfl ?_
  refine P.aloadN X2 hx 9 (hb hby d20_8) rfl rfl rfl ?_
  refine X2.getF hx (host := "") (Or.inl (w20 cx)) Via.refl P0.2.1 (hb hby d20_9) ?_
  intro T3 X3
  refine P.iconst X3 hx 13 0 (hb hby d20_12) rfl rfl ?_
  refine P.aloadN X3 hx 14 (hb hby d20_13) rfl rfl rfl ?_
  refine P.iloadN X3 hx 15 (hb hby d20_14) rfl rfl ?_
  refine P.iloadN X3 hx 16 (hb hby d20_15) rfl rfl ?_
  refine P.ishl X3 hx 17 (z := (Int32.ofNat cs.length)) (hb hby d20_16) (by rw [shl0]) rfl ?_
  refine P.aloadN X3 hx 18 (hb hby d20_17) rfl rfl rfl ?_
  refine X3.getF hx (host := "") (Or.inl (w20 cx)) Via.refl P0.2.1 (hb hby d20_18) ?_
  intro T4 X4
  refine WS.alen X4 hx A1 (hb hby d20_21) ?_
  refine WS.cpL (cs := cs) (ds := ds) X4 hx (w130 cx) (w133 cx) (w131 cx) (w132 cx) A1 P1 (Nat.le_refl _) hBB (show ds.length ≤ 4000 by omega) hc P2 (by rw [hml]; rfl) (hb hby d20_22) (nle rfl) (W := 0) (Nat.le_of_eq rfl) (nle rfl) ?_
  intro T5 h5 X5 J5 G5
  have K6 : Keep h h5 [t] := K0.trans J5 (allS (Or.inl (mg 0 rfl)) all0)
  refine P.goto X5 hx 43 (hb hby d20_25) (by decide) (by decide) ?_
  exact WS.retV X5 (WL' := []) (FL' := []) hx hret hlk (hb hby d20_43) (nle rfl) (nle rfl) ⟨rfl, rfl, rfl, K6, G5⟩
def Q_infl (Z : State) (gC : Int32) (gF : Value) (v_DO : Addr) (k_DO : ClassId) (v_DT : Addr) (k_DT : ClassId) (x : Addr) (g : Addr) (u : Addr) (ds : List Int32) (h : Heap) (v : Option Value) (h' : Heap) (WL' FL' : List Addr) : Prop := v = none ∧ WL' = [] ∧ FL' = [] ∧ h' = h
theorem ct_infl (cx : Cx a0 Z gC gF v_DO k_DO v_DT k_DT) (x : Addr) (g : Addr) (u : Addr) (ds : List Int32) (h : Heap) (WL FL : List Addr) (P0 : Fld Z h x "java/lang/AbstractStringBuilder" "coder" "B" (.int 0)) (P1 : StrL Z h g u ds) :
    Ct l Z EL1 n0 (⟨"java/lang/AbstractStringBuilder", "inflateIfNeededFor", "(Ljava/lang/String;)V"⟩ : MethodName) jdk_68_method_71_code 2 (Option.none : Option Jvm.ClassFile.FieldType) ({ frames := 1, cells := 0, slots := 0, locals := 13 } : Room) #[(.ref x), (.ref g)] h WL FL (Q_infl Z gC gF v_DO k_DO v_DT k_DT x g u ds h) := by
  refine Ct.of (plainFor_of_name pn1) ?_
  intro p e s m below meth c s1 hx hby hml hnm hret hlk X0
  refine Wo.cast (f' := (mkF m 0 #[.val (.ref x), .val (.ref g)] [])) (by rfl) ?_
  show Wo _ _ _ _ _ _ _ _ _ _ _ s1 (mkF m 0 #[.val (.ref x), .val (.ref g)] [])
  refine X0.getS hx (w52 cx) Via.refl (S_C cx) (hb hby d19_0) ?_
  intro T1 X1
  refine P.ifNo X1 hx 6 (hb hby d19_3) ((if0 _ _).trans (feq (N_C cx)).1) rfl ?_
  refine P.aloadN X1 hx 7 (hb hby d19_6) rfl rfl rfl ?_
  refine X1.getF hx (host := "") (Or.inl (w55 cx)) Via.refl P0 (hb hby d19_7) ?_
  intro T2 X2
  refine P.aloadN X2 hx 11 (hb hby d19_10) rfl rfl rfl ?_
  obtain ⟨k3, A3⟩ := P1.2.2.2.1
  refine X2.callV hx (w124 cx) (w78 cx) (w80 cx) (w79 cx) (fun _ hZ => nf hZ (w80 cx)) (by decide) P1.1 (Ct.pay (W := 1) (ct_scoder cx g h _ _ P1.2.2.1) (w81 cx) (w3 cx) (nle rfl) (nle rfl)) (by rw [hml]; rfl) (argsL := []) (rest := [.int 0]) (lenOf pd1 rfl) rfl rfl (Nat.le_of_eq rfl) (hb hby d19_11) (nle rfl) (nle rfl) ?_
  rintro T4 h4 _ _ _ X4 ⟨rfl, rfl, rfl, J4⟩
  rw [J4] at X4
  refine P.icmpYes X4 hx 21 (hb hby d19_14) (by decide) (by decide) (by decide) ?_
  exact WS.retV X4 (WL' := []) (FL' := []) hx hret hlk (hb hby d19_21) (nle rfl) (nle rfl) ⟨rfl, rfl, rfl, rfl⟩
def Q_putsa (Z : State) (gC : Int32) (gF : Value) (v_DO : Addr) (k_DO : ClassId) (v_DT : Addr) (k_DT : ClassId) (x : Addr) (g : Addr) (u : Addr) (t : Addr) (kt : ClassId) (cap : Nat) (cs : List Int32) (ds : List Int32) (h : Heap) (v : Option Value) (h' : Heap) (WL' FL' : List Addr) : Prop := v = none ∧ WL' = [] ∧ FL' = [] ∧ Keep h h' [t] ∧ Arv Z h' t kt .byte (Int32.ofNat cap) (lat (cs ++ ds)) (.int 0)
theorem ct_putsa (cx : Cx a0 Z gC gF v_DO k_DO v_DT k_DT) (x : Addr) (g : Addr) (u : Addr) (t : Addr) (kt : ClassId) (cap : Nat) (cs : List Int32) (ds : List Int32) (h : Heap) (WL FL : List Addr) (P0 : Exa Z h x "java/lang/StringBuilder") (P1 : Fld Z h x "java/lang/AbstractStringBuilder" "value" "[B" (.ref t)) (P2 : Fld Z h x "java/lang/AbstractStringBuilder" "coder" "B" (.int 0)) (P3 : StrL Z h g u ds) (P4 : Arv Z h t kt .byte (Int32.ofNat cap) (lat cs) (.int 0)) (P5 : t ∈ WL) (hBB : cs.length + ds.length ≤ cap) (hc : cap ≤ 4000) :
    Ct l Z EL1 n0 (⟨"java/lang/AbstractStringBuilder", "putStringAt", "(ILjava/lang/String;)V"⟩ : MethodName) jdk_68_method_73_code 3 (Option.none : Option Jvm.ClassFile.FieldType) ({ frames := 2, cells := 0, slots := 0, locals := 33 } : Room) #[(.ref x), (.int (Int32.ofNat cs.length)), (.ref g)] h WL FL (Q_putsa Z gC gF v_DO k_DO v_DT k_DT x g u t kt cap cs ds h) := by
  refine Ct.of (plainFor_of_name pn1) ?_
  intro p e s m below meth c s1 hx hby hml hnm hret hlk X0
  refine Wo.cast (f' := (mkF m 0 #[.val (.ref x), .val (.int (Int32.ofNat cs.length)), .val (.ref g)] [])) (by rfl) ?_
  have K0 : Keep h h [t] := Keep.refl _ _
  show Wo _ _ _ _ _ _ _ _ _ _ _ s1 (mkF m 0 #[.val (.ref x), .val (.int (Int32.ofNat cs.length)), .val (.ref g)] [])
  refine P.aloadN X0 hx 1 (hb hby d18_0) rfl rfl rfl ?_
  refine P.aloadN X0 hx 2 (hb hby d18_1) rfl rfl rfl ?_
  refine X0.callV hx (w119 cx) (declM (w120 cx) (w123 cx)) (w122 cx) (w120 cx) (fun _ hZ => nf hZ (w122 cx)) (by decide) P0 (Ct.pay (W := 0) (ct_infl cx x g u ds h _ _ P2 P3) (w123 cx) (w49 cx) (nle rfl) (nle rfl)) (by rw [hml]; rfl) (argsL := [.ref g]) (rest := []) (lenOf pd2 rfl) rfl rfl (Nat.le_of_eq rfl) (hb hby d18_2) (nle rfl) (nle rfl) ?_
  rintro T1 h1 _ _ _ X1 ⟨rfl, rfl, rfl, J1⟩
  rw [J1] at X1
  refine P.aloadN X1 hx 6 (hb hby d18_5) rfl rfl rfl ?_
  refine P.aloadN X1 hx 7 (hb hby d18_6) rfl rfl rfl ?_
  refine X1.getF hx (host := "") (Or.inl (w53 cx)) Via.refl P1 (hb hby d18_7) ?_
  intro T2 X2
  refine P.iloadN X2 hx 11 (hb hby d18_10) rfl rfl ?_
  refine P.aloadN X2 hx 12 (hb hby d18_11) rfl rfl rfl ?_
  refine X2.getF hx (host := "") (Or.inl (w55 cx)) Via.refl P2 (hb hby d18_12) ?_
  intro T3 X3
  refine X3.callV hx (w125 cx) (w126 cx) (w128 cx) (w127 cx) (fun _ hZ => nf hZ (w128 cx)) (by decide) P3.1 (Ct.pay (W := 0) (ct_getby cx g u t kt cap cs ds h _ _ P3 P4 P5 hBB hc) (w129 cx) (w3 cx) (nle rfl) (nle rfl)) (by rw [hml]; rfl) (argsL := [.ref t, .int (Int32.ofNat cs.length), .int 0]) (rest := []) (lenOf pd3 rfl) rfl rfl (Nat.le_of_eq rfl) (hb hby d18_15) (nle rfl) (nle rfl) ?_
  rintro T4 h4 _ _ _ X4 ⟨rfl, rfl, rfl, J4, G5⟩
  have K6 : Keep h h4 [t] := K0.trans J4 (allS (Or.inl (mg 0 rfl)) all0)
  exact WS.retV X4 (WL' := []) (FL' := []) hx hret hlk (hb hby d18_18) (nle rfl) (nle rfl) ⟨rfl, rfl, rfl, K6, G5⟩
def Q_enscap (Z : State) (gC : Int32) (gF : Value) (v_DO : Addr) (k_DO : ClassId) (v_DT : Addr) (k_DT : ClassId) (x : Addr) (t : Addr) (kt : ClassId) (cap : Nat) (cs : List Int32) (z : Int32) (h : Heap) (v : Option Value) (h' : Heap) (WL' FL' : List Addr) : Prop := v = none ∧ WL' = [] ∧ FL' = [] ∧ h' = h
theorem ct_enscap (cx : Cx a0 Z gC gF v_DO k_DO v_DT k_DT) (x : Addr) (t : Addr) (kt : ClassId) (cap : Nat) (cs : List Int32) (z : Int32) (h : Heap) (WL FL : List Addr) (P0 : Fld Z h x "java/lang/AbstractStringBuilder" "value" "[B" (.ref t)) (P1 : Fld Z h x "java/lang/AbstractStringBuilder" "coder" "B" (.int 0)) (P2 : Arv Z h t kt .byte (Int32.ofNat cap) (lat cs) (.int 0)) (hz : ¬ ((0 : Int32) < (z - (Int32.ofNat cap)))) :
    Ct l Z EL1 n0 (⟨"java/lang/AbstractStringBuilder", "ensureCapacityInternal", "(I)V"⟩ : MethodName) jdk_68_method_9_code 3 (Option.none : Option Jvm.ClassFile.FieldType) ({ frames := 0, cells := 0, slots := 0, locals := 0 } : Room) #[(.ref x), (.int z)] h WL FL (Q_enscap Z gC gF v_DO k_DO v_DT k_DT x t kt cap cs z h) := by
  refine Ct.of (plainFor_of_name pn1) ?_
  intro p e s m below meth c s1 hx hby hml hnm hret hlk X0
  refine Wo.cast (f' := (mkF m 0 #[.val (.ref x), .val (.int z), .unset] [])) (by rfl) ?_
  show Wo _ _ _ _ _ _ _ _ _ _ _ s1 (mkF m 0 #[.val (.ref x), .val (.int z), .unset] [])
  refine P.aloadN X0 hx 1 (hb hby d17_0) rfl rfl rfl ?_
  refine X0.getF hx (host := "") (Or.inl (w53 cx)) Via.refl P0 (hb hby d17_1) ?_
  intro T1 X1
  refine WS.alen X1 hx P2 (hb hby d17_4) ?_
  refine P.aloadN X1 hx 6 (hb hby d17_5) rfl rfl rfl ?_
  refine X1.getF hx (host := "") (Or.inl (w55 cx)) Via.refl P1 (hb hby d17_6) ?_
  intro T2 X2
  refine P.ishr X2 hx 10 (z := (Int32.ofNat cap)) (hb hby d17_9) (by rw [shr0]) rfl ?_
  refine P.istoreN X2 hx 11 #[.val (.ref x), .val (.int z), .val (.int (Int32.ofNat cap))] (hb hby d17_10) rfl rfl ?_
  refine P.iloadN X2 hx 12 (hb hby d17_11) rfl rfl ?_
  refine P.iloadN X2 hx 13 (hb hby d17_12) rfl rfl ?_
  refine P.isub X2 hx 14 (z := (z - (Int32.ofNat cap))) (hb hby d17_13) rfl rfl ?_
  refine P.ifYes X2 hx 38 (hb hby d17_14) ((if0 _ _).trans (flt hz).2.2.2) (by decide) (by decide) ?_
  exact WS.retV X2 (WL' := []) (FL' := []) hx hret hlk (hb hby d17_38) (nle rfl) (nle rfl) ⟨rfl, rfl, rfl, rfl⟩
def Q_asbappN (Z : State) (gC : Int32) (gF : Value) (v_DO : Addr) (k_DO : ClassId) (v_DT : Addr) (k_DT : ClassId) (x : Addr) (g : Addr) (u : Addr) (t : Addr) (cap : Nat) (cs : List Int32) (ds : List Int32) (h : Heap) (v : Option Value) (h' : Heap) (WL' FL' : List Addr) : Prop := v = some (.ref x) ∧ WL' = [] ∧ FL' = [] ∧ Keep h h' [x, t] ∧ SB Z h' x t cap (cs ++ ds)
theorem ct_asbappN (cx : Cx a0 Z gC gF v_DO k_DO v_DT k_DT) (x : Addr) (g : Addr) (u : Addr) (t : Addr) (cap : Nat) (cs : List Int32) (ds : List Int32) (h : Heap) (WL FL : List Addr) (P0 : SB Z h x t cap cs) (P1 : StrL Z h g u ds) (P2 : x ∈ WL) (P3 : t ∈ WL) (hxt : x ≠ t) (hBB : cs.length + ds.length ≤ cap) :
    Ct l Z EL1 n0 (⟨"java/lang/AbstractStringBuilder", "append", "(Ljava/lang/String;)Ljava/lang/AbstractStringBuilder;"⟩ : MethodName) jdk_68_method_22_code 3 (Option.some (FieldType.object "java/lang/AbstractStringBuilder")) ({ frames := 3, cells := 0, slots := 0, locals := 47 } : Room) #[(.ref x), (.ref g)] h WL FL (Q_asbappN Z gC gF v_DO k_DO v_DT k_DT x g u t cap cs ds h) := by
  refine Ct.of (plainFor_of_name pn1) ?_
  intro p e s m below meth c s1 hx hby hml hnm hret hlk X0
  refine Wo.cast (f' := (mkF m 0 #[.val (.ref x), .val (.ref g), .unset] [])) (by rfl) ?_
  have K0 : Keep h h [x, t] := Keep.refl _ _
  show Wo _ _ _ _ _ _ _ _ _ _ _ s1 (mkF m 0 #[.val (.ref x), .val (.ref g), .unset] [])
  refine P.aloadN X0 hx 1 (hb hby d15_0) rfl rfl rfl ?_
  refine P.ifnonnullYes X0 hx 9 (hb hby d15_1) (by decide) (by decide) ?_
  refine P.aloadN X0 hx 10 (hb hby d15_9) rfl rfl rfl ?_
  refine X0.callV hx (w102 cx) (w103 cx) (w105 cx) (w104 cx) (fun _ hZ => nf hZ (w105 cx)) (by decide) P1.1 (pay_len (W := 0) (hln cx) (w2 cx) P1 (X0.sta (S_C cx)) (N_C cx) (nle rfl) (nle rfl)) (by rw [hml]; rfl) (argsL := []) (rest := []) (lenOf pd4 rfl) rfl rfl (Nat.le_of_eq rfl) (hb hby d15_10) (nle rfl) (nle rfl) ?_
  rintro T1 h1 _ _ _ X1 ⟨rfl, rfl, rfl, J1⟩
  rw [J1] at X1
  show Wo _ _ _ _ _ _ _ _ _ _ _ T1 (mkF m 13 #[.val (.ref x), .val (.ref g), .unset] [.int (Int32.ofNat ds.length)])
  refine P.istoreN X1 hx 14 #[.val (.ref x), .val (.ref g), .val (.int (Int32.ofNat ds.length))] (hb hby d15_13) rfl rfl ?_
  refine P.aloadN X1 hx 15 (hb hby d15_14) rfl rfl rfl ?_
  refine P.aloadN X1 hx 16 (hb hby d15_15) rfl rfl rfl ?_
  obtain ⟨k2, A2⟩ := P0.2.2.2.2.1
  refine X1.getF hx (host := "") (Or.inl (w107 cx)) Via.refl P0.2.2.2.1 (hb hby d15_16) ?_
  intro T3 X3
  refine P.iloadN X3 hx 20 (hb hby d15_19) rfl rfl ?_
  refine P.iadd X3 hx 21 (z := (Int32.ofNat (cs ++ ds).length)) (hb hby d15_20) (by rw [oapp]) rfl ?_
  refine X3.callV hx (w109 cx) (declM (w110 cx) (w113 cx)) (w112 cx) (w110 cx) (fun _ hZ => nf hZ (w112 cx)) (by decide) P0.1 (Ct.pay (W := 0) (ct_enscap cx x t k2 cap cs (Int32.ofNat (cs ++ ds).length) h _ _ P0.2.1 P0.2.2.1 A2 (oNo (by rw [List.length_append]; exact hBB) (Nat.lt_of_le_of_lt P0.2.2.2.2.2.2.2.1 (by decide)))) (w113 cx) (w49 cx) (nle rfl) (nle rfl)) (by rw [hml]; rfl) (argsL := [.int (Int32.ofNat (cs ++ ds).length)]) (rest := []) (lenOf pd5 rfl) rfl rfl (Nat.le_of_eq rfl) (hb hby d15_21) (nle rfl) (nle rfl) ?_
  rintro T4 h4 _ _ _ X4 ⟨rfl, rfl, rfl, J4⟩
  rw [J4] at X4
  refine P.aloadN X4 hx 25 (hb hby d15_24) rfl rfl rfl ?_
  refine P.aloadN X4 hx 26 (hb hby d15_25) rfl rfl rfl ?_
  refine X4.getF hx (host := "") (Or.inl (w107 cx)) Via.refl P0.2.2.2.1 (hb hby d15_26) ?_
  intro T5 X5
  refine P.aloadN X5 hx 30 (hb hby d15_29) rfl rfl rfl ?_
  refine X5.callV hx (w114 cx) (declM (w115 cx) (w118 cx)) (w117 cx) (w115 cx) (fun _ hZ => nf hZ (w117 cx)) (by decide) P0.1 (Ct.pay (W := 0) (ct_putsa cx x g u t k2 cap cs ds h _ _ P0.1 P0.2.1 P0.2.2.1 P1 A2 P3 hBB P0.2.2.2.2.2.2.2.1) (w118 cx) (w49 cx) (nle rfl) (nle rfl)) (by rw [hml]; rfl) (argsL := [.int (Int32.ofNat cs.length), .ref g]) (rest := []) (lenOf pd6 rfl) rfl rfl (Nat.le_of_eq rfl) (hb hby d15_30) (nle rfl) (nle rfl) ?_
  rintro T6 h6 _ _ _ X6 ⟨rfl, rfl, rfl, J6, G7⟩
  have K8 : Keep h h6 [x, t] := K0.trans J6 (allS (Or.inl (mg 1 rfl)) all0)
  refine P.aloadN X6 hx 34 (hb hby d15_33) rfl rfl rfl ?_
  refine P.dup X6 hx 35 (hb hby d15_34) rfl rfl ?_
  have F9 := P0.2.2.2.1.keep J6 (ninS hxt nin0)
  refine X6.getF hx (host := "") (Or.inl (w107 cx)) Via.refl F9 (hb hby d15_35) ?_
  intro T10 X10
  refine P.iloadN X10 hx 39 (hb hby d15_38) rfl rfl ?_
  refine P.iadd X10 hx 40 (z := (Int32.ofNat (cs ++ ds).length)) (hb hby d15_39) (by rw [oapp]) rfl ?_
  have F11 := P0.1.keep J6
  refine X10.putF hx (host := "") (Or.inl (w107 cx)) Via.refl F9 F11 (Or.inl (w108 cx)) (w40 cx) (ty := .int) (by decide) rfl rfl P2 (hb hby d15_40) ?_
  intro T12 h12 X12 W12 G12
  have K13 : Keep h h12 [x, t] := K8.wr W12 (Or.inl (mg 0 rfl))
  refine P.aloadN X12 hx 44 (hb hby d15_43) rfl rfl rfl ?_
  have F14 := (P0.2.1.keep J6 (ninS hxt nin0)).other W12 (Or.inr (slot_ne (Or.inl (w54 cx)) (Or.inl (w108 cx)) (by decide) (t := (.array .byte)) (t' := .int) (by decide) (by decide)))
  have F15 := F11.wr W12
  have F16 := (P0.2.2.1.keep J6 (ninS hxt nin0)).other W12 (Or.inr (slot_ne (Or.inl (w56 cx)) (Or.inl (w108 cx)) (by decide) (t := .byte) (t' := .int) (by decide) (by decide)))
  have F17 := G7.other W12 (Ne.symm hxt)
  have F18 := (P0.2.2.2.2.2.2.2.2.keep J6).wr W12
  have S19 : SB Z h12 x t cap (cs ++ ds) := ⟨F15, F14, F16, G12, ⟨_, F17⟩, fun c hc => (List.mem_append.mp hc).elim (P0.2.2.2.2.2.1 c) (P1.2.2.2.2.1 c), by rw [List.length_append]; exact hBB, P0.2.2.2.2.2.2.2.1, F18⟩
  exact WS.retA X12 (WL' := []) (FL' := []) hx hret rfl rfl hlk (hb hby d15_44) (nle rfl) (nle rfl) ⟨rfl, rfl, rfl, K13, S19⟩
def Q_sbappN (Z : State) (gC : Int32) (gF : Value) (v_DO : Addr) (k_DO : ClassId) (v_DT : Addr) (k_DT : ClassId) (x : Addr) (g : Addr) (u : Addr) (t : Addr) (cap : Nat) (cs : List Int32) (ds : List Int32) (h : Heap) (v : Option Value) (h' : Heap) (WL' FL' : List Addr) : Prop := v = some (.ref x) ∧ WL' = [] ∧ FL' = [] ∧ Keep h h' [x, t] ∧ SB Z h' x t cap (cs ++ ds)
theorem ct_sbappN (cx : Cx a0 Z gC gF v_DO k_DO v_DT k_DT) (x : Addr) (g : Addr) (u : Addr) (t : Addr) (cap : Nat) (cs : List Int32) (ds : List Int32) (h : Heap) (WL FL : List Addr) (P0 : SB Z h x t cap cs) (P1 : StrL Z h g u ds) (P2 : x ∈ WL) (P3 : t ∈ WL) (hxt : x ≠ t) (hBB : cs.length + ds.length ≤ cap) :
    Ct l Z EL1 n0 (⟨"java/lang/StringBuilder", "append", "(Ljava/lang/String;)Ljava/lang/StringBuilder;"⟩ : MethodName) jdk_67_method_7_code 2 (Option.some (FieldType.object "java/lang/StringBuilder")) ({ frames := 4, cells := 0, slots := 0, locals := 61 } : Room) #[(.ref x), (.ref g)] h WL FL (Q_sbappN Z gC gF v_DO k_DO v_DT k_DT x g u t cap cs ds h) := by
  refine Ct.of (plainFor_of_name pn2) ?_
  intro p e s m below meth c s1 hx hby hml hnm hret hlk X0
  refine Wo.cast (f' := (mkF m 0 #[.val (.ref x), .val (.ref g)] [])) (by rfl) ?_
  have K0 : Keep h h [x, t] := Keep.refl _ _
  show Wo _ _ _ _ _ _ _ _ _ _ _ s1 (mkF m 0 #[.val (.ref x), .val (.ref g)] [])
  refine P.aloadN X0 hx 1 (hb hby d14_0) rfl rfl rfl ?_
  refine P.aloadN X0 hx 2 (hb hby d14_1) rfl rfl rfl ?_
  refine X0.callU hx (w97 cx) (w98 cx) (w99 cx) (w101 cx) (w112 cx) rfl (by decide) (by decide) (Ins.self P0.1) (Ct.pay (W := 0) (ct_asbappN cx x g u t cap cs ds h _ _ P0 P1 P2 P3 hxt hBB) (w101 cx) (w49 cx) (nle rfl) (nle rfl)) (by rw [hml]; rfl) (argsL := [.ref g]) (rest := []) (lenOf pd7 rfl) rfl rfl (Nat.le_of_eq rfl) (hb hby d14_2) (nle rfl) (nle rfl) ?_
  rintro T1 h1 _ _ _ X1 ⟨rfl, rfl, rfl, J1, G2⟩
  have K3 : Keep h h1 [x, t] := K0.trans J1 (allS (Or.inl (mg 0 rfl)) (allS (Or.inl (mg 1 rfl)) all0))
  refine P.pop X1 hx 6 (hb hby d14_5) rfl rfl ?_
  refine P.aloadN X1 hx 7 (hb hby d14_6) rfl rfl rfl ?_
  exact WS.retA X1 (WL' := []) (FL' := []) hx hret rfl rfl hlk (hb hby d14_7) (nle rfl) (nle rfl) ⟨rfl, rfl, rfl, K3, G2⟩
def Q_asbini (Z : State) (gC : Int32) (gF : Value) (v_DO : Addr) (k_DO : ClassId) (v_DT : Addr) (k_DT : ClassId) (x : Addr) (h : Heap) (v : Option Value) (h' : Heap) (WL' FL' : List Addr) : Prop := ∃ t : Addr, v = none ∧ WL' = [t] ∧ FL' = [] ∧ Keep h h' [x] ∧ h.size ≤ t ∧ SB Z h' x t 16 []
theorem ct_asbini (cx : Cx a0 Z gC gF v_DO k_DO v_DT k_DT) (x : Addr) (h : Heap) (WL FL : List Addr) (P0 : Exa Z h x "java/lang/StringBuilder") (P1 : Fld Z h x "java/lang/AbstractStringBuilder" "value" "[B" .null) (P2 : Fld Z h x "java/lang/AbstractStringBuilder" "coder" "B" (.int 0)) (P3 : Fld Z h x "java/lang/AbstractStringBuilder" "count" "I" (.int 0)) (P4 : x ∈ WL) :
    Ct l Z EL1 n0 (⟨"java/lang/AbstractStringBuilder", "<init>", "(I)V"⟩ : MethodName) jdk_68_method_2_code 2 (Option.none : Option Jvm.ClassFile.FieldType) ({ frames := 1, cells := 1, slots := 16, locals := 12 } : Room) #[(.ref x), (.int 16)] h WL FL (Q_asbini Z gC gF v_DO k_DO v_DT k_DT x h) := by
  refine Ct.of (plainFor_of_name pn1) ?_
  intro p e s m below meth c s1 hx hby hml hnm hret hlk X0
  refine Wo.cast (f' := (mkF m 0 #[.val (.ref x), .val (.int 16)] [])) (by rfl) ?_
  have K0 : Keep h h [x] := Keep.refl _ _
  show Wo _ _ _ _ _ _ _ _ _ _ _ s1 (mkF m 0 #[.val (.ref x), .val (.int 16)] [])
  refine P.aloadN X0 hx 1 (hb hby d7_0) rfl rfl rfl ?_
  refine X0.initO hx (w51 cx) (w12 cx) (w13 cx) (by rw [hml]; rfl) (hb hby d7_1) (nle rfl) (W := 0) (Nat.le_of_eq rfl) (nle rfl) ?_
  intro T1 X1
  refine X1.getS hx (w52 cx) Via.refl (S_C cx) (hb hby d7_4) ?_
  intro T2 X2
  refine P.ifNo X2 hx 10 (hb hby d7_7) ((if0 _ _).trans (feq (N_C cx)).1) rfl ?_
  refine P.aloadN X2 hx 11 (hb hby d7_10) rfl rfl rfl ?_
  refine P.iloadN X2 hx 12 (hb hby d7_11) rfl rfl ?_
  refine X2.newPE (aty := .byte) hx (w15 cx) (hb hby d7_12) (by decide) (cap := 16) (nle rfl) (nle rfl) (nle rfl) (nle rfl) (ad := "[B") (by decide) ?_
  intro T3 h3 a3 k3 X3 E3 g3 A3 Ex3
  have ge4 : h.size ≤ a3 := Nat.le_trans K0.1 g3
  have K5 : Keep h h3 [x] := K0.ext E3
  have V6 : Arv Z h3 a3 k3 .byte (16 : Int32) [] (.int 0) := A3
  have F7 := P1.ext E3
  have F8 := P0.ext E3
  refine X3.putF hx (host := "") (Or.inl (w53 cx)) Via.refl F7 F8 (Or.inl (w54 cx)) (w40 cx) (ty := (.array .byte)) (by decide) rfl rfl (mc P4) (hb hby d7_14) ?_
  intro T9 h9 X9 W9 G9
  have K10 : Keep h h9 [x] := K5.wr W9 (Or.inl (mg 0 rfl))
  refine P.aloadN X9 hx 18 (hb hby d7_17) rfl rfl rfl ?_
  refine P.iconst X9 hx 19 0 (hb hby d7_18) rfl rfl ?_
  have F11 := (P2.ext E3).other W9 (Or.inr (slot_ne (Or.inl (w56 cx)) (Or.inl (w54 cx)) (by decide) (t := .byte) (t' := (.array .byte)) (by decide) (by decide)))
  have F12 := F8.wr W9
  refine X9.putF hx (host := "") (Or.inl (w55 cx)) Via.refl F11 F12 (Or.inl (w56 cx)) (w40 cx) (ty := .byte) (by decide) rfl rfl (mc P4) (hb hby d7_19) ?_
  intro T13 h13 X13 W13 G13
  have K14 : Keep h h13 [x] := K10.wr W13 (Or.inl (mg 0 rfl))
  refine P.goto X13 hx 38 (hb hby d7_22) (by decide) (by decide) ?_
  have F15 := G9.other W13 (Or.inr (slot_ne (Or.inl (w54 cx)) (Or.inl (w56 cx)) (by decide) (t := (.array .byte)) (t' := .byte) (by decide) (by decide)))
  have F16 := F12.wr W13
  have F17 := ((P3.ext E3).other W9 (Or.inr (slot_ne (Or.inl (w108 cx)) (Or.inl (w54 cx)) (by decide) (t := .int) (t' := (.array .byte)) (by decide) (by decide)))).other W13 (Or.inr (slot_ne (Or.inl (w108 cx)) (Or.inl (w56 cx)) (by decide) (t := .int) (t' := .byte) (by decide) (by decide)))
  have F18 := (V6.other W9 (X13.neT (A := [a3]) (B := WL) (mg 0 rfl) P4)).other W13 (X13.neT (A := [a3]) (B := WL) (mg 0 rfl) P4)
  have F19 := (Ex3.wr W9).wr W13
  have S20 : SB Z h13 x a3 16 [] := ⟨F16, F15, G13, F17, ⟨_, F18⟩, fc0, Nat.zero_le _, nle rfl, F19⟩
  exact WS.retV X13 (WL' := [a3]) (FL' := []) hx hret hlk (hb hby d7_38) (nle rfl) (nle rfl) ⟨a3, rfl, rfl, rfl, K14, ge4, S20⟩
def Q_sbini (Z : State) (gC : Int32) (gF : Value) (v_DO : Addr) (k_DO : ClassId) (v_DT : Addr) (k_DT : ClassId) (x : Addr) (h : Heap) (v : Option Value) (h' : Heap) (WL' FL' : List Addr) : Prop := ∃ t : Addr, v = none ∧ WL' = [t] ∧ FL' = [] ∧ Keep h h' [x] ∧ h.size ≤ t ∧ SB Z h' x t 16 []
theorem ct_sbini (cx : Cx a0 Z gC gF v_DO k_DO v_DT k_DT) (x : Addr) (h : Heap) (WL FL : List Addr) (P0 : Exa Z h x "java/lang/StringBuilder") (P1 : Fld Z h x "java/lang/AbstractStringBuilder" "value" "[B" .null) (P2 : Fld Z h x "java/lang/AbstractStringBuilder" "coder" "B" (.int 0)) (P3 : Fld Z h x "java/lang/AbstractStringBuilder" "count" "I" (.int 0)) (P4 : x ∈ WL) :
    Ct l Z EL1 n0 (⟨"java/lang/StringBuilder", "<init>", "()V"⟩ : MethodName) jdk_67_method_1_code 1 (Option.none : Option Jvm.ClassFile.FieldType) ({ frames := 2, cells := 1, slots := 16, locals := 25 } : Room) #[(.ref x)] h WL FL (Q_sbini Z gC gF v_DO k_DO v_DT k_DT x h) := by
  refine Ct.of (plainFor_of_name pn2) ?_
  intro p e s m below meth c s1 hx hby hml hnm hret hlk X0
  refine Wo.cast (f' := (mkF m 0 #[.val (.ref x)] [])) (by rfl) ?_
  have K0 : Keep h h [x] := Keep.refl _ _
  show Wo _ _ _ _ _ _ _ _ _ _ _ s1 (mkF m 0 #[.val (.ref x)] [])
  refine P.aloadN X0 hx 1 (hb hby d6_0) rfl rfl rfl ?_
  refine P.bipush X0 hx 3 16 (hb hby d6_1) rfl rfl ?_
  refine X0.callC hx rfl (w45 cx) (w46 cx) (w50 cx) (by decide) (Ct.pay (W := 0) (ct_asbini cx x h _ _ P0 P1 P2 P3 P4) (w50 cx) (w49 cx) (nle rfl) (nle rfl)) (by rw [hml]; rfl) (argsL := [.int 16]) (rest := []) (lenOf pd5 rfl) rfl rfl (Nat.le_of_eq rfl) (hb hby d6_3) (nle rfl) (nle rfl) ?_
  rintro T1 h1 _ _ _ X1 ⟨a2, rfl, rfl, rfl, J1, g4, G3⟩
  have ge5 : h.size ≤ a2 := Nat.le_trans K0.1 g4
  have K6 : Keep h h1 [x] := K0.trans J1 (allS (Or.inl (mg 0 rfl)) all0)
  exact WS.retV X1 (WL' := [a2]) (FL' := []) hx hret hlk (hb hby d6_6) (nle rfl) (nle rfl) ⟨a2, rfl, rfl, rfl, K6, ge5, G3⟩
def Q_getval (Z : State) (gC : Int32) (gF : Value) (v_DO : Addr) (k_DO : ClassId) (v_DT : Addr) (k_DT : ClassId) (x : Addr) (t : Addr) (h : Heap) (v : Option Value) (h' : Heap) (WL' FL' : List Addr) : Prop := v = some (.ref t) ∧ WL' = [] ∧ FL' = [] ∧ h' = h
theorem ct_getval (cx : Cx a0 Z gC gF v_DO k_DO v_DT k_DT) (x : Addr) (t : Addr) (h : Heap) (WL FL : List Addr) (P0 : Fld Z h x "java/lang/AbstractStringBuilder" "value" "[B" (.ref t)) :
    Ct l Z EL1 n0 (⟨"java/lang/AbstractStringBuilder", "getValue", "()[B"⟩ : MethodName) jdk_68_method_64_code 1 (Option.some (FieldType.array FieldType.byte)) ({ frames := 0, cells := 0, slots := 0, locals := 0 } : Room) #[(.ref x)] h WL FL (Q_getval Z gC gF v_DO k_DO v_DT k_DT x t h) := by
  refine Ct.of (plainFor_of_name pn1) ?_
  intro p e s m below meth c s1 hx hby hml hnm hret hlk X0
  refine Wo.cast (f' := (mkF m 0 #[.val (.ref x)] [])) (by rfl) ?_
  show Wo _ _ _ _ _ _ _ _ _ _ _ s1 (mkF m 0 #[.val (.ref x)] [])
  refine P.aloadN X0 hx 1 (hb hby d29_0) rfl rfl rfl ?_
  refine X0.getF hx (host := "") (Or.inl (w53 cx)) Via.refl P0 (hb hby d29_1) ?_
  intro T1 X1
  exact WS.retA X1 (WL' := []) (FL' := []) hx hret rfl rfl hlk (hb hby d29_4) (nle rfl) (nle rfl) ⟨rfl, rfl, rfl, rfl⟩
def Q_asblen (Z : State) (gC : Int32) (gF : Value) (v_DO : Addr) (k_DO : ClassId) (v_DT : Addr) (k_DT : ClassId) (x : Addr) (z : Int32) (h : Heap) (v : Option Value) (h' : Heap) (WL' FL' : List Addr) : Prop := v = some (.int z) ∧ WL' = [] ∧ FL' = [] ∧ h' = h
theorem ct_asblen (cx : Cx a0 Z gC gF v_DO k_DO v_DT k_DT) (x : Addr) (z : Int32) (h : Heap) (WL FL : List Addr) (P0 : Fld Z h x "java/lang/AbstractStringBuilder" "count" "I" (.int z)) :
    Ct l Z EL1 n0 (⟨"java/lang/AbstractStringBuilder", "length", "()I"⟩ : MethodName) jdk_68_method_6_code 1 (Option.some FieldType.int) ({ frames := 0, cells := 0, slots := 0, locals := 0 } : Room) #[(.ref x)] h WL FL (Q_asblen Z gC gF v_DO k_DO v_DT k_DT x z h) := by
  refine Ct.of (plainFor_of_name pn1) ?_
  intro p e s m below meth c s1 hx hby hml hnm hret hlk X0
  refine Wo.cast (f' := (mkF m 0 #[.val (.ref x)] [])) (by rfl) ?_
  show Wo _ _ _ _ _ _ _ _ _ _ _ s1 (mkF m 0 #[.val (.ref x)] [])
  refine P.aloadN X0 hx 1 (hb hby d31_0) rfl rfl rfl ?_
  refine X0.getF hx (host := "") (Or.inl (w107 cx)) Via.refl P0 (hb hby d31_1) ?_
  intro T1 X1
  exact WS.retI X1 (WL' := []) (FL' := []) hx hret hlk (hb hby d31_4) (nle rfl) (nle rfl) ⟨rfl, rfl, rfl, rfl⟩
def Q_sblen (Z : State) (gC : Int32) (gF : Value) (v_DO : Addr) (k_DO : ClassId) (v_DT : Addr) (k_DT : ClassId) (x : Addr) (z : Int32) (h : Heap) (v : Option Value) (h' : Heap) (WL' FL' : List Addr) : Prop := v = some (.int z) ∧ WL' = [] ∧ FL' = [] ∧ h' = h
theorem ct_sblen (cx : Cx a0 Z gC gF v_DO k_DO v_DT k_DT) (x : Addr) (z : Int32) (h : Heap) (WL FL : List Addr) (P0 : Exa Z h x "java/lang/StringBuilder") (P1 : Fld Z h x "java/lang/AbstractStringBuilder" "count" "I" (.int z)) :
    Ct l Z EL1 n0 (⟨"java/lang/StringBuilder", "length", "()I"⟩ : MethodName) jdk_67_method_93_code 1 (Option.some FieldType.int) ({ frames := 1, cells := 0, slots := 0, locals := 12 } : Room) #[(.ref x)] h WL FL (Q_sblen Z gC gF v_DO k_DO v_DT k_DT x z h) := by
  refine Ct.of (plainFor_of_name pn2) ?_
  intro p e s m below meth c s1 hx hby hml hnm hret hlk X0
  refine Wo.cast (f' := (mkF m 0 #[.val (.ref x)] [])) (by rfl) ?_
  show Wo _ _ _ _ _ _ _ _ _ _ _ s1 (mkF m 0 #[.val (.ref x)] [])
  refine P.aloadN X0 hx 1 (hb hby d30_0) rfl rfl rfl ?_
  refine X0.callU hx (w179 cx) (w175 cx) (w99 cx) (w180 cx) (w112 cx) rfl (by decide) (by decide) (Ins.self P0) (Ct.pay (W := 0) (ct_asblen cx x z h _ _ P1) (w180 cx) (w49 cx) (nle rfl) (nle rfl)) (by rw [hml]; rfl) (argsL := []) (rest := []) (lenOf pd4 rfl) rfl rfl (Nat.le_of_eq rfl) (hb hby d30_1) (nle rfl) (nle rfl) ?_
  rintro T1 h1 _ _ _ X1 ⟨rfl, rfl, rfl, J1⟩
  rw [J1] at X1
  exact WS.retI X1 (WL' := []) (FL' := []) hx hret hlk (hb hby d30_4) (nle rfl) (nle rfl) ⟨rfl, rfl, rfl, rfl⟩
def Q_asblat (Z : State) (gC : Int32) (gF : Value) (v_DO : Addr) (k_DO : ClassId) (v_DT : Addr) (k_DT : ClassId) (x : Addr) (h : Heap) (v : Option Value) (h' : Heap) (WL' FL' : List Addr) : Prop := v = some (.int 1) ∧ WL' = [] ∧ FL' = [] ∧ h' = h
theorem ct_asblat (cx : Cx a0 Z gC gF v_DO k_DO v_DT k_DT) (x : Addr) (h : Heap) (WL FL : List Addr) (P0 : Fld Z h x "java/lang/AbstractStringBuilder" "coder" "B" (.int 0)) :
    Ct l Z EL1 n0 (⟨"java/lang/AbstractStringBuilder", "isLatin1", "()Z"⟩ : MethodName) jdk_68_method_68_code 1 (Option.some FieldType.boolean) ({ frames := 0, cells := 0, slots := 0, locals := 0 } : Room) #[(.ref x)] h WL FL (Q_asblat Z gC gF v_DO k_DO v_DT k_DT x h) := by
  refine Ct.of (plainFor_of_name pn1) ?_
  intro p e s m below meth c s1 hx hby hml hnm hret hlk X0
  refine Wo.cast (f' := (mkF m 0 #[.val (.ref x)] [])) (by rfl) ?_
  show Wo _ _ _ _ _ _ _ _ _ _ _ s1 (mkF m 0 #[.val (.ref x)] [])
  refine X0.getS hx (w52 cx) Via.refl (S_C cx) (hb hby d24_0) ?_
  intro T1 X1
  refine P.ifNo X1 hx 6 (hb hby d24_3) ((if0 _ _).trans (feq (N_C cx)).1) rfl ?_
  refine P.aloadN X1 hx 7 (hb hby d24_6) rfl rfl rfl ?_
  refine X1.getF hx (host := "") (Or.inl (w55 cx)) Via.refl P0 (hb hby d24_7) ?_
  intro T2 X2
  refine P.ifNo X2 hx 13 (hb hby d24_10) (by decide) rfl ?_
  refine P.iconst X2 hx 14 1 (hb hby d24_13) rfl rfl ?_
  refine P.goto X2 hx 18 (hb hby d24_14) (by decide) (by decide) ?_
  exact WS.retN X2 (WL' := []) (FL' := []) hx (t := .boolean) hret (by simp) hlk (hb hby d24_18) (nle rfl) (nle rfl) ⟨rfl, rfl, rfl, rfl⟩
def Q_chklen (Z : State) (gC : Int32) (gF : Value) (v_DO : Addr) (k_DO : ClassId) (v_DT : Addr) (k_DT : ClassId) (z : Int32) (h : Heap) (v : Option Value) (h' : Heap) (WL' FL' : List Addr) : Prop := v = none ∧ WL' = [] ∧ FL' = [] ∧ h' = h
theorem ct_chklen (cx : Cx a0 Z gC gF v_DO k_DO v_DT k_DT) (z : Int32) (h : Heap) (WL FL : List Addr) (hz : ¬ (z < (0 : Int32))) :
    Ct l Z EL1 n0 (⟨"java/util/Arrays", "checkLength", "(II)V"⟩ : MethodName) jdk_65_method_131_code 2 (Option.none : Option Jvm.ClassFile.FieldType) ({ frames := 0, cells := 0, slots := 0, locals := 0 } : Room) #[(.int 0), (.int z)] h WL FL (Q_chklen Z gC gF v_DO k_DO v_DT k_DT z h) := by
  refine Ct.of (plainFor_of_name pn3) ?_
  intro p e s m below meth c s1 hx hby hml hnm hret hlk X0
  refine Wo.cast (f' := (mkF m 0 #[.val (.int 0), .val (.int z)] [])) (by rfl) ?_
  show Wo _ _ _ _ _ _ _ _ _ _ _ s1 (mkF m 0 #[.val (.int 0), .val (.int z)] [])
  refine P.iloadN X0 hx 1 (hb hby d34_0) rfl rfl ?_
  refine P.iloadN X0 hx 2 (hb hby d34_1) rfl rfl ?_
  refine P.icmpYes X0 hx 37 (hb hby d34_2) (flt hz).2.1 (by decide) (by decide) ?_
  exact WS.retV X0 (WL' := []) (FL' := []) hx hret hlk (hb hby d34_37) (nle rfl) (nle rfl) ⟨rfl, rfl, rfl, rfl⟩
def Q_minqr (Z : State) (gC : Int32) (gF : Value) (v_DO : Addr) (k_DO : ClassId) (v_DT : Addr) (k_DT : ClassId) (a : Int32) (b : Int32) (h : Heap) (v : Option Value) (h' : Heap) (WL' FL' : List Addr) : Prop := v = some (.int b) ∧ WL' = [] ∧ FL' = [] ∧ h' = h
theorem ct_minqr (cx : Cx a0 Z gC gF v_DO k_DO v_DT k_DT) (a : Int32) (b : Int32) (h : Heap) (WL FL : List Addr) (hz : b < a) :
    Ct l Z EL1 n0 (⟨"java/lang/Math", "min", "(II)I"⟩ : MethodName) jdk_29_method_69_code 2 (Option.some FieldType.int) ({ frames := 0, cells := 0, slots := 0, locals := 0 } : Room) #[(.int a), (.int b)] h WL FL (Q_minqr Z gC gF v_DO k_DO v_DT k_DT a b h) := by
  refine Ct.of (by decide +kernel) ?_
  intro p e s m below meth c s1 hx hby hml hnm hret hlk X0
  refine Wo.cast (f' := (mkF m 0 #[.val (.int a), .val (.int b)] [])) (by rfl) ?_
  show Wo _ _ _ _ _ _ _ _ _ _ _ s1 (mkF m 0 #[.val (.int a), .val (.int b)] [])
  refine P.iloadN X0 hx 1 (hb hby d35_0) rfl rfl ?_
  refine P.iloadN X0 hx 2 (hb hby d35_1) rfl rfl ?_
  refine P.icmpYes X0 hx 9 (hb hby d35_2) (tlt hz).2.2.1 (by decide) (by decide) ?_
  refine P.iloadN X0 hx 10 (hb hby d35_9) rfl rfl ?_
  exact WS.retI X0 (WL' := []) (FL' := []) hx hret hlk (hb hby d35_10) (nle rfl) (nle rfl) ⟨rfl, rfl, rfl, rfl⟩
def Q_corb (Z : State) (gC : Int32) (gF : Value) (v_DO : Addr) (k_DO : ClassId) (v_DT : Addr) (k_DT : ClassId) (t : Addr) (kt : ClassId) (cap : Nat) (cs : List Int32) (h : Heap) (v : Option Value) (h' : Heap) (WL' FL' : List Addr) : Prop := ∃ u : Addr, ∃ ku : ClassId, v = some (.ref u) ∧ WL' = [u] ∧ FL' = [] ∧ Keep h h' [] ∧ h.size ≤ u ∧ Arv Z h' u ku .byte (Int32.ofNat cs.length) (lat cs) (.int 0)
theorem ct_corb (cx : Cx a0 Z gC gF v_DO k_DO v_DT k_DT) (t : Addr) (kt : ClassId) (cap : Nat) (cs : List Int32) (h : Heap) (WL FL : List Addr) (P0 : Arv Z h t kt .byte (Int32.ofNat cap) (lat cs) (.int 0)) (hl : cs.length < cap) (hc : cap ≤ 4000) (hB : cs.length ≤ 11) :
    Ct l Z EL1 n0 (⟨"java/util/Arrays", "copyOfRangeByte", "([BII)[B"⟩ : MethodName) jdk_65_method_133_code 5 (Option.some (FieldType.array FieldType.byte)) ({ frames := 1, cells := 1, slots := 11, locals := 18 } : Room) #[(.ref t), (.int 0), (.int (Int32.ofNat cs.length))] h WL FL (Q_corb Z gC gF v_DO k_DO v_DT k_DT t kt cap cs h) := by
  refine Ct.of (plainFor_of_name pn3) ?_
  intro p e s m below meth c s1 hx hby hml hnm hret hlk X0
  refine Wo.cast (f' := (mkF m 0 #[.val (.ref t), .val (.int 0), .val (.int (Int32.ofNat cs.length)), .unset, .unset] [])) (by rfl) ?_
  have K0 : Keep h h [] := Keep.refl _ _
  show Wo _ _ _ _ _ _ _ _ _ _ _ s1 (mkF m 0 #[.val (.ref t), .val (.int 0), .val (.int (Int32.ofNat cs.length)), .unset, .unset] [])
  refine P.iloadN X0 hx 1 (hb hby d33_0) rfl rfl ?_
  refine P.iloadN X0 hx 2 (hb hby d33_1) rfl rfl ?_
  refine X0.callS hx (w189 cx) (w190 cx) (w184 cx) (w191 cx) (by decide) (Ct.pay (W := 0) (ct_chklen cx (Int32.ofNat cs.length) h _ _ (oNn (Nat.lt_of_le_of_lt hB (by decide)))) (w191 cx) (w184 cx) (nle rfl) (nle rfl)) (by rw [hml]; rfl) (argsL := [.int 0, .int (Int32.ofNat cs.length)]) (rest := []) (lenOf pd8 rfl) rfl rfl (Nat.le_of_eq rfl) (hb hby d33_2) (nle rfl) (nle rfl) ?_
  rintro T1 h1 _ _ _ X1 ⟨rfl, rfl, rfl, J1⟩
  rw [J1] at X1
  refine P.iloadN X1 hx 6 (hb hby d33_5) rfl rfl ?_
  refine P.iloadN X1 hx 7 (hb hby d33_6) rfl rfl ?_
  refine P.isub X1 hx 8 (z := (Int32.ofNat cs.length)) (hb hby d33_7) (by rw [Int32.sub_zero]) rfl ?_
  refine P.istoreN X1 hx 9 #[.val (.ref t), .val (.int 0), .val (.int (Int32.ofNat cs.length)), .val (.int (Int32.ofNat cs.length)), .unset] (hb hby d33_8) rfl rfl ?_
  refine P.iloadN X1 hx 10 (hb hby d33_9) rfl rfl ?_
  refine X1.newPE (aty := .byte) hx (w15 cx) (hb hby d33_10) (oNn (Nat.lt_of_le_of_lt hB (by decide))) (cap := 11) (by rw [oC (Nat.lt_of_le_of_lt hB (by decide))]; exact hB) (nle rfl) (nle rfl) (nle rfl) (ad := "[B") (by decide) ?_
  intro T2 h2 a2 k2 X2 E2 g2 A2 Ex2
  have ge3 : h.size ≤ a2 := Nat.le_trans K0.1 g2
  have K4 : Keep h h2 [] := K0.ext E2
  have V5 : Arv Z h2 a2 k2 .byte (Int32.ofNat cs.length) [] (.int 0) := A2
  refine P.astore X2 hx 14 #[.val (.ref t), .val (.int 0), .val (.int (Int32.ofNat cs.length)), .val (.int (Int32.ofNat cs.length)), .val (.ref a2)] (hb hby d33_12) rfl rfl rfl ?_
  refine P.aloadN X2 hx 15 (hb hby d33_14) rfl rfl rfl ?_
  refine P.iloadN X2 hx 16 (hb hby d33_15) rfl rfl ?_
  refine P.aload X2 hx 18 (hb hby d33_16) rfl rfl rfl ?_
  refine P.iconst X2 hx 19 0 (hb hby d33_18) rfl rfl ?_
  refine P.aloadN X2 hx 20 (hb hby d33_19) rfl rfl rfl ?_
  have F6 := P0.ext E2
  refine WS.alen X2 hx F6 (hb hby d33_20) ?_
  refine P.iloadN X2 hx 22 (hb hby d33_21) rfl rfl ?_
  refine P.isub X2 hx 23 (z := (Int32.ofNat cap)) (hb hby d33_22) (by rw [Int32.sub_zero]) rfl ?_
  refine P.iloadN X2 hx 24 (hb hby d33_23) rfl rfl ?_
  refine X2.callS hx (w192 cx) (w193 cx) (w194 cx) (w195 cx) (by decide) (Ct.pay (W := 4) (ct_minqr cx (Int32.ofNat cap) (Int32.ofNat cs.length) h2 _ _ ((oLt (Nat.lt_of_le_of_lt hB (by decide)) (Nat.lt_of_le_of_lt hc (by decide))).mpr hl)) (w195 cx) (w194 cx) (nle rfl) (nle rfl)) (by rw [hml]; rfl) (argsL := [.int (Int32.ofNat cap), .int (Int32.ofNat cs.length)]) (rest := [.int 0, .ref a2, .int 0, .ref t]) (lenOf pd9 rfl) rfl rfl (Nat.le_of_eq rfl) (hb hby d33_24) (nle rfl) (nle rfl) ?_
  rintro T7 h7 _ _ _ X7 ⟨rfl, rfl, rfl, J7⟩
  rw [J7] at X7
  refine WS.cpL (cs := []) (ds := cs) X7 hx (w196 cx) (w133 cx) (w131 cx) (w132 cx) F6 V5 (Nat.le_of_lt hl) (by simp) hc (Nat.le_trans hB (by decide)) (mg 0 rfl) (by rw [hml]; rfl) (hb hby d33_27) (nle rfl) (W := 0) (Nat.le_of_eq rfl) (nle rfl) ?_
  intro T8 h8 X8 J8 G8
  have K9 : Keep h h8 [] := K4.trans J8 (allS (Or.inr ge3) all0)
  refine P.aload X8 hx 32 (hb hby d33_30) rfl rfl rfl ?_
  exact WS.retA X8 (WL' := [a2]) (FL' := []) hx hret rfl rfl hlk (hb hby d33_32) (nle rfl) (nle rfl) ⟨a2, k2, rfl, rfl, rfl, K9, ge3, G8⟩
def Q_cor (Z : State) (gC : Int32) (gF : Value) (v_DO : Addr) (k_DO : ClassId) (v_DT : Addr) (k_DT : ClassId) (t : Addr) (kt : ClassId) (cap : Nat) (cs : List Int32) (h : Heap) (v : Option Value) (h' : Heap) (WL' FL' : List Addr) : Prop := ∃ u : Addr, ∃ ku : ClassId, v = some (.ref u) ∧ WL' = [u] ∧ FL' = [] ∧ Keep h h' [] ∧ h.size ≤ u ∧ Arv Z h' u ku .byte (Int32.ofNat cs.length) (lat cs) (.int 0)
theorem ct_cor (cx : Cx a0 Z gC gF v_DO k_DO v_DT k_DT) (t : Addr) (kt : ClassId) (cap : Nat) (cs : List Int32) (h : Heap) (WL FL : List Addr) (P0 : Arv Z h t kt .byte (Int32.ofNat cap) (lat cs) (.int 0)) (hl : cs.length < cap) (hc : cap ≤ 4000) (hB : cs.length ≤ 11) :
    Ct l Z EL1 n0 (⟨"java/util/Arrays", "copyOfRange", "([BII)[B"⟩ : MethodName) jdk_65_method_132_code 3 (Option.some (FieldType.array FieldType.byte)) ({ frames := 2, cells := 1, slots := 11, locals := 34 } : Room) #[(.ref t), (.int 0), (.int (Int32.ofNat cs.length))] h WL FL (Q_cor Z gC gF v_DO k_DO v_DT k_DT t kt cap cs h) := by
  refine Ct.of (plainFor_of_name pn3) ?_
  intro p e s m below meth c s1 hx hby hml hnm hret hlk X0
  refine Wo.cast (f' := (mkF m 0 #[.val (.ref t), .val (.int 0), .val (.int (Int32.ofNat cs.length))] [])) (by rfl) ?_
  have K0 : Keep h h [] := Keep.refl _ _
  show Wo _ _ _ _ _ _ _ _ _ _ _ s1 (mkF m 0 #[.val (.ref t), .val (.int 0), .val (.int (Int32.ofNat cs.length))] [])
  refine P.iloadN X0 hx 1 (hb hby d32_0) rfl rfl ?_
  refine P.ifNo X0 hx 4 (hb hby d32_1) (by decide) rfl ?_
  refine P.iloadN X0 hx 5 (hb hby d32_4) rfl rfl ?_
  refine P.aloadN X0 hx 6 (hb hby d32_5) rfl rfl rfl ?_
  refine WS.alen X0 hx P0 (hb hby d32_6) ?_
  refine P.icmpNo X0 hx 10 (hb hby d32_7) (feq (fun q => Nat.ne_of_lt hl ((oEq (Nat.lt_of_le_of_lt hB (by decide)) (Nat.lt_of_le_of_lt hc (by decide))).mp q))).1 rfl ?_
  refine P.aloadN X0 hx 11 (hb hby d32_10) rfl rfl rfl ?_
  refine P.iloadN X0 hx 12 (hb hby d32_11) rfl rfl ?_
  refine P.iloadN X0 hx 13 (hb hby d32_12) rfl rfl ?_
  refine X0.callS hx (w186 cx) (w187 cx) (w184 cx) (w188 cx) (by decide) (Ct.pay (W := 0) (ct_corb cx t kt cap cs h _ _ P0 hl hc hB) (w188 cx) (w184 cx) (nle rfl) (nle rfl)) (by rw [hml]; rfl) (argsL := [.ref t, .int 0, .int (Int32.ofNat cs.length)]) (rest := []) (lenOf pd10 rfl) rfl rfl (Nat.le_of_eq rfl) (hb hby d32_13) (nle rfl) (nle rfl) ?_
  rintro T1 h1 _ _ _ X1 ⟨a2, k3, rfl, rfl, rfl, J1, g5, G4⟩
  have ge6 : h.size ≤ a2 := Nat.le_trans K0.1 g5
  have K7 : Keep h h1 [] := K0.trans J1 all0
  exact WS.retA X1 (WL' := [a2]) (FL' := []) hx hret rfl rfl hlk (hb hby d32_16) (nle rfl) (nle rfl) ⟨a2, k3, rfl, rfl, rfl, K7, ge6, G4⟩
def Q_sasb (Z : State) (gC : Int32) (gF : Value) (v_DO : Addr) (k_DO : ClassId) (v_DT : Addr) (k_DT : ClassId) (x : Addr) (q : Addr) (t : Addr) (cap : Nat) (cs : List Int32) (h : Heap) (v : Option Value) (h' : Heap) (WL' FL' : List Addr) : Prop := ∃ u : Addr, v = none ∧ WL' = [] ∧ FL' = [u] ∧ Keep h h' [x] ∧ StrL Z h' x u cs
theorem ct_sasb (cx : Cx a0 Z gC gF v_DO k_DO v_DT k_DT) (x : Addr) (q : Addr) (t : Addr) (cap : Nat) (cs : List Int32) (h : Heap) (WL FL : List Addr) (P0 : Exa Z h x "java/lang/String") (P1 : Fld Z h x "java/lang/String" "value" "[B" .null) (P2 : Fld Z h x "java/lang/String" "coder" "B" (.int 0)) (P3 : x ∈ WL) (P4 : SB Z h q t cap cs) (hl : cs.length < cap) (hB : cs.length ≤ 11) (hqx : q ≠ x) (htx : t ≠ x) :
    Ct l Z EL1 n0 (⟨"java/lang/String", "<init>", "(Ljava/lang/AbstractStringBuilder;Ljava/lang/Void;)V"⟩ : MethodName) jdk_42_method_150_code 5 (Option.none : Option Jvm.ClassFile.FieldType) ({ frames := 3, cells := 1, slots := 11, locals := 49 } : Room) #[(.ref x), (.ref q), .null] h WL FL (Q_sasb Z gC gF v_DO k_DO v_DT k_DT x q t cap cs h) := by
  refine Ct.of (plainFor_of_name pn0) ?_
  intro p e s m below meth c s1 hx hby hml hnm hret hlk X0
  refine Wo.cast (f' := (mkF m 0 #[.val (.ref x), .val (.ref q), .val .null, .unset, .unset] [])) (by rfl) ?_
  have K0 : Keep h h [x] := Keep.refl _ _
  show Wo _ _ _ _ _ _ _ _ _ _ _ s1 (mkF m 0 #[.val (.ref x), .val (.ref q), .val .null, .unset, .unset] [])
  refine P.aloadN X0 hx 1 (hb hby d28_0) rfl rfl rfl ?_
  refine X0.initO hx (w11 cx) (w12 cx) (w13 cx) (by rw [hml]; rfl) (hb hby d28_1) (nle rfl) (W := 0) (Nat.le_of_eq rfl) (nle rfl) ?_
  intro T1 X1
  refine P.aloadN X1 hx 5 (hb hby d28_4) rfl rfl rfl ?_
  obtain ⟨k2, A2⟩ := P4.2.2.2.2.1
  refine X1.callV hx (w168 cx) (w169 cx) (w171 cx) (w170 cx) (fun _ hZ => nf hZ (w171 cx)) (by decide) P4.1 (Ct.pay (W := 0) (ct_getval cx q t h _ _ P4.2.1) (w172 cx) (w49 cx) (nle rfl) (nle rfl)) (by rw [hml]; rfl) (argsL := []) (rest := []) (lenOf pd11 rfl) rfl rfl (Nat.le_of_eq rfl) (hb hby d28_5) (nle rfl) (nle rfl) ?_
  rintro T3 h3 _ _ _ X3 ⟨rfl, rfl, rfl, J3⟩
  rw [J3] at X3
  refine P.astoreN X3 hx 9 #[.val (.ref x), .val (.ref q), .val .null, .val (.ref t), .unset] (hb hby d28_8) rfl rfl rfl ?_
  refine P.aloadN X3 hx 10 (hb hby d28_9) rfl rfl rfl ?_
  refine X3.callV hx (w173 cx) (w174 cx) (w176 cx) (w177 cx) (fun _ hZ => nfO hZ (w112 cx) rfl) (by decide) P4.1 (Ct.pay (W := 0) (ct_sblen cx q (Int32.ofNat cs.length) h _ _ P4.1 P4.2.2.2.1) (w178 cx) (w41 cx) (nle rfl) (nle rfl)) (by rw [hml]; rfl) (argsL := []) (rest := []) (lenOf pd4 rfl) rfl rfl (Nat.le_of_eq rfl) (hb hby d28_10) (nle rfl) (nle rfl) ?_
  rintro T4 h4 _ _ _ X4 ⟨rfl, rfl, rfl, J4⟩
  rw [J4] at X4
  refine P.istore X4 hx 15 #[.val (.ref x), .val (.ref q), .val .null, .val (.ref t), .val (.int (Int32.ofNat cs.length))] (hb hby d28_13) rfl rfl ?_
  refine P.aloadN X4 hx 16 (hb hby d28_15) rfl rfl rfl ?_
  refine X4.callV hx (w181 cx) (w148 cx) (w150 cx) (w149 cx) (fun _ hZ => nf hZ (w150 cx)) (by decide) P4.1 (Ct.pay (W := 0) (ct_asblat cx q h _ _ P4.2.2.1) (w151 cx) (w49 cx) (nle rfl) (nle rfl)) (by rw [hml]; rfl) (argsL := []) (rest := []) (lenOf pd12 rfl) rfl rfl (Nat.le_of_eq rfl) (hb hby d28_16) (nle rfl) (nle rfl) ?_
  rintro T5 h5 _ _ _ X5 ⟨rfl, rfl, rfl, J5⟩
  rw [J5] at X5
  refine P.ifNo X5 hx 22 (hb hby d28_19) (by decide) rfl ?_
  refine P.aloadN X5 hx 23 (hb hby d28_22) rfl rfl rfl ?_
  refine P.iconst X5 hx 24 0 (hb hby d28_23) rfl rfl ?_
  refine X5.putF hx (host := "") (Or.inl (w21 cx)) Via.refl P2 P0 (Or.inr ⟨(w17 cx), rfl, hnm⟩) (w2 cx) (ty := .byte) (by decide) rfl rfl P3 (hb hby d28_24) ?_
  intro T6 h6 X6 W6 G6
  have K7 : Keep h h6 [x] := K0.wr W6 (Or.inl (mg 0 rfl))
  refine P.aloadN X6 hx 28 (hb hby d28_27) rfl rfl rfl ?_
  refine P.aloadN X6 hx 29 (hb hby d28_28) rfl rfl rfl ?_
  refine P.iconst X6 hx 30 0 (hb hby d28_29) rfl rfl ?_
  refine P.iload X6 hx 32 (hb hby d28_30) rfl rfl ?_
  have F8 := A2.other W6 htx
  refine X6.callS hx (w182 cx) (w183 cx) (w184 cx) (w185 cx) (by decide) (Ct.pay (W := 1) (ct_cor cx t k2 cap cs h6 _ _ F8 hl P4.2.2.2.2.2.2.2.1 hB) (w185 cx) (w184 cx) (nle rfl) (nle rfl)) (by rw [hml]; rfl) (argsL := [.ref t, .int 0, .int (Int32.ofNat cs.length)]) (rest := [.ref x]) (lenOf pd10 rfl) rfl rfl (Nat.le_of_eq rfl) (hb hby d28_32) (nle rfl) (nle rfl) ?_
  rintro T9 h9 _ _ _ X9 ⟨a10, k11, rfl, rfl, rfl, J9, g13, G12⟩
  have ge14 : h.size ≤ a10 := Nat.le_trans K7.1 g13
  have K15 : Keep h h9 [x] := K7.trans J9 all0
  have F16 := (P1.other W6 (Or.inr (slot_ne (Or.inr (w16 cx)) (Or.inr (w17 cx)) (by decide) (t := (.array .byte)) (t' := .byte) (by decide) (by decide)))).keep J9 nin0
  have F17 := (P0.wr W6).keep J9
  refine X9.putF hx (host := "") (Or.inl (w20 cx)) Via.refl F16 F17 (Or.inr ⟨(w16 cx), rfl, hnm⟩) (w2 cx) (ty := (.array .byte)) (by decide) rfl rfl (mc P3) (hb hby d28_35) ?_
  intro T18 h18 X18 W18 G18
  have K19 : Keep h h18 [x] := K15.wr W18 (Or.inl (mg 0 rfl))
  refine P.goto X18 hx 97 (hb hby d28_38) (by decide) (by decide) ?_
  have F20 := F17.wr W18
  have F21 := (G6.keep J9 nin0).other W18 (Or.inr (slot_ne (Or.inr (w17 cx)) (Or.inr (w16 cx)) (by decide) (t := .byte) (t' := (.array .byte)) (by decide) (by decide)))
  have F22 := G12.other W18 (X18.neT (A := [a10]) (B := WL) (mg 0 rfl) P3)
  have S23 : StrL Z h18 x a10 cs := ⟨F20, G18, F21, ⟨_, F22⟩, P4.2.2.2.2.2.1, Nat.le_trans hB (by decide)⟩
  have X24 := WS.drop (A := []) (B := WL) X18
  exact WS.retV X24 (WL' := []) (FL' := [a10]) hx hret hlk (hb hby d28_97) (nle rfl) (nle rfl) ⟨a10, rfl, rfl, rfl, K19, S23⟩
def Q_ssb (Z : State) (gC : Int32) (gF : Value) (v_DO : Addr) (k_DO : ClassId) (v_DT : Addr) (k_DT : ClassId) (x : Addr) (q : Addr) (t : Addr) (cap : Nat) (cs : List Int32) (h : Heap) (v : Option Value) (h' : Heap) (WL' FL' : List Addr) : Prop := ∃ u : Addr, v = none ∧ WL' = [] ∧ FL' = [u] ∧ Keep h h' [x] ∧ StrL Z h' x u cs
theorem ct_ssb (cx : Cx a0 Z gC gF v_DO k_DO v_DT k_DT) (x : Addr) (q : Addr) (t : Addr) (cap : Nat) (cs : List Int32) (h : Heap) (WL FL : List Addr) (P0 : Exa Z h x "java/lang/String") (P1 : Fld Z h x "java/lang/String" "value" "[B" .null) (P2 : Fld Z h x "java/lang/String" "coder" "B" (.int 0)) (P3 : x ∈ WL) (P4 : SB Z h q t cap cs) (hl : cs.length < cap) (hB : cs.length ≤ 11) (hqx : q ≠ x) (htx : t ≠ x) :
    Ct l Z EL1 n0 (⟨"java/lang/String", "<init>", "(Ljava/lang/StringBuilder;)V"⟩ : MethodName) jdk_42_method_53_code 2 (Option.none : Option Jvm.ClassFile.FieldType) ({ frames := 4, cells := 1, slots := 11, locals := 65 } : Room) #[(.ref x), (.ref q)] h WL FL (Q_ssb Z gC gF v_DO k_DO v_DT k_DT x q t cap cs h) := by
  refine Ct.of (plainFor_of_name pn0) ?_
  intro p e s m below meth c s1 hx hby hml hnm hret hlk X0
  refine Wo.cast (f' := (mkF m 0 #[.val (.ref x), .val (.ref q)] [])) (by rfl) ?_
  have K0 : Keep h h [x] := Keep.refl _ _
  show Wo _ _ _ _ _ _ _ _ _ _ _ s1 (mkF m 0 #[.val (.ref x), .val (.ref q)] [])
  refine P.aloadN X0 hx 1 (hb hby d27_0) rfl rfl rfl ?_
  refine P.aloadN X0 hx 2 (hb hby d27_1) rfl rfl rfl ?_
  refine P.aconstNull X0 hx 3 (hb hby d27_2) rfl ?_
  refine X0.callC hx rfl (w165 cx) (w166 cx) (w167 cx) (by decide) (Ct.pay (W := 0) (ct_sasb cx x q t cap cs h _ _ P0 P1 P2 P3 P4 hl hB hqx htx) (w167 cx) (w3 cx) (nle rfl) (nle rfl)) (by rw [hml]; rfl) (argsL := [.ref q, .null]) (rest := []) (lenOf pd13 rfl) rfl rfl (Nat.le_of_eq rfl) (hb hby d27_3) (nle rfl) (nle rfl) ?_
  rintro T1 h1 _ _ _ X1 ⟨a2, rfl, rfl, rfl, J1, G3⟩
  have K4 : Keep h h1 [x] := K0.trans J1 (allS (Or.inl (mg 0 rfl)) all0)
  exact WS.retV X1 (WL' := []) (FL' := [a2]) hx hret hlk (hb hby d27_6) (nle rfl) (nle rfl) ⟨a2, rfl, rfl, rfl, K4, G3⟩
def Q_sbstr (Z : State) (gC : Int32) (gF : Value) (v_DO : Addr) (k_DO : ClassId) (v_DT : Addr) (k_DT : ClassId) (q : Addr) (t : Addr) (cap : Nat) (cs : List Int32) (h : Heap) (v : Option Value) (h' : Heap) (WL' FL' : List Addr) : Prop := ∃ x : Addr, ∃ u : Addr, v = some (.ref x) ∧ WL' = [x] ∧ FL' = [u] ∧ Keep h h' [] ∧ h.size ≤ x ∧ StrL Z h' x u cs
theorem ct_sbstr (cx : Cx a0 Z gC gF v_DO k_DO v_DT k_DT) (q : Addr) (t : Addr) (cap : Nat) (cs : List Int32) (h : Heap) (WL FL : List Addr) (P0 : SB Z h q t cap cs) (P1 : q ∈ WL) (P2 : t ∈ WL) (hl : cs.length < cap) (hB : cs.length ≤ 11) :
    Ct l Z EL1 n0 (⟨"java/lang/StringBuilder", "toString", "()Ljava/lang/String;"⟩ : MethodName) jdk_67_method_42_code 1 (Option.some (FieldType.object "java/lang/String")) ({ frames := 5, cells := 2, slots := 15, locals := 79 } : Room) #[(.ref q)] h WL FL (Q_sbstr Z gC gF v_DO k_DO v_DT k_DT q t cap cs h) := by
  refine Ct.of (plainFor_of_name pn2) ?_
  intro p e s m below meth c s1 hx hby hml hnm hret hlk X0
  refine Wo.cast (f' := (mkF m 0 #[.val (.ref q)] [])) (by rfl) ?_
  have K0 : Keep h h [] := Keep.refl _ _
  show Wo _ _ _ _ _ _ _ _ _ _ _ s1 (mkF m 0 #[.val (.ref q)] [])
  refine X0.newO hx (w161 cx) (w2 cx) (w3 cx) (hb hby d26_0) (nle rfl) (nle rfl) ?_
  intro T1 h1 a1 X1 E1 g1 A1 D1
  have ge2 : h.size ≤ a1 := Nat.le_trans K0.1 g1
  have K3 : Keep h h1 [] := K0.ext E1
  have D4 : Fld Z h1 a1 "java/lang/String" "value" "[B" .null := D1 (Or.inr (w16 cx)) (ty := (.array .byte)) (by decide)
  have D5 : Fld Z h1 a1 "java/lang/String" "coder" "B" (.int 0) := D1 (Or.inr (w17 cx)) (ty := .byte) (by decide)
  refine P.dup X1 hx 4 (hb hby d26_3) rfl rfl ?_
  refine P.aloadN X1 hx 5 (hb hby d26_4) rfl rfl rfl ?_
  have F6 := P0.ext E1
  refine X1.callC hx rfl (w162 cx) (w163 cx) (w164 cx) (by decide) (Ct.pay (W := 1) (ct_ssb cx a1 q t cap cs h1 _ _ A1 D4 D5 (mg 0 rfl) F6 hl hB (Ne.symm (X1.neT (A := [a1]) (B := WL) (mg 0 rfl) P1)) (Ne.symm (X1.neT (A := [a1]) (B := WL) (mg 0 rfl) P2))) (w164 cx) (w3 cx) (nle rfl) (nle rfl)) (by rw [hml]; rfl) (argsL := [.ref q]) (rest := [.ref a1]) (lenOf pd14 rfl) rfl rfl (Nat.le_of_eq rfl) (hb hby d26_5) (nle rfl) (nle rfl) ?_
  rintro T7 h7 _ _ _ X7 ⟨a8, rfl, rfl, rfl, J7, G9⟩
  have K10 : Keep h h7 [] := K3.trans J7 (allS (Or.inr ge2) all0)
  exact WS.retA X7 (WL' := [a1]) (FL' := [a8]) hx hret rfl rfl hlk (hb hby d26_8) (nle rfl) (nle rfl) ⟨a1, a8, rfl, rfl, rfl, K10, ge2, G9⟩
def Q_ssz1 (Z : State) (gC : Int32) (gF : Value) (v_DO : Addr) (k_DO : ClassId) (v_DT : Addr) (k_DT : ClassId) (n : Nat) (h : Heap) (v : Option Value) (h' : Heap) (WL' FL' : List Addr) : Prop := v = some (.int 1) ∧ WL' = [] ∧ FL' = [] ∧ h' = h
theorem ct_ssz1 (cx : Cx a0 Z gC gF v_DO k_DO v_DT k_DT) (n : Nat) (h : Heap) (WL FL : List Addr) (rl : 0 ≤ n) (ru : n < 10) :
    Ct l Z EL1 n0 (⟨"java/lang/Integer", "stringSize", "(I)I"⟩ : MethodName) jdk_33_method_13_code 4 (Option.some FieldType.int) ({ frames := 0, cells := 0, slots := 0, locals := 0 } : Room) #[(.int (Int32.ofNat n))] h WL FL (Q_ssz1 Z gC gF v_DO k_DO v_DT k_DT n h) := by
  refine Ct.of (plainFor_of_name pn4) ?_
  intro p e s m below meth c s1 hx hby hml hnm hret hlk X0
  refine Wo.cast (f' := (mkF m 0 #[.val (.int (Int32.ofNat n)), .unset, .unset, .unset] [])) (by rfl) ?_
  show Wo _ _ _ _ _ _ _ _ _ _ _ s1 (mkF m 0 #[.val (.int (Int32.ofNat n)), .unset, .unset, .unset] [])
  refine P.iconst X0 hx 1 1 (hb hby d23_0) rfl rfl ?_
  refine P.istoreN X0 hx 2 #[.val (.int (Int32.ofNat n)), .val (.int 1), .unset, .unset] (hb hby d23_1) rfl rfl ?_
  refine P.iloadN X0 hx 3 (hb hby d23_2) rfl rfl ?_
  refine P.ifNo X0 hx 6 (hb hby d23_3) ((if0 _ _).trans (flt (oNn (by omega))).1) rfl ?_
  refine P.iconst X0 hx 7 0 (hb hby d23_6) rfl rfl ?_
  refine P.istoreN X0 hx 8 #[.val (.int (Int32.ofNat n)), .val (.int 0), .unset, .unset] (hb hby d23_7) rfl rfl ?_
  refine P.iloadN X0 hx 9 (hb hby d23_8) rfl rfl ?_
  refine P.ineg X0 hx 10 (z := (-(Int32.ofNat n))) (hb hby d23_9) rfl rfl ?_
  refine P.istoreN X0 hx 11 #[.val (.int (-(Int32.ofNat n))), .val (.int 0), .unset, .unset] (hb hby d23_10) rfl rfl ?_
  refine P.bipush X0 hx 13 (-10) (hb hby d23_11) rfl rfl ?_
  refine P.istoreN X0 hx 14 #[.val (.int (-(Int32.ofNat n))), .val (.int 0), .val (.int (-10 : Int32)), .unset] (hb hby d23_13) rfl rfl ?_
  refine P.iconst X0 hx 15 1 (hb hby d23_14) rfl rfl ?_
  refine P.istoreN X0 hx 16 #[.val (.int (-(Int32.ofNat n))), .val (.int 0), .val (.int (-10 : Int32)), .val (.int 1)] (hb hby d23_15) rfl rfl ?_
  refine P.iloadN X0 hx 17 (hb hby d23_16) rfl rfl ?_
  refine P.bipush X0 hx 19 10 (hb hby d23_17) rfl rfl ?_
  refine P.icmpNo X0 hx 22 (hb hby d23_19) (by decide) rfl ?_
  refine P.iloadN X0 hx 23 (hb hby d23_22) rfl rfl ?_
  refine P.iloadN X0 hx 24 (hb hby d23_23) rfl rfl ?_
  refine P.icmpNo X0 hx 27 (hb hby d23_24) (tlt ((ngL (k := 10) (by decide) (by omega)).mpr (by omega))).2.2.2 rfl ?_
  refine P.iloadN X0 hx 28 (hb hby d23_27) rfl rfl ?_
  refine P.iloadN X0 hx 29 (hb hby d23_28) rfl rfl ?_
  refine P.iadd X0 hx 30 (z := (1 : Int32)) (hb hby d23_29) rfl rfl ?_
  exact WS.retI X0 (WL' := []) (FL' := []) hx hret hlk (hb hby d23_30) (nle rfl) (nle rfl) ⟨rfl, rfl, rfl, rfl⟩
def Q_gch1 (Z : State) (gC : Int32) (gF : Value) (v_DO : Addr) (k_DO : ClassId) (v_DT : Addr) (k_DT : ClassId) (n : Nat) (t : Addr) (kt : ClassId) (cap : Nat) (cs : List Int32) (h : Heap) (v : Option Value) (h' : Heap) (WL' FL' : List Addr) : Prop := v = some (.int (Int32.ofNat cs.length)) ∧ WL' = [] ∧ FL' = [] ∧ Keep h h' [t] ∧ Arv Z h' t kt .byte (Int32.ofNat cap) (lat (cs ++ digs n 1)) (.int 0)
theorem ct_gch1 (cx : Cx a0 Z gC gF v_DO k_DO v_DT k_DT) (n : Nat) (t : Addr) (kt : ClassId) (cap : Nat) (cs : List Int32) (h : Heap) (WL FL : List Addr) (P0 : Arv Z h t kt .byte (Int32.ofNat cap) (lat cs) (.int 0)) (P1 : t ∈ WL) (hB1 : cs.length + 1 ≤ cap) (hc : cap ≤ 4000) (rl : 0 ≤ n) (ru : n < 10) :
    Ct l Z EL1 n0 (⟨"java/lang/Integer", "getChars", "(II[B)I"⟩ : MethodName) jdk_33_method_12_code 7 (Option.some FieldType.int) ({ frames := 0, cells := 0, slots := 0, locals := 0 } : Room) #[(.int (Int32.ofNat n)), (.int (Int32.ofNat (cs.length + 1))), (.ref t)] h WL FL (Q_gch1 Z gC gF v_DO k_DO v_DT k_DT n t kt cap cs h) := by
  refine Ct.of (plainFor_of_name pn4) ?_
  intro p e s m below meth c s1 hx hby hml hnm hret hlk X0
  refine Wo.cast (f' := (mkF m 0 #[.val (.int (Int32.ofNat n)), .val (.int (Int32.ofNat (cs.length + 1))), .val (.ref t), .unset, .unset, .unset, .unset] [])) (by rfl) ?_
  have K0 : Keep h h [t] := Keep.refl _ _
  show Wo _ _ _ _ _ _ _ _ _ _ _ s1 (mkF m 0 #[.val (.int (Int32.ofNat n)), .val (.int (Int32.ofNat (cs.length + 1))), .val (.ref t), .unset, .unset, .unset, .unset] [])
  have j0 : ((Int32.ofNat (cs.length + 1)) + (-1 : Int32)) = Int32.ofNat (cs.length + 0) := oM1 (cs.length + 0)
  have A0 : Arv Z h t kt .byte (Int32.ofNat cap) (lat (cs ++ [(0 : Int32)])) (.int 0) := padL P0 1
  refine P.iloadN X0 hx 1 (hb hby d25_0) rfl rfl ?_
  refine P.istore X0 hx 3 #[.val (.int (Int32.ofNat n)), .val (.int (Int32.ofNat (cs.length + 1))), .val (.ref t), .unset, .unset, .val (.int (Int32.ofNat (cs.length + 1))), .unset] (hb hby d25_1) rfl rfl ?_
  refine P.iloadN X0 hx 4 (hb hby d25_3) rfl rfl ?_
  refine P.ifYes X0 hx 11 (hb hby d25_4) ((if0 _ _).trans (flt (oNn (by omega))).2.1) (by decide) (by decide) ?_
  refine P.iconst X0 hx 12 0 (hb hby d25_11) rfl rfl ?_
  refine P.istore X0 hx 14 #[.val (.int (Int32.ofNat n)), .val (.int (Int32.ofNat (cs.length + 1))), .val (.ref t), .unset, .unset, .val (.int (Int32.ofNat (cs.length + 1))), .val (.int 0)] (hb hby d25_12) rfl rfl ?_
  refine P.iload X0 hx 16 (hb hby d25_14) rfl rfl ?_
  refine P.ifNo X0 hx 19 (hb hby d25_16) (by decide) rfl ?_
  refine P.iloadN X0 hx 20 (hb hby d25_19) rfl rfl ?_
  refine P.ineg X0 hx 21 (z := (-(Int32.ofNat n))) (hb hby d25_20) rfl rfl ?_
  refine P.istoreN X0 hx 22 #[.val (.int (-(Int32.ofNat n))), .val (.int (Int32.ofNat (cs.length + 1))), .val (.ref t), .unset, .unset, .val (.int (Int32.ofNat (cs.length + 1))), .val (.int 0)] (hb hby d25_21) rfl rfl ?_
  refine P.iloadN X0 hx 23 (hb hby d25_22) rfl rfl ?_
  refine P.bipush X0 hx 25 (-100) (hb hby d25_23) rfl rfl ?_
  refine P.icmpYes X0 hx 72 (hb hby d25_25) (tlt ((ngL (k := 100) (by decide) (by omega)).mpr (by omega))).2.2.1 (by decide) (by decide) ?_
  refine P.aloadN X0 hx 73 (hb hby d25_72) rfl rfl rfl ?_
  refine P.iinc X0 hx 76 #[.val (.int (-(Int32.ofNat n))), .val (.int (Int32.ofNat (cs.length + 1))), .val (.ref t), .unset, .unset, .val (.int ((Int32.ofNat (cs.length + 1)) + (-1 : Int32))), .val (.int 0)] (hb hby d25_73) rfl rfl rfl ?_
  refine P.iload X0 hx 78 (hb hby d25_76) rfl rfl ?_
  refine X0.getS hx (w155 cx) Via.refl (S_DO cx) (hb hby d25_78) ?_
  intro T1 X1
  refine P.iloadN X1 hx 82 (hb hby d25_81) rfl rfl ?_
  refine P.ineg X1 hx 83 (z := (Int32.ofNat n)) (hb hby d25_82) (Int32.neg_neg) rfl ?_
  refine WS.bld X1 hx ((A_DO cx).ext X1.old.2) (j := (Int32.ofNat n)) (x := (Int32.ofNat (48 + n % 10))) (dgI (by omega)) (digOE (by omega)) (hb hby d25_83) ?_
  refine X1.stM hx A0 (L' := [(Int32.ofNat (48 + n % 10))]) (d := (Int32.ofNat (48 + n % 10))) (i := 0) j0 rfl (nlt rfl) rfl hB1 hc P1 (hb hby d25_84) ?_
  intro T2 h2 X2 J2 G2
  have K3 : Keep h h2 [t] := K0.trans J2 (allS (Or.inl (mg 0 rfl)) all0)
  refine P.iloadN X2 hx 86 (hb hby d25_85) rfl rfl ?_
  refine P.bipush X2 hx 88 (-9) (hb hby d25_86) rfl rfl ?_
  refine P.icmpYes X2 hx 104 (hb hby d25_88) (flt ((not_congr (ngG (k := 9) (by decide) (by omega))).mpr (by omega))).2.1 (by decide) (by decide) ?_
  refine P.iload X2 hx 106 (hb hby d25_104) rfl rfl ?_
  refine P.ifYes X2 hx 118 (hb hby d25_106) (by decide) (by decide) (by decide) ?_
  refine P.iload X2 hx 120 (hb hby d25_118) rfl rfl ?_
  have V4 : Arv Z h2 t kt .byte (Int32.ofNat cap) (lat (cs ++ digs n 1)) (.int 0) := by have q := G2; rw [show [(Int32.ofNat (48 + n % 10))] = digs n 1 from (gd1 rl ru)] at q; exact q
  exact WS.retI X2 (WL' := []) (FL' := []) hx hret hlk (hb hby d25_120) (nle rfl) (nle rfl) ⟨(by rw [j0] <;> rfl), rfl, rfl, K3, V4⟩
def Q_ssz2 (Z : State) (gC : Int32) (gF : Value) (v_DO : Addr) (k_DO : ClassId) (v_DT : Addr) (k_DT : ClassId) (n : Nat) (h : Heap) (v : Option Value) (h' : Heap) (WL' FL' : List Addr) : Prop := v = some (.int 2) ∧ WL' = [] ∧ FL' = [] ∧ h' = h
theorem ct_ssz2 (cx : Cx a0 Z gC gF v_DO k_DO v_DT k_DT) (n : Nat) (h : Heap) (WL FL : List Addr) (rl : 10 ≤ n) (ru : n < 100) :
    Ct l Z EL1 n0 (⟨"java/lang/Integer", "stringSize", "(I)I"⟩ : MethodName) jdk_33_method_13_code 4 (Option.some FieldType.int) ({ frames := 0, cells := 0, slots := 0, locals := 0 } : Room) #[(.int (Int32.ofNat n))] h WL FL (Q_ssz2 Z gC gF v_DO k_DO v_DT k_DT n h) := by
  refine Ct.of (plainFor_of_name pn4) ?_
  intro p e s m below meth c s1 hx hby hml hnm hret hlk X0
  refine Wo.cast (f' := (mkF m 0 #[.val (.int (Int32.ofNat n)), .unset, .unset, .unset] [])) (by rfl) ?_
  show Wo _ _ _ _ _ _ _ _ _ _ _ s1 (mkF m 0 #[.val (.int (Int32.ofNat n)), .unset, .unset, .unset] [])
  refine P.iconst X0 hx 1 1 (hb hby d23_0) rfl rfl ?_
  refine P.istoreN X0 hx 2 #[.val (.int (Int32.ofNat n)), .val (.int 1), .unset, .unset] (hb hby d23_1) rfl rfl ?_
  refine P.iloadN X0 hx 3 (hb hby d23_2) rfl rfl ?_
  refine P.ifNo X0 hx 6 (hb hby d23_3) ((if0 _ _).trans (flt (oNn (by omega))).1) rfl ?_
  refine P.iconst X0 hx 7 0 (hb hby d23_6) rfl rfl ?_
  refine P.istoreN X0 hx 8 #[.val (.int (Int32.ofNat n)), .val (.int 0), .unset, .unset] (hb hby d23_7) rfl rfl ?_
  refine P.iloadN X0 hx 9 (hb hby d23_8) rfl rfl ?_
  refine P.ineg X0 hx 10 (z := (-(Int32.ofNat n))) (hb hby d23_9) rfl rfl ?_
  refine P.istoreN X0 hx 11 #[.val (.int (-(Int32.ofNat n))), .val (.int 0), .unset, .unset] (hb hby d23_10) rfl rfl ?_
  refine P.bipush X0 hx 13 (-10) (hb hby d23_11) rfl rfl ?_
  refine P.istoreN X0 hx 14 #[.val (.int (-(Int32.ofNat n))), .val (.int 0), .val (.int (-10 : Int32)), .unset] (hb hby d23_13) rfl rfl ?_
  refine P.iconst X0 hx 15 1 (hb hby d23_14) rfl rfl ?_
  refine P.istoreN X0 hx 16 #[.val (.int (-(Int32.ofNat n))), .val (.int 0), .val (.int (-10 : Int32)), .val (.int 1)] (hb hby d23_15) rfl rfl ?_
  refine P.iloadN X0 hx 17 (hb hby d23_16) rfl rfl ?_
  refine P.bipush X0 hx 19 10 (hb hby d23_17) rfl rfl ?_
  refine P.icmpNo X0 hx 22 (hb hby d23_19) (by decide) rfl ?_
  refine P.iloadN X0 hx 23 (hb hby d23_22) rfl rfl ?_
  refine P.iloadN X0 hx 24 (hb hby d23_23) rfl rfl ?_
  refine P.icmpYes X0 hx 31 (hb hby d23_24) (flt ((not_congr (ngL (k := 10) (by decide) (by omega))).mpr (by omega))).2.2.2 (by decide) (by decide) ?_
  refine P.bipush X0 hx 33 10 (hb hby d23_31) rfl rfl ?_
  refine P.iloadN X0 hx 34 (hb hby d23_33) rfl rfl ?_
  refine P.imul X0 hx 35 (z := (-100 : Int32)) (hb hby d23_34) rfl rfl ?_
  refine P.istoreN X0 hx 36 #[.val (.int (-(Int32.ofNat n))), .val (.int 0), .val (.int (-100 : Int32)), .val (.int 1)] (hb hby d23_35) rfl rfl ?_
  refine P.iinc X0 hx 39 #[.val (.int (-(Int32.ofNat n))), .val (.int 0), .val (.int (-100 : Int32)), .val (.int 2)] (hb hby d23_36) rfl rfl rfl ?_
  refine P.goto X0 hx 16 (hb hby d23_39) (by decide) (by decide) ?_
  refine P.iloadN X0 hx 17 (hb hby d23_16) rfl rfl ?_
  refine P.bipush X0 hx 19 10 (hb hby d23_17) rfl rfl ?_
  refine P.icmpNo X0 hx 22 (hb hby d23_19) (by decide) rfl ?_
  refine P.iloadN X0 hx 23 (hb hby d23_22) rfl rfl ?_
  refine P.iloadN X0 hx 24 (hb hby d23_23) rfl rfl ?_
  refine P.icmpNo X0 hx 27 (hb hby d23_24) (tlt ((ngL (k := 100) (by decide) (by omega)).mpr (by omega))).2.2.2 rfl ?_
  refine P.iloadN X0 hx 28 (hb hby d23_27) rfl rfl ?_
  refine P.iloadN X0 hx 29 (hb hby d23_28) rfl rfl ?_
  refine P.iadd X0 hx 30 (z := (2 : Int32)) (hb hby d23_29) rfl rfl ?_
  exact WS.retI X0 (WL' := []) (FL' := []) hx hret hlk (hb hby d23_30) (nle rfl) (nle rfl) ⟨rfl, rfl, rfl, rfl⟩
def Q_gch2 (Z : State) (gC : Int32) (gF : Value) (v_DO : Addr) (k_DO : ClassId) (v_DT : Addr) (k_DT : ClassId) (n : Nat) (t : Addr) (kt : ClassId) (cap : Nat) (cs : List Int32) (h : Heap) (v : Option Value) (h' : Heap) (WL' FL' : List Addr) : Prop := v = some (.int (Int32.ofNat cs.length)) ∧ WL' = [] ∧ FL' = [] ∧ Keep h h' [t] ∧ Arv Z h' t kt .byte (Int32.ofNat cap) (lat (cs ++ digs n 2)) (.int 0)
theorem ct_gch2 (cx : Cx a0 Z gC gF v_DO k_DO v_DT k_DT) (n : Nat) (t : Addr) (kt : ClassId) (cap : Nat) (cs : List Int32) (h : Heap) (WL FL : List Addr) (P0 : Arv Z h t kt .byte (Int32.ofNat cap) (lat cs) (.int 0)) (P1 : t ∈ WL) (hB1 : cs.length + 2 ≤ cap) (hc : cap ≤ 4000) (rl : 10 ≤ n) (ru : n < 100) :
    Ct l Z EL1 n0 (⟨"java/lang/Integer", "getChars", "(II[B)I"⟩ : MethodName) jdk_33_method_12_code 7 (Option.some FieldType.int) ({ frames := 0, cells := 0, slots := 0, locals := 0 } : Room) #[(.int (Int32.ofNat n)), (.int (Int32.ofNat (cs.length + 2))), (.ref t)] h WL FL (Q_gch2 Z gC gF v_DO k_DO v_DT k_DT n t kt cap cs h) := by
  refine Ct.of (plainFor_of_name pn4) ?_
  intro p e s m below meth c s1 hx hby hml hnm hret hlk X0
  refine Wo.cast (f' := (mkF m 0 #[.val (.int (Int32.ofNat n)), .val (.int (Int32.ofNat (cs.length + 2))), .val (.ref t), .unset, .unset, .unset, .unset] [])) (by rfl) ?_
  have K0 : Keep h h [t] := Keep.refl _ _
  show Wo _ _ _ _ _ _ _ _ _ _ _ s1 (mkF m 0 #[.val (.int (Int32.ofNat n)), .val (.int (Int32.ofNat (cs.length + 2))), .val (.ref t), .unset, .unset, .unset, .unset] [])
  have j1 : ((Int32.ofNat (cs.length + 2)) + (-1 : Int32)) = Int32.ofNat (cs.length + 1) := oM1 (cs.length + 1)
  have j0 : (((Int32.ofNat (cs.length + 2)) + (-1 : Int32)) + (-1 : Int32)) = Int32.ofNat (cs.length + 0) := (congrArg (fun z : Int32 => z + (-1 : Int32)) j1).trans (oM1 (cs.length + 0))
  have A0 : Arv Z h t kt .byte (Int32.ofNat cap) (lat (cs ++ [(0 : Int32), 0])) (.int 0) := padL P0 2
  refine P.iloadN X0 hx 1 (hb hby d25_0) rfl rfl ?_
  refine P.istore X0 hx 3 #[.val (.int (Int32.ofNat n)), .val (.int (Int32.ofNat (cs.length + 2))), .val (.ref t), .unset, .unset, .val (.int (Int32.ofNat (cs.length + 2))), .unset] (hb hby d25_1) rfl rfl ?_
  refine P.iloadN X0 hx 4 (hb hby d25_3) rfl rfl ?_
  refine P.ifYes X0 hx 11 (hb hby d25_4) ((if0 _ _).trans (flt (oNn (by omega))).2.1) (by decide) (by decide) ?_
  refine P.iconst X0 hx 12 0 (hb hby d25_11) rfl rfl ?_
  refine P.istore X0 hx 14 #[.val (.int (Int32.ofNat n)), .val (.int (Int32.ofNat (cs.length + 2))), .val (.ref t), .unset, .unset, .val (.int (Int32.ofNat (cs.length + 2))), .val (.int 0)] (hb hby d25_12) rfl rfl ?_
  refine P.iload X0 hx 16 (hb hby d25_14) rfl rfl ?_
  refine P.ifNo X0 hx 19 (hb hby d25_16) (by decide) rfl ?_
  refine P.iloadN X0 hx 20 (hb hby d25_19) rfl rfl ?_
  refine P.ineg X0 hx 21 (z := (-(Int32.ofNat n))) (hb hby d25_20) rfl rfl ?_
  refine P.istoreN X0 hx 22 #[.val (.int (-(Int32.ofNat n))), .val (.int (Int32.ofNat (cs.length + 2))), .val (.ref t), .unset, .unset, .val (.int (Int32.ofNat (cs.length + 2))), .val (.int 0)] (hb hby d25_21) rfl rfl ?_
  refine P.iloadN X0 hx 23 (hb hby d25_22) rfl rfl ?_
  refine P.bipush X0 hx 25 (-100) (hb hby d25_23) rfl rfl ?_
  refine P.icmpYes X0 hx 72 (hb hby d25_25) (tlt ((ngL (k := 100) (by decide) (by omega)).mpr (by omega))).2.2.1 (by decide) (by decide) ?_
  refine P.aloadN X0 hx 73 (hb hby d25_72) rfl rfl rfl ?_
  refine P.iinc X0 hx 76 #[.val (.int (-(Int32.ofNat n))), .val (.int (Int32.ofNat (cs.length + 2))), .val (.ref t), .unset, .unset, .val (.int ((Int32.ofNat (cs.length + 2)) + (-1 : Int32))), .val (.int 0)] (hb hby d25_73) rfl rfl rfl ?_
  refine P.iload X0 hx 78 (hb hby d25_76) rfl rfl ?_
  refine X0.getS hx (w155 cx) Via.refl (S_DO cx) (hb hby d25_78) ?_
  intro T1 X1
  refine P.iloadN X1 hx 82 (hb hby d25_81) rfl rfl ?_
  refine P.ineg X1 hx 83 (z := (Int32.ofNat n)) (hb hby d25_82) (Int32.neg_neg) rfl ?_
  refine WS.bld X1 hx ((A_DO cx).ext X1.old.2) (j := (Int32.ofNat n)) (x := (Int32.ofNat (48 + n % 10))) (dgI (by omega)) (digOE (by omega)) (hb hby d25_83) ?_
  refine X1.stM hx A0 (L' := [(0 : Int32), (Int32.ofNat (48 + n % 10))]) (d := (Int32.ofNat (48 + n % 10))) (i := 1) j1 rfl (nlt rfl) rfl hB1 hc P1 (hb hby d25_84) ?_
  intro T2 h2 X2 J2 G2
  have K3 : Keep h h2 [t] := K0.trans J2 (allS (Or.inl (mg 0 rfl)) all0)
  refine P.iloadN X2 hx 86 (hb hby d25_85) rfl rfl ?_
  refine P.bipush X2 hx 88 (-9) (hb hby d25_86) rfl rfl ?_
  refine P.icmpNo X2 hx 91 (hb hby d25_88) (tlt ((ngG (k := 9) (by decide) (by omega)).mpr (by omega))).2.1 rfl ?_
  refine P.aloadN X2 hx 92 (hb hby d25_91) rfl rfl rfl ?_
  refine P.iinc X2 hx 95 #[.val (.int (-(Int32.ofNat n))), .val (.int (Int32.ofNat (cs.length + 2))), .val (.ref t), .unset, .unset, .val (.int (((Int32.ofNat (cs.length + 2)) + (-1 : Int32)) + (-1 : Int32))), .val (.int 0)] (hb hby d25_92) rfl rfl rfl ?_
  refine P.iload X2 hx 97 (hb hby d25_95) rfl rfl ?_
  refine X2.getS hx (w237 cx) Via.refl (S_DT cx) (hb hby d25_97) ?_
  intro T4 X4
  refine P.iloadN X4 hx 101 (hb hby d25_100) rfl rfl ?_
  refine P.ineg X4 hx 102 (z := (Int32.ofNat n)) (hb hby d25_101) (Int32.neg_neg) rfl ?_
  refine WS.bld X4 hx ((A_DT cx).ext X4.old.2) (j := (Int32.ofNat n)) (x := (Int32.ofNat (48 + n / 10))) (dgI (by omega)) (digTE (by omega)) (hb hby d25_102) ?_
  refine X4.stM hx G2 (L' := [(Int32.ofNat (48 + n / 10)), (Int32.ofNat (48 + n % 10))]) (d := (Int32.ofNat (48 + n / 10))) (i := 0) j0 rfl (nlt rfl) rfl hB1 hc P1 (hb hby d25_103) ?_
  intro T5 h5 X5 J5 G5
  have K6 : Keep h h5 [t] := K3.trans J5 (allS (Or.inl (mg 0 rfl)) all0)
  refine P.iload X5 hx 106 (hb hby d25_104) rfl rfl ?_
  refine P.ifYes X5 hx 118 (hb hby d25_106) (by decide) (by decide) (by decide) ?_
  refine P.iload X5 hx 120 (hb hby d25_118) rfl rfl ?_
  have V7 : Arv Z h5 t kt .byte (Int32.ofNat cap) (lat (cs ++ digs n 2)) (.int 0) := by have q := G5; rw [show [(Int32.ofNat (48 + n / 10)), (Int32.ofNat (48 + n % 10))] = digs n 2 from (gd2 rl ru)] at q; exact q
  exact WS.retI X5 (WL' := []) (FL' := []) hx hret hlk (hb hby d25_120) (nle rfl) (nle rfl) ⟨(by rw [j0] <;> rfl), rfl, rfl, K6, V7⟩
def Q_ssz3 (Z : State) (gC : Int32) (gF : Value) (v_DO : Addr) (k_DO : ClassId) (v_DT : Addr) (k_DT : ClassId) (n : Nat) (h : Heap) (v : Option Value) (h' : Heap) (WL' FL' : List Addr) : Prop := v = some (.int 3) ∧ WL' = [] ∧ FL' = [] ∧ h' = h
theorem ct_ssz3 (cx : Cx a0 Z gC gF v_DO k_DO v_DT k_DT) (n : Nat) (h : Heap) (WL FL : List Addr) (rl : 100 ≤ n) (ru : n < 1000) :
    Ct l Z EL1 n0 (⟨"java/lang/Integer", "stringSize", "(I)I"⟩ : MethodName) jdk_33_method_13_code 4 (Option.some FieldType.int) ({ frames := 0, cells := 0, slots := 0, locals := 0 } : Room) #[(.int (Int32.ofNat n))] h WL FL (Q_ssz3 Z gC gF v_DO k_DO v_DT k_DT n h) := by
  refine Ct.of (plainFor_of_name pn4) ?_
  intro p e s m below meth c s1 hx hby hml hnm hret hlk X0
  refine Wo.cast (f' := (mkF m 0 #[.val (.int (Int32.ofNat n)), .unset, .unset, .unset] [])) (by rfl) ?_
  show Wo _ _ _ _ _ _ _ _ _ _ _ s1 (mkF m 0 #[.val (.int (Int32.ofNat n)), .unset, .unset, .unset] [])
  refine P.iconst X0 hx 1 1 (hb hby d23_0) rfl rfl ?_
  refine P.istoreN X0 hx 2 #[.val (.int (Int32.ofNat n)), .val (.int 1), .unset, .unset] (hb hby d23_1) rfl rfl ?_
  refine P.iloadN X0 hx 3 (hb hby d23_2) rfl rfl ?_
  refine P.ifNo X0 hx 6 (hb hby d23_3) ((if0 _ _).trans (flt (oNn (by omega))).1) rfl ?_
  refine P.iconst X0 hx 7 0 (hb hby d23_6) rfl rfl ?_
  refine P.istoreN X0 hx 8 #[.val (.int (Int32.ofNat n)), .val (.int 0), .unset, .unset] (hb hby d23_7) rfl rfl ?_
  refine P.iloadN X0 hx 9 (hb hby d23_8) rfl rfl ?_
  refine P.ineg X0 hx 10 (z := (-(Int32.ofNat n))) (hb hby d23_9) rfl rfl ?_
  refine P.istoreN X0 hx 11 #[.val (.int (-(Int32.ofNat n))), .val (.int 0), .unset, .unset] (hb hby d23_10) rfl rfl ?_
  refine P.bipush X0 hx 13 (-10) (hb hby d23_11) rfl rfl ?_
  refine P.istoreN X0 hx 14 #[.val (.int (-(Int32.ofNat n))), .val (.int 0), .val (.int (-10 : Int32)), .unset] (hb hby d23_13) rfl rfl ?_
  refine P.iconst X0 hx 15 1 (hb hby d23_14) rfl rfl ?_
  refine P.istoreN X0 hx 16 #[.val (.int (-(Int32.ofNat n))), .val (.int 0), .val (.int (-10 : Int32)), .val (.int 1)] (hb hby d23_15) rfl rfl ?_
  refine P.iloadN X0 hx 17 (hb hby d23_16) rfl rfl ?_
  refine P.bipush X0 hx 19 10 (hb hby d23_17) rfl rfl ?_
  refine P.icmpNo X0 hx 22 (hb hby d23_19) (by decide) rfl ?_
  refine P.iloadN X0 hx 23 (hb hby d23_22) rfl rfl ?_
  refine P.iloadN X0 hx 24 (hb hby d23_23) rfl rfl ?_
  refine P.icmpYes X0 hx 31 (hb hby d23_24) (flt ((not_congr (ngL (k := 10) (by decide) (by omega))).mpr (by omega))).2.2.2 (by decide) (by decide) ?_
  refine P.bipush X0 hx 33 10 (hb hby d23_31) rfl rfl ?_
  refine P.iloadN X0 hx 34 (hb hby d23_33) rfl rfl ?_
  refine P.imul X0 hx 35 (z := (-100 : Int32)) (hb hby d23_34) rfl rfl ?_
  refine P.istoreN X0 hx 36 #[.val (.int (-(Int32.ofNat n))), .val (.int 0), .val (.int (-100 : Int32)), .val (.int 1)] (hb hby d23_35) rfl rfl ?_
  refine P.iinc X0 hx 39 #[.val (.int (-(Int32.ofNat n))), .val (.int 0), .val (.int (-100 : Int32)), .val (.int 2)] (hb hby d23_36) rfl rfl rfl ?_
  refine P.goto X0 hx 16 (hb hby d23_39) (by decide) (by decide) ?_
  refine P.iloadN X0 hx 17 (hb hby d23_16) rfl rfl ?_
  refine P.bipush X0 hx 19 10 (hb hby d23_17) rfl rfl ?_
  refine P.icmpNo X0 hx 22 (hb hby d23_19) (by decide) rfl ?_
  refine P.iloadN X0 hx 23 (hb hby d23_22) rfl rfl ?_
  refine P.iloadN X0 hx 24 (hb hby d23_23) rfl rfl ?_
  refine P.icmpYes X0 hx 31 (hb hby d23_24) (flt ((not_congr (ngL (k := 100) (by decide) (by omega))).mpr (by omega))).2.2.2 (by decide) (by decide) ?_
  refine P.bipush X0 hx 33 10 (hb hby d23_31) rfl rfl ?_
  refine P.iloadN X0 hx 34 (hb hby d23_33) rfl rfl ?_
  refine P.imul X0 hx 35 (z := (-1000 : Int32)) (hb hby d23_34) rfl rfl ?_
  refine P.istoreN X0 hx 36 #[.val (.int (-(Int32.ofNat n))), .val (.int 0), .val (.int (-1000 : Int32)), .val (.int 2)] (hb hby d23_35) rfl rfl ?_
  refine P.iinc X0 hx 39 #[.val (.int (-(Int32.ofNat n))), .val (.int 0), .val (.int (-1000 : Int32)), .val (.int 3)] (hb hby d23_36) rfl rfl rfl ?_
  refine P.goto X0 hx 16 (hb hby d23_39) (by decide) (by decide) ?_
  refine P.iloadN X0 hx 17 (hb hby d23_16) rfl rfl ?_
  refine P.bipush X0 hx 19 10 (hb hby d23_17) rfl rfl ?_
  refine P.icmpNo X0 hx 22 (hb hby d23_19) (by decide) rfl ?_
  refine P.iloadN X0 hx 23 (hb hby d23_22) rfl rfl ?_
  refine P.iloadN X0 hx 24 (hb hby d23_23) rfl rfl ?_
  refine P.icmpNo X0 hx 27 (hb hby d23_24) (tlt ((ngL (k := 1000) (by decide) (by omega)).mpr (by omega))).2.2.2 rfl ?_
  refine P.iloadN X0 hx 28 (hb hby d23_27) rfl rfl ?_
  refine P.iloadN X0 hx 29 (hb hby d23_28) rfl rfl ?_
  refine P.iadd X0 hx 30 (z := (3 : Int32)) (hb hby d23_29) rfl rfl ?_
  exact WS.retI X0 (WL' := []) (FL' := []) hx hret hlk (hb hby d23_30) (nle rfl) (nle rfl) ⟨rfl, rfl, rfl, rfl⟩
def Q_gch3 (Z : State) (gC : Int32) (gF : Value) (v_DO : Addr) (k_DO : ClassId) (v_DT : Addr) (k_DT : ClassId) (n : Nat) (t : Addr) (kt : ClassId) (cap : Nat) (cs : List Int32) (h : Heap) (v : Option Value) (h' : Heap) (WL' FL' : List Addr) : Prop := v = some (.int (Int32.ofNat cs.length)) ∧ WL' = [] ∧ FL' = [] ∧ Keep h h' [t] ∧ Arv Z h' t kt .byte (Int32.ofNat cap) (lat (cs ++ digs n 3)) (.int 0)
theorem ct_gch3 (cx : Cx a0 Z gC gF v_DO k_DO v_DT k_DT) (n : Nat) (t : Addr) (kt : ClassId) (cap : Nat) (cs : List Int32) (h : Heap) (WL FL : List Addr) (P0 : Arv Z h t kt .byte (Int32.ofNat cap) (lat cs) (.int 0)) (P1 : t ∈ WL) (hB1 : cs.length + 3 ≤ cap) (hc : cap ≤ 4000) (rl : 100 ≤ n) (ru : n < 1000) :
    Ct l Z EL1 n0 (⟨"java/lang/Integer", "getChars", "(II[B)I"⟩ : MethodName) jdk_33_method_12_code 7 (Option.some FieldType.int) ({ frames := 0, cells := 0, slots := 0, locals := 0 } : Room) #[(.int (Int32.ofNat n)), (.int (Int32.ofNat (cs.length + 3))), (.ref t)] h WL FL (Q_gch3 Z gC gF v_DO k_DO v_DT k_DT n t kt cap cs h) := by
  refine Ct.of (plainFor_of_name pn4) ?_
  intro p e s m below meth c s1 hx hby hml hnm hret hlk X0
  refine Wo.cast (f' := (mkF m 0 #[.val (.int (Int32.ofNat n)), .val (.int (Int32.ofNat (cs.length + 3))), .val (.ref t), .unset, .unset, .unset, .unset] [])) (by rfl) ?_
  have K0 : Keep h h [t] := Keep.refl _ _
  show Wo _ _ _ _ _ _ _ _ _ _ _ s1 (mkF m 0 #[.val (.int (Int32.ofNat n)), .val (.int (Int32.ofNat (cs.length + 3))), .val (.ref t), .unset, .unset, .unset, .unset] [])
  have j2 : ((Int32.ofNat (cs.length + 3)) + (-1 : Int32)) = Int32.ofNat (cs.length + 2) := oM1 (cs.length + 2)
  have j1 : (((Int32.ofNat (cs.length + 3)) + (-1 : Int32)) + (-1 : Int32)) = Int32.ofNat (cs.length + 1) := (congrArg (fun z : Int32 => z + (-1 : Int32)) j2).trans (oM1 (cs.length + 1))
  have j0 : ((((Int32.ofNat (cs.length + 3)) + (-1 : Int32)) + (-1 : Int32)) + (-1 : Int32)) = Int32.ofNat (cs.length + 0) := (congrArg (fun z : Int32 => z + (-1 : Int32)) j1).trans (oM1 (cs.length + 0))
  have A0 : Arv Z h t kt .byte (Int32.ofNat cap) (lat (cs ++ [(0 : Int32), 0, 0])) (.int 0) := padL P0 3
  refine P.iloadN X0 hx 1 (hb hby d25_0) rfl rfl ?_
  refine P.istore X0 hx 3 #[.val (.int (Int32.ofNat n)), .val (.int (Int32.ofNat (cs.length + 3))), .val (.ref t), .unset, .unset, .val (.int (Int32.ofNat (cs.length + 3))), .unset] (hb hby d25_1) rfl rfl ?_
  refine P.iloadN X0 hx 4 (hb hby d25_3) rfl rfl ?_
  refine P.ifYes X0 hx 11 (hb hby d25_4) ((if0 _ _).trans (flt (oNn (by omega))).2.1) (by decide) (by decide) ?_
  refine P.iconst X0 hx 12 0 (hb hby d25_11) rfl rfl ?_
  refine P.istore X0 hx 14 #[.val (.int (Int32.ofNat n)), .val (.int (Int32.ofNat (cs.length + 3))), .val (.ref t), .unset, .unset, .val (.int (Int32.ofNat (cs.length + 3))), .val (.int 0)] (hb hby d25_12) rfl rfl ?_
  refine P.iload X0 hx 16 (hb hby d25_14) rfl rfl ?_
  refine P.ifNo X0 hx 19 (hb hby d25_16) (by decide) rfl ?_
  refine P.iloadN X0 hx 20 (hb hby d25_19) rfl rfl ?_
  refine P.ineg X0 hx 21 (z := (-(Int32.ofNat n))) (hb hby d25_20) rfl rfl ?_
  refine P.istoreN X0 hx 22 #[.val (.int (-(Int32.ofNat n))), .val (.int (Int32.ofNat (cs.length + 3))), .val (.ref t), .unset, .unset, .val (.int (Int32.ofNat (cs.length + 3))), .val (.int 0)] (hb hby d25_21) rfl rfl ?_
  refine P.iloadN X0 hx 23 (hb hby d25_22) rfl rfl ?_
  refine P.bipush X0 hx 25 (-100) (hb hby d25_23) rfl rfl ?_
  refine P.icmpNo X0 hx 28 (hb hby d25_25) (flt ((not_congr (ngL (k := 100) (by decide) (by omega))).mpr (by omega))).2.2.1 rfl ?_
  refine P.iloadN X0 hx 29 (hb hby d25_28) rfl rfl ?_
  refine P.bipush X0 hx 31 100 (hb hby d25_29) rfl rfl ?_
  refine P.idiv X0 hx 32 (z := (-(Int32.ofNat (n / 100)))) (hb hby d25_31) (by decide) (ngD (by omega)) rfl ?_
  refine P.istoreN X0 hx 33 #[.val (.int (-(Int32.ofNat n))), .val (.int (Int32.ofNat (cs.length + 3))), .val (.ref t), .val (.int (-(Int32.ofNat (n / 100)))), .unset, .val (.int (Int32.ofNat (cs.length + 3))), .val (.int 0)] (hb hby d25_32) rfl rfl ?_
  refine P.iloadN X0 hx 34 (hb hby d25_33) rfl rfl ?_
  refine P.bipush X0 hx 36 100 (hb hby d25_34) rfl rfl ?_
  refine P.imul X0 hx 37 (z := ((-(Int32.ofNat (n / 100))) * (100 : Int32))) (hb hby d25_36) rfl rfl ?_
  refine P.iloadN X0 hx 38 (hb hby d25_37) rfl rfl ?_
  refine P.isub X0 hx 39 (z := (Int32.ofNat (n % 100))) (hb hby d25_38) (ngR (by omega)) rfl ?_
  refine P.istore X0 hx 41 #[.val (.int (-(Int32.ofNat n))), .val (.int (Int32.ofNat (cs.length + 3))), .val (.ref t), .val (.int (-(Int32.ofNat (n / 100)))), .val (.int (Int32.ofNat (n % 100))), .val (.int (Int32.ofNat (cs.length + 3))), .val (.int 0)] (hb hby d25_39) rfl rfl ?_
  refine P.iloadN X0 hx 42 (hb hby d25_41) rfl rfl ?_
  refine P.istoreN X0 hx 43 #[.val (.int (-(Int32.ofNat (n / 100)))), .val (.int (Int32.ofNat (cs.length + 3))), .val (.ref t), .val (.int (-(Int32.ofNat (n / 100)))), .val (.int (Int32.ofNat (n % 100))), .val (.int (Int32.ofNat (cs.length + 3))), .val (.int 0)] (hb hby d25_42) rfl rfl ?_
  refine P.aloadN X0 hx 44 (hb hby d25_43) rfl rfl rfl ?_
  refine P.iinc X0 hx 47 #[.val (.int (-(Int32.ofNat (n / 100)))), .val (.int (Int32.ofNat (cs.length + 3))), .val (.ref t), .val (.int (-(Int32.ofNat (n / 100)))), .val (.int (Int32.ofNat (n % 100))), .val (.int ((Int32.ofNat (cs.length + 3)) + (-1 : Int32))), .val (.int 0)] (hb hby d25_44) rfl rfl rfl ?_
  refine P.iload X0 hx 49 (hb hby d25_47) rfl rfl ?_
  refine X0.getS hx (w155 cx) Via.refl (S_DO cx) (hb hby d25_49) ?_
  intro T1 X1
  refine P.iload X1 hx 54 (hb hby d25_52) rfl rfl ?_
  refine WS.bld X1 hx ((A_DO cx).ext X1.old.2) (j := (Int32.ofNat (n % 100))) (x := (Int32.ofNat (48 + (n % 100) % 10))) (dgI (by omega)) (digOE (by omega)) (hb hby d25_54) ?_
  refine X1.stM hx A0 (L' := [(0 : Int32), 0, (Int32.ofNat (48 + (n % 100) % 10))]) (d := (Int32.ofNat (48 + (n % 100) % 10))) (i := 2) j2 rfl (nlt rfl) rfl hB1 hc P1 (hb hby d25_55) ?_
  intro T2 h2 X2 J2 G2
  have K3 : Keep h h2 [t] := K0.trans J2 (allS (Or.inl (mg 0 rfl)) all0)
  refine P.aloadN X2 hx 57 (hb hby d25_56) rfl rfl rfl ?_
  refine P.iinc X2 hx 60 #[.val (.int (-(Int32.ofNat (n / 100)))), .val (.int (Int32.ofNat (cs.length + 3))), .val (.ref t), .val (.int (-(Int32.ofNat (n / 100)))), .val (.int (Int32.ofNat (n % 100))), .val (.int (((Int32.ofNat (cs.length + 3)) + (-1 : Int32)) + (-1 : Int32))), .val (.int 0)] (hb hby d25_57) rfl rfl rfl ?_
  refine P.iload X2 hx 62 (hb hby d25_60) rfl rfl ?_
  refine X2.getS hx (w237 cx) Via.refl (S_DT cx) (hb hby d25_62) ?_
  intro T4 X4
  refine P.iload X4 hx 67 (hb hby d25_65) rfl rfl ?_
  refine WS.bld X4 hx ((A_DT cx).ext X4.old.2) (j := (Int32.ofNat (n % 100))) (x := (Int32.ofNat (48 + (n % 100) / 10))) (dgI (by omega)) (digTE (by omega)) (hb hby d25_67) ?_
  refine X4.stM hx G2 (L' := [(0 : Int32), (Int32.ofNat (48 + (n % 100) / 10)), (Int32.ofNat (48 + (n % 100) % 10))]) (d := (Int32.ofNat (48 + (n % 100) / 10))) (i := 1) j1 rfl (nlt rfl) rfl hB1 hc P1 (hb hby d25_68) ?_
  intro T5 h5 X5 J5 G5
  have K6 : Keep h h5 [t] := K3.trans J5 (allS (Or.inl (mg 0 rfl)) all0)
  refine P.goto X5 hx 22 (hb hby d25_69) (by decide) (by decide) ?_
  refine P.iloadN X5 hx 23 (hb hby d25_22) rfl rfl ?_
  refine P.bipush X5 hx 25 (-100) (hb hby d25_23) rfl rfl ?_
  refine P.icmpYes X5 hx 72 (hb hby d25_25) (tlt ((ngL (k := 100) (by decide) (by omega)).mpr (by omega))).2.2.1 (by decide) (by decide) ?_
  refine P.aloadN X5 hx 73 (hb hby d25_72) rfl rfl rfl ?_
  refine P.iinc X5 hx 76 #[.val (.int (-(Int32.ofNat (n / 100)))), .val (.int (Int32.ofNat (cs.length + 3))), .val (.ref t), .val (.int (-(Int32.ofNat (n / 100)))), .val (.int (Int32.ofNat (n % 100))), .val (.int ((((Int32.ofNat (cs.length + 3)) + (-1 : Int32)) + (-1 : Int32)) + (-1 : Int32))), .val (.int 0)] (hb hby d25_73) rfl rfl rfl ?_
  refine P.iload X5 hx 78 (hb hby d25_76) rfl rfl ?_
  refine X5.getS hx (w155 cx) Via.refl (S_DO cx) (hb hby d25_78) ?_
  intro T7 X7
  refine P.iloadN X7 hx 82 (hb hby d25_81) rfl rfl ?_
  refine P.ineg X7 hx 83 (z := (Int32.ofNat (n / 100))) (hb hby d25_82) (Int32.neg_neg) rfl ?_
  refine WS.bld X7 hx ((A_DO cx).ext X7.old.2) (j := (Int32.ofNat (n / 100))) (x := (Int32.ofNat (48 + (n / 100) % 10))) (dgI (by omega)) (digOE (by omega)) (hb hby d25_83) ?_
  refine X7.stM hx G5 (L' := [(Int32.ofNat (48 + (n / 100) % 10)), (Int32.ofNat (48 + (n % 100) / 10)), (Int32.ofNat (48 + (n % 100) % 10))]) (d := (Int32.ofNat (48 + (n / 100) % 10))) (i := 0) j0 rfl (nlt rfl) rfl hB1 hc P1 (hb hby d25_84) ?_
  intro T8 h8 X8 J8 G8
  have K9 : Keep h h8 [t] := K6.trans J8 (allS (Or.inl (mg 0 rfl)) all0)
  refine P.iloadN X8 hx 86 (hb hby d25_85) rfl rfl ?_
  refine P.bipush X8 hx 88 (-9) (hb hby d25_86) rfl rfl ?_
  refine P.icmpYes X8 hx 104 (hb hby d25_88) (flt ((not_congr (ngG (k := 9) (by decide) (by omega))).mpr (by omega))).2.1 (by decide) (by decide) ?_
  refine P.iload X8 hx 106 (hb hby d25_104) rfl rfl ?_
  refine P.ifYes X8 hx 118 (hb hby d25_106) (by decide) (by decide) (by decide) ?_
  refine P.iload X8 hx 120 (hb hby d25_118) rfl rfl ?_
  have V10 : Arv Z h8 t kt .byte (Int32.ofNat cap) (lat (cs ++ digs n 3)) (.int 0) := by have q := G8; rw [show [(Int32.ofNat (48 + (n / 100) % 10)), (Int32.ofNat (48 + (n % 100) / 10)), (Int32.ofNat (48 + (n % 100) % 10))] = digs n 3 from (gd3 rl ru)] at q; exact q
  exact WS.retI X8 (WL' := []) (FL' := []) hx hret hlk (hb hby d25_120) (nle rfl) (nle rfl) ⟨(by rw [j0] <;> rfl), rfl, rfl, K9, V10⟩
def Q_ssz4 (Z : State) (gC : Int32) (gF : Value) (v_DO : Addr) (k_DO : ClassId) (v_DT : Addr) (k_DT : ClassId) (n : Nat) (h : Heap) (v : Option Value) (h' : Heap) (WL' FL' : List Addr) : Prop := v = some (.int 4) ∧ WL' = [] ∧ FL' = [] ∧ h' = h
theorem ct_ssz4 (cx : Cx a0 Z gC gF v_DO k_DO v_DT k_DT) (n : Nat) (h : Heap) (WL FL : List Addr) (rl : 1000 ≤ n) (ru : n < 10000) :
    Ct l Z EL1 n0 (⟨"java/lang/Integer", "stringSize", "(I)I"⟩ : MethodName) jdk_33_method_13_code 4 (Option.some FieldType.int) ({ frames := 0, cells := 0, slots := 0, locals := 0 } : Room) #[(.int (Int32.ofNat n))] h WL FL (Q_ssz4 Z gC gF v_DO k_DO v_DT k_DT n h) := by
  refine Ct.of (plainFor_of_name pn4) ?_
  intro p e s m below meth c s1 hx hby hml hnm hret hlk X0
  refine Wo.cast (f' := (mkF m 0 #[.val (.int (Int32.ofNat n)), .unset, .unset, .unset] [])) (by rfl) ?_
  show Wo _ _ _ _ _ _ _ _ _ _ _ s1 (mkF m 0 #[.val (.int (Int32.ofNat n)), .unset, .unset, .unset] [])
  refine P.iconst X0 hx 1 1 (hb hby d23_0) rfl rfl ?_
  refine P.istoreN X0 hx 2 #[.val (.int (Int32.ofNat n)), .val (.int 1), .unset, .unset] (hb hby d23_1) rfl rfl ?_
  refine P.iloadN X0 hx 3 (hb hby d23_2) rfl rfl ?_
  refine P.ifNo X0 hx 6 (hb hby d23_3) ((if0 _ _).trans (flt (oNn (by omega))).1) rfl ?_
  refine P.iconst X0 hx 7 0 (hb hby d23_6) rfl rfl ?_
  refine P.istoreN X0 hx 8 #[.val (.int (Int32.ofNat n)), .val (.int 0), .unset, .unset] (hb hby d23_7) rfl rfl ?_
  refine P.iloadN X0 hx 9 (hb hby d23_8) rfl rfl ?_
  refine P.ineg X0 hx 10 (z := (-(Int32.ofNat n))) (hb hby d23_9) rfl rfl ?_
  refine P.istoreN X0 hx 11 #[.val (.int (-(Int32.ofNat n))), .val (.int 0), .unset, .unset] (hb hby d23_10) rfl rfl ?_
  refine P.bipush X0 hx 13 (-10) (hb hby d23_11) rfl rfl ?_
  refine P.istoreN X0 hx 14 #[.val (.int (-(Int32.ofNat n))), .val (.int 0), .val (.int (-10 : Int32)), .unset] (hb hby d23_13) rfl rfl ?_
  refine P.iconst X0 hx 15 1 (hb hby d23_14) rfl rfl ?_
  refine P.istoreN X0 hx 16 #[.val (.int (-(Int32.ofNat n))), .val (.int 0), .val (.int (-10 : Int32)), .val (.int 1)] (hb hby d23_15) rfl rfl ?_
  refine P.iloadN X0 hx 17 (hb hby d23_16) rfl rfl ?_
  refine P.bipush X0 hx 19 10 (hb hby d23_17) rfl rfl ?_
  refine P.icmpNo X0 hx 22 (hb hby d23_19) (by decide) rfl ?_
  refine P.iloadN X0 hx 23 (hb hby d23_22) rfl rfl ?_
  refine P.iloadN X0 hx 24 (hb hby d23_23) rfl rfl ?_
  refine P.icmpYes X0 hx 31 (hb hby d23_24) (flt ((not_congr (ngL (k := 10) (by decide) (by omega))).mpr (by omega))).2.2.2 (by decide) (by decide) ?_
  refine P.bipush X0 hx 33 10 (hb hby d23_31) rfl rfl ?_
  refine P.iloadN X0 hx 34 (hb hby d23_33) rfl rfl ?_
  refine P.imul X0 hx 35 (z := (-100 : Int32)) (hb hby d23_34) rfl rfl ?_
  refine P.istoreN X0 hx 36 #[.val (.int (-(Int32.ofNat n))), .val (.int 0), .val (.int (-100 : Int32)), .val (.int 1)] (hb hby d23_35) rfl rfl ?_
  refine P.iinc X0 hx 39 #[.val (.int (-(Int32.ofNat n))), .val (.int 0), .val (.int (-100 : Int32)), .val (.int 2)] (hb hby d23_36) rfl rfl rfl ?_
  refine P.goto X0 hx 16 (hb hby d23_39) (by decide) (by decide) ?_
  refine P.iloadN X0 hx 17 (hb hby d23_16) rfl rfl ?_
  refine P.bipush X0 hx 19 10 (hb hby d23_17) rfl rfl ?_
  refine P.icmpNo X0 hx 22 (hb hby d23_19) (by decide) rfl ?_
  refine P.iloadN X0 hx 23 (hb hby d23_22) rfl rfl ?_
  refine P.iloadN X0 hx 24 (hb hby d23_23) rfl rfl ?_
  refine P.icmpYes X0 hx 31 (hb hby d23_24) (flt ((not_congr (ngL (k := 100) (by decide) (by omega))).mpr (by omega))).2.2.2 (by decide) (by decide) ?_
  refine P.bipush X0 hx 33 10 (hb hby d23_31) rfl rfl ?_
  refine P.iloadN X0 hx 34 (hb hby d23_33) rfl rfl ?_
  refine P.imul X0 hx 35 (z := (-1000 : Int32)) (hb hby d23_34) rfl rfl ?_
  refine P.istoreN X0 hx 36 #[.val (.int (-(Int32.ofNat n))), .val (.int 0), .val (.int (-1000 : Int32)), .val (.int 2)] (hb hby d23_35) rfl rfl ?_
  refine P.iinc X0 hx 39 #[.val (.int (-(Int32.ofNat n))), .val (.int 0), .val (.int (-1000 : Int32)), .val (.int 3)] (hb hby d23_36) rfl rfl rfl ?_
  refine P.goto X0 hx 16 (hb hby d23_39) (by decide) (by decide) ?_
  refine P.iloadN X0 hx 17 (hb hby d23_16) rfl rfl ?_
  refine P.bipush X0 hx 19 10 (hb hby d23_17) rfl rfl ?_
  refine P.icmpNo X0 hx 22 (hb hby d23_19) (by decide) rfl ?_
  refine P.iloadN X0 hx 23 (hb hby d23_22) rfl rfl ?_
  refine P.iloadN X0 hx 24 (hb hby d23_23) rfl rfl ?_
  refine P.icmpYes X0 hx 31 (hb hby d23_24) (flt ((not_congr (ngL (k := 1000) (by decide) (by omega))).mpr (by omega))).2.2.2 (by decide) (by decide) ?_
  refine P.bipush X0 hx 33 10 (hb hby d23_31) rfl rfl ?_
  refine P.iloadN X0 hx 34 (hb hby d23_33) rfl rfl ?_
  refine P.imul X0 hx 35 (z := (-10000 : Int32)) (hb hby d23_34) rfl rfl ?_
  refine P.istoreN X0 hx 36 #[.val (.int (-(Int32.ofNat n))), .val (.int 0), .val (.int (-10000 : Int32)), .val (.int 3)] (hb hby d23_35) rfl rfl ?_
  refine P.iinc X0 hx 39 #[.val (.int (-(Int32.ofNat n))), .val (.int 0), .val (.int (-10000 : Int32)), .val (.int 4)] (hb hby d23_36) rfl rfl rfl ?_
  refine P.goto X0 hx 16 (hb hby d23_39) (by decide) (by decide) ?_
  refine P.iloadN X0 hx 17 (hb hby d23_16) rfl rfl ?_
  refine P.bipush X0 hx 19 10 (hb hby d23_17) rfl rfl ?_
  refine P.icmpNo X0 hx 22 (hb hby d23_19) (by decide) rfl ?_
  refine P.iloadN X0 hx 23 (hb hby d23_22) rfl rfl ?_
  refine P.iloadN X0 hx 24 (hb hby d23_23) rfl rfl ?_
  refine P.icmpNo X0 hx 27 (hb hby d23_24) (tlt ((ngL (k := 10000) (by decide) (by omega)).mpr (by omega))).2.2.2 rfl ?_
  refine P.iloadN X0 hx 28 (hb hby d23_27) rfl rfl ?_
  refine P.iloadN X0 hx 29 (hb hby d23_28) rfl rfl ?_
  refine P.iadd X0 hx 30 (z := (4 : Int32)) (hb hby d23_29) rfl rfl ?_
  exact WS.retI X0 (WL' := []) (FL' := []) hx hret hlk (hb hby d23_30) (nle rfl) (nle rfl) ⟨rfl, rfl, rfl, rfl⟩
def Q_gch4 (Z : State) (gC : Int32) (gF : Value) (v_DO : Addr) (k_DO : ClassId) (v_DT : Addr) (k_DT : ClassId) (n : Nat) (t : Addr) (kt : ClassId) (cap : Nat) (cs : List Int32) (h : Heap) (v : Option Value) (h' : Heap) (WL' FL' : List Addr) : Prop := v = some (.int (Int32.ofNat cs.length)) ∧ WL' = [] ∧ FL' = [] ∧ Keep h h' [t] ∧ Arv Z h' t kt .byte (Int32.ofNat cap) (lat (cs ++ digs n 4)) (.int 0)
theorem ct_gch4 (cx : Cx a0 Z gC gF v_DO k_DO v_DT k_DT) (n : Nat) (t : Addr) (kt : ClassId) (cap : Nat) (cs : List Int32) (h : Heap) (WL FL : List Addr) (P0 : Arv Z h t kt .byte (Int32.ofNat cap) (lat cs) (.int 0)) (P1 : t ∈ WL) (hB1 : cs.length + 4 ≤ cap) (hc : cap ≤ 4000) (rl : 1000 ≤ n) (ru : n < 10000) :
    Ct l Z EL1 n0 (⟨"java/lang/Integer", "getChars", "(II[B)I"⟩ : MethodName) jdk_33_method_12_code 7 (Option.some FieldType.int) ({ frames := 0, cells := 0, slots := 0, locals := 0 } : Room) #[(.int (Int32.ofNat n)), (.int (Int32.ofNat (cs.length + 4))), (.ref t)] h WL FL (Q_gch4 Z gC gF v_DO k_DO v_DT k_DT n t kt cap cs h) := by
  refine Ct.of (plainFor_of_name pn4) ?_
  intro p e s m below meth c s1 hx hby hml hnm hret hlk X0
  refine Wo.cast (f' := (mkF m 0 #[.val (.int (Int32.ofNat n)), .val (.int (Int32.ofNat (cs.length + 4))), .val (.ref t), .unset, .unset, .unset, .unset] [])) (by rfl) ?_
  have K0 : Keep h h [t] := Keep.refl _ _
  show Wo _ _ _ _ _ _ _ _ _ _ _ s1 (mkF m 0 #[.val (.int (Int32.ofNat n)), .val (.int (Int32.ofNat (cs.length + 4))), .val (.ref t), .unset, .unset, .unset, .unset] [])
  have j3 : ((Int32.ofNat (cs.length + 4)) + (-1 : Int32)) = Int32.ofNat (cs.length + 3) := oM1 (cs.length + 3)
  have j2 : (((Int32.ofNat (cs.length + 4)) + (-1 : Int32)) + (-1 : Int32)) = Int32.ofNat (cs.length + 2) := (congrArg (fun z : Int32 => z + (-1 : Int32)) j3).trans (oM1 (cs.length + 2))
  have j1 : ((((Int32.ofNat (cs.length + 4)) + (-1 : Int32)) + (-1 : Int32)) + (-1 : Int32)) = Int32.ofNat (cs.length + 1) := (congrArg (fun z : Int32 => z + (-1 : Int32)) j2).trans (oM1 (cs.length + 1))
  have j0 : (((((Int32.ofNat (cs.length + 4)) + (-1 : Int32)) + (-1 : Int32)) + (-1 : Int32)) + (-1 : Int32)) = Int32.ofNat (cs.length + 0) := (congrArg (fun z : Int32 => z + (-1 : Int32)) j1).trans (oM1 (cs.length + 0))
  have A0 : Arv Z h t kt .byte (Int32.ofNat cap) (lat (cs ++ [(0 : Int32), 0, 0, 0])) (.int 0) := padL P0 4
  refine P.iloadN X0 hx 1 (hb hby d25_0) rfl rfl ?_
  refine P.istore X0 hx 3 #[.val (.int (Int32.ofNat n)), .val (.int (Int32.ofNat (cs.length + 4))), .val (.ref t), .unset, .unset, .val (.int (Int32.ofNat (cs.length + 4))), .unset] (hb hby d25_1) rfl rfl ?_
  refine P.iloadN X0 hx 4 (hb hby d25_3) rfl rfl ?_
  refine P.ifYes X0 hx 11 (hb hby d25_4) ((if0 _ _).trans (flt (oNn (by omega))).2.1) (by decide) (by decide) ?_
  refine P.iconst X0 hx 12 0 (hb hby d25_11) rfl rfl ?_
  refine P.istore X0 hx 14 #[.val (.int (Int32.ofNat n)), .val (.int (Int32.ofNat (cs.length + 4))), .val (.ref t), .unset, .unset, .val (.int (Int32.ofNat (cs.length + 4))), .val (.int 0)] (hb hby d25_12) rfl rfl ?_
  refine P.iload X0 hx 16 (hb hby d25_14) rfl rfl ?_
  refine P.ifNo X0 hx 19 (hb hby d25_16) (by decide) rfl ?_
  refine P.iloadN X0 hx 20 (hb hby d25_19) rfl rfl ?_
  refine P.ineg X0 hx 21 (z := (-(Int32.ofNat n))) (hb hby d25_20) rfl rfl ?_
  refine P.istoreN X0 hx 22 #[.val (.int (-(Int32.ofNat n))), .val (.int (Int32.ofNat (cs.length + 4))), .val (.ref t), .unset, .unset, .val (.int (Int32.ofNat (cs.length + 4))), .val (.int 0)] (hb hby d25_21) rfl rfl ?_
  refine P.iloadN X0 hx 23 (hb hby d25_22) rfl rfl ?_
  refine P.bipush X0 hx 25 (-100) (hb hby d25_23) rfl rfl ?_
  refine P.icmpNo X0 hx 28 (hb hby d25_25) (flt ((not_congr (ngL (k := 100) (by decide) (by omega))).mpr (by omega))).2.2.1 rfl ?_
  refine P.iloadN X0 hx 29 (hb hby d25_28) rfl rfl ?_
  refine P.bipush X0 hx 31 100 (hb hby d25_29) rfl rfl ?_
  refine P.idiv X0 hx 32 (z := (-(Int32.ofNat (n / 100)))) (hb hby d25_31) (by decide) (ngD (by omega)) rfl ?_
  refine P.istoreN X0 hx 33 #[.val (.int (-(Int32.ofNat n))), .val (.int (Int32.ofNat (cs.length + 4))), .val (.ref t), .val (.int (-(Int32.ofNat (n / 100)))), .unset, .val (.int (Int32.ofNat (cs.length + 4))), .val (.int 0)] (hb hby d25_32) rfl rfl ?_
  refine P.iloadN X0 hx 34 (hb hby d25_33) rfl rfl ?_
  refine P.bipush X0 hx 36 100 (hb hby d25_34) rfl rfl ?_
  refine P.imul X0 hx 37 (z := ((-(Int32.ofNat (n / 100))) * (100 : Int32))) (hb hby d25_36) rfl rfl ?_
  refine P.iloadN X0 hx 38 (hb hby d25_37) rfl rfl ?_
  refine P.isub X0 hx 39 (z := (Int32.ofNat (n % 100))) (hb hby d25_38) (ngR (by omega)) rfl ?_
  refine P.istore X0 hx 41 #[.val (.int (-(Int32.ofNat n))), .val (.int (Int32.ofNat (cs.length + 4))), .val (.ref t), .val (.int (-(Int32.ofNat (n / 100)))), .val (.int (Int32.ofNat (n % 100))), .val (.int (Int32.ofNat (cs.length + 4))), .val (.int 0)] (hb hby d25_39) rfl rfl ?_
  refine P.iloadN X0 hx 42 (hb hby d25_41) rfl rfl ?_
  refine P.istoreN X0 hx 43 #[.val (.int (-(Int32.ofNat (n / 100)))), .val (.int (Int32.ofNat (cs.length + 4))), .val (.ref t), .val (.int (-(Int32.ofNat (n / 100)))), .val (.int (Int32.ofNat (n % 100))), .val (.int (Int32.ofNat (cs.length + 4))), .val (.int 0)] (hb hby d25_42) rfl rfl ?_
  refine P.aloadN X0 hx 44 (hb hby d25_43) rfl rfl rfl ?_
  refine P.iinc X0 hx 47 #[.val (.int (-(Int32.ofNat (n / 100)))), .val (.int (Int32.ofNat (cs.length + 4))), .val (.ref t), .val (.int (-(Int32.ofNat (n / 100)))), .val (.int (Int32.ofNat (n % 100))), .val (.int ((Int32.ofNat (cs.length + 4)) + (-1 : Int32))), .val (.int 0)] (hb hby d25_44) rfl rfl rfl ?_
  refine P.iload X0 hx 49 (hb hby d25_47) rfl rfl ?_
  refine X0.getS hx (w155 cx) Via.refl (S_DO cx) (hb hby d25_49) ?_
  intro T1 X1
  refine P.iload X1 hx 54 (hb hby d25_52) rfl rfl ?_
  refine WS.bld X1 hx ((A_DO cx).ext X1.old.2) (j := (Int32.ofNat (n % 100))) (x := (Int32.ofNat (48 + (n % 100) % 10))) (dgI (by omega)) (digOE (by omega)) (hb hby d25_54) ?_
  refine X1.stM hx A0 (L' := [(0 : Int32), 0, 0, (Int32.ofNat (48 + (n % 100) % 10))]) (d := (Int32.ofNat (48 + (n % 100) % 10))) (i := 3) j3 rfl (nlt rfl) rfl hB1 hc P1 (hb hby d25_55) ?_
  intro T2 h2 X2 J2 G2
  have K3 : Keep h h2 [t] := K0.trans J2 (allS (Or.inl (mg 0 rfl)) all0)
  refine P.aloadN X2 hx 57 (hb hby d25_56) rfl rfl rfl ?_
  refine P.iinc X2 hx 60 #[.val (.int (-(Int32.ofNat (n / 100)))), .val (.int (Int32.ofNat (cs.length + 4))), .val (.ref t), .val (.int (-(Int32.ofNat (n / 100)))), .val (.int (Int32.ofNat (n % 100))), .val (.int (((Int32.ofNat (cs.length + 4)) + (-1 : Int32)) + (-1 : Int32))), .val (.int 0)] (hb hby d25_57) rfl rfl rfl ?_
  refine P.iload X2 hx 62 (hb hby d25_60) rfl rfl ?_
  refine X2.getS hx (w237 cx) Via.refl (S_DT cx) (hb hby d25_62) ?_
  intro T4 X4
  refine P.iload X4 hx 67 (hb hby d25_65) rfl rfl ?_
  refine WS.bld X4 hx ((A_DT cx).ext X4.old.2) (j := (Int32.ofNat (n % 100))) (x := (Int32.ofNat (48 + (n % 100) / 10))) (dgI (by omega)) (digTE (by omega)) (hb hby d25_67) ?_
  refine X4.stM hx G2 (L' := [(0 : Int32), 0, (Int32.ofNat (48 + (n % 100) / 10)), (Int32.ofNat (48 + (n % 100) % 10))]) (d := (Int32.ofNat (48 + (n % 100) / 10))) (i := 2) j2 rfl (nlt rfl) rfl hB1 hc P1 (hb hby d25_68) ?_
  intro T5 h5 X5 J5 G5
  have K6 : Keep h h5 [t] := K3.trans J5 (allS (Or.inl (mg 0 rfl)) all0)
  refine P.goto X5 hx 22 (hb hby d25_69) (by decide) (by decide) ?_
  refine P.iloadN X5 hx 23 (hb hby d25_22) rfl rfl ?_
  refine P.bipush X5 hx 25 (-100) (hb hby d25_23) rfl rfl ?_
  refine P.icmpYes X5 hx 72 (hb hby d25_25) (tlt ((ngL (k := 100) (by decide) (by omega)).mpr (by omega))).2.2.1 (by decide) (by decide) ?_
  refine P.aloadN X5 hx 73 (hb hby d25_72) rfl rfl rfl ?_
  refine P.iinc X5 hx 76 #[.val (.int (-(Int32.ofNat (n / 100)))), .val (.int (Int32.ofNat (cs.length + 4))), .val (.ref t), .val (.int (-(Int32.ofNat (n / 100)))), .val (.int (Int32.ofNat (n % 100))), .val (.int ((((Int32.ofNat (cs.length + 4)) + (-1 : Int32)) + (-1 : Int32)) + (-1 : Int32))), .val (.int 0)] (hb hby d25_73) rfl rfl rfl ?_
  refine P.iload X5 hx 78 (hb hby d25_76) rfl rfl ?_
  refine X5.getS hx (w155 cx) Via.refl (S_DO cx) (hb hby d25_78) ?_
  intro T7 X7
  refine P.iloadN X7 hx 82 (hb hby d25_81) rfl rfl ?_
  refine P.ineg X7 hx 83 (z := (Int32.ofNat (n / 100))) (hb hby d25_82) (Int32.neg_neg) rfl ?_
  refine WS.bld X7 hx ((A_DO cx).ext X7.old.2) (j := (Int32.ofNat (n / 100))) (x := (Int32.ofNat (48 + (n / 100) % 10))) (dgI (by omega)) (digOE (by omega)) (hb hby d25_83) ?_
  refine X7.stM hx G5 (L' := [(0 : Int32), (Int32.ofNat (48 + (n / 100) % 10)), (Int32.ofNat (48 + (n % 100) / 10)), (Int32.ofNat (48 + (n % 100) % 10))]) (d := (Int32.ofNat (48 + (n / 100) % 10))) (i := 1) j1 rfl (nlt rfl) rfl hB1 hc P1 (hb hby d25_84) ?_
  intro T8 h8 X8 J8 G8
  have K9 : Keep h h8 [t] := K6.trans J8 (allS (Or.inl (mg 0 rfl)) all0)
  refine P.iloadN X8 hx 86 (hb hby d25_85) rfl rfl ?_
  refine P.bipush X8 hx 88 (-9) (hb hby d25_86) rfl rfl ?_
  refine P.icmpNo X8 hx 91 (hb hby d25_88) (tlt ((ngG (k := 9) (by decide) (by omega)).mpr (by omega))).2.1 rfl ?_
  refine P.aloadN X8 hx 92 (hb hby d25_91) rfl rfl rfl ?_
  refine P.iinc X8 hx 95 #[.val (.int (-(Int32.ofNat (n / 100)))), .val (.int (Int32.ofNat (cs.length + 4))), .val (.ref t), .val (.int (-(Int32.ofNat (n / 100)))), .val (.int (Int32.ofNat (n % 100))), .val (.int (((((Int32.ofNat (cs.length + 4)) + (-1 : Int32)) + (-1 : Int32)) + (-1 : Int32)) + (-1 : Int32))), .val (.int 0)] (hb hby d25_92) rfl rfl rfl ?_
  refine P.iload X8 hx 97 (hb hby d25_95) rfl rfl ?_
  refine X8.getS hx (w237 cx) Via.refl (S_DT cx) (hb hby d25_97) ?_
  intro T10 X10
  refine P.iloadN X10 hx 101 (hb hby d25_100) rfl rfl ?_
  refine P.ineg X10 hx 102 (z := (Int32.ofNat (n / 100))) (hb hby d25_101) (Int32.neg_neg) rfl ?_
  refine WS.bld X10 hx ((A_DT cx).ext X10.old.2) (j := (Int32.ofNat (n / 100))) (x := (Int32.ofNat (48 + (n / 100) / 10))) (dgI (by omega)) (digTE (by omega)) (hb hby d25_102) ?_
  refine X10.stM hx G8 (L' := [(Int32.ofNat (48 + (n / 100) / 10)), (Int32.ofNat (48 + (n / 100) % 10)), (Int32.ofNat (48 + (n % 100) / 10)), (Int32.ofNat (48 + (n % 100) % 10))]) (d := (Int32.ofNat (48 + (n / 100) / 10))) (i := 0) j0 rfl (nlt rfl) rfl hB1 hc P1 (hb hby d25_103) ?_
  intro T11 h11 X11 J11 G11
  have K12 : Keep h h11 [t] := K9.trans J11 (allS (Or.inl (mg 0 rfl)) all0)
  refine P.iload X11 hx 106 (hb hby d25_104) rfl rfl ?_
  refine P.ifYes X11 hx 118 (hb hby d25_106) (by decide) (by decide) (by decide) ?_
  refine P.iload X11 hx 120 (hb hby d25_118) rfl rfl ?_
  have V13 : Arv Z h11 t kt .byte (Int32.ofNat cap) (lat (cs ++ digs n 4)) (.int 0) := by have q := G11; rw [show [(Int32.ofNat (48 + (n / 100) / 10)), (Int32.ofNat (48 + (n / 100) % 10)), (Int32.ofNat (48 + (n % 100) / 10)), (Int32.ofNat (48 + (n % 100) % 10))] = digs n 4 from (gd4 rl ru)] at q; exact q
  exact WS.retI X11 (WL' := []) (FL' := []) hx hret hlk (hb hby d25_120) (nle rfl) (nle rfl) ⟨(by rw [j0] <;> rfl), rfl, rfl, K12, V13⟩
def Q_ssz5 (Z : State) (gC : Int32) (gF : Value) (v_DO : Addr) (k_DO : ClassId) (v_DT : Addr) (k_DT : ClassId) (n : Nat) (h : Heap) (v : Option Value) (h' : Heap) (WL' FL' : List Addr) : Prop := v = some (.int 5) ∧ WL' = [] ∧ FL' = [] ∧ h' = h
theorem ct_ssz5 (cx : Cx a0 Z gC gF v_DO k_DO v_DT k_DT) (n : Nat) (h : Heap) (WL FL : List Addr) (rl : 10000 ≤ n) (ru : n < 65536) :
    Ct l Z EL1 n0 (⟨"java/lang/Integer", "stringSize", "(I)I"⟩ : MethodName) jdk_33_method_13_code 4 (Option.some FieldType.int) ({ frames := 0, cells := 0, slots := 0, locals := 0 } : Room) #[(.int (Int32.ofNat n))] h WL FL (Q_ssz5 Z gC gF v_DO k_DO v_DT k_DT n h) := by
  refine Ct.of (plainFor_of_name pn4) ?_
  intro p e s m below meth c s1 hx hby hml hnm hret hlk X0
  refine Wo.cast (f' := (mkF m 0 #[.val (.int (Int32.ofNat n)), .unset, .unset, .unset] [])) (by rfl) ?_
  show Wo _ _ _ _ _ _ _ _ _ _ _ s1 (mkF m 0 #[.val (.int (Int32.ofNat n)), .unset, .unset, .unset] [])
  refine P.iconst X0 hx 1 1 (hb hby d23_0) rfl rfl ?_
  refine P.istoreN X0 hx 2 #[.val (.int (Int32.ofNat n)), .val (.int 1), .unset, .unset] (hb hby d23_1) rfl rfl ?_
  refine P.iloadN X0 hx 3 (hb hby d23_2) rfl rfl ?_
  refine P.ifNo X0 hx 6 (hb hby d23_3) ((if0 _ _).trans (flt (oNn (by omega))).1) rfl ?_
  refine P.iconst X0 hx 7 0 (hb hby d23_6) rfl rfl ?_
  refine P.istoreN X0 hx 8 #[.val (.int (Int32.ofNat n)), .val (.int 0), .unset, .unset] (hb hby d23_7) rfl rfl ?_
  refine P.iloadN X0 hx 9 (hb hby d23_8) rfl rfl ?_
  refine P.ineg X0 hx 10 (z := (-(Int32.ofNat n))) (hb hby d23_9) rfl rfl ?_
  refine P.istoreN X0 hx 11 #[.val (.int (-(Int32.ofNat n))), .val (.int 0), .unset, .unset] (hb hby d23_10) rfl rfl ?_
  refine P.bipush X0 hx 13 (-10) (hb hby d23_11) rfl rfl ?_
  refine P.istoreN X0 hx 14 #[.val (.int (-(Int32.ofNat n))), .val (.int 0), .val (.int (-10 : Int32)), .unset] (hb hby d23_13) rfl rfl ?_
  refine P.iconst X0 hx 15 1 (hb hby d23_14) rfl rfl ?_
  refine P.istoreN X0 hx 16 #[.val (.int (-(Int32.ofNat n))), .val (.int 0), .val (.int (-10 : Int32)), .val (.int 1)] (hb hby d23_15) rfl rfl ?_
  refine P.iloadN X0 hx 17 (hb hby d23_16) rfl rfl ?_
  refine P.bipush X0 hx 19 10 (hb hby d23_17) rfl rfl ?_
  refine P.icmpNo X0 hx 22 (hb hby d23_19) (by decide) rfl ?_
  refine P.iloadN X0 hx 23 (hb hby d23_22) rfl rfl ?_
  refine P.iloadN X0 hx 24 (hb hby d23_23) rfl rfl ?_
  refine P.icmpYes X0 hx 31 (hb hby d23_24) (flt ((not_congr (ngL (k := 10) (by decide) (by omega))).mpr (by omega))).2.2.2 (by decide) (by decide) ?_
  refine P.bipush X0 hx 33 10 (hb hby d23_31) rfl rfl ?_
  refine P.iloadN X0 hx 34 (hb hby d23_33) rfl rfl ?_
  refine P.imul X0 hx 35 (z := (-100 : Int32)) (hb hby d23_34) rfl rfl ?_
  refine P.istoreN X0 hx 36 #[.val (.int (-(Int32.ofNat n))), .val (.int 0), .val (.int (-100 : Int32)), .val (.int 1)] (hb hby d23_35) rfl rfl ?_
  refine P.iinc X0 hx 39 #[.val (.int (-(Int32.ofNat n))), .val (.int 0), .val (.int (-100 : Int32)), .val (.int 2)] (hb hby d23_36) rfl rfl rfl ?_
  refine P.goto X0 hx 16 (hb hby d23_39) (by decide) (by decide) ?_
  refine P.iloadN X0 hx 17 (hb hby d23_16) rfl rfl ?_
  refine P.bipush X0 hx 19 10 (hb hby d23_17) rfl rfl ?_
  refine P.icmpNo X0 hx 22 (hb hby d23_19) (by decide) rfl ?_
  refine P.iloadN X0 hx 23 (hb hby d23_22) rfl rfl ?_
  refine P.iloadN X0 hx 24 (hb hby d23_23) rfl rfl ?_
  refine P.icmpYes X0 hx 31 (hb hby d23_24) (flt ((not_congr (ngL (k := 100) (by decide) (by omega))).mpr (by omega))).2.2.2 (by decide) (by decide) ?_
  refine P.bipush X0 hx 33 10 (hb hby d23_31) rfl rfl ?_
  refine P.iloadN X0 hx 34 (hb hby d23_33) rfl rfl ?_
  refine P.imul X0 hx 35 (z := (-1000 : Int32)) (hb hby d23_34) rfl rfl ?_
  refine P.istoreN X0 hx 36 #[.val (.int (-(Int32.ofNat n))), .val (.int 0), .val (.int (-1000 : Int32)), .val (.int 2)] (hb hby d23_35) rfl rfl ?_
  refine P.iinc X0 hx 39 #[.val (.int (-(Int32.ofNat n))), .val (.int 0), .val (.int (-1000 : Int32)), .val (.int 3)] (hb hby d23_36) rfl rfl rfl ?_
  refine P.goto X0 hx 16 (hb hby d23_39) (by decide) (by decide) ?_
  refine P.iloadN X0 hx 17 (hb hby d23_16) rfl rfl ?_
  refine P.bipush X0 hx 19 10 (hb hby d23_17) rfl rfl ?_
  refine P.icmpNo X0 hx 22 (hb hby d23_19) (by decide) rfl ?_
  refine P.iloadN X0 hx 23 (hb hby d23_22) rfl rfl ?_
  refine P.iloadN X0 hx 24 (hb hby d23_23) rfl rfl ?_
  refine P.icmpYes X0 hx 31 (hb hby d23_24) (flt ((not_congr (ngL (k := 1000) (by decide) (by omega))).mpr (by omega))).2.2.2 (by decide) (by decide) ?_
  refine P.bipush X0 hx 33 10 (hb hby d23_31) rfl rfl ?_
  refine P.iloadN X0 hx 34 (hb hby d23_33) rfl rfl ?_
  refine P.imul X0 hx 35 (z := (-10000 : Int32)) (hb hby d23_34) rfl rfl ?_
  refine P.istoreN X0 hx 36 #[.val (.int (-(Int32.ofNat n))), .val (.int 0), .val (.int (-10000 : Int32)), .val (.int 3)] (hb hby d23_35) rfl rfl ?_
  refine P.iinc X0 hx 39 #[.val (.int (-(Int32.ofNat n))), .val (.int 0), .val (.int (-10000 : Int32)), .val (.int 4)] (hb hby d23_36) rfl rfl rfl ?_
  refine P.goto X0 hx 16 (hb hby d23_39) (by decide) (by decide) ?_
  refine P.iloadN X0 hx 17 (hb hby d23_16) rfl rfl ?_
  refine P.bipush X0 hx 19 10 (hb hby d23_17) rfl rfl ?_
  refine P.icmpNo X0 hx 22 (hb hby d23_19) (by decide) rfl ?_
  refine P.iloadN X0 hx 23 (hb hby d23_22) rfl rfl ?_
  refine P.iloadN X0 hx 24 (hb hby d23_23) rfl rfl ?_
  refine P.icmpYes X0 hx 31 (hb hby d23_24) (flt ((not_congr (ngL (k := 10000) (by decide) (by omega))).mpr (by omega))).2.2.2 (by decide) (by decide) ?_
  refine P.bipush X0 hx 33 10 (hb hby d23_31) rfl rfl ?_
  refine P.iloadN X0 hx 34 (hb hby d23_33) rfl rfl ?_
  refine P.imul X0 hx 35 (z := (-100000 : Int32)) (hb hby d23_34) rfl rfl ?_
  refine P.istoreN X0 hx 36 #[.val (.int (-(Int32.ofNat n))), .val (.int 0), .val (.int (-100000 : Int32)), .val (.int 4)] (hb hby d23_35) rfl rfl ?_
  refine P.iinc X0 hx 39 #[.val (.int (-(Int32.ofNat n))), .val (.int 0), .val (.int (-100000 : Int32)), .val (.int 5)] (hb hby d23_36) rfl rfl rfl ?_
  refine P.goto X0 hx 16 (hb hby d23_39) (by decide) (by decide) ?_
  refine P.iloadN X0 hx 17 (hb hby d23_16) rfl rfl ?_
  refine P.bipush X0 hx 19 10 (hb hby d23_17) rfl rfl ?_
  refine P.icmpNo X0 hx 22 (hb hby d23_19) (by decide) rfl ?_
  refine P.iloadN X0 hx 23 (hb hby d23_22) rfl rfl ?_
  refine P.iloadN X0 hx 24 (hb hby d23_23) rfl rfl ?_
  refine P.icmpNo X0 hx 27 (hb hby d23_24) (tlt ((ngL (k := 100000) (by decide) (by omega)).mpr (by omega))).2.2.2 rfl ?_
  refine P.iloadN X0 hx 28 (hb hby d23_27) rfl rfl ?_
  refine P.iloadN X0 hx 29 (hb hby d23_28) rfl rfl ?_
  refine P.iadd X0 hx 30 (z := (5 : Int32)) (hb hby d23_29) rfl rfl ?_
  exact WS.retI X0 (WL' := []) (FL' := []) hx hret hlk (hb hby d23_30) (nle rfl) (nle rfl) ⟨rfl, rfl, rfl, rfl⟩
def Q_gch5 (Z : State) (gC : Int32) (gF : Value) (v_DO : Addr) (k_DO : ClassId) (v_DT : Addr) (k_DT : ClassId) (n : Nat) (t : Addr) (kt : ClassId) (cap : Nat) (cs : List Int32) (h : Heap) (v : Option Value) (h' : Heap) (WL' FL' : List Addr) : Prop := v = some (.int (Int32.ofNat cs.length)) ∧ WL' = [] ∧ FL' = [] ∧ Keep h h' [t] ∧ Arv Z h' t kt .byte (Int32.ofNat cap) (lat (cs ++ digs n 5)) (.int 0)
theorem ct_gch5 (cx : Cx a0 Z gC gF v_DO k_DO v_DT k_DT) (n : Nat) (t : Addr) (kt : ClassId) (cap : Nat) (cs : List Int32) (h : Heap) (WL FL : List Addr) (P0 : Arv Z h t kt .byte (Int32.ofNat cap) (lat cs) (.int 0)) (P1 : t ∈ WL) (hB1 : cs.length + 5 ≤ cap) (hc : cap ≤ 4000) (rl : 10000 ≤ n) (ru : n < 65536) :
    Ct l Z EL1 n0 (⟨"java/lang/Integer", "getChars", "(II[B)I"⟩ : MethodName) jdk_33_method_12_code 7 (Option.some FieldType.int) ({ frames := 0, cells := 0, slots := 0, locals := 0 } : Room) #[(.int (Int32.ofNat n)), (.int (Int32.ofNat (cs.length + 5))), (.ref t)] h WL FL (Q_gch5 Z gC gF v_DO k_DO v_DT k_DT n t kt cap cs h) := by
  refine Ct.of (plainFor_of_name pn4) ?_
  intro p e s m below meth c s1 hx hby hml hnm hret hlk X0
  refine Wo.cast (f' := (mkF m 0 #[.val (.int (Int32.ofNat n)), .val (.int (Int32.ofNat (cs.length + 5))), .val (.ref t), .unset, .unset, .unset, .unset] [])) (by rfl) ?_
  have K0 : Keep h h [t] := Keep.refl _ _
  show Wo _ _ _ _ _ _ _ _ _ _ _ s1 (mkF m 0 #[.val (.int (Int32.ofNat n)), .val (.int (Int32.ofNat (cs.length + 5))), .val (.ref t), .unset, .unset, .unset, .unset] [])
  have j4 : ((Int32.ofNat (cs.length + 5)) + (-1 : Int32)) = Int32.ofNat (cs.length + 4) := oM1 (cs.length + 4)
  have j3 : (((Int32.ofNat (cs.length + 5)) + (-1 : Int32)) + (-1 : Int32)) = Int32.ofNat (cs.length + 3) := (congrArg (fun z : Int32 => z + (-1 : Int32)) j4).trans (oM1 (cs.length + 3))
  have j2 : ((((Int32.ofNat (cs.length + 5)) + (-1 : Int32)) + (-1 : Int32)) + (-1 : Int32)) = Int32.ofNat (cs.length + 2) := (congrArg (fun z : Int32 => z + (-1 : Int32)) j3).trans (oM1 (cs.length + 2))
  have j1 : (((((Int32.ofNat (cs.length + 5)) + (-1 : Int32)) + (-1 : Int32)) + (-1 : Int32)) + (-1 : Int32)) = Int32.ofNat (cs.length + 1) := (congrArg (fun z : Int32 => z + (-1 : Int32)) j2).trans (oM1 (cs.length + 1))
  have j0 : ((((((Int32.ofNat (cs.length + 5)) + (-1 : Int32)) + (-1 : Int32)) + (-1 : Int32)) + (-1 : Int32)) + (-1 : Int32)) = Int32.ofNat (cs.length + 0) := (congrArg (fun z : Int32 => z + (-1 : Int32)) j1).trans (oM1 (cs.length + 0))
  have A0 : Arv Z h t kt .byte (Int32.ofNat cap) (lat (cs ++ [(0 : Int32), 0, 0, 0, 0])) (.int 0) := padL P0 5
  refine P.iloadN X0 hx 1 (hb hby d25_0) rfl rfl ?_
  refine P.istore X0 hx 3 #[.val (.int (Int32.ofNat n)), .val (.int (Int32.ofNat (cs.length + 5))), .val (.ref t), .unset, .unset, .val (.int (Int32.ofNat (cs.length + 5))), .unset] (hb hby d25_1) rfl rfl ?_
  refine P.iloadN X0 hx 4 (hb hby d25_3) rfl rfl ?_
  refine P.ifYes X0 hx 11 (hb hby d25_4) ((if0 _ _).trans (flt (oNn (by omega))).2.1) (by decide) (by decide) ?_
  refine P.iconst X0 hx 12 0 (hb hby d25_11) rfl rfl ?_
  refine P.istore X0 hx 14 #[.val (.int (Int32.ofNat n)), .val (.int (Int32.ofNat (cs.length + 5))), .val (.ref t), .unset, .unset, .val (.int (Int32.ofNat (cs.length + 5))), .val (.int 0)] (hb hby d25_12) rfl rfl ?_
  refine P.iload X0 hx 16 (hb hby d25_14) rfl rfl ?_
  refine P.ifNo X0 hx 19 (hb hby d25_16) (by decide) rfl ?_
  refine P.iloadN X0 hx 20 (hb hby d25_19) rfl rfl ?_
  refine P.ineg X0 hx 21 (z := (-(Int32.ofNat n))) (hb hby d25_20) rfl rfl ?_
  refine P.istoreN X0 hx 22 #[.val (.int (-(Int32.ofNat n))), .val (.int (Int32.ofNat (cs.length + 5))), .val (.ref t), .unset, .unset, .val (.int (Int32.ofNat (cs.length + 5))), .val (.int 0)] (hb hby d25_21) rfl rfl ?_
  refine P.iloadN X0 hx 23 (hb hby d25_22) rfl rfl ?_
  refine P.bipush X0 hx 25 (-100) (hb hby d25_23) rfl rfl ?_
  refine P.icmpNo X0 hx 28 (hb hby d25_25) (flt ((not_congr (ngL (k := 100) (by decide) (by omega))).mpr (by omega))).2.2.1 rfl ?_
  refine P.iloadN X0 hx 29 (hb hby d25_28) rfl rfl ?_
  refine P.bipush X0 hx 31 100 (hb hby d25_29) rfl rfl ?_
  refine P.idiv X0 hx 32 (z := (-(Int32.ofNat (n / 100)))) (hb hby d25_31) (by decide) (ngD (by omega)) rfl ?_
  refine P.istoreN X0 hx 33 #[.val (.int (-(Int32.ofNat n))), .val (.int (Int32.ofNat (cs.length + 5))), .val (.ref t), .val (.int (-(Int32.ofNat (n / 100)))), .unset, .val (.int (Int32.ofNat (cs.length + 5))), .val (.int 0)] (hb hby d25_32) rfl rfl ?_
  refine P.iloadN X0 hx 34 (hb hby d25_33) rfl rfl ?_
  refine P.bipush X0 hx 36 100 (hb hby d25_34) rfl rfl ?_
  refine P.imul X0 hx 37 (z := ((-(Int32.ofNat (n / 100))) * (100 : Int32))) (hb hby d25_36) rfl rfl ?_
  refine P.iloadN X0 hx 38 (hb hby d25_37) rfl rfl ?_
  refine P.isub X0 hx 39 (z := (Int32.ofNat (n % 100))) (hb hby d25_38) (ngR (by omega)) rfl ?_
  refine P.istore X0 hx 41 #[.val (.int (-(Int32.ofNat n))), .val (.int (Int32.ofNat (cs.length + 5))), .val (.ref t), .val (.int (-(Int32.ofNat (n / 100)))), .val (.int (Int32.ofNat (n % 100))), .val (.int (Int32.ofNat (cs.length + 5))), .val (.int 0)] (hb hby d25_39) rfl rfl ?_
  refine P.iloadN X0 hx 42 (hb hby d25_41) rfl rfl ?_
  refine P.istoreN X0 hx 43 #[.val (.int (-(Int32.ofNat (n / 100)))), .val (.int (Int32.ofNat (cs.length + 5))), .val (.ref t), .val (.int (-(Int32.ofNat (n / 100)))), .val (.int (Int32.ofNat (n % 100))), .val (.int (Int32.ofNat (cs.length + 5))), .val (.int 0)] (hb hby d25_42) rfl rfl ?_
  refine P.aloadN X0 hx 44 (hb hby d25_43) rfl rfl rfl ?_
  refine P.iinc X0 hx 47 #[.val (.int (-(Int32.ofNat (n / 100)))), .val (.int (Int32.ofNat (cs.length + 5))), .val (.ref t), .val (.int (-(Int32.ofNat (n / 100)))), .val (.int (Int32.ofNat (n % 100))), .val (.int ((Int32.ofNat (cs.length + 5)) + (-1 : Int32))), .val (.int 0)] (hb hby d25_44) rfl rfl rfl ?_
  refine P.iload X0 hx 49 (hb hby d25_47) rfl rfl ?_
  refine X0.getS hx (w155 cx) Via.refl (S_DO cx) (hb hby d25_49) ?_
  intro T1 X1
  refine P.iload X1 hx 54 (hb hby d25_52) rfl rfl ?_
  refine WS.bld X1 hx ((A_DO cx).ext X1.old.2) (j := (Int32.ofNat (n % 100))) (x := (Int32.ofNat (48 + (n % 100) % 10))) (dgI (by omega)) (digOE (by omega)) (hb hby d25_54) ?_
  refine X1.stM hx A0 (L' := [(0 : Int32), 0, 0, 0, (Int32.ofNat (48 + (n % 100) % 10))]) (d := (Int32.ofNat (48 + (n % 100) % 10))) (i := 4) j4 rfl (nlt rfl) rfl hB1 hc P1 (hb hby d25_55) ?_
  intro T2 h2 X2 J2 G2
  have K3 : Keep h h2 [t] := K0.trans J2 (allS (Or.inl (mg 0 rfl)) all0)
  refine P.aloadN X2 hx 57 (hb hby d25_56) rfl rfl rfl ?_
  refine P.iinc X2 hx 60 #[.val (.int (-(Int32.ofNat (n / 100)))), .val (.int (Int32.ofNat (cs.length + 5))), .val (.ref t), .val (.int (-(Int32.ofNat (n / 100)))), .val (.int (Int32.ofNat (n % 100))), .val (.int (((Int32.ofNat (cs.length + 5)) + (-1 : Int32)) + (-1 : Int32))), .val (.int 0)] (hb hby d25_57) rfl rfl rfl ?_
  refine P.iload X2 hx 62 (hb hby d25_60) rfl rfl ?_
  refine X2.getS hx (w237 cx) Via.refl (S_DT cx) (hb hby d25_62) ?_
  intro T4 X4
  refine P.iload X4 hx 67 (hb hby d25_65) rfl rfl ?_
  refine WS.bld X4 hx ((A_DT cx).ext X4.old.2) (j := (Int32.ofNat (n % 100))) (x := (Int32.ofNat (48 + (n % 100) / 10))) (dgI (by omega)) (digTE (by omega)) (hb hby d25_67) ?_
  refine X4.stM hx G2 (L' := [(0 : Int32), 0, 0, (Int32.ofNat (48 + (n % 100) / 10)), (Int32.ofNat (48 + (n % 100) % 10))]) (d := (Int32.ofNat (48 + (n % 100) / 10))) (i := 3) j3 rfl (nlt rfl) rfl hB1 hc P1 (hb hby d25_68) ?_
  intro T5 h5 X5 J5 G5
  have K6 : Keep h h5 [t] := K3.trans J5 (allS (Or.inl (mg 0 rfl)) all0)
  refine P.goto X5 hx 22 (hb hby d25_69) (by decide) (by decide) ?_
  refine P.iloadN X5 hx 23 (hb hby d25_22) rfl rfl ?_
  refine P.bipush X5 hx 25 (-100) (hb hby d25_23) rfl rfl ?_
  refine P.icmpNo X5 hx 28 (hb hby d25_25) (flt ((not_congr (ngL (k := 100) (by decide) (by omega))).mpr (by omega))).2.2.1 rfl ?_
  refine P.iloadN X5 hx 29 (hb hby d25_28) rfl rfl ?_
  refine P.bipush X5 hx 31 100 (hb hby d25_29) rfl rfl ?_
  refine P.idiv X5 hx 32 (z := (-(Int32.ofNat ((n / 100) / 100)))) (hb hby d25_31) (by decide) (ngD (by omega)) rfl ?_
  refine P.istoreN X5 hx 33 #[.val (.int (-(Int32.ofNat (n / 100)))), .val (.int (Int32.ofNat (cs.length + 5))), .val (.ref t), .val (.int (-(Int32.ofNat ((n / 100) / 100)))), .val (.int (Int32.ofNat (n % 100))), .val (.int (((Int32.ofNat (cs.length + 5)) + (-1 : Int32)) + (-1 : Int32))), .val (.int 0)] (hb hby d25_32) rfl rfl ?_
  refine P.iloadN X5 hx 34 (hb hby d25_33) rfl rfl ?_
  refine P.bipush X5 hx 36 100 (hb hby d25_34) rfl rfl ?_
  refine P.imul X5 hx 37 (z := ((-(Int32.ofNat ((n / 100) / 100))) * (100 : Int32))) (hb hby d25_36) rfl rfl ?_
  refine P.iloadN X5 hx 38 (hb hby d25_37) rfl rfl ?_
  refine P.isub X5 hx 39 (z := (Int32.ofNat ((n / 100) % 100))) (hb hby d25_38) (ngR (by omega)) rfl ?_
  refine P.istore X5 hx 41 #[.val (.int (-(Int32.ofNat (n / 100)))), .val (.int (Int32.ofNat (cs.length + 5))), .val (.ref t), .val (.int (-(Int32.ofNat ((n / 100) / 100)))), .val (.int (Int32.ofNat ((n / 100) % 100))), .val (.int (((Int32.ofNat (cs.length + 5)) + (-1 : Int32)) + (-1 : Int32))), .val (.int 0)] (hb hby d25_39) rfl rfl ?_
  refine P.iloadN X5 hx 42 (hb hby d25_41) rfl rfl ?_
  refine P.istoreN X5 hx 43 #[.val (.int (-(Int32.ofNat ((n / 100) / 100)))), .val (.int (Int32.ofNat (cs.length + 5))), .val (.ref t), .val (.int (-(Int32.ofNat ((n / 100) / 100)))), .val (.int (Int32.ofNat ((n / 100) % 100))), .val (.int (((Int32.ofNat (cs.length + 5)) + (-1 : Int32)) + (-1 : Int32))), .val (.int 0)] (hb hby d25_42) rfl rfl ?_
  refine P.aloadN X5 hx 44 (hb hby d25_43) rfl rfl rfl ?_
  refine P.iinc X5 hx 47 #[.val (.int (-(Int32.ofNat ((n / 100) / 100)))), .val (.int (Int32.ofNat (cs.length + 5))), .val (.ref t), .val (.int (-(Int32.ofNat ((n / 100) / 100)))), .val (.int (Int32.ofNat ((n / 100) % 100))), .val (.int ((((Int32.ofNat (cs.length + 5)) + (-1 : Int32)) + (-1 : Int32)) + (-1 : Int32))), .val (.int 0)] (hb hby d25_44) rfl rfl rfl ?_
  refine P.iload X5 hx 49 (hb hby d25_47) rfl rfl ?_
  refine X5.getS hx (w155 cx) Via.refl (S_DO cx) (hb hby d25_49) ?_
  intro T7 X7
  refine P.iload X7 hx 54 (hb hby d25_52) rfl rfl ?_
  refine WS.bld X7 hx ((A_DO cx).ext X7.old.2) (j := (Int32.ofNat ((n / 100) % 100))) (x := (Int32.ofNat (48 + ((n / 100) % 100) % 10))) (dgI (by omega)) (digOE (by omega)) (hb hby d25_54) ?_
  refine X7.stM hx G5 (L' := [(0 : Int32), 0, (Int32.ofNat (48 + ((n / 100) % 100) % 10)), (Int32.ofNat (48 + (n % 100) / 10)), (Int32.ofNat (48 + (n % 100) % 10))]) (d := (Int32.ofNat (48 + ((n / 100) % 100) % 10))) (i := 2) j2 rfl (nlt rfl) rfl hB1 hc P1 (hb hby d25_55) ?_
  intro T8 h8 X8 J8 G8
  have K9 : Keep h h8 [t] := K6.trans J8 (allS (Or.inl (mg 0 rfl)) all0)
  refine P.aloadN X8 hx 57 (hb hby d25_56) rfl rfl rfl ?_
  refine P.iinc X8 hx 60 #[.val (.int (-(Int32.ofNat ((n / 100) / 100)))), .val (.int (Int32.ofNat (cs.length + 5))), .val (.ref t), .val (.int (-(Int32.ofNat ((n / 100) / 100)))), .val (.int (Int32.ofNat ((n / 100) % 100))), .val (.int (((((Int32.ofNat (cs.length + 5)) + (-1 : Int32)) + (-1 : Int32)) + (-1 : Int32)) + (-1 : Int32))), .val (.int 0)] (hb hby d25_57) rfl rfl rfl ?_
  refine P.iload X8 hx 62 (hb hby d25_60) rfl rfl ?_
  refine X8.getS hx (w237 cx) Via.refl (S_DT cx) (hb hby d25_62) ?_
  intro T10 X10
  refine P.iload X10 hx 67 (hb hby d25_65) rfl rfl ?_
  refine WS.bld X10 hx ((A_DT cx).ext X10.old.2) (j := (Int32.ofNat ((n / 100) % 100))) (x := (Int32.ofNat (48 + ((n / 100) % 100) / 10))) (dgI (by omega)) (digTE (by omega)) (hb hby d25_67) ?_
  refine X10.stM hx G8 (L' := [(0 : Int32), (Int32.ofNat (48 + ((n / 100) % 100) / 10)), (Int32.ofNat (48 + ((n / 100) % 100) % 10)), (Int32.ofNat (48 + (n % 100) / 10)), (Int32.ofNat (48 + (n % 100) % 10))]) (d := (Int32.ofNat (48 + ((n / 100) % 100) / 10))) (i := 1) j1 rfl (nlt rfl) rfl hB1 hc P1 (hb hby d25_68) ?_
  intro T11 h11 X11 J11 G11
  have K12 : Keep h h11 [t] := K9.trans J11 (allS (Or.inl (mg 0 rfl)) all0)
  refine P.goto X11 hx 22 (hb hby d25_69) (by decide) (by decide) ?_
  refine P.iloadN X11 hx 23 (hb hby d25_22) rfl rfl ?_
  refine P.bipush X11 hx 25 (-100) (hb hby d25_23) rfl rfl ?_
  refine P.icmpYes X11 hx 72 (hb hby d25_25) (tlt ((ngL (k := 100) (by decide) (by omega)).mpr (by omega))).2.2.1 (by decide) (by decide) ?_
  refine P.aloadN X11 hx 73 (hb hby d25_72) rfl rfl rfl ?_
  refine P.iinc X11 hx 76 #[.val (.int (-(Int32.ofNat ((n / 100) / 100)))), .val (.int (Int32.ofNat (cs.length + 5))), .val (.ref t), .val (.int (-(Int32.ofNat ((n / 100) / 100)))), .val (.int (Int32.ofNat ((n / 100) % 100))), .val (.int ((((((Int32.ofNat (cs.length + 5)) + (-1 : Int32)) + (-1 : Int32)) + (-1 : Int32)) + (-1 : Int32)) + (-1 : Int32))), .val (.int 0)] (hb hby d25_73) rfl rfl rfl ?_
  refine P.iload X11 hx 78 (hb hby d25_76) rfl rfl ?_
  refine X11.getS hx (w155 cx) Via.refl (S_DO cx) (hb hby d25_78) ?_
  intro T13 X13
  refine P.iloadN X13 hx 82 (hb hby d25_81) rfl rfl ?_
  refine P.ineg X13 hx 83 (z := (Int32.ofNat ((n / 100) / 100))) (hb hby d25_82) (Int32.neg_neg) rfl ?_
  refine WS.bld X13 hx ((A_DO cx).ext X13.old.2) (j := (Int32.ofNat ((n / 100) / 100))) (x := (Int32.ofNat (48 + ((n / 100) / 100) % 10))) (dgI (by omega)) (digOE (by omega)) (hb hby d25_83) ?_
  refine X13.stM hx G11 (L' := [(Int32.ofNat (48 + ((n / 100) / 100) % 10)), (Int32.ofNat (48 + ((n / 100) % 100) / 10)), (Int32.ofNat (48 + ((n / 100) % 100) % 10)), (Int32.ofNat (48 + (n % 100) / 10)), (Int32.ofNat (48 + (n % 100) % 10))]) (d := (Int32.ofNat (48 + ((n / 100) / 100) % 10))) (i := 0) j0 rfl (nlt rfl) rfl hB1 hc P1 (hb hby d25_84) ?_
  intro T14 h14 X14 J14 G14
  have K15 : Keep h h14 [t] := K12.trans J14 (allS (Or.inl (mg 0 rfl)) all0)
  refine P.iloadN X14 hx 86 (hb hby d25_85) rfl rfl ?_
  refine P.bipush X14 hx 88 (-9) (hb hby d25_86) rfl rfl ?_
  refine P.icmpYes X14 hx 104 (hb hby d25_88) (flt ((not_congr (ngG (k := 9) (by decide) (by omega))).mpr (by omega))).2.1 (by decide) (by decide) ?_
  refine P.iload X14 hx 106 (hb hby d25_104) rfl rfl ?_
  refine P.ifYes X14 hx 118 (hb hby d25_106) (by decide) (by decide) (by decide) ?_
  refine P.iload X14 hx 120 (hb hby d25_118) rfl rfl ?_
  have V16 : Arv Z h14 t kt .byte (Int32.ofNat cap) (lat (cs ++ digs n 5)) (.int 0) := by have q := G14; rw [show [(Int32.ofNat (48 + ((n / 100) / 100) % 10)), (Int32.ofNat (48 + ((n / 100) % 100) / 10)), (Int32.ofNat (48 + ((n / 100) % 100) % 10)), (Int32.ofNat (48 + (n % 100) / 10)), (Int32.ofNat (48 + (n % 100) % 10))] = digs n 5 from (gd5 rl ru)] at q; exact q
  exact WS.retI X14 (WL' := []) (FL' := []) hx hret hlk (hb hby d25_120) (nle rfl) (nle rfl) ⟨(by rw [j0] <;> rfl), rfl, rfl, K15, V16⟩
def Q_asbapi1 (Z : State) (gC : Int32) (gF : Value) (v_DO : Addr) (k_DO : ClassId) (v_DT : Addr) (k_DT : ClassId) (x : Addr) (t : Addr) (cap : Nat) (cs : List Int32) (n : Nat) (h : Heap) (v : Option Value) (h' : Heap) (WL' FL' : List Addr) : Prop := v = some (.ref x) ∧ WL' = [] ∧ FL' = [] ∧ Keep h h' [x, t] ∧ SB Z h' x t cap (cs ++ digs n 1)
theorem ct_asbapi1 (cx : Cx a0 Z gC gF v_DO k_DO v_DT k_DT) (x : Addr) (t : Addr) (cap : Nat) (cs : List Int32) (n : Nat) (h : Heap) (WL FL : List Addr) (P0 : SB Z h x t cap cs) (P1 : x ∈ WL) (P2 : t ∈ WL) (hxt : x ≠ t) (hB1 : cs.length + 1 ≤ cap) (rl : 0 ≤ n) (ru : n < 10) :
    Ct l Z EL1 n0 (⟨"java/lang/AbstractStringBuilder", "append", "(I)Ljava/lang/AbstractStringBuilder;"⟩ : MethodName) jdk_68_method_32_code 4 (Option.some (FieldType.object "java/lang/AbstractStringBuilder")) ({ frames := 1, cells := 0, slots := 0, locals := 18 } : Room) #[(.ref x), (.int (Int32.ofNat n))] h WL FL (Q_asbapi1 Z gC gF v_DO k_DO v_DT k_DT x t cap cs n h) := by
  refine Ct.of (plainFor_of_name pn1) ?_
  intro p e s m below meth c s1 hx hby hml hnm hret hlk X0
  refine Wo.cast (f' := (mkF m 0 #[.val (.ref x), .val (.int (Int32.ofNat n)), .unset, .unset] [])) (by rfl) ?_
  have K0 : Keep h h [x, t] := Keep.refl _ _
  show Wo _ _ _ _ _ _ _ _ _ _ _ s1 (mkF m 0 #[.val (.ref x), .val (.int (Int32.ofNat n)), .unset, .unset] [])
  refine P.aloadN X0 hx 1 (hb hby d22_0) rfl rfl rfl ?_
  obtain ⟨k1, A1⟩ := P0.2.2.2.2.1
  refine X0.getF hx (host := "") (Or.inl (w107 cx)) Via.refl P0.2.2.2.1 (hb hby d22_1) ?_
  intro T2 X2
  refine P.istoreN X2 hx 5 #[.val (.ref x), .val (.int (Int32.ofNat n)), .val (.int (Int32.ofNat cs.length)), .unset] (hb hby d22_4) rfl rfl ?_
  refine P.iloadN X2 hx 6 (hb hby d22_5) rfl rfl ?_
  refine P.iloadN X2 hx 7 (hb hby d22_6) rfl rfl ?_
  refine X2.callS hx (w143 cx) (w144 cx) (w145 cx) (w146 cx) (by decide) (Ct.pay (W := 1) (ct_ssz1 cx n h _ _ rl ru) (w146 cx) (w145 cx) (nle rfl) (nle rfl)) (by rw [hml]; rfl) (argsL := [.int (Int32.ofNat n)]) (rest := [.int (Int32.ofNat cs.length)]) (lenOf pd15 rfl) rfl rfl (Nat.le_of_eq rfl) (hb hby d22_7) (nle rfl) (nle rfl) ?_
  rintro T3 h3 _ _ _ X3 ⟨rfl, rfl, rfl, J3⟩
  rw [J3] at X3
  refine P.iadd X3 hx 11 (z := (Int32.ofNat (cs.length + 1))) (hb hby d22_10) (oAd _ 1) rfl ?_
  refine P.istoreN X3 hx 12 #[.val (.ref x), .val (.int (Int32.ofNat n)), .val (.int (Int32.ofNat cs.length)), .val (.int (Int32.ofNat (cs.length + 1)))] (hb hby d22_11) rfl rfl ?_
  refine P.aloadN X3 hx 13 (hb hby d22_12) rfl rfl rfl ?_
  refine P.iloadN X3 hx 14 (hb hby d22_13) rfl rfl ?_
  refine X3.callV hx (w109 cx) (declM (w110 cx) (w113 cx)) (w112 cx) (w110 cx) (fun _ hZ => nf hZ (w112 cx)) (by decide) P0.1 (Ct.pay (W := 0) (ct_enscap cx x t k1 cap cs (Int32.ofNat (cs.length + 1)) h _ _ P0.2.1 P0.2.2.1 A1 (oNo hB1 (Nat.lt_of_le_of_lt P0.2.2.2.2.2.2.2.1 (by decide)))) (w113 cx) (w49 cx) (nle rfl) (nle rfl)) (by rw [hml]; rfl) (argsL := [.int (Int32.ofNat (cs.length + 1))]) (rest := []) (lenOf pd5 rfl) rfl rfl (Nat.le_of_eq rfl) (hb hby d22_14) (nle rfl) (nle rfl) ?_
  rintro T4 h4 _ _ _ X4 ⟨rfl, rfl, rfl, J4⟩
  rw [J4] at X4
  refine P.aloadN X4 hx 18 (hb hby d22_17) rfl rfl rfl ?_
  refine X4.callV hx (w147 cx) (w148 cx) (w150 cx) (w149 cx) (fun _ hZ => nf hZ (w150 cx)) (by decide) P0.1 (Ct.pay (W := 0) (ct_asblat cx x h _ _ P0.2.2.1) (w151 cx) (w49 cx) (nle rfl) (nle rfl)) (by rw [hml]; rfl) (argsL := []) (rest := []) (lenOf pd12 rfl) rfl rfl (Nat.le_of_eq rfl) (hb hby d22_18) (nle rfl) (nle rfl) ?_
  rintro T5 h5 _ _ _ X5 ⟨rfl, rfl, rfl, J5⟩
  rw [J5] at X5
  refine P.ifNo X5 hx 24 (hb hby d22_21) (by decide) rfl ?_
  refine P.iloadN X5 hx 25 (hb hby d22_24) rfl rfl ?_
  refine P.iloadN X5 hx 26 (hb hby d22_25) rfl rfl ?_
  refine P.aloadN X5 hx 27 (hb hby d22_26) rfl rfl rfl ?_
  refine X5.getF hx (host := "") (Or.inl (w53 cx)) Via.refl P0.2.1 (hb hby d22_27) ?_
  intro T6 X6
  refine X6.callS hx (w152 cx) (w153 cx) (w145 cx) (w154 cx) (by decide) (Ct.pay (W := 0) (ct_gch1 cx n t k1 cap cs h _ _ A1 P2 hB1 P0.2.2.2.2.2.2.2.1 rl ru) (w154 cx) (w145 cx) (nle rfl) (nle rfl)) (by rw [hml]; rfl) (argsL := [.int (Int32.ofNat n), .int (Int32.ofNat (cs.length + 1)), .ref t]) (rest := []) (lenOf pd16 rfl) rfl rfl (Nat.le_of_eq rfl) (hb hby d22_30) (nle rfl) (nle rfl) ?_
  rintro T7 h7 _ _ _ X7 ⟨rfl, rfl, rfl, J7, G8⟩
  have K9 : Keep h h7 [x, t] := K0.trans J7 (allS (Or.inl (mg 1 rfl)) all0)
  refine P.pop X7 hx 34 (hb hby d22_33) rfl rfl ?_
  refine P.goto X7 hx 48 (hb hby d22_34) (by decide) (by decide) ?_
  refine P.aloadN X7 hx 49 (hb hby d22_48) rfl rfl rfl ?_
  refine P.iloadN X7 hx 50 (hb hby d22_49) rfl rfl ?_
  have F10 := P0.2.2.2.1.keep J7 (ninS hxt nin0)
  have F11 := P0.1.keep J7
  refine X7.putF hx (host := "") (Or.inl (w107 cx)) Via.refl F10 F11 (Or.inl (w108 cx)) (w40 cx) (ty := .int) (by decide) rfl rfl P1 (hb hby d22_50) ?_
  intro T12 h12 X12 W12 G12
  have K13 : Keep h h12 [x, t] := K9.wr W12 (Or.inl (mg 0 rfl))
  refine P.aloadN X12 hx 54 (hb hby d22_53) rfl rfl rfl ?_
  have F14 := F11.wr W12
  have F15 := (P0.2.1.keep J7 (ninS hxt nin0)).other W12 (Or.inr (slot_ne (Or.inl (w54 cx)) (Or.inl (w108 cx)) (by decide) (t := (.array .byte)) (t' := .int) (by decide) (by decide)))
  have F16 := (P0.2.2.1.keep J7 (ninS hxt nin0)).other W12 (Or.inr (slot_ne (Or.inl (w56 cx)) (Or.inl (w108 cx)) (by decide) (t := .byte) (t' := .int) (by decide) (by decide)))
  have F17 := G8.other W12 (Ne.symm hxt)
  have F18 := (P0.2.2.2.2.2.2.2.2.keep J7).wr W12
  have S19 : SB Z h12 x t cap (cs ++ digs n 1) := ⟨F14, F15, F16, (by rw [List.length_append, digs_len]; exact G12), ⟨_, F17⟩, fun c hc => (List.mem_append.mp hc).elim (P0.2.2.2.2.2.1 c) (digs_rng n 1 c), by rw [List.length_append, digs_len]; exact hB1, P0.2.2.2.2.2.2.2.1, F18⟩
  exact WS.retA X12 (WL' := []) (FL' := []) hx hret rfl rfl hlk (hb hby d22_54) (nle rfl) (nle rfl) ⟨rfl, rfl, rfl, K13, S19⟩
def Q_asbapi2 (Z : State) (gC : Int32) (gF : Value) (v_DO : Addr) (k_DO : ClassId) (v_DT : Addr) (k_DT : ClassId) (x : Addr) (t : Addr) (cap : Nat) (cs : List Int32) (n : Nat) (h : Heap) (v : Option Value) (h' : Heap) (WL' FL' : List Addr) : Prop := v = some (.ref x) ∧ WL' = [] ∧ FL' = [] ∧ Keep h h' [x, t] ∧ SB Z h' x t cap (cs ++ digs n 2)
theorem ct_asbapi2 (cx : Cx a0 Z gC gF v_DO k_DO v_DT k_DT) (x : Addr) (t : Addr) (cap : Nat) (cs : List Int32) (n : Nat) (h : Heap) (WL FL : List Addr) (P0 : SB Z h x t cap cs) (P1 : x ∈ WL) (P2 : t ∈ WL) (hxt : x ≠ t) (hB1 : cs.length + 2 ≤ cap) (rl : 10 ≤ n) (ru : n < 100) :
    Ct l Z EL1 n0 (⟨"java/lang/AbstractStringBuilder", "append", "(I)Ljava/lang/AbstractStringBuilder;"⟩ : MethodName) jdk_68_method_32_code 4 (Option.some (FieldType.object "java/lang/AbstractStringBuilder")) ({ frames := 1, cells := 0, slots := 0, locals := 18 } : Room) #[(.ref x), (.int (Int32.ofNat n))] h WL FL (Q_asbapi2 Z gC gF v_DO k_DO v_DT k_DT x t cap cs n h) := by
  refine Ct.of (plainFor_of_name pn1) ?_
  intro p e s m below meth c s1 hx hby hml hnm hret hlk X0
  refine Wo.cast (f' := (mkF m 0 #[.val (.ref x), .val (.int (Int32.ofNat n)), .unset, .unset] [])) (by rfl) ?_
  have K0 : Keep h h [x, t] := Keep.refl _ _
  show Wo _ _ _ _ _ _ _ _ _ _ _ s1 (mkF m 0 #[.val (.ref x), .val (.int (Int32.ofNat n)), .unset, .unset] [])
  refine P.aloadN X0 hx 1 (hb hby d22_0) rfl rfl rfl ?_
  obtain ⟨k1, A1⟩ := P0.2.2.2.2.1
  refine X0.getF hx (host := "") (Or.inl (w107 cx)) Via.refl P0.2.2.2.1 (hb hby d22_1) ?_
  intro T2 X2
  refine P.istoreN X2 hx 5 #[.val (.ref x), .val (.int (Int32.ofNat n)), .val (.int (Int32.ofNat cs.length)), .unset] (hb hby d22_4) rfl rfl ?_
  refine P.iloadN X2 hx 6 (hb hby d22_5) rfl rfl ?_
  refine P.iloadN X2 hx 7 (hb hby d22_6) rfl rfl ?_
  refine X2.callS hx (w143 cx) (w144 cx) (w145 cx) (w146 cx) (by decide) (Ct.pay (W := 1) (ct_ssz2 cx n h _ _ rl ru) (w146 cx) (w145 cx) (nle rfl) (nle rfl)) (by rw [hml]; rfl) (argsL := [.int (Int32.ofNat n)]) (rest := [.int (Int32.ofNat cs.length)]) (lenOf pd15 rfl) rfl rfl (Nat.le_of_eq rfl) (hb hby d22_7) (nle rfl) (nle rfl) ?_
  rintro T3 h3 _ _ _ X3 ⟨rfl, rfl, rfl, J3⟩
  rw [J3] at X3
  refine P.iadd X3 hx 11 (z := (Int32.ofNat (cs.length + 2))) (hb hby d22_10) (oAd _ 2) rfl ?_
  refine P.istoreN X3 hx 12 #[.val (.ref x), .val (.int (Int32.ofNat n)), .val (.int (Int32.ofNat cs.length)), .val (.int (Int32.ofNat (cs.length + 2)))] (hb hby d22_11) rfl rfl ?_
  refine P.aloadN X3 hx 13 (hb hby d22_12) rfl rfl rfl ?_
  refine P.iloadN X3 hx 14 (hb hby d22_13) rfl rfl ?_
  refine X3.callV hx (w109 cx) (declM (w110 cx) (w113 cx)) (w112 cx) (w110 cx) (fun _ hZ => nf hZ (w112 cx)) (by decide) P0.1 (Ct.pay (W := 0) (ct_enscap cx x t k1 cap cs (Int32.ofNat (cs.length + 2)) h _ _ P0.2.1 P0.2.2.1 A1 (oNo hB1 (Nat.lt_of_le_of_lt P0.2.2.2.2.2.2.2.1 (by decide)))) (w113 cx) (w49 cx) (nle rfl) (nle rfl)) (by rw [hml]; rfl) (argsL := [.int (Int32.ofNat (cs.length + 2))]) (rest := []) (lenOf pd5 rfl) rfl rfl (Nat.le_of_eq rfl) (hb hby d22_14) (nle rfl) (nle rfl) ?_
  rintro T4 h4 _ _ _ X4 ⟨rfl, rfl, rfl, J4⟩
  rw [J4] at X4
  refine P.aloadN X4 hx 18 (hb hby d22_17) rfl rfl rfl ?_
  refine X4.callV hx (w147 cx) (w148 cx) (w150 cx) (w149 cx) (fun _ hZ => nf hZ (w150 cx)) (by decide) P0.1 (Ct.pay (W := 0) (ct_asblat cx x h _ _ P0.2.2.1) (w151 cx) (w49 cx) (nle rfl) (nle rfl)) (by rw [hml]; rfl) (argsL := []) (rest := []) (lenOf pd12 rfl) rfl rfl (Nat.le_of_eq rfl) (hb hby d22_18) (nle rfl) (nle rfl) ?_
  rintro T5 h5 _ _ _ X5 ⟨rfl, rfl, rfl, J5⟩
  rw [J5] at X5
  refine P.ifNo X5 hx 24 (hb hby d22_21) (by decide) rfl ?_
  refine P.iloadN X5 hx 25 (hb hby d22_24) rfl rfl ?_
  refine P.iloadN X5 hx 26 (hb hby d22_25) rfl rfl ?_
  refine P.aloadN X5 hx 27 (hb hby d22_26) rfl rfl rfl ?_
  refine X5.getF hx (host := "") (Or.inl (w53 cx)) Via.refl P0.2.1 (hb hby d22_27) ?_
  intro T6 X6
  refine X6.callS hx (w152 cx) (w153 cx) (w145 cx) (w154 cx) (by decide) (Ct.pay (W := 0) (ct_gch2 cx n t k1 cap cs h _ _ A1 P2 hB1 P0.2.2.2.2.2.2.2.1 rl ru) (w154 cx) (w145 cx) (nle rfl) (nle rfl)) (by rw [hml]; rfl) (argsL := [.int (Int32.ofNat n), .int (Int32.ofNat (cs.length + 2)), .ref t]) (rest := []) (lenOf pd16 rfl) rfl rfl (Nat.le_of_eq rfl) (hb hby d22_30) (nle rfl) (nle rfl) ?_
  rintro T7 h7 _ _ _ X7 ⟨rfl, rfl, rfl, J7, G8⟩
  have K9 : Keep h h7 [x, t] := K0.trans J7 (allS (Or.inl (mg 1 rfl)) all0)
  refine P.pop X7 hx 34 (hb hby d22_33) rfl rfl ?_
  refine P.goto X7 hx 48 (hb hby d22_34) (by decide) (by decide) ?_
  refine P.aloadN X7 hx 49 (hb hby d22_48) rfl rfl rfl ?_
  refine P.iloadN X7 hx 50 (hb hby d22_49) rfl rfl ?_
  have F10 := P0.2.2.2.1.keep J7 (ninS hxt nin0)
  have F11 := P0.1.keep J7
  refine X7.putF hx (host := "") (Or.inl (w107 cx)) Via.refl F10 F11 (Or.inl (w108 cx)) (w40 cx) (ty := .int) (by decide) rfl rfl P1 (hb hby d22_50) ?_
  intro T12 h12 X12 W12 G12
  have K13 : Keep h h12 [x, t] := K9.wr W12 (Or.inl (mg 0 rfl))
  refine P.aloadN X12 hx 54 (hb hby d22_53) rfl rfl rfl ?_
  have F14 := F11.wr W12
  have F15 := (P0.2.1.keep J7 (ninS hxt nin0)).other W12 (Or.inr (slot_ne (Or.inl (w54 cx)) (Or.inl (w108 cx)) (by decide) (t := (.array .byte)) (t' := .int) (by decide) (by decide)))
  have F16 := (P0.2.2.1.keep J7 (ninS hxt nin0)).other W12 (Or.inr (slot_ne (Or.inl (w56 cx)) (Or.inl (w108 cx)) (by decide) (t := .byte) (t' := .int) (by decide) (by decide)))
  have F17 := G8.other W12 (Ne.symm hxt)
  have F18 := (P0.2.2.2.2.2.2.2.2.keep J7).wr W12
  have S19 : SB Z h12 x t cap (cs ++ digs n 2) := ⟨F14, F15, F16, (by rw [List.length_append, digs_len]; exact G12), ⟨_, F17⟩, fun c hc => (List.mem_append.mp hc).elim (P0.2.2.2.2.2.1 c) (digs_rng n 2 c), by rw [List.length_append, digs_len]; exact hB1, P0.2.2.2.2.2.2.2.1, F18⟩
  exact WS.retA X12 (WL' := []) (FL' := []) hx hret rfl rfl hlk (hb hby d22_54) (nle rfl) (nle rfl) ⟨rfl, rfl, rfl, K13, S19⟩
def Q_asbapi3 (Z : State) (gC : Int32) (gF : Value) (v_DO : Addr) (k_DO : ClassId) (v_DT : Addr) (k_DT : ClassId) (x : Addr) (t : Addr) (cap : Nat) (cs : List Int32) (n : Nat) (h : Heap) (v : Option Value) (h' : Heap) (WL' FL' : List Addr) : Prop := v = some (.ref x) ∧ WL' = [] ∧ FL' = [] ∧ Keep h h' [x, t] ∧ SB Z h' x t cap (cs ++ digs n 3)
theorem ct_asbapi3 (cx : Cx a0 Z gC gF v_DO k_DO v_DT k_DT) (x : Addr) (t : Addr) (cap : Nat) (cs : List Int32) (n : Nat) (h : Heap) (WL FL : List Addr) (P0 : SB Z h x t cap cs) (P1 : x ∈ WL) (P2 : t ∈ WL) (hxt : x ≠ t) (hB1 : cs.length + 3 ≤ cap) (rl : 100 ≤ n) (ru : n < 1000) :
    Ct l Z EL1 n0 (⟨"java/lang/AbstractStringBuilder", "append", "(I)Ljava/lang/AbstractStringBuilder;"⟩ : MethodName) jdk_68_method_32_code 4 (Option.some (FieldType.object "java/lang/AbstractStringBuilder")) ({ frames := 1, cells := 0, slots := 0, locals := 18 } : Room) #[(.ref x), (.int (Int32.ofNat n))] h WL FL (Q_asbapi3 Z gC gF v_DO k_DO v_DT k_DT x t cap cs n h) := by
  refine Ct.of (plainFor_of_name pn1) ?_
  intro p e s m below meth c s1 hx hby hml hnm hret hlk X0
  refine Wo.cast (f' := (mkF m 0 #[.val (.ref x), .val (.int (Int32.ofNat n)), .unset, .unset] [])) (by rfl) ?_
  have K0 : Keep h h [x, t] := Keep.refl _ _
  show Wo _ _ _ _ _ _ _ _ _ _ _ s1 (mkF m 0 #[.val (.ref x), .val (.int (Int32.ofNat n)), .unset, .unset] [])
  refine P.aloadN X0 hx 1 (hb hby d22_0) rfl rfl rfl ?_
  obtain ⟨k1, A1⟩ := P0.2.2.2.2.1
  refine X0.getF hx (host := "") (Or.inl (w107 cx)) Via.refl P0.2.2.2.1 (hb hby d22_1) ?_
  intro T2 X2
  refine P.istoreN X2 hx 5 #[.val (.ref x), .val (.int (Int32.ofNat n)), .val (.int (Int32.ofNat cs.length)), .unset] (hb hby d22_4) rfl rfl ?_
  refine P.iloadN X2 hx 6 (hb hby d22_5) rfl rfl ?_
  refine P.iloadN X2 hx 7 (hb hby d22_6) rfl rfl ?_
  refine X2.callS hx (w143 cx) (w144 cx) (w145 cx) (w146 cx) (by decide) (Ct.pay (W := 1) (ct_ssz3 cx n h _ _ rl ru) (w146 cx) (w145 cx) (nle rfl) (nle rfl)) (by rw [hml]; rfl) (argsL := [.int (Int32.ofNat n)]) (rest := [.int (Int32.ofNat cs.length)]) (lenOf pd15 rfl) rfl rfl (Nat.le_of_eq rfl) (hb hby d22_7) (nle rfl) (nle rfl) ?_
  rintro T3 h3 _ _ _ X3 ⟨rfl, rfl, rfl, J3⟩
  rw [J3] at X3
  refine P.iadd X3 hx 11 (z := (Int32.ofNat (cs.length + 3))) (hb hby d22_10) (oAd _ 3) rfl ?_
  refine P.istoreN X3 hx 12 #[.val (.ref x), .val (.int (Int32.ofNat n)), .val (.int (Int32.ofNat cs.length)), .val (.int (Int32.ofNat (cs.length + 3)))] (hb hby d22_11) rfl rfl ?_
  refine P.aloadN X3 hx 13 (hb hby d22_12) rfl rfl rfl ?_
  refine P.iloadN X3 hx 14 (hb hby d22_13) rfl rfl ?_
  refine X3.callV hx (w109 cx) (declM (w110 cx) (w113 cx)) (w112 cx) (w110 cx) (fun _ hZ => nf hZ (w112 cx)) (by decide) P0.1 (Ct.pay (W := 0) (ct_enscap cx x t k1 cap cs (Int32.ofNat (cs.length + 3)) h _ _ P0.2.1 P0.2.2.1 A1 (oNo hB1 (Nat.lt_of_le_of_lt P0.2.2.2.2.2.2.2.1 (by decide)))) (w113 cx) (w49 cx) (nle rfl) (nle rfl)) (by rw [hml]; rfl) (argsL := [.int (Int32.ofNat (cs.length + 3))]) (rest := []) (lenOf pd5 rfl) rfl rfl (Nat.le_of_eq rfl) (hb hby d22_14) (nle rfl) (nle rfl) ?_
  rintro T4 h4 _ _ _ X4 ⟨rfl, rfl, rfl, J4⟩
  rw [J4] at X4
  refine P.aloadN X4 hx 18 (hb hby d22_17) rfl rfl rfl ?_
  refine X4.callV hx (w147 cx) (w148 cx) (w150 cx) (w149 cx) (fun _ hZ => nf hZ (w150 cx)) (by decide) P0.1 (Ct.pay (W := 0) (ct_asblat cx x h _ _ P0.2.2.1) (w151 cx) (w49 cx) (nle rfl) (nle rfl)) (by rw [hml]; rfl) (argsL := []) (rest := []) (lenOf pd12 rfl) rfl rfl (Nat.le_of_eq rfl) (hb hby d22_18) (nle rfl) (nle rfl) ?_
  rintro T5 h5 _ _ _ X5 ⟨rfl, rfl, rfl, J5⟩
  rw [J5] at X5
  refine P.ifNo X5 hx 24 (hb hby d22_21) (by decide) rfl ?_
  refine P.iloadN X5 hx 25 (hb hby d22_24) rfl rfl ?_
  refine P.iloadN X5 hx 26 (hb hby d22_25) rfl rfl ?_
  refine P.aloadN X5 hx 27 (hb hby d22_26) rfl rfl rfl ?_
  refine X5.getF hx (host := "") (Or.inl (w53 cx)) Via.refl P0.2.1 (hb hby d22_27) ?_
  intro T6 X6
  refine X6.callS hx (w152 cx) (w153 cx) (w145 cx) (w154 cx) (by decide) (Ct.pay (W := 0) (ct_gch3 cx n t k1 cap cs h _ _ A1 P2 hB1 P0.2.2.2.2.2.2.2.1 rl ru) (w154 cx) (w145 cx) (nle rfl) (nle rfl)) (by rw [hml]; rfl) (argsL := [.int (Int32.ofNat n), .int (Int32.ofNat (cs.length + 3)), .ref t]) (rest := []) (lenOf pd16 rfl) rfl rfl (Nat.le_of_eq rfl) (hb hby d22_30) (nle rfl) (nle rfl) ?_
  rintro T7 h7 _ _ _ X7 ⟨rfl, rfl, rfl, J7, G8⟩
  have K9 : Keep h h7 [x, t] := K0.trans J7 (allS (Or.inl (mg 1 rfl)) all0)
  refine P.pop X7 hx 34 (hb hby d22_33) rfl rfl ?_
  refine P.goto X7 hx 48 (hb hby d22_34) (by decide) (by decide) ?_
  refine P.aloadN X7 hx 49 (hb hby d22_48) rfl rfl rfl ?_
  refine P.iloadN X7 hx 50 (hb hby d22_49) rfl rfl ?_
  have F10 := P0.2.2.2.1.keep J7 (ninS hxt nin0)
  have F11 := P0.1.keep J7
  refine X7.putF hx (host := "") (Or.inl (w107 cx)) Via.refl F10 F11 (Or.inl (w108 cx)) (w40 cx) (ty := .int) (by decide) rfl rfl P1 (hb hby d22_50) ?_
  intro T12 h12 X12 W12 G12
  have K13 : Keep h h12 [x, t] := K9.wr W12 (Or.inl (mg 0 rfl))
  refine P.aloadN X12 hx 54 (hb hby d22_53) rfl rfl rfl ?_
  have F14 := F11.wr W12
  have F15 := (P0.2.1.keep J7 (ninS hxt nin0)).other W12 (Or.inr (slot_ne (Or.inl (w54 cx)) (Or.inl (w108 cx)) (by decide) (t := (.array .byte)) (t' := .int) (by decide) (by decide)))
  have F16 := (P0.2.2.1.keep J7 (ninS hxt nin0)).other W12 (Or.inr (slot_ne (Or.inl (w56 cx)) (Or.inl (w108 cx)) (by decide) (t := .byte) (t' := .int) (by decide) (by decide)))
  have F17 := G8.other W12 (Ne.symm hxt)
  have F18 := (P0.2.2.2.2.2.2.2.2.keep J7).wr W12
  have S19 : SB Z h12 x t cap (cs ++ digs n 3) := ⟨F14, F15, F16, (by rw [List.length_append, digs_len]; exact G12), ⟨_, F17⟩, fun c hc => (List.mem_append.mp hc).elim (P0.2.2.2.2.2.1 c) (digs_rng n 3 c), by rw [List.length_append, digs_len]; exact hB1, P0.2.2.2.2.2.2.2.1, F18⟩
  exact WS.retA X12 (WL' := []) (FL' := []) hx hret rfl rfl hlk (hb hby d22_54) (nle rfl) (nle rfl) ⟨rfl, rfl, rfl, K13, S19⟩
def Q_asbapi4 (Z : State) (gC : Int32) (gF : Value) (v_DO : Addr) (k_DO : ClassId) (v_DT : Addr) (k_DT : ClassId) (x : Addr) (t : Addr) (cap : Nat) (cs : List Int32) (n : Nat) (h : Heap) (v : Option Value) (h' : Heap) (WL' FL' : List Addr) : Prop := v = some (.ref x) ∧ WL' = [] ∧ FL' = [] ∧ Keep h h' [x, t] ∧ SB Z h' x t cap (cs ++ digs n 4)
theorem ct_asbapi4 (cx : Cx a0 Z gC gF v_DO k_DO v_DT k_DT) (x : Addr) (t : Addr) (cap : Nat) (cs : List Int32) (n : Nat) (h : Heap) (WL FL : List Addr) (P0 : SB Z h x t cap cs) (P1 : x ∈ WL) (P2 : t ∈ WL) (hxt : x ≠ t) (hB1 : cs.length + 4 ≤ cap) (rl : 1000 ≤ n) (ru : n < 10000) :
    Ct l Z EL1 n0 (⟨"java/lang/AbstractStringBuilder", "append", "(I)Ljava/lang/AbstractStringBuilder;"⟩ : MethodName) jdk_68_method_32_code 4 (Option.some (FieldType.object "java/lang/AbstractStringBuilder")) ({ frames := 1, cells := 0, slots := 0, locals := 18 } : Room) #[(.ref x), (.int (Int32.ofNat n))] h WL FL (Q_asbapi4 Z gC gF v_DO k_DO v_DT k_DT x t cap cs n h) := by
  refine Ct.of (plainFor_of_name pn1) ?_
  intro p e s m below meth c s1 hx hby hml hnm hret hlk X0
  refine Wo.cast (f' := (mkF m 0 #[.val (.ref x), .val (.int (Int32.ofNat n)), .unset, .unset] [])) (by rfl) ?_
  have K0 : Keep h h [x, t] := Keep.refl _ _
  show Wo _ _ _ _ _ _ _ _ _ _ _ s1 (mkF m 0 #[.val (.ref x), .val (.int (Int32.ofNat n)), .unset, .unset] [])
  refine P.aloadN X0 hx 1 (hb hby d22_0) rfl rfl rfl ?_
  obtain ⟨k1, A1⟩ := P0.2.2.2.2.1
  refine X0.getF hx (host := "") (Or.inl (w107 cx)) Via.refl P0.2.2.2.1 (hb hby d22_1) ?_
  intro T2 X2
  refine P.istoreN X2 hx 5 #[.val (.ref x), .val (.int (Int32.ofNat n)), .val (.int (Int32.ofNat cs.length)), .unset] (hb hby d22_4) rfl rfl ?_
  refine P.iloadN X2 hx 6 (hb hby d22_5) rfl rfl ?_
  refine P.iloadN X2 hx 7 (hb hby d22_6) rfl rfl ?_
  refine X2.callS hx (w143 cx) (w144 cx) (w145 cx) (w146 cx) (by decide) (Ct.pay (W := 1) (ct_ssz4 cx n h _ _ rl ru) (w146 cx) (w145 cx) (nle rfl) (nle rfl)) (by rw [hml]; rfl) (argsL := [.int (Int32.ofNat n)]) (rest := [.int (Int32.ofNat cs.length)]) (lenOf pd15 rfl) rfl rfl (Nat.le_of_eq rfl) (hb hby d22_7) (nle rfl) (nle rfl) ?_
  rintro T3 h3 _ _ _ X3 ⟨rfl, rfl, rfl, J3⟩
  rw [J3] at X3
  refine P.iadd X3 hx 11 (z := (Int32.ofNat (cs.length + 4))) (hb hby d22_10) (oAd _ 4) rfl ?_
  refine P.istoreN X3 hx 12 #[.val (.ref x), .val (.int (Int32.ofNat n)), .val (.int (Int32.ofNat cs.length)), .val (.int (Int32.ofNat (cs.length + 4)))] (hb hby d22_11) rfl rfl ?_
  refine P.aloadN X3 hx 13 (hb hby d22_12) rfl rfl rfl ?_
  refine P.iloadN X3 hx 14 (hb hby d22_13) rfl rfl ?_
  refine X3.callV hx (w109 cx) (declM (w110 cx) (w113 cx)) (w112 cx) (w110 cx) (fun _ hZ => nf hZ (w112 cx)) (by decide) P0.1 (Ct.pay (W := 0) (ct_enscap cx x t k1 cap cs (Int32.ofNat (cs.length + 4)) h _ _ P0.2.1 P0.2.2.1 A1 (oNo hB1 (Nat.lt_of_le_of_lt P0.2.2.2.2.2.2.2.1 (by decide)))) (w113 cx) (w49 cx) (nle rfl) (nle rfl)) (by rw [hml]; rfl) (argsL := [.int (Int32.ofNat (cs.length + 4))]) (rest := []) (lenOf pd5 rfl) rfl rfl (Nat.le_of_eq rfl) (hb hby d22_14) (nle rfl) (nle rfl) ?_
  rintro T4 h4 _ _ _ X4 ⟨rfl, rfl, rfl, J4⟩
  rw [J4] at X4
  refine P.aloadN X4 hx 18 (hb hby d22_17) rfl rfl rfl ?_
  refine X4.callV hx (w147 cx) (w148 cx) (w150 cx) (w149 cx) (fun _ hZ => nf hZ (w150 cx)) (by decide) P0.1 (Ct.pay (W := 0) (ct_asblat cx x h _ _ P0.2.2.1) (w151 cx) (w49 cx) (nle rfl) (nle rfl)) (by rw [hml]; rfl) (argsL := []) (rest := []) (lenOf pd12 rfl) rfl rfl (Nat.le_of_eq rfl) (hb hby d22_18) (nle rfl) (nle rfl) ?_
  rintro T5 h5 _ _ _ X5 ⟨rfl, rfl, rfl, J5⟩
  rw [J5] at X5
  refine P.ifNo X5 hx 24 (hb hby d22_21) (by decide) rfl ?_
  refine P.iloadN X5 hx 25 (hb hby d22_24) rfl rfl ?_
  refine P.iloadN X5 hx 26 (hb hby d22_25) rfl rfl ?_
  refine P.aloadN X5 hx 27 (hb hby d22_26) rfl rfl rfl ?_
  refine X5.getF hx (host := "") (Or.inl (w53 cx)) Via.refl P0.2.1 (hb hby d22_27) ?_
  intro T6 X6
  refine X6.callS hx (w152 cx) (w153 cx) (w145 cx) (w154 cx) (by decide) (Ct.pay (W := 0) (ct_gch4 cx n t k1 cap cs h _ _ A1 P2 hB1 P0.2.2.2.2.2.2.2.1 rl ru) (w154 cx) (w145 cx) (nle rfl) (nle rfl)) (by rw [hml]; rfl) (argsL := [.int (Int32.ofNat n), .int (Int32.ofNat (cs.length + 4)), .ref t]) (rest := []) (lenOf pd16 rfl) rfl rfl (Nat.le_of_eq rfl) (hb hby d22_30) (nle rfl) (nle rfl) ?_
  rintro T7 h7 _ _ _ X7 ⟨rfl, rfl, rfl, J7, G8⟩
  have K9 : Keep h h7 [x, t] := K0.trans J7 (allS (Or.inl (mg 1 rfl)) all0)
  refine P.pop X7 hx 34 (hb hby d22_33) rfl rfl ?_
  refine P.goto X7 hx 48 (hb hby d22_34) (by decide) (by decide) ?_
  refine P.aloadN X7 hx 49 (hb hby d22_48) rfl rfl rfl ?_
  refine P.iloadN X7 hx 50 (hb hby d22_49) rfl rfl ?_
  have F10 := P0.2.2.2.1.keep J7 (ninS hxt nin0)
  have F11 := P0.1.keep J7
  refine X7.putF hx (host := "") (Or.inl (w107 cx)) Via.refl F10 F11 (Or.inl (w108 cx)) (w40 cx) (ty := .int) (by decide) rfl rfl P1 (hb hby d22_50) ?_
  intro T12 h12 X12 W12 G12
  have K13 : Keep h h12 [x, t] := K9.wr W12 (Or.inl (mg 0 rfl))
  refine P.aloadN X12 hx 54 (hb hby d22_53) rfl rfl rfl ?_
  have F14 := F11.wr W12
  have F15 := (P0.2.1.keep J7 (ninS hxt nin0)).other W12 (Or.inr (slot_ne (Or.inl (w54 cx)) (Or.inl (w108 cx)) (by decide) (t := (.array .byte)) (t' := .int) (by decide) (by decide)))
  have F16 := (P0.2.2.1.keep J7 (ninS hxt nin0)).other W12 (Or.inr (slot_ne (Or.inl (w56 cx)) (Or.inl (w108 cx)) (by decide) (t := .byte) (t' := .int) (by decide) (by decide)))
  have F17 := G8.other W12 (Ne.symm hxt)
  have F18 := (P0.2.2.2.2.2.2.2.2.keep J7).wr W12
  have S19 : SB Z h12 x t cap (cs ++ digs n 4) := ⟨F14, F15, F16, (by rw [List.length_append, digs_len]; exact G12), ⟨_, F17⟩, fun c hc => (List.mem_append.mp hc).elim (P0.2.2.2.2.2.1 c) (digs_rng n 4 c), by rw [List.length_append, digs_len]; exact hB1, P0.2.2.2.2.2.2.2.1, F18⟩
  exact WS.retA X12 (WL' := []) (FL' := []) hx hret rfl rfl hlk (hb hby d22_54) (nle rfl) (nle rfl) ⟨rfl, rfl, rfl, K13, S19⟩
def Q_asbapi5 (Z : State) (gC : Int32) (gF : Value) (v_DO : Addr) (k_DO : ClassId) (v_DT : Addr) (k_DT : ClassId) (x : Addr) (t : Addr) (cap : Nat) (cs : List Int32) (n : Nat) (h : Heap) (v : Option Value) (h' : Heap) (WL' FL' : List Addr) : Prop := v = some (.ref x) ∧ WL' = [] ∧ FL' = [] ∧ Keep h h' [x, t] ∧ SB Z h' x t cap (cs ++ digs n 5)
theorem ct_asbapi5 (cx : Cx a0 Z gC gF v_DO k_DO v_DT k_DT) (x : Addr) (t : Addr) (cap : Nat) (cs : List Int32) (n : Nat) (h : Heap) (WL FL : List Addr) (P0 : SB Z h x t cap cs) (P1 : x ∈ WL) (P2 : t ∈ WL) (hxt : x ≠ t) (hB1 : cs.length + 5 ≤ cap) (rl : 10000 ≤ n) (ru : n < 65536) :
    Ct l Z EL1 n0 (⟨"java/lang/AbstractStringBuilder", "append", "(I)Ljava/lang/AbstractStringBuilder;"⟩ : MethodName) jdk_68_method_32_code 4 (Option.some (FieldType.object "java/lang/AbstractStringBuilder")) ({ frames := 1, cells := 0, slots := 0, locals := 18 } : Room) #[(.ref x), (.int (Int32.ofNat n))] h WL FL (Q_asbapi5 Z gC gF v_DO k_DO v_DT k_DT x t cap cs n h) := by
  refine Ct.of (plainFor_of_name pn1) ?_
  intro p e s m below meth c s1 hx hby hml hnm hret hlk X0
  refine Wo.cast (f' := (mkF m 0 #[.val (.ref x), .val (.int (Int32.ofNat n)), .unset, .unset] [])) (by rfl) ?_
  have K0 : Keep h h [x, t] := Keep.refl _ _
  show Wo _ _ _ _ _ _ _ _ _ _ _ s1 (mkF m 0 #[.val (.ref x), .val (.int (Int32.ofNat n)), .unset, .unset] [])
  refine P.aloadN X0 hx 1 (hb hby d22_0) rfl rfl rfl ?_
  obtain ⟨k1, A1⟩ := P0.2.2.2.2.1
  refine X0.getF hx (host := "") (Or.inl (w107 cx)) Via.refl P0.2.2.2.1 (hb hby d22_1) ?_
  intro T2 X2
  refine P.istoreN X2 hx 5 #[.val (.ref x), .val (.int (Int32.ofNat n)), .val (.int (Int32.ofNat cs.length)), .unset] (hb hby d22_4) rfl rfl ?_
  refine P.iloadN X2 hx 6 (hb hby d22_5) rfl rfl ?_
  refine P.iloadN X2 hx 7 (hb hby d22_6) rfl rfl ?_
  refine X2.callS hx (w143 cx) (w144 cx) (w145 cx) (w146 cx) (by decide) (Ct.pay (W := 1) (ct_ssz5 cx n h _ _ rl ru) (w146 cx) (w145 cx) (nle rfl) (nle rfl)) (by rw [hml]; rfl) (argsL := [.int (Int32.ofNat n)]) (rest := [.int (Int32.ofNat cs.length)]) (lenOf pd15 rfl) rfl rfl (Nat.le_of_eq rfl) (hb hby d22_7) (nle rfl) (nle rfl) ?_
  rintro T3 h3 _ _ _ X3 ⟨rfl, rfl, rfl, J3⟩
  rw [J3] at X3
  refine P.iadd X3 hx 11 (z := (Int32.ofNat (cs.length + 5))) (hb hby d22_10) (oAd _ 5) rfl ?_
  refine P.istoreN X3 hx 12 #[.val (.ref x), .val (.int (Int32.ofNat n)), .val (.int (Int32.ofNat cs.length)), .val (.int (Int32.ofNat (cs.length + 5)))] (hb hby d22_11) rfl rfl ?_
  refine P.aloadN X3 hx 13 (hb hby d22_12) rfl rfl rfl ?_
  refine P.iloadN X3 hx 14 (hb hby d22_13) rfl rfl ?_
  refine X3.callV hx (w109 cx) (declM (w110 cx) (w113 cx)) (w112 cx) (w110 cx) (fun _ hZ => nf hZ (w112 cx)) (by decide) P0.1 (Ct.pay (W := 0) (ct_enscap cx x t k1 cap cs (Int32.ofNat (cs.length + 5)) h _ _ P0.2.1 P0.2.2.1 A1 (oNo hB1 (Nat.lt_of_le_of_lt P0.2.2.2.2.2.2.2.1 (by decide)))) (w113 cx) (w49 cx) (nle rfl) (nle rfl)) (by rw [hml]; rfl) (argsL := [.int (Int32.ofNat (cs.length + 5))]) (rest := []) (lenOf pd5 rfl) rfl rfl (Nat.le_of_eq rfl) (hb hby d22_14) (nle rfl) (nle rfl) ?_
  rintro T4 h4 _ _ _ X4 ⟨rfl, rfl, rfl, J4⟩
  rw [J4] at X4
  refine P.aloadN X4 hx 18 (hb hby d22_17) rfl rfl rfl ?_
  refine X4.callV hx (w147 cx) (w148 cx) (w150 cx) (w149 cx) (fun _ hZ => nf hZ (w150 cx)) (by decide) P0.1 (Ct.pay (W := 0) (ct_asblat cx x h _ _ P0.2.2.1) (w151 cx) (w49 cx) (nle rfl) (nle rfl)) (by rw [hml]; rfl) (argsL := []) (rest := []) (lenOf pd12 rfl) rfl rfl (Nat.le_of_eq rfl) (hb hby d22_18) (nle rfl) (nle rfl) ?_
  rintro T5 h5 _ _ _ X5 ⟨rfl, rfl, rfl, J5⟩
  rw [J5] at X5
  refine P.ifNo X5 hx 24 (hb hby d22_21) (by decide) rfl ?_
  refine P.iloadN X5 hx 25 (hb hby d22_24) rfl rfl ?_
  refine P.iloadN X5 hx 26 (hb hby d22_25) rfl rfl ?_
  refine P.aloadN X5 hx 27 (hb hby d22_26) rfl rfl rfl ?_
  refine X5.getF hx (host := "") (Or.inl (w53 cx)) Via.refl P0.2.1 (hb hby d22_27) ?_
  intro T6 X6
  refine X6.callS hx (w152 cx) (w153 cx) (w145 cx) (w154 cx) (by decide) (Ct.pay (W := 0) (ct_gch5 cx n t k1 cap cs h _ _ A1 P2 hB1 P0.2.2.2.2.2.2.2.1 rl ru) (w154 cx) (w145 cx) (nle rfl) (nle rfl)) (by rw [hml]; rfl) (argsL := [.int (Int32.ofNat n), .int (Int32.ofNat (cs.length + 5)), .ref t]) (rest := []) (lenOf pd16 rfl) rfl rfl (Nat.le_of_eq rfl) (hb hby d22_30) (nle rfl) (nle rfl) ?_
  rintro T7 h7 _ _ _ X7 ⟨rfl, rfl, rfl, J7, G8⟩
  have K9 : Keep h h7 [x, t] := K0.trans J7 (allS (Or.inl (mg 1 rfl)) all0)
  refine P.pop X7 hx 34 (hb hby d22_33) rfl rfl ?_
  refine P.goto X7 hx 48 (hb hby d22_34) (by decide) (by decide) ?_
  refine P.aloadN X7 hx 49 (hb hby d22_48) rfl rfl rfl ?_
  refine P.iloadN X7 hx 50 (hb hby d22_49) rfl rfl ?_
  have F10 := P0.2.2.2.1.keep J7 (ninS hxt nin0)
  have F11 := P0.1.keep J7
  refine X7.putF hx (host := "") (Or.inl (w107 cx)) Via.refl F10 F11 (Or.inl (w108 cx)) (w40 cx) (ty := .int) (by decide) rfl rfl P1 (hb hby d22_50) ?_
  intro T12 h12 X12 W12 G12
  have K13 : Keep h h12 [x, t] := K9.wr W12 (Or.inl (mg 0 rfl))
  refine P.aloadN X12 hx 54 (hb hby d22_53) rfl rfl rfl ?_
  have F14 := F11.wr W12
  have F15 := (P0.2.1.keep J7 (ninS hxt nin0)).other W12 (Or.inr (slot_ne (Or.inl (w54 cx)) (Or.inl (w108 cx)) (by decide) (t := (.array .byte)) (t' := .int) (by decide) (by decide)))
  have F16 := (P0.2.2.1.keep J7 (ninS hxt nin0)).other W12 (Or.inr (slot_ne (Or.inl (w56 cx)) (Or.inl (w108 cx)) (by decide) (t := .byte) (t' := .int) (by decide) (by decide)))
  have F17 := G8.other W12 (Ne.symm hxt)
  have F18 := (P0.2.2.2.2.2.2.2.2.keep J7).wr W12
  have S19 : SB Z h12 x t cap (cs ++ digs n 5) := ⟨F14, F15, F16, (by rw [List.length_append, digs_len]; exact G12), ⟨_, F17⟩, fun c hc => (List.mem_append.mp hc).elim (P0.2.2.2.2.2.1 c) (digs_rng n 5 c), by rw [List.length_append, digs_len]; exact hB1, P0.2.2.2.2.2.2.2.1, F18⟩
  exact WS.retA X12 (WL' := []) (FL' := []) hx hret rfl rfl hlk (hb hby d22_54) (nle rfl) (nle rfl) ⟨rfl, rfl, rfl, K13, S19⟩
def Q_asbapi (Z : State) (gC : Int32) (gF : Value) (v_DO : Addr) (k_DO : ClassId) (v_DT : Addr) (k_DT : ClassId) (x : Addr) (t : Addr) (cap : Nat) (cs : List Int32) (n : Nat) (kd : Nat) (h : Heap) (v : Option Value) (h' : Heap) (WL' FL' : List Addr) : Prop := v = some (.ref x) ∧ WL' = [] ∧ FL' = [] ∧ Keep h h' [x, t] ∧ SB Z h' x t cap (cs ++ digs n kd)
theorem ct_asbapi (cx : Cx a0 Z gC gF v_DO k_DO v_DT k_DT) (x : Addr) (t : Addr) (cap : Nat) (cs : List Int32) (n : Nat) (kd : Nat) (h : Heap) (WL FL : List Addr) (P0 : SB Z h x t cap cs) (P1 : x ∈ WL) (P2 : t ∈ WL) (hxt : x ≠ t) (hB1 : cs.length + 5 ≤ cap) (hDK : DK n kd) :
    Ct l Z EL1 n0 (⟨"java/lang/AbstractStringBuilder", "append", "(I)Ljava/lang/AbstractStringBuilder;"⟩ : MethodName) jdk_68_method_32_code 4 (Option.some (FieldType.object "java/lang/AbstractStringBuilder")) ({ frames := 1, cells := 0, slots := 0, locals := 18 } : Room) #[(.ref x), (.int (Int32.ofNat n))] h WL FL (Q_asbapi Z gC gF v_DO k_DO v_DT k_DT x t cap cs n kd h) := by
  rcases hDK with ⟨rfl, d1⟩ | ⟨rfl, d0, d1⟩ | ⟨rfl, d0, d1⟩ | ⟨rfl, d0, d1⟩ | ⟨rfl, d0, d1⟩
  · exact ct_asbapi1 cx x t cap cs n h WL FL P0 P1 P2 hxt (by omega) (Nat.zero_le _) d1
  · exact ct_asbapi2 cx x t cap cs n h WL FL P0 P1 P2 hxt (by omega) d0 d1
  · exact ct_asbapi3 cx x t cap cs n h WL FL P0 P1 P2 hxt (by omega) d0 d1
  · exact ct_asbapi4 cx x t cap cs n h WL FL P0 P1 P2 hxt (by omega) d0 d1
  · exact ct_asbapi5 cx x t cap cs n h WL FL P0 P1 P2 hxt (by omega) d0 d1
def Q_sbapi (Z : State) (gC : Int32) (gF : Value) (v_DO : Addr) (k_DO : ClassId) (v_DT : Addr) (k_DT : ClassId) (x : Addr) (t : Addr) (cap : Nat) (cs : List Int32) (n : Nat) (kd : Nat) (h : Heap) (v : Option Value) (h' : Heap) (WL' FL' : List Addr) : Prop := v = some (.ref x) ∧ WL' = [] ∧ FL' = [] ∧ Keep h h' [x, t] ∧ SB Z h' x t cap (cs ++ digs n kd)
theorem ct_sbapi (cx : Cx a0 Z gC gF v_DO k_DO v_DT k_DT) (x : Addr) (t : Addr) (cap : Nat) (cs : List Int32) (n : Nat) (kd : Nat) (h : Heap) (WL FL : List Addr) (P0 : SB Z h x t cap cs) (P1 : x ∈ WL) (P2 : t ∈ WL) (hxt : x ≠ t) (hB1 : cs.length + 5 ≤ cap) (hDK : DK n kd) :
    Ct l Z EL1 n0 (⟨"java/lang/StringBuilder", "append", "(I)Ljava/lang/StringBuilder;"⟩ : MethodName) jdk_67_method_15_code 2 (Option.some (FieldType.object "java/lang/StringBuilder")) ({ frames := 2, cells := 0, slots := 0, locals := 33 } : Room) #[(.ref x), (.int (Int32.ofNat n))] h WL FL (Q_sbapi Z gC gF v_DO k_DO v_DT k_DT x t cap cs n kd h) := by
  refine Ct.of (plainFor_of_name pn2) ?_
  intro p e s m below meth c s1 hx hby hml hnm hret hlk X0
  refine Wo.cast (f' := (mkF m 0 #[.val (.ref x), .val (.int (Int32.ofNat n))] [])) (by rfl) ?_
  have K0 : Keep h h [x, t] := Keep.refl _ _
  show Wo _ _ _ _ _ _ _ _ _ _ _ s1 (mkF m 0 #[.val (.ref x), .val (.int (Int32.ofNat n))] [])
  refine P.aloadN X0 hx 1 (hb hby d21_0) rfl rfl rfl ?_
  refine P.iloadN X0 hx 2 (hb hby d21_1) rfl rfl ?_
  refine X0.callU hx (w139 cx) (w140 cx) (w99 cx) (w142 cx) (w112 cx) rfl (by decide) (by decide) (Ins.self P0.1) (Ct.pay (W := 0) (ct_asbapi cx x t cap cs n kd h _ _ P0 P1 P2 hxt hB1 hDK) (w142 cx) (w49 cx) (nle rfl) (nle rfl)) (by rw [hml]; rfl) (argsL := [.int (Int32.ofNat n)]) (rest := []) (lenOf pd17 rfl) rfl rfl (Nat.le_of_eq rfl) (hb hby d21_2) (nle rfl) (nle rfl) ?_
  rintro T1 h1 _ _ _ X1 ⟨rfl, rfl, rfl, J1, G2⟩
  have K3 : Keep h h1 [x, t] := K0.trans J1 (allS (Or.inl (mg 0 rfl)) (allS (Or.inl (mg 1 rfl)) all0))
  refine P.pop X1 hx 6 (hb hby d21_5) rfl rfl ?_
  refine P.aloadN X1 hx 7 (hb hby d21_6) rfl rfl rfl ?_
  exact WS.retA X1 (WL' := []) (FL' := []) hx hret rfl rfl hlk (hb hby d21_7) (nle rfl) (nle rfl) ⟨rfl, rfl, rfl, K3, G2⟩
def Q_ixi1 (Z : State) (gC : Int32) (gF : Value) (v_DO : Addr) (k_DO : ClassId) (v_DT : Addr) (k_DT : ClassId) (b : Addr) (kb : ClassId) (d : Addr) (kd : ClassId) (ca : Int32) (h : Heap) (v : Option Value) (h' : Heap) (WL' FL' : List Addr) : Prop := ∃ r : Int32, v = some (.int r) ∧ WL' = [] ∧ FL' = [] ∧ h' = h ∧ ((¬ r < 0 ∧ (58 : Int32) ∈ [ca]) ∨ (r < 0 ∧ (58 : Int32) ∉ [ca]))
theorem ct_ixi1 (cx : Cx a0 Z gC gF v_DO k_DO v_DT k_DT) (b : Addr) (kb : ClassId) (d : Addr) (kd : ClassId) (ca : Int32) (h : Heap) (WL FL : List Addr) (P0 : Arv Z h b kb .byte (1 : Int32) [(.int (ca.toInt8.toInt32))] (.int 0)) (P1 : Arv Z h d kd .byte (1 : Int32) [(.int 58)] (.int 0)) (hr_ca : ¬ ca < 0 ∧ ¬ (255 : Int32) < ca) :
    Ct l Z EL1 n0 (⟨"java/lang/StringLatin1", "indexOf", "([BI[BII)I"⟩ : MethodName) jdk_43_method_25_code 11 (Option.some FieldType.int) ({ frames := 0, cells := 0, slots := 0, locals := 0 } : Room) #[(.ref b), (.int 1), (.ref d), (.int 1), (.int 0)] h WL FL (Q_ixi1 Z gC gF v_DO k_DO v_DT k_DT b kb d kd ca h) := by
  refine Ct.of (plainFor_of_name pn5) ?_
  intro p e s m below meth c s1 hx hby hml hnm hret hlk X0
  refine Wo.cast (f' := (mkF m 0 #[.val (.ref b), .val (.int 1), .val (.ref d), .val (.int 1), .val (.int 0), .unset, .unset, .unset, .unset, .unset, .unset] [])) (by rfl) ?_
  show Wo _ _ _ _ _ _ _ _ _ _ _ s1 (mkF m 0 #[.val (.ref b), .val (.int 1), .val (.ref d), .val (.int 1), .val (.int 0), .unset, .unset, .unset, .unset, .unset, .unset] [])
  by_cases e0 : ca = 58
  · skip
    refine P.aloadN X0 hx 1 (hb hby d46_0) rfl rfl rfl ?_
    refine P.iconst X0 hx 2 0 (hb hby d46_1) rfl rfl ?_
    refine WS.bld X0 hx P1 (j := (0 : Int32)) (x := (58 : Int32)) (by decide) rfl (hb hby d46_2) ?_
    refine P.istore X0 hx 5 #[.val (.ref b), .val (.int 1), .val (.ref d), .val (.int 1), .val (.int 0), .val (.int 58), .unset, .unset, .unset, .unset, .unset] (hb hby d46_3) rfl rfl ?_
    refine P.iloadN X0 hx 6 (hb hby d46_5) rfl rfl ?_
    refine P.iloadN X0 hx 7 (hb hby d46_6) rfl rfl ?_
    refine P.isub X0 hx 8 (z := (0 : Int32)) (hb hby d46_7) rfl rfl ?_
    refine P.istore X0 hx 10 #[.val (.ref b), .val (.int 1), .val (.ref d), .val (.int 1), .val (.int 0), .val (.int 58), .val (.int 0), .unset, .unset, .unset, .unset] (hb hby d46_8) rfl rfl ?_
    refine P.iload X0 hx 12 (hb hby d46_10) rfl rfl ?_
    refine P.istore X0 hx 14 #[.val (.ref b), .val (.int 1), .val (.ref d), .val (.int 1), .val (.int 0), .val (.int 58), .val (.int 0), .val (.int 0), .unset, .unset, .unset] (hb hby d46_12) rfl rfl ?_
    refine P.iload X0 hx 16 (hb hby d46_14) rfl rfl ?_
    refine P.iload X0 hx 18 (hb hby d46_16) rfl rfl ?_
    refine P.icmpNo X0 hx 21 (hb hby d46_18) (by decide) rfl ?_
    refine P.aloadN X0 hx 22 (hb hby d46_21) rfl rfl rfl ?_
    refine P.iload X0 hx 24 (hb hby d46_22) rfl rfl ?_
    refine WS.bld X0 hx P0 (j := (0 : Int32)) (x := (ca.toInt8.toInt32)) (by decide) rfl (hb hby d46_24) ?_
    refine P.iload X0 hx 27 (hb hby d46_25) rfl rfl ?_
    refine P.icmpYes X0 hx 52 (hb hby d46_27) (teq ((b58 hr_ca).mpr e0)).1 (by decide) (by decide) ?_
    refine P.iload X0 hx 54 (hb hby d46_52) rfl rfl ?_
    refine P.iload X0 hx 56 (hb hby d46_54) rfl rfl ?_
    refine P.icmpNo X0 hx 59 (hb hby d46_56) (by decide) rfl ?_
    refine P.iload X0 hx 61 (hb hby d46_59) rfl rfl ?_
    refine P.iconst X0 hx 62 1 (hb hby d46_61) rfl rfl ?_
    refine P.iadd X0 hx 63 (z := (1 : Int32)) (hb hby d46_62) rfl rfl ?_
    refine P.istore X0 hx 65 #[.val (.ref b), .val (.int 1), .val (.ref d), .val (.int 1), .val (.int 0), .val (.int 58), .val (.int 0), .val (.int 0), .val (.int 1), .unset, .unset] (hb hby d46_63) rfl rfl ?_
    refine P.iload X0 hx 67 (hb hby d46_65) rfl rfl ?_
    refine P.iloadN X0 hx 68 (hb hby d46_67) rfl rfl ?_
    refine P.iadd X0 hx 69 (z := (2 : Int32)) (hb hby d46_68) rfl rfl ?_
    refine P.iconst X0 hx 70 1 (hb hby d46_69) rfl rfl ?_
    refine P.isub X0 hx 71 (z := (1 : Int32)) (hb hby d46_70) rfl rfl ?_
    refine P.istore X0 hx 73 #[.val (.ref b), .val (.int 1), .val (.ref d), .val (.int 1), .val (.int 0), .val (.int 58), .val (.int 0), .val (.int 0), .val (.int 1), .val (.int 1), .unset] (hb hby d46_71) rfl rfl ?_
    refine P.iconst X0 hx 74 1 (hb hby d46_73) rfl rfl ?_
    refine P.istore X0 hx 76 #[.val (.ref b), .val (.int 1), .val (.ref d), .val (.int 1), .val (.int 0), .val (.int 58), .val (.int 0), .val (.int 0), .val (.int 1), .val (.int 1), .val (.int 1)] (hb hby d46_74) rfl rfl ?_
    refine P.iload X0 hx 78 (hb hby d46_76) rfl rfl ?_
    refine P.iload X0 hx 80 (hb hby d46_78) rfl rfl ?_
    refine P.icmpYes X0 hx 103 (hb hby d46_80) (by decide) (by decide) (by decide) ?_
    refine P.iload X0 hx 105 (hb hby d46_103) rfl rfl ?_
    refine P.iload X0 hx 107 (hb hby d46_105) rfl rfl ?_
    refine P.icmpNo X0 hx 110 (hb hby d46_107) (by decide) rfl ?_
    refine P.iload X0 hx 112 (hb hby d46_110) rfl rfl ?_
    exact WS.retI X0 (WL' := []) (FL' := []) hx hret hlk (hb hby d46_112) (nle rfl) (nle rfl) ⟨(0 : Int32), rfl, rfl, rfl, rfl, (Or.inl ⟨by decide, by rw [e0]; simp⟩)⟩
  · skip
    refine P.aloadN X0 hx 1 (hb hby d46_0) rfl rfl rfl ?_
    refine P.iconst X0 hx 2 0 (hb hby d46_1) rfl rfl ?_
    refine WS.bld X0 hx P1 (j := (0 : Int32)) (x := (58 : Int32)) (by decide) rfl (hb hby d46_2) ?_
    refine P.istore X0 hx 5 #[.val (.ref b), .val (.int 1), .val (.ref d), .val (.int 1), .val (.int 0), .val (.int 58), .unset, .unset, .unset, .unset, .unset] (hb hby d46_3) rfl rfl ?_
    refine P.iloadN X0 hx 6 (hb hby d46_5) rfl rfl ?_
    refine P.iloadN X0 hx 7 (hb hby d46_6) rfl rfl ?_
    refine P.isub X0 hx 8 (z := (0 : Int32)) (hb hby d46_7) rfl rfl ?_
    refine P.istore X0 hx 10 #[.val (.ref b), .val (.int 1), .val (.ref d), .val (.int 1), .val (.int 0), .val (.int 58), .val (.int 0), .unset, .unset, .unset, .unset] (hb hby d46_8) rfl rfl ?_
    refine P.iload X0 hx 12 (hb hby d46_10) rfl rfl ?_
    refine P.istore X0 hx 14 #[.val (.ref b), .val (.int 1), .val (.ref d), .val (.int 1), .val (.int 0), .val (.int 58), .val (.int 0), .val (.int 0), .unset, .unset, .unset] (hb hby d46_12) rfl rfl ?_
    refine P.iload X0 hx 16 (hb hby d46_14) rfl rfl ?_
    refine P.iload X0 hx 18 (hb hby d46_16) rfl rfl ?_
    refine P.icmpNo X0 hx 21 (hb hby d46_18) (by decide) rfl ?_
    refine P.aloadN X0 hx 22 (hb hby d46_21) rfl rfl rfl ?_
    refine P.iload X0 hx 24 (hb hby d46_22) rfl rfl ?_
    refine WS.bld X0 hx P0 (j := (0 : Int32)) (x := (ca.toInt8.toInt32)) (by decide) rfl (hb hby d46_24) ?_
    refine P.iload X0 hx 27 (hb hby d46_25) rfl rfl ?_
    refine P.icmpNo X0 hx 30 (hb hby d46_27) (feq ((not_congr (b58 hr_ca)).mpr e0)).1 rfl ?_
    refine P.iinc X0 hx 33 #[.val (.ref b), .val (.int 1), .val (.ref d), .val (.int 1), .val (.int 0), .val (.int 58), .val (.int 0), .val (.int 1), .unset, .unset, .unset] (hb hby d46_30) rfl rfl rfl ?_
    refine P.iload X0 hx 35 (hb hby d46_33) rfl rfl ?_
    refine P.iload X0 hx 37 (hb hby d46_35) rfl rfl ?_
    refine P.icmpYes X0 hx 52 (hb hby d46_37) (by decide) (by decide) (by decide) ?_
    refine P.iload X0 hx 54 (hb hby d46_52) rfl rfl ?_
    refine P.iload X0 hx 56 (hb hby d46_54) rfl rfl ?_
    refine P.icmpYes X0 hx 113 (hb hby d46_56) (by decide) (by decide) (by decide) ?_
    refine P.iinc X0 hx 116 #[.val (.ref b), .val (.int 1), .val (.ref d), .val (.int 1), .val (.int 0), .val (.int 58), .val (.int 0), .val (.int 2), .unset, .unset, .unset] (hb hby d46_113) rfl rfl rfl ?_
    refine P.goto X0 hx 14 (hb hby d46_116) (by decide) (by decide) ?_
    refine P.iload X0 hx 16 (hb hby d46_14) rfl rfl ?_
    refine P.iload X0 hx 18 (hb hby d46_16) rfl rfl ?_
    refine P.icmpYes X0 hx 119 (hb hby d46_18) (by decide) (by decide) (by decide) ?_
    refine P.iconst X0 hx 120 (-1) (hb hby d46_119) rfl rfl ?_
    exact WS.retI X0 (WL' := []) (FL' := []) hx hret hlk (hb hby d46_120) (nle rfl) (nle rfl) ⟨(-1 : Int32), rfl, rfl, rfl, rfl, (Or.inr ⟨by decide, nm1 e0⟩)⟩
def Q_ixi2 (Z : State) (gC : Int32) (gF : Value) (v_DO : Addr) (k_DO : ClassId) (v_DT : Addr) (k_DT : ClassId) (b : Addr) (kb : ClassId) (d : Addr) (kd : ClassId) (ca : Int32) (cb : Int32) (h : Heap) (v : Option Value) (h' : Heap) (WL' FL' : List Addr) : Prop := ∃ r : Int32, v = some (.int r) ∧ WL' = [] ∧ FL' = [] ∧ h' = h ∧ ((¬ r < 0 ∧ (58 : Int32) ∈ [ca, cb]) ∨ (r < 0 ∧ (58 : Int32) ∉ [ca, cb]))
theorem ct_ixi2 (cx : Cx a0 Z gC gF v_DO k_DO v_DT k_DT) (b : Addr) (kb : ClassId) (d : Addr) (kd : ClassId) (ca : Int32) (cb : Int32) (h : Heap) (WL FL : List Addr) (P0 : Arv Z h b kb .byte (2 : Int32) [(.int (ca.toInt8.toInt32)), (.int (cb.toInt8.toInt32))] (.int 0)) (P1 : Arv Z h d kd .byte (1 : Int32) [(.int 58)] (.int 0)) (hr_ca : ¬ ca < 0 ∧ ¬ (255 : Int32) < ca) (hr_cb : ¬ cb < 0 ∧ ¬ (255 : Int32) < cb) :
    Ct l Z EL1 n0 (⟨"java/lang/StringLatin1", "indexOf", "([BI[BII)I"⟩ : MethodName) jdk_43_method_25_code 11 (Option.some FieldType.int) ({ frames := 0, cells := 0, slots := 0, locals := 0 } : Room) #[(.ref b), (.int 2), (.ref d), (.int 1), (.int 0)] h WL FL (Q_ixi2 Z gC gF v_DO k_DO v_DT k_DT b kb d kd ca cb h) := by
  refine Ct.of (plainFor_of_name pn5) ?_
  intro p e s m below meth c s1 hx hby hml hnm hret hlk X0
  refine Wo.cast (f' := (mkF m 0 #[.val (.ref b), .val (.int 2), .val (.ref d), .val (.int 1), .val (.int 0), .unset, .unset, .unset, .unset, .unset, .unset] [])) (by rfl) ?_
  show Wo _ _ _ _ _ _ _ _ _ _ _ s1 (mkF m 0 #[.val (.ref b), .val (.int 2), .val (.ref d), .val (.int 1), .val (.int 0), .unset, .unset, .unset, .unset, .unset, .unset] [])
  by_cases e0 : ca = 58
  · skip
    refine P.aloadN X0 hx 1 (hb hby d46_0) rfl rfl rfl ?_
    refine P.iconst X0 hx 2 0 (hb hby d46_1) rfl rfl ?_
    refine WS.bld X0 hx P1 (j := (0 : Int32)) (x := (58 : Int32)) (by decide) rfl (hb hby d46_2) ?_
    refine P.istore X0 hx 5 #[.val (.ref b), .val (.int 2), .val (.ref d), .val (.int 1), .val (.int 0), .val (.int 58), .unset, .unset, .unset, .unset, .unset] (hb hby d46_3) rfl rfl ?_
    refine P.iloadN X0 hx 6 (hb hby d46_5) rfl rfl ?_
    refine P.iloadN X0 hx 7 (hb hby d46_6) rfl rfl ?_
    refine P.isub X0 hx 8 (z := (1 : Int32)) (hb hby d46_7) rfl rfl ?_
    refine P.istore X0 hx 10 #[.val (.ref b), .val (.int 2), .val (.ref d), .val (.int 1), .val (.int 0), .val (.int 58), .val (.int 1), .unset, .unset, .unset, .unset] (hb hby d46_8) rfl rfl ?_
    refine P.iload X0 hx 12 (hb hby d46_10) rfl rfl ?_
    refine P.istore X0 hx 14 #[.val (.ref b), .val (.int 2), .val (.ref d), .val (.int 1), .val (.int 0), .val (.int 58), .val (.int 1), .val (.int 0), .unset, .unset, .unset] (hb hby d46_12) rfl rfl ?_
    refine P.iload X0 hx 16 (hb hby d46_14) rfl rfl ?_
    refine P.iload X0 hx 18 (hb hby d46_16) rfl rfl ?_
    refine P.icmpNo X0 hx 21 (hb hby d46_18) (by decide) rfl ?_
    refine P.aloadN X0 hx 22 (hb hby d46_21) rfl rfl rfl ?_
    refine P.iload X0 hx 24 (hb hby d46_22) rfl rfl ?_
    refine WS.bld X0 hx P0 (j := (0 : Int32)) (x := (ca.toInt8.toInt32)) (by decide) rfl (hb hby d46_24) ?_
    refine P.iload X0 hx 27 (hb hby d46_25) rfl rfl ?_
    refine P.icmpYes X0 hx 52 (hb hby d46_27) (teq ((b58 hr_ca).mpr e0)).1 (by decide) (by decide) ?_
    refine P.iload X0 hx 54 (hb hby d46_52) rfl rfl ?_
    refine P.iload X0 hx 56 (hb hby d46_54) rfl rfl ?_
    refine P.icmpNo X0 hx 59 (hb hby d46_56) (by decide) rfl ?_
    refine P.iload X0 hx 61 (hb hby d46_59) rfl rfl ?_
    refine P.iconst X0 hx 62 1 (hb hby d46_61) rfl rfl ?_
    refine P.iadd X0 hx 63 (z := (1 : Int32)) (hb hby d46_62) rfl rfl ?_
    refine P.istore X0 hx 65 #[.val (.ref b), .val (.int 2), .val (.ref d), .val (.int 1), .val (.int 0), .val (.int 58), .val (.int 1), .val (.int 0), .val (.int 1), .unset, .unset] (hb hby d46_63) rfl rfl ?_
    refine P.iload X0 hx 67 (hb hby d46_65) rfl rfl ?_
    refine P.iloadN X0 hx 68 (hb hby d46_67) rfl rfl ?_
    refine P.iadd X0 hx 69 (z := (2 : Int32)) (hb hby d46_68) rfl rfl ?_
    refine P.iconst X0 hx 70 1 (hb hby d46_69) rfl rfl ?_
    refine P.isub X0 hx 71 (z := (1 : Int32)) (hb hby d46_70) rfl rfl ?_
    refine P.istore X0 hx 73 #[.val (.ref b), .val (.int 2), .val (.ref d), .val (.int 1), .val (.int 0), .val (.int 58), .val (.int 1), .val (.int 0), .val (.int 1), .val (.int 1), .unset] (hb hby d46_71) rfl rfl ?_
    refine P.iconst X0 hx 74 1 (hb hby d46_73) rfl rfl ?_
    refine P.istore X0 hx 76 #[.val (.ref b), .val (.int 2), .val (.ref d), .val (.int 1), .val (.int 0), .val (.int 58), .val (.int 1), .val (.int 0), .val (.int 1), .val (.int 1), .val (.int 1)] (hb hby d46_74) rfl rfl ?_
    refine P.iload X0 hx 78 (hb hby d46_76) rfl rfl ?_
    refine P.iload X0 hx 80 (hb hby d46_78) rfl rfl ?_
    refine P.icmpYes X0 hx 103 (hb hby d46_80) (by decide) (by decide) (by decide) ?_
    refine P.iload X0 hx 105 (hb hby d46_103) rfl rfl ?_
    refine P.iload X0 hx 107 (hb hby d46_105) rfl rfl ?_
    refine P.icmpNo X0 hx 110 (hb hby d46_107) (by decide) rfl ?_
    refine P.iload X0 hx 112 (hb hby d46_110) rfl rfl ?_
    exact WS.retI X0 (WL' := []) (FL' := []) hx hret hlk (hb hby d46_112) (nle rfl) (nle rfl) ⟨(0 : Int32), rfl, rfl, rfl, rfl, (Or.inl ⟨by decide, by rw [e0]; simp⟩)⟩
  · skip
    by_cases e1 : cb = 58
    · skip
      refine P.aloadN X0 hx 1 (hb hby d46_0) rfl rfl rfl ?_
      refine P.iconst X0 hx 2 0 (hb hby d46_1) rfl rfl ?_
      refine WS.bld X0 hx P1 (j := (0 : Int32)) (x := (58 : Int32)) (by decide) rfl (hb hby d46_2) ?_
      refine P.istore X0 hx 5 #[.val (.ref b), .val (.int 2), .val (.ref d), .val (.int 1), .val (.int 0), .val (.int 58), .unset, .unset, .unset, .unset, .unset] (hb hby d46_3) rfl rfl ?_
      refine P.iloadN X0 hx 6 (hb hby d46_5) rfl rfl ?_
      refine P.iloadN X0 hx 7 (hb hby d46_6) rfl rfl ?_
      refine P.isub X0 hx 8 (z := (1 : Int32)) (hb hby d46_7) rfl rfl ?_
      refine P.istore X0 hx 10 #[.val (.ref b), .val (.int 2), .val (.ref d), .val (.int 1), .val (.int 0), .val (.int 58), .val (.int 1), .unset, .unset, .unset, .unset] (hb hby d46_8) rfl rfl ?_
      refine P.iload X0 hx 12 (hb hby d46_10) rfl rfl ?_
      refine P.istore X0 hx 14 #[.val (.ref b), .val (.int 2), .val (.ref d), .val (.int 1), .val (.int 0), .val (.int 58), .val (.int 1), .val (.int 0), .unset, .unset, .unset] (hb hby d46_12) rfl rfl ?_
      refine P.iload X0 hx 16 (hb hby d46_14) rfl rfl ?_
      refine P.iload X0 hx 18 (hb hby d46_16) rfl rfl ?_
      refine P.icmpNo X0 hx 21 (hb hby d46_18) (by decide) rfl ?_
      refine P.aloadN X0 hx 22 (hb hby d46_21) rfl rfl rfl ?_
      refine P.iload X0 hx 24 (hb hby d46_22) rfl rfl ?_
      refine WS.bld X0 hx P0 (j := (0 : Int32)) (x := (ca.toInt8.toInt32)) (by decide) rfl (hb hby d46_24) ?_
      refine P.iload X0 hx 27 (hb hby d46_25) rfl rfl ?_
      refine P.icmpNo X0 hx 30 (hb hby d46_27) (feq ((not_congr (b58 hr_ca)).mpr e0)).1 rfl ?_
      refine P.iinc X0 hx 33 #[.val (.ref b), .val (.int 2), .val (.ref d), .val (.int 1), .val (.int 0), .val (.int 58), .val (.int 1), .val (.int 1), .unset, .unset, .unset] (hb hby d46_30) rfl rfl rfl ?_
      refine P.iload X0 hx 35 (hb hby d46_33) rfl rfl ?_
      refine P.iload X0 hx 37 (hb hby d46_35) rfl rfl ?_
      refine P.icmpNo X0 hx 40 (hb hby d46_37) (by decide) rfl ?_
      refine P.aloadN X0 hx 41 (hb hby d46_40) rfl rfl rfl ?_
      refine P.iload X0 hx 43 (hb hby d46_41) rfl rfl ?_
      refine WS.bld X0 hx P0 (j := (1 : Int32)) (x := (cb.toInt8.toInt32)) (by decide) rfl (hb hby d46_43) ?_
      refine P.iload X0 hx 46 (hb hby d46_44) rfl rfl ?_
      refine P.icmpYes X0 hx 52 (hb hby d46_46) (teq ((b58 hr_cb).mpr e1)).1 (by decide) (by decide) ?_
      refine P.iload X0 hx 54 (hb hby d46_52) rfl rfl ?_
      refine P.iload X0 hx 56 (hb hby d46_54) rfl rfl ?_
      refine P.icmpNo X0 hx 59 (hb hby d46_56) (by decide) rfl ?_
      refine P.iload X0 hx 61 (hb hby d46_59) rfl rfl ?_
      refine P.iconst X0 hx 62 1 (hb hby d46_61) rfl rfl ?_
      refine P.iadd X0 hx 63 (z := (2 : Int32)) (hb hby d46_62) rfl rfl ?_
      refine P.istore X0 hx 65 #[.val (.ref b), .val (.int 2), .val (.ref d), .val (.int 1), .val (.int 0), .val (.int 58), .val (.int 1), .val (.int 1), .val (.int 2), .unset, .unset] (hb hby d46_63) rfl rfl ?_
      refine P.iload X0 hx 67 (hb hby d46_65) rfl rfl ?_
      refine P.iloadN X0 hx 68 (hb hby d46_67) rfl rfl ?_
      refine P.iadd X0 hx 69 (z := (3 : Int32)) (hb hby d46_68) rfl rfl ?_
      refine P.iconst X0 hx 70 1 (hb hby d46_69) rfl rfl ?_
      refine P.isub X0 hx 71 (z := (2 : Int32)) (hb hby d46_70) rfl rfl ?_
      refine P.istore X0 hx 73 #[.val (.ref b), .val (.int 2), .val (.ref d), .val (.int 1), .val (.int 0), .val (.int 58), .val (.int 1), .val (.int 1), .val (.int 2), .val (.int 2), .unset] (hb hby d46_71) rfl rfl ?_
      refine P.iconst X0 hx 74 1 (hb hby d46_73) rfl rfl ?_
      refine P.istore X0 hx 76 #[.val (.ref b), .val (.int 2), .val (.ref d), .val (.int 1), .val (.int 0), .val (.int 58), .val (.int 1), .val (.int 1), .val (.int 2), .val (.int 2), .val (.int 1)] (hb hby d46_74) rfl rfl ?_
      refine P.iload X0 hx 78 (hb hby d46_76) rfl rfl ?_
      refine P.iload X0 hx 80 (hb hby d46_78) rfl rfl ?_
      refine P.icmpYes X0 hx 103 (hb hby d46_80) (by decide) (by decide) (by decide) ?_
      refine P.iload X0 hx 105 (hb hby d46_103) rfl rfl ?_
      refine P.iload X0 hx 107 (hb hby d46_105) rfl rfl ?_
      refine P.icmpNo X0 hx 110 (hb hby d46_107) (by decide) rfl ?_
      refine P.iload X0 hx 112 (hb hby d46_110) rfl rfl ?_
      exact WS.retI X0 (WL' := []) (FL' := []) hx hret hlk (hb hby d46_112) (nle rfl) (nle rfl) ⟨(1 : Int32), rfl, rfl, rfl, rfl, (Or.inl ⟨by decide, by rw [e1]; simp⟩)⟩
    · skip
      refine P.aloadN X0 hx 1 (hb hby d46_0) rfl rfl rfl ?_
      refine P.iconst X0 hx 2 0 (hb hby d46_1) rfl rfl ?_
      refine WS.bld X0 hx P1 (j := (0 : Int32)) (x := (58 : Int32)) (by decide) rfl (hb hby d46_2) ?_
      refine P.istore X0 hx 5 #[.val (.ref b), .val (.int 2), .val (.ref d), .val (.int 1), .val (.int 0), .val (.int 58), .unset, .unset, .unset, .unset, .unset] (hb hby d46_3) rfl rfl ?_
      refine P.iloadN X0 hx 6 (hb hby d46_5) rfl rfl ?_
      refine P.iloadN X0 hx 7 (hb hby d46_6) rfl rfl ?_
      refine P.isub X0 hx 8 (z := (1 : Int32)) (hb hby d46_7) rfl rfl ?_
      refine P.istore X0 hx 10 #[.val (.ref b), .val (.int 2), .val (.ref d), .val (.int 1), .val (.int 0), .val (.int 58), .val (.int 1), .unset, .unset, .unset, .unset] (hb hby d46_8) rfl rfl ?_
      refine P.iload X0 hx 12 (hb hby d46_10) rfl rfl ?_
      refine P.istore X0 hx 14 #[.val (.ref b), .val (.int 2), .val (.ref d), .val (.int 1), .val (.int 0), .val (.int 58), .val (.int 1), .val (.int 0), .unset, .unset, .unset] (hb hby d46_12) rfl rfl ?_
      refine P.iload X0 hx 16 (hb hby d46_14) rfl rfl ?_
      refine P.iload X0 hx 18 (hb hby d46_16) rfl rfl ?_
      refine P.icmpNo X0 hx 21 (hb hby d46_18) (by decide) rfl ?_
      refine P.aloadN X0 hx 22 (hb hby d46_21) rfl rfl rfl ?_
      refine P.iload X0 hx 24 (hb hby d46_22) rfl rfl ?_
      refine WS.bld X0 hx P0 (j := (0 : Int32)) (x := (ca.toInt8.toInt32)) (by decide) rfl (hb hby d46_24) ?_
      refine P.iload X0 hx 27 (hb hby d46_25) rfl rfl ?_
      refine P.icmpNo X0 hx 30 (hb hby d46_27) (feq ((not_congr (b58 hr_ca)).mpr e0)).1 rfl ?_
      refine P.iinc X0 hx 33 #[.val (.ref b), .val (.int 2), .val (.ref d), .val (.int 1), .val (.int 0), .val (.int 58), .val (.int 1), .val (.int 1), .unset, .unset, .unset] (hb hby d46_30) rfl rfl rfl ?_
      refine P.iload X0 hx 35 (hb hby d46_33) rfl rfl ?_
      refine P.iload X0 hx 37 (hb hby d46_35) rfl rfl ?_
      refine P.icmpNo X0 hx 40 (hb hby d46_37) (by decide) rfl ?_
      refine P.aloadN X0 hx 41 (hb hby d46_40) rfl rfl rfl ?_
      refine P.iload X0 hx 43 (hb hby d46_41) rfl rfl ?_
      refine WS.bld X0 hx P0 (j := (1 : Int32)) (x := (cb.toInt8.toInt32)) (by decide) rfl (hb hby d46_43) ?_
      refine P.iload X0 hx 46 (hb hby d46_44) rfl rfl ?_
      refine P.icmpNo X0 hx 49 (hb hby d46_46) (feq ((not_congr (b58 hr_cb)).mpr e1)).1 rfl ?_
      refine P.goto X0 hx 30 (hb hby d46_49) (by decide) (by decide) ?_
      refine P.iinc X0 hx 33 #[.val (.ref b), .val (.int 2), .val (.ref d), .val (.int 1), .val (.int 0), .val (.int 58), .val (.int 1), .val (.int 2), .unset, .unset, .unset] (hb hby d46_30) rfl rfl rfl ?_
      refine P.iload X0 hx 35 (hb hby d46_33) rfl rfl ?_
      refine P.iload X0 hx 37 (hb hby d46_35) rfl rfl ?_
      refine P.icmpYes X0 hx 52 (hb hby d46_37) (by decide) (by decide) (by decide) ?_
      refine P.iload X0 hx 54 (hb hby d46_52) rfl rfl ?_
      refine P.iload X0 hx 56 (hb hby d46_54) rfl rfl ?_
      refine P.icmpYes X0 hx 113 (hb hby d46_56) (by decide) (by decide) (by decide) ?_
      refine P.iinc X0 hx 116 #[.val (.ref b), .val (.int 2), .val (.ref d), .val (.int 1), .val (.int 0), .val (.int 58), .val (.int 1), .val (.int 3), .unset, .unset, .unset] (hb hby d46_113) rfl rfl rfl ?_
      refine P.goto X0 hx 14 (hb hby d46_116) (by decide) (by decide) ?_
      refine P.iload X0 hx 16 (hb hby d46_14) rfl rfl ?_
      refine P.iload X0 hx 18 (hb hby d46_16) rfl rfl ?_
      refine P.icmpYes X0 hx 119 (hb hby d46_18) (by decide) (by decide) (by decide) ?_
      refine P.iconst X0 hx 120 (-1) (hb hby d46_119) rfl rfl ?_
      exact WS.retI X0 (WL' := []) (FL' := []) hx hret hlk (hb hby d46_120) (nle rfl) (nle rfl) ⟨(-1 : Int32), rfl, rfl, rfl, rfl, (Or.inr ⟨by decide, nm2 e0 e1⟩)⟩
def Q_ixi3 (Z : State) (gC : Int32) (gF : Value) (v_DO : Addr) (k_DO : ClassId) (v_DT : Addr) (k_DT : ClassId) (b : Addr) (kb : ClassId) (d : Addr) (kd : ClassId) (ca : Int32) (cb : Int32) (cc : Int32) (h : Heap) (v : Option Value) (h' : Heap) (WL' FL' : List Addr) : Prop := ∃ r : Int32, v = some (.int r) ∧ WL' = [] ∧ FL' = [] ∧ h' = h ∧ ((¬ r < 0 ∧ (58 : Int32) ∈ [ca, cb, cc]) ∨ (r < 0 ∧ (58 : Int32) ∉ [ca, cb, cc]))
theorem ct_ixi3 (cx : Cx a0 Z gC gF v_DO k_DO v_DT k_DT) (b : Addr) (kb : ClassId) (d : Addr) (kd : ClassId) (ca : Int32) (cb : Int32) (cc : Int32) (h : Heap) (WL FL : List Addr) (P0 : Arv Z h b kb .byte (3 : Int32) [(.int (ca.toInt8.toInt32)), (.int (cb.toInt8.toInt32)), (.int (cc.toInt8.toInt32))] (.int 0)) (P1 : Arv Z h d kd .byte (1 : Int32) [(.int 58)] (.int 0)) (hr_ca : ¬ ca < 0 ∧ ¬ (255 : Int32) < ca) (hr_cb : ¬ cb < 0 ∧ ¬ (255 : Int32) < cb) (hr_cc : ¬ cc < 0 ∧ ¬ (255 : Int32) < cc) :
    Ct l Z EL1 n0 (⟨"java/lang/StringLatin1", "indexOf", "([BI[BII)I"⟩ : MethodName) jdk_43_method_25_code 11 (Option.some FieldType.int) ({ frames := 0, cells := 0, slots := 0, locals := 0 } : Room) #[(.ref b), (.int 3), (.ref d), (.int 1), (.int 0)] h WL FL (Q_ixi3 Z gC gF v_DO k_DO v_DT k_DT b kb d kd ca cb cc h) := by
  refine Ct.of (plainFor_of_name pn5) ?_
  intro p e s m below meth c s1 hx hby hml hnm hret hlk X0
  refine Wo.cast (f' := (mkF m 0 #[.val (.ref b), .val (.int 3), .val (.ref d), .val (.int 1), .val (.int 0), .unset, .unset, .unset, .unset, .unset, .unset] [])) (by rfl) ?_
  show Wo _ _ _ _ _ _ _ _ _ _ _ s1 (mkF m 0 #[.val (.ref b), .val (.int 3), .val (.ref d), .val (.int 1), .val (.int 0), .unset, .unset, .unset, .unset, .unset, .unset] [])
  by_cases e0 : ca = 58
  · skip
    refine P.aloadN X0 hx 1 (hb hby d46_0) rfl rfl rfl ?_
    refine P.iconst X0 hx 2 0 (hb hby d46_1) rfl rfl ?_
    refine WS.bld X0 hx P1 (j := (0 : Int32)) (x := (58 : Int32)) (by decide) rfl (hb hby d46_2) ?_
    refine P.istore X0 hx 5 #[.val (.ref b), .val (.int 3), .val (.ref d), .val (.int 1), .val (.int 0), .val (.int 58), .unset, .unset, .unset, .unset, .unset] (hb hby d46_3) rfl rfl ?_
    refine P.iloadN X0 hx 6 (hb hby d46_5) rfl rfl ?_
    refine P.iloadN X0 hx 7 (hb hby d46_6) rfl rfl ?_
    refine P.isub X0 hx 8 (z := (2 : Int32)) (hb hby d46_7) rfl rfl ?_
    refine P.istore X0 hx 10 #[.val (.ref b), .val (.int 3), .val (.ref d), .val (.int 1), .val (.int 0), .val (.int 58), .val (.int 2), .unset, .unset, .unset, .unset] (hb hby d46_8) rfl rfl ?_
    refine P.iload X0 hx 12 (hb hby d46_10) rfl rfl ?_
    refine P.istore X0 hx 14 #[.val (.ref b), .val (.int 3), .val (.ref d), .val (.int 1), .val (.int 0), .val (.int 58), .val (.int 2), .val (.int 0), .unset, .unset, .unset] (hb hby d46_12) rfl rfl ?_
    refine P.iload X0 hx 16 (hb hby d46_14) rfl rfl ?_
    refine P.iload X0 hx 18 (hb hby d46_16) rfl rfl ?_
    refine P.icmpNo X0 hx 21 (hb hby d46_18) (by decide) rfl ?_
    refine P.aloadN X0 hx 22 (hb hby d46_21) rfl rfl rfl ?_
    refine P.iload X0 hx 24 (hb hby d46_22) rfl rfl ?_
    refine WS.bld X0 hx P0 (j := (0 : Int32)) (x := (ca.toInt8.toInt32)) (by decide) rfl (hb hby d46_24) ?_
    refine P.iload X0 hx 27 (hb hby d46_25) rfl rfl ?_
    refine P.icmpYes X0 hx 52 (hb hby d46_27) (teq ((b58 hr_ca).mpr e0)).1 (by decide) (by decide) ?_
    refine P.iload X0 hx 54 (hb hby d46_52) rfl rfl ?_
    refine P.iload X0 hx 56 (hb hby d46_54) rfl rfl ?_
    refine P.icmpNo X0 hx 59 (hb hby d46_56) (by decide) rfl ?_
    refine P.iload X0 hx 61 (hb hby d46_59) rfl rfl ?_
    refine P.iconst X0 hx 62 1 (hb hby d46_61) rfl rfl ?_
    refine P.iadd X0 hx 63 (z := (1 : Int32)) (hb hby d46_62) rfl rfl ?_
    refine P.istore X0 hx 65 #[.val (.ref b), .val (.int 3), .val (.ref d), .val (.int 1), .val (.int 0), .val (.int 58), .val (.int 2), .val (.int 0), .val (.int 1), .unset, .unset] (hb hby d46_63) rfl rfl ?_
    refine P.iload X0 hx 67 (hb hby d46_65) rfl rfl ?_
    refine P.iloadN X0 hx 68 (hb hby d46_67) rfl rfl ?_
    refine P.iadd X0 hx 69 (z := (2 : Int32)) (hb hby d46_68) rfl rfl ?_
    refine P.iconst X0 hx 70 1 (hb hby d46_69) rfl rfl ?_
    refine P.isub X0 hx 71 (z := (1 : Int32)) (hb hby d46_70) rfl rfl ?_
    refine P.istore X0 hx 73 #[.val (.ref b), .val (.int 3), .val (.ref d), .val (.int 1), .val (.int 0), .val (.int 58), .val (.int 2), .val (.int 0), .val (.int 1), .val (.int 1), .unset] (hb hby d46_71) rfl rfl ?_
    refine P.iconst X0 hx 74 1 (hb hby d46_73) rfl rfl ?_
    refine P.istore X0 hx 76 #[.val (.ref b), .val (.int 3), .val (.ref d), .val (.int 1), .val (.int 0), .val (.int 58), .val (.int 2), .val (.int 0), .val (.int 1), .val (.int 1), .val (.int 1)] (hb hby d46_74) rfl rfl ?_
    refine P.iload X0 hx 78 (hb hby d46_76) rfl rfl ?_
    refine P.iload X0 hx 80 (hb hby d46_78) rfl rfl ?_
    refine P.icmpYes X0 hx 103 (hb hby d46_80) (by decide) (by decide) (by decide) ?_
    refine P.iload X0 hx 105 (hb hby d46_103) rfl rfl ?_
    refine P.iload X0 hx 107 (hb hby d46_105) rfl rfl ?_
    refine P.icmpNo X0 hx 110 (hb hby d46_107) (by decide) rfl ?_
    refine P.iload X0 hx 112 (hb hby d46_110) rfl rfl ?_
    exact WS.retI X0 (WL' := []) (FL' := []) hx hret hlk (hb hby d46_112) (nle rfl) (nle rfl) ⟨(0 : Int32), rfl, rfl, rfl, rfl, (Or.inl ⟨by decide, by rw [e0]; simp⟩)⟩
  · skip
    by_cases e1 : cb = 58
    · skip
      refine P.aloadN X0 hx 1 (hb hby d46_0) rfl rfl rfl ?_
      refine P.iconst X0 hx 2 0 (hb hby d46_1) rfl rfl ?_
      refine WS.bld X0 hx P1 (j := (0 : Int32)) (x := (58 : Int32)) (by decide) rfl (hb hby d46_2) ?_
      refine P.istore X0 hx 5 #[.val (.ref b), .val (.int 3), .val (.ref d), .val (.int 1), .val (.int 0), .val (.int 58), .unset, .unset, .unset, .unset, .unset] (hb hby d46_3) rfl rfl ?_
      refine P.iloadN X0 hx 6 (hb hby d46_5) rfl rfl ?_
      refine P.iloadN X0 hx 7 (hb hby d46_6) rfl rfl ?_
      refine P.isub X0 hx 8 (z := (2 : Int32)) (hb hby d46_7) rfl rfl ?_
      refine P.istore X0 hx 10 #[.val (.ref b), .val (.int 3), .val (.ref d), .val (.int 1), .val (.int 0), .val (.int 58), .val (.int 2), .unset, .unset, .unset, .unset] (hb hby d46_8) rfl rfl ?_
      refine P.iload X0 hx 12 (hb hby d46_10) rfl rfl ?_
      refine P.istore X0 hx 14 #[.val (.ref b), .val (.int 3), .val (.ref d), .val (.int 1), .val (.int 0), .val (.int 58), .val (.int 2), .val (.int 0), .unset, .unset, .unset] (hb hby d46_12) rfl rfl ?_
      refine P.iload X0 hx 16 (hb hby d46_14) rfl rfl ?_
      refine P.iload X0 hx 18 (hb hby d46_16) rfl rfl ?_
      refine P.icmpNo X0 hx 21 (hb hby d46_18) (by decide) rfl ?_
      refine P.aloadN X0 hx 22 (hb hby d46_21) rfl rfl rfl ?_
      refine P.iload X0 hx 24 (hb hby d46_22) rfl rfl ?_
      refine WS.bld X0 hx P0 (j := (0 : Int32)) (x := (ca.toInt8.toInt32)) (by decide) rfl (hb hby d46_24) ?_
      refine P.iload X0 hx 27 (hb hby d46_25) rfl rfl ?_
      refine P.icmpNo X0 hx 30 (hb hby d46_27) (feq ((not_congr (b58 hr_ca)).mpr e0)).1 rfl ?_
      refine P.iinc X0 hx 33 #[.val (.ref b), .val (.int 3), .val (.ref d), .val (.int 1), .val (.int 0), .val (.int 58), .val (.int 2), .val (.int 1), .unset, .unset, .unset] (hb hby d46_30) rfl rfl rfl ?_
      refine P.iload X0 hx 35 (hb hby d46_33) rfl rfl ?_
      refine P.iload X0 hx 37 (hb hby d46_35) rfl rfl ?_
      refine P.icmpNo X0 hx 40 (hb hby d46_37) (by decide) rfl ?_
      refine P.aloadN X0 hx 41 (hb hby d46_40) rfl rfl rfl ?_
      refine P.iload X0 hx 43 (hb hby d46_41) rfl rfl ?_
      refine WS.bld X0 hx P0 (j := (1 : Int32)) (x := (cb.toInt8.toInt32)) (by decide) rfl (hb hby d46_43) ?_
      refine P.iload X0 hx 46 (hb hby d46_44) rfl rfl ?_
      refine P.icmpYes X0 hx 52 (hb hby d46_46) (teq ((b58 hr_cb).mpr e1)).1 (by decide) (by decide) ?_
      refine P.iload X0 hx 54 (hb hby d46_52) rfl rfl ?_
      refine P.iload X0 hx 56 (hb hby d46_54) rfl rfl ?_
      refine P.icmpNo X0 hx 59 (hb hby d46_56) (by decide) rfl ?_
      refine P.iload X0 hx 61 (hb hby d46_59) rfl rfl ?_
      refine P.iconst X0 hx 62 1 (hb hby d46_61) rfl rfl ?_
      refine P.iadd X0 hx 63 (z := (2 : Int32)) (hb hby d46_62) rfl rfl ?_
      refine P.istore X0 hx 65 #[.val (.ref b), .val (.int 3), .val (.ref d), .val (.int 1), .val (.int 0), .val (.int 58), .val (.int 2), .val (.int 1), .val (.int 2), .unset, .unset] (hb hby d46_63) rfl rfl ?_
      refine P.iload X0 hx 67 (hb hby d46_65) rfl rfl ?_
      refine P.iloadN X0 hx 68 (hb hby d46_67) rfl rfl ?_
      refine P.iadd X0 hx 69 (z := (3 : Int32)) (hb hby d46_68) rfl rfl ?_
      refine P.iconst X0 hx 70 1 (hb hby d46_69) rfl rfl ?_
      refine P.isub X0 hx 71 (z := (2 : Int32)) (hb hby d46_70) rfl rfl ?_
      refine P.istore X0 hx 73 #[.val (.ref b), .val (.int 3), .val (.ref d), .val (.int 1), .val (.int 0), .val (.int 58), .val (.int 2), .val (.int 1), .val (.int 2), .val (.int 2), .unset] (hb hby d46_71) rfl rfl ?_
      refine P.iconst X0 hx 74 1 (hb hby d46_73) rfl rfl ?_
      refine P.istore X0 hx 76 #[.val (.ref b), .val (.int 3), .val (.ref d), .val (.int 1), .val (.int 0), .val (.int 58), .val (.int 2), .val (.int 1), .val (.int 2), .val (.int 2), .val (.int 1)] (hb hby d46_74) rfl rfl ?_
      refine P.iload X0 hx 78 (hb hby d46_76) rfl rfl ?_
      refine P.iload X0 hx 80 (hb hby d46_78) rfl rfl ?_
      refine P.icmpYes X0 hx 103 (hb hby d46_80) (by decide) (by decide) (by decide) ?_
      refine P.iload X0 hx 105 (hb hby d46_103) rfl rfl ?_
      refine P.iload X0 hx 107 (hb hby d46_105) rfl rfl ?_
      refine P.icmpNo X0 hx 110 (hb hby d46_107) (by decide) rfl ?_
      refine P.iload X0 hx 112 (hb hby d46_110) rfl rfl ?_
      exact WS.retI X0 (WL' := []) (FL' := []) hx hret hlk (hb hby d46_112) (nle rfl) (nle rfl) ⟨(1 : Int32), rfl, rfl, rfl, rfl, (Or.inl ⟨by decide, by rw [e1]; simp⟩)⟩
    · skip
      by_cases e2 : cc = 58
      · skip
        refine P.aloadN X0 hx 1 (hb hby d46_0) rfl rfl rfl ?_
        refine P.iconst X0 hx 2 0 (hb hby d46_1) rfl rfl ?_
        refine WS.bld X0 hx P1 (j := (0 : Int32)) (x := (58 : Int32)) (by decide) rfl (hb hby d46_2) ?_
        refine P.istore X0 hx 5 #[.val (.ref b), .val (.int 3), .val (.ref d), .val (.int 1), .val (.int 0), .val (.int 58), .unset, .unset, .unset, .unset, .unset] (hb hby d46_3) rfl rfl ?_
        refine P.iloadN X0 hx 6 (hb hby d46_5) rfl rfl ?_
        refine P.iloadN X0 hx 7 (hb hby d46_6) rfl rfl ?_
        refine P.isub X0 hx 8 (z := (2 : Int32)) (hb hby d46_7) rfl rfl ?_
        refine P.istore X0 hx 10 #[.val (.ref b), .val (.int 3), .val (.ref d), .val (.int 1), .val (.int 0), .val (.int 58), .val (.int 2), .unset, .unset, .unset, .unset] (hb hby d46_8) rfl rfl ?_
        refine P.iload X0 hx 12 (hb hby d46_10) rfl rfl ?_
        refine P.istore X0 hx 14 #[.val (.ref b), .val (.int 3), .val (.ref d), .val (.int 1), .val (.int 0), .val (.int 58), .val (.int 2), .val (.int 0), .unset, .unset, .unset] (hb hby d46_12) rfl rfl ?_
        refine P.iload X0 hx 16 (hb hby d46_14) rfl rfl ?_
        refine P.iload X0 hx 18 (hb hby d46_16) rfl rfl ?_
        refine P.icmpNo X0 hx 21 (hb hby d46_18) (by decide) rfl ?_
        refine P.aloadN X0 hx 22 (hb hby d46_21) rfl rfl rfl ?_
        refine P.iload X0 hx 24 (hb hby d46_22) rfl rfl ?_
        refine WS.bld X0 hx P0 (j := (0 : Int32)) (x := (ca.toInt8.toInt32)) (by decide) rfl (hb hby d46_24) ?_
        refine P.iload X0 hx 27 (hb hby d46_25) rfl rfl ?_
        refine P.icmpNo X0 hx 30 (hb hby d46_27) (feq ((not_congr (b58 hr_ca)).mpr e0)).1 rfl ?_
        refine P.iinc X0 hx 33 #[.val (.ref b), .val (.int 3), .val (.ref d), .val (.int 1), .val (.int 0), .val (.int 58), .val (.int 2), .val (.int 1), .unset, .unset, .unset] (hb hby d46_30) rfl rfl rfl ?_
        refine P.iload X0 hx 35 (hb hby d46_33) rfl rfl ?_
        refine P.iload X0 hx 37 (hb hby d46_35) rfl rfl ?_
        refine P.icmpNo X0 hx 40 (hb hby d46_37) (by decide) rfl ?_
        refine P.aloadN X0 hx 41 (hb hby d46_40) rfl rfl rfl ?_
        refine P.iload X0 hx 43 (hb hby d46_41) rfl rfl ?_
        refine WS.bld X0 hx P0 (j := (1 : Int32)) (x := (cb.toInt8.toInt32)) (by decide) rfl (hb hby d46_43) ?_
        refine P.iload X0 hx 46 (hb hby d46_44) rfl rfl ?_
        refine P.icmpNo X0 hx 49 (hb hby d46_46) (feq ((not_congr (b58 hr_cb)).mpr e1)).1 rfl ?_
        refine P.goto X0 hx 30 (hb hby d46_49) (by decide) (by decide) ?_
        refine P.iinc X0 hx 33 #[.val (.ref b), .val (.int 3), .val (.ref d), .val (.int 1), .val (.int 0), .val (.int 58), .val (.int 2), .val (.int 2), .unset, .unset, .unset] (hb hby d46_30) rfl rfl rfl ?_
        refine P.iload X0 hx 35 (hb hby d46_33) rfl rfl ?_
        refine P.iload X0 hx 37 (hb hby d46_35) rfl rfl ?_
        refine P.icmpNo X0 hx 40 (hb hby d46_37) (by decide) rfl ?_
        refine P.aloadN X0 hx 41 (hb hby d46_40) rfl rfl rfl ?_
        refine P.iload X0 hx 43 (hb hby d46_41) rfl rfl ?_
        refine WS.bld X0 hx P0 (j := (2 : Int32)) (x := (cc.toInt8.toInt32)) (by decide) rfl (hb hby d46_43) ?_
        refine P.iload X0 hx 46 (hb hby d46_44) rfl rfl ?_
        refine P.icmpYes X0 hx 52 (hb hby d46_46) (teq ((b58 hr_cc).mpr e2)).1 (by decide) (by decide) ?_
        refine P.iload X0 hx 54 (hb hby d46_52) rfl rfl ?_
        refine P.iload X0 hx 56 (hb hby d46_54) rfl rfl ?_
        refine P.icmpNo X0 hx 59 (hb hby d46_56) (by decide) rfl ?_
        refine P.iload X0 hx 61 (hb hby d46_59) rfl rfl ?_
        refine P.iconst X0 hx 62 1 (hb hby d46_61) rfl rfl ?_
        refine P.iadd X0 hx 63 (z := (3 : Int32)) (hb hby d46_62) rfl rfl ?_
        refine P.istore X0 hx 65 #[.val (.ref b), .val (.int 3), .val (.ref d), .val (.int 1), .val (.int 0), .val (.int 58), .val (.int 2), .val (.int 2), .val (.int 3), .unset, .unset] (hb hby d46_63) rfl rfl ?_
        refine P.iload X0 hx 67 (hb hby d46_65) rfl rfl ?_
        refine P.iloadN X0 hx 68 (hb hby d46_67) rfl rfl ?_
        refine P.iadd X0 hx 69 (z := (4 : Int32)) (hb hby d46_68) rfl rfl ?_
        refine P.iconst X0 hx 70 1 (hb hby d46_69) rfl rfl ?_
        refine P.isub X0 hx 71 (z := (3 : Int32)) (hb hby d46_70) rfl rfl ?_
        refine P.istore X0 hx 73 #[.val (.ref b), .val (.int 3), .val (.ref d), .val (.int 1), .val (.int 0), .val (.int 58), .val (.int 2), .val (.int 2), .val (.int 3), .val (.int 3), .unset] (hb hby d46_71) rfl rfl ?_
        refine P.iconst X0 hx 74 1 (hb hby d46_73) rfl rfl ?_
        refine P.istore X0 hx 76 #[.val (.ref b), .val (.int 3), .val (.ref d), .val (.int 1), .val (.int 0), .val (.int 58), .val (.int 2), .val (.int 2), .val (.int 3), .val (.int 3), .val (.int 1)] (hb hby d46_74) rfl rfl ?_
        refine P.iload X0 hx 78 (hb hby d46_76) rfl rfl ?_
        refine P.iload X0 hx 80 (hb hby d46_78) rfl rfl ?_
        refine P.icmpYes X0 hx 103 (hb hby d46_80) (by decide) (by decide) (by decide) ?_
        refine P.iload X0 hx 105 (hb hby d46_103) rfl rfl ?_
        refine P.iload X0 hx 107 (hb hby d46_105) rfl rfl ?_
        refine P.icmpNo X0 hx 110 (hb hby d46_107) (by decide) rfl ?_
        refine P.iload X0 hx 112 (hb hby d46_110) rfl rfl ?_
        exact WS.retI X0 (WL' := []) (FL' := []) hx hret hlk (hb hby d46_112) (nle rfl) (nle rfl) ⟨(2 : Int32), rfl, rfl, rfl, rfl, (Or.inl ⟨by decide, by rw [e2]; simp⟩)⟩
      · skip
        refine P.aloadN X0 hx 1 (hb hby d46_0) rfl rfl rfl ?_
        refine P.iconst X0 hx 2 0 (hb hby d46_1) rfl rfl ?_
        refine WS.bld X0 hx P1 (j := (0 : Int32)) (x := (58 : Int32)) (by decide) rfl (hb hby d46_2) ?_
        refine P.istore X0 hx 5 #[.val (.ref b), .val (.int 3), .val (.ref d), .val (.int 1), .val (.int 0), .val (.int 58), .unset, .unset, .unset, .unset, .unset] (hb hby d46_3) rfl rfl ?_
        refine P.iloadN X0 hx 6 (hb hby d46_5) rfl rfl ?_
        refine P.iloadN X0 hx 7 (hb hby d46_6) rfl rfl ?_
        refine P.isub X0 hx 8 (z := (2 : Int32)) (hb hby d46_7) rfl rfl ?_
        refine P.istore X0 hx 10 #[.val (.ref b), .val (.int 3), .val (.ref d), .val (.int 1), .val (.int 0), .val (.int 58), .val (.int 2), .unset, .unset, .unset, .unset] (hb hby d46_8) rfl rfl ?_
        refine P.iload X0 hx 12 (hb hby d46_10) rfl rfl ?_
        refine P.istore X0 hx 14 #[.val (.ref b), .val (.int 3), .val (.ref d), .val (.int 1), .val (.int 0), .val (.int 58), .val (.int 2), .val (.int 0), .unset, .unset, .unset] (hb hby d46_12) rfl rfl ?_
        refine P.iload X0 hx 16 (hb hby d46_14) rfl rfl ?_
        refine P.iload X0 hx 18 (hb hby d46_16) rfl rfl ?_
        refine P.icmpNo X0 hx 21 (hb hby d46_18) (by decide) rfl ?_
        refine P.aloadN X0 hx 22 (hb hby d46_21) rfl rfl rfl ?_
        refine P.iload X0 hx 24 (hb hby d46_22) rfl rfl ?_
        refine WS.bld X0 hx P0 (j := (0 : Int32)) (x := (ca.toInt8.toInt32)) (by decide) rfl (hb hby d46_24) ?_
        refine P.iload X0 hx 27 (hb hby d46_25) rfl rfl ?_
        refine P.icmpNo X0 hx 30 (hb hby d46_27) (feq ((not_congr (b58 hr_ca)).mpr e0)).1 rfl ?_
        refine P.iinc X0 hx 33 #[.val (.ref b), .val (.int 3), .val (.ref d), .val (.int 1), .val (.int 0), .val (.int 58), .val (.int 2), .val (.int 1), .unset, .unset, .unset] (hb hby d46_30) rfl rfl rfl ?_
        refine P.iload X0 hx 35 (hb hby d46_33) rfl rfl ?_
        refine P.iload X0 hx 37 (hb hby d46_35) rfl rfl ?_
        refine P.icmpNo X0 hx 40 (hb hby d46_37) (by decide) rfl ?_
        refine P.aloadN X0 hx 41 (hb hby d46_40) rfl rfl rfl ?_
        refine P.iload X0 hx 43 (hb hby d46_41) rfl rfl ?_
        refine WS.bld X0 hx P0 (j := (1 : Int32)) (x := (cb.toInt8.toInt32)) (by decide) rfl (hb hby d46_43) ?_
        refine P.iload X0 hx 46 (hb hby d46_44) rfl rfl ?_
        refine P.icmpNo X0 hx 49 (hb hby d46_46) (feq ((not_congr (b58 hr_cb)).mpr e1)).1 rfl ?_
        refine P.goto X0 hx 30 (hb hby d46_49) (by decide) (by decide) ?_
        refine P.iinc X0 hx 33 #[.val (.ref b), .val (.int 3), .val (.ref d), .val (.int 1), .val (.int 0), .val (.int 58), .val (.int 2), .val (.int 2), .unset, .unset, .unset] (hb hby d46_30) rfl rfl rfl ?_
        refine P.iload X0 hx 35 (hb hby d46_33) rfl rfl ?_
        refine P.iload X0 hx 37 (hb hby d46_35) rfl rfl ?_
        refine P.icmpNo X0 hx 40 (hb hby d46_37) (by decide) rfl ?_
        refine P.aloadN X0 hx 41 (hb hby d46_40) rfl rfl rfl ?_
        refine P.iload X0 hx 43 (hb hby d46_41) rfl rfl ?_
        refine WS.bld X0 hx P0 (j := (2 : Int32)) (x := (cc.toInt8.toInt32)) (by decide) rfl (hb hby d46_43) ?_
        refine P.iload X0 hx 46 (hb hby d46_44) rfl rfl ?_
        refine P.icmpNo X0 hx 49 (hb hby d46_46) (feq ((not_congr (b58 hr_cc)).mpr e2)).1 rfl ?_
        refine P.goto X0 hx 30 (hb hby d46_49) (by decide) (by decide) ?_
        refine P.iinc X0 hx 33 #[.val (.ref b), .val (.int 3), .val (.ref d), .val (.int 1), .val (.int 0), .val (.int 58), .val (.int 2), .val (.int 3), .unset, .unset, .unset] (hb hby d46_30) rfl rfl rfl ?_
        refine P.iload X0 hx 35 (hb hby d46_33) rfl rfl ?_
        refine P.iload X0 hx 37 (hb hby d46_35) rfl rfl ?_
        refine P.icmpYes X0 hx 52 (hb hby d46_37) (by decide) (by decide) (by decide) ?_
        refine P.iload X0 hx 54 (hb hby d46_52) rfl rfl ?_
        refine P.iload X0 hx 56 (hb hby d46_54) rfl rfl ?_
        refine P.icmpYes X0 hx 113 (hb hby d46_56) (by decide) (by decide) (by decide) ?_
        refine P.iinc X0 hx 116 #[.val (.ref b), .val (.int 3), .val (.ref d), .val (.int 1), .val (.int 0), .val (.int 58), .val (.int 2), .val (.int 4), .unset, .unset, .unset] (hb hby d46_113) rfl rfl rfl ?_
        refine P.goto X0 hx 14 (hb hby d46_116) (by decide) (by decide) ?_
        refine P.iload X0 hx 16 (hb hby d46_14) rfl rfl ?_
        refine P.iload X0 hx 18 (hb hby d46_16) rfl rfl ?_
        refine P.icmpYes X0 hx 119 (hb hby d46_18) (by decide) (by decide) (by decide) ?_
        refine P.iconst X0 hx 120 (-1) (hb hby d46_119) rfl rfl ?_
        exact WS.retI X0 (WL' := []) (FL' := []) hx hret hlk (hb hby d46_120) (nle rfl) (nle rfl) ⟨(-1 : Int32), rfl, rfl, rfl, rfl, (Or.inr ⟨by decide, nm3 e0 e1 e2⟩)⟩
def Q_ixb0 (Z : State) (gC : Int32) (gF : Value) (v_DO : Addr) (k_DO : ClassId) (v_DT : Addr) (k_DT : ClassId) (b : Addr) (kb : ClassId) (d : Addr) (kd : ClassId) (h : Heap) (v : Option Value) (h' : Heap) (WL' FL' : List Addr) : Prop := ∃ r : Int32, v = some (.int r) ∧ WL' = [] ∧ FL' = [] ∧ h' = h ∧ ((¬ r < 0 ∧ (58 : Int32) ∈ []) ∨ (r < 0 ∧ (58 : Int32) ∉ []))
theorem ct_ixb0 (cx : Cx a0 Z gC gF v_DO k_DO v_DT k_DT) (b : Addr) (kb : ClassId) (d : Addr) (kd : ClassId) (h : Heap) (WL FL : List Addr) (P0 : Arv Z h b kb .byte (0 : Int32) [] (.int 0)) (P1 : Arv Z h d kd .byte (1 : Int32) [(.int 58)] (.int 0)) :
    Ct l Z EL1 n0 (⟨"java/lang/StringLatin1", "indexOf", "([B[B)I"⟩ : MethodName) jdk_43_method_24_code 2 (Option.some FieldType.int) ({ frames := 0, cells := 0, slots := 0, locals := 0 } : Room) #[(.ref b), (.ref d)] h WL FL (Q_ixb0 Z gC gF v_DO k_DO v_DT k_DT b kb d kd h) := by
  refine Ct.of (plainFor_of_name pn5) ?_
  intro p e s m below meth c s1 hx hby hml hnm hret hlk X0
  refine Wo.cast (f' := (mkF m 0 #[.val (.ref b), .val (.ref d)] [])) (by rfl) ?_
  show Wo _ _ _ _ _ _ _ _ _ _ _ s1 (mkF m 0 #[.val (.ref b), .val (.ref d)] [])
  refine P.aloadN X0 hx 1 (hb hby d13_0) rfl rfl rfl ?_
  refine WS.alen X0 hx P1 (hb hby d13_1) ?_
  refine P.ifYes X0 hx 7 (hb hby d13_2) (by decide) (by decide) (by decide) ?_
  refine P.aloadN X0 hx 8 (hb hby d13_7) rfl rfl rfl ?_
  refine WS.alen X0 hx P0 (hb hby d13_8) ?_
  refine P.ifNo X0 hx 12 (hb hby d13_9) (by decide) rfl ?_
  refine P.iconst X0 hx 13 (-1) (hb hby d13_12) rfl rfl ?_
  exact WS.retI X0 (WL' := []) (FL' := []) hx hret hlk (hb hby d13_13) (nle rfl) (nle rfl) ⟨(-1 : Int32), rfl, rfl, rfl, rfl, (Or.inr ⟨by decide, by simp⟩)⟩
def Q_ixb1 (Z : State) (gC : Int32) (gF : Value) (v_DO : Addr) (k_DO : ClassId) (v_DT : Addr) (k_DT : ClassId) (b : Addr) (kb : ClassId) (d : Addr) (kd : ClassId) (ca : Int32) (h : Heap) (v : Option Value) (h' : Heap) (WL' FL' : List Addr) : Prop := ∃ r : Int32, v = some (.int r) ∧ WL' = [] ∧ FL' = [] ∧ h' = h ∧ ((¬ r < 0 ∧ (58 : Int32) ∈ [ca]) ∨ (r < 0 ∧ (58 : Int32) ∉ [ca]))
theorem ct_ixb1 (cx : Cx a0 Z gC gF v_DO k_DO v_DT k_DT) (b : Addr) (kb : ClassId) (d : Addr) (kd : ClassId) (ca : Int32) (h : Heap) (WL FL : List Addr) (P0 : Arv Z h b kb .byte (1 : Int32) [(.int (ca.toInt8.toInt32))] (.int 0)) (P1 : Arv Z h d kd .byte (1 : Int32) [(.int 58)] (.int 0)) (hr_ca : ¬ ca < 0 ∧ ¬ (255 : Int32) < ca) :
    Ct l Z EL1 n0 (⟨"java/lang/StringLatin1", "indexOf", "([B[B)I"⟩ : MethodName) jdk_43_method_24_code 2 (Option.some FieldType.int) ({ frames := 1, cells := 0, slots := 0, locals := 22 } : Room) #[(.ref b), (.ref d)] h WL FL (Q_ixb1 Z gC gF v_DO k_DO v_DT k_DT b kb d kd ca h) := by
  refine Ct.of (plainFor_of_name pn5) ?_
  intro p e s m below meth c s1 hx hby hml hnm hret hlk X0
  refine Wo.cast (f' := (mkF m 0 #[.val (.ref b), .val (.ref d)] [])) (by rfl) ?_
  show Wo _ _ _ _ _ _ _ _ _ _ _ s1 (mkF m 0 #[.val (.ref b), .val (.ref d)] [])
  refine P.aloadN X0 hx 1 (hb hby d13_0) rfl rfl rfl ?_
  refine WS.alen X0 hx P1 (hb hby d13_1) ?_
  refine P.ifYes X0 hx 7 (hb hby d13_2) (by decide) (by decide) (by decide) ?_
  refine P.aloadN X0 hx 8 (hb hby d13_7) rfl rfl rfl ?_
  refine WS.alen X0 hx P0 (hb hby d13_8) ?_
  refine P.ifYes X0 hx 14 (hb hby d13_9) (by decide) (by decide) (by decide) ?_
  refine P.aloadN X0 hx 15 (hb hby d13_14) rfl rfl rfl ?_
  refine P.aloadN X0 hx 16 (hb hby d13_15) rfl rfl rfl ?_
  refine WS.alen X0 hx P0 (hb hby d13_16) ?_
  refine P.aloadN X0 hx 18 (hb hby d13_17) rfl rfl rfl ?_
  refine P.aloadN X0 hx 19 (hb hby d13_18) rfl rfl rfl ?_
  refine WS.alen X0 hx P1 (hb hby d13_19) ?_
  refine P.iconst X0 hx 21 0 (hb hby d13_20) rfl rfl ?_
  refine X0.callS hx (w234 cx) (w235 cx) (w90 cx) (w236 cx) (by decide) (Ct.pay (W := 0) (ct_ixi1 cx b kb d kd ca h _ _ P0 P1 hr_ca) (w236 cx) (w90 cx) (nle rfl) (nle rfl)) (by rw [hml]; rfl) (argsL := [.ref b, .int 1, .ref d, .int 1, .int 0]) (rest := []) (lenOf pd18 rfl) rfl rfl (Nat.le_of_eq rfl) (hb hby d13_21) (nle rfl) (nle rfl) ?_
  rintro T1 h1 _ _ _ X1 ⟨x2, rfl, rfl, rfl, J1, G3⟩
  rw [J1] at X1
  exact WS.retI X1 (WL' := []) (FL' := []) hx hret hlk (hb hby d13_24) (nle rfl) (nle rfl) ⟨x2, rfl, rfl, rfl, rfl, G3⟩
def Q_ixb2 (Z : State) (gC : Int32) (gF : Value) (v_DO : Addr) (k_DO : ClassId) (v_DT : Addr) (k_DT : ClassId) (b : Addr) (kb : ClassId) (d : Addr) (kd : ClassId) (ca : Int32) (cb : Int32) (h : Heap) (v : Option Value) (h' : Heap) (WL' FL' : List Addr) : Prop := ∃ r : Int32, v = some (.int r) ∧ WL' = [] ∧ FL' = [] ∧ h' = h ∧ ((¬ r < 0 ∧ (58 : Int32) ∈ [ca, cb]) ∨ (r < 0 ∧ (58 : Int32) ∉ [ca, cb]))
theorem ct_ixb2 (cx : Cx a0 Z gC gF v_DO k_DO v_DT k_DT) (b : Addr) (kb : ClassId) (d : Addr) (kd : ClassId) (ca : Int32) (cb : Int32) (h : Heap) (WL FL : List Addr) (P0 : Arv Z h b kb .byte (2 : Int32) [(.int (ca.toInt8.toInt32)), (.int (cb.toInt8.toInt32))] (.int 0)) (P1 : Arv Z h d kd .byte (1 : Int32) [(.int 58)] (.int 0)) (hr_ca : ¬ ca < 0 ∧ ¬ (255 : Int32) < ca) (hr_cb : ¬ cb < 0 ∧ ¬ (255 : Int32) < cb) :
    Ct l Z EL1 n0 (⟨"java/lang/StringLatin1", "indexOf", "([B[B)I"⟩ : MethodName) jdk_43_method_24_code 2 (Option.some FieldType.int) ({ frames := 1, cells := 0, slots := 0, locals := 22 } : Room) #[(.ref b), (.ref d)] h WL FL (Q_ixb2 Z gC gF v_DO k_DO v_DT k_DT b kb d kd ca cb h) := by
  refine Ct.of (plainFor_of_name pn5) ?_
  intro p e s m below meth c s1 hx hby hml hnm hret hlk X0
  refine Wo.cast (f' := (mkF m 0 #[.val (.ref b), .val (.ref d)] [])) (by rfl) ?_
  show Wo _ _ _ _ _ _ _ _ _ _ _ s1 (mkF m 0 #[.val (.ref b), .val (.ref d)] [])
  refine P.aloadN X0 hx 1 (hb hby d13_0) rfl rfl rfl ?_
  refine WS.alen X0 hx P1 (hb hby d13_1) ?_
  refine P.ifYes X0 hx 7 (hb hby d13_2) (by decide) (by decide) (by decide) ?_
  refine P.aloadN X0 hx 8 (hb hby d13_7) rfl rfl rfl ?_
  refine WS.alen X0 hx P0 (hb hby d13_8) ?_
  refine P.ifYes X0 hx 14 (hb hby d13_9) (by decide) (by decide) (by decide) ?_
  refine P.aloadN X0 hx 15 (hb hby d13_14) rfl rfl rfl ?_
  refine P.aloadN X0 hx 16 (hb hby d13_15) rfl rfl rfl ?_
  refine WS.alen X0 hx P0 (hb hby d13_16) ?_
  refine P.aloadN X0 hx 18 (hb hby d13_17) rfl rfl rfl ?_
  refine P.aloadN X0 hx 19 (hb hby d13_18) rfl rfl rfl ?_
  refine WS.alen X0 hx P1 (hb hby d13_19) ?_
  refine P.iconst X0 hx 21 0 (hb hby d13_20) rfl rfl ?_
  refine X0.callS hx (w234 cx) (w235 cx) (w90 cx) (w236 cx) (by decide) (Ct.pay (W := 0) (ct_ixi2 cx b kb d kd ca cb h _ _ P0 P1 hr_ca hr_cb) (w236 cx) (w90 cx) (nle rfl) (nle rfl)) (by rw [hml]; rfl) (argsL := [.ref b, .int 2, .ref d, .int 1, .int 0]) (rest := []) (lenOf pd18 rfl) rfl rfl (Nat.le_of_eq rfl) (hb hby d13_21) (nle rfl) (nle rfl) ?_
  rintro T1 h1 _ _ _ X1 ⟨x2, rfl, rfl, rfl, J1, G3⟩
  rw [J1] at X1
  exact WS.retI X1 (WL' := []) (FL' := []) hx hret hlk (hb hby d13_24) (nle rfl) (nle rfl) ⟨x2, rfl, rfl, rfl, rfl, G3⟩
def Q_ixb3 (Z : State) (gC : Int32) (gF : Value) (v_DO : Addr) (k_DO : ClassId) (v_DT : Addr) (k_DT : ClassId) (b : Addr) (kb : ClassId) (d : Addr) (kd : ClassId) (ca : Int32) (cb : Int32) (cc : Int32) (h : Heap) (v : Option Value) (h' : Heap) (WL' FL' : List Addr) : Prop := ∃ r : Int32, v = some (.int r) ∧ WL' = [] ∧ FL' = [] ∧ h' = h ∧ ((¬ r < 0 ∧ (58 : Int32) ∈ [ca, cb, cc]) ∨ (r < 0 ∧ (58 : Int32) ∉ [ca, cb, cc]))
theorem ct_ixb3 (cx : Cx a0 Z gC gF v_DO k_DO v_DT k_DT) (b : Addr) (kb : ClassId) (d : Addr) (kd : ClassId) (ca : Int32) (cb : Int32) (cc : Int32) (h : Heap) (WL FL : List Addr) (P0 : Arv Z h b kb .byte (3 : Int32) [(.int (ca.toInt8.toInt32)), (.int (cb.toInt8.toInt32)), (.int (cc.toInt8.toInt32))] (.int 0)) (P1 : Arv Z h d kd .byte (1 : Int32) [(.int 58)] (.int 0)) (hr_ca : ¬ ca < 0 ∧ ¬ (255 : Int32) < ca) (hr_cb : ¬ cb < 0 ∧ ¬ (255 : Int32) < cb) (hr_cc : ¬ cc < 0 ∧ ¬ (255 : Int32) < cc) :
    Ct l Z EL1 n0 (⟨"java/lang/StringLatin1", "indexOf", "([B[B)I"⟩ : MethodName) jdk_43_method_24_code 2 (Option.some FieldType.int) ({ frames := 1, cells := 0, slots := 0, locals := 22 } : Room) #[(.ref b), (.ref d)] h WL FL (Q_ixb3 Z gC gF v_DO k_DO v_DT k_DT b kb d kd ca cb cc h) := by
  refine Ct.of (plainFor_of_name pn5) ?_
  intro p e s m below meth c s1 hx hby hml hnm hret hlk X0
  refine Wo.cast (f' := (mkF m 0 #[.val (.ref b), .val (.ref d)] [])) (by rfl) ?_
  show Wo _ _ _ _ _ _ _ _ _ _ _ s1 (mkF m 0 #[.val (.ref b), .val (.ref d)] [])
  refine P.aloadN X0 hx 1 (hb hby d13_0) rfl rfl rfl ?_
  refine WS.alen X0 hx P1 (hb hby d13_1) ?_
  refine P.ifYes X0 hx 7 (hb hby d13_2) (by decide) (by decide) (by decide) ?_
  refine P.aloadN X0 hx 8 (hb hby d13_7) rfl rfl rfl ?_
  refine WS.alen X0 hx P0 (hb hby d13_8) ?_
  refine P.ifYes X0 hx 14 (hb hby d13_9) (by decide) (by decide) (by decide) ?_
  refine P.aloadN X0 hx 15 (hb hby d13_14) rfl rfl rfl ?_
  refine P.aloadN X0 hx 16 (hb hby d13_15) rfl rfl rfl ?_
  refine WS.alen X0 hx P0 (hb hby d13_16) ?_
  refine P.aloadN X0 hx 18 (hb hby d13_17) rfl rfl rfl ?_
  refine P.aloadN X0 hx 19 (hb hby d13_18) rfl rfl rfl ?_
  refine WS.alen X0 hx P1 (hb hby d13_19) ?_
  refine P.iconst X0 hx 21 0 (hb hby d13_20) rfl rfl ?_
  refine X0.callS hx (w234 cx) (w235 cx) (w90 cx) (w236 cx) (by decide) (Ct.pay (W := 0) (ct_ixi3 cx b kb d kd ca cb cc h _ _ P0 P1 hr_ca hr_cb hr_cc) (w236 cx) (w90 cx) (nle rfl) (nle rfl)) (by rw [hml]; rfl) (argsL := [.ref b, .int 3, .ref d, .int 1, .int 0]) (rest := []) (lenOf pd18 rfl) rfl rfl (Nat.le_of_eq rfl) (hb hby d13_21) (nle rfl) (nle rfl) ?_
  rintro T1 h1 _ _ _ X1 ⟨x2, rfl, rfl, rfl, J1, G3⟩
  rw [J1] at X1
  exact WS.retI X1 (WL' := []) (FL' := []) hx hret hlk (hb hby d13_24) (nle rfl) (nle rfl) ⟨x2, rfl, rfl, rfl, rfl, G3⟩
def Q_isL1 (Z : State) (gC : Int32) (gF : Value) (v_DO : Addr) (k_DO : ClassId) (v_DT : Addr) (k_DT : ClassId) (x : Addr) (h : Heap) (v : Option Value) (h' : Heap) (WL' FL' : List Addr) : Prop := v = some (.int 1) ∧ WL' = [] ∧ FL' = [] ∧ h' = h
theorem ct_isL1 (cx : Cx a0 Z gC gF v_DO k_DO v_DT k_DT) (x : Addr) (h : Heap) (WL FL : List Addr) (P0 : Fld Z h x "java/lang/String" "coder" "B" (.int 0)) :
    Ct l Z EL1 n0 (⟨"java/lang/String", "isLatin1", "()Z"⟩ : MethodName) jdk_42_method_154_code 1 (Option.some FieldType.boolean) ({ frames := 0, cells := 0, slots := 0, locals := 0 } : Room) #[(.ref x)] h WL FL (Q_isL1 Z gC gF v_DO k_DO v_DT k_DT x h) := by
  refine Ct.of (plainFor_of_name pn0) ?_
  intro p e s m below meth c s1 hx hby hml hnm hret hlk X0
  refine Wo.cast (f' := (mkF m 0 #[.val (.ref x)] [])) (by rfl) ?_
  show Wo _ _ _ _ _ _ _ _ _ _ _ s1 (mkF m 0 #[.val (.ref x)] [])
  refine X0.getS hx (w82 cx) Via.refl (S_C cx) (hb hby d12_0) ?_
  intro T1 X1
  refine P.ifNo X1 hx 6 (hb hby d12_3) ((if0 _ _).trans (feq (N_C cx)).1) rfl ?_
  refine P.aloadN X1 hx 7 (hb hby d12_6) rfl rfl rfl ?_
  refine X1.getF hx (host := "") (Or.inl (w21 cx)) Via.refl P0 (hb hby d12_7) ?_
  intro T2 X2
  refine P.ifNo X2 hx 13 (hb hby d12_10) (by decide) rfl ?_
  refine P.iconst X2 hx 14 1 (hb hby d12_13) rfl rfl ?_
  refine P.goto X2 hx 18 (hb hby d12_14) (by decide) (by decide) ?_
  exact WS.retN X2 (WL' := []) (FL' := []) hx (t := .boolean) hret (by simp) hlk (hb hby d12_18) (nle rfl) (nle rfl) ⟨rfl, rfl, rfl, rfl⟩
def Q_six0 (Z : State) (gC : Int32) (gF : Value) (v_DO : Addr) (k_DO : ClassId) (v_DT : Addr) (k_DT : ClassId) (x : Addr) (t : Addr) (g : Addr) (u : Addr) (ca : Int32) (cb : Int32) (cc : Int32) (h : Heap) (v : Option Value) (h' : Heap) (WL' FL' : List Addr) : Prop := ∃ r : Int32, v = some (.int r) ∧ WL' = [] ∧ FL' = [] ∧ h' = h ∧ ((¬ r < 0 ∧ (58 : Int32) ∈ []) ∨ (r < 0 ∧ (58 : Int32) ∉ []))
theorem ct_six0 (cx : Cx a0 Z gC gF v_DO k_DO v_DT k_DT) (x : Addr) (t : Addr) (g : Addr) (u : Addr) (ca : Int32) (cb : Int32) (cc : Int32) (h : Heap) (WL FL : List Addr) (P0 : StrL Z h x t []) (P1 : StrL Z h g u [(58 : Int32)]) (hr_ca : ¬ ca < 0 ∧ ¬ (255 : Int32) < ca) (hr_cb : ¬ cb < 0 ∧ ¬ (255 : Int32) < cb) (hr_cc : ¬ cc < 0 ∧ ¬ (255 : Int32) < cc) :
    Ct l Z EL1 n0 (⟨"java/lang/String", "indexOf", "(Ljava/lang/String;)I"⟩ : MethodName) jdk_42_method_84_code 3 (Option.some FieldType.int) ({ frames := 2, cells := 0, slots := 0, locals := 35 } : Room) #[(.ref x), (.ref g)] h WL FL (Q_six0 Z gC gF v_DO k_DO v_DT k_DT x t g u ca cb cc h) := by
  refine Ct.of (plainFor_of_name pn0) ?_
  intro p e s m below meth c s1 hx hby hml hnm hret hlk X0
  refine Wo.cast (f' := (mkF m 0 #[.val (.ref x), .val (.ref g), .unset] [])) (by rfl) ?_
  show Wo _ _ _ _ _ _ _ _ _ _ _ s1 (mkF m 0 #[.val (.ref x), .val (.ref g), .unset] [])
  refine P.aloadN X0 hx 1 (hb hby d10_0) rfl rfl rfl ?_
  obtain ⟨k1, A1⟩ := P0.2.2.2.1
  have V1 : Arv Z h t k1 .byte (0 : Int32) [] (.int 0) := A1
  refine X0.callV hx (w77 cx) (w78 cx) (w80 cx) (w79 cx) (fun _ hZ => nf hZ (w80 cx)) (by decide) P0.1 (Ct.pay (W := 0) (ct_scoder cx x h _ _ P0.2.2.1) (w81 cx) (w3 cx) (nle rfl) (nle rfl)) (by rw [hml]; rfl) (argsL := []) (rest := []) (lenOf pd1 rfl) rfl rfl (Nat.le_of_eq rfl) (hb hby d10_1) (nle rfl) (nle rfl) ?_
  rintro T2 h2 _ _ _ X2 ⟨rfl, rfl, rfl, J2⟩
  rw [J2] at X2
  refine P.istoreN X2 hx 5 #[.val (.ref x), .val (.ref g), .val (.int 0)] (hb hby d10_4) rfl rfl ?_
  refine P.iloadN X2 hx 6 (hb hby d10_5) rfl rfl ?_
  refine P.aloadN X2 hx 7 (hb hby d10_6) rfl rfl rfl ?_
  obtain ⟨k3, A3⟩ := P1.2.2.2.1
  have V3 : Arv Z h u k3 .byte (1 : Int32) [(.int 58)] (.int 0) := A3
  refine X2.callV hx (w77 cx) (w78 cx) (w80 cx) (w79 cx) (fun _ hZ => nf hZ (w80 cx)) (by decide) P1.1 (Ct.pay (W := 1) (ct_scoder cx g h _ _ P1.2.2.1) (w81 cx) (w3 cx) (nle rfl) (nle rfl)) (by rw [hml]; rfl) (argsL := []) (rest := [.int 0]) (lenOf pd1 rfl) rfl rfl (Nat.le_of_eq rfl) (hb hby d10_7) (nle rfl) (nle rfl) ?_
  rintro T4 h4 _ _ _ X4 ⟨rfl, rfl, rfl, J4⟩
  rw [J4] at X4
  refine P.icmpNo X4 hx 13 (hb hby d10_10) (by decide) rfl ?_
  refine P.aloadN X4 hx 14 (hb hby d10_13) rfl rfl rfl ?_
  refine X4.callV hx (w83 cx) (w84 cx) (w86 cx) (w85 cx) (fun _ hZ => nf hZ (w86 cx)) (by decide) P0.1 (Ct.pay (W := 0) (ct_isL1 cx x h _ _ P0.2.2.1) (w87 cx) (w3 cx) (nle rfl) (nle rfl)) (by rw [hml]; rfl) (argsL := []) (rest := []) (lenOf pd12 rfl) rfl rfl (Nat.le_of_eq rfl) (hb hby d10_14) (nle rfl) (nle rfl) ?_
  rintro T5 h5 _ _ _ X5 ⟨rfl, rfl, rfl, J5⟩
  rw [J5] at X5
  refine P.ifNo X5 hx 20 (hb hby d10_17) (by decide) rfl ?_
  refine P.aloadN X5 hx 21 (hb hby d10_20) rfl rfl rfl ?_
  refine X5.getF hx (host := "") (Or.inl (w20 cx)) Via.refl P0.2.1 (hb hby d10_21) ?_
  intro T6 X6
  refine P.aloadN X6 hx 25 (hb hby d10_24) rfl rfl rfl ?_
  refine X6.getF hx (host := "") (Or.inl (w20 cx)) Via.refl P1.2.1 (hb hby d10_25) ?_
  intro T7 X7
  refine X7.callS hx (w88 cx) (w89 cx) (w90 cx) (w91 cx) (by decide) (Ct.pay (W := 0) (ct_ixb0 cx t k1 u k3 h _ _ V1 V3) (w91 cx) (w90 cx) (nle rfl) (nle rfl)) (by rw [hml]; rfl) (argsL := [.ref t, .ref u]) (rest := []) (lenOf pd19 rfl) rfl rfl (Nat.le_of_eq rfl) (hb hby d10_28) (nle rfl) (nle rfl) ?_
  rintro T8 h8 _ _ _ X8 ⟨x9, rfl, rfl, rfl, J8, G10⟩
  rw [J8] at X8
  refine P.goto X8 hx 45 (hb hby d10_31) (by decide) (by decide) ?_
  exact WS.retI X8 (WL' := []) (FL' := []) hx hret hlk (hb hby d10_45) (nle rfl) (nle rfl) ⟨x9, rfl, rfl, rfl, rfl, G10⟩
def Q_six1 (Z : State) (gC : Int32) (gF : Value) (v_DO : Addr) (k_DO : ClassId) (v_DT : Addr) (k_DT : ClassId) (x : Addr) (t : Addr) (g : Addr) (u : Addr) (ca : Int32) (cb : Int32) (cc : Int32) (h : Heap) (v : Option Value) (h' : Heap) (WL' FL' : List Addr) : Prop := ∃ r : Int32, v = some (.int r) ∧ WL' = [] ∧ FL' = [] ∧ h' = h ∧ ((¬ r < 0 ∧ (58 : Int32) ∈ [ca]) ∨ (r < 0 ∧ (58 : Int32) ∉ [ca]))
theorem ct_six1 (cx : Cx a0 Z gC gF v_DO k_DO v_DT k_DT) (x : Addr) (t : Addr) (g : Addr) (u : Addr) (ca : Int32) (cb : Int32) (cc : Int32) (h : Heap) (WL FL : List Addr) (P0 : StrL Z h x t [ca]) (P1 : StrL Z h g u [(58 : Int32)]) (hr_ca : ¬ ca < 0 ∧ ¬ (255 : Int32) < ca) (hr_cb : ¬ cb < 0 ∧ ¬ (255 : Int32) < cb) (hr_cc : ¬ cc < 0 ∧ ¬ (255 : Int32) < cc) :
    Ct l Z EL1 n0 (⟨"java/lang/String", "indexOf", "(Ljava/lang/String;)I"⟩ : MethodName) jdk_42_method_84_code 3 (Option.some FieldType.int) ({ frames := 2, cells := 0, slots := 0, locals := 35 } : Room) #[(.ref x), (.ref g)] h WL FL (Q_six1 Z gC gF v_DO k_DO v_DT k_DT x t g u ca cb cc h) := by
  refine Ct.of (plainFor_of_name pn0) ?_
  intro p e s m below meth c s1 hx hby hml hnm hret hlk X0
  refine Wo.cast (f' := (mkF m 0 #[.val (.ref x), .val (.ref g), .unset] [])) (by rfl) ?_
  show Wo _ _ _ _ _ _ _ _ _ _ _ s1 (mkF m 0 #[.val (.ref x), .val (.ref g), .unset] [])
  refine P.aloadN X0 hx 1 (hb hby d10_0) rfl rfl rfl ?_
  obtain ⟨k1, A1⟩ := P0.2.2.2.1
  have V1 : Arv Z h t k1 .byte (1 : Int32) [(.int (ca.toInt8.toInt32))] (.int 0) := A1
  refine X0.callV hx (w77 cx) (w78 cx) (w80 cx) (w79 cx) (fun _ hZ => nf hZ (w80 cx)) (by decide) P0.1 (Ct.pay (W := 0) (ct_scoder cx x h _ _ P0.2.2.1) (w81 cx) (w3 cx) (nle rfl) (nle rfl)) (by rw [hml]; rfl) (argsL := []) (rest := []) (lenOf pd1 rfl) rfl rfl (Nat.le_of_eq rfl) (hb hby d10_1) (nle rfl) (nle rfl) ?_
  rintro T2 h2 _ _ _ X2 ⟨rfl, rfl, rfl, J2⟩
  rw [J2] at X2
  refine P.istoreN X2 hx 5 #[.val (.ref x), .val (.ref g), .val (.int 0)] (hb hby d10_4) rfl rfl ?_
  refine P.iloadN X2 hx 6 (hb hby d10_5) rfl rfl ?_
  refine P.aloadN X2 hx 7 (hb hby d10_6) rfl rfl rfl ?_
  obtain ⟨k3, A3⟩ := P1.2.2.2.1
  have V3 : Arv Z h u k3 .byte (1 : Int32) [(.int 58)] (.int 0) := A3
  refine X2.callV hx (w77 cx) (w78 cx) (w80 cx) (w79 cx) (fun _ hZ => nf hZ (w80 cx)) (by decide) P1.1 (Ct.pay (W := 1) (ct_scoder cx g h _ _ P1.2.2.1) (w81 cx) (w3 cx) (nle rfl) (nle rfl)) (by rw [hml]; rfl) (argsL := []) (rest := [.int 0]) (lenOf pd1 rfl) rfl rfl (Nat.le_of_eq rfl) (hb hby d10_7) (nle rfl) (nle rfl) ?_
  rintro T4 h4 _ _ _ X4 ⟨rfl, rfl, rfl, J4⟩
  rw [J4] at X4
  refine P.icmpNo X4 hx 13 (hb hby d10_10) (by decide) rfl ?_
  refine P.aloadN X4 hx 14 (hb hby d10_13) rfl rfl rfl ?_
  refine X4.callV hx (w83 cx) (w84 cx) (w86 cx) (w85 cx) (fun _ hZ => nf hZ (w86 cx)) (by decide) P0.1 (Ct.pay (W := 0) (ct_isL1 cx x h _ _ P0.2.2.1) (w87 cx) (w3 cx) (nle rfl) (nle rfl)) (by rw [hml]; rfl) (argsL := []) (rest := []) (lenOf pd12 rfl) rfl rfl (Nat.le_of_eq rfl) (hb hby d10_14) (nle rfl) (nle rfl) ?_
  rintro T5 h5 _ _ _ X5 ⟨rfl, rfl, rfl, J5⟩
  rw [J5] at X5
  refine P.ifNo X5 hx 20 (hb hby d10_17) (by decide) rfl ?_
  refine P.aloadN X5 hx 21 (hb hby d10_20) rfl rfl rfl ?_
  refine X5.getF hx (host := "") (Or.inl (w20 cx)) Via.refl P0.2.1 (hb hby d10_21) ?_
  intro T6 X6
  refine P.aloadN X6 hx 25 (hb hby d10_24) rfl rfl rfl ?_
  refine X6.getF hx (host := "") (Or.inl (w20 cx)) Via.refl P1.2.1 (hb hby d10_25) ?_
  intro T7 X7
  refine X7.callS hx (w88 cx) (w89 cx) (w90 cx) (w91 cx) (by decide) (Ct.pay (W := 0) (ct_ixb1 cx t k1 u k3 ca h _ _ V1 V3 hr_ca) (w91 cx) (w90 cx) (nle rfl) (nle rfl)) (by rw [hml]; rfl) (argsL := [.ref t, .ref u]) (rest := []) (lenOf pd19 rfl) rfl rfl (Nat.le_of_eq rfl) (hb hby d10_28) (nle rfl) (nle rfl) ?_
  rintro T8 h8 _ _ _ X8 ⟨x9, rfl, rfl, rfl, J8, G10⟩
  rw [J8] at X8
  refine P.goto X8 hx 45 (hb hby d10_31) (by decide) (by decide) ?_
  exact WS.retI X8 (WL' := []) (FL' := []) hx hret hlk (hb hby d10_45) (nle rfl) (nle rfl) ⟨x9, rfl, rfl, rfl, rfl, G10⟩
def Q_six2 (Z : State) (gC : Int32) (gF : Value) (v_DO : Addr) (k_DO : ClassId) (v_DT : Addr) (k_DT : ClassId) (x : Addr) (t : Addr) (g : Addr) (u : Addr) (ca : Int32) (cb : Int32) (cc : Int32) (h : Heap) (v : Option Value) (h' : Heap) (WL' FL' : List Addr) : Prop := ∃ r : Int32, v = some (.int r) ∧ WL' = [] ∧ FL' = [] ∧ h' = h ∧ ((¬ r < 0 ∧ (58 : Int32) ∈ [ca, cb]) ∨ (r < 0 ∧ (58 : Int32) ∉ [ca, cb]))
theorem ct_six2 (cx : Cx a0 Z gC gF v_DO k_DO v_DT k_DT) (x : Addr) (t : Addr) (g : Addr) (u : Addr) (ca : Int32) (cb : Int32) (cc : Int32) (h : Heap) (WL FL : List Addr) (P0 : StrL Z h x t [ca, cb]) (P1 : StrL Z h g u [(58 : Int32)]) (hr_ca : ¬ ca < 0 ∧ ¬ (255 : Int32) < ca) (hr_cb : ¬ cb < 0 ∧ ¬ (255 : Int32) < cb) (hr_cc : ¬ cc < 0 ∧ ¬ (255 : Int32) < cc) :
    Ct l Z EL1 n0 (⟨"java/lang/String", "indexOf", "(Ljava/lang/String;)I"⟩ : MethodName) jdk_42_method_84_code 3 (Option.some FieldType.int) ({ frames := 2, cells := 0, slots := 0, locals := 35 } : Room) #[(.ref x), (.ref g)] h WL FL (Q_six2 Z gC gF v_DO k_DO v_DT k_DT x t g u ca cb cc h) := by
  refine Ct.of (plainFor_of_name pn0) ?_
  intro p e s m below meth c s1 hx hby hml hnm hret hlk X0
  refine Wo.cast (f' := (mkF m 0 #[.val (.ref x), .val (.ref g), .unset] [])) (by rfl) ?_
  show Wo _ _ _ _ _ _ _ _ _ _ _ s1 (mkF m 0 #[.val (.ref x), .val (.ref g), .unset] [])
  refine P.aloadN X0 hx 1 (hb hby d10_0) rfl rfl rfl ?_
  obtain ⟨k1, A1⟩ := P0.2.2.2.1
  have V1 : Arv Z h t k1 .byte (2 : Int32) [(.int (ca.toInt8.toInt32)), (.int (cb.toInt8.toInt32))] (.int 0) := A1
  refine X0.callV hx (w77 cx) (w78 cx) (w80 cx) (w79 cx) (fun _ hZ => nf hZ (w80 cx)) (by decide) P0.1 (Ct.pay (W := 0) (ct_scoder cx x h _ _ P0.2.2.1) (w81 cx) (w3 cx) (nle rfl) (nle rfl)) (by rw [hml]; rfl) (argsL := []) (rest := []) (lenOf pd1 rfl) rfl rfl (Nat.le_of_eq rfl) (hb hby d10_1) (nle rfl) (nle rfl) ?_
  rintro T2 h2 _ _ _ X2 ⟨rfl, rfl, rfl, J2⟩
  rw [J2] at X2
  refine P.istoreN X2 hx 5 #[.val (.ref x), .val (.ref g), .val (.int 0)] (hb hby d10_4) rfl rfl ?_
  refine P.iloadN X2 hx 6 (hb hby d10_5) rfl rfl ?_
  refine P.aloadN X2 hx 7 (hb hby d10_6) rfl rfl rfl ?_
  obtain ⟨k3, A3⟩ := P1.2.2.2.1
  have V3 : Arv Z h u k3 .byte (1 : Int32) [(.int 58)] (.int 0) := A3
  refine X2.callV hx (w77 cx) (w78 cx) (w80 cx) (w79 cx) (fun _ hZ => nf hZ (w80 cx)) (by decide) P1.1 (Ct.pay (W := 1) (ct_scoder cx g h _ _ P1.2.2.1) (w81 cx) (w3 cx) (nle rfl) (nle rfl)) (by rw [hml]; rfl) (argsL := []) (rest := [.int 0]) (lenOf pd1 rfl) rfl rfl (Nat.le_of_eq rfl) (hb hby d10_7) (nle rfl) (nle rfl) ?_
  rintro T4 h4 _ _ _ X4 ⟨rfl, rfl, rfl, J4⟩
  rw [J4] at X4
  refine P.icmpNo X4 hx 13 (hb hby d10_10) (by decide) rfl ?_
  refine P.aloadN X4 hx 14 (hb hby d10_13) rfl rfl rfl ?_
  refine X4.callV hx (w83 cx) (w84 cx) (w86 cx) (w85 cx) (fun _ hZ => nf hZ (w86 cx)) (by decide) P0.1 (Ct.pay (W := 0) (ct_isL1 cx x h _ _ P0.2.2.1) (w87 cx) (w3 cx) (nle rfl) (nle rfl)) (by rw [hml]; rfl) (argsL := []) (rest := []) (lenOf pd12 rfl) rfl rfl (Nat.le_of_eq rfl) (hb hby d10_14) (nle rfl) (nle rfl) ?_
  rintro T5 h5 _ _ _ X5 ⟨rfl, rfl, rfl, J5⟩
  rw [J5] at X5
  refine P.ifNo X5 hx 20 (hb hby d10_17) (by decide) rfl ?_
  refine P.aloadN X5 hx 21 (hb hby d10_20) rfl rfl rfl ?_
  refine X5.getF hx (host := "") (Or.inl (w20 cx)) Via.refl P0.2.1 (hb hby d10_21) ?_
  intro T6 X6
  refine P.aloadN X6 hx 25 (hb hby d10_24) rfl rfl rfl ?_
  refine X6.getF hx (host := "") (Or.inl (w20 cx)) Via.refl P1.2.1 (hb hby d10_25) ?_
  intro T7 X7
  refine X7.callS hx (w88 cx) (w89 cx) (w90 cx) (w91 cx) (by decide) (Ct.pay (W := 0) (ct_ixb2 cx t k1 u k3 ca cb h _ _ V1 V3 hr_ca hr_cb) (w91 cx) (w90 cx) (nle rfl) (nle rfl)) (by rw [hml]; rfl) (argsL := [.ref t, .ref u]) (rest := []) (lenOf pd19 rfl) rfl rfl (Nat.le_of_eq rfl) (hb hby d10_28) (nle rfl) (nle rfl) ?_
  rintro T8 h8 _ _ _ X8 ⟨x9, rfl, rfl, rfl, J8, G10⟩
  rw [J8] at X8
  refine P.goto X8 hx 45 (hb hby d10_31) (by decide) (by decide) ?_
  exact WS.retI X8 (WL' := []) (FL' := []) hx hret hlk (hb hby d10_45) (nle rfl) (nle rfl) ⟨x9, rfl, rfl, rfl, rfl, G10⟩
def Q_six3 (Z : State) (gC : Int32) (gF : Value) (v_DO : Addr) (k_DO : ClassId) (v_DT : Addr) (k_DT : ClassId) (x : Addr) (t : Addr) (g : Addr) (u : Addr) (ca : Int32) (cb : Int32) (cc : Int32) (h : Heap) (v : Option Value) (h' : Heap) (WL' FL' : List Addr) : Prop := ∃ r : Int32, v = some (.int r) ∧ WL' = [] ∧ FL' = [] ∧ h' = h ∧ ((¬ r < 0 ∧ (58 : Int32) ∈ [ca, cb, cc]) ∨ (r < 0 ∧ (58 : Int32) ∉ [ca, cb, cc]))
theorem ct_six3 (cx : Cx a0 Z gC gF v_DO k_DO v_DT k_DT) (x : Addr) (t : Addr) (g : Addr) (u : Addr) (ca : Int32) (cb : Int32) (cc : Int32) (h : Heap) (WL FL : List Addr) (P0 : StrL Z h x t [ca, cb, cc]) (P1 : StrL Z h g u [(58 : Int32)]) (hr_ca : ¬ ca < 0 ∧ ¬ (255 : Int32) < ca) (hr_cb : ¬ cb < 0 ∧ ¬ (255 : Int32) < cb) (hr_cc : ¬ cc < 0 ∧ ¬ (255 : Int32) < cc) :
    Ct l Z EL1 n0 (⟨"java/lang/String", "indexOf", "(Ljava/lang/String;)I"⟩ : MethodName) jdk_42_method_84_code 3 (Option.some FieldType.int) ({ frames := 2, cells := 0, slots := 0, locals := 35 } : Room) #[(.ref x), (.ref g)] h WL FL (Q_six3 Z gC gF v_DO k_DO v_DT k_DT x t g u ca cb cc h) := by
  refine Ct.of (plainFor_of_name pn0) ?_
  intro p e s m below meth c s1 hx hby hml hnm hret hlk X0
  refine Wo.cast (f' := (mkF m 0 #[.val (.ref x), .val (.ref g), .unset] [])) (by rfl) ?_
  show Wo _ _ _ _ _ _ _ _ _ _ _ s1 (mkF m 0 #[.val (.ref x), .val (.ref g), .unset] [])
  refine P.aloadN X0 hx 1 (hb hby d10_0) rfl rfl rfl ?_
  obtain ⟨k1, A1⟩ := P0.2.2.2.1
  have V1 : Arv Z h t k1 .byte (3 : Int32) [(.int (ca.toInt8.toInt32)), (.int (cb.toInt8.toInt32)), (.int (cc.toInt8.toInt32))] (.int 0) := A1
  refine X0.callV hx (w77 cx) (w78 cx) (w80 cx) (w79 cx) (fun _ hZ => nf hZ (w80 cx)) (by decide) P0.1 (Ct.pay (W := 0) (ct_scoder cx x h _ _ P0.2.2.1) (w81 cx) (w3 cx) (nle rfl) (nle rfl)) (by rw [hml]; rfl) (argsL := []) (rest := []) (lenOf pd1 rfl) rfl rfl (Nat.le_of_eq rfl) (hb hby d10_1) (nle rfl) (nle rfl) ?_
  rintro T2 h2 _ _ _ X2 ⟨rfl, rfl, rfl, J2⟩
  rw [J2] at X2
  refine P.istoreN X2 hx 5 #[.val (.ref x), .val (.ref g), .val (.int 0)] (hb hby d10_4) rfl rfl ?_
  refine P.iloadN X2 hx 6 (hb hby d10_5) rfl rfl ?_
  refine P.aloadN X2 hx 7 (hb hby d10_6) rfl rfl rfl ?_
  obtain ⟨k3, A3⟩ := P1.2.2.2.1
  have V3 : Arv Z h u k3 .byte (1 : Int32) [(.int 58)] (.int 0) := A3
  refine X2.callV hx (w77 cx) (w78 cx) (w80 cx) (w79 cx) (fun _ hZ => nf hZ (w80 cx)) (by decide) P1.1 (Ct.pay (W := 1) (ct_scoder cx g h _ _ P1.2.2.1) (w81 cx) (w3 cx) (nle rfl) (nle rfl)) (by rw [hml]; rfl) (argsL := []) (rest := [.int 0]) (lenOf pd1 rfl) rfl rfl (Nat.le_of_eq rfl) (hb hby d10_7) (nle rfl) (nle rfl) ?_
  rintro T4 h4 _ _ _ X4 ⟨rfl, rfl, rfl, J4⟩
  rw [J4] at X4
  refine P.icmpNo X4 hx 13 (hb hby d10_10) (by decide) rfl ?_
  refine P.aloadN X4 hx 14 (hb hby d10_13) rfl rfl rfl ?_
  refine X4.callV hx (w83 cx) (w84 cx) (w86 cx) (w85 cx) (fun _ hZ => nf hZ (w86 cx)) (by decide) P0.1 (Ct.pay (W := 0) (ct_isL1 cx x h _ _ P0.2.2.1) (w87 cx) (w3 cx) (nle rfl) (nle rfl)) (by rw [hml]; rfl) (argsL := []) (rest := []) (lenOf pd12 rfl) rfl rfl (Nat.le_of_eq rfl) (hb hby d10_14) (nle rfl) (nle rfl) ?_
  rintro T5 h5 _ _ _ X5 ⟨rfl, rfl, rfl, J5⟩
  rw [J5] at X5
  refine P.ifNo X5 hx 20 (hb hby d10_17) (by decide) rfl ?_
  refine P.aloadN X5 hx 21 (hb hby d10_20) rfl rfl rfl ?_
  refine X5.getF hx (host := "") (Or.inl (w20 cx)) Via.refl P0.2.1 (hb hby d10_21) ?_
  intro T6 X6
  refine P.aloadN X6 hx 25 (hb hby d10_24) rfl rfl rfl ?_
  refine X6.getF hx (host := "") (Or.inl (w20 cx)) Via.refl P1.2.1 (hb hby d10_25) ?_
  intro T7 X7
  refine X7.callS hx (w88 cx) (w89 cx) (w90 cx) (w91 cx) (by decide) (Ct.pay (W := 0) (ct_ixb3 cx t k1 u k3 ca cb cc h _ _ V1 V3 hr_ca hr_cb hr_cc) (w91 cx) (w90 cx) (nle rfl) (nle rfl)) (by rw [hml]; rfl) (argsL := [.ref t, .ref u]) (rest := []) (lenOf pd19 rfl) rfl rfl (Nat.le_of_eq rfl) (hb hby d10_28) (nle rfl) (nle rfl) ?_
  rintro T8 h8 _ _ _ X8 ⟨x9, rfl, rfl, rfl, J8, G10⟩
  rw [J8] at X8
  refine P.goto X8 hx 45 (hb hby d10_31) (by decide) (by decide) ?_
  exact WS.retI X8 (WL' := []) (FL' := []) hx hret hlk (hb hby d10_45) (nle rfl) (nle rfl) ⟨x9, rfl, rfl, rfl, rfl, G10⟩
def Q_six (Z : State) (gC : Int32) (gF : Value) (v_DO : Addr) (k_DO : ClassId) (v_DT : Addr) (k_DT : ClassId) (x : Addr) (t : Addr) (g : Addr) (u : Addr) (ca : Int32) (cb : Int32) (cc : Int32) (hs : List Int32) (h : Heap) (v : Option Value) (h' : Heap) (WL' FL' : List Addr) : Prop := ∃ r : Int32, v = some (.int r) ∧ WL' = [] ∧ FL' = [] ∧ h' = h ∧ ((¬ r < 0 ∧ (58 : Int32) ∈ hs) ∨ (r < 0 ∧ (58 : Int32) ∉ hs))
theorem ct_six (cx : Cx a0 Z gC gF v_DO k_DO v_DT k_DT) (x : Addr) (t : Addr) (g : Addr) (u : Addr) (ca : Int32) (cb : Int32) (cc : Int32) (hs : List Int32) (h : Heap) (WL FL : List Addr) (P0 : StrL Z h x t hs) (P1 : StrL Z h g u [(58 : Int32)]) (hr_ca : ¬ ca < 0 ∧ ¬ (255 : Int32) < ca) (hr_cb : ¬ cb < 0 ∧ ¬ (255 : Int32) < cb) (hr_cc : ¬ cc < 0 ∧ ¬ (255 : Int32) < cc) (hsh : hs = [] ∨ hs = [ca] ∨ hs = [ca, cb] ∨ hs = [ca, cb, cc]) :
    Ct l Z EL1 n0 (⟨"java/lang/String", "indexOf", "(Ljava/lang/String;)I"⟩ : MethodName) jdk_42_method_84_code 3 (Option.some FieldType.int) ({ frames := 2, cells := 0, slots := 0, locals := 35 } : Room) #[(.ref x), (.ref g)] h WL FL (Q_six Z gC gF v_DO k_DO v_DT k_DT x t g u ca cb cc hs h) := by
  rcases hsh with rfl | rfl | rfl | rfl
  · exact ct_six0 cx x t g u ca cb cc h WL FL P0 P1 hr_ca hr_cb hr_cc
  · exact ct_six1 cx x t g u ca cb cc h WL FL P0 P1 hr_ca hr_cb hr_cc
  · exact ct_six2 cx x t g u ca cb cc h WL FL P0 P1 hr_ca hr_cb hr_cc
  · exact ct_six3 cx x t g u ca cb cc h WL FL P0 P1 hr_ca hr_cb hr_cc
def Q_strstr (Z : State) (gC : Int32) (gF : Value) (v_DO : Addr) (k_DO : ClassId) (v_DT : Addr) (k_DT : ClassId) (x : Addr) (h : Heap) (v : Option Value) (h' : Heap) (WL' FL' : List Addr) : Prop := v = some (.ref x) ∧ WL' = [] ∧ FL' = [] ∧ h' = h
theorem ct_strstr (cx : Cx a0 Z gC gF v_DO k_DO v_DT k_DT) (x : Addr) (h : Heap) (WL FL : List Addr)  :
    Ct l Z EL1 n0 (⟨"java/lang/String", "toString", "()Ljava/lang/String;"⟩ : MethodName) jdk_42_method_126_code 1 (Option.some (FieldType.object "java/lang/String")) ({ frames := 0, cells := 0, slots := 0, locals := 0 } : Room) #[(.ref x)] h WL FL (Q_strstr Z gC gF v_DO k_DO v_DT k_DT x h) := by
  refine Ct.of (plainFor_of_name pn0) ?_
  intro p e s m below meth c s1 hx hby hml hnm hret hlk X0
  refine Wo.cast (f' := (mkF m 0 #[.val (.ref x)] [])) (by rfl) ?_
  show Wo _ _ _ _ _ _ _ _ _ _ _ s1 (mkF m 0 #[.val (.ref x)] [])
  refine P.aloadN X0 hx 1 (hb hby d9_0) rfl rfl rfl ?_
  exact WS.retA X0 (WL' := []) (FL' := []) hx hret rfl rfl hlk (hb hby d9_1) (nle rfl) (nle rfl) ⟨rfl, rfl, rfl, rfl⟩
def Q_con (Z : State) (gC : Int32) (gF : Value) (v_DO : Addr) (k_DO : ClassId) (v_DT : Addr) (k_DT : ClassId) (x : Addr) (t : Addr) (g : Addr) (u : Addr) (ca : Int32) (cb : Int32) (cc : Int32) (hs : List Int32) (h : Heap) (v : Option Value) (h' : Heap) (WL' FL' : List Addr) : Prop := ∃ r : Int32, v = some (.int r) ∧ WL' = [] ∧ FL' = [] ∧ h' = h ∧ ((r = 1 ∧ (58 : Int32) ∈ hs) ∨ (r = 0 ∧ (58 : Int32) ∉ hs))
theorem ct_con (cx : Cx a0 Z gC gF v_DO k_DO v_DT k_DT) (x : Addr) (t : Addr) (g : Addr) (u : Addr) (ca : Int32) (cb : Int32) (cc : Int32) (hs : List Int32) (h : Heap) (WL FL : List Addr) (P0 : StrL Z h x t hs) (P1 : StrL Z h g u [(58 : Int32)]) (hr_ca : ¬ ca < 0 ∧ ¬ (255 : Int32) < ca) (hr_cb : ¬ cb < 0 ∧ ¬ (255 : Int32) < cb) (hr_cc : ¬ cc < 0 ∧ ¬ (255 : Int32) < cc) (hsh : hs = [] ∨ hs = [ca] ∨ hs = [ca, cb] ∨ hs = [ca, cb, cc]) :
    Ct l Z EL1 n0 (⟨"java/lang/String", "contains", "(Ljava/lang/CharSequence;)Z"⟩ : MethodName) jdk_42_method_97_code 2 (Option.some FieldType.boolean) ({ frames := 3, cells := 0, slots := 0, locals := 49 } : Room) #[(.ref x), (.ref g)] h WL FL (Q_con Z gC gF v_DO k_DO v_DT k_DT x t g u ca cb cc hs h) := by
  refine Ct.of (plainFor_of_name pn0) ?_
  intro p e s m below meth c s1 hx hby hml hnm hret hlk X0
  refine Wo.cast (f' := (mkF m 0 #[.val (.ref x), .val (.ref g)] [])) (by rfl) ?_
  show Wo _ _ _ _ _ _ _ _ _ _ _ s1 (mkF m 0 #[.val (.ref x), .val (.ref g)] [])
  refine P.aloadN X0 hx 1 (hb hby d8_0) rfl rfl rfl ?_
  refine P.aloadN X0 hx 2 (hb hby d8_1) rfl rfl rfl ?_
  refine X0.callI hx (w63 cx) (w64 cx) (w65 cx) (w66 cx) (w67 cx) (w68 cx) (w69 cx) (w70 cx) (by decide) P1.1 (Ct.pay (W := 1) (ct_strstr cx g h _ _ ) (w71 cx) (w3 cx) (nle rfl) (nle rfl)) (by rw [hml]; rfl) (argsL := []) (rest := [.ref x]) (lenOf pd20 rfl) rfl rfl (Nat.le_of_eq rfl) (hb hby d8_2) (nle rfl) (nle rfl) ?_
  rintro T1 h1 _ _ _ X1 ⟨rfl, rfl, rfl, J1⟩
  rw [J1] at X1
  refine X1.callV hx (w72 cx) (w73 cx) (w75 cx) (w74 cx) (fun _ hZ => nf hZ (w75 cx)) (by decide) P0.1 (Ct.pay (W := 0) (ct_six cx x t g u ca cb cc hs h _ _ P0 P1 hr_ca hr_cb hr_cc hsh) (w76 cx) (w3 cx) (nle rfl) (nle rfl)) (by rw [hml]; rfl) (argsL := [.ref g]) (rest := []) (lenOf pd21 rfl) rfl rfl (Nat.le_of_eq rfl) (hb hby d8_7) (nle rfl) (nle rfl) ?_
  rintro T2 h2 _ _ _ X2 ⟨x3, rfl, rfl, rfl, J2, G4⟩
  rw [J2] at X2
  by_cases er : x3 < 0
  · skip
    refine P.ifYes X2 hx 17 (hb hby d8_10) ((if0 _ _).trans (tlt er).1) (by decide) (by decide) ?_
    refine P.iconst X2 hx 18 0 (hb hby d8_17) rfl rfl ?_
    exact WS.retN X2 (WL' := []) (FL' := []) hx (t := .boolean) hret (by simp) hlk (hb hby d8_18) (nle rfl) (nle rfl) ⟨(0 : Int32), rfl, rfl, rfl, rfl, (Or.inr ⟨rfl, (G4.resolve_left (fun q => q.1 er)).2⟩)⟩
  · skip
    refine P.ifNo X2 hx 13 (hb hby d8_10) ((if0 _ _).trans (flt er).1) rfl ?_
    refine P.iconst X2 hx 14 1 (hb hby d8_13) rfl rfl ?_
    refine P.goto X2 hx 18 (hb hby d8_14) (by decide) (by decide) ?_
    exact WS.retN X2 (WL' := []) (FL' := []) hx (t := .boolean) hret (by simp) hlk (hb hby d8_18) (nle rfl) (nle rfl) ⟨(1 : Int32), rfl, rfl, rfl, rfl, (Or.inl ⟨rfl, (G4.resolve_right (fun q => er q.1)).2⟩)⟩
def Q_laini (Z : State) (gC : Int32) (gF : Value) (v_DO : Addr) (k_DO : ClassId) (v_DT : Addr) (k_DT : ClassId) (x : Addr) (g : Addr) (z : Int32) (h : Heap) (v : Option Value) (h' : Heap) (WL' FL' : List Addr) : Prop := v = none ∧ WL' = [] ∧ FL' = [] ∧ Keep h h' [x] ∧ Fld Z h' x "com/example/need_to_know/needtoknow/ListenAddress" "host" "Ljava/lang/String;" (.ref g) ∧ Fld Z h' x "com/example/need_to_know/needtoknow/ListenAddress" "port" "I" (.int z)
theorem ct_laini (cx : Cx a0 Z gC gF v_DO k_DO v_DT k_DT) (x : Addr) (g : Addr) (z : Int32) (h : Heap) (WL FL : List Addr) (P0 : Exa Z h x "com/example/need_to_know/needtoknow/ListenAddress") (P1 : Fld Z h x "com/example/need_to_know/needtoknow/ListenAddress" "host" "Ljava/lang/String;" .null) (P2 : Fld Z h x "com/example/need_to_know/needtoknow/ListenAddress" "port" "I" (.int 0)) (P3 : x ∈ WL) :
    Ct l Z EL1 n0 (⟨"com/example/need_to_know/needtoknow/ListenAddress", "<init>", "(Ljava/lang/String;I)V"⟩ : MethodName) prog_5_method_1_code 3 (Option.none : Option Jvm.ClassFile.FieldType) ({ frames := 1, cells := 0, slots := 0, locals := 12 } : Room) #[(.ref x), (.ref g), (.int z)] h WL FL (Q_laini Z gC gF v_DO k_DO v_DT k_DT x g z h) := by
  refine Ct.of (plainFor_of_name pn6) ?_
  intro p e s m below meth c s1 hx hby hml hnm hret hlk X0
  refine Wo.cast (f' := (mkF m 0 #[.val (.ref x), .val (.ref g), .val (.int z)] [])) (by rfl) ?_
  have K0 : Keep h h [x] := Keep.refl _ _
  show Wo _ _ _ _ _ _ _ _ _ _ _ s1 (mkF m 0 #[.val (.ref x), .val (.ref g), .val (.int z)] [])
  refine P.aloadN X0 hx 1 (hb hby d4_0) rfl rfl rfl ?_
  refine X0.initO hx (w29 cx) (w12 cx) (w13 cx) (by rw [hml]; rfl) (hb hby d4_1) (nle rfl) (W := 0) (Nat.le_of_eq rfl) (nle rfl) ?_
  intro T1 X1
  refine P.aloadN X1 hx 5 (hb hby d4_4) rfl rfl rfl ?_
  refine P.aloadN X1 hx 6 (hb hby d4_5) rfl rfl rfl ?_
  refine X1.putF hx (host := "") (Or.inl (w30 cx)) Via.refl P1 P0 (Or.inr ⟨(w31 cx), rfl, hnm⟩) (w24 cx) (ty := (.object "java/lang/String")) (by decide) rfl rfl P3 (hb hby d4_6) ?_
  intro T2 h2 X2 W2 G2
  have K3 : Keep h h2 [x] := K0.wr W2 (Or.inl (mg 0 rfl))
  refine P.aloadN X2 hx 10 (hb hby d4_9) rfl rfl rfl ?_
  refine P.iloadN X2 hx 11 (hb hby d4_10) rfl rfl ?_
  have F4 := P2.other W2 (Or.inr (slot_ne (Or.inr (w33 cx)) (Or.inr (w31 cx)) (by decide) (t := .int) (t' := (.object "java/lang/String")) (by decide) (by decide)))
  have F5 := P0.wr W2
  refine X2.putF hx (host := "") (Or.inl (w32 cx)) Via.refl F4 F5 (Or.inr ⟨(w33 cx), rfl, hnm⟩) (w24 cx) (ty := .int) (by decide) rfl rfl P3 (hb hby d4_11) ?_
  intro T6 h6 X6 W6 G6
  have K7 : Keep h h6 [x] := K3.wr W6 (Or.inl (mg 0 rfl))
  have F8 := G2.other W6 (Or.inr (slot_ne (Or.inr (w31 cx)) (Or.inr (w33 cx)) (by decide) (t := (.object "java/lang/String")) (t' := .int) (by decide) (by decide)))
  exact WS.retV X6 (WL' := []) (FL' := []) hx hret hlk (hb hby d4_14) (nle rfl) (nle rfl) ⟨rfl, rfl, rfl, K7, F8, G6⟩
def Q_tos (Z : State) (gC : Int32) (gF : Value) (v_DO : Addr) (k_DO : ClassId) (v_DT : Addr) (k_DT : ClassId) (x : Addr) (g : Addr) (gu : Addr) (n : Nat) (kd : Nat) (ca : Int32) (cb : Int32) (cc : Int32) (hs : List Int32) (h : Heap) (v : Option Value) (h' : Heap) (WL' FL' : List Addr) : Prop := ∃ r : Addr, ∃ u : Addr, ∃ zs : List Int32, v = some (.ref r) ∧ WL' = [r] ∧ FL' = [u] ∧ Keep h h' [] ∧ h.size ≤ r ∧ StrL Z h' r u zs ∧ (((58 : Int32) ∈ hs ∧ zs = [91] ++ hs ++ [93] ++ [58] ++ digs n kd) ∨ ((58 : Int32) ∉ hs ∧ zs = hs ++ [58] ++ digs n kd))
theorem ct_tos (cx : Cx a0 Z gC gF v_DO k_DO v_DT k_DT) (x : Addr) (g : Addr) (gu : Addr) (n : Nat) (kd : Nat) (ca : Int32) (cb : Int32) (cc : Int32) (hs : List Int32) (h : Heap) (WL FL : List Addr) (P0 : Exa Z h x "com/example/need_to_know/needtoknow/ListenAddress") (P1 : Fld Z h x "com/example/need_to_know/needtoknow/ListenAddress" "host" "Ljava/lang/String;" (.ref g)) (P2 : Fld Z h x "com/example/need_to_know/needtoknow/ListenAddress" "port" "I" (.int (Int32.ofNat n))) (P3 : StrL Z h g gu hs) (P4 : x ∈ WL) (P5 : g ∈ FL) (P6 : gu ∈ FL) (hr_ca : ¬ ca < 0 ∧ ¬ (255 : Int32) < ca) (hr_cb : ¬ cb < 0 ∧ ¬ (255 : Int32) < cb) (hr_cc : ¬ cc < 0 ∧ ¬ (255 : Int32) < cc) (hsh : hs = [] ∨ hs = [ca] ∨ hs = [ca, cb] ∨ hs = [ca, cb, cc]) (hDK : DK n kd) :
    Ct l Z EL1 n0 (⟨"com/example/need_to_know/needtoknow/ListenAddress", "toString", "()Ljava/lang/String;"⟩ : MethodName) prog_5_method_7_code 1 (Option.some (FieldType.object "java/lang/String")) ({ frames := 6, cells := 16, slots := 102, locals := 92 } : Room) #[(.ref x)] h WL FL (Q_tos Z gC gF v_DO k_DO v_DT k_DT x g gu n kd ca cb cc hs h) := by
  refine Ct.of (plainFor_of_name pn6) ?_
  intro p e s m below meth c s1 hx hby hml hnm hret hlk X0
  refine Wo.cast (f' := (mkF m 0 #[.val (.ref x)] [])) (by rfl) ?_
  have K0 : Keep h h [] := Keep.refl _ _
  show Wo _ _ _ _ _ _ _ _ _ _ _ s1 (mkF m 0 #[.val (.ref x)] [])
  have lN := shN hsh
  obtain ⟨qa, qb, hn⟩ := DKb hDK
  refine X0.newO hx (w39 cx) (w40 cx) (w41 cx) (hb hby d5_0) (nle rfl) (nle rfl) ?_
  intro T1 h1 a1 X1 E1 g1 A1 D1
  have ge2 : h.size ≤ a1 := Nat.le_trans K0.1 g1
  have K3 : Keep h h1 [] := K0.ext E1
  have D4 : Fld Z h1 a1 "java/lang/AbstractStringBuilder" "value" "[B" .null := D1 (Or.inl (w54 cx)) (ty := (.array .byte)) (by decide)
  have D5 : Fld Z h1 a1 "java/lang/AbstractStringBuilder" "coder" "B" (.int 0) := D1 (Or.inl (w56 cx)) (ty := .byte) (by decide)
  have D6 : Fld Z h1 a1 "java/lang/AbstractStringBuilder" "count" "I" (.int 0) := D1 (Or.inl (w108 cx)) (ty := .int) (by decide)
  refine P.dup X1 hx 4 (hb hby d5_3) rfl rfl ?_
  refine X1.callC hx rfl (w42 cx) (w43 cx) (w44 cx) (by decide) (Ct.pay (W := 1) (ct_sbini cx a1 h1 _ _ A1 D4 D5 D6 (mg 0 rfl)) (w44 cx) (w41 cx) (nle rfl) (nle rfl)) (by rw [hml]; rfl) (argsL := []) (rest := [.ref a1]) (lenOf pd22 rfl) rfl rfl (Nat.le_of_eq rfl) (hb hby d5_4) (nle rfl) (nle rfl) ?_
  rintro T7 h7 _ _ _ X7 ⟨a8, rfl, rfl, rfl, J7, g10, G9⟩
  have ge11 : h.size ≤ a8 := Nat.le_trans K3.1 g10
  have K12 : Keep h h7 [] := K3.trans J7 (allS (Or.inr ge2) all0)
  refine P.aloadN X7 hx 8 (hb hby d5_7) rfl rfl rfl ?_
  have F13 := (P1.ext E1).keep J7 (ninS (Ne.symm (X7.neT (A := [a8, a1]) (B := WL) (mg 1 rfl) P4)) nin0)
  refine X7.getF hx (host := "") (Or.inl (w30 cx)) Via.refl F13 (hb hby d5_8) ?_
  intro T14 X14
  refine X14.ldc hx (w57 cx) (strAtoms cx) (by decide) (vs := [(.int 58)]) (z := (1 : Int32)) ⟨by decide, by decide⟩ (by decide) rfl (hb hby d5_11) (n := 4) (nle rfl) (nle rfl) (nle rfl) (nle rfl) ?_
  intro T15 h15 a15 b15 k15 X15 E15 A15 C15 V15 B15
  have K16 : Keep h h15 [] := K12.ext E15
  have S17 : StrL Z h15 a15 b15 [(58 : Int32)] := ⟨A15, V15, C15, ⟨_, B15⟩, (by decide), nle rfl⟩
  have F18 := ((P3.1.ext E1).keep J7).ext E15
  have F19 := ((P3.ext E1).keep J7 (ninS (X15.neF (mc (mc P5)) (mg 1 rfl)) nin0) (ninS (X15.neF (mc (mc P6)) (mg 1 rfl)) nin0)).ext E15
  refine X15.callV hx (w58 cx) (w59 cx) (w61 cx) (w60 cx) (fun _ hZ => nf hZ (w61 cx)) (by decide) F18 (Ct.pay (W := 1) (ct_con cx g gu a15 b15 ca cb cc hs h15 _ _ F19 S17 hr_ca hr_cb hr_cc hsh) (w62 cx) (w3 cx) (nle rfl) (nle rfl)) (by rw [hml]; rfl) (argsL := [.ref a15]) (rest := [.ref a1]) (lenOf pd23 rfl) rfl rfl (Nat.le_of_eq rfl) (hb hby d5_13) (nle rfl) (nle rfl) ?_
  rintro T20 h20 _ _ _ X20 ⟨x21, rfl, rfl, rfl, J20, G22⟩
  rw [J20] at X20
  by_cases er : x21 = 0
  · skip
    refine P.ifYes X20 hx 49 (hb hby d5_16) ((if0 _ _).trans (teq er).1) (by decide) (by decide) ?_
    refine P.aloadN X20 hx 50 (hb hby d5_49) rfl rfl rfl ?_
    have F23 := F13.ext E15
    refine X20.getF hx (host := "") (Or.inl (w30 cx)) Via.refl F23 (hb hby d5_50) ?_
    intro T24 X24
    have F25 := G9.1.ext E15
    have F26 := G9.ext E15
    refine X24.callV hx (w92 cx) (w93 cx) (w95 cx) (w94 cx) (fun _ hZ => nf hZ (w95 cx)) (by decide) F25 (Ct.pay (W := 0) (ct_sbappN cx a1 g gu a8 16 ([]) hs h15 _ _ F26 F19 (mg 1 rfl) (mg 0 rfl) (X24.ne (i := 1) (j := 0) rfl rfl (by decide)) (by simp <;> omega)) (w96 cx) (w41 cx) (nle rfl) (nle rfl)) (by rw [hml]; rfl) (argsL := [.ref g]) (rest := []) (lenOf pd24 rfl) rfl rfl (Nat.le_of_eq rfl) (hb hby d5_53) (nle rfl) (nle rfl) ?_
    rintro T27 h27 _ _ _ X27 ⟨rfl, rfl, rfl, J27, G28⟩
    have K29 : Keep h h27 [] := K16.trans J27 (allS (Or.inr ge2) (allS (Or.inr ge11) all0))
    refine X27.ldc hx (w57 cx) (strAtoms cx) (by decide) (vs := [(.int 58)]) (z := (1 : Int32)) ⟨by decide, by decide⟩ (by decide) rfl (hb hby d5_56) (n := 4) (nle rfl) (nle rfl) (nle rfl) (nle rfl) ?_
    intro T30 h30 a30 b30 k30 X30 E30 A30 C30 V30 B30
    have K31 : Keep h h30 [] := K29.ext E30
    have S32 : StrL Z h30 a30 b30 [(58 : Int32)] := ⟨A30, V30, C30, ⟨_, B30⟩, (by decide), nle rfl⟩
    have F33 := G28.1.ext E30
    have F34 := G28.ext E30
    refine X30.callV hx (w92 cx) (w93 cx) (w95 cx) (w94 cx) (fun _ hZ => nf hZ (w95 cx)) (by decide) F33 (Ct.pay (W := 0) (ct_sbappN cx a1 a30 b30 a8 16 ([] ++ hs) ([(58 : Int32)]) h30 _ _ F34 S32 (mg 1 rfl) (mg 0 rfl) (X30.ne (i := 1) (j := 0) rfl rfl (by decide)) (by simp <;> omega)) (w96 cx) (w41 cx) (nle rfl) (nle rfl)) (by rw [hml]; rfl) (argsL := [.ref a30]) (rest := []) (lenOf pd24 rfl) rfl rfl (Nat.le_of_eq rfl) (hb hby d5_58) (nle rfl) (nle rfl) ?_
    rintro T35 h35 _ _ _ X35 ⟨rfl, rfl, rfl, J35, G36⟩
    have K37 : Keep h h35 [] := K31.trans J35 (allS (Or.inr ge2) (allS (Or.inr ge11) all0))
    refine P.aloadN X35 hx 62 (hb hby d5_61) rfl rfl rfl ?_
    have F38 := (((((P2.ext E1).keep J7 (ninS (Ne.symm (X35.neT (A := [a8, a1]) (B := WL) (mg 1 rfl) P4)) nin0)).ext E15).keep J27 (ninS (Ne.symm (X35.neT (A := [a8, a1]) (B := WL) (mg 1 rfl) P4)) (ninS (Ne.symm (X35.neT (A := [a8, a1]) (B := WL) (mg 0 rfl) P4)) nin0))).ext E30).keep J35 (ninS (Ne.symm (X35.neT (A := [a8, a1]) (B := WL) (mg 1 rfl) P4)) (ninS (Ne.symm (X35.neT (A := [a8, a1]) (B := WL) (mg 0 rfl) P4)) nin0))
    refine X35.getF hx (host := "") (Or.inl (w32 cx)) Via.refl F38 (hb hby d5_62) ?_
    intro T39 X39
    refine X39.callV hx (w134 cx) (w135 cx) (w137 cx) (w136 cx) (fun _ hZ => nf hZ (w137 cx)) (by decide) G36.1 (Ct.pay (W := 0) (ct_sbapi cx a1 a8 16 (([] ++ hs) ++ [(58 : Int32)]) n kd h35 _ _ G36 (mg 1 rfl) (mg 0 rfl) (X39.ne (i := 1) (j := 0) rfl rfl (by decide)) (by simp <;> omega) hDK) (w138 cx) (w41 cx) (nle rfl) (nle rfl)) (by rw [hml]; rfl) (argsL := [.int (Int32.ofNat n)]) (rest := []) (lenOf pd25 rfl) rfl rfl (Nat.le_of_eq rfl) (hb hby d5_65) (nle rfl) (nle rfl) ?_
    rintro T40 h40 _ _ _ X40 ⟨rfl, rfl, rfl, J40, G41⟩
    have K42 : Keep h h40 [] := K37.trans J40 (allS (Or.inr ge2) (allS (Or.inr ge11) all0))
    refine X40.callV hx (w156 cx) (w157 cx) (w159 cx) (w158 cx) (fun _ hZ => nf hZ (w159 cx)) (by decide) G41.1 (Ct.pay (W := 0) (ct_sbstr cx a1 a8 16 ((([] ++ hs) ++ [(58 : Int32)]) ++ digs n kd) h40 _ _ G41 (mg 1 rfl) (mg 0 rfl) (by simp [digs_len] <;> omega) (by simp [digs_len] <;> omega)) (w160 cx) (w41 cx) (nle rfl) (nle rfl)) (by rw [hml]; rfl) (argsL := []) (rest := []) (lenOf pd20 rfl) rfl rfl (Nat.le_of_eq rfl) (hb hby d5_68) (nle rfl) (nle rfl) ?_
    rintro T43 h43 _ _ _ X43 ⟨a44, a45, rfl, rfl, rfl, J43, g47, G46⟩
    have ge48 : h.size ≤ a44 := Nat.le_trans K42.1 g47
    have K49 : Keep h h43 [] := K42.trans J43 all0
    have X50 := WS.drop (A := [a44]) (B := (a1 :: WL)) X43
    have X51 := WS.drop (A := [a44]) (B := WL) X50
    have X52 := WS.fl (FL2 := (a45 :: FL)) X51 (fun y hy => (List.mem_cons.mp hy).elim (fun q => q ▸ (mg 2 rfl)) (fun q0 => (List.mem_append_right [a1, a8, a45, a30, b30, a15, b15] q0)))
    exact WS.retA X52 (WL' := [a44]) (FL' := [a45]) hx hret rfl rfl hlk (hb hby d5_71) (nle rfl) (nle rfl) ⟨a44, a45, ((([] ++ hs) ++ [(58 : Int32)]) ++ digs n kd), rfl, rfl, rfl, K49, ge48, G46, (Or.inr ⟨(G22.resolve_left (fun q => by rw [er] at q; exact absurd q.1 (by decide))).2, by simp⟩)⟩
  · skip
    refine P.ifNo X20 hx 19 (hb hby d5_16) ((if0 _ _).trans (feq er).1) rfl ?_
    refine X20.newO hx (w39 cx) (w40 cx) (w41 cx) (hb hby d5_19) (nle rfl) (nle rfl) ?_
    intro T23 h23 a23 X23 E23 g23 A23 D23
    have ge24 : h.size ≤ a23 := Nat.le_trans K16.1 g23
    have K25 : Keep h h23 [] := K16.ext E23
    have D26 : Fld Z h23 a23 "java/lang/AbstractStringBuilder" "value" "[B" .null := D23 (Or.inl (w54 cx)) (ty := (.array .byte)) (by decide)
    have D27 : Fld Z h23 a23 "java/lang/AbstractStringBuilder" "coder" "B" (.int 0) := D23 (Or.inl (w56 cx)) (ty := .byte) (by decide)
    have D28 : Fld Z h23 a23 "java/lang/AbstractStringBuilder" "count" "I" (.int 0) := D23 (Or.inl (w108 cx)) (ty := .int) (by decide)
    refine P.dup X23 hx 23 (hb hby d5_22) rfl rfl ?_
    refine X23.callC hx rfl (w42 cx) (w43 cx) (w44 cx) (by decide) (Ct.pay (W := 2) (ct_sbini cx a23 h23 _ _ A23 D26 D27 D28 (mg 0 rfl)) (w44 cx) (w41 cx) (nle rfl) (nle rfl)) (by rw [hml]; rfl) (argsL := []) (rest := [.ref a23, .ref a1]) (lenOf pd22 rfl) rfl rfl (Nat.le_of_eq rfl) (hb hby d5_23) (nle rfl) (nle rfl) ?_
    rintro T29 h29 _ _ _ X29 ⟨a30, rfl, rfl, rfl, J29, g32, G31⟩
    have ge33 : h.size ≤ a30 := Nat.le_trans K25.1 g32
    have K34 : Keep h h29 [] := K25.trans J29 (allS (Or.inr ge24) all0)
    refine X29.ldc hx (w238 cx) (strAtoms cx) (by decide) (vs := [(.int 91)]) (z := (1 : Int32)) ⟨by decide, by decide⟩ (by decide) rfl (hb hby d5_26) (n := 4) (nle rfl) (nle rfl) (nle rfl) (nle rfl) ?_
    intro T35 h35 a35 b35 k35 X35 E35 A35 C35 V35 B35
    have K36 : Keep h h35 [] := K34.ext E35
    have S37 : StrL Z h35 a35 b35 [(91 : Int32)] := ⟨A35, V35, C35, ⟨_, B35⟩, (by decide), nle rfl⟩
    have F38 := G31.1.ext E35
    have F39 := G31.ext E35
    refine X35.callV hx (w92 cx) (w93 cx) (w95 cx) (w94 cx) (fun _ hZ => nf hZ (w95 cx)) (by decide) F38 (Ct.pay (W := 1) (ct_sbappN cx a23 a35 b35 a30 16 ([]) ([(91 : Int32)]) h35 _ _ F39 S37 (mg 1 rfl) (mg 0 rfl) (X35.ne (i := 1) (j := 0) rfl rfl (by decide)) (by simp <;> omega)) (w96 cx) (w41 cx) (nle rfl) (nle rfl)) (by rw [hml]; rfl) (argsL := [.ref a35]) (rest := [.ref a1]) (lenOf pd24 rfl) rfl rfl (Nat.le_of_eq rfl) (hb hby d5_28) (nle rfl) (nle rfl) ?_
    rintro T40 h40 _ _ _ X40 ⟨rfl, rfl, rfl, J40, G41⟩
    have K42 : Keep h h40 [] := K36.trans J40 (allS (Or.inr ge24) (allS (Or.inr ge33) all0))
    refine P.aloadN X40 hx 32 (hb hby d5_31) rfl rfl rfl ?_
    have F43 := ((((F13.ext E15).ext E23).keep J29 (ninS (Ne.symm (X40.neT (A := [a30, a23, a8, a1]) (B := WL) (mg 1 rfl) P4)) nin0)).ext E35).keep J40 (ninS (Ne.symm (X40.neT (A := [a30, a23, a8, a1]) (B := WL) (mg 1 rfl) P4)) (ninS (Ne.symm (X40.neT (A := [a30, a23, a8, a1]) (B := WL) (mg 0 rfl) P4)) nin0))
    refine X40.getF hx (host := "") (Or.inl (w30 cx)) Via.refl F43 (hb hby d5_32) ?_
    intro T44 X44
    have F45 := (((F19.ext E23).keep J29 (ninS (X44.neF (mc (mc (mc (mc P5)))) (mg 1 rfl)) nin0) (ninS (X44.neF (mc (mc (mc (mc P6)))) (mg 1 rfl)) nin0)).ext E35).keep J40 (ninS (X44.neF (mc (mc (mc (mc P5)))) (mg 1 rfl)) (ninS (X44.neF (mc (mc (mc (mc P5)))) (mg 0 rfl)) nin0)) (ninS (X44.neF (mc (mc (mc (mc P6)))) (mg 1 rfl)) (ninS (X44.neF (mc (mc (mc (mc P6)))) (mg 0 rfl)) nin0))
    refine X44.callV hx (w92 cx) (w93 cx) (w95 cx) (w94 cx) (fun _ hZ => nf hZ (w95 cx)) (by decide) G41.1 (Ct.pay (W := 1) (ct_sbappN cx a23 g gu a30 16 ([] ++ [(91 : Int32)]) hs h40 _ _ G41 F45 (mg 1 rfl) (mg 0 rfl) (X44.ne (i := 1) (j := 0) rfl rfl (by decide)) (by simp <;> omega)) (w96 cx) (w41 cx) (nle rfl) (nle rfl)) (by rw [hml]; rfl) (argsL := [.ref g]) (rest := [.ref a1]) (lenOf pd24 rfl) rfl rfl (Nat.le_of_eq rfl) (hb hby d5_35) (nle rfl) (nle rfl) ?_
    rintro T46 h46 _ _ _ X46 ⟨rfl, rfl, rfl, J46, G47⟩
    have K48 : Keep h h46 [] := K42.trans J46 (allS (Or.inr ge24) (allS (Or.inr ge33) all0))
    refine X46.ldc hx (w239 cx) (strAtoms cx) (by decide) (vs := [(.int 93)]) (z := (1 : Int32)) ⟨by decide, by decide⟩ (by decide) rfl (hb hby d5_38) (n := 4) (nle rfl) (nle rfl) (nle rfl) (nle rfl) ?_
    intro T49 h49 a49 b49 k49 X49 E49 A49 C49 V49 B49
    have K50 : Keep h h49 [] := K48.ext E49
    have S51 : StrL Z h49 a49 b49 [(93 : Int32)] := ⟨A49, V49, C49, ⟨_, B49⟩, (by decide), nle rfl⟩
    have F52 := G47.1.ext E49
    have F53 := G47.ext E49
    refine X49.callV hx (w92 cx) (w93 cx) (w95 cx) (w94 cx) (fun _ hZ => nf hZ (w95 cx)) (by decide) F52 (Ct.pay (W := 1) (ct_sbappN cx a23 a49 b49 a30 16 (([] ++ [(91 : Int32)]) ++ hs) ([(93 : Int32)]) h49 _ _ F53 S51 (mg 1 rfl) (mg 0 rfl) (X49.ne (i := 1) (j := 0) rfl rfl (by decide)) (by simp <;> omega)) (w96 cx) (w41 cx) (nle rfl) (nle rfl)) (by rw [hml]; rfl) (argsL := [.ref a49]) (rest := [.ref a1]) (lenOf pd24 rfl) rfl rfl (Nat.le_of_eq rfl) (hb hby d5_40) (nle rfl) (nle rfl) ?_
    rintro T54 h54 _ _ _ X54 ⟨rfl, rfl, rfl, J54, G55⟩
    have K56 : Keep h h54 [] := K50.trans J54 (allS (Or.inr ge24) (allS (Or.inr ge33) all0))
    refine X54.callV hx (w156 cx) (w157 cx) (w159 cx) (w158 cx) (fun _ hZ => nf hZ (w159 cx)) (by decide) G55.1 (Ct.pay (W := 1) (ct_sbstr cx a23 a30 16 ((([] ++ [(91 : Int32)]) ++ hs) ++ [(93 : Int32)]) h54 _ _ G55 (mg 1 rfl) (mg 0 rfl) (by simp <;> omega) (by simp <;> omega)) (w160 cx) (w41 cx) (nle rfl) (nle rfl)) (by rw [hml]; rfl) (argsL := []) (rest := [.ref a1]) (lenOf pd20 rfl) rfl rfl (Nat.le_of_eq rfl) (hb hby d5_43) (nle rfl) (nle rfl) ?_
    rintro T57 h57 _ _ _ X57 ⟨a58, a59, rfl, rfl, rfl, J57, g61, G60⟩
    have ge62 : h.size ≤ a58 := Nat.le_trans K56.1 g61
    have K63 : Keep h h57 [] := K56.trans J57 all0
    have X64 := WS.drop (A := []) (B := (a30 :: a23 :: a8 :: a1 :: WL)) X57
    refine P.goto X64 hx 53 (hb hby d5_46) (by decide) (by decide) ?_
    have F65 := ((((((((G9.1.ext E15).ext E23).keep J29).ext E35).keep J40).keep J46).ext E49).keep J54).keep J57
    have F66 := ((((((((G9.ext E15).ext E23).keep J29 (ninS (X64.ne (i := 3) (j := 1) rfl rfl (by decide)) nin0) (ninS (X64.ne (i := 2) (j := 1) rfl rfl (by decide)) nin0)).ext E35).keep J40 (ninS (X64.ne (i := 3) (j := 1) rfl rfl (by decide)) (ninS (X64.ne (i := 3) (j := 0) rfl rfl (by decide)) nin0)) (ninS (X64.ne (i := 2) (j := 1) rfl rfl (by decide)) (ninS (X64.ne (i := 2) (j := 0) rfl rfl (by decide)) nin0))).keep J46 (ninS (X64.ne (i := 3) (j := 1) rfl rfl (by decide)) (ninS (X64.ne (i := 3) (j := 0) rfl rfl (by decide)) nin0)) (ninS (X64.ne (i := 2) (j := 1) rfl rfl (by decide)) (ninS (X64.ne (i := 2) (j := 0) rfl rfl (by decide)) nin0))).ext E49).keep J54 (ninS (X64.ne (i := 3) (j := 1) rfl rfl (by decide)) (ninS (X64.ne (i := 3) (j := 0) rfl rfl (by decide)) nin0)) (ninS (X64.ne (i := 2) (j := 1) rfl rfl (by decide)) (ninS (X64.ne (i := 2) (j := 0) rfl rfl (by decide)) nin0))).keep J57 nin0 nin0
    refine X64.callV hx (w92 cx) (w93 cx) (w95 cx) (w94 cx) (fun _ hZ => nf hZ (w95 cx)) (by decide) F65 (Ct.pay (W := 0) (ct_sbappN cx a1 a58 a59 a8 16 ([]) ((([] ++ [(91 : Int32)]) ++ hs) ++ [(93 : Int32)]) h57 _ _ F66 G60 (mg 3 rfl) (mg 2 rfl) (X64.ne (i := 3) (j := 2) rfl rfl (by decide)) (by simp <;> omega)) (w96 cx) (w41 cx) (nle rfl) (nle rfl)) (by rw [hml]; rfl) (argsL := [.ref a58]) (rest := []) (lenOf pd24 rfl) rfl rfl (Nat.le_of_eq rfl) (hb hby d5_53) (nle rfl) (nle rfl) ?_
    rintro T67 h67 _ _ _ X67 ⟨rfl, rfl, rfl, J67, G68⟩
    have K69 : Keep h h67 [] := K63.trans J67 (allS (Or.inr ge2) (allS (Or.inr ge11) all0))
    refine X67.ldc hx (w57 cx) (strAtoms cx) (by decide) (vs := [(.int 58)]) (z := (1 : Int32)) ⟨by decide, by decide⟩ (by decide) rfl (hb hby d5_56) (n := 4) (nle rfl) (nle rfl) (nle rfl) (nle rfl) ?_
    intro T70 h70 a70 b70 k70 X70 E70 A70 C70 V70 B70
    have K71 : Keep h h70 [] := K69.ext E70
    have S72 : StrL Z h70 a70 b70 [(58 : Int32)] := ⟨A70, V70, C70, ⟨_, B70⟩, (by decide), nle rfl⟩
    have F73 := G68.1.ext E70
    have F74 := G68.ext E70
    refine X70.callV hx (w92 cx) (w93 cx) (w95 cx) (w94 cx) (fun _ hZ => nf hZ (w95 cx)) (by decide) F73 (Ct.pay (W := 0) (ct_sbappN cx a1 a70 b70 a8 16 ([] ++ ((([] ++ [(91 : Int32)]) ++ hs) ++ [(93 : Int32)])) ([(58 : Int32)]) h70 _ _ F74 S72 (mg 3 rfl) (mg 2 rfl) (X70.ne (i := 3) (j := 2) rfl rfl (by decide)) (by simp <;> omega)) (w96 cx) (w41 cx) (nle rfl) (nle rfl)) (by rw [hml]; rfl) (argsL := [.ref a70]) (rest := []) (lenOf pd24 rfl) rfl rfl (Nat.le_of_eq rfl) (hb hby d5_58) (nle rfl) (nle rfl) ?_
    rintro T75 h75 _ _ _ X75 ⟨rfl, rfl, rfl, J75, G76⟩
    have K77 : Keep h h75 [] := K71.trans J75 (allS (Or.inr ge2) (allS (Or.inr ge11) all0))
    refine P.aloadN X75 hx 62 (hb hby d5_61) rfl rfl rfl ?_
    have F78 := (((((((((((((P2.ext E1).keep J7 (ninS (Ne.symm (X75.neT (A := [a30, a23, a8, a1]) (B := WL) (mg 3 rfl) P4)) nin0)).ext E15).ext E23).keep J29 (ninS (Ne.symm (X75.neT (A := [a30, a23, a8, a1]) (B := WL) (mg 1 rfl) P4)) nin0)).ext E35).keep J40 (ninS (Ne.symm (X75.neT (A := [a30, a23, a8, a1]) (B := WL) (mg 1 rfl) P4)) (ninS (Ne.symm (X75.neT (A := [a30, a23, a8, a1]) (B := WL) (mg 0 rfl) P4)) nin0))).keep J46 (ninS (Ne.symm (X75.neT (A := [a30, a23, a8, a1]) (B := WL) (mg 1 rfl) P4)) (ninS (Ne.symm (X75.neT (A := [a30, a23, a8, a1]) (B := WL) (mg 0 rfl) P4)) nin0))).ext E49).keep J54 (ninS (Ne.symm (X75.neT (A := [a30, a23, a8, a1]) (B := WL) (mg 1 rfl) P4)) (ninS (Ne.symm (X75.neT (A := [a30, a23, a8, a1]) (B := WL) (mg 0 rfl) P4)) nin0))).keep J57 nin0).keep J67 (ninS (Ne.symm (X75.neT (A := [a30, a23, a8, a1]) (B := WL) (mg 3 rfl) P4)) (ninS (Ne.symm (X75.neT (A := [a30, a23, a8, a1]) (B := WL) (mg 2 rfl) P4)) nin0))).ext E70).keep J75 (ninS (Ne.symm (X75.neT (A := [a30, a23, a8, a1]) (B := WL) (mg 3 rfl) P4)) (ninS (Ne.symm (X75.neT (A := [a30, a23, a8, a1]) (B := WL) (mg 2 rfl) P4)) nin0))
    refine X75.getF hx (host := "") (Or.inl (w32 cx)) Via.refl F78 (hb hby d5_62) ?_
    intro T79 X79
    refine X79.callV hx (w134 cx) (w135 cx) (w137 cx) (w136 cx) (fun _ hZ => nf hZ (w137 cx)) (by decide) G76.1 (Ct.pay (W := 0) (ct_sbapi cx a1 a8 16 (([] ++ ((([] ++ [(91 : Int32)]) ++ hs) ++ [(93 : Int32)])) ++ [(58 : Int32)]) n kd h75 _ _ G76 (mg 3 rfl) (mg 2 rfl) (X79.ne (i := 3) (j := 2) rfl rfl (by decide)) (by simp <;> omega) hDK) (w138 cx) (w41 cx) (nle rfl) (nle rfl)) (by rw [hml]; rfl) (argsL := [.int (Int32.ofNat n)]) (rest := []) (lenOf pd25 rfl) rfl rfl (Nat.le_of_eq rfl) (hb hby d5_65) (nle rfl) (nle rfl) ?_
    rintro T80 h80 _ _ _ X80 ⟨rfl, rfl, rfl, J80, G81⟩
    have K82 : Keep h h80 [] := K77.trans J80 (allS (Or.inr ge2) (allS (Or.inr ge11) all0))
    refine X80.callV hx (w156 cx) (w157 cx) (w159 cx) (w158 cx) (fun _ hZ => nf hZ (w159 cx)) (by decide) G81.1 (Ct.pay (W := 0) (ct_sbstr cx a1 a8 16 ((([] ++ ((([] ++ [(91 : Int32)]) ++ hs) ++ [(93 : Int32)])) ++ [(58 : Int32)]) ++ digs n kd) h80 _ _ G81 (mg 3 rfl) (mg 2 rfl) (by simp [digs_len] <;> omega) (by simp [digs_len] <;> omega)) (w160 cx) (w41 cx) (nle rfl) (nle rfl)) (by rw [hml]; rfl) (argsL := []) (rest := []) (lenOf pd20 rfl) rfl rfl (Nat.le_of_eq rfl) (hb hby d5_68) (nle rfl) (nle rfl) ?_
    rintro T83 h83 _ _ _ X83 ⟨a84, a85, rfl, rfl, rfl, J83, g87, G86⟩
    have ge88 : h.size ≤ a84 := Nat.le_trans K82.1 g87
    have K89 : Keep h h83 [] := K82.trans J83 all0
    have X90 := WS.drop (A := [a84]) (B := (a23 :: a8 :: a1 :: WL)) X83
    have X91 := WS.drop (A := [a84]) (B := (a8 :: a1 :: WL)) X90
    have X92 := WS.drop (A := [a84]) (B := (a1 :: WL)) X91
    have X93 := WS.drop (A := [a84]) (B := WL) X92
    have X94 := WS.fl (FL2 := (a85 :: FL)) X93 (fun y hy => (List.mem_cons.mp hy).elim (fun q => q ▸ (mg 4 rfl)) (fun q0 => (List.mem_append_right [a1, a8, a23, a30, a85, a70, b70, a58, a59, a49, b49, a35, b35, a15, b15] q0)))
    exact WS.retA X94 (WL' := [a84]) (FL' := [a85]) hx hret rfl rfl hlk (hb hby d5_71) (nle rfl) (nle rfl) ⟨a84, a85, ((([] ++ ((([] ++ [(91 : Int32)]) ++ hs) ++ [(93 : Int32)])) ++ [(58 : Int32)]) ++ digs n kd), rfl, rfl, rfl, K89, ge88, G86, (Or.inl ⟨(G22.resolve_right (fun q => er q.1)).2, by simp⟩)⟩
def Q_at (Z : State) (gC : Int32) (gF : Value) (v_DO : Addr) (k_DO : ClassId) (v_DT : Addr) (k_DT : ClassId) (x : Addr) (t : Addr) (zs : List Int32) (j : Int32) (i : Nat) (ch : Int32) (h : Heap) (v : Option Value) (h' : Heap) (WL' FL' : List Addr) : Prop := v = some (.int 1) ∧ WL' = [] ∧ FL' = [] ∧ h' = h
theorem ct_at (cx : Cx a0 Z gC gF v_DO k_DO v_DT k_DT) (x : Addr) (t : Addr) (zs : List Int32) (j : Int32) (i : Nat) (ch : Int32) (h : Heap) (WL FL : List Addr) (P0 : StrL Z h x t zs) (hj : j = Int32.ofNat i) (hi : i < zs.length) (hl : zs.length ≤ 100) (hc : zs.getD i 0 = ch) :
    Ct l Z EL1 n0 (⟨"com/example/need_to_know/needtoknow/ListenAddressToStringPinLaw", "at", "(Ljava/lang/String;IC)Z"⟩ : MethodName) method_3_code 3 (Option.some FieldType.boolean) ({ frames := 4, cells := 0, slots := 0, locals := 53 } : Room) #[(.ref x), (.int j), (.int ch)] h WL FL (Q_at Z gC gF v_DO k_DO v_DT k_DT x t zs j i ch h) := by
  refine Ct.of (plainFor_of_name pn7) ?_
  intro p e s m below meth c s1 hx hby hml hnm hret hlk X0
  refine Wo.cast (f' := (mkF m 0 #[.val (.ref x), .val (.int j), .val (.int ch)] [])) (by rfl) ?_
  show Wo _ _ _ _ _ _ _ _ _ _ _ s1 (mkF m 0 #[.val (.ref x), .val (.int j), .val (.int ch)] [])
  refine P.iloadN X0 hx 1 (hb hby d36_0) rfl rfl ?_
  refine P.ifNo X0 hx 4 (hb hby d36_1) ((if0 _ _).trans (flt (by rw [hj]; exact oNn (by omega))).1) rfl ?_
  refine P.iloadN X0 hx 5 (hb hby d36_4) rfl rfl ?_
  refine P.aloadN X0 hx 6 (hb hby d36_5) rfl rfl rfl ?_
  refine X0.callV hx (w197 cx) (w103 cx) (w105 cx) (w104 cx) (fun _ hZ => nf hZ (w105 cx)) (by decide) P0.1 (pay_len (W := 1) (hln cx) (w2 cx) P0 (X0.sta (S_C cx)) (N_C cx) (nle rfl) (nle rfl)) (by rw [hml]; rfl) (argsL := []) (rest := [.int j]) (lenOf pd4 rfl) rfl rfl (Nat.le_of_eq rfl) (hb hby d36_6) (nle rfl) (nle rfl) ?_
  rintro T1 h1 _ _ _ X1 ⟨rfl, rfl, rfl, J1⟩
  rw [J1] at X1
  show Wo _ _ _ _ _ _ _ _ _ _ _ T1 (mkF m 9 #[.val (.ref x), .val (.int j), .val (.int ch)] [.int (Int32.ofNat zs.length), .int j])
  refine P.icmpNo X1 hx 12 (hb hby d36_9) (tlt (by rw [hj]; exact (oLt (by omega) (by omega)).mpr hi)).2.1 rfl ?_
  refine P.aloadN X1 hx 13 (hb hby d36_12) rfl rfl rfl ?_
  refine P.iloadN X1 hx 14 (hb hby d36_13) rfl rfl ?_
  refine X1.callV hx (w202 cx) (w203 cx) (w205 cx) (w204 cx) (fun _ hZ => nf hZ (w205 cx)) (by decide) P0.1 (pay_chr (W := 0) (hch cx) (w2 cx) P0 (X1.sta (S_C cx)) (N_C cx) (X1.sta (S_F cx)) (R_F cx) (i := i) hi hj (nle rfl) (nle rfl)) (by rw [hml]; rfl) (argsL := [.int j]) (rest := []) (lenOf pd26 rfl) rfl rfl (Nat.le_of_eq rfl) (hb hby d36_14) (nle rfl) (nle rfl) ?_
  rintro T2 h2 _ _ _ X2 ⟨rfl, rfl, rfl, J2⟩
  rw [J2] at X2
  show Wo _ _ _ _ _ _ _ _ _ _ _ T2 (mkF m 17 #[.val (.ref x), .val (.int j), .val (.int ch)] [.int (zs.getD i 0)])
  refine P.iloadN X2 hx 18 (hb hby d36_17) rfl rfl ?_
  refine P.icmpNo X2 hx 21 (hb hby d36_18) (teq hc).2 rfl ?_
  refine P.iconst X2 hx 22 1 (hb hby d36_21) rfl rfl ?_
  refine P.goto X2 hx 26 (hb hby d36_22) (by decide) (by decide) ?_
  exact WS.retN X2 (WL' := []) (FL' := []) hx (t := .boolean) hret (by simp) hlk (hb hby d36_26) (nle rfl) (nle rfl) ⟨rfl, rfl, rfl, rfl⟩
def Q_digN (Z : State) (gC : Int32) (gF : Value) (v_DO : Addr) (k_DO : ClassId) (v_DT : Addr) (k_DT : ClassId) (x : Addr) (t : Addr) (zs : List Int32) (st : Int32) (n : Nat) (ln : Int32) (k : Int32) (j : Nat) (h : Heap) (v : Option Value) (h' : Heap) (WL' FL' : List Addr) : Prop := v = some (.int 1) ∧ WL' = [] ∧ FL' = [] ∧ h' = h
theorem ct_digN (cx : Cx a0 Z gC gF v_DO k_DO v_DT k_DT) (x : Addr) (t : Addr) (zs : List Int32) (st : Int32) (n : Nat) (ln : Int32) (k : Int32) (j : Nat) (h : Heap) (WL FL : List Addr) (P0 : StrL Z h x t zs) (hn : n < 65536) (hzl : zs.length ≤ 100) (hlt : ¬ k < ln) :
    Ct l Z EL1 n0 (⟨"com/example/need_to_know/needtoknow/ListenAddressToStringPinLaw", "digit", "(Ljava/lang/String;IIII)Z"⟩ : MethodName) method_5_code 6 (Option.some FieldType.boolean) ({ frames := 5, cells := 0, slots := 0, locals := 67 } : Room) #[(.ref x), (.int st), (.int (Int32.ofNat n)), (.int ln), (.int k)] h WL FL (Q_digN Z gC gF v_DO k_DO v_DT k_DT x t zs st n ln k j h) := by
  refine Ct.of (plainFor_of_name pn7) ?_
  intro p e s m below meth c s1 hx hby hml hnm hret hlk X0
  refine Wo.cast (f' := (mkF m 0 #[.val (.ref x), .val (.int st), .val (.int (Int32.ofNat n)), .val (.int ln), .val (.int k), .unset] [])) (by rfl) ?_
  show Wo _ _ _ _ _ _ _ _ _ _ _ s1 (mkF m 0 #[.val (.ref x), .val (.int st), .val (.int (Int32.ofNat n)), .val (.int ln), .val (.int k), .unset] [])
  refine P.iload X0 hx 2 (hb hby d41_0) rfl rfl ?_
  refine P.iloadN X0 hx 3 (hb hby d41_2) rfl rfl ?_
  refine P.icmpNo X0 hx 6 (hb hby d41_3) (flt hlt).1 rfl ?_
  refine P.iconst X0 hx 7 1 (hb hby d41_6) rfl rfl ?_
  exact WS.retN X0 (WL' := []) (FL' := []) hx (t := .boolean) hret (by simp) hlk (hb hby d41_7) (nle rfl) (nle rfl) ⟨rfl, rfl, rfl, rfl⟩
def Q_pow_0 (Z : State) (gC : Int32) (gF : Value) (v_DO : Addr) (k_DO : ClassId) (v_DT : Addr) (k_DT : ClassId) (h : Heap) (v : Option Value) (h' : Heap) (WL' FL' : List Addr) : Prop := v = some (.int 1) ∧ WL' = [] ∧ FL' = [] ∧ h' = h
theorem ct_pow_0 (cx : Cx a0 Z gC gF v_DO k_DO v_DT k_DT) (h : Heap) (WL FL : List Addr)  :
    Ct l Z EL1 n0 (⟨"com/example/need_to_know/needtoknow/ListenAddressToStringPinLaw", "pow10", "(I)I"⟩ : MethodName) method_4_code 1 (Option.some FieldType.int) ({ frames := 0, cells := 0, slots := 0, locals := 0 } : Room) #[(.int 0)] h WL FL (Q_pow_0 Z gC gF v_DO k_DO v_DT k_DT h) := by
  refine Ct.of (plainFor_of_name pn7) ?_
  intro p e s m below meth c s1 hx hby hml hnm hret hlk X0
  refine Wo.cast (f' := (mkF m 0 #[.val (.int 0)] [])) (by rfl) ?_
  show Wo _ _ _ _ _ _ _ _ _ _ _ s1 (mkF m 0 #[.val (.int 0)] [])
  refine P.iloadN X0 hx 1 (hb hby d42_0) rfl rfl ?_
  refine P.ifNo X0 hx 4 (hb hby d42_1) (by decide) rfl ?_
  refine P.iconst X0 hx 5 1 (hb hby d42_4) rfl rfl ?_
  refine P.goto X0 hx 42 (hb hby d42_5) (by decide) (by decide) ?_
  exact WS.retI X0 (WL' := []) (FL' := []) hx hret hlk (hb hby d42_42) (nle rfl) (nle rfl) ⟨rfl, rfl, rfl, rfl⟩
def Q_dig0 (Z : State) (gC : Int32) (gF : Value) (v_DO : Addr) (k_DO : ClassId) (v_DT : Addr) (k_DT : ClassId) (x : Addr) (t : Addr) (zs : List Int32) (st : Int32) (n : Nat) (ln : Int32) (k : Int32) (j : Nat) (h : Heap) (v : Option Value) (h' : Heap) (WL' FL' : List Addr) : Prop := v = some (.int 1) ∧ WL' = [] ∧ FL' = [] ∧ h' = h
theorem ct_dig0 (cx : Cx a0 Z gC gF v_DO k_DO v_DT k_DT) (x : Addr) (t : Addr) (zs : List Int32) (st : Int32) (n : Nat) (ln : Int32) (k : Int32) (j : Nat) (h : Heap) (WL FL : List Addr) (P0 : StrL Z h x t zs) (hn : n < 65536) (hzl : zs.length ≤ 100) (hlt : k < ln) (hi : j < zs.length) (hj : st + k = Int32.ofNat j) (he : (ln - 1) - k = Int32.ofNat 0) (hd : zs.getD j 0 = dg n 0) :
    Ct l Z EL1 n0 (⟨"com/example/need_to_know/needtoknow/ListenAddressToStringPinLaw", "digit", "(Ljava/lang/String;IIII)Z"⟩ : MethodName) method_5_code 6 (Option.some FieldType.boolean) ({ frames := 5, cells := 0, slots := 0, locals := 67 } : Room) #[(.ref x), (.int st), (.int (Int32.ofNat n)), (.int ln), (.int k)] h WL FL (Q_dig0 Z gC gF v_DO k_DO v_DT k_DT x t zs st n ln k j h) := by
  refine Ct.of (plainFor_of_name pn7) ?_
  intro p e s m below meth c s1 hx hby hml hnm hret hlk X0
  refine Wo.cast (f' := (mkF m 0 #[.val (.ref x), .val (.int st), .val (.int (Int32.ofNat n)), .val (.int ln), .val (.int k), .unset] [])) (by rfl) ?_
  show Wo _ _ _ _ _ _ _ _ _ _ _ s1 (mkF m 0 #[.val (.ref x), .val (.int st), .val (.int (Int32.ofNat n)), .val (.int ln), .val (.int k), .unset] [])
  refine P.iload X0 hx 2 (hb hby d41_0) rfl rfl ?_
  refine P.iloadN X0 hx 3 (hb hby d41_2) rfl rfl ?_
  refine P.icmpYes X0 hx 8 (hb hby d41_3) (tlt hlt).1 (by decide) (by decide) ?_
  refine P.iloadN X0 hx 9 (hb hby d41_8) rfl rfl ?_
  refine P.iconst X0 hx 10 1 (hb hby d41_9) rfl rfl ?_
  refine P.isub X0 hx 11 (z := (ln - (1 : Int32))) (hb hby d41_10) rfl rfl ?_
  refine P.iload X0 hx 13 (hb hby d41_11) rfl rfl ?_
  refine P.isub X0 hx 14 (z := (0 : Int32)) (hb hby d41_13) (he) rfl ?_
  refine X0.callS hx (w221 cx) (w222 cx) (w200 cx) (w223 cx) (by decide) (Ct.pay (W := 0) (ct_pow_0 cx  h _ _ ) (w223 cx) (w200 cx) (nle rfl) (nle rfl)) (by rw [hml]; rfl) (argsL := [.int 0]) (rest := []) (lenOf pd15 rfl) rfl rfl (Nat.le_of_eq rfl) (hb hby d41_14) (nle rfl) (nle rfl) ?_
  rintro T1 h1 _ _ _ X1 ⟨rfl, rfl, rfl, J1⟩
  rw [J1] at X1
  refine P.istore X1 hx 19 #[.val (.ref x), .val (.int st), .val (.int (Int32.ofNat n)), .val (.int ln), .val (.int k), .val (.int 1)] (hb hby d41_17) rfl rfl ?_
  refine P.aloadN X1 hx 20 (hb hby d41_19) rfl rfl rfl ?_
  refine P.iloadN X1 hx 21 (hb hby d41_20) rfl rfl ?_
  refine P.iload X1 hx 23 (hb hby d41_21) rfl rfl ?_
  refine P.iadd X1 hx 24 (z := (st + k)) (hb hby d41_23) rfl rfl ?_
  refine P.bipush X1 hx 26 48 (hb hby d41_24) rfl rfl ?_
  refine P.iloadN X1 hx 27 (hb hby d41_26) rfl rfl ?_
  refine P.iload X1 hx 29 (hb hby d41_27) rfl rfl ?_
  refine P.idiv X1 hx 30 (z := ((Int32.ofNat n) / (1 : Int32))) (hb hby d41_29) (by decide) rfl rfl ?_
  refine P.bipush X1 hx 32 10 (hb hby d41_30) rfl rfl ?_
  refine P.irem X1 hx 33 (z := (((Int32.ofNat n) / (1 : Int32)) % (10 : Int32))) (hb hby d41_32) (by decide) rfl rfl ?_
  refine P.iadd X1 hx 34 (z := ((48 : Int32) + (((Int32.ofNat n) / (1 : Int32)) % (10 : Int32)))) (hb hby d41_33) rfl rfl ?_
  refine P.i2c X1 hx 35 (z := (dg n 0)) (hb hby d41_34) (dgc (P := 1) hn rfl rfl (by decide)) rfl ?_
  refine X1.callS hx (w198 cx) (w199 cx) (w200 cx) (w201 cx) (by decide) (Ct.pay (W := 0) (ct_at cx x t zs (st + k) j (dg n 0) h _ _ P0 hj hi hzl hd) (w201 cx) (w200 cx) (nle rfl) (nle rfl)) (by rw [hml]; rfl) (argsL := [.ref x, .int (st + k), .int (dg n 0)]) (rest := []) (lenOf pd27 rfl) rfl rfl (Nat.le_of_eq rfl) (hb hby d41_35) (nle rfl) (nle rfl) ?_
  rintro T2 h2 _ _ _ X2 ⟨rfl, rfl, rfl, J2⟩
  rw [J2] at X2
  exact WS.retN X2 (WL' := []) (FL' := []) hx (t := .boolean) hret (by simp) hlk (hb hby d41_38) (nle rfl) (nle rfl) ⟨rfl, rfl, rfl, rfl⟩
def Q_pow_1 (Z : State) (gC : Int32) (gF : Value) (v_DO : Addr) (k_DO : ClassId) (v_DT : Addr) (k_DT : ClassId) (h : Heap) (v : Option Value) (h' : Heap) (WL' FL' : List Addr) : Prop := v = some (.int 10) ∧ WL' = [] ∧ FL' = [] ∧ h' = h
theorem ct_pow_1 (cx : Cx a0 Z gC gF v_DO k_DO v_DT k_DT) (h : Heap) (WL FL : List Addr)  :
    Ct l Z EL1 n0 (⟨"com/example/need_to_know/needtoknow/ListenAddressToStringPinLaw", "pow10", "(I)I"⟩ : MethodName) method_4_code 1 (Option.some FieldType.int) ({ frames := 0, cells := 0, slots := 0, locals := 0 } : Room) #[(.int 1)] h WL FL (Q_pow_1 Z gC gF v_DO k_DO v_DT k_DT h) := by
  refine Ct.of (plainFor_of_name pn7) ?_
  intro p e s m below meth c s1 hx hby hml hnm hret hlk X0
  refine Wo.cast (f' := (mkF m 0 #[.val (.int 1)] [])) (by rfl) ?_
  show Wo _ _ _ _ _ _ _ _ _ _ _ s1 (mkF m 0 #[.val (.int 1)] [])
  refine P.iloadN X0 hx 1 (hb hby d42_0) rfl rfl ?_
  refine P.ifYes X0 hx 8 (hb hby d42_1) (by decide) (by decide) (by decide) ?_
  refine P.iloadN X0 hx 9 (hb hby d42_8) rfl rfl ?_
  refine P.iconst X0 hx 10 1 (hb hby d42_9) rfl rfl ?_
  refine P.icmpNo X0 hx 13 (hb hby d42_10) (by decide) rfl ?_
  refine P.bipush X0 hx 15 10 (hb hby d42_13) rfl rfl ?_
  refine P.goto X0 hx 42 (hb hby d42_15) (by decide) (by decide) ?_
  exact WS.retI X0 (WL' := []) (FL' := []) hx hret hlk (hb hby d42_42) (nle rfl) (nle rfl) ⟨rfl, rfl, rfl, rfl⟩
def Q_dig1 (Z : State) (gC : Int32) (gF : Value) (v_DO : Addr) (k_DO : ClassId) (v_DT : Addr) (k_DT : ClassId) (x : Addr) (t : Addr) (zs : List Int32) (st : Int32) (n : Nat) (ln : Int32) (k : Int32) (j : Nat) (h : Heap) (v : Option Value) (h' : Heap) (WL' FL' : List Addr) : Prop := v = some (.int 1) ∧ WL' = [] ∧ FL' = [] ∧ h' = h
theorem ct_dig1 (cx : Cx a0 Z gC gF v_DO k_DO v_DT k_DT) (x : Addr) (t : Addr) (zs : List Int32) (st : Int32) (n : Nat) (ln : Int32) (k : Int32) (j : Nat) (h : Heap) (WL FL : List Addr) (P0 : StrL Z h x t zs) (hn : n < 65536) (hzl : zs.length ≤ 100) (hlt : k < ln) (hi : j < zs.length) (hj : st + k = Int32.ofNat j) (he : (ln - 1) - k = Int32.ofNat 1) (hd : zs.getD j 0 = dg n 1) :
    Ct l Z EL1 n0 (⟨"com/example/need_to_know/needtoknow/ListenAddressToStringPinLaw", "digit", "(Ljava/lang/String;IIII)Z"⟩ : MethodName) method_5_code 6 (Option.some FieldType.boolean) ({ frames := 5, cells := 0, slots := 0, locals := 67 } : Room) #[(.ref x), (.int st), (.int (Int32.ofNat n)), (.int ln), (.int k)] h WL FL (Q_dig1 Z gC gF v_DO k_DO v_DT k_DT x t zs st n ln k j h) := by
  refine Ct.of (plainFor_of_name pn7) ?_
  intro p e s m below meth c s1 hx hby hml hnm hret hlk X0
  refine Wo.cast (f' := (mkF m 0 #[.val (.ref x), .val (.int st), .val (.int (Int32.ofNat n)), .val (.int ln), .val (.int k), .unset] [])) (by rfl) ?_
  show Wo _ _ _ _ _ _ _ _ _ _ _ s1 (mkF m 0 #[.val (.ref x), .val (.int st), .val (.int (Int32.ofNat n)), .val (.int ln), .val (.int k), .unset] [])
  refine P.iload X0 hx 2 (hb hby d41_0) rfl rfl ?_
  refine P.iloadN X0 hx 3 (hb hby d41_2) rfl rfl ?_
  refine P.icmpYes X0 hx 8 (hb hby d41_3) (tlt hlt).1 (by decide) (by decide) ?_
  refine P.iloadN X0 hx 9 (hb hby d41_8) rfl rfl ?_
  refine P.iconst X0 hx 10 1 (hb hby d41_9) rfl rfl ?_
  refine P.isub X0 hx 11 (z := (ln - (1 : Int32))) (hb hby d41_10) rfl rfl ?_
  refine P.iload X0 hx 13 (hb hby d41_11) rfl rfl ?_
  refine P.isub X0 hx 14 (z := (1 : Int32)) (hb hby d41_13) (he) rfl ?_
  refine X0.callS hx (w221 cx) (w222 cx) (w200 cx) (w223 cx) (by decide) (Ct.pay (W := 0) (ct_pow_1 cx  h _ _ ) (w223 cx) (w200 cx) (nle rfl) (nle rfl)) (by rw [hml]; rfl) (argsL := [.int 1]) (rest := []) (lenOf pd15 rfl) rfl rfl (Nat.le_of_eq rfl) (hb hby d41_14) (nle rfl) (nle rfl) ?_
  rintro T1 h1 _ _ _ X1 ⟨rfl, rfl, rfl, J1⟩
  rw [J1] at X1
  refine P.istore X1 hx 19 #[.val (.ref x), .val (.int st), .val (.int (Int32.ofNat n)), .val (.int ln), .val (.int k), .val (.int 10)] (hb hby d41_17) rfl rfl ?_
  refine P.aloadN X1 hx 20 (hb hby d41_19) rfl rfl rfl ?_
  refine P.iloadN X1 hx 21 (hb hby d41_20) rfl rfl ?_
  refine P.iload X1 hx 23 (hb hby d41_21) rfl rfl ?_
  refine P.iadd X1 hx 24 (z := (st + k)) (hb hby d41_23) rfl rfl ?_
  refine P.bipush X1 hx 26 48 (hb hby d41_24) rfl rfl ?_
  refine P.iloadN X1 hx 27 (hb hby d41_26) rfl rfl ?_
  refine P.iload X1 hx 29 (hb hby d41_27) rfl rfl ?_
  refine P.idiv X1 hx 30 (z := ((Int32.ofNat n) / (10 : Int32))) (hb hby d41_29) (by decide) rfl rfl ?_
  refine P.bipush X1 hx 32 10 (hb hby d41_30) rfl rfl ?_
  refine P.irem X1 hx 33 (z := (((Int32.ofNat n) / (10 : Int32)) % (10 : Int32))) (hb hby d41_32) (by decide) rfl rfl ?_
  refine P.iadd X1 hx 34 (z := ((48 : Int32) + (((Int32.ofNat n) / (10 : Int32)) % (10 : Int32)))) (hb hby d41_33) rfl rfl ?_
  refine P.i2c X1 hx 35 (z := (dg n 1)) (hb hby d41_34) (dgc (P := 10) hn rfl rfl (by decide)) rfl ?_
  refine X1.callS hx (w198 cx) (w199 cx) (w200 cx) (w201 cx) (by decide) (Ct.pay (W := 0) (ct_at cx x t zs (st + k) j (dg n 1) h _ _ P0 hj hi hzl hd) (w201 cx) (w200 cx) (nle rfl) (nle rfl)) (by rw [hml]; rfl) (argsL := [.ref x, .int (st + k), .int (dg n 1)]) (rest := []) (lenOf pd27 rfl) rfl rfl (Nat.le_of_eq rfl) (hb hby d41_35) (nle rfl) (nle rfl) ?_
  rintro T2 h2 _ _ _ X2 ⟨rfl, rfl, rfl, J2⟩
  rw [J2] at X2
  exact WS.retN X2 (WL' := []) (FL' := []) hx (t := .boolean) hret (by simp) hlk (hb hby d41_38) (nle rfl) (nle rfl) ⟨rfl, rfl, rfl, rfl⟩
def Q_pow_2 (Z : State) (gC : Int32) (gF : Value) (v_DO : Addr) (k_DO : ClassId) (v_DT : Addr) (k_DT : ClassId) (h : Heap) (v : Option Value) (h' : Heap) (WL' FL' : List Addr) : Prop := v = some (.int 100) ∧ WL' = [] ∧ FL' = [] ∧ h' = h
theorem ct_pow_2 (cx : Cx a0 Z gC gF v_DO k_DO v_DT k_DT) (h : Heap) (WL FL : List Addr)  :
    Ct l Z EL1 n0 (⟨"com/example/need_to_know/needtoknow/ListenAddressToStringPinLaw", "pow10", "(I)I"⟩ : MethodName) method_4_code 1 (Option.some FieldType.int) ({ frames := 0, cells := 0, slots := 0, locals := 0 } : Room) #[(.int 2)] h WL FL (Q_pow_2 Z gC gF v_DO k_DO v_DT k_DT h) := by
  refine Ct.of (plainFor_of_name pn7) ?_
  intro p e s m below meth c s1 hx hby hml hnm hret hlk X0
  refine Wo.cast (f' := (mkF m 0 #[.val (.int 2)] [])) (by rfl) ?_
  show Wo _ _ _ _ _ _ _ _ _ _ _ s1 (mkF m 0 #[.val (.int 2)] [])
  refine P.iloadN X0 hx 1 (hb hby d42_0) rfl rfl ?_
  refine P.ifYes X0 hx 8 (hb hby d42_1) (by decide) (by decide) (by decide) ?_
  refine P.iloadN X0 hx 9 (hb hby d42_8) rfl rfl ?_
  refine P.iconst X0 hx 10 1 (hb hby d42_9) rfl rfl ?_
  refine P.icmpYes X0 hx 18 (hb hby d42_10) (by decide) (by decide) (by decide) ?_
  refine P.iloadN X0 hx 19 (hb hby d42_18) rfl rfl ?_
  refine P.iconst X0 hx 20 2 (hb hby d42_19) rfl rfl ?_
  refine P.icmpNo X0 hx 23 (hb hby d42_20) (by decide) rfl ?_
  refine P.bipush X0 hx 25 100 (hb hby d42_23) rfl rfl ?_
  refine P.goto X0 hx 42 (hb hby d42_25) (by decide) (by decide) ?_
  exact WS.retI X0 (WL' := []) (FL' := []) hx hret hlk (hb hby d42_42) (nle rfl) (nle rfl) ⟨rfl, rfl, rfl, rfl⟩
def Q_dig2 (Z : State) (gC : Int32) (gF : Value) (v_DO : Addr) (k_DO : ClassId) (v_DT : Addr) (k_DT : ClassId) (x : Addr) (t : Addr) (zs : List Int32) (st : Int32) (n : Nat) (ln : Int32) (k : Int32) (j : Nat) (h : Heap) (v : Option Value) (h' : Heap) (WL' FL' : List Addr) : Prop := v = some (.int 1) ∧ WL' = [] ∧ FL' = [] ∧ h' = h
theorem ct_dig2 (cx : Cx a0 Z gC gF v_DO k_DO v_DT k_DT) (x : Addr) (t : Addr) (zs : List Int32) (st : Int32) (n : Nat) (ln : Int32) (k : Int32) (j : Nat) (h : Heap) (WL FL : List Addr) (P0 : StrL Z h x t zs) (hn : n < 65536) (hzl : zs.length ≤ 100) (hlt : k < ln) (hi : j < zs.length) (hj : st + k = Int32.ofNat j) (he : (ln - 1) - k = Int32.ofNat 2) (hd : zs.getD j 0 = dg n 2) :
    Ct l Z EL1 n0 (⟨"com/example/need_to_know/needtoknow/ListenAddressToStringPinLaw", "digit", "(Ljava/lang/String;IIII)Z"⟩ : MethodName) method_5_code 6 (Option.some FieldType.boolean) ({ frames := 5, cells := 0, slots := 0, locals := 67 } : Room) #[(.ref x), (.int st), (.int (Int32.ofNat n)), (.int ln), (.int k)] h WL FL (Q_dig2 Z gC gF v_DO k_DO v_DT k_DT x t zs st n ln k j h) := by
  refine Ct.of (plainFor_of_name pn7) ?_
  intro p e s m below meth c s1 hx hby hml hnm hret hlk X0
  refine Wo.cast (f' := (mkF m 0 #[.val (.ref x), .val (.int st), .val (.int (Int32.ofNat n)), .val (.int ln), .val (.int k), .unset] [])) (by rfl) ?_
  show Wo _ _ _ _ _ _ _ _ _ _ _ s1 (mkF m 0 #[.val (.ref x), .val (.int st), .val (.int (Int32.ofNat n)), .val (.int ln), .val (.int k), .unset] [])
  refine P.iload X0 hx 2 (hb hby d41_0) rfl rfl ?_
  refine P.iloadN X0 hx 3 (hb hby d41_2) rfl rfl ?_
  refine P.icmpYes X0 hx 8 (hb hby d41_3) (tlt hlt).1 (by decide) (by decide) ?_
  refine P.iloadN X0 hx 9 (hb hby d41_8) rfl rfl ?_
  refine P.iconst X0 hx 10 1 (hb hby d41_9) rfl rfl ?_
  refine P.isub X0 hx 11 (z := (ln - (1 : Int32))) (hb hby d41_10) rfl rfl ?_
  refine P.iload X0 hx 13 (hb hby d41_11) rfl rfl ?_
  refine P.isub X0 hx 14 (z := (2 : Int32)) (hb hby d41_13) (he) rfl ?_
  refine X0.callS hx (w221 cx) (w222 cx) (w200 cx) (w223 cx) (by decide) (Ct.pay (W := 0) (ct_pow_2 cx  h _ _ ) (w223 cx) (w200 cx) (nle rfl) (nle rfl)) (by rw [hml]; rfl) (argsL := [.int 2]) (rest := []) (lenOf pd15 rfl) rfl rfl (Nat.le_of_eq rfl) (hb hby d41_14) (nle rfl) (nle rfl) ?_
  rintro T1 h1 _ _ _ X1 ⟨rfl, rfl, rfl, J1⟩
  rw [J1] at X1
  refine P.istore X1 hx 19 #[.val (.ref x), .val (.int st), .val (.int (Int32.ofNat n)), .val (.int ln), .val (.int k), .val (.int 100)] (hb hby d41_17) rfl rfl ?_
  refine P.aloadN X1 hx 20 (hb hby d41_19) rfl rfl rfl ?_
  refine P.iloadN X1 hx 21 (hb hby d41_20) rfl rfl ?_
  refine P.iload X1 hx 23 (hb hby d41_21) rfl rfl ?_
  refine P.iadd X1 hx 24 (z := (st + k)) (hb hby d41_23) rfl rfl ?_
  refine P.bipush X1 hx 26 48 (hb hby d41_24) rfl rfl ?_
  refine P.iloadN X1 hx 27 (hb hby d41_26) rfl rfl ?_
  refine P.iload X1 hx 29 (hb hby d41_27) rfl rfl ?_
  refine P.idiv X1 hx 30 (z := ((Int32.ofNat n) / (100 : Int32))) (hb hby d41_29) (by decide) rfl rfl ?_
  refine P.bipush X1 hx 32 10 (hb hby d41_30) rfl rfl ?_
  refine P.irem X1 hx 33 (z := (((Int32.ofNat n) / (100 : Int32)) % (10 : Int32))) (hb hby d41_32) (by decide) rfl rfl ?_
  refine P.iadd X1 hx 34 (z := ((48 : Int32) + (((Int32.ofNat n) / (100 : Int32)) % (10 : Int32)))) (hb hby d41_33) rfl rfl ?_
  refine P.i2c X1 hx 35 (z := (dg n 2)) (hb hby d41_34) (dgc (P := 100) hn rfl rfl (by decide)) rfl ?_
  refine X1.callS hx (w198 cx) (w199 cx) (w200 cx) (w201 cx) (by decide) (Ct.pay (W := 0) (ct_at cx x t zs (st + k) j (dg n 2) h _ _ P0 hj hi hzl hd) (w201 cx) (w200 cx) (nle rfl) (nle rfl)) (by rw [hml]; rfl) (argsL := [.ref x, .int (st + k), .int (dg n 2)]) (rest := []) (lenOf pd27 rfl) rfl rfl (Nat.le_of_eq rfl) (hb hby d41_35) (nle rfl) (nle rfl) ?_
  rintro T2 h2 _ _ _ X2 ⟨rfl, rfl, rfl, J2⟩
  rw [J2] at X2
  exact WS.retN X2 (WL' := []) (FL' := []) hx (t := .boolean) hret (by simp) hlk (hb hby d41_38) (nle rfl) (nle rfl) ⟨rfl, rfl, rfl, rfl⟩
def Q_pow_3 (Z : State) (gC : Int32) (gF : Value) (v_DO : Addr) (k_DO : ClassId) (v_DT : Addr) (k_DT : ClassId) (h : Heap) (v : Option Value) (h' : Heap) (WL' FL' : List Addr) : Prop := v = some (.int 1000) ∧ WL' = [] ∧ FL' = [] ∧ h' = h
theorem ct_pow_3 (cx : Cx a0 Z gC gF v_DO k_DO v_DT k_DT) (h : Heap) (WL FL : List Addr)  :
    Ct l Z EL1 n0 (⟨"com/example/need_to_know/needtoknow/ListenAddressToStringPinLaw", "pow10", "(I)I"⟩ : MethodName) method_4_code 1 (Option.some FieldType.int) ({ frames := 0, cells := 0, slots := 0, locals := 0 } : Room) #[(.int 3)] h WL FL (Q_pow_3 Z gC gF v_DO k_DO v_DT k_DT h) := by
  refine Ct.of (plainFor_of_name pn7) ?_
  intro p e s m below meth c s1 hx hby hml hnm hret hlk X0
  refine Wo.cast (f' := (mkF m 0 #[.val (.int 3)] [])) (by rfl) ?_
  show Wo _ _ _ _ _ _ _ _ _ _ _ s1 (mkF m 0 #[.val (.int 3)] [])
  refine P.iloadN X0 hx 1 (hb hby d42_0) rfl rfl ?_
  refine P.ifYes X0 hx 8 (hb hby d42_1) (by decide) (by decide) (by decide) ?_
  refine P.iloadN X0 hx 9 (hb hby d42_8) rfl rfl ?_
  refine P.iconst X0 hx 10 1 (hb hby d42_9) rfl rfl ?_
  refine P.icmpYes X0 hx 18 (hb hby d42_10) (by decide) (by decide) (by decide) ?_
  refine P.iloadN X0 hx 19 (hb hby d42_18) rfl rfl ?_
  refine P.iconst X0 hx 20 2 (hb hby d42_19) rfl rfl ?_
  refine P.icmpYes X0 hx 28 (hb hby d42_20) (by decide) (by decide) (by decide) ?_
  refine P.iloadN X0 hx 29 (hb hby d42_28) rfl rfl ?_
  refine P.iconst X0 hx 30 3 (hb hby d42_29) rfl rfl ?_
  refine P.icmpNo X0 hx 33 (hb hby d42_30) (by decide) rfl ?_
  refine P.sipush X0 hx 36 1000 (hb hby d42_33) rfl rfl ?_
  refine P.goto X0 hx 42 (hb hby d42_36) (by decide) (by decide) ?_
  exact WS.retI X0 (WL' := []) (FL' := []) hx hret hlk (hb hby d42_42) (nle rfl) (nle rfl) ⟨rfl, rfl, rfl, rfl⟩
def Q_dig3 (Z : State) (gC : Int32) (gF : Value) (v_DO : Addr) (k_DO : ClassId) (v_DT : Addr) (k_DT : ClassId) (x : Addr) (t : Addr) (zs : List Int32) (st : Int32) (n : Nat) (ln : Int32) (k : Int32) (j : Nat) (h : Heap) (v : Option Value) (h' : Heap) (WL' FL' : List Addr) : Prop := v = some (.int 1) ∧ WL' = [] ∧ FL' = [] ∧ h' = h
theorem ct_dig3 (cx : Cx a0 Z gC gF v_DO k_DO v_DT k_DT) (x : Addr) (t : Addr) (zs : List Int32) (st : Int32) (n : Nat) (ln : Int32) (k : Int32) (j : Nat) (h : Heap) (WL FL : List Addr) (P0 : StrL Z h x t zs) (hn : n < 65536) (hzl : zs.length ≤ 100) (hlt : k < ln) (hi : j < zs.length) (hj : st + k = Int32.ofNat j) (he : (ln - 1) - k = Int32.ofNat 3) (hd : zs.getD j 0 = dg n 3) :
    Ct l Z EL1 n0 (⟨"com/example/need_to_know/needtoknow/ListenAddressToStringPinLaw", "digit", "(Ljava/lang/String;IIII)Z"⟩ : MethodName) method_5_code 6 (Option.some FieldType.boolean) ({ frames := 5, cells := 0, slots := 0, locals := 67 } : Room) #[(.ref x), (.int st), (.int (Int32.ofNat n)), (.int ln), (.int k)] h WL FL (Q_dig3 Z gC gF v_DO k_DO v_DT k_DT x t zs st n ln k j h) := by
  refine Ct.of (plainFor_of_name pn7) ?_
  intro p e s m below meth c s1 hx hby hml hnm hret hlk X0
  refine Wo.cast (f' := (mkF m 0 #[.val (.ref x), .val (.int st), .val (.int (Int32.ofNat n)), .val (.int ln), .val (.int k), .unset] [])) (by rfl) ?_
  show Wo _ _ _ _ _ _ _ _ _ _ _ s1 (mkF m 0 #[.val (.ref x), .val (.int st), .val (.int (Int32.ofNat n)), .val (.int ln), .val (.int k), .unset] [])
  refine P.iload X0 hx 2 (hb hby d41_0) rfl rfl ?_
  refine P.iloadN X0 hx 3 (hb hby d41_2) rfl rfl ?_
  refine P.icmpYes X0 hx 8 (hb hby d41_3) (tlt hlt).1 (by decide) (by decide) ?_
  refine P.iloadN X0 hx 9 (hb hby d41_8) rfl rfl ?_
  refine P.iconst X0 hx 10 1 (hb hby d41_9) rfl rfl ?_
  refine P.isub X0 hx 11 (z := (ln - (1 : Int32))) (hb hby d41_10) rfl rfl ?_
  refine P.iload X0 hx 13 (hb hby d41_11) rfl rfl ?_
  refine P.isub X0 hx 14 (z := (3 : Int32)) (hb hby d41_13) (he) rfl ?_
  refine X0.callS hx (w221 cx) (w222 cx) (w200 cx) (w223 cx) (by decide) (Ct.pay (W := 0) (ct_pow_3 cx  h _ _ ) (w223 cx) (w200 cx) (nle rfl) (nle rfl)) (by rw [hml]; rfl) (argsL := [.int 3]) (rest := []) (lenOf pd15 rfl) rfl rfl (Nat.le_of_eq rfl) (hb hby d41_14) (nle rfl) (nle rfl) ?_
  rintro T1 h1 _ _ _ X1 ⟨rfl, rfl, rfl, J1⟩
  rw [J1] at X1
  refine P.istore X1 hx 19 #[.val (.ref x), .val (.int st), .val (.int (Int32.ofNat n)), .val (.int ln), .val (.int k), .val (.int 1000)] (hb hby d41_17) rfl rfl ?_
  refine P.aloadN X1 hx 20 (hb hby d41_19) rfl rfl rfl ?_
  refine P.iloadN X1 hx 21 (hb hby d41_20) rfl rfl ?_
  refine P.iload X1 hx 23 (hb hby d41_21) rfl rfl ?_
  refine P.iadd X1 hx 24 (z := (st + k)) (hb hby d41_23) rfl rfl ?_
  refine P.bipush X1 hx 26 48 (hb hby d41_24) rfl rfl ?_
  refine P.iloadN X1 hx 27 (hb hby d41_26) rfl rfl ?_
  refine P.iload X1 hx 29 (hb hby d41_27) rfl rfl ?_
  refine P.idiv X1 hx 30 (z := ((Int32.ofNat n) / (1000 : Int32))) (hb hby d41_29) (by decide) rfl rfl ?_
  refine P.bipush X1 hx 32 10 (hb hby d41_30) rfl rfl ?_
  refine P.irem X1 hx 33 (z := (((Int32.ofNat n) / (1000 : Int32)) % (10 : Int32))) (hb hby d41_32) (by decide) rfl rfl ?_
  refine P.iadd X1 hx 34 (z := ((48 : Int32) + (((Int32.ofNat n) / (1000 : Int32)) % (10 : Int32)))) (hb hby d41_33) rfl rfl ?_
  refine P.i2c X1 hx 35 (z := (dg n 3)) (hb hby d41_34) (dgc (P := 1000) hn rfl rfl (by decide)) rfl ?_
  refine X1.callS hx (w198 cx) (w199 cx) (w200 cx) (w201 cx) (by decide) (Ct.pay (W := 0) (ct_at cx x t zs (st + k) j (dg n 3) h _ _ P0 hj hi hzl hd) (w201 cx) (w200 cx) (nle rfl) (nle rfl)) (by rw [hml]; rfl) (argsL := [.ref x, .int (st + k), .int (dg n 3)]) (rest := []) (lenOf pd27 rfl) rfl rfl (Nat.le_of_eq rfl) (hb hby d41_35) (nle rfl) (nle rfl) ?_
  rintro T2 h2 _ _ _ X2 ⟨rfl, rfl, rfl, J2⟩
  rw [J2] at X2
  exact WS.retN X2 (WL' := []) (FL' := []) hx (t := .boolean) hret (by simp) hlk (hb hby d41_38) (nle rfl) (nle rfl) ⟨rfl, rfl, rfl, rfl⟩
def Q_pow_4 (Z : State) (gC : Int32) (gF : Value) (v_DO : Addr) (k_DO : ClassId) (v_DT : Addr) (k_DT : ClassId) (h : Heap) (v : Option Value) (h' : Heap) (WL' FL' : List Addr) : Prop := v = some (.int 10000) ∧ WL' = [] ∧ FL' = [] ∧ h' = h
theorem ct_pow_4 (cx : Cx a0 Z gC gF v_DO k_DO v_DT k_DT) (h : Heap) (WL FL : List Addr)  :
    Ct l Z EL1 n0 (⟨"com/example/need_to_know/needtoknow/ListenAddressToStringPinLaw", "pow10", "(I)I"⟩ : MethodName) method_4_code 1 (Option.some FieldType.int) ({ frames := 0, cells := 0, slots := 0, locals := 0 } : Room) #[(.int 4)] h WL FL (Q_pow_4 Z gC gF v_DO k_DO v_DT k_DT h) := by
  refine Ct.of (plainFor_of_name pn7) ?_
  intro p e s m below meth c s1 hx hby hml hnm hret hlk X0
  refine Wo.cast (f' := (mkF m 0 #[.val (.int 4)] [])) (by rfl) ?_
  show Wo _ _ _ _ _ _ _ _ _ _ _ s1 (mkF m 0 #[.val (.int 4)] [])
  refine P.iloadN X0 hx 1 (hb hby d42_0) rfl rfl ?_
  refine P.ifYes X0 hx 8 (hb hby d42_1) (by decide) (by decide) (by decide) ?_
  refine P.iloadN X0 hx 9 (hb hby d42_8) rfl rfl ?_
  refine P.iconst X0 hx 10 1 (hb hby d42_9) rfl rfl ?_
  refine P.icmpYes X0 hx 18 (hb hby d42_10) (by decide) (by decide) (by decide) ?_
  refine P.iloadN X0 hx 19 (hb hby d42_18) rfl rfl ?_
  refine P.iconst X0 hx 20 2 (hb hby d42_19) rfl rfl ?_
  refine P.icmpYes X0 hx 28 (hb hby d42_20) (by decide) (by decide) (by decide) ?_
  refine P.iloadN X0 hx 29 (hb hby d42_28) rfl rfl ?_
  refine P.iconst X0 hx 30 3 (hb hby d42_29) rfl rfl ?_
  refine P.icmpYes X0 hx 39 (hb hby d42_30) (by decide) (by decide) (by decide) ?_
  refine P.sipush X0 hx 42 10000 (hb hby d42_39) rfl rfl ?_
  exact WS.retI X0 (WL' := []) (FL' := []) hx hret hlk (hb hby d42_42) (nle rfl) (nle rfl) ⟨rfl, rfl, rfl, rfl⟩
def Q_dig4 (Z : State) (gC : Int32) (gF : Value) (v_DO : Addr) (k_DO : ClassId) (v_DT : Addr) (k_DT : ClassId) (x : Addr) (t : Addr) (zs : List Int32) (st : Int32) (n : Nat) (ln : Int32) (k : Int32) (j : Nat) (h : Heap) (v : Option Value) (h' : Heap) (WL' FL' : List Addr) : Prop := v = some (.int 1) ∧ WL' = [] ∧ FL' = [] ∧ h' = h
theorem ct_dig4 (cx : Cx a0 Z gC gF v_DO k_DO v_DT k_DT) (x : Addr) (t : Addr) (zs : List Int32) (st : Int32) (n : Nat) (ln : Int32) (k : Int32) (j : Nat) (h : Heap) (WL FL : List Addr) (P0 : StrL Z h x t zs) (hn : n < 65536) (hzl : zs.length ≤ 100) (hlt : k < ln) (hi : j < zs.length) (hj : st + k = Int32.ofNat j) (he : (ln - 1) - k = Int32.ofNat 4) (hd : zs.getD j 0 = dg n 4) :
    Ct l Z EL1 n0 (⟨"com/example/need_to_know/needtoknow/ListenAddressToStringPinLaw", "digit", "(Ljava/lang/String;IIII)Z"⟩ : MethodName) method_5_code 6 (Option.some FieldType.boolean) ({ frames := 5, cells := 0, slots := 0, locals := 67 } : Room) #[(.ref x), (.int st), (.int (Int32.ofNat n)), (.int ln), (.int k)] h WL FL (Q_dig4 Z gC gF v_DO k_DO v_DT k_DT x t zs st n ln k j h) := by
  refine Ct.of (plainFor_of_name pn7) ?_
  intro p e s m below meth c s1 hx hby hml hnm hret hlk X0
  refine Wo.cast (f' := (mkF m 0 #[.val (.ref x), .val (.int st), .val (.int (Int32.ofNat n)), .val (.int ln), .val (.int k), .unset] [])) (by rfl) ?_
  show Wo _ _ _ _ _ _ _ _ _ _ _ s1 (mkF m 0 #[.val (.ref x), .val (.int st), .val (.int (Int32.ofNat n)), .val (.int ln), .val (.int k), .unset] [])
  refine P.iload X0 hx 2 (hb hby d41_0) rfl rfl ?_
  refine P.iloadN X0 hx 3 (hb hby d41_2) rfl rfl ?_
  refine P.icmpYes X0 hx 8 (hb hby d41_3) (tlt hlt).1 (by decide) (by decide) ?_
  refine P.iloadN X0 hx 9 (hb hby d41_8) rfl rfl ?_
  refine P.iconst X0 hx 10 1 (hb hby d41_9) rfl rfl ?_
  refine P.isub X0 hx 11 (z := (ln - (1 : Int32))) (hb hby d41_10) rfl rfl ?_
  refine P.iload X0 hx 13 (hb hby d41_11) rfl rfl ?_
  refine P.isub X0 hx 14 (z := (4 : Int32)) (hb hby d41_13) (he) rfl ?_
  refine X0.callS hx (w221 cx) (w222 cx) (w200 cx) (w223 cx) (by decide) (Ct.pay (W := 0) (ct_pow_4 cx  h _ _ ) (w223 cx) (w200 cx) (nle rfl) (nle rfl)) (by rw [hml]; rfl) (argsL := [.int 4]) (rest := []) (lenOf pd15 rfl) rfl rfl (Nat.le_of_eq rfl) (hb hby d41_14) (nle rfl) (nle rfl) ?_
  rintro T1 h1 _ _ _ X1 ⟨rfl, rfl, rfl, J1⟩
  rw [J1] at X1
  refine P.istore X1 hx 19 #[.val (.ref x), .val (.int st), .val (.int (Int32.ofNat n)), .val (.int ln), .val (.int k), .val (.int 10000)] (hb hby d41_17) rfl rfl ?_
  refine P.aloadN X1 hx 20 (hb hby d41_19) rfl rfl rfl ?_
  refine P.iloadN X1 hx 21 (hb hby d41_20) rfl rfl ?_
  refine P.iload X1 hx 23 (hb hby d41_21) rfl rfl ?_
  refine P.iadd X1 hx 24 (z := (st + k)) (hb hby d41_23) rfl rfl ?_
  refine P.bipush X1 hx 26 48 (hb hby d41_24) rfl rfl ?_
  refine P.iloadN X1 hx 27 (hb hby d41_26) rfl rfl ?_
  refine P.iload X1 hx 29 (hb hby d41_27) rfl rfl ?_
  refine P.idiv X1 hx 30 (z := ((Int32.ofNat n) / (10000 : Int32))) (hb hby d41_29) (by decide) rfl rfl ?_
  refine P.bipush X1 hx 32 10 (hb hby d41_30) rfl rfl ?_
  refine P.irem X1 hx 33 (z := (((Int32.ofNat n) / (10000 : Int32)) % (10 : Int32))) (hb hby d41_32) (by decide) rfl rfl ?_
  refine P.iadd X1 hx 34 (z := ((48 : Int32) + (((Int32.ofNat n) / (10000 : Int32)) % (10 : Int32)))) (hb hby d41_33) rfl rfl ?_
  refine P.i2c X1 hx 35 (z := (dg n 4)) (hb hby d41_34) (dgc (P := 10000) hn rfl rfl (by decide)) rfl ?_
  refine X1.callS hx (w198 cx) (w199 cx) (w200 cx) (w201 cx) (by decide) (Ct.pay (W := 0) (ct_at cx x t zs (st + k) j (dg n 4) h _ _ P0 hj hi hzl hd) (w201 cx) (w200 cx) (nle rfl) (nle rfl)) (by rw [hml]; rfl) (argsL := [.ref x, .int (st + k), .int (dg n 4)]) (rest := []) (lenOf pd27 rfl) rfl rfl (Nat.le_of_eq rfl) (hb hby d41_35) (nle rfl) (nle rfl) ?_
  rintro T2 h2 _ _ _ X2 ⟨rfl, rfl, rfl, J2⟩
  rw [J2] at X2
  exact WS.retN X2 (WL' := []) (FL' := []) hx (t := .boolean) hret (by simp) hlk (hb hby d41_38) (nle rfl) (nle rfl) ⟨rfl, rfl, rfl, rfl⟩
def Q_digit (Z : State) (gC : Int32) (gF : Value) (v_DO : Addr) (k_DO : ClassId) (v_DT : Addr) (k_DT : ClassId) (x : Addr) (t : Addr) (zs : List Int32) (st : Int32) (n : Nat) (ln : Int32) (k : Int32) (j : Nat) (h : Heap) (v : Option Value) (h' : Heap) (WL' FL' : List Addr) : Prop := v = some (.int 1) ∧ WL' = [] ∧ FL' = [] ∧ h' = h
theorem ct_digit (cx : Cx a0 Z gC gF v_DO k_DO v_DT k_DT) (x : Addr) (t : Addr) (zs : List Int32) (st : Int32) (n : Nat) (ln : Int32) (k : Int32) (j : Nat) (h : Heap) (WL FL : List Addr) (P0 : StrL Z h x t zs) (hn : n < 65536) (hzl : zs.length ≤ 100) (hD : (¬ k < ln) ∨ (k < ln ∧ j < zs.length ∧ st + k = Int32.ofNat j ∧ ∃ q : Nat, q ≤ 4 ∧ (ln - 1) - k = Int32.ofNat q ∧ zs.getD j 0 = dg n q)) :
    Ct l Z EL1 n0 (⟨"com/example/need_to_know/needtoknow/ListenAddressToStringPinLaw", "digit", "(Ljava/lang/String;IIII)Z"⟩ : MethodName) method_5_code 6 (Option.some FieldType.boolean) ({ frames := 5, cells := 0, slots := 0, locals := 67 } : Room) #[(.ref x), (.int st), (.int (Int32.ofNat n)), (.int ln), (.int k)] h WL FL (Q_digit Z gC gF v_DO k_DO v_DT k_DT x t zs st n ln k j h) := by
  rcases hD with hlt | ⟨hlt, hi, hj, q, hq, he, hd⟩
  · exact ct_digN cx x t zs st n ln k j h WL FL P0 hn hzl hlt
  have hc : q = 0 ∨ q = 1 ∨ q = 2 ∨ q = 3 ∨ q = 4 := by omega
  rcases hc with rfl | rfl | rfl | rfl | rfl
  · exact ct_dig0 cx x t zs st n ln k j h WL FL P0 hn hzl hlt hi hj he hd
  · exact ct_dig1 cx x t zs st n ln k j h WL FL P0 hn hzl hlt hi hj he hd
  · exact ct_dig2 cx x t zs st n ln k j h WL FL P0 hn hzl hlt hi hj he hd
  · exact ct_dig3 cx x t zs st n ln k j h WL FL P0 hn hzl hlt hi hj he hd
  · exact ct_dig4 cx x t zs st n ln k j h WL FL P0 hn hzl hlt hi hj he hd
def Q_law (Z : State) (gC : Int32) (gF : Value) (v_DO : Addr) (k_DO : ClassId) (v_DT : Addr) (k_DT : ClassId) (p0 : Int32) (p1 : Int32) (p2 : Int32) (p3 : Int32) (p4 : Int32) (h : Heap) (v : Option Value) (h' : Heap) (WL' FL' : List Addr) : Prop := v = some (.int 1) ∧ WL' = [] ∧ FL' = [] ∧ Keep h h' []
theorem mid_436 (cx : Cx a0 Z gC gF v_DO k_DO v_DT k_DT) {p : Program} {e : Env} {s : State} {m : MethodId} {as' : Array Value} {below : List Frame} {meth : Method} {c : Code} {T0 : State} {h hm : Heap} {WL FL : List Addr} (p0 : Int32) (p1 : Int32) (p2 : Int32) (p3 : Int32) (p4 : Int32) (v5 : Value) (v6 : Value) (v7 : Value) (v8 : Value) (v9 : Value) (v10 : Value) (v13 : Value) (v15 : Value) (v17 : Value) (n : Nat) (kd : Nat) (r : Addr) (u : Addr) (zs : List Int32) (nd : Int32) (hl : Nat) (A : List Int32) (hx : p.tables.exec = Jvm.exec) (hby : c.code = code) (hml : c.maxLocals = maxLocals) (hnm : meth.name = (x).name) (hret : meth.sig.returnType = ret) (hlk : meth.locks = false) (X0 : WS p l e room_1 s m as' below meth c Z EL1 n0 (x).cls T0 hm WL (r :: u :: FL) 40 4352) (K0 : Keep h hm []) (P0 : StrL Z hm r u zs) (hDK : DK n kd) (hnd : nd = Int32.ofNat kd) (hzz : zs = A ++ [58] ++ digs n kd) (hA : A.length = hl) (hh : hl ≤ 5) :
    Wo p e s below Z EL1 n0 WL FL room_1 (Q_law Z gC gF v_DO k_DO v_DT k_DT p0 p1 p2 p3 p4 h) T0 (mkF m 436 #[.val (.int p0), .val (.int p1), .val (.int p2), .val (.int p3), .val (.int p4), .val v5, .val v6, .val v7, .val v8, .val v9, .val v10, .val (.int (Int32.ofNat n)), .val (.ref r), .val v13, .val (.int nd), .val v15, .val (.int (Int32.ofNat hl)), .val v17, .val (.int 1)] []) := by
  obtain ⟨qa, qb, hn⟩ := DKb hDK
  have hzl : zs.length ≤ 100 := by rw [hzz]; simp [digs_len] <;> omega
  refine P.iload X0 hx 438 (hb hby at_436) rfl rfl ?_
  refine P.ifNo X0 hx 441 (hb hby at_438) (by decide) rfl ?_
  refine P.aload X0 hx 443 (hb hby at_441) rfl rfl rfl ?_
  refine P.iload X0 hx 445 (hb hby at_443) rfl rfl ?_
  refine P.bipush X0 hx 447 58 (hb hby at_445) rfl rfl ?_
  refine X0.callS hx (w198 cx) (w199 cx) (w200 cx) (w201 cx) (by decide) (Ct.pay (W := 0) (ct_at cx r u zs (Int32.ofNat hl) hl (58 : Int32) hm _ _ P0 rfl (atC hzz hA).1 hzl (atC hzz hA).2) (w201 cx) (w200 cx) (nle rfl) (nle rfl)) (by rw [hml]; rfl) (argsL := [.ref r, .int (Int32.ofNat hl), .int 58]) (rest := []) (lenOf pd27 rfl) rfl rfl (Nat.le_of_eq rfl) (hb hby at_447) (nle rfl) (nle rfl) ?_
  rintro T1 h1 _ _ _ X1 ⟨rfl, rfl, rfl, J1⟩
  rw [J1] at X1
  refine P.ifNo X1 hx 453 (hb hby at_450) (by decide) rfl ?_
  refine P.iconst X1 hx 454 1 (hb hby at_453) rfl rfl ?_
  refine P.goto X1 hx 458 (hb hby at_454) (by decide) (by decide) ?_
  refine P.istore X1 hx 460 #[.val (.int p0), .val (.int p1), .val (.int p2), .val (.int p3), .val (.int p4), .val v5, .val v6, .val v7, .val v8, .val v9, .val v10, .val (.int (Int32.ofNat n)), .val (.ref r), .val v13, .val (.int nd), .val v15, .val (.int (Int32.ofNat hl)), .val v17, .val (.int 1)] (hb hby at_458) rfl rfl ?_
  refine P.iload X1 hx 462 (hb hby at_460) rfl rfl ?_
  refine P.ifNo X1 hx 465 (hb hby at_462) (by decide) rfl ?_
  refine P.aload X1 hx 467 (hb hby at_465) rfl rfl rfl ?_
  refine P.iload X1 hx 469 (hb hby at_467) rfl rfl ?_
  refine P.iconst X1 hx 470 1 (hb hby at_469) rfl rfl ?_
  refine P.iadd X1 hx 471 (z := (Int32.ofNat (hl + 1))) (hb hby at_470) (oAd _ 1) rfl ?_
  refine P.iload X1 hx 473 (hb hby at_471) rfl rfl ?_
  refine P.iload X1 hx 475 (hb hby at_473) rfl rfl ?_
  refine P.iconst X1 hx 476 0 (hb hby at_475) rfl rfl ?_
  refine X1.callS hx (w218 cx) (w219 cx) (w200 cx) (w220 cx) (by decide) (Ct.pay (W := 0) (ct_digit cx r u zs (Int32.ofNat (hl + 1)) n nd (0 : Int32) (hl + 1 + 0) hm _ _ P0 hn hzl (digD (kq := 0) hzz hA (by omega) hnd ⟨qa, qb⟩ rfl (by decide) rfl)) (w220 cx) (w200 cx) (nle rfl) (nle rfl)) (by rw [hml]; rfl) (argsL := [.ref r, .int (Int32.ofNat (hl + 1)), .int (Int32.ofNat n), .int nd, .int 0]) (rest := []) (lenOf pd28 rfl) rfl rfl (Nat.le_of_eq rfl) (hb hby at_476) (nle rfl) (nle rfl) ?_
  rintro T2 h2 _ _ _ X2 ⟨rfl, rfl, rfl, J2⟩
  rw [J2] at X2
  refine P.ifNo X2 hx 482 (hb hby at_479) (by decide) rfl ?_
  refine P.aload X2 hx 484 (hb hby at_482) rfl rfl rfl ?_
  refine P.iload X2 hx 486 (hb hby at_484) rfl rfl ?_
  refine P.iconst X2 hx 487 1 (hb hby at_486) rfl rfl ?_
  refine P.iadd X2 hx 488 (z := (Int32.ofNat (hl + 1))) (hb hby at_487) (oAd _ 1) rfl ?_
  refine P.iload X2 hx 490 (hb hby at_488) rfl rfl ?_
  refine P.iload X2 hx 492 (hb hby at_490) rfl rfl ?_
  refine P.iconst X2 hx 493 1 (hb hby at_492) rfl rfl ?_
  refine X2.callS hx (w218 cx) (w219 cx) (w200 cx) (w220 cx) (by decide) (Ct.pay (W := 0) (ct_digit cx r u zs (Int32.ofNat (hl + 1)) n nd (1 : Int32) (hl + 1 + 1) hm _ _ P0 hn hzl (digD (kq := 1) hzz hA (by omega) hnd ⟨qa, qb⟩ rfl (by decide) rfl)) (w220 cx) (w200 cx) (nle rfl) (nle rfl)) (by rw [hml]; rfl) (argsL := [.ref r, .int (Int32.ofNat (hl + 1)), .int (Int32.ofNat n), .int nd, .int 1]) (rest := []) (lenOf pd28 rfl) rfl rfl (Nat.le_of_eq rfl) (hb hby at_493) (nle rfl) (nle rfl) ?_
  rintro T3 h3 _ _ _ X3 ⟨rfl, rfl, rfl, J3⟩
  rw [J3] at X3
  refine P.ifNo X3 hx 499 (hb hby at_496) (by decide) rfl ?_
  refine P.aload X3 hx 501 (hb hby at_499) rfl rfl rfl ?_
  refine P.iload X3 hx 503 (hb hby at_501) rfl rfl ?_
  refine P.iconst X3 hx 504 1 (hb hby at_503) rfl rfl ?_
  refine P.iadd X3 hx 505 (z := (Int32.ofNat (hl + 1))) (hb hby at_504) (oAd _ 1) rfl ?_
  refine P.iload X3 hx 507 (hb hby at_505) rfl rfl ?_
  refine P.iload X3 hx 509 (hb hby at_507) rfl rfl ?_
  refine P.iconst X3 hx 510 2 (hb hby at_509) rfl rfl ?_
  refine X3.callS hx (w218 cx) (w219 cx) (w200 cx) (w220 cx) (by decide) (Ct.pay (W := 0) (ct_digit cx r u zs (Int32.ofNat (hl + 1)) n nd (2 : Int32) (hl + 1 + 2) hm _ _ P0 hn hzl (digD (kq := 2) hzz hA (by omega) hnd ⟨qa, qb⟩ rfl (by decide) rfl)) (w220 cx) (w200 cx) (nle rfl) (nle rfl)) (by rw [hml]; rfl) (argsL := [.ref r, .int (Int32.ofNat (hl + 1)), .int (Int32.ofNat n), .int nd, .int 2]) (rest := []) (lenOf pd28 rfl) rfl rfl (Nat.le_of_eq rfl) (hb hby at_510) (nle rfl) (nle rfl) ?_
  rintro T4 h4 _ _ _ X4 ⟨rfl, rfl, rfl, J4⟩
  rw [J4] at X4
  refine P.ifNo X4 hx 516 (hb hby at_513) (by decide) rfl ?_
  refine P.aload X4 hx 518 (hb hby at_516) rfl rfl rfl ?_
  refine P.iload X4 hx 520 (hb hby at_518) rfl rfl ?_
  refine P.iconst X4 hx 521 1 (hb hby at_520) rfl rfl ?_
  refine P.iadd X4 hx 522 (z := (Int32.ofNat (hl + 1))) (hb hby at_521) (oAd _ 1) rfl ?_
  refine P.iload X4 hx 524 (hb hby at_522) rfl rfl ?_
  refine P.iload X4 hx 526 (hb hby at_524) rfl rfl ?_
  refine P.iconst X4 hx 527 3 (hb hby at_526) rfl rfl ?_
  refine X4.callS hx (w218 cx) (w219 cx) (w200 cx) (w220 cx) (by decide) (Ct.pay (W := 0) (ct_digit cx r u zs (Int32.ofNat (hl + 1)) n nd (3 : Int32) (hl + 1 + 3) hm _ _ P0 hn hzl (digD (kq := 3) hzz hA (by omega) hnd ⟨qa, qb⟩ rfl (by decide) rfl)) (w220 cx) (w200 cx) (nle rfl) (nle rfl)) (by rw [hml]; rfl) (argsL := [.ref r, .int (Int32.ofNat (hl + 1)), .int (Int32.ofNat n), .int nd, .int 3]) (rest := []) (lenOf pd28 rfl) rfl rfl (Nat.le_of_eq rfl) (hb hby at_527) (nle rfl) (nle rfl) ?_
  rintro T5 h5 _ _ _ X5 ⟨rfl, rfl, rfl, J5⟩
  rw [J5] at X5
  refine P.ifNo X5 hx 533 (hb hby at_530) (by decide) rfl ?_
  refine P.aload X5 hx 535 (hb hby at_533) rfl rfl rfl ?_
  refine P.iload X5 hx 537 (hb hby at_535) rfl rfl ?_
  refine P.iconst X5 hx 538 1 (hb hby at_537) rfl rfl ?_
  refine P.iadd X5 hx 539 (z := (Int32.ofNat (hl + 1))) (hb hby at_538) (oAd _ 1) rfl ?_
  refine P.iload X5 hx 541 (hb hby at_539) rfl rfl ?_
  refine P.iload X5 hx 543 (hb hby at_541) rfl rfl ?_
  refine P.iconst X5 hx 544 4 (hb hby at_543) rfl rfl ?_
  refine X5.callS hx (w218 cx) (w219 cx) (w200 cx) (w220 cx) (by decide) (Ct.pay (W := 0) (ct_digit cx r u zs (Int32.ofNat (hl + 1)) n nd (4 : Int32) (hl + 1 + 4) hm _ _ P0 hn hzl (digD (kq := 4) hzz hA (by omega) hnd ⟨qa, qb⟩ rfl (by decide) rfl)) (w220 cx) (w200 cx) (nle rfl) (nle rfl)) (by rw [hml]; rfl) (argsL := [.ref r, .int (Int32.ofNat (hl + 1)), .int (Int32.ofNat n), .int nd, .int 4]) (rest := []) (lenOf pd28 rfl) rfl rfl (Nat.le_of_eq rfl) (hb hby at_544) (nle rfl) (nle rfl) ?_
  rintro T6 h6 _ _ _ X6 ⟨rfl, rfl, rfl, J6⟩
  rw [J6] at X6
  refine P.ifNo X6 hx 550 (hb hby at_547) (by decide) rfl ?_
  refine P.iconst X6 hx 551 1 (hb hby at_550) rfl rfl ?_
  refine P.goto X6 hx 555 (hb hby at_551) (by decide) (by decide) ?_
  refine P.istore X6 hx 557 #[.val (.int p0), .val (.int p1), .val (.int p2), .val (.int p3), .val (.int p4), .val v5, .val v6, .val v7, .val v8, .val v9, .val v10, .val (.int (Int32.ofNat n)), .val (.ref r), .val v13, .val (.int nd), .val v15, .val (.int (Int32.ofNat hl)), .val v17, .val (.int 1)] (hb hby at_555) rfl rfl ?_
  refine P.iload X6 hx 559 (hb hby at_557) rfl rfl ?_
  have X7 := WS.fl (FL2 := FL) X6 (fun y hy => (List.mem_append_right [r, u] hy))
  exact WS.retN X7 (WL' := []) (FL' := []) hx (t := .boolean) hret (by simp) hlk (hb hby at_559) (nle rfl) (nle rfl) ⟨rfl, rfl, rfl, K0⟩
theorem mid_272 (cx : Cx a0 Z gC gF v_DO k_DO v_DT k_DT) {p : Program} {e : Env} {s : State} {m : MethodId} {as' : Array Value} {below : List Frame} {meth : Method} {c : Code} {T0 : State} {h hm : Heap} {WL FL : List Addr} (p0 : Int32) (p1 : Int32) (p2 : Int32) (p3 : Int32) (p4 : Int32) (ca : Int32) (cb : Int32) (cc : Int32) (hs : List Int32) (v9 : Value) (v10 : Value) (n : Nat) (kd : Nat) (r : Addr) (u : Addr) (zs : List Int32) (br : Int32) (nd : Int32) (hx : p.tables.exec = Jvm.exec) (hby : c.code = code) (hml : c.maxLocals = maxLocals) (hnm : meth.name = (x).name) (hret : meth.sig.returnType = ret) (hlk : meth.locks = false) (X0 : WS p l e room_1 s m as' below meth c Z EL1 n0 (x).cls T0 hm WL (r :: u :: FL) 40 4352) (K0 : Keep h hm []) (P0 : StrL Z hm r u zs) (hsh : hs = [] ∨ hs = [ca] ∨ hs = [ca, cb] ∨ hs = [ca, cb, cc]) (hDK : DK n kd) (hnd : nd = Int32.ofNat kd) (hB : (br = 1 ∧ zs = [91] ++ hs ++ [93] ++ [58] ++ digs n kd) ∨ (br = 0 ∧ zs = hs ++ [58] ++ digs n kd)) :
    Wo p e s below Z EL1 n0 WL FL room_1 (Q_law Z gC gF v_DO k_DO v_DT k_DT p0 p1 p2 p3 p4 h) T0 (mkF m 272 #[.val (.int p0), .val (.int p1), .val (.int p2), .val (.int p3), .val (.int p4), .val (.int (Int32.ofNat hs.length)), .val (.int ca), .val (.int cb), .val (.int cc), .val v9, .val v10, .val (.int (Int32.ofNat n)), .val (.ref r), .val (.int br), .val (.int nd), .unset, .unset, .unset, .unset] []) := by
  obtain ⟨qa, qb, hn⟩ := DKb hDK
  have lN := shN hsh
  rcases hB with ⟨b1, ez⟩ | ⟨b1, ez⟩
  · have hzl : zs.length ≤ 100 := by rw [ez]; simp [digs_len] <;> omega
    refine P.iload X0 hx 274 (hb hby at_272) rfl rfl ?_
    refine P.ifNo X0 hx 277 (hb hby at_274) ((if0 _ _).trans (feq (by rw [b1]; decide)).1) rfl ?_
    refine P.iconst X0 hx 278 1 (hb hby at_277) rfl rfl ?_
    refine P.goto X0 hx 282 (hb hby at_278) (by decide) (by decide) ?_
    refine P.istore X0 hx 284 #[.val (.int p0), .val (.int p1), .val (.int p2), .val (.int p3), .val (.int p4), .val (.int (Int32.ofNat hs.length)), .val (.int ca), .val (.int cb), .val (.int cc), .val v9, .val v10, .val (.int (Int32.ofNat n)), .val (.ref r), .val (.int br), .val (.int nd), .val (.int 1), .unset, .unset, .unset] (hb hby at_282) rfl rfl ?_
    refine P.iload X0 hx 286 (hb hby at_284) rfl rfl ?_
    refine P.ifNo X0 hx 289 (hb hby at_286) ((if0 _ _).trans (feq (by rw [b1]; decide)).1) rfl ?_
    refine P.iload X0 hx 291 (hb hby at_289) rfl rfl ?_
    refine P.iconst X0 hx 292 2 (hb hby at_291) rfl rfl ?_
    refine P.iadd X0 hx 293 (z := (Int32.ofNat (hs.length + 2))) (hb hby at_292) (oAd _ 2) rfl ?_
    refine P.goto X0 hx 298 (hb hby at_293) (by decide) (by decide) ?_
    refine P.istore X0 hx 300 #[.val (.int p0), .val (.int p1), .val (.int p2), .val (.int p3), .val (.int p4), .val (.int (Int32.ofNat hs.length)), .val (.int ca), .val (.int cb), .val (.int cc), .val v9, .val v10, .val (.int (Int32.ofNat n)), .val (.ref r), .val (.int br), .val (.int nd), .val (.int 1), .val (.int (Int32.ofNat (hs.length + 2))), .unset, .unset] (hb hby at_298) rfl rfl ?_
    refine P.iload X0 hx 302 (hb hby at_300) rfl rfl ?_
    refine P.iconst X0 hx 303 1 (hb hby at_302) rfl rfl ?_
    refine P.iadd X0 hx 304 (z := (Int32.ofNat ((hs.length + 2) + 1))) (hb hby at_303) (oAd _ 1) rfl ?_
    refine P.iload X0 hx 306 (hb hby at_304) rfl rfl ?_
    refine P.iadd X0 hx 307 (z := (Int32.ofNat ((hs.length + 2) + 1 + kd))) (hb hby at_306) (nQ hnd) rfl ?_
    refine P.istore X0 hx 309 #[.val (.int p0), .val (.int p1), .val (.int p2), .val (.int p3), .val (.int p4), .val (.int (Int32.ofNat hs.length)), .val (.int ca), .val (.int cb), .val (.int cc), .val v9, .val v10, .val (.int (Int32.ofNat n)), .val (.ref r), .val (.int br), .val (.int nd), .val (.int 1), .val (.int (Int32.ofNat (hs.length + 2))), .val (.int (Int32.ofNat ((hs.length + 2) + 1 + kd))), .unset] (hb hby at_307) rfl rfl ?_
    refine P.aload X0 hx 311 (hb hby at_309) rfl rfl rfl ?_
    refine P.ifnullNo X0 hx 314 (hb hby at_311) rfl ?_
    refine P.aload X0 hx 316 (hb hby at_314) rfl rfl rfl ?_
    refine X0.callV hx (w197 cx) (w103 cx) (w105 cx) (w104 cx) (fun _ hZ => nf hZ (w105 cx)) (by decide) P0.1 (pay_len (W := 0) (hln cx) (w2 cx) P0 (X0.sta (S_C cx)) (N_C cx) (nle rfl) (nle rfl)) (by rw [hml]; rfl) (argsL := []) (rest := []) (lenOf pd4 rfl) rfl rfl (Nat.le_of_eq rfl) (hb hby at_316) (nle rfl) (nle rfl) ?_
    rintro T1 h1 _ _ _ X1 ⟨rfl, rfl, rfl, J1⟩
    rw [J1] at X1
    show Wo _ _ _ _ _ _ _ _ _ _ _ T1 (mkF m 319 #[.val (.int p0), .val (.int p1), .val (.int p2), .val (.int p3), .val (.int p4), .val (.int (Int32.ofNat hs.length)), .val (.int ca), .val (.int cb), .val (.int cc), .val v9, .val v10, .val (.int (Int32.ofNat n)), .val (.ref r), .val (.int br), .val (.int nd), .val (.int 1), .val (.int (Int32.ofNat (hs.length + 2))), .val (.int (Int32.ofNat ((hs.length + 2) + 1 + kd))), .unset] [.int (Int32.ofNat zs.length)])
    refine P.iload X1 hx 321 (hb hby at_319) rfl rfl ?_
    refine P.icmpYes X1 hx 326 (hb hby at_321) (teq (congrArg Int32.ofNat (by rw [ez]; simp [digs_len] <;> omega))).1 (by decide) (by decide) ?_
    refine P.iconst X1 hx 327 1 (hb hby at_326) rfl rfl ?_
    refine P.istore X1 hx 329 #[.val (.int p0), .val (.int p1), .val (.int p2), .val (.int p3), .val (.int p4), .val (.int (Int32.ofNat hs.length)), .val (.int ca), .val (.int cb), .val (.int cc), .val v9, .val v10, .val (.int (Int32.ofNat n)), .val (.ref r), .val (.int br), .val (.int nd), .val (.int 1), .val (.int (Int32.ofNat (hs.length + 2))), .val (.int (Int32.ofNat ((hs.length + 2) + 1 + kd))), .val (.int 1)] (hb hby at_327) rfl rfl ?_
    refine P.iload X1 hx 331 (hb hby at_329) rfl rfl ?_
    refine P.ifNo X1 hx 334 (hb hby at_331) ((if0 _ _).trans (feq (by rw [b1]; decide)).1) rfl ?_
    refine P.aload X1 hx 336 (hb hby at_334) rfl rfl rfl ?_
    refine P.iconst X1 hx 337 0 (hb hby at_336) rfl rfl ?_
    refine P.bipush X1 hx 339 91 (hb hby at_337) rfl rfl ?_
    refine X1.callS hx (w198 cx) (w199 cx) (w200 cx) (w201 cx) (by decide) (Ct.pay (W := 0) (ct_at cx r u zs (0 : Int32) 0 (91 : Int32) hm _ _ P0 rfl (by rw [ez]; simp [digs_len] <;> omega) hzl (by rw [ez]; rfl)) (w201 cx) (w200 cx) (nle rfl) (nle rfl)) (by rw [hml]; rfl) (argsL := [.ref r, .int 0, .int 91]) (rest := []) (lenOf pd27 rfl) rfl rfl (Nat.le_of_eq rfl) (hb hby at_339) (nle rfl) (nle rfl) ?_
    rintro T2 h2 _ _ _ X2 ⟨rfl, rfl, rfl, J2⟩
    rw [J2] at X2
    refine P.ifNo X2 hx 345 (hb hby at_342) (by decide) rfl ?_
    refine P.aload X2 hx 347 (hb hby at_345) rfl rfl rfl ?_
    refine P.iload X2 hx 349 (hb hby at_347) rfl rfl ?_
    refine P.iconst X2 hx 350 1 (hb hby at_349) rfl rfl ?_
    refine P.iadd X2 hx 351 (z := (Int32.ofNat (hs.length + 1))) (hb hby at_350) (oAd _ 1) rfl ?_
    refine P.bipush X2 hx 353 93 (hb hby at_351) rfl rfl ?_
    refine X2.callS hx (w198 cx) (w199 cx) (w200 cx) (w201 cx) (by decide) (Ct.pay (W := 0) (ct_at cx r u zs (Int32.ofNat (hs.length + 1)) (hs.length + 1) (93 : Int32) hm _ _ P0 rfl (by rw [ez]; simp [digs_len] <;> omega) hzl (at93 ez)) (w201 cx) (w200 cx) (nle rfl) (nle rfl)) (by rw [hml]; rfl) (argsL := [.ref r, .int (Int32.ofNat (hs.length + 1)), .int 93]) (rest := []) (lenOf pd27 rfl) rfl rfl (Nat.le_of_eq rfl) (hb hby at_353) (nle rfl) (nle rfl) ?_
    rintro T3 h3 _ _ _ X3 ⟨rfl, rfl, rfl, J3⟩
    rw [J3] at X3
    refine P.ifNo X3 hx 359 (hb hby at_356) (by decide) rfl ?_
    refine P.iconst X3 hx 360 1 (hb hby at_359) rfl rfl ?_
    refine P.goto X3 hx 364 (hb hby at_360) (by decide) (by decide) ?_
    refine P.istore X3 hx 366 #[.val (.int p0), .val (.int p1), .val (.int p2), .val (.int p3), .val (.int p4), .val (.int (Int32.ofNat hs.length)), .val (.int ca), .val (.int cb), .val (.int cc), .val v9, .val v10, .val (.int (Int32.ofNat n)), .val (.ref r), .val (.int br), .val (.int nd), .val (.int 1), .val (.int (Int32.ofNat (hs.length + 2))), .val (.int (Int32.ofNat ((hs.length + 2) + 1 + kd))), .val (.int 1)] (hb hby at_364) rfl rfl ?_
    rcases hsh with e2 | e2 | e2 | e2
    · skip
      refine P.iload X3 hx 368 (hb hby at_366) rfl rfl ?_
      refine P.ifNo X3 hx 371 (hb hby at_368) (by decide) rfl ?_
      refine P.iload X3 hx 373 (hb hby at_371) rfl rfl ?_
      refine P.iconst X3 hx 374 1 (hb hby at_373) rfl rfl ?_
      refine P.icmpYes X3 hx 389 (hb hby at_374) (tlt (by rw [e2]; show Int32.ofNat 0 < (1 : Int32); decide)).1 (by decide) (by decide) ?_
      refine P.iload X3 hx 391 (hb hby at_389) rfl rfl ?_
      refine P.iconst X3 hx 392 2 (hb hby at_391) rfl rfl ?_
      refine P.icmpYes X3 hx 409 (hb hby at_392) (tlt (by rw [e2]; show Int32.ofNat 0 < (2 : Int32); decide)).1 (by decide) (by decide) ?_
      refine P.iload X3 hx 411 (hb hby at_409) rfl rfl ?_
      refine P.iconst X3 hx 412 3 (hb hby at_411) rfl rfl ?_
      refine P.icmpYes X3 hx 429 (hb hby at_412) (tlt (by rw [e2]; show Int32.ofNat 0 < (3 : Int32); decide)).1 (by decide) (by decide) ?_
      refine P.iconst X3 hx 430 1 (hb hby at_429) rfl rfl ?_
      refine P.goto X3 hx 434 (hb hby at_430) (by decide) (by decide) ?_
      refine P.istore X3 hx 436 #[.val (.int p0), .val (.int p1), .val (.int p2), .val (.int p3), .val (.int p4), .val (.int (Int32.ofNat hs.length)), .val (.int ca), .val (.int cb), .val (.int cc), .val v9, .val v10, .val (.int (Int32.ofNat n)), .val (.ref r), .val (.int br), .val (.int nd), .val (.int 1), .val (.int (Int32.ofNat (hs.length + 2))), .val (.int (Int32.ofNat ((hs.length + 2) + 1 + kd))), .val (.int 1)] (hb hby at_434) rfl rfl ?_
      have X4 := WS.fl (FL2 := (r :: u :: FL)) X3 (fun y hy => (List.mem_cons.mp hy).elim (fun q => q ▸ (mg 0 rfl)) (fun q0 => (List.mem_cons.mp q0).elim (fun q => q ▸ (mg 1 rfl)) (fun q1 => (List.mem_append_right [r, u] q1))))
      exact mid_436 cx p0 p1 p2 p3 p4 (.int (Int32.ofNat hs.length)) (.int ca) (.int cb) (.int cc) v9 v10 (.int br) (.int 1) (.int (Int32.ofNat ((hs.length + 2) + 1 + kd))) n kd r u zs nd (hs.length + 2) ([91] ++ hs ++ [93]) hx hby hml hnm hret hlk (WS.mono X4 (nle rfl) (nle rfl)) K0 P0 hDK hnd ez (by simp <;> omega) (by omega)
    · skip
      refine P.iload X3 hx 368 (hb hby at_366) rfl rfl ?_
      refine P.ifNo X3 hx 371 (hb hby at_368) (by decide) rfl ?_
      refine P.iload X3 hx 373 (hb hby at_371) rfl rfl ?_
      refine P.iconst X3 hx 374 1 (hb hby at_373) rfl rfl ?_
      refine P.icmpNo X3 hx 377 (hb hby at_374) (flt (by rw [e2]; show ¬ Int32.ofNat 1 < (1 : Int32); decide)).1 rfl ?_
      refine P.aload X3 hx 379 (hb hby at_377) rfl rfl rfl ?_
      refine P.iload X3 hx 381 (hb hby at_379) rfl rfl ?_
      refine P.iload X3 hx 383 (hb hby at_381) rfl rfl ?_
      refine X3.callS hx (w198 cx) (w199 cx) (w200 cx) (w201 cx) (by decide) (Ct.pay (W := 0) (ct_at cx r u zs (1 : Int32) 1 ca hm _ _ P0 rfl (by rw [ez, e2]; simp [digs_len] <;> omega) hzl (by rw [ez, e2]; rfl)) (w201 cx) (w200 cx) (nle rfl) (nle rfl)) (by rw [hml]; rfl) (argsL := [.ref r, .int 1, .int ca]) (rest := []) (lenOf pd27 rfl) rfl rfl (Nat.le_of_eq rfl) (hb hby at_383) (nle rfl) (nle rfl) ?_
      rintro T5 h5 _ _ _ X5 ⟨rfl, rfl, rfl, J5⟩
      rw [J5] at X5
      refine P.ifNo X5 hx 389 (hb hby at_386) (by decide) rfl ?_
      refine P.iload X5 hx 391 (hb hby at_389) rfl rfl ?_
      refine P.iconst X5 hx 392 2 (hb hby at_391) rfl rfl ?_
      refine P.icmpYes X5 hx 409 (hb hby at_392) (tlt (by rw [e2]; show Int32.ofNat 1 < (2 : Int32); decide)).1 (by decide) (by decide) ?_
      refine P.iload X5 hx 411 (hb hby at_409) rfl rfl ?_
      refine P.iconst X5 hx 412 3 (hb hby at_411) rfl rfl ?_
      refine P.icmpYes X5 hx 429 (hb hby at_412) (tlt (by rw [e2]; show Int32.ofNat 1 < (3 : Int32); decide)).1 (by decide) (by decide) ?_
      refine P.iconst X5 hx 430 1 (hb hby at_429) rfl rfl ?_
      refine P.goto X5 hx 434 (hb hby at_430) (by decide) (by decide) ?_
      refine P.istore X5 hx 436 #[.val (.int p0), .val (.int p1), .val (.int p2), .val (.int p3), .val (.int p4), .val (.int (Int32.ofNat hs.length)), .val (.int ca), .val (.int cb), .val (.int cc), .val v9, .val v10, .val (.int (Int32.ofNat n)), .val (.ref r), .val (.int br), .val (.int nd), .val (.int 1), .val (.int (Int32.ofNat (hs.length + 2))), .val (.int (Int32.ofNat ((hs.length + 2) + 1 + kd))), .val (.int 1)] (hb hby at_434) rfl rfl ?_
      have X6 := WS.fl (FL2 := (r :: u :: FL)) X5 (fun y hy => (List.mem_cons.mp hy).elim (fun q => q ▸ (mg 0 rfl)) (fun q0 => (List.mem_cons.mp q0).elim (fun q => q ▸ (mg 1 rfl)) (fun q1 => (List.mem_append_right [r, u] q1))))
      exact mid_436 cx p0 p1 p2 p3 p4 (.int (Int32.ofNat hs.length)) (.int ca) (.int cb) (.int cc) v9 v10 (.int br) (.int 1) (.int (Int32.ofNat ((hs.length + 2) + 1 + kd))) n kd r u zs nd (hs.length + 2) ([91] ++ hs ++ [93]) hx hby hml hnm hret hlk (WS.mono X6 (nle rfl) (nle rfl)) K0 P0 hDK hnd ez (by simp <;> omega) (by omega)
    · skip
      refine P.iload X3 hx 368 (hb hby at_366) rfl rfl ?_
      refine P.ifNo X3 hx 371 (hb hby at_368) (by decide) rfl ?_
      refine P.iload X3 hx 373 (hb hby at_371) rfl rfl ?_
      refine P.iconst X3 hx 374 1 (hb hby at_373) rfl rfl ?_
      refine P.icmpNo X3 hx 377 (hb hby at_374) (flt (by rw [e2]; show ¬ Int32.ofNat 2 < (1 : Int32); decide)).1 rfl ?_
      refine P.aload X3 hx 379 (hb hby at_377) rfl rfl rfl ?_
      refine P.iload X3 hx 381 (hb hby at_379) rfl rfl ?_
      refine P.iload X3 hx 383 (hb hby at_381) rfl rfl ?_
      refine X3.callS hx (w198 cx) (w199 cx) (w200 cx) (w201 cx) (by decide) (Ct.pay (W := 0) (ct_at cx r u zs (1 : Int32) 1 ca hm _ _ P0 rfl (by rw [ez, e2]; simp [digs_len] <;> omega) hzl (by rw [ez, e2]; rfl)) (w201 cx) (w200 cx) (nle rfl) (nle rfl)) (by rw [hml]; rfl) (argsL := [.ref r, .int 1, .int ca]) (rest := []) (lenOf pd27 rfl) rfl rfl (Nat.le_of_eq rfl) (hb hby at_383) (nle rfl) (nle rfl) ?_
      rintro T7 h7 _ _ _ X7 ⟨rfl, rfl, rfl, J7⟩
      rw [J7] at X7
      refine P.ifNo X7 hx 389 (hb hby at_386) (by decide) rfl ?_
      refine P.iload X7 hx 391 (hb hby at_389) rfl rfl ?_
      refine P.iconst X7 hx 392 2 (hb hby at_391) rfl rfl ?_
      refine P.icmpNo X7 hx 395 (hb hby at_392) (flt (by rw [e2]; show ¬ Int32.ofNat 2 < (2 : Int32); decide)).1 rfl ?_
      refine P.aload X7 hx 397 (hb hby at_395) rfl rfl rfl ?_
      refine P.iload X7 hx 399 (hb hby at_397) rfl rfl ?_
      refine P.iconst X7 hx 400 1 (hb hby at_399) rfl rfl ?_
      refine P.iadd X7 hx 401 (z := (2 : Int32)) (hb hby at_400) rfl rfl ?_
      refine P.iload X7 hx 403 (hb hby at_401) rfl rfl ?_
      refine X7.callS hx (w198 cx) (w199 cx) (w200 cx) (w201 cx) (by decide) (Ct.pay (W := 0) (ct_at cx r u zs (2 : Int32) 2 cb hm _ _ P0 rfl (by rw [ez, e2]; simp [digs_len] <;> omega) hzl (by rw [ez, e2]; rfl)) (w201 cx) (w200 cx) (nle rfl) (nle rfl)) (by rw [hml]; rfl) (argsL := [.ref r, .int 2, .int cb]) (rest := []) (lenOf pd27 rfl) rfl rfl (Nat.le_of_eq rfl) (hb hby at_403) (nle rfl) (nle rfl) ?_
      rintro T8 h8 _ _ _ X8 ⟨rfl, rfl, rfl, J8⟩
      rw [J8] at X8
      refine P.ifNo X8 hx 409 (hb hby at_406) (by decide) rfl ?_
      refine P.iload X8 hx 411 (hb hby at_409) rfl rfl ?_
      refine P.iconst X8 hx 412 3 (hb hby at_411) rfl rfl ?_
      refine P.icmpYes X8 hx 429 (hb hby at_412) (tlt (by rw [e2]; show Int32.ofNat 2 < (3 : Int32); decide)).1 (by decide) (by decide) ?_
      refine P.iconst X8 hx 430 1 (hb hby at_429) rfl rfl ?_
      refine P.goto X8 hx 434 (hb hby at_430) (by decide) (by decide) ?_
      refine P.istore X8 hx 436 #[.val (.int p0), .val (.int p1), .val (.int p2), .val (.int p3), .val (.int p4), .val (.int (Int32.ofNat hs.length)), .val (.int ca), .val (.int cb), .val (.int cc), .val v9, .val v10, .val (.int (Int32.ofNat n)), .val (.ref r), .val (.int br), .val (.int nd), .val (.int 1), .val (.int (Int32.ofNat (hs.length + 2))), .val (.int (Int32.ofNat ((hs.length + 2) + 1 + kd))), .val (.int 1)] (hb hby at_434) rfl rfl ?_
      have X9 := WS.fl (FL2 := (r :: u :: FL)) X8 (fun y hy => (List.mem_cons.mp hy).elim (fun q => q ▸ (mg 0 rfl)) (fun q0 => (List.mem_cons.mp q0).elim (fun q => q ▸ (mg 1 rfl)) (fun q1 => (List.mem_append_right [r, u] q1))))
      exact mid_436 cx p0 p1 p2 p3 p4 (.int (Int32.ofNat hs.length)) (.int ca) (.int cb) (.int cc) v9 v10 (.int br) (.int 1) (.int (Int32.ofNat ((hs.length + 2) + 1 + kd))) n kd r u zs nd (hs.length + 2) ([91] ++ hs ++ [93]) hx hby hml hnm hret hlk (WS.mono X9 (nle rfl) (nle rfl)) K0 P0 hDK hnd ez (by simp <;> omega) (by omega)
    · skip
      refine P.iload X3 hx 368 (hb hby at_366) rfl rfl ?_
      refine P.ifNo X3 hx 371 (hb hby at_368) (by decide) rfl ?_
      refine P.iload X3 hx 373 (hb hby at_371) rfl rfl ?_
      refine P.iconst X3 hx 374 1 (hb hby at_373) rfl rfl ?_
      refine P.icmpNo X3 hx 377 (hb hby at_374) (flt (by rw [e2]; show ¬ Int32.ofNat 3 < (1 : Int32); decide)).1 rfl ?_
      refine P.aload X3 hx 379 (hb hby at_377) rfl rfl rfl ?_
      refine P.iload X3 hx 381 (hb hby at_379) rfl rfl ?_
      refine P.iload X3 hx 383 (hb hby at_381) rfl rfl ?_
      refine X3.callS hx (w198 cx) (w199 cx) (w200 cx) (w201 cx) (by decide) (Ct.pay (W := 0) (ct_at cx r u zs (1 : Int32) 1 ca hm _ _ P0 rfl (by rw [ez, e2]; simp [digs_len] <;> omega) hzl (by rw [ez, e2]; rfl)) (w201 cx) (w200 cx) (nle rfl) (nle rfl)) (by rw [hml]; rfl) (argsL := [.ref r, .int 1, .int ca]) (rest := []) (lenOf pd27 rfl) rfl rfl (Nat.le_of_eq rfl) (hb hby at_383) (nle rfl) (nle rfl) ?_
      rintro T10 h10 _ _ _ X10 ⟨rfl, rfl, rfl, J10⟩
      rw [J10] at X10
      refine P.ifNo X10 hx 389 (hb hby at_386) (by decide) rfl ?_
      refine P.iload X10 hx 391 (hb hby at_389) rfl rfl ?_
      refine P.iconst X10 hx 392 2 (hb hby at_391) rfl rfl ?_
      refine P.icmpNo X10 hx 395 (hb hby at_392) (flt (by rw [e2]; show ¬ Int32.ofNat 3 < (2 : Int32); decide)).1 rfl ?_
      refine P.aload X10 hx 397 (hb hby at_395) rfl rfl rfl ?_
      refine P.iload X10 hx 399 (hb hby at_397) rfl rfl ?_
      refine P.iconst X10 hx 400 1 (hb hby at_399) rfl rfl ?_
      refine P.iadd X10 hx 401 (z := (2 : Int32)) (hb hby at_400) rfl rfl ?_
      refine P.iload X10 hx 403 (hb hby at_401) rfl rfl ?_
      refine X10.callS hx (w198 cx) (w199 cx) (w200 cx) (w201 cx) (by decide) (Ct.pay (W := 0) (ct_at cx r u zs (2 : Int32) 2 cb hm _ _ P0 rfl (by rw [ez, e2]; simp [digs_len] <;> omega) hzl (by rw [ez, e2]; rfl)) (w201 cx) (w200 cx) (nle rfl) (nle rfl)) (by rw [hml]; rfl) (argsL := [.ref r, .int 2, .int cb]) (rest := []) (lenOf pd27 rfl) rfl rfl (Nat.le_of_eq rfl) (hb hby at_403) (nle rfl) (nle rfl) ?_
      rintro T11 h11 _ _ _ X11 ⟨rfl, rfl, rfl, J11⟩
      rw [J11] at X11
      refine P.ifNo X11 hx 409 (hb hby at_406) (by decide) rfl ?_
      refine P.iload X11 hx 411 (hb hby at_409) rfl rfl ?_
      refine P.iconst X11 hx 412 3 (hb hby at_411) rfl rfl ?_
      refine P.icmpNo X11 hx 415 (hb hby at_412) (flt (by rw [e2]; show ¬ Int32.ofNat 3 < (3 : Int32); decide)).1 rfl ?_
      refine P.aload X11 hx 417 (hb hby at_415) rfl rfl rfl ?_
      refine P.iload X11 hx 419 (hb hby at_417) rfl rfl ?_
      refine P.iconst X11 hx 420 2 (hb hby at_419) rfl rfl ?_
      refine P.iadd X11 hx 421 (z := (3 : Int32)) (hb hby at_420) rfl rfl ?_
      refine P.iload X11 hx 423 (hb hby at_421) rfl rfl ?_
      refine X11.callS hx (w198 cx) (w199 cx) (w200 cx) (w201 cx) (by decide) (Ct.pay (W := 0) (ct_at cx r u zs (3 : Int32) 3 cc hm _ _ P0 rfl (by rw [ez, e2]; simp [digs_len] <;> omega) hzl (by rw [ez, e2]; rfl)) (w201 cx) (w200 cx) (nle rfl) (nle rfl)) (by rw [hml]; rfl) (argsL := [.ref r, .int 3, .int cc]) (rest := []) (lenOf pd27 rfl) rfl rfl (Nat.le_of_eq rfl) (hb hby at_423) (nle rfl) (nle rfl) ?_
      rintro T12 h12 _ _ _ X12 ⟨rfl, rfl, rfl, J12⟩
      rw [J12] at X12
      refine P.ifNo X12 hx 429 (hb hby at_426) (by decide) rfl ?_
      refine P.iconst X12 hx 430 1 (hb hby at_429) rfl rfl ?_
      refine P.goto X12 hx 434 (hb hby at_430) (by decide) (by decide) ?_
      refine P.istore X12 hx 436 #[.val (.int p0), .val (.int p1), .val (.int p2), .val (.int p3), .val (.int p4), .val (.int (Int32.ofNat hs.length)), .val (.int ca), .val (.int cb), .val (.int cc), .val v9, .val v10, .val (.int (Int32.ofNat n)), .val (.ref r), .val (.int br), .val (.int nd), .val (.int 1), .val (.int (Int32.ofNat (hs.length + 2))), .val (.int (Int32.ofNat ((hs.length + 2) + 1 + kd))), .val (.int 1)] (hb hby at_434) rfl rfl ?_
      have X13 := WS.fl (FL2 := (r :: u :: FL)) X12 (fun y hy => (List.mem_cons.mp hy).elim (fun q => q ▸ (mg 0 rfl)) (fun q0 => (List.mem_cons.mp q0).elim (fun q => q ▸ (mg 1 rfl)) (fun q1 => (List.mem_append_right [r, u] q1))))
      exact mid_436 cx p0 p1 p2 p3 p4 (.int (Int32.ofNat hs.length)) (.int ca) (.int cb) (.int cc) v9 v10 (.int br) (.int 1) (.int (Int32.ofNat ((hs.length + 2) + 1 + kd))) n kd r u zs nd (hs.length + 2) ([91] ++ hs ++ [93]) hx hby hml hnm hret hlk (WS.mono X13 (nle rfl) (nle rfl)) K0 P0 hDK hnd ez (by simp <;> omega) (by omega)
  · have hzl : zs.length ≤ 100 := by rw [ez]; simp [digs_len] <;> omega
    refine P.iload X0 hx 274 (hb hby at_272) rfl rfl ?_
    refine P.ifYes X0 hx 281 (hb hby at_274) ((if0 _ _).trans (teq b1).1) (by decide) (by decide) ?_
    refine P.iconst X0 hx 282 0 (hb hby at_281) rfl rfl ?_
    refine P.istore X0 hx 284 #[.val (.int p0), .val (.int p1), .val (.int p2), .val (.int p3), .val (.int p4), .val (.int (Int32.ofNat hs.length)), .val (.int ca), .val (.int cb), .val (.int cc), .val v9, .val v10, .val (.int (Int32.ofNat n)), .val (.ref r), .val (.int br), .val (.int nd), .val (.int 0), .unset, .unset, .unset] (hb hby at_282) rfl rfl ?_
    refine P.iload X0 hx 286 (hb hby at_284) rfl rfl ?_
    refine P.ifYes X0 hx 296 (hb hby at_286) ((if0 _ _).trans (teq b1).1) (by decide) (by decide) ?_
    refine P.iload X0 hx 298 (hb hby at_296) rfl rfl ?_
    refine P.istore X0 hx 300 #[.val (.int p0), .val (.int p1), .val (.int p2), .val (.int p3), .val (.int p4), .val (.int (Int32.ofNat hs.length)), .val (.int ca), .val (.int cb), .val (.int cc), .val v9, .val v10, .val (.int (Int32.ofNat n)), .val (.ref r), .val (.int br), .val (.int nd), .val (.int 0), .val (.int (Int32.ofNat hs.length)), .unset, .unset] (hb hby at_298) rfl rfl ?_
    refine P.iload X0 hx 302 (hb hby at_300) rfl rfl ?_
    refine P.iconst X0 hx 303 1 (hb hby at_302) rfl rfl ?_
    refine P.iadd X0 hx 304 (z := (Int32.ofNat (hs.length + 1))) (hb hby at_303) (oAd _ 1) rfl ?_
    refine P.iload X0 hx 306 (hb hby at_304) rfl rfl ?_
    refine P.iadd X0 hx 307 (z := (Int32.ofNat (hs.length + 1 + kd))) (hb hby at_306) (nQ hnd) rfl ?_
    refine P.istore X0 hx 309 #[.val (.int p0), .val (.int p1), .val (.int p2), .val (.int p3), .val (.int p4), .val (.int (Int32.ofNat hs.length)), .val (.int ca), .val (.int cb), .val (.int cc), .val v9, .val v10, .val (.int (Int32.ofNat n)), .val (.ref r), .val (.int br), .val (.int nd), .val (.int 0), .val (.int (Int32.ofNat hs.length)), .val (.int (Int32.ofNat (hs.length + 1 + kd))), .unset] (hb hby at_307) rfl rfl ?_
    refine P.aload X0 hx 311 (hb hby at_309) rfl rfl rfl ?_
    refine P.ifnullNo X0 hx 314 (hb hby at_311) rfl ?_
    refine P.aload X0 hx 316 (hb hby at_314) rfl rfl rfl ?_
    refine X0.callV hx (w197 cx) (w103 cx) (w105 cx) (w104 cx) (fun _ hZ => nf hZ (w105 cx)) (by decide) P0.1 (pay_len (W := 0) (hln cx) (w2 cx) P0 (X0.sta (S_C cx)) (N_C cx) (nle rfl) (nle rfl)) (by rw [hml]; rfl) (argsL := []) (rest := []) (lenOf pd4 rfl) rfl rfl (Nat.le_of_eq rfl) (hb hby at_316) (nle rfl) (nle rfl) ?_
    rintro T14 h14 _ _ _ X14 ⟨rfl, rfl, rfl, J14⟩
    rw [J14] at X14
    show Wo _ _ _ _ _ _ _ _ _ _ _ T14 (mkF m 319 #[.val (.int p0), .val (.int p1), .val (.int p2), .val (.int p3), .val (.int p4), .val (.int (Int32.ofNat hs.length)), .val (.int ca), .val (.int cb), .val (.int cc), .val v9, .val v10, .val (.int (Int32.ofNat n)), .val (.ref r), .val (.int br), .val (.int nd), .val (.int 0), .val (.int (Int32.ofNat hs.length)), .val (.int (Int32.ofNat (hs.length + 1 + kd))), .unset] [.int (Int32.ofNat zs.length)])
    refine P.iload X14 hx 321 (hb hby at_319) rfl rfl ?_
    refine P.icmpYes X14 hx 326 (hb hby at_321) (teq (congrArg Int32.ofNat (by rw [ez]; simp [digs_len] <;> omega))).1 (by decide) (by decide) ?_
    refine P.iconst X14 hx 327 1 (hb hby at_326) rfl rfl ?_
    refine P.istore X14 hx 329 #[.val (.int p0), .val (.int p1), .val (.int p2), .val (.int p3), .val (.int p4), .val (.int (Int32.ofNat hs.length)), .val (.int ca), .val (.int cb), .val (.int cc), .val v9, .val v10, .val (.int (Int32.ofNat n)), .val (.ref r), .val (.int br), .val (.int nd), .val (.int 0), .val (.int (Int32.ofNat hs.length)), .val (.int (Int32.ofNat (hs.length + 1 + kd))), .val (.int 1)] (hb hby at_327) rfl rfl ?_
    refine P.iload X14 hx 331 (hb hby at_329) rfl rfl ?_
    refine P.ifYes X14 hx 366 (hb hby at_331) ((if0 _ _).trans (teq b1).1) (by decide) (by decide) ?_
    rcases hsh with e2 | e2 | e2 | e2
    · skip
      refine P.iload X14 hx 368 (hb hby at_366) rfl rfl ?_
      refine P.ifNo X14 hx 371 (hb hby at_368) (by decide) rfl ?_
      refine P.iload X14 hx 373 (hb hby at_371) rfl rfl ?_
      refine P.iconst X14 hx 374 1 (hb hby at_373) rfl rfl ?_
      refine P.icmpYes X14 hx 389 (hb hby at_374) (tlt (by rw [e2]; show Int32.ofNat 0 < (1 : Int32); decide)).1 (by decide) (by decide) ?_
      refine P.iload X14 hx 391 (hb hby at_389) rfl rfl ?_
      refine P.iconst X14 hx 392 2 (hb hby at_391) rfl rfl ?_
      refine P.icmpYes X14 hx 409 (hb hby at_392) (tlt (by rw [e2]; show Int32.ofNat 0 < (2 : Int32); decide)).1 (by decide) (by decide) ?_
      refine P.iload X14 hx 411 (hb hby at_409) rfl rfl ?_
      refine P.iconst X14 hx 412 3 (hb hby at_411) rfl rfl ?_
      refine P.icmpYes X14 hx 429 (hb hby at_412) (tlt (by rw [e2]; show Int32.ofNat 0 < (3 : Int32); decide)).1 (by decide) (by decide) ?_
      refine P.iconst X14 hx 430 1 (hb hby at_429) rfl rfl ?_
      refine P.goto X14 hx 434 (hb hby at_430) (by decide) (by decide) ?_
      refine P.istore X14 hx 436 #[.val (.int p0), .val (.int p1), .val (.int p2), .val (.int p3), .val (.int p4), .val (.int (Int32.ofNat hs.length)), .val (.int ca), .val (.int cb), .val (.int cc), .val v9, .val v10, .val (.int (Int32.ofNat n)), .val (.ref r), .val (.int br), .val (.int nd), .val (.int 0), .val (.int (Int32.ofNat hs.length)), .val (.int (Int32.ofNat (hs.length + 1 + kd))), .val (.int 1)] (hb hby at_434) rfl rfl ?_
      have X15 := WS.fl (FL2 := (r :: u :: FL)) X14 (fun y hy => (List.mem_cons.mp hy).elim (fun q => q ▸ (mg 0 rfl)) (fun q0 => (List.mem_cons.mp q0).elim (fun q => q ▸ (mg 1 rfl)) (fun q1 => (List.mem_append_right [r, u] q1))))
      exact mid_436 cx p0 p1 p2 p3 p4 (.int (Int32.ofNat hs.length)) (.int ca) (.int cb) (.int cc) v9 v10 (.int br) (.int 0) (.int (Int32.ofNat (hs.length + 1 + kd))) n kd r u zs nd hs.length hs hx hby hml hnm hret hlk (WS.mono X15 (nle rfl) (nle rfl)) K0 P0 hDK hnd ez rfl (by omega)
    · skip
      refine P.iload X14 hx 368 (hb hby at_366) rfl rfl ?_
      refine P.ifNo X14 hx 371 (hb hby at_368) (by decide) rfl ?_
      refine P.iload X14 hx 373 (hb hby at_371) rfl rfl ?_
      refine P.iconst X14 hx 374 1 (hb hby at_373) rfl rfl ?_
      refine P.icmpNo X14 hx 377 (hb hby at_374) (flt (by rw [e2]; show ¬ Int32.ofNat 1 < (1 : Int32); decide)).1 rfl ?_
      refine P.aload X14 hx 379 (hb hby at_377) rfl rfl rfl ?_
      refine P.iload X14 hx 381 (hb hby at_379) rfl rfl ?_
      refine P.iload X14 hx 383 (hb hby at_381) rfl rfl ?_
      refine X14.callS hx (w198 cx) (w199 cx) (w200 cx) (w201 cx) (by decide) (Ct.pay (W := 0) (ct_at cx r u zs (0 : Int32) 0 ca hm _ _ P0 rfl (by rw [ez, e2]; simp [digs_len] <;> omega) hzl (by rw [ez, e2]; rfl)) (w201 cx) (w200 cx) (nle rfl) (nle rfl)) (by rw [hml]; rfl) (argsL := [.ref r, .int 0, .int ca]) (rest := []) (lenOf pd27 rfl) rfl rfl (Nat.le_of_eq rfl) (hb hby at_383) (nle rfl) (nle rfl) ?_
      rintro T16 h16 _ _ _ X16 ⟨rfl, rfl, rfl, J16⟩
      rw [J16] at X16
      refine P.ifNo X16 hx 389 (hb hby at_386) (by decide) rfl ?_
      refine P.iload X16 hx 391 (hb hby at_389) rfl rfl ?_
      refine P.iconst X16 hx 392 2 (hb hby at_391) rfl rfl ?_
      refine P.icmpYes X16 hx 409 (hb hby at_392) (tlt (by rw [e2]; show Int32.ofNat 1 < (2 : Int32); decide)).1 (by decide) (by decide) ?_
      refine P.iload X16 hx 411 (hb hby at_409) rfl rfl ?_
      refine P.iconst X16 hx 412 3 (hb hby at_411) rfl rfl ?_
      refine P.icmpYes X16 hx 429 (hb hby at_412) (tlt (by rw [e2]; show Int32.ofNat 1 < (3 : Int32); decide)).1 (by decide) (by decide) ?_
      refine P.iconst X16 hx 430 1 (hb hby at_429) rfl rfl ?_
      refine P.goto X16 hx 434 (hb hby at_430) (by decide) (by decide) ?_
      refine P.istore X16 hx 436 #[.val (.int p0), .val (.int p1), .val (.int p2), .val (.int p3), .val (.int p4), .val (.int (Int32.ofNat hs.length)), .val (.int ca), .val (.int cb), .val (.int cc), .val v9, .val v10, .val (.int (Int32.ofNat n)), .val (.ref r), .val (.int br), .val (.int nd), .val (.int 0), .val (.int (Int32.ofNat hs.length)), .val (.int (Int32.ofNat (hs.length + 1 + kd))), .val (.int 1)] (hb hby at_434) rfl rfl ?_
      have X17 := WS.fl (FL2 := (r :: u :: FL)) X16 (fun y hy => (List.mem_cons.mp hy).elim (fun q => q ▸ (mg 0 rfl)) (fun q0 => (List.mem_cons.mp q0).elim (fun q => q ▸ (mg 1 rfl)) (fun q1 => (List.mem_append_right [r, u] q1))))
      exact mid_436 cx p0 p1 p2 p3 p4 (.int (Int32.ofNat hs.length)) (.int ca) (.int cb) (.int cc) v9 v10 (.int br) (.int 0) (.int (Int32.ofNat (hs.length + 1 + kd))) n kd r u zs nd hs.length hs hx hby hml hnm hret hlk (WS.mono X17 (nle rfl) (nle rfl)) K0 P0 hDK hnd ez rfl (by omega)
    · skip
      refine P.iload X14 hx 368 (hb hby at_366) rfl rfl ?_
      refine P.ifNo X14 hx 371 (hb hby at_368) (by decide) rfl ?_
      refine P.iload X14 hx 373 (hb hby at_371) rfl rfl ?_
      refine P.iconst X14 hx 374 1 (hb hby at_373) rfl rfl ?_
      refine P.icmpNo X14 hx 377 (hb hby at_374) (flt (by rw [e2]; show ¬ Int32.ofNat 2 < (1 : Int32); decide)).1 rfl ?_
      refine P.aload X14 hx 379 (hb hby at_377) rfl rfl rfl ?_
      refine P.iload X14 hx 381 (hb hby at_379) rfl rfl ?_
      refine P.iload X14 hx 383 (hb hby at_381) rfl rfl ?_
      refine X14.callS hx (w198 cx) (w199 cx) (w200 cx) (w201 cx) (by decide) (Ct.pay (W := 0) (ct_at cx r u zs (0 : Int32) 0 ca hm _ _ P0 rfl (by rw [ez, e2]; simp [digs_len] <;> omega) hzl (by rw [ez, e2]; rfl)) (w201 cx) (w200 cx) (nle rfl) (nle rfl)) (by rw [hml]; rfl) (argsL := [.ref r, .int 0, .int ca]) (rest := []) (lenOf pd27 rfl) rfl rfl (Nat.le_of_eq rfl) (hb hby at_383) (nle rfl) (nle rfl) ?_
      rintro T18 h18 _ _ _ X18 ⟨rfl, rfl, rfl, J18⟩
      rw [J18] at X18
      refine P.ifNo X18 hx 389 (hb hby at_386) (by decide) rfl ?_
      refine P.iload X18 hx 391 (hb hby at_389) rfl rfl ?_
      refine P.iconst X18 hx 392 2 (hb hby at_391) rfl rfl ?_
      refine P.icmpNo X18 hx 395 (hb hby at_392) (flt (by rw [e2]; show ¬ Int32.ofNat 2 < (2 : Int32); decide)).1 rfl ?_
      refine P.aload X18 hx 397 (hb hby at_395) rfl rfl rfl ?_
      refine P.iload X18 hx 399 (hb hby at_397) rfl rfl ?_
      refine P.iconst X18 hx 400 1 (hb hby at_399) rfl rfl ?_
      refine P.iadd X18 hx 401 (z := (1 : Int32)) (hb hby at_400) rfl rfl ?_
      refine P.iload X18 hx 403 (hb hby at_401) rfl rfl ?_
      refine X18.callS hx (w198 cx) (w199 cx) (w200 cx) (w201 cx) (by decide) (Ct.pay (W := 0) (ct_at cx r u zs (1 : Int32) 1 cb hm _ _ P0 rfl (by rw [ez, e2]; simp [digs_len] <;> omega) hzl (by rw [ez, e2]; rfl)) (w201 cx) (w200 cx) (nle rfl) (nle rfl)) (by rw [hml]; rfl) (argsL := [.ref r, .int 1, .int cb]) (rest := []) (lenOf pd27 rfl) rfl rfl (Nat.le_of_eq rfl) (hb hby at_403) (nle rfl) (nle rfl) ?_
      rintro T19 h19 _ _ _ X19 ⟨rfl, rfl, rfl, J19⟩
      rw [J19] at X19
      refine P.ifNo X19 hx 409 (hb hby at_406) (by decide) rfl ?_
      refine P.iload X19 hx 411 (hb hby at_409) rfl rfl ?_
      refine P.iconst X19 hx 412 3 (hb hby at_411) rfl rfl ?_
      refine P.icmpYes X19 hx 429 (hb hby at_412) (tlt (by rw [e2]; show Int32.ofNat 2 < (3 : Int32); decide)).1 (by decide) (by decide) ?_
      refine P.iconst X19 hx 430 1 (hb hby at_429) rfl rfl ?_
      refine P.goto X19 hx 434 (hb hby at_430) (by decide) (by decide) ?_
      refine P.istore X19 hx 436 #[.val (.int p0), .val (.int p1), .val (.int p2), .val (.int p3), .val (.int p4), .val (.int (Int32.ofNat hs.length)), .val (.int ca), .val (.int cb), .val (.int cc), .val v9, .val v10, .val (.int (Int32.ofNat n)), .val (.ref r), .val (.int br), .val (.int nd), .val (.int 0), .val (.int (Int32.ofNat hs.length)), .val (.int (Int32.ofNat (hs.length + 1 + kd))), .val (.int 1)] (hb hby at_434) rfl rfl ?_
      have X20 := WS.fl (FL2 := (r :: u :: FL)) X19 (fun y hy => (List.mem_cons.mp hy).elim (fun q => q ▸ (mg 0 rfl)) (fun q0 => (List.mem_cons.mp q0).elim (fun q => q ▸ (mg 1 rfl)) (fun q1 => (List.mem_append_right [r, u] q1))))
      exact mid_436 cx p0 p1 p2 p3 p4 (.int (Int32.ofNat hs.length)) (.int ca) (.int cb) (.int cc) v9 v10 (.int br) (.int 0) (.int (Int32.ofNat (hs.length + 1 + kd))) n kd r u zs nd hs.length hs hx hby hml hnm hret hlk (WS.mono X20 (nle rfl) (nle rfl)) K0 P0 hDK hnd ez rfl (by omega)
    · skip
      refine P.iload X14 hx 368 (hb hby at_366) rfl rfl ?_
      refine P.ifNo X14 hx 371 (hb hby at_368) (by decide) rfl ?_
      refine P.iload X14 hx 373 (hb hby at_371) rfl rfl ?_
      refine P.iconst X14 hx 374 1 (hb hby at_373) rfl rfl ?_
      refine P.icmpNo X14 hx 377 (hb hby at_374) (flt (by rw [e2]; show ¬ Int32.ofNat 3 < (1 : Int32); decide)).1 rfl ?_
      refine P.aload X14 hx 379 (hb hby at_377) rfl rfl rfl ?_
      refine P.iload X14 hx 381 (hb hby at_379) rfl rfl ?_
      refine P.iload X14 hx 383 (hb hby at_381) rfl rfl ?_
      refine X14.callS hx (w198 cx) (w199 cx) (w200 cx) (w201 cx) (by decide) (Ct.pay (W := 0) (ct_at cx r u zs (0 : Int32) 0 ca hm _ _ P0 rfl (by rw [ez, e2]; simp [digs_len] <;> omega) hzl (by rw [ez, e2]; rfl)) (w201 cx) (w200 cx) (nle rfl) (nle rfl)) (by rw [hml]; rfl) (argsL := [.ref r, .int 0, .int ca]) (rest := []) (lenOf pd27 rfl) rfl rfl (Nat.le_of_eq rfl) (hb hby at_383) (nle rfl) (nle rfl) ?_
      rintro T21 h21 _ _ _ X21 ⟨rfl, rfl, rfl, J21⟩
      rw [J21] at X21
      refine P.ifNo X21 hx 389 (hb hby at_386) (by decide) rfl ?_
      refine P.iload X21 hx 391 (hb hby at_389) rfl rfl ?_
      refine P.iconst X21 hx 392 2 (hb hby at_391) rfl rfl ?_
      refine P.icmpNo X21 hx 395 (hb hby at_392) (flt (by rw [e2]; show ¬ Int32.ofNat 3 < (2 : Int32); decide)).1 rfl ?_
      refine P.aload X21 hx 397 (hb hby at_395) rfl rfl rfl ?_
      refine P.iload X21 hx 399 (hb hby at_397) rfl rfl ?_
      refine P.iconst X21 hx 400 1 (hb hby at_399) rfl rfl ?_
      refine P.iadd X21 hx 401 (z := (1 : Int32)) (hb hby at_400) rfl rfl ?_
      refine P.iload X21 hx 403 (hb hby at_401) rfl rfl ?_
      refine X21.callS hx (w198 cx) (w199 cx) (w200 cx) (w201 cx) (by decide) (Ct.pay (W := 0) (ct_at cx r u zs (1 : Int32) 1 cb hm _ _ P0 rfl (by rw [ez, e2]; simp [digs_len] <;> omega) hzl (by rw [ez, e2]; rfl)) (w201 cx) (w200 cx) (nle rfl) (nle rfl)) (by rw [hml]; rfl) (argsL := [.ref r, .int 1, .int cb]) (rest := []) (lenOf pd27 rfl) rfl rfl (Nat.le_of_eq rfl) (hb hby at_403) (nle rfl) (nle rfl) ?_
      rintro T22 h22 _ _ _ X22 ⟨rfl, rfl, rfl, J22⟩
      rw [J22] at X22
      refine P.ifNo X22 hx 409 (hb hby at_406) (by decide) rfl ?_
      refine P.iload X22 hx 411 (hb hby at_409) rfl rfl ?_
      refine P.iconst X22 hx 412 3 (hb hby at_411) rfl rfl ?_
      refine P.icmpNo X22 hx 415 (hb hby at_412) (flt (by rw [e2]; show ¬ Int32.ofNat 3 < (3 : Int32); decide)).1 rfl ?_
      refine P.aload X22 hx 417 (hb hby at_415) rfl rfl rfl ?_
      refine P.iload X22 hx 419 (hb hby at_417) rfl rfl ?_
      refine P.iconst X22 hx 420 2 (hb hby at_419) rfl rfl ?_
      refine P.iadd X22 hx 421 (z := (2 : Int32)) (hb hby at_420) rfl rfl ?_
      refine P.iload X22 hx 423 (hb hby at_421) rfl rfl ?_
      refine X22.callS hx (w198 cx) (w199 cx) (w200 cx) (w201 cx) (by decide) (Ct.pay (W := 0) (ct_at cx r u zs (2 : Int32) 2 cc hm _ _ P0 rfl (by rw [ez, e2]; simp [digs_len] <;> omega) hzl (by rw [ez, e2]; rfl)) (w201 cx) (w200 cx) (nle rfl) (nle rfl)) (by rw [hml]; rfl) (argsL := [.ref r, .int 2, .int cc]) (rest := []) (lenOf pd27 rfl) rfl rfl (Nat.le_of_eq rfl) (hb hby at_423) (nle rfl) (nle rfl) ?_
      rintro T23 h23 _ _ _ X23 ⟨rfl, rfl, rfl, J23⟩
      rw [J23] at X23
      refine P.ifNo X23 hx 429 (hb hby at_426) (by decide) rfl ?_
      refine P.iconst X23 hx 430 1 (hb hby at_429) rfl rfl ?_
      refine P.goto X23 hx 434 (hb hby at_430) (by decide) (by decide) ?_
      refine P.istore X23 hx 436 #[.val (.int p0), .val (.int p1), .val (.int p2), .val (.int p3), .val (.int p4), .val (.int (Int32.ofNat hs.length)), .val (.int ca), .val (.int cb), .val (.int cc), .val v9, .val v10, .val (.int (Int32.ofNat n)), .val (.ref r), .val (.int br), .val (.int nd), .val (.int 0), .val (.int (Int32.ofNat hs.length)), .val (.int (Int32.ofNat (hs.length + 1 + kd))), .val (.int 1)] (hb hby at_434) rfl rfl ?_
      have X24 := WS.fl (FL2 := (r :: u :: FL)) X23 (fun y hy => (List.mem_cons.mp hy).elim (fun q => q ▸ (mg 0 rfl)) (fun q0 => (List.mem_cons.mp q0).elim (fun q => q ▸ (mg 1 rfl)) (fun q1 => (List.mem_append_right [r, u] q1))))
      exact mid_436 cx p0 p1 p2 p3 p4 (.int (Int32.ofNat hs.length)) (.int ca) (.int cb) (.int cc) v9 v10 (.int br) (.int 0) (.int (Int32.ofNat (hs.length + 1 + kd))) n kd r u zs nd hs.length hs hx hby hml hnm hret hlk (WS.mono X24 (nle rfl) (nle rfl)) K0 P0 hDK hnd ez rfl (by omega)
theorem mid_223 (cx : Cx a0 Z gC gF v_DO k_DO v_DT k_DT) {p : Program} {e : Env} {s : State} {m : MethodId} {as' : Array Value} {below : List Frame} {meth : Method} {c : Code} {T0 : State} {h hm : Heap} {WL FL : List Addr} (p0 : Int32) (p1 : Int32) (p2 : Int32) (p3 : Int32) (p4 : Int32) (ca : Int32) (cb : Int32) (cc : Int32) (hs : List Int32) (v9 : Value) (v10 : Value) (n : Nat) (kd : Nat) (r : Addr) (u : Addr) (zs : List Int32) (br : Int32) (hx : p.tables.exec = Jvm.exec) (hby : c.code = code) (hml : c.maxLocals = maxLocals) (hnm : meth.name = (x).name) (hret : meth.sig.returnType = ret) (hlk : meth.locks = false) (X0 : WS p l e room_1 s m as' below meth c Z EL1 n0 (x).cls T0 hm WL (r :: u :: FL) 40 4352) (K0 : Keep h hm []) (P0 : StrL Z hm r u zs) (hsh : hs = [] ∨ hs = [ca] ∨ hs = [ca, cb] ∨ hs = [ca, cb, cc]) (hDK : DK n kd) (hB : (br = 1 ∧ zs = [91] ++ hs ++ [93] ++ [58] ++ digs n kd) ∨ (br = 0 ∧ zs = hs ++ [58] ++ digs n kd)) :
    Wo p e s below Z EL1 n0 WL FL room_1 (Q_law Z gC gF v_DO k_DO v_DT k_DT p0 p1 p2 p3 p4 h) T0 (mkF m 223 #[.val (.int p0), .val (.int p1), .val (.int p2), .val (.int p3), .val (.int p4), .val (.int (Int32.ofNat hs.length)), .val (.int ca), .val (.int cb), .val (.int cc), .val v9, .val v10, .val (.int (Int32.ofNat n)), .val (.ref r), .val (.int br), .unset, .unset, .unset, .unset, .unset] []) := by
  have hDK2 := hDK
  rcases hDK2 with ⟨ek, d1⟩ | ⟨ek, d0, d1⟩ | ⟨ek, d0, d1⟩ | ⟨ek, d0, d1⟩ | ⟨ek, d0, d1⟩
  · skip
    refine P.iload X0 hx 225 (hb hby at_223) rfl rfl ?_
    refine P.bipush X0 hx 227 10 (hb hby at_225) rfl rfl ?_
    refine P.icmpNo X0 hx 230 (hb hby at_227) (tlt ((ltc (k := 10) rfl (by decide) (by omega)).mpr (by omega))).2.1 rfl ?_
    refine P.iconst X0 hx 231 1 (hb hby at_230) rfl rfl ?_
    refine P.goto X0 hx 270 (hb hby at_231) (by decide) (by decide) ?_
    refine P.istore X0 hx 272 #[.val (.int p0), .val (.int p1), .val (.int p2), .val (.int p3), .val (.int p4), .val (.int (Int32.ofNat hs.length)), .val (.int ca), .val (.int cb), .val (.int cc), .val v9, .val v10, .val (.int (Int32.ofNat n)), .val (.ref r), .val (.int br), .val (.int 1), .unset, .unset, .unset, .unset] (hb hby at_270) rfl rfl ?_
    have X1 := WS.fl (FL2 := (r :: u :: FL)) X0 (fun y hy => (List.mem_cons.mp hy).elim (fun q => q ▸ (mg 0 rfl)) (fun q0 => (List.mem_cons.mp q0).elim (fun q => q ▸ (mg 1 rfl)) (fun q1 => (List.mem_append_right [r, u] q1))))
    exact mid_272 cx p0 p1 p2 p3 p4 ca cb cc hs v9 v10 n kd r u zs br (1 : Int32) hx hby hml hnm hret hlk (WS.mono X1 (nle rfl) (nle rfl)) K0 P0 hsh hDK (by rw [ek]; rfl) hB
  · skip
    refine P.iload X0 hx 225 (hb hby at_223) rfl rfl ?_
    refine P.bipush X0 hx 227 10 (hb hby at_225) rfl rfl ?_
    refine P.icmpYes X0 hx 234 (hb hby at_227) (flt ((not_congr (ltc (k := 10) rfl (by decide) (by omega))).mpr (by omega))).2.1 (by decide) (by decide) ?_
    refine P.iload X0 hx 236 (hb hby at_234) rfl rfl ?_
    refine P.bipush X0 hx 238 100 (hb hby at_236) rfl rfl ?_
    refine P.icmpNo X0 hx 241 (hb hby at_238) (tlt ((ltc (k := 100) rfl (by decide) (by omega)).mpr (by omega))).2.1 rfl ?_
    refine P.iconst X0 hx 242 2 (hb hby at_241) rfl rfl ?_
    refine P.goto X0 hx 270 (hb hby at_242) (by decide) (by decide) ?_
    refine P.istore X0 hx 272 #[.val (.int p0), .val (.int p1), .val (.int p2), .val (.int p3), .val (.int p4), .val (.int (Int32.ofNat hs.length)), .val (.int ca), .val (.int cb), .val (.int cc), .val v9, .val v10, .val (.int (Int32.ofNat n)), .val (.ref r), .val (.int br), .val (.int 2), .unset, .unset, .unset, .unset] (hb hby at_270) rfl rfl ?_
    have X2 := WS.fl (FL2 := (r :: u :: FL)) X0 (fun y hy => (List.mem_cons.mp hy).elim (fun q => q ▸ (mg 0 rfl)) (fun q0 => (List.mem_cons.mp q0).elim (fun q => q ▸ (mg 1 rfl)) (fun q1 => (List.mem_append_right [r, u] q1))))
    exact mid_272 cx p0 p1 p2 p3 p4 ca cb cc hs v9 v10 n kd r u zs br (2 : Int32) hx hby hml hnm hret hlk (WS.mono X2 (nle rfl) (nle rfl)) K0 P0 hsh hDK (by rw [ek]; rfl) hB
  · skip
    refine P.iload X0 hx 225 (hb hby at_223) rfl rfl ?_
    refine P.bipush X0 hx 227 10 (hb hby at_225) rfl rfl ?_
    refine P.icmpYes X0 hx 234 (hb hby at_227) (flt ((not_congr (ltc (k := 10) rfl (by decide) (by omega))).mpr (by omega))).2.1 (by decide) (by decide) ?_
    refine P.iload X0 hx 236 (hb hby at_234) rfl rfl ?_
    refine P.bipush X0 hx 238 100 (hb hby at_236) rfl rfl ?_
    refine P.icmpYes X0 hx 245 (hb hby at_238) (flt ((not_congr (ltc (k := 100) rfl (by decide) (by omega))).mpr (by omega))).2.1 (by decide) (by decide) ?_
    refine P.iload X0 hx 247 (hb hby at_245) rfl rfl ?_
    refine P.sipush X0 hx 250 1000 (hb hby at_247) rfl rfl ?_
    refine P.icmpNo X0 hx 253 (hb hby at_250) (tlt ((ltc (k := 1000) rfl (by decide) (by omega)).mpr (by omega))).2.1 rfl ?_
    refine P.iconst X0 hx 254 3 (hb hby at_253) rfl rfl ?_
    refine P.goto X0 hx 270 (hb hby at_254) (by decide) (by decide) ?_
    refine P.istore X0 hx 272 #[.val (.int p0), .val (.int p1), .val (.int p2), .val (.int p3), .val (.int p4), .val (.int (Int32.ofNat hs.length)), .val (.int ca), .val (.int cb), .val (.int cc), .val v9, .val v10, .val (.int (Int32.ofNat n)), .val (.ref r), .val (.int br), .val (.int 3), .unset, .unset, .unset, .unset] (hb hby at_270) rfl rfl ?_
    have X3 := WS.fl (FL2 := (r :: u :: FL)) X0 (fun y hy => (List.mem_cons.mp hy).elim (fun q => q ▸ (mg 0 rfl)) (fun q0 => (List.mem_cons.mp q0).elim (fun q => q ▸ (mg 1 rfl)) (fun q1 => (List.mem_append_right [r, u] q1))))
    exact mid_272 cx p0 p1 p2 p3 p4 ca cb cc hs v9 v10 n kd r u zs br (3 : Int32) hx hby hml hnm hret hlk (WS.mono X3 (nle rfl) (nle rfl)) K0 P0 hsh hDK (by rw [ek]; rfl) hB
  · skip
    refine P.iload X0 hx 225 (hb hby at_223) rfl rfl ?_
    refine P.bipush X0 hx 227 10 (hb hby at_225) rfl rfl ?_
    refine P.icmpYes X0 hx 234 (hb hby at_227) (flt ((not_congr (ltc (k := 10) rfl (by decide) (by omega))).mpr (by omega))).2.1 (by decide) (by decide) ?_
    refine P.iload X0 hx 236 (hb hby at_234) rfl rfl ?_
    refine P.bipush X0 hx 238 100 (hb hby at_236) rfl rfl ?_
    refine P.icmpYes X0 hx 245 (hb hby at_238) (flt ((not_congr (ltc (k := 100) rfl (by decide) (by omega))).mpr (by omega))).2.1 (by decide) (by decide) ?_
    refine P.iload X0 hx 247 (hb hby at_245) rfl rfl ?_
    refine P.sipush X0 hx 250 1000 (hb hby at_247) rfl rfl ?_
    refine P.icmpYes X0 hx 257 (hb hby at_250) (flt ((not_congr (ltc (k := 1000) rfl (by decide) (by omega))).mpr (by omega))).2.1 (by decide) (by decide) ?_
    refine P.iload X0 hx 259 (hb hby at_257) rfl rfl ?_
    refine P.sipush X0 hx 262 10000 (hb hby at_259) rfl rfl ?_
    refine P.icmpNo X0 hx 265 (hb hby at_262) (tlt ((ltc (k := 10000) rfl (by decide) (by omega)).mpr (by omega))).2.1 rfl ?_
    refine P.iconst X0 hx 266 4 (hb hby at_265) rfl rfl ?_
    refine P.goto X0 hx 270 (hb hby at_266) (by decide) (by decide) ?_
    refine P.istore X0 hx 272 #[.val (.int p0), .val (.int p1), .val (.int p2), .val (.int p3), .val (.int p4), .val (.int (Int32.ofNat hs.length)), .val (.int ca), .val (.int cb), .val (.int cc), .val v9, .val v10, .val (.int (Int32.ofNat n)), .val (.ref r), .val (.int br), .val (.int 4), .unset, .unset, .unset, .unset] (hb hby at_270) rfl rfl ?_
    have X4 := WS.fl (FL2 := (r :: u :: FL)) X0 (fun y hy => (List.mem_cons.mp hy).elim (fun q => q ▸ (mg 0 rfl)) (fun q0 => (List.mem_cons.mp q0).elim (fun q => q ▸ (mg 1 rfl)) (fun q1 => (List.mem_append_right [r, u] q1))))
    exact mid_272 cx p0 p1 p2 p3 p4 ca cb cc hs v9 v10 n kd r u zs br (4 : Int32) hx hby hml hnm hret hlk (WS.mono X4 (nle rfl) (nle rfl)) K0 P0 hsh hDK (by rw [ek]; rfl) hB
  · skip
    refine P.iload X0 hx 225 (hb hby at_223) rfl rfl ?_
    refine P.bipush X0 hx 227 10 (hb hby at_225) rfl rfl ?_
    refine P.icmpYes X0 hx 234 (hb hby at_227) (flt ((not_congr (ltc (k := 10) rfl (by decide) (by omega))).mpr (by omega))).2.1 (by decide) (by decide) ?_
    refine P.iload X0 hx 236 (hb hby at_234) rfl rfl ?_
    refine P.bipush X0 hx 238 100 (hb hby at_236) rfl rfl ?_
    refine P.icmpYes X0 hx 245 (hb hby at_238) (flt ((not_congr (ltc (k := 100) rfl (by decide) (by omega))).mpr (by omega))).2.1 (by decide) (by decide) ?_
    refine P.iload X0 hx 247 (hb hby at_245) rfl rfl ?_
    refine P.sipush X0 hx 250 1000 (hb hby at_247) rfl rfl ?_
    refine P.icmpYes X0 hx 257 (hb hby at_250) (flt ((not_congr (ltc (k := 1000) rfl (by decide) (by omega))).mpr (by omega))).2.1 (by decide) (by decide) ?_
    refine P.iload X0 hx 259 (hb hby at_257) rfl rfl ?_
    refine P.sipush X0 hx 262 10000 (hb hby at_259) rfl rfl ?_
    refine P.icmpYes X0 hx 269 (hb hby at_262) (flt ((not_congr (ltc (k := 10000) rfl (by decide) (by omega))).mpr (by omega))).2.1 (by decide) (by decide) ?_
    refine P.iconst X0 hx 270 5 (hb hby at_269) rfl rfl ?_
    refine P.istore X0 hx 272 #[.val (.int p0), .val (.int p1), .val (.int p2), .val (.int p3), .val (.int p4), .val (.int (Int32.ofNat hs.length)), .val (.int ca), .val (.int cb), .val (.int cc), .val v9, .val v10, .val (.int (Int32.ofNat n)), .val (.ref r), .val (.int br), .val (.int 5), .unset, .unset, .unset, .unset] (hb hby at_270) rfl rfl ?_
    have X5 := WS.fl (FL2 := (r :: u :: FL)) X0 (fun y hy => (List.mem_cons.mp hy).elim (fun q => q ▸ (mg 0 rfl)) (fun q0 => (List.mem_cons.mp q0).elim (fun q => q ▸ (mg 1 rfl)) (fun q1 => (List.mem_append_right [r, u] q1))))
    exact mid_272 cx p0 p1 p2 p3 p4 ca cb cc hs v9 v10 n kd r u zs br (5 : Int32) hx hby hml hnm hret hlk (WS.mono X5 (nle rfl) (nle rfl)) K0 P0 hsh hDK (by rw [ek]; rfl) hB
theorem mid_178 (cx : Cx a0 Z gC gF v_DO k_DO v_DT k_DT) {p : Program} {e : Env} {s : State} {m : MethodId} {as' : Array Value} {below : List Frame} {meth : Method} {c : Code} {T0 : State} {h hm : Heap} {WL FL : List Addr} (p0 : Int32) (p1 : Int32) (p2 : Int32) (p3 : Int32) (p4 : Int32) (ca : Int32) (cb : Int32) (cc : Int32) (hs : List Int32) (v9 : Value) (v10 : Value) (n : Nat) (kd : Nat) (r : Addr) (u : Addr) (zs : List Int32) (hx : p.tables.exec = Jvm.exec) (hby : c.code = code) (hml : c.maxLocals = maxLocals) (hnm : meth.name = (x).name) (hret : meth.sig.returnType = ret) (hlk : meth.locks = false) (X0 : WS p l e room_1 s m as' below meth c Z EL1 n0 (x).cls T0 hm WL (r :: u :: FL) 40 4352) (K0 : Keep h hm []) (P0 : StrL Z hm r u zs) (hsh : hs = [] ∨ hs = [ca] ∨ hs = [ca, cb] ∨ hs = [ca, cb, cc]) (hDK : DK n kd) (hz : ((58 : Int32) ∈ hs ∧ zs = [91] ++ hs ++ [93] ++ [58] ++ digs n kd) ∨ ((58 : Int32) ∉ hs ∧ zs = hs ++ [58] ++ digs n kd)) :
    Wo p e s below Z EL1 n0 WL FL room_1 (Q_law Z gC gF v_DO k_DO v_DT k_DT p0 p1 p2 p3 p4 h) T0 (mkF m 178 #[.val (.int p0), .val (.int p1), .val (.int p2), .val (.int p3), .val (.int p4), .val (.int (Int32.ofNat hs.length)), .val (.int ca), .val (.int cb), .val (.int cc), .val v9, .val v10, .val (.int (Int32.ofNat n)), .val (.ref r), .unset, .unset, .unset, .unset, .unset, .unset] []) := by
  rcases hsh with rfl | rfl | rfl | rfl
  · skip
    show Wo _ _ _ _ _ _ _ _ _ _ _ T0 (mkF m 178 #[.val (.int p0), .val (.int p1), .val (.int p2), .val (.int p3), .val (.int p4), .val (.int 0), .val (.int ca), .val (.int cb), .val (.int cc), .val v9, .val v10, .val (.int (Int32.ofNat n)), .val (.ref r), .unset, .unset, .unset, .unset, .unset, .unset] [])
    refine P.iload X0 hx 180 (hb hby at_178) rfl rfl ?_
    refine P.ifYes X0 hx 190 (hb hby at_180) (by decide) (by decide) (by decide) ?_
    refine P.iload X0 hx 192 (hb hby at_190) rfl rfl ?_
    refine P.iconst X0 hx 193 1 (hb hby at_192) rfl rfl ?_
    refine P.icmpYes X0 hx 203 (hb hby at_193) (by decide) (by decide) (by decide) ?_
    refine P.iload X0 hx 205 (hb hby at_203) rfl rfl ?_
    refine P.iconst X0 hx 206 2 (hb hby at_205) rfl rfl ?_
    refine P.icmpYes X0 hx 220 (hb hby at_206) (by decide) (by decide) (by decide) ?_
    refine P.iconst X0 hx 221 0 (hb hby at_220) rfl rfl ?_
    refine P.istore X0 hx 223 #[.val (.int p0), .val (.int p1), .val (.int p2), .val (.int p3), .val (.int p4), .val (.int 0), .val (.int ca), .val (.int cb), .val (.int cc), .val v9, .val v10, .val (.int (Int32.ofNat n)), .val (.ref r), .val (.int 0), .unset, .unset, .unset, .unset, .unset] (hb hby at_221) rfl rfl ?_
    have X1 := WS.fl (FL2 := (r :: u :: FL)) X0 (fun y hy => (List.mem_cons.mp hy).elim (fun q => q ▸ (mg 0 rfl)) (fun q0 => (List.mem_cons.mp q0).elim (fun q => q ▸ (mg 1 rfl)) (fun q1 => (List.mem_append_right [r, u] q1))))
    exact mid_223 cx p0 p1 p2 p3 p4 ca cb cc ([]) v9 v10 n kd r u zs (0 : Int32) hx hby hml hnm hret hlk (WS.mono X1 (nle rfl) (nle rfl)) K0 P0 (Or.inl rfl) hDK (Or.inr ⟨rfl, (hz.resolve_left (fun q => nomatch q.1)).2⟩)
  · skip
    show Wo _ _ _ _ _ _ _ _ _ _ _ T0 (mkF m 178 #[.val (.int p0), .val (.int p1), .val (.int p2), .val (.int p3), .val (.int p4), .val (.int 1), .val (.int ca), .val (.int cb), .val (.int cc), .val v9, .val v10, .val (.int (Int32.ofNat n)), .val (.ref r), .unset, .unset, .unset, .unset, .unset, .unset] [])
    by_cases e0 : ca = 58
    · skip
      refine P.iload X0 hx 180 (hb hby at_178) rfl rfl ?_
      refine P.ifNo X0 hx 183 (hb hby at_180) (by decide) rfl ?_
      refine P.iload X0 hx 185 (hb hby at_183) rfl rfl ?_
      refine P.bipush X0 hx 187 58 (hb hby at_185) rfl rfl ?_
      refine P.icmpYes X0 hx 216 (hb hby at_187) (teq e0).1 (by decide) (by decide) ?_
      refine P.iconst X0 hx 217 1 (hb hby at_216) rfl rfl ?_
      refine P.goto X0 hx 221 (hb hby at_217) (by decide) (by decide) ?_
      refine P.istore X0 hx 223 #[.val (.int p0), .val (.int p1), .val (.int p2), .val (.int p3), .val (.int p4), .val (.int 1), .val (.int ca), .val (.int cb), .val (.int cc), .val v9, .val v10, .val (.int (Int32.ofNat n)), .val (.ref r), .val (.int 1), .unset, .unset, .unset, .unset, .unset] (hb hby at_221) rfl rfl ?_
      have X2 := WS.fl (FL2 := (r :: u :: FL)) X0 (fun y hy => (List.mem_cons.mp hy).elim (fun q => q ▸ (mg 0 rfl)) (fun q0 => (List.mem_cons.mp q0).elim (fun q => q ▸ (mg 1 rfl)) (fun q1 => (List.mem_append_right [r, u] q1))))
      exact mid_223 cx p0 p1 p2 p3 p4 ca cb cc ([ca]) v9 v10 n kd r u zs (1 : Int32) hx hby hml hnm hret hlk (WS.mono X2 (nle rfl) (nle rfl)) K0 P0 (Or.inr (Or.inl rfl)) hDK (Or.inl ⟨rfl, (hz.resolve_right (fun q => q.1 (by rw [e0]; simp))).2⟩)
    · skip
      refine P.iload X0 hx 180 (hb hby at_178) rfl rfl ?_
      refine P.ifNo X0 hx 183 (hb hby at_180) (by decide) rfl ?_
      refine P.iload X0 hx 185 (hb hby at_183) rfl rfl ?_
      refine P.bipush X0 hx 187 58 (hb hby at_185) rfl rfl ?_
      refine P.icmpNo X0 hx 190 (hb hby at_187) (feq e0).1 rfl ?_
      refine P.iload X0 hx 192 (hb hby at_190) rfl rfl ?_
      refine P.iconst X0 hx 193 1 (hb hby at_192) rfl rfl ?_
      refine P.icmpYes X0 hx 203 (hb hby at_193) (by decide) (by decide) (by decide) ?_
      refine P.iload X0 hx 205 (hb hby at_203) rfl rfl ?_
      refine P.iconst X0 hx 206 2 (hb hby at_205) rfl rfl ?_
      refine P.icmpYes X0 hx 220 (hb hby at_206) (by decide) (by decide) (by decide) ?_
      refine P.iconst X0 hx 221 0 (hb hby at_220) rfl rfl ?_
      refine P.istore X0 hx 223 #[.val (.int p0), .val (.int p1), .val (.int p2), .val (.int p3), .val (.int p4), .val (.int 1), .val (.int ca), .val (.int cb), .val (.int cc), .val v9, .val v10, .val (.int (Int32.ofNat n)), .val (.ref r), .val (.int 0), .unset, .unset, .unset, .unset, .unset] (hb hby at_221) rfl rfl ?_
      have X2 := WS.fl (FL2 := (r :: u :: FL)) X0 (fun y hy => (List.mem_cons.mp hy).elim (fun q => q ▸ (mg 0 rfl)) (fun q0 => (List.mem_cons.mp q0).elim (fun q => q ▸ (mg 1 rfl)) (fun q1 => (List.mem_append_right [r, u] q1))))
      exact mid_223 cx p0 p1 p2 p3 p4 ca cb cc ([ca]) v9 v10 n kd r u zs (0 : Int32) hx hby hml hnm hret hlk (WS.mono X2 (nle rfl) (nle rfl)) K0 P0 (Or.inr (Or.inl rfl)) hDK (Or.inr ⟨rfl, (hz.resolve_left (fun q => (nm1 e0) q.1)).2⟩)
  · skip
    show Wo _ _ _ _ _ _ _ _ _ _ _ T0 (mkF m 178 #[.val (.int p0), .val (.int p1), .val (.int p2), .val (.int p3), .val (.int p4), .val (.int 2), .val (.int ca), .val (.int cb), .val (.int cc), .val v9, .val v10, .val (.int (Int32.ofNat n)), .val (.ref r), .unset, .unset, .unset, .unset, .unset, .unset] [])
    by_cases e0 : ca = 58
    · skip
      refine P.iload X0 hx 180 (hb hby at_178) rfl rfl ?_
      refine P.ifNo X0 hx 183 (hb hby at_180) (by decide) rfl ?_
      refine P.iload X0 hx 185 (hb hby at_183) rfl rfl ?_
      refine P.bipush X0 hx 187 58 (hb hby at_185) rfl rfl ?_
      refine P.icmpYes X0 hx 216 (hb hby at_187) (teq e0).1 (by decide) (by decide) ?_
      refine P.iconst X0 hx 217 1 (hb hby at_216) rfl rfl ?_
      refine P.goto X0 hx 221 (hb hby at_217) (by decide) (by decide) ?_
      refine P.istore X0 hx 223 #[.val (.int p0), .val (.int p1), .val (.int p2), .val (.int p3), .val (.int p4), .val (.int 2), .val (.int ca), .val (.int cb), .val (.int cc), .val v9, .val v10, .val (.int (Int32.ofNat n)), .val (.ref r), .val (.int 1), .unset, .unset, .unset, .unset, .unset] (hb hby at_221) rfl rfl ?_
      have X3 := WS.fl (FL2 := (r :: u :: FL)) X0 (fun y hy => (List.mem_cons.mp hy).elim (fun q => q ▸ (mg 0 rfl)) (fun q0 => (List.mem_cons.mp q0).elim (fun q => q ▸ (mg 1 rfl)) (fun q1 => (List.mem_append_right [r, u] q1))))
      exact mid_223 cx p0 p1 p2 p3 p4 ca cb cc ([ca, cb]) v9 v10 n kd r u zs (1 : Int32) hx hby hml hnm hret hlk (WS.mono X3 (nle rfl) (nle rfl)) K0 P0 (Or.inr (Or.inr (Or.inl rfl))) hDK (Or.inl ⟨rfl, (hz.resolve_right (fun q => q.1 (by rw [e0]; simp))).2⟩)
    · skip
      by_cases e1 : cb = 58
      · skip
        refine P.iload X0 hx 180 (hb hby at_178) rfl rfl ?_
        refine P.ifNo X0 hx 183 (hb hby at_180) (by decide) rfl ?_
        refine P.iload X0 hx 185 (hb hby at_183) rfl rfl ?_
        refine P.bipush X0 hx 187 58 (hb hby at_185) rfl rfl ?_
        refine P.icmpNo X0 hx 190 (hb hby at_187) (feq e0).1 rfl ?_
        refine P.iload X0 hx 192 (hb hby at_190) rfl rfl ?_
        refine P.iconst X0 hx 193 1 (hb hby at_192) rfl rfl ?_
        refine P.icmpNo X0 hx 196 (hb hby at_193) (by decide) rfl ?_
        refine P.iload X0 hx 198 (hb hby at_196) rfl rfl ?_
        refine P.bipush X0 hx 200 58 (hb hby at_198) rfl rfl ?_
        refine P.icmpYes X0 hx 216 (hb hby at_200) (teq e1).1 (by decide) (by decide) ?_
        refine P.iconst X0 hx 217 1 (hb hby at_216) rfl rfl ?_
        refine P.goto X0 hx 221 (hb hby at_217) (by decide) (by decide) ?_
        refine P.istore X0 hx 223 #[.val (.int p0), .val (.int p1), .val (.int p2), .val (.int p3), .val (.int p4), .val (.int 2), .val (.int ca), .val (.int cb), .val (.int cc), .val v9, .val v10, .val (.int (Int32.ofNat n)), .val (.ref r), .val (.int 1), .unset, .unset, .unset, .unset, .unset] (hb hby at_221) rfl rfl ?_
        have X3 := WS.fl (FL2 := (r :: u :: FL)) X0 (fun y hy => (List.mem_cons.mp hy).elim (fun q => q ▸ (mg 0 rfl)) (fun q0 => (List.mem_cons.mp q0).elim (fun q => q ▸ (mg 1 rfl)) (fun q1 => (List.mem_append_right [r, u] q1))))
        exact mid_223 cx p0 p1 p2 p3 p4 ca cb cc ([ca, cb]) v9 v10 n kd r u zs (1 : Int32) hx hby hml hnm hret hlk (WS.mono X3 (nle rfl) (nle rfl)) K0 P0 (Or.inr (Or.inr (Or.inl rfl))) hDK (Or.inl ⟨rfl, (hz.resolve_right (fun q => q.1 (by rw [e1]; simp))).2⟩)
      · skip
        refine P.iload X0 hx 180 (hb hby at_178) rfl rfl ?_
        refine P.ifNo X0 hx 183 (hb hby at_180) (by decide) rfl ?_
        refine P.iload X0 hx 185 (hb hby at_183) rfl rfl ?_
        refine P.bipush X0 hx 187 58 (hb hby at_185) rfl rfl ?_
        refine P.icmpNo X0 hx 190 (hb hby at_187) (feq e0).1 rfl ?_
        refine P.iload X0 hx 192 (hb hby at_190) rfl rfl ?_
        refine P.iconst X0 hx 193 1 (hb hby at_192) rfl rfl ?_
        refine P.icmpNo X0 hx 196 (hb hby at_193) (by decide) rfl ?_
        refine P.iload X0 hx 198 (hb hby at_196) rfl rfl ?_
        refine P.bipush X0 hx 200 58 (hb hby at_198) rfl rfl ?_
        refine P.icmpNo X0 hx 203 (hb hby at_200) (feq e1).1 rfl ?_
        refine P.iload X0 hx 205 (hb hby at_203) rfl rfl ?_
        refine P.iconst X0 hx 206 2 (hb hby at_205) rfl rfl ?_
        refine P.icmpYes X0 hx 220 (hb hby at_206) (by decide) (by decide) (by decide) ?_
        refine P.iconst X0 hx 221 0 (hb hby at_220) rfl rfl ?_
        refine P.istore X0 hx 223 #[.val (.int p0), .val (.int p1), .val (.int p2), .val (.int p3), .val (.int p4), .val (.int 2), .val (.int ca), .val (.int cb), .val (.int cc), .val v9, .val v10, .val (.int (Int32.ofNat n)), .val (.ref r), .val (.int 0), .unset, .unset, .unset, .unset, .unset] (hb hby at_221) rfl rfl ?_
        have X3 := WS.fl (FL2 := (r :: u :: FL)) X0 (fun y hy => (List.mem_cons.mp hy).elim (fun q => q ▸ (mg 0 rfl)) (fun q0 => (List.mem_cons.mp q0).elim (fun q => q ▸ (mg 1 rfl)) (fun q1 => (List.mem_append_right [r, u] q1))))
        exact mid_223 cx p0 p1 p2 p3 p4 ca cb cc ([ca, cb]) v9 v10 n kd r u zs (0 : Int32) hx hby hml hnm hret hlk (WS.mono X3 (nle rfl) (nle rfl)) K0 P0 (Or.inr (Or.inr (Or.inl rfl))) hDK (Or.inr ⟨rfl, (hz.resolve_left (fun q => (nm2 e0 e1) q.1)).2⟩)
  · skip
    show Wo _ _ _ _ _ _ _ _ _ _ _ T0 (mkF m 178 #[.val (.int p0), .val (.int p1), .val (.int p2), .val (.int p3), .val (.int p4), .val (.int 3), .val (.int ca), .val (.int cb), .val (.int cc), .val v9, .val v10, .val (.int (Int32.ofNat n)), .val (.ref r), .unset, .unset, .unset, .unset, .unset, .unset] [])
    by_cases e0 : ca = 58
    · skip
      refine P.iload X0 hx 180 (hb hby at_178) rfl rfl ?_
      refine P.ifNo X0 hx 183 (hb hby at_180) (by decide) rfl ?_
      refine P.iload X0 hx 185 (hb hby at_183) rfl rfl ?_
      refine P.bipush X0 hx 187 58 (hb hby at_185) rfl rfl ?_
      refine P.icmpYes X0 hx 216 (hb hby at_187) (teq e0).1 (by decide) (by decide) ?_
      refine P.iconst X0 hx 217 1 (hb hby at_216) rfl rfl ?_
      refine P.goto X0 hx 221 (hb hby at_217) (by decide) (by decide) ?_
      refine P.istore X0 hx 223 #[.val (.int p0), .val (.int p1), .val (.int p2), .val (.int p3), .val (.int p4), .val (.int 3), .val (.int ca), .val (.int cb), .val (.int cc), .val v9, .val v10, .val (.int (Int32.ofNat n)), .val (.ref r), .val (.int 1), .unset, .unset, .unset, .unset, .unset] (hb hby at_221) rfl rfl ?_
      have X4 := WS.fl (FL2 := (r :: u :: FL)) X0 (fun y hy => (List.mem_cons.mp hy).elim (fun q => q ▸ (mg 0 rfl)) (fun q0 => (List.mem_cons.mp q0).elim (fun q => q ▸ (mg 1 rfl)) (fun q1 => (List.mem_append_right [r, u] q1))))
      exact mid_223 cx p0 p1 p2 p3 p4 ca cb cc ([ca, cb, cc]) v9 v10 n kd r u zs (1 : Int32) hx hby hml hnm hret hlk (WS.mono X4 (nle rfl) (nle rfl)) K0 P0 (Or.inr (Or.inr (Or.inr rfl))) hDK (Or.inl ⟨rfl, (hz.resolve_right (fun q => q.1 (by rw [e0]; simp))).2⟩)
    · skip
      by_cases e1 : cb = 58
      · skip
        refine P.iload X0 hx 180 (hb hby at_178) rfl rfl ?_
        refine P.ifNo X0 hx 183 (hb hby at_180) (by decide) rfl ?_
        refine P.iload X0 hx 185 (hb hby at_183) rfl rfl ?_
        refine P.bipush X0 hx 187 58 (hb hby at_185) rfl rfl ?_
        refine P.icmpNo X0 hx 190 (hb hby at_187) (feq e0).1 rfl ?_
        refine P.iload X0 hx 192 (hb hby at_190) rfl rfl ?_
        refine P.iconst X0 hx 193 1 (hb hby at_192) rfl rfl ?_
        refine P.icmpNo X0 hx 196 (hb hby at_193) (by decide) rfl ?_
        refine P.iload X0 hx 198 (hb hby at_196) rfl rfl ?_
        refine P.bipush X0 hx 200 58 (hb hby at_198) rfl rfl ?_
        refine P.icmpYes X0 hx 216 (hb hby at_200) (teq e1).1 (by decide) (by decide) ?_
        refine P.iconst X0 hx 217 1 (hb hby at_216) rfl rfl ?_
        refine P.goto X0 hx 221 (hb hby at_217) (by decide) (by decide) ?_
        refine P.istore X0 hx 223 #[.val (.int p0), .val (.int p1), .val (.int p2), .val (.int p3), .val (.int p4), .val (.int 3), .val (.int ca), .val (.int cb), .val (.int cc), .val v9, .val v10, .val (.int (Int32.ofNat n)), .val (.ref r), .val (.int 1), .unset, .unset, .unset, .unset, .unset] (hb hby at_221) rfl rfl ?_
        have X4 := WS.fl (FL2 := (r :: u :: FL)) X0 (fun y hy => (List.mem_cons.mp hy).elim (fun q => q ▸ (mg 0 rfl)) (fun q0 => (List.mem_cons.mp q0).elim (fun q => q ▸ (mg 1 rfl)) (fun q1 => (List.mem_append_right [r, u] q1))))
        exact mid_223 cx p0 p1 p2 p3 p4 ca cb cc ([ca, cb, cc]) v9 v10 n kd r u zs (1 : Int32) hx hby hml hnm hret hlk (WS.mono X4 (nle rfl) (nle rfl)) K0 P0 (Or.inr (Or.inr (Or.inr rfl))) hDK (Or.inl ⟨rfl, (hz.resolve_right (fun q => q.1 (by rw [e1]; simp))).2⟩)
      · skip
        by_cases e2 : cc = 58
        · skip
          refine P.iload X0 hx 180 (hb hby at_178) rfl rfl ?_
          refine P.ifNo X0 hx 183 (hb hby at_180) (by decide) rfl ?_
          refine P.iload X0 hx 185 (hb hby at_183) rfl rfl ?_
          refine P.bipush X0 hx 187 58 (hb hby at_185) rfl rfl ?_
          refine P.icmpNo X0 hx 190 (hb hby at_187) (feq e0).1 rfl ?_
          refine P.iload X0 hx 192 (hb hby at_190) rfl rfl ?_
          refine P.iconst X0 hx 193 1 (hb hby at_192) rfl rfl ?_
          refine P.icmpNo X0 hx 196 (hb hby at_193) (by decide) rfl ?_
          refine P.iload X0 hx 198 (hb hby at_196) rfl rfl ?_
          refine P.bipush X0 hx 200 58 (hb hby at_198) rfl rfl ?_
          refine P.icmpNo X0 hx 203 (hb hby at_200) (feq e1).1 rfl ?_
          refine P.iload X0 hx 205 (hb hby at_203) rfl rfl ?_
          refine P.iconst X0 hx 206 2 (hb hby at_205) rfl rfl ?_
          refine P.icmpNo X0 hx 209 (hb hby at_206) (by decide) rfl ?_
          refine P.iload X0 hx 211 (hb hby at_209) rfl rfl ?_
          refine P.bipush X0 hx 213 58 (hb hby at_211) rfl rfl ?_
          refine P.icmpNo X0 hx 216 (hb hby at_213) (teq e2).2 rfl ?_
          refine P.iconst X0 hx 217 1 (hb hby at_216) rfl rfl ?_
          refine P.goto X0 hx 221 (hb hby at_217) (by decide) (by decide) ?_
          refine P.istore X0 hx 223 #[.val (.int p0), .val (.int p1), .val (.int p2), .val (.int p3), .val (.int p4), .val (.int 3), .val (.int ca), .val (.int cb), .val (.int cc), .val v9, .val v10, .val (.int (Int32.ofNat n)), .val (.ref r), .val (.int 1), .unset, .unset, .unset, .unset, .unset] (hb hby at_221) rfl rfl ?_
          have X4 := WS.fl (FL2 := (r :: u :: FL)) X0 (fun y hy => (List.mem_cons.mp hy).elim (fun q => q ▸ (mg 0 rfl)) (fun q0 => (List.mem_cons.mp q0).elim (fun q => q ▸ (mg 1 rfl)) (fun q1 => (List.mem_append_right [r, u] q1))))
          exact mid_223 cx p0 p1 p2 p3 p4 ca cb cc ([ca, cb, cc]) v9 v10 n kd r u zs (1 : Int32) hx hby hml hnm hret hlk (WS.mono X4 (nle rfl) (nle rfl)) K0 P0 (Or.inr (Or.inr (Or.inr rfl))) hDK (Or.inl ⟨rfl, (hz.resolve_right (fun q => q.1 (by rw [e2]; simp))).2⟩)
        · skip
          refine P.iload X0 hx 180 (hb hby at_178) rfl rfl ?_
          refine P.ifNo X0 hx 183 (hb hby at_180) (by decide) rfl ?_
          refine P.iload X0 hx 185 (hb hby at_183) rfl rfl ?_
          refine P.bipush X0 hx 187 58 (hb hby at_185) rfl rfl ?_
          refine P.icmpNo X0 hx 190 (hb hby at_187) (feq e0).1 rfl ?_
          refine P.iload X0 hx 192 (hb hby at_190) rfl rfl ?_
          refine P.iconst X0 hx 193 1 (hb hby at_192) rfl rfl ?_
          refine P.icmpNo X0 hx 196 (hb hby at_193) (by decide) rfl ?_
          refine P.iload X0 hx 198 (hb hby at_196) rfl rfl ?_
          refine P.bipush X0 hx 200 58 (hb hby at_198) rfl rfl ?_
          refine P.icmpNo X0 hx 203 (hb hby at_200) (feq e1).1 rfl ?_
          refine P.iload X0 hx 205 (hb hby at_203) rfl rfl ?_
          refine P.iconst X0 hx 206 2 (hb hby at_205) rfl rfl ?_
          refine P.icmpNo X0 hx 209 (hb hby at_206) (by decide) rfl ?_
          refine P.iload X0 hx 211 (hb hby at_209) rfl rfl ?_
          refine P.bipush X0 hx 213 58 (hb hby at_211) rfl rfl ?_
          refine P.icmpYes X0 hx 220 (hb hby at_213) (feq e2).2 (by decide) (by decide) ?_
          refine P.iconst X0 hx 221 0 (hb hby at_220) rfl rfl ?_
          refine P.istore X0 hx 223 #[.val (.int p0), .val (.int p1), .val (.int p2), .val (.int p3), .val (.int p4), .val (.int 3), .val (.int ca), .val (.int cb), .val (.int cc), .val v9, .val v10, .val (.int (Int32.ofNat n)), .val (.ref r), .val (.int 0), .unset, .unset, .unset, .unset, .unset] (hb hby at_221) rfl rfl ?_
          have X4 := WS.fl (FL2 := (r :: u :: FL)) X0 (fun y hy => (List.mem_cons.mp hy).elim (fun q => q ▸ (mg 0 rfl)) (fun q0 => (List.mem_cons.mp q0).elim (fun q => q ▸ (mg 1 rfl)) (fun q1 => (List.mem_append_right [r, u] q1))))
          exact mid_223 cx p0 p1 p2 p3 p4 ca cb cc ([ca, cb, cc]) v9 v10 n kd r u zs (0 : Int32) hx hby hml hnm hret hlk (WS.mono X4 (nle rfl) (nle rfl)) K0 P0 (Or.inr (Or.inr (Or.inr rfl))) hDK (Or.inr ⟨rfl, (hz.resolve_left (fun q => (nm3 e0 e1 e2) q.1)).2⟩)
theorem mid_155 (cx : Cx a0 Z gC gF v_DO k_DO v_DT k_DT) {p : Program} {e : Env} {s : State} {m : MethodId} {as' : Array Value} {below : List Frame} {meth : Method} {c : Code} {T0 : State} {h hm : Heap} {WL FL : List Addr} (p0 : Int32) (p1 : Int32) (p2 : Int32) (p3 : Int32) (p4 : Int32) (ca : Int32) (cb : Int32) (cc : Int32) (hs : List Int32) (v9 : Value) (g : Addr) (gu : Addr) (hx : p.tables.exec = Jvm.exec) (hby : c.code = code) (hml : c.maxLocals = maxLocals) (hnm : meth.name = (x).name) (hret : meth.sig.returnType = ret) (hlk : meth.locks = false) (X0 : WS p l e room_1 s m as' below meth c Z EL1 n0 (x).cls T0 hm WL (g :: gu :: FL) 8 60) (K0 : Keep h hm []) (P0 : StrL Z hm g gu hs) (hr_ca : ¬ ca < 0 ∧ ¬ (255 : Int32) < ca) (hr_cb : ¬ cb < 0 ∧ ¬ (255 : Int32) < cb) (hr_cc : ¬ cc < 0 ∧ ¬ (255 : Int32) < cc) (hsh : hs = [] ∨ hs = [ca] ∨ hs = [ca, cb] ∨ hs = [ca, cb, cc]) :
    Wo p e s below Z EL1 n0 WL FL room_1 (Q_law Z gC gF v_DO k_DO v_DT k_DT p0 p1 p2 p3 p4 h) T0 (mkF m 155 #[.val (.int p0), .val (.int p1), .val (.int p2), .val (.int p3), .val (.int p4), .val (.int (Int32.ofNat hs.length)), .val (.int ca), .val (.int cb), .val (.int cc), .val v9, .val (.ref g), .unset, .unset, .unset, .unset, .unset, .unset, .unset, .unset] []) := by
  obtain ⟨n, hn, en⟩ := port p4
  obtain ⟨kd, hDK⟩ := DKex hn
  refine P.iload X0 hx 157 (hb hby at_155) rfl rfl ?_
  refine WS.ldcI X0 hx (w22 cx) (hb hby at_157) ?_
  refine P.iand X0 hx 160 (z := (Int32.ofNat n)) (hb hby at_159) (en) rfl ?_
  refine P.istore X0 hx 162 #[.val (.int p0), .val (.int p1), .val (.int p2), .val (.int p3), .val (.int p4), .val (.int (Int32.ofNat hs.length)), .val (.int ca), .val (.int cb), .val (.int cc), .val v9, .val (.ref g), .val (.int (Int32.ofNat n)), .unset, .unset, .unset, .unset, .unset, .unset, .unset] (hb hby at_160) rfl rfl ?_
  refine X0.newO hx (w23 cx) (w24 cx) (w25 cx) (hb hby at_162) (nle rfl) (nle rfl) ?_
  intro T1 h1 a1 X1 E1 g1 A1 D1
  have ge2 : h.size ≤ a1 := Nat.le_trans K0.1 g1
  have K3 : Keep h h1 [] := K0.ext E1
  have D4 : Fld Z h1 a1 "com/example/need_to_know/needtoknow/ListenAddress" "host" "Ljava/lang/String;" .null := D1 (Or.inr (w31 cx)) (ty := (.object "java/lang/String")) (by decide)
  have D5 : Fld Z h1 a1 "com/example/need_to_know/needtoknow/ListenAddress" "port" "I" (.int 0) := D1 (Or.inr (w33 cx)) (ty := .int) (by decide)
  refine P.dup X1 hx 166 (hb hby at_165) rfl rfl ?_
  refine P.aload X1 hx 168 (hb hby at_166) rfl rfl rfl ?_
  refine P.iload X1 hx 170 (hb hby at_168) rfl rfl ?_
  refine X1.callC hx rfl (w26 cx) (w27 cx) (w28 cx) (by decide) (Ct.pay (W := 1) (ct_laini cx a1 g (Int32.ofNat n) h1 _ _ A1 D4 D5 (mg 0 rfl)) (w28 cx) (w25 cx) (nle rfl) (nle rfl)) (by rw [hml]; rfl) (argsL := [.ref g, .int (Int32.ofNat n)]) (rest := [.ref a1]) (lenOf pd29 rfl) rfl rfl (Nat.le_of_eq rfl) (hb hby at_170) (nle rfl) (nle rfl) ?_
  rintro T6 h6 _ _ _ X6 ⟨rfl, rfl, rfl, J6, G7, G8⟩
  have K9 : Keep h h6 [] := K3.trans J6 (allS (Or.inr ge2) all0)
  have F10 := A1.keep J6
  have F11 := (P0.ext E1).keep J6 (ninS (X6.neF (mg 0 rfl) (mg 0 rfl)) nin0) (ninS (X6.neF (mg 1 rfl) (mg 0 rfl)) nin0)
  refine X6.callV hx (w34 cx) (w35 cx) (w37 cx) (w36 cx) (fun _ hZ => nf hZ (w37 cx)) (by decide) F10 (Ct.pay (W := 0) (ct_tos cx a1 g gu n kd ca cb cc hs h6 _ _ F10 G7 G8 F11 (mg 0 rfl) (mg 0 rfl) (mg 1 rfl) hr_ca hr_cb hr_cc hsh hDK) (w38 cx) (w25 cx) (nle rfl) (nle rfl)) (by rw [hml]; rfl) (argsL := []) (rest := []) (lenOf pd20 rfl) rfl rfl (Nat.le_of_eq rfl) (hb hby at_173) (nle rfl) (nle rfl) ?_
  rintro T12 h12 _ _ _ X12 ⟨a13, a14, x15, rfl, rfl, rfl, J12, g18, G16, G17⟩
  have ge19 : h.size ≤ a13 := Nat.le_trans K9.1 g18
  have K20 : Keep h h12 [] := K9.trans J12 all0
  refine P.astore X12 hx 178 #[.val (.int p0), .val (.int p1), .val (.int p2), .val (.int p3), .val (.int p4), .val (.int (Int32.ofNat hs.length)), .val (.int ca), .val (.int cb), .val (.int cc), .val v9, .val (.ref g), .val (.int (Int32.ofNat n)), .val (.ref a13), .unset, .unset, .unset, .unset, .unset, .unset] (hb hby at_176) rfl rfl rfl ?_
  have X21 := WS.drop (A := []) (B := (a1 :: WL)) X12
  have X22 := WS.drop (A := []) (B := WL) X21
  have X23 := WS.fl (FL2 := (a13 :: a14 :: FL)) X22 (fun y hy => (List.mem_cons.mp hy).elim (fun q => q ▸ (mg 1 rfl)) (fun q0 => (List.mem_cons.mp q0).elim (fun q => q ▸ (mg 2 rfl)) (fun q1 => (List.mem_append_right [a1, a13, a14, g, gu] q1))))
  exact mid_178 cx p0 p1 p2 p3 p4 ca cb cc hs v9 (.ref g) n kd a13 a14 x15 hx hby hml hnm hret hlk (WS.mono X23 (nle rfl) (nle rfl)) K20 G16 hsh hDK G17
theorem mid_68 (cx : Cx a0 Z gC gF v_DO k_DO v_DT k_DT) {p : Program} {e : Env} {s : State} {m : MethodId} {as' : Array Value} {below : List Frame} {meth : Method} {c : Code} {T0 : State} {h hm : Heap} {WL FL : List Addr} (p0 : Int32) (p1 : Int32) (p2 : Int32) (p3 : Int32) (p4 : Int32) (n5 : Int32) (ca : Int32) (cb : Int32) (cc : Int32) (hx : p.tables.exec = Jvm.exec) (hby : c.code = code) (hml : c.maxLocals = maxLocals) (hnm : meth.name = (x).name) (hret : meth.sig.returnType = ret) (hlk : meth.locks = false) (X0 : WS p l e room_1 s m as' below meth c Z EL1 n0 (x).cls T0 hm WL FL 0 0) (K0 : Keep h hm []) (h5 : n5 = 0 ∨ n5 = 1 ∨ n5 = 2 ∨ n5 = 3) (hr_ca : ¬ ca < 0 ∧ ¬ (255 : Int32) < ca) (hr_cb : ¬ cb < 0 ∧ ¬ (255 : Int32) < cb) (hr_cc : ¬ cc < 0 ∧ ¬ (255 : Int32) < cc) :
    Wo p e s below Z EL1 n0 WL FL room_1 (Q_law Z gC gF v_DO k_DO v_DT k_DT p0 p1 p2 p3 p4 h) T0 (mkF m 68 #[.val (.int p0), .val (.int p1), .val (.int p2), .val (.int p3), .val (.int p4), .val (.int n5), .val (.int ca), .val (.int cb), .val (.int cc), .unset, .unset, .unset, .unset, .unset, .unset, .unset, .unset, .unset, .unset] []) := by
  rcases h5 with rfl | rfl | rfl | rfl
  · skip
    show Wo _ _ _ _ _ _ _ _ _ _ _ T0 (mkF m 68 #[.val (.int p0), .val (.int p1), .val (.int p2), .val (.int p3), .val (.int p4), .val (.int 0), .val (.int ca), .val (.int cb), .val (.int cc), .unset, .unset, .unset, .unset, .unset, .unset, .unset, .unset, .unset, .unset] [])
    refine P.iload X0 hx 70 (hb hby at_68) rfl rfl ?_
    refine P.ifNo X0 hx 73 (hb hby at_70) (by decide) rfl ?_
    refine P.iconst X0 hx 74 0 (hb hby at_73) rfl rfl ?_
    refine X0.newP (aty := .char) hx (w0 cx) (hb hby at_74) (by decide) (cap := 0) (nle rfl) (nle rfl) (nle rfl) (nle rfl) ?_
    intro T1 h1 a1 k1 X1 E1 g1 A1
    have ge2 : h.size ≤ a1 := Nat.le_trans K0.1 g1
    have K3 : Keep h h1 [] := K0.ext E1
    have V4 : Arv Z h1 a1 k1 .char (0 : Int32) [] (.int 0) := A1
    refine P.astore X1 hx 78 #[.val (.int p0), .val (.int p1), .val (.int p2), .val (.int p3), .val (.int p4), .val (.int 0), .val (.int ca), .val (.int cb), .val (.int cc), .val (.ref a1), .unset, .unset, .unset, .unset, .unset, .unset, .unset, .unset, .unset] (hb hby at_76) rfl rfl rfl ?_
    refine P.goto X1 hx 144 (hb hby at_78) (by decide) (by decide) ?_
    refine X1.newO hx (w1 cx) (w2 cx) (w3 cx) (hb hby at_144) (nle rfl) (nle rfl) ?_
    intro T5 h5 a5 X5 E5 g5 A5 D5
    have ge6 : h.size ≤ a5 := Nat.le_trans K3.1 g5
    have K7 : Keep h h5 [] := K3.ext E5
    have D8 : Fld Z h5 a5 "java/lang/String" "value" "[B" .null := D5 (Or.inr (w16 cx)) (ty := (.array .byte)) (by decide)
    have D9 : Fld Z h5 a5 "java/lang/String" "coder" "B" (.int 0) := D5 (Or.inr (w17 cx)) (ty := .byte) (by decide)
    refine P.dup X5 hx 148 (hb hby at_147) rfl rfl ?_
    refine P.aload X5 hx 150 (hb hby at_148) rfl rfl rfl ?_
    have F10 := V4.ext E5
    refine X5.callC hx rfl (w4 cx) (w5 cx) (w6 cx) (by decide) (Ct.pay (W := 1) (ct_s1e cx a5 a1 _ _ h5 _ _ A5 D8 D9 (mg 0 rfl) F10) (w6 cx) (w3 cx) (nle rfl) (nle rfl)) (by rw [hml]; rfl) (argsL := [.ref a1]) (rest := [.ref a5]) (lenOf pd30 rfl) rfl rfl (Nat.le_of_eq rfl) (hb hby at_150) (nle rfl) (nle rfl) ?_
    rintro T11 h11 _ _ _ X11 ⟨a12, rfl, rfl, rfl, J11, G13⟩
    have K14 : Keep h h11 [] := K7.trans J11 (allS (Or.inr ge6) all0)
    refine P.astore X11 hx 155 #[.val (.int p0), .val (.int p1), .val (.int p2), .val (.int p3), .val (.int p4), .val (.int 0), .val (.int ca), .val (.int cb), .val (.int cc), .val (.ref a1), .val (.ref a5), .unset, .unset, .unset, .unset, .unset, .unset, .unset, .unset] (hb hby at_153) rfl rfl rfl ?_
    have X15 := WS.drop (A := []) (B := (a1 :: WL)) X11
    have X16 := WS.drop (A := []) (B := WL) X15
    have X17 := WS.fl (FL2 := (a5 :: a12 :: FL)) X16 (fun y hy => (List.mem_cons.mp hy).elim (fun q => q ▸ (mg 1 rfl)) (fun q0 => (List.mem_cons.mp q0).elim (fun q => q ▸ (mg 2 rfl)) (fun q1 => (List.mem_append_right [a1, a5, a12] q1))))
    exact mid_155 cx p0 p1 p2 p3 p4 ca cb cc ([]) (.ref a1) a5 a12 hx hby hml hnm hret hlk (WS.mono X17 (nle rfl) (nle rfl)) K14 G13 hr_ca hr_cb hr_cc (Or.inl rfl)
  · skip
    show Wo _ _ _ _ _ _ _ _ _ _ _ T0 (mkF m 68 #[.val (.int p0), .val (.int p1), .val (.int p2), .val (.int p3), .val (.int p4), .val (.int 1), .val (.int ca), .val (.int cb), .val (.int cc), .unset, .unset, .unset, .unset, .unset, .unset, .unset, .unset, .unset, .unset] [])
    refine P.iload X0 hx 70 (hb hby at_68) rfl rfl ?_
    refine P.ifYes X0 hx 81 (hb hby at_70) (by decide) (by decide) (by decide) ?_
    refine P.iload X0 hx 83 (hb hby at_81) rfl rfl ?_
    refine P.iconst X0 hx 84 1 (hb hby at_83) rfl rfl ?_
    refine P.icmpNo X0 hx 87 (hb hby at_84) (by decide) rfl ?_
    refine P.iconst X0 hx 88 1 (hb hby at_87) rfl rfl ?_
    refine X0.newP (aty := .char) hx (w0 cx) (hb hby at_88) (by decide) (cap := 1) (nle rfl) (nle rfl) (nle rfl) (nle rfl) ?_
    intro T18 h18 a18 k18 X18 E18 g18 A18
    have ge19 : h.size ≤ a18 := Nat.le_trans K0.1 g18
    have K20 : Keep h h18 [] := K0.ext E18
    have V21 : Arv Z h18 a18 k18 .char (1 : Int32) [(.int 0)] (.int 0) := Arv.pad A18 (pad_rep [] _ 1)
    refine P.dup X18 hx 91 (hb hby at_90) rfl rfl ?_
    refine P.iconst X18 hx 92 0 (hb hby at_91) rfl rfl ?_
    refine P.iload X18 hx 94 (hb hby at_92) rfl rfl ?_
    refine X18.stC hx V21 (j := (0 : Int32)) (x := ca) (i := 0) (by decide) rfl (nlt rfl) (mg 0 rfl) (hb hby at_94) ?_
    intro T22 h22 X22 W22 G22
    have K23 : Keep h h22 [] := K20.wr W22 (Or.inr ge19)
    have V24 : Arv Z h22 a18 k18 .char (1 : Int32) [(.int ca)] (.int 0) := by have q := G22; rw [narR hr_ca] at q; exact q
    refine P.astore X22 hx 97 #[.val (.int p0), .val (.int p1), .val (.int p2), .val (.int p3), .val (.int p4), .val (.int 1), .val (.int ca), .val (.int cb), .val (.int cc), .val (.ref a18), .unset, .unset, .unset, .unset, .unset, .unset, .unset, .unset, .unset] (hb hby at_95) rfl rfl rfl ?_
    refine P.goto X22 hx 144 (hb hby at_97) (by decide) (by decide) ?_
    refine X22.newO hx (w1 cx) (w2 cx) (w3 cx) (hb hby at_144) (nle rfl) (nle rfl) ?_
    intro T25 h25 a25 X25 E25 g25 A25 D25
    have ge26 : h.size ≤ a25 := Nat.le_trans K23.1 g25
    have K27 : Keep h h25 [] := K23.ext E25
    have D28 : Fld Z h25 a25 "java/lang/String" "value" "[B" .null := D25 (Or.inr (w16 cx)) (ty := (.array .byte)) (by decide)
    have D29 : Fld Z h25 a25 "java/lang/String" "coder" "B" (.int 0) := D25 (Or.inr (w17 cx)) (ty := .byte) (by decide)
    refine P.dup X25 hx 148 (hb hby at_147) rfl rfl ?_
    refine P.aload X25 hx 150 (hb hby at_148) rfl rfl rfl ?_
    have F30 := V24.ext E25
    refine X25.callC hx rfl (w4 cx) (w5 cx) (w6 cx) (by decide) (pay_new (W := 1) (hws cx) (w2 cx) (cs := [ca]) (n := 1) (X25.ge (mg 0 rfl)) X25.n0le (mg 0 rfl) A25 D28 D29 F30 (X25.sta (S_C cx)) (N_C cx) rfl rfl (nle rfl) (nle rfl) (fcS hr_ca fc0) (nle rfl) (nle rfl)) (by rw [hml]; rfl) (argsL := [.ref a18]) (rest := [.ref a25]) (lenOf pd30 rfl) rfl rfl (Nat.le_of_eq rfl) (hb hby at_150) (nle rfl) (nle rfl) ?_
    rintro T31 h31 _ _ _ X31 ⟨a32, rfl, rfl, rfl, J31, G33⟩
    have K34 : Keep h h31 [] := K27.trans J31 (allS (Or.inr ge26) all0)
    refine P.astore X31 hx 155 #[.val (.int p0), .val (.int p1), .val (.int p2), .val (.int p3), .val (.int p4), .val (.int 1), .val (.int ca), .val (.int cb), .val (.int cc), .val (.ref a18), .val (.ref a25), .unset, .unset, .unset, .unset, .unset, .unset, .unset, .unset] (hb hby at_153) rfl rfl rfl ?_
    have X35 := WS.drop (A := []) (B := (a18 :: WL)) X31
    have X36 := WS.drop (A := []) (B := WL) X35
    have X37 := WS.fl (FL2 := (a25 :: a32 :: FL)) X36 (fun y hy => (List.mem_cons.mp hy).elim (fun q => q ▸ (mg 1 rfl)) (fun q0 => (List.mem_cons.mp q0).elim (fun q => q ▸ (mg 2 rfl)) (fun q1 => (List.mem_append_right [a18, a25, a32] q1))))
    exact mid_155 cx p0 p1 p2 p3 p4 ca cb cc ([ca]) (.ref a18) a25 a32 hx hby hml hnm hret hlk (WS.mono X37 (nle rfl) (nle rfl)) K34 G33 hr_ca hr_cb hr_cc (Or.inr (Or.inl rfl))
  · skip
    show Wo _ _ _ _ _ _ _ _ _ _ _ T0 (mkF m 68 #[.val (.int p0), .val (.int p1), .val (.int p2), .val (.int p3), .val (.int p4), .val (.int 2), .val (.int ca), .val (.int cb), .val (.int cc), .unset, .unset, .unset, .unset, .unset, .unset, .unset, .unset, .unset, .unset] [])
    refine P.iload X0 hx 70 (hb hby at_68) rfl rfl ?_
    refine P.ifYes X0 hx 81 (hb hby at_70) (by decide) (by decide) (by decide) ?_
    refine P.iload X0 hx 83 (hb hby at_81) rfl rfl ?_
    refine P.iconst X0 hx 84 1 (hb hby at_83) rfl rfl ?_
    refine P.icmpYes X0 hx 100 (hb hby at_84) (by decide) (by decide) (by decide) ?_
    refine P.iload X0 hx 102 (hb hby at_100) rfl rfl ?_
    refine P.iconst X0 hx 103 2 (hb hby at_102) rfl rfl ?_
    refine P.icmpNo X0 hx 106 (hb hby at_103) (by decide) rfl ?_
    refine P.iconst X0 hx 107 2 (hb hby at_106) rfl rfl ?_
    refine X0.newP (aty := .char) hx (w0 cx) (hb hby at_107) (by decide) (cap := 2) (nle rfl) (nle rfl) (nle rfl) (nle rfl) ?_
    intro T38 h38 a38 k38 X38 E38 g38 A38
    have ge39 : h.size ≤ a38 := Nat.le_trans K0.1 g38
    have K40 : Keep h h38 [] := K0.ext E38
    have V41 : Arv Z h38 a38 k38 .char (2 : Int32) [(.int 0), (.int 0)] (.int 0) := Arv.pad A38 (pad_rep [] _ 2)
    refine P.dup X38 hx 110 (hb hby at_109) rfl rfl ?_
    refine P.iconst X38 hx 111 0 (hb hby at_110) rfl rfl ?_
    refine P.iload X38 hx 113 (hb hby at_111) rfl rfl ?_
    refine X38.stC hx V41 (j := (0 : Int32)) (x := ca) (i := 0) (by decide) rfl (nlt rfl) (mg 0 rfl) (hb hby at_113) ?_
    intro T42 h42 X42 W42 G42
    have K43 : Keep h h42 [] := K40.wr W42 (Or.inr ge39)
    have V44 : Arv Z h42 a38 k38 .char (2 : Int32) [(.int ca), (.int 0)] (.int 0) := by have q := G42; rw [narR hr_ca] at q; exact q
    refine P.dup X42 hx 115 (hb hby at_114) rfl rfl ?_
    refine P.iconst X42 hx 116 1 (hb hby at_115) rfl rfl ?_
    refine P.iload X42 hx 118 (hb hby at_116) rfl rfl ?_
    refine X42.stC hx V44 (j := (1 : Int32)) (x := cb) (i := 1) (by decide) rfl (nlt rfl) (mg 0 rfl) (hb hby at_118) ?_
    intro T45 h45 X45 W45 G45
    have K46 : Keep h h45 [] := K43.wr W45 (Or.inr ge39)
    have V47 : Arv Z h45 a38 k38 .char (2 : Int32) [(.int ca), (.int cb)] (.int 0) := by have q := G45; rw [narR hr_cb] at q; exact q
    refine P.astore X45 hx 121 #[.val (.int p0), .val (.int p1), .val (.int p2), .val (.int p3), .val (.int p4), .val (.int 2), .val (.int ca), .val (.int cb), .val (.int cc), .val (.ref a38), .unset, .unset, .unset, .unset, .unset, .unset, .unset, .unset, .unset] (hb hby at_119) rfl rfl rfl ?_
    refine P.goto X45 hx 144 (hb hby at_121) (by decide) (by decide) ?_
    refine X45.newO hx (w1 cx) (w2 cx) (w3 cx) (hb hby at_144) (nle rfl) (nle rfl) ?_
    intro T48 h48 a48 X48 E48 g48 A48 D48
    have ge49 : h.size ≤ a48 := Nat.le_trans K46.1 g48
    have K50 : Keep h h48 [] := K46.ext E48
    have D51 : Fld Z h48 a48 "java/lang/String" "value" "[B" .null := D48 (Or.inr (w16 cx)) (ty := (.array .byte)) (by decide)
    have D52 : Fld Z h48 a48 "java/lang/String" "coder" "B" (.int 0) := D48 (Or.inr (w17 cx)) (ty := .byte) (by decide)
    refine P.dup X48 hx 148 (hb hby at_147) rfl rfl ?_
    refine P.aload X48 hx 150 (hb hby at_148) rfl rfl rfl ?_
    have F53 := V47.ext E48
    refine X48.callC hx rfl (w4 cx) (w5 cx) (w6 cx) (by decide) (pay_new (W := 1) (hws cx) (w2 cx) (cs := [ca, cb]) (n := 2) (X48.ge (mg 0 rfl)) X48.n0le (mg 0 rfl) A48 D51 D52 F53 (X48.sta (S_C cx)) (N_C cx) rfl rfl (nle rfl) (nle rfl) (fcS hr_ca (fcS hr_cb fc0)) (nle rfl) (nle rfl)) (by rw [hml]; rfl) (argsL := [.ref a38]) (rest := [.ref a48]) (lenOf pd30 rfl) rfl rfl (Nat.le_of_eq rfl) (hb hby at_150) (nle rfl) (nle rfl) ?_
    rintro T54 h54 _ _ _ X54 ⟨a55, rfl, rfl, rfl, J54, G56⟩
    have K57 : Keep h h54 [] := K50.trans J54 (allS (Or.inr ge49) all0)
    refine P.astore X54 hx 155 #[.val (.int p0), .val (.int p1), .val (.int p2), .val (.int p3), .val (.int p4), .val (.int 2), .val (.int ca), .val (.int cb), .val (.int cc), .val (.ref a38), .val (.ref a48), .unset, .unset, .unset, .unset, .unset, .unset, .unset, .unset] (hb hby at_153) rfl rfl rfl ?_
    have X58 := WS.drop (A := []) (B := (a38 :: WL)) X54
    have X59 := WS.drop (A := []) (B := WL) X58
    have X60 := WS.fl (FL2 := (a48 :: a55 :: FL)) X59 (fun y hy => (List.mem_cons.mp hy).elim (fun q => q ▸ (mg 1 rfl)) (fun q0 => (List.mem_cons.mp q0).elim (fun q => q ▸ (mg 2 rfl)) (fun q1 => (List.mem_append_right [a38, a48, a55] q1))))
    exact mid_155 cx p0 p1 p2 p3 p4 ca cb cc ([ca, cb]) (.ref a38) a48 a55 hx hby hml hnm hret hlk (WS.mono X60 (nle rfl) (nle rfl)) K57 G56 hr_ca hr_cb hr_cc (Or.inr (Or.inr (Or.inl rfl)))
  · skip
    show Wo _ _ _ _ _ _ _ _ _ _ _ T0 (mkF m 68 #[.val (.int p0), .val (.int p1), .val (.int p2), .val (.int p3), .val (.int p4), .val (.int 3), .val (.int ca), .val (.int cb), .val (.int cc), .unset, .unset, .unset, .unset, .unset, .unset, .unset, .unset, .unset, .unset] [])
    refine P.iload X0 hx 70 (hb hby at_68) rfl rfl ?_
    refine P.ifYes X0 hx 81 (hb hby at_70) (by decide) (by decide) (by decide) ?_
    refine P.iload X0 hx 83 (hb hby at_81) rfl rfl ?_
    refine P.iconst X0 hx 84 1 (hb hby at_83) rfl rfl ?_
    refine P.icmpYes X0 hx 100 (hb hby at_84) (by decide) (by decide) (by decide) ?_
    refine P.iload X0 hx 102 (hb hby at_100) rfl rfl ?_
    refine P.iconst X0 hx 103 2 (hb hby at_102) rfl rfl ?_
    refine P.icmpYes X0 hx 124 (hb hby at_103) (by decide) (by decide) (by decide) ?_
    refine P.iconst X0 hx 125 3 (hb hby at_124) rfl rfl ?_
    refine X0.newP (aty := .char) hx (w0 cx) (hb hby at_125) (by decide) (cap := 3) (nle rfl) (nle rfl) (nle rfl) (nle rfl) ?_
    intro T61 h61 a61 k61 X61 E61 g61 A61
    have ge62 : h.size ≤ a61 := Nat.le_trans K0.1 g61
    have K63 : Keep h h61 [] := K0.ext E61
    have V64 : Arv Z h61 a61 k61 .char (3 : Int32) [(.int 0), (.int 0), (.int 0)] (.int 0) := Arv.pad A61 (pad_rep [] _ 3)
    refine P.dup X61 hx 128 (hb hby at_127) rfl rfl ?_
    refine P.iconst X61 hx 129 0 (hb hby at_128) rfl rfl ?_
    refine P.iload X61 hx 131 (hb hby at_129) rfl rfl ?_
    refine X61.stC hx V64 (j := (0 : Int32)) (x := ca) (i := 0) (by decide) rfl (nlt rfl) (mg 0 rfl) (hb hby at_131) ?_
    intro T65 h65 X65 W65 G65
    have K66 : Keep h h65 [] := K63.wr W65 (Or.inr ge62)
    have V67 : Arv Z h65 a61 k61 .char (3 : Int32) [(.int ca), (.int 0), (.int 0)] (.int 0) := by have q := G65; rw [narR hr_ca] at q; exact q
    refine P.dup X65 hx 133 (hb hby at_132) rfl rfl ?_
    refine P.iconst X65 hx 134 1 (hb hby at_133) rfl rfl ?_
    refine P.iload X65 hx 136 (hb hby at_134) rfl rfl ?_
    refine X65.stC hx V67 (j := (1 : Int32)) (x := cb) (i := 1) (by decide) rfl (nlt rfl) (mg 0 rfl) (hb hby at_136) ?_
    intro T68 h68 X68 W68 G68
    have K69 : Keep h h68 [] := K66.wr W68 (Or.inr ge62)
    have V70 : Arv Z h68 a61 k61 .char (3 : Int32) [(.int ca), (.int cb), (.int 0)] (.int 0) := by have q := G68; rw [narR hr_cb] at q; exact q
    refine P.dup X68 hx 138 (hb hby at_137) rfl rfl ?_
    refine P.iconst X68 hx 139 2 (hb hby at_138) rfl rfl ?_
    refine P.iload X68 hx 141 (hb hby at_139) rfl rfl ?_
    refine X68.stC hx V70 (j := (2 : Int32)) (x := cc) (i := 2) (by decide) rfl (nlt rfl) (mg 0 rfl) (hb hby at_141) ?_
    intro T71 h71 X71 W71 G71
    have K72 : Keep h h71 [] := K69.wr W71 (Or.inr ge62)
    have V73 : Arv Z h71 a61 k61 .char (3 : Int32) [(.int ca), (.int cb), (.int cc)] (.int 0) := by have q := G71; rw [narR hr_cc] at q; exact q
    refine P.astore X71 hx 144 #[.val (.int p0), .val (.int p1), .val (.int p2), .val (.int p3), .val (.int p4), .val (.int 3), .val (.int ca), .val (.int cb), .val (.int cc), .val (.ref a61), .unset, .unset, .unset, .unset, .unset, .unset, .unset, .unset, .unset] (hb hby at_142) rfl rfl rfl ?_
    refine X71.newO hx (w1 cx) (w2 cx) (w3 cx) (hb hby at_144) (nle rfl) (nle rfl) ?_
    intro T74 h74 a74 X74 E74 g74 A74 D74
    have ge75 : h.size ≤ a74 := Nat.le_trans K72.1 g74
    have K76 : Keep h h74 [] := K72.ext E74
    have D77 : Fld Z h74 a74 "java/lang/String" "value" "[B" .null := D74 (Or.inr (w16 cx)) (ty := (.array .byte)) (by decide)
    have D78 : Fld Z h74 a74 "java/lang/String" "coder" "B" (.int 0) := D74 (Or.inr (w17 cx)) (ty := .byte) (by decide)
    refine P.dup X74 hx 148 (hb hby at_147) rfl rfl ?_
    refine P.aload X74 hx 150 (hb hby at_148) rfl rfl rfl ?_
    have F79 := V73.ext E74
    refine X74.callC hx rfl (w4 cx) (w5 cx) (w6 cx) (by decide) (pay_new (W := 1) (hws cx) (w2 cx) (cs := [ca, cb, cc]) (n := 3) (X74.ge (mg 0 rfl)) X74.n0le (mg 0 rfl) A74 D77 D78 F79 (X74.sta (S_C cx)) (N_C cx) rfl rfl (nle rfl) (nle rfl) (fcS hr_ca (fcS hr_cb (fcS hr_cc fc0))) (nle rfl) (nle rfl)) (by rw [hml]; rfl) (argsL := [.ref a61]) (rest := [.ref a74]) (lenOf pd30 rfl) rfl rfl (Nat.le_of_eq rfl) (hb hby at_150) (nle rfl) (nle rfl) ?_
    rintro T80 h80 _ _ _ X80 ⟨a81, rfl, rfl, rfl, J80, G82⟩
    have K83 : Keep h h80 [] := K76.trans J80 (allS (Or.inr ge75) all0)
    refine P.astore X80 hx 155 #[.val (.int p0), .val (.int p1), .val (.int p2), .val (.int p3), .val (.int p4), .val (.int 3), .val (.int ca), .val (.int cb), .val (.int cc), .val (.ref a61), .val (.ref a74), .unset, .unset, .unset, .unset, .unset, .unset, .unset, .unset] (hb hby at_153) rfl rfl rfl ?_
    have X84 := WS.drop (A := []) (B := (a61 :: WL)) X80
    have X85 := WS.drop (A := []) (B := WL) X84
    have X86 := WS.fl (FL2 := (a74 :: a81 :: FL)) X85 (fun y hy => (List.mem_cons.mp hy).elim (fun q => q ▸ (mg 1 rfl)) (fun q0 => (List.mem_cons.mp q0).elim (fun q => q ▸ (mg 2 rfl)) (fun q1 => (List.mem_append_right [a61, a74, a81] q1))))
    exact mid_155 cx p0 p1 p2 p3 p4 ca cb cc ([ca, cb, cc]) (.ref a61) a74 a81 hx hby hml hnm hret hlk (WS.mono X86 (nle rfl) (nle rfl)) K83 G82 hr_ca hr_cb hr_cc (Or.inr (Or.inr (Or.inr rfl)))
theorem mid_47 (cx : Cx a0 Z gC gF v_DO k_DO v_DT k_DT) {p : Program} {e : Env} {s : State} {m : MethodId} {as' : Array Value} {below : List Frame} {meth : Method} {c : Code} {T0 : State} {h hm : Heap} {WL FL : List Addr} (p0 : Int32) (p1 : Int32) (p2 : Int32) (p3 : Int32) (p4 : Int32) (n5 : Int32) (ca : Int32) (cb : Int32) (hx : p.tables.exec = Jvm.exec) (hby : c.code = code) (hml : c.maxLocals = maxLocals) (hnm : meth.name = (x).name) (hret : meth.sig.returnType = ret) (hlk : meth.locks = false) (X0 : WS p l e room_1 s m as' below meth c Z EL1 n0 (x).cls T0 hm WL FL 0 0) (K0 : Keep h hm []) (h5 : n5 = 0 ∨ n5 = 1 ∨ n5 = 2 ∨ n5 = 3) (hr_ca : ¬ ca < 0 ∧ ¬ (255 : Int32) < ca) (hr_cb : ¬ cb < 0 ∧ ¬ (255 : Int32) < cb) :
    Wo p e s below Z EL1 n0 WL FL room_1 (Q_law Z gC gF v_DO k_DO v_DT k_DT p0 p1 p2 p3 p4 h) T0 (mkF m 47 #[.val (.int p0), .val (.int p1), .val (.int p2), .val (.int p3), .val (.int p4), .val (.int n5), .val (.int ca), .val (.int cb), .unset, .unset, .unset, .unset, .unset, .unset, .unset, .unset, .unset, .unset, .unset] []) := by
  by_cases eb : (p3 &&& (256 : Int32)) = (0 : Int32)
  · skip
    refine P.iloadN X0 hx 48 (hb hby at_47) rfl rfl ?_
    refine P.sipush X0 hx 51 256 (hb hby at_48) rfl rfl ?_
    refine P.iand X0 hx 52 (z := (p3 &&& (256 : Int32))) (hb hby at_51) rfl rfl ?_
    refine P.ifYes X0 hx 60 (hb hby at_52) ((if0 _ _).trans (teq eb).1) (by decide) (by decide) ?_
    refine P.iloadN X0 hx 61 (hb hby at_60) rfl rfl ?_
    refine P.sipush X0 hx 64 255 (hb hby at_61) rfl rfl ?_
    refine P.iand X0 hx 65 (z := (p3 &&& (255 : Int32))) (hb hby at_64) rfl rfl ?_
    refine P.i2c X0 hx 66 (z := (p3 &&& (255 : Int32))) (hb hby at_65) (by rw [i2c_mask]) rfl ?_
    refine P.istore X0 hx 68 #[.val (.int p0), .val (.int p1), .val (.int p2), .val (.int p3), .val (.int p4), .val (.int n5), .val (.int ca), .val (.int cb), .val (.int (p3 &&& (255 : Int32))), .unset, .unset, .unset, .unset, .unset, .unset, .unset, .unset, .unset, .unset] (hb hby at_66) rfl rfl ?_
    have X1 := WS.fl (FL2 := FL) X0 (fun y hy => hy)
    exact mid_68 cx p0 p1 p2 p3 p4 n5 ca cb (p3 &&& (255 : Int32)) hx hby hml hnm hret hlk (WS.mono X1 (nle rfl) (nle rfl)) K0 h5 hr_ca hr_cb (rng255 _)
  · skip
    refine P.iloadN X0 hx 48 (hb hby at_47) rfl rfl ?_
    refine P.sipush X0 hx 51 256 (hb hby at_48) rfl rfl ?_
    refine P.iand X0 hx 52 (z := (p3 &&& (256 : Int32))) (hb hby at_51) rfl rfl ?_
    refine P.ifNo X0 hx 55 (hb hby at_52) ((if0 _ _).trans (feq eb).1) rfl ?_
    refine P.bipush X0 hx 57 58 (hb hby at_55) rfl rfl ?_
    refine P.goto X0 hx 66 (hb hby at_57) (by decide) (by decide) ?_
    refine P.istore X0 hx 68 #[.val (.int p0), .val (.int p1), .val (.int p2), .val (.int p3), .val (.int p4), .val (.int n5), .val (.int ca), .val (.int cb), .val (.int 58), .unset, .unset, .unset, .unset, .unset, .unset, .unset, .unset, .unset, .unset] (hb hby at_66) rfl rfl ?_
    have X2 := WS.fl (FL2 := FL) X0 (fun y hy => hy)
    exact mid_68 cx p0 p1 p2 p3 p4 n5 ca cb (58 : Int32) hx hby hml hnm hret hlk (WS.mono X2 (nle rfl) (nle rfl)) K0 h5 hr_ca hr_cb (by decide)
theorem mid_26 (cx : Cx a0 Z gC gF v_DO k_DO v_DT k_DT) {p : Program} {e : Env} {s : State} {m : MethodId} {as' : Array Value} {below : List Frame} {meth : Method} {c : Code} {T0 : State} {h hm : Heap} {WL FL : List Addr} (p0 : Int32) (p1 : Int32) (p2 : Int32) (p3 : Int32) (p4 : Int32) (n5 : Int32) (ca : Int32) (hx : p.tables.exec = Jvm.exec) (hby : c.code = code) (hml : c.maxLocals = maxLocals) (hnm : meth.name = (x).name) (hret : meth.sig.returnType = ret) (hlk : meth.locks = false) (X0 : WS p l e room_1 s m as' below meth c Z EL1 n0 (x).cls T0 hm WL FL 0 0) (K0 : Keep h hm []) (h5 : n5 = 0 ∨ n5 = 1 ∨ n5 = 2 ∨ n5 = 3) (hr_ca : ¬ ca < 0 ∧ ¬ (255 : Int32) < ca) :
    Wo p e s below Z EL1 n0 WL FL room_1 (Q_law Z gC gF v_DO k_DO v_DT k_DT p0 p1 p2 p3 p4 h) T0 (mkF m 26 #[.val (.int p0), .val (.int p1), .val (.int p2), .val (.int p3), .val (.int p4), .val (.int n5), .val (.int ca), .unset, .unset, .unset, .unset, .unset, .unset, .unset, .unset, .unset, .unset, .unset, .unset] []) := by
  by_cases eb : (p2 &&& (256 : Int32)) = (0 : Int32)
  · skip
    refine P.iloadN X0 hx 27 (hb hby at_26) rfl rfl ?_
    refine P.sipush X0 hx 30 256 (hb hby at_27) rfl rfl ?_
    refine P.iand X0 hx 31 (z := (p2 &&& (256 : Int32))) (hb hby at_30) rfl rfl ?_
    refine P.ifYes X0 hx 39 (hb hby at_31) ((if0 _ _).trans (teq eb).1) (by decide) (by decide) ?_
    refine P.iloadN X0 hx 40 (hb hby at_39) rfl rfl ?_
    refine P.sipush X0 hx 43 255 (hb hby at_40) rfl rfl ?_
    refine P.iand X0 hx 44 (z := (p2 &&& (255 : Int32))) (hb hby at_43) rfl rfl ?_
    refine P.i2c X0 hx 45 (z := (p2 &&& (255 : Int32))) (hb hby at_44) (by rw [i2c_mask]) rfl ?_
    refine P.istore X0 hx 47 #[.val (.int p0), .val (.int p1), .val (.int p2), .val (.int p3), .val (.int p4), .val (.int n5), .val (.int ca), .val (.int (p2 &&& (255 : Int32))), .unset, .unset, .unset, .unset, .unset, .unset, .unset, .unset, .unset, .unset, .unset] (hb hby at_45) rfl rfl ?_
    have X1 := WS.fl (FL2 := FL) X0 (fun y hy => hy)
    exact mid_47 cx p0 p1 p2 p3 p4 n5 ca (p2 &&& (255 : Int32)) hx hby hml hnm hret hlk (WS.mono X1 (nle rfl) (nle rfl)) K0 h5 hr_ca (rng255 _)
  · skip
    refine P.iloadN X0 hx 27 (hb hby at_26) rfl rfl ?_
    refine P.sipush X0 hx 30 256 (hb hby at_27) rfl rfl ?_
    refine P.iand X0 hx 31 (z := (p2 &&& (256 : Int32))) (hb hby at_30) rfl rfl ?_
    refine P.ifNo X0 hx 34 (hb hby at_31) ((if0 _ _).trans (feq eb).1) rfl ?_
    refine P.bipush X0 hx 36 58 (hb hby at_34) rfl rfl ?_
    refine P.goto X0 hx 45 (hb hby at_36) (by decide) (by decide) ?_
    refine P.istore X0 hx 47 #[.val (.int p0), .val (.int p1), .val (.int p2), .val (.int p3), .val (.int p4), .val (.int n5), .val (.int ca), .val (.int 58), .unset, .unset, .unset, .unset, .unset, .unset, .unset, .unset, .unset, .unset, .unset] (hb hby at_45) rfl rfl ?_
    have X2 := WS.fl (FL2 := FL) X0 (fun y hy => hy)
    exact mid_47 cx p0 p1 p2 p3 p4 n5 ca (58 : Int32) hx hby hml hnm hret hlk (WS.mono X2 (nle rfl) (nle rfl)) K0 h5 hr_ca (by decide)
theorem ct_law (cx : Cx a0 Z gC gF v_DO k_DO v_DT k_DT) (p0 : Int32) (p1 : Int32) (p2 : Int32) (p3 : Int32) (p4 : Int32) (h : Heap) (WL FL : List Addr)  :
    Ct l Z EL1 n0 x code maxLocals ret room_1 #[(.int p0), (.int p1), (.int p2), (.int p3), (.int p4)] h WL FL (Q_law Z gC gF v_DO k_DO v_DT k_DT p0 p1 p2 p3 p4 h) := by
  refine Ct.of (plainFor_of_name pn7) ?_
  intro p e s m below meth c s1 hx hby hml hnm hret hlk X0
  refine Wo.cast (f' := (mkF m 0 #[.val (.int p0), .val (.int p1), .val (.int p2), .val (.int p3), .val (.int p4), .unset, .unset, .unset, .unset, .unset, .unset, .unset, .unset, .unset, .unset, .unset, .unset, .unset, .unset] [])) (by first | (simp [entryFrame, mkF, argsToLocals, Value.category, maxLocals]; done) | rfl) ?_
  have K0 : Keep h h [] := Keep.refl _ _
  show Wo _ _ _ _ _ _ _ _ _ _ _ s1 (mkF m 0 #[.val (.int p0), .val (.int p1), .val (.int p2), .val (.int p3), .val (.int p4), .unset, .unset, .unset, .unset, .unset, .unset, .unset, .unset, .unset, .unset, .unset, .unset, .unset, .unset] [])
  refine P.iloadN X0 hx 1 (hb hby at_0) rfl rfl ?_
  refine P.iconst X0 hx 2 3 (hb hby at_1) rfl rfl ?_
  refine P.iand X0 hx 3 (z := (p0 &&& (3 : Int32))) (hb hby at_2) rfl rfl ?_
  refine P.istore X0 hx 5 #[.val (.int p0), .val (.int p1), .val (.int p2), .val (.int p3), .val (.int p4), .val (.int (p0 &&& (3 : Int32))), .unset, .unset, .unset, .unset, .unset, .unset, .unset, .unset, .unset, .unset, .unset, .unset, .unset] (hb hby at_3) rfl rfl ?_
  refine P.iloadN X0 hx 6 (hb hby at_5) rfl rfl ?_
  refine P.sipush X0 hx 9 256 (hb hby at_6) rfl rfl ?_
  refine P.iand X0 hx 10 (z := (p1 &&& (256 : Int32))) (hb hby at_9) rfl rfl ?_
  by_cases eb : (p1 &&& (256 : Int32)) = (0 : Int32)
  · skip
    refine P.ifYes X0 hx 18 (hb hby at_10) ((if0 _ _).trans (teq eb).1) (by decide) (by decide) ?_
    refine P.iloadN X0 hx 19 (hb hby at_18) rfl rfl ?_
    refine P.sipush X0 hx 22 255 (hb hby at_19) rfl rfl ?_
    refine P.iand X0 hx 23 (z := (p1 &&& (255 : Int32))) (hb hby at_22) rfl rfl ?_
    refine P.i2c X0 hx 24 (z := (p1 &&& (255 : Int32))) (hb hby at_23) (by rw [i2c_mask]) rfl ?_
    refine P.istore X0 hx 26 #[.val (.int p0), .val (.int p1), .val (.int p2), .val (.int p3), .val (.int p4), .val (.int (p0 &&& (3 : Int32))), .val (.int (p1 &&& (255 : Int32))), .unset, .unset, .unset, .unset, .unset, .unset, .unset, .unset, .unset, .unset, .unset, .unset] (hb hby at_24) rfl rfl ?_
    have X1 := WS.fl (FL2 := FL) X0 (fun y hy => hy)
    exact mid_26 cx p0 p1 p2 p3 p4 (p0 &&& (3 : Int32)) (p1 &&& (255 : Int32)) hx hby hml hnm hret hlk (WS.mono X1 (nle rfl) (nle rfl)) K0 (and3 p0) (rng255 _)
  · skip
    refine P.ifNo X0 hx 13 (hb hby at_10) ((if0 _ _).trans (feq eb).1) rfl ?_
    refine P.bipush X0 hx 15 58 (hb hby at_13) rfl rfl ?_
    refine P.goto X0 hx 24 (hb hby at_15) (by decide) (by decide) ?_
    refine P.istore X0 hx 26 #[.val (.int p0), .val (.int p1), .val (.int p2), .val (.int p3), .val (.int p4), .val (.int (p0 &&& (3 : Int32))), .val (.int 58), .unset, .unset, .unset, .unset, .unset, .unset, .unset, .unset, .unset, .unset, .unset, .unset] (hb hby at_24) rfl rfl ?_
    have X2 := WS.fl (FL2 := FL) X0 (fun y hy => hy)
    exact mid_26 cx p0 p1 p2 p3 p4 (p0 &&& (3 : Int32)) (58 : Int32) hx hby hml hnm hret hlk (WS.mono X2 (nle rfl) (nle rfl)) K0 (and3 p0) (by decide)
end Cts

set_option maxRecDepth 65536 in
set_option maxHeartbeats 4000000 in
theorem comes_1 {Post : Tables → Env → Array Value → State → Outcome → State → Prop} (hpost : ∀ tb e args s v u, (limb_1_1.after args s (.returned v) u = true ∧ limb_1_2.after args s (.returned v) u = true ∧ True) → Jvm.Pilot.@@N@@.Jvm.D.FramedW s (.returned v) u (Jvm.fieldLocs frame_1_writes args s ++ Jvm.arrayLocs frame_1_arrays args s ++ Jvm.staticLocs frame_1_statics s) 40 4352 → Post tb e args s (.returned v) u) :
    ArmFor flags0 classFile x code maxLocals ret World_1 tables_1 room_1 Calls_1 rest_1 Pre_1 Post := by
  intro l hfl _ _ p e ha hc hk s m args below hf hA hF happ hP
  obtain ⟨hcalls, hrest, hpre⟩ := hP
  obtain ⟨-, -, -, hnamed, -, -, -, hat⟩ := (Spec.applies_iff hf).mp happ
  obtain ⟨hg, hn⟩ := and_e (Cond.before_iff.mp (show (Jvm.Cond.and given_1 narrow_1).before args s = true from hpre))
  obtain ⟨h1, g0⟩ := and_e hg
  obtain ⟨b0, g1⟩ := and_e g0
  obtain ⟨b1, g2⟩ := and_e g1
  obtain ⟨b2, g3⟩ := and_e g2
  obtain ⟨b3, g4⟩ := and_e g3
  obtain ⟨z0, z1, z2, z3, z4, rfl⟩ : ∃ z0 z1 z2 z3 z4 : Value, args = #[z0, z1, z2, z3, z4] := by
    have hs : args.size = 5 := by simpa [Cond.value, given_1] using h1
    obtain ⟨L⟩ := args
    match L, hs with
    | [z0, z1, z2, z3, z4], _ => exact ⟨z0, z1, z2, z3, z4, rfl⟩
  have hw := fun d (hd : d ∈ tables_1) => atoms_spec (ws := Jvm.Cond.code x code maxLocals ret :: tables_1) hat d (List.mem_cons_of_mem _ hd)
  obtain ⟨hsets, hown0⟩ := atoms_of _ (rest_1_c_eq ▸ (show rest_1_c.before _ s = true from hrest))
  have hfit : Fit s := fun {y c} hc i hi => by
    obtain ⟨ha, rfl⟩ := Array.getElem?_eq_some_iff.mp hc
    have q := List.all_eq_true.mp ((Array.all_eq_true_iff_forall_mem.mp hF) _ (Array.getElem_mem ha)) i (List.mem_range.mpr hi)
    simpa [Array.getElem?_eq_getElem hi] using q
  obtain ⟨i_0, e_0⟩ := is_v b0
  obtain rfl : z0 = (.int i_0) := Option.some.inj e_0
  obtain ⟨i_1, e_1⟩ := is_v b1
  obtain rfl : z1 = (.int i_1) := Option.some.inj e_1
  obtain ⟨i_2, e_2⟩ := is_v b2
  obtain rfl : z2 = (.int i_2) := Option.some.inj e_2
  obtain ⟨i_3, e_3⟩ := is_v b3
  obtain rfl : z3 = (.int i_3) := Option.some.inj e_3
  obtain ⟨i_4, e_4⟩ := is_v g4
  obtain rfl : z4 = (.int i_4) := Option.some.inj e_4
  obtain ⟨i7, e7⟩ := is_v (Cond.before_iff.mp (hsets _ (List.mem_of_getElem? (i := 1) rfl)))
  have S7 : Sta s s.heap "java/lang/String" "COMPACT_STRINGS" "Z" (.int i7) := Sta.start e7 (Or.inl (hsets _ (List.mem_of_getElem? (i := 0) rfl)))
  have n7 := not_v (Cond.before_iff.mp (hsets _ (List.mem_of_getElem? (i := 2) rfl)))
  have c7 : ¬ (i7 = (0 : Int32)) := gotF (Cond.eq_ints e7 (Term.int_eval (0))) n7
  obtain ⟨i8, e8, r8⟩ := isR_v (Cond.before_iff.mp (hsets _ (List.mem_of_getElem? (i := 8) rfl)))
  have S8 : Sta s s.heap "jdk/internal/util/Preconditions" "SIOOBE_FORMATTER" "Ljava/util/function/BiFunction;" i8 := Sta.start e8 (Or.inl (hsets _ (List.mem_of_getElem? (i := 7) rfl)))
  obtain ⟨a_DO, e_DO⟩ := exa_v (Cond.before_iff.mp (hsets _ (List.mem_of_getElem? (i := 12) rfl)))
  have S_DO : Sta s s.heap "java/lang/Integer" "DigitOnes" "[B" (.ref a_DO) := Sta.start e_DO (Or.inl (hsets _ (List.mem_of_getElem? (i := 11) rfl)))
  have E_DO : Exa s s.heap a_DO "[B" := Exa.start e_DO (Cond.before_iff.mp (hsets _ (List.mem_of_getElem? (i := 12) rfl)))
  obtain ⟨c_DO, A_DO⟩ : ∃ k, Arv s s.heap a_DO k .byte (100 : Int32) digO (.int 0) := digStart (f := digOF) hfit e_DO (fun _ => e_DO) (Cond.before_iff.mp (hsets _ (List.mem_of_getElem? (i := 13) rfl))) (Cond.before_iff.mp (hsets _ (List.mem_of_getElem? (i := 14) rfl))) (fun i hi => by rfl) E_DO (hw _ (List.mem_of_getElem? (i := 15) rfl))
  obtain ⟨a_DT, e_DT⟩ := exa_v (Cond.before_iff.mp (hsets _ (List.mem_of_getElem? (i := 17) rfl)))
  have S_DT : Sta s s.heap "java/lang/Integer" "DigitTens" "[B" (.ref a_DT) := Sta.start e_DT (Or.inl (hsets _ (List.mem_of_getElem? (i := 16) rfl)))
  have E_DT : Exa s s.heap a_DT "[B" := Exa.start e_DT (Cond.before_iff.mp (hsets _ (List.mem_of_getElem? (i := 17) rfl)))
  obtain ⟨c_DT, A_DT⟩ : ∃ k, Arv s s.heap a_DT k .byte (100 : Int32) digT (.int 0) := digStart (f := digTF) hfit e_DT (fun _ => e_DT) (Cond.before_iff.mp (hsets _ (List.mem_of_getElem? (i := 18) rfl))) (Cond.before_iff.mp (hsets _ (List.mem_of_getElem? (i := 19) rfl))) (fun i hi => by rfl) E_DT (hw _ (List.mem_of_getElem? (i := 15) rfl))
  have cx : Cx #[(.int i_0), (.int i_1), (.int i_2), (.int i_3), (.int i_4)] s i7 i8 a_DO c_DO a_DT c_DT := ⟨hw, S7, c7, S8, r8, S_DO, E_DO, A_DO, S_DT, E_DT, A_DT⟩
  have ew : EW s #[(.int i_0), (.int i_1), (.int i_2), (.int i_3), (.int i_4)] EL1 := (EW.cons (w238 cx) (by decide) (EW.cons (w239 cx) (by decide) (EW.cons (w57 cx) (by decide) (EW.cons (w14 cx) (by decide) EW.nil))))
  have inv0 : Inv s EL1 s.heap.size s.vm s.heap [] [] := ⟨⟨_, ew⟩, CHv.start ew (fun p hp => hcalls.1 p hp) (hsets _ (List.mem_of_getElem? (i := 2) rfl)) (strAtoms cx _ (by simp [Bundle.stringAtoms])) (strAtoms cx _ (by simp [Bundle.stringAtoms, Bundle.sN])), Old.start s, fun _ q => (nomatch q), List.nodup_nil, fun _ q => (nomatch q)⟩
  obtain ⟨n, o, h1, h2, h3, _, L, WL', FL', rfl, I', N, ⟨rfl, -⟩, hq⟩ := ct_law (l := l) (Z := s) cx (n0 := s.heap.size) i_0 i_1 i_2 i_3 i_4 s.heap [] [] tables_1 p e ha hc hk s m _ below hf ((Spec.applies_iff_loose hf).mp happ).1 ⟨rfl, State.Warmed39.refl s, rfl, inv0⟩ trivial
  exact ⟨n, _, h1, h2, h3, hpost _ _ _ _ _ _ ⟨Cond.after_iff.mpr rfl, Cond.after_iff.mpr (eq_i res_at (Term.int_eval (1)) rfl), trivial⟩ ⟨hq.1, hq.2.1, hq.2.2.1, (hq.2.2.2.sift fun y hy => Or.inr (N y hy)).mono (by decide) (by decide)⟩⟩
theorem main_1_1 : Claimed_1_1 := comes_1 fun _ _ _ _ _ _ h hF => ⟨h.1, hF⟩
theorem main_1_2 : Claimed_1_2 := comes_1 fun _ _ _ _ _ _ h hF => ⟨h.2.1, hF⟩
end Jvm.Pilot.@@N@@
namespace Jvm.Pilot.@@N@@
open Jvm Jvm.ClassFile Sem Op Lib Jvm.Free Jvm.Stand Jvm.Pilot.@@N@@.Jvm.D
/-! MADE BY PROGRAM (witnessworld.py) out of the Statement's table words and the real class files: 28 classes; the members and pool entries that the words name. The judged class is class 1, her method 1. -/
namespace start1
open Jvm.ClassFile
def u (s : String) : CpInfo := .utf8 (stringToUtf16 s)
/-- a pool by its gaps: so many unusable entries, then the entry; so many at the end -/
def gap : Nat → List CpInfo → List CpInfo
  | 0, r => r
  | n + 1, r => .unusable :: gap n r
def poolList (es : List (Nat × CpInfo)) (last : Nat) : List CpInfo := es.foldr (fun e r => gap e.1 (e.2 :: r)) (gap last [])
def pool (es : List (Nat × CpInfo)) (last : Nat) : Array CpInfo := ⟨poolList es last⟩
def fileOf (pool : Array CpInfo) (this : Nat) (attrs : Array Attribute := #[]) (ms : Array MethodInfo := #[]) (fl : Nat := 33) (sup : Nat := 0) (ifs : Array Nat := #[]) (fds : Array FieldInfo := #[]) : ClassFile where
  minorVersion := 0
  majorVersion := 65
  constantPool := pool
  accessFlags := fl
  thisClass := this
  superClass := sup
  interfaces := ifs
  fields := fds
  methods := ms
  attributes := attrs
def plain (name : String) (sup : Option ClassId) : Class where
  name := name
  kind := .ordinary
  loader := none
  accessFlags := 33
  super := sup
  interfaces := #[]
  cf := none
  fields := #[]
  methods := #[]
  instanceTypes := #[]
  staticTypes := #[]
  resolved := #[]
  callSites := []
  init := .initialized
  statics := none
  mirror := none

def pool0 : Array CpInfo := pool [(5, u "<init>"), (0, u "()V"), (1, .class_ 10), (1, u "java/lang/Object")] 113

def k0c0 : Code := { maxStack := 0, maxLocals := 1, code := object_method_1_code, exceptionTable := #[], attributes := #[] }
def k0m0 : Method := { name := "<init>", desc := "()V", sig := { parameters := [], returnType := none }, accessFlags := 1, code := some k0c0 }
/-- java/lang/Object -/
def k0 : Class := { plain "java/lang/Object" none with
  accessFlags := 33
  interfaces := #[]
  cf := some (fileOf pool0 8 #[] #[{ accessFlags := 1, nameIndex := 5, descriptorIndex := 6, attributes := #[] }] 33 0 #[] #[])
  fields := #[]
  methods := #[k0m0]
  instanceTypes := #[]
  staticTypes := #[]
  resolved := Array.replicate 124 none
  statics := none }

def pool1 : Array CpInfo := pool [(2, .class_ 4), (1, u "java/lang/Object"), (0, u "<init>"), (0, u "()V"), (0, .class_ 8), (0, u "java/lang/String"), (0, .methodref 7 10), (0, .nameAndType 5 11), (0, u "([C)V"), (0, .integer 65535), (0, .class_ 14), (0, u "com/example/need_to_know/needtoknow/ListenAddress"), (0, .methodref 13 16), (0, .nameAndType 5 17), (0, u "(Ljava/lang/String;I)V"), (0, .methodref 13 19), (0, .nameAndType 20 21), (0, u "toString"), (0, u "()Ljava/lang/String;"), (0, .methodref 7 23), (0, .nameAndType 24 25), (0, u "length"), (0, u "()I"), (0, .methodref 27 28), (0, .class_ 29), (0, .nameAndType 30 31), (0, u "com/example/need_to_know/needtoknow/ListenAddressToStringPinLaw"), (0, u "at"), (0, u "(Ljava/lang/String;IC)Z"), (0, .methodref 27 33), (0, .nameAndType 34 35), (0, u "digit"), (0, u "(Ljava/lang/String;IIII)Z"), (0, .methodref 7 37), (0, .nameAndType 38 39), (0, u "charAt"), (0, u "(I)C"), (0, .methodref 27 41), (0, .nameAndType 42 43), (0, u "pow10"), (0, u "(I)I"), (2, u "law"), (0, u "(IIIII)Z")] 5

def k1m0 : Method := { name := "<init>", desc := "()V", sig := { parameters := [], returnType := none }, accessFlags := 1, code := none }
def k1c1 : Code := { maxStack := 5, maxLocals := 19, code := code, exceptionTable := #[], attributes := #[] }
def k1m1 : Method := { name := "law", desc := "(IIIII)Z", sig := { parameters := [.int, .int, .int, .int, .int], returnType := some .boolean }, accessFlags := 9, code := some k1c1 }
def k1c2 : Code := { maxStack := 2, maxLocals := 3, code := method_3_code, exceptionTable := #[], attributes := #[] }
def k1m2 : Method := { name := "at", desc := "(Ljava/lang/String;IC)Z", sig := { parameters := [(.object "java/lang/String"), .int, .char], returnType := some .boolean }, accessFlags := 10, code := some k1c2 }
def k1c3 : Code := { maxStack := 2, maxLocals := 1, code := method_4_code, exceptionTable := #[], attributes := #[] }
def k1m3 : Method := { name := "pow10", desc := "(I)I", sig := { parameters := [.int], returnType := some .int }, accessFlags := 10, code := some k1c3 }
def k1c4 : Code := { maxStack := 5, maxLocals := 6, code := method_5_code, exceptionTable := #[], attributes := #[] }
def k1m4 : Method := { name := "digit", desc := "(Ljava/lang/String;IIII)Z", sig := { parameters := [(.object "java/lang/String"), .int, .int, .int, .int], returnType := some .boolean }, accessFlags := 10, code := some k1c4 }
/-- com/example/need_to_know/needtoknow/ListenAddressToStringPinLaw -/
def k1 : Class := { plain "com/example/need_to_know/needtoknow/ListenAddressToStringPinLaw" (some 0) with
  accessFlags := 49
  interfaces := #[]
  cf := some (fileOf pool1 27 #[] #[{ accessFlags := 1, nameIndex := 5, descriptorIndex := 6, attributes := #[] }, { accessFlags := 9, nameIndex := 46, descriptorIndex := 47, attributes := #[] }, { accessFlags := 10, nameIndex := 30, descriptorIndex := 31, attributes := #[] }, { accessFlags := 10, nameIndex := 42, descriptorIndex := 43, attributes := #[] }, { accessFlags := 10, nameIndex := 34, descriptorIndex := 35, attributes := #[] }] 49 2 #[] #[])
  fields := #[]
  methods := #[k1m0, k1m1, k1m2, k1m3, k1m4]
  instanceTypes := #[]
  staticTypes := #[]
  resolved := Array.replicate 53 none
  statics := none }

def pool2 : Array CpInfo := pool [(1, .class_ 2), (0, u "java/io/Serializable"), (0, .class_ 4), (0, u "java/lang/Object")] 2

/-- java/io/Serializable -/
def k2 : Class := { plain "java/io/Serializable" (some 0) with
  accessFlags := 1537
  interfaces := #[]
  cf := some (fileOf pool2 1 #[] #[] 1537 3 #[] #[])
  fields := #[]
  methods := #[]
  instanceTypes := #[]
  staticTypes := #[]
  resolved := Array.replicate 7 none
  statics := none }

def pool3 : Array CpInfo := pool [(1, .class_ 2), (0, u "java/lang/Comparable"), (0, .class_ 4), (0, u "java/lang/Object")] 7

/-- java/lang/Comparable -/
def k3 : Class := { plain "java/lang/Comparable" (some 0) with
  accessFlags := 1537
  interfaces := #[]
  cf := some (fileOf pool3 1 #[] #[] 1537 3 #[] #[])
  fields := #[]
  methods := #[]
  instanceTypes := #[]
  staticTypes := #[]
  resolved := Array.replicate 12 none
  statics := none }

def pool4 : Array CpInfo := pool [(2, .class_ 4), (1, u "java/lang/CharSequence"), (42, .class_ 48), (0, u "java/lang/CharSequence$1CodePointIterator"), (10, .class_ 60), (0, u "java/lang/CharSequence$1CharIterator"), (5, .class_ 67), (0, u "java/lang/Object"), (10, u "toString"), (0, u "()Ljava/lang/String;")] 51

def k4m0 : Method := { name := "toString", desc := "()Ljava/lang/String;", sig := { parameters := [], returnType := some (.object "java/lang/String") }, accessFlags := 1025, code := none }
/-- java/lang/CharSequence -/
def k4 : Class := { plain "java/lang/CharSequence" (some 0) with
  accessFlags := 1537
  interfaces := #[]
  cf := some (fileOf pool4 2 #[.nestMembers #[47, 59]] #[{ accessFlags := 1025, nameIndex := 78, descriptorIndex := 79, attributes := #[] }] 1537 66 #[] #[])
  fields := #[]
  methods := #[k4m0]
  instanceTypes := #[]
  staticTypes := #[]
  resolved := Array.replicate 131 none
  statics := none }

def pool5 : Array CpInfo := pool [(1, .class_ 2), (0, u "java/lang/constant/Constable"), (0, .class_ 4), (0, u "java/lang/Object")] 6

/-- java/lang/constant/Constable -/
def k5 : Class := { plain "java/lang/constant/Constable" (some 0) with
  accessFlags := 1537
  interfaces := #[]
  cf := some (fileOf pool5 1 #[] #[] 1537 3 #[] #[])
  fields := #[]
  methods := #[]
  instanceTypes := #[]
  staticTypes := #[]
  resolved := Array.replicate 11 none
  statics := none }

def pool6 : Array CpInfo := pool [(1, .class_ 2), (0, u "java/lang/constant/ConstantDesc"), (0, .class_ 4), (0, u "java/lang/Object")] 32

/-- java/lang/constant/ConstantDesc -/
def k6 : Class := { plain "java/lang/constant/ConstantDesc" (some 0) with
  accessFlags := 1537
  interfaces := #[]
  cf := some (fileOf pool6 1 #[] #[] 1537 3 #[] #[])
  fields := #[]
  methods := #[]
  instanceTypes := #[]
  staticTypes := #[]
  resolved := Array.replicate 37 none
  statics := none }

def pool7 : Array CpInfo := pool [(1, .methodref 2 3), (0, .class_ 4), (0, .nameAndType 5 6), (0, u "java/lang/Object"), (0, u "<init>"), (0, u "()V"), (0, .string 8), (0, u ""), (0, .fieldref 10 11), (0, .class_ 12), (0, .nameAndType 13 14), (0, u "java/lang/String"), (0, u "value"), (0, u "[B"), (0, .fieldref 10 16), (0, .nameAndType 17 18), (0, u "coder"), (0, u "B"), (2, u "hash"), (0, u "I"), (2, u "hashIsZero"), (0, u "Z"), (0, .methodref 10 28), (0, .nameAndType 5 29), (0, u "([CIILjava/lang/Void;)V"), (8, .fieldref 10 39), (0, .nameAndType 40 26), (0, u "COMPACT_STRINGS"), (1, .class_ 44), (1, u "java/lang/StringUTF16"), (0, u "compress"), (1, .methodref 42 48), (0, .nameAndType 49 50), (0, u "coderFromArrayLen"), (0, u "([BI)B"), (3, .methodref 55 56), (0, .class_ 57), (0, .nameAndType 58 59), (0, u "java/util/Arrays"), (0, u "copyOfRange"), (0, u "([BII)[B"), (47, .class_ 109), (1, u "java/lang/StringLatin1"), (32, u "()Z"), (34, .methodref 42 178), (0, .nameAndType 45 179), (0, u "([CII)[B"), (13, .class_ 195), (1, u "java/lang/System"), (16, .methodref 193 213), (0, .nameAndType 214 215), (0, u "arraycopy"), (0, u "(Ljava/lang/Object;ILjava/lang/Object;II)V"), (118, u "()I"), (0, .methodref 10 336), (0, .nameAndType 17 337), (0, u "()B"), (2, u "()[B"), (22, u "([BI)C"), (27, u "(II)V"), (35, u "(I)C"), (34, .nameAndType 463 464), (0, u "toString"), (0, u "()Ljava/lang/String;"), (24, .methodref 10 490), (0, .nameAndType 5 491), (0, u "(Ljava/lang/AbstractStringBuilder;Ljava/lang/Void;)V"), (0, .methodref 10 493), (0, .nameAndType 494 142), (0, u "isLatin1"), (0, .methodref 107 496), (0, .nameAndType 497 363), (0, u "charAt"), (3, u "checkIndex"), (4, .nameAndType 507 334), (0, u "length"), (24, u "getBytes"), (15, u "(Ljava/lang/CharSequence;)Z"), (0, .methodref 550 506), (0, .class_ 551), (0, u "java/lang/AbstractStringBuilder"), (0, .methodref 550 553), (0, .nameAndType 554 340), (0, u "getValue"), (20, .class_ 576), (0, u "java/lang/CharSequence"), (12, u "([B[B)I"), (9, u "CASE_INSENSITIVE_ORDER"), (0, u "Ljava/util/Comparator;"), (34, u "indexOf"), (11, .methodref 107 648), (0, .nameAndType 635 589), (61, .interfaceMethodref 575 462), (0, .methodref 10 712), (0, .nameAndType 635 713), (0, u "(Ljava/lang/String;)I"), (107, u "([BIB)V"), (188, u "([C)V"), (36, .methodref 550 493), (5, .fieldref 1054 1055), (0, .class_ 1056), (0, .nameAndType 1057 1058), (0, u "jdk/internal/util/Preconditions"), (0, u "SIOOBE_FORMATTER"), (0, u "Ljava/util/function/BiFunction;"), (0, .methodref 1054 1060), (0, .nameAndType 501 1061), (0, u "(IILjava/util/function/BiFunction;)I"), (39, u "serialPersistentFields"), (0, u "[Ljava/io/ObjectStreamField;"), (0, .class_ 1104), (0, u "java/lang/String$CaseInsensitiveComparator"), (1, .class_ 1107), (0, u "java/io/Serializable"), (0, .class_ 1109), (0, u "java/lang/Comparable"), (0, .class_ 1111), (0, u "java/lang/constant/Constable"), (0, .class_ 1113), (0, u "java/lang/constant/ConstantDesc"), (2, u "serialVersionUID"), (0, u "J"), (3, u "REPL"), (0, u "C"), (2, u "LATIN1"), (1, u "UTF16"), (105, u "(Ljava/lang/StringBuilder;)V"), (57, u "contains")] 159

def k7m0 : Method := { name := "<init>", desc := "()V", sig := { parameters := [], returnType := none }, accessFlags := 1, code := none }
def k7c1 : Code := { maxStack := 5, maxLocals := 2, code := jdk_42_method_3_code, exceptionTable := #[], attributes := #[] }
def k7m1 : Method := { name := "<init>", desc := "([C)V", sig := { parameters := [(.array .char)], returnType := none }, accessFlags := 1, code := some k7c1 }
def k7c2 : Code := { maxStack := 3, maxLocals := 2, code := jdk_42_method_53_code, exceptionTable := #[], attributes := #[] }
def k7m2 : Method := { name := "<init>", desc := "(Ljava/lang/StringBuilder;)V", sig := { parameters := [(.object "java/lang/StringBuilder")], returnType := none }, accessFlags := 1, code := some k7c2 }
def k7c3 : Code := { maxStack := 2, maxLocals := 1, code := jdk_42_method_54_code, exceptionTable := #[], attributes := #[] }
def k7m3 : Method := { name := "length", desc := "()I", sig := { parameters := [], returnType := some .int }, accessFlags := 1, code := some k7c3 }
def k7c4 : Code := { maxStack := 2, maxLocals := 2, code := jdk_42_method_56_code, exceptionTable := #[], attributes := #[] }
def k7m4 : Method := { name := "charAt", desc := "(I)C", sig := { parameters := [.int], returnType := some .char }, accessFlags := 1, code := some k7c4 }
def k7c5 : Code := { maxStack := 2, maxLocals := 3, code := jdk_42_method_84_code, exceptionTable := #[], attributes := #[] }
def k7m5 : Method := { name := "indexOf", desc := "(Ljava/lang/String;)I", sig := { parameters := [(.object "java/lang/String")], returnType := some .int }, accessFlags := 1, code := some k7c5 }
def k7c6 : Code := { maxStack := 2, maxLocals := 2, code := jdk_42_method_97_code, exceptionTable := #[], attributes := #[] }
def k7m6 : Method := { name := "contains", desc := "(Ljava/lang/CharSequence;)Z", sig := { parameters := [(.object "java/lang/CharSequence")], returnType := some .boolean }, accessFlags := 1, code := some k7c6 }
def k7c7 : Code := { maxStack := 1, maxLocals := 1, code := jdk_42_method_126_code, exceptionTable := #[], attributes := #[] }
def k7m7 : Method := { name := "toString", desc := "()Ljava/lang/String;", sig := { parameters := [], returnType := some (.object "java/lang/String") }, accessFlags := 1, code := some k7c7 }
def k7c8 : Code := { maxStack := 5, maxLocals := 4, code := jdk_42_method_147_code, exceptionTable := #[], attributes := #[] }
def k7m8 : Method := { name := "getBytes", desc := "([BIB)V", sig := { parameters := [(.array .byte), .int, .byte], returnType := none }, accessFlags := 0, code := some k7c8 }
def k7c9 : Code := { maxStack := 4, maxLocals := 6, code := jdk_42_method_149_code, exceptionTable := #[], attributes := #[] }
def k7m9 : Method := { name := "<init>", desc := "([CIILjava/lang/Void;)V", sig := { parameters := [(.array .char), .int, .int, (.object "java/lang/Void")], returnType := none }, accessFlags := 2, code := some k7c9 }
def k7c10 : Code := { maxStack := 5, maxLocals := 5, code := jdk_42_method_150_code, exceptionTable := #[], attributes := #[] }
def k7m10 : Method := { name := "<init>", desc := "(Ljava/lang/AbstractStringBuilder;Ljava/lang/Void;)V", sig := { parameters := [(.object "java/lang/AbstractStringBuilder"), (.object "java/lang/Void")], returnType := none }, accessFlags := 0, code := some k7c10 }
def k7c11 : Code := { maxStack := 1, maxLocals := 1, code := jdk_42_method_152_code, exceptionTable := #[], attributes := #[] }
def k7m11 : Method := { name := "coder", desc := "()B", sig := { parameters := [], returnType := some .byte }, accessFlags := 0, code := some k7c11 }
def k7c12 : Code := { maxStack := 1, maxLocals := 1, code := jdk_42_method_154_code, exceptionTable := #[], attributes := #[] }
def k7m12 : Method := { name := "isLatin1", desc := "()Z", sig := { parameters := [], returnType := some .boolean }, accessFlags := 0, code := some k7c12 }
def k7c13 : Code := { maxStack := 3, maxLocals := 2, code := jdk_42_method_155_code, exceptionTable := #[], attributes := #[] }
def k7m13 : Method := { name := "checkIndex", desc := "(II)V", sig := { parameters := [.int, .int], returnType := none }, accessFlags := 8, code := some k7c13 }
/-- java/lang/String -/
def k7 : Class := { plain "java/lang/String" (some 0) with
  accessFlags := 49
  interfaces := #[2, 3, 4, 5, 6]
  cf := some (fileOf pool7 10 #[.nestMembers #[1103]] #[{ accessFlags := 1, nameIndex := 5, descriptorIndex := 6, attributes := #[] }, { accessFlags := 1, nameIndex := 5, descriptorIndex := 1010, attributes := #[] }, { accessFlags := 1, nameIndex := 5, descriptorIndex := 1233, attributes := #[] }, { accessFlags := 1, nameIndex := 507, descriptorIndex := 334, attributes := #[] }, { accessFlags := 1, nameIndex := 497, descriptorIndex := 427, attributes := #[] }, { accessFlags := 1, nameIndex := 635, descriptorIndex := 713, attributes := #[] }, { accessFlags := 1, nameIndex := 1291, descriptorIndex := 548, attributes := #[] }, { accessFlags := 1, nameIndex := 463, descriptorIndex := 464, attributes := #[] }, { accessFlags := 0, nameIndex := 532, descriptorIndex := 821, attributes := #[] }, { accessFlags := 2, nameIndex := 5, descriptorIndex := 29, attributes := #[] }, { accessFlags := 0, nameIndex := 5, descriptorIndex := 491, attributes := #[] }, { accessFlags := 0, nameIndex := 17, descriptorIndex := 337, attributes := #[] }, { accessFlags := 0, nameIndex := 494, descriptorIndex := 142, attributes := #[] }, { accessFlags := 8, nameIndex := 501, descriptorIndex := 391, attributes := #[] }] 49 2 #[1106, 1108, 575, 1110, 1112] #[{ accessFlags := 18, nameIndex := 13, descriptorIndex := 14, attributes := #[] }, { accessFlags := 18, nameIndex := 17, descriptorIndex := 18, attributes := #[] }, { accessFlags := 2, nameIndex := 21, descriptorIndex := 22, attributes := #[] }, { accessFlags := 2, nameIndex := 25, descriptorIndex := 26, attributes := #[] }, { accessFlags := 26, nameIndex := 1116, descriptorIndex := 1117, attributes := #[] }, { accessFlags := 24, nameIndex := 40, descriptorIndex := 26, attributes := #[] }, { accessFlags := 26, nameIndex := 1101, descriptorIndex := 1102, attributes := #[] }, { accessFlags := 26, nameIndex := 1121, descriptorIndex := 1122, attributes := #[] }, { accessFlags := 25, nameIndex := 599, descriptorIndex := 600, attributes := #[] }, { accessFlags := 24, nameIndex := 1125, descriptorIndex := 18, attributes := #[] }, { accessFlags := 24, nameIndex := 1127, descriptorIndex := 18, attributes := #[] }])
  fields := #[{ name := "value", type := (.array .byte), accessFlags := 18, slot := 0, constantValue := 0 }, { name := "coder", type := .byte, accessFlags := 18, slot := 1, constantValue := 0 }, { name := "hash", type := .int, accessFlags := 2, slot := 2, constantValue := 0 }, { name := "hashIsZero", type := .boolean, accessFlags := 2, slot := 3, constantValue := 0 }, { name := "serialVersionUID", type := .long, accessFlags := 26, slot := 0, constantValue := 0 }, { name := "COMPACT_STRINGS", type := .boolean, accessFlags := 24, slot := 1, constantValue := 0 }, { name := "serialPersistentFields", type := (.array (.object "java/io/ObjectStreamField")), accessFlags := 26, slot := 2, constantValue := 0 }, { name := "REPL", type := .char, accessFlags := 26, slot := 3, constantValue := 0 }, { name := "CASE_INSENSITIVE_ORDER", type := (.object "java/util/Comparator"), accessFlags := 25, slot := 4, constantValue := 0 }, { name := "LATIN1", type := .byte, accessFlags := 24, slot := 5, constantValue := 0 }, { name := "UTF16", type := .byte, accessFlags := 24, slot := 6, constantValue := 0 }]
  methods := #[k7m0, k7m1, k7m2, k7m3, k7m4, k7m5, k7m6, k7m7, k7m8, k7m9, k7m10, k7m11, k7m12, k7m13]
  instanceTypes := #[(.array .byte), .byte, .int, .boolean]
  staticTypes := #[.long, .boolean, (.array (.object "java/io/ObjectStreamField")), .char, (.object "java/util/Comparator"), .byte, .byte]
  resolved := Array.replicate 1451 none
  statics := some 0 }

def pool8 : Array CpInfo := pool [(1, .methodref 2 3), (0, .class_ 4), (0, .nameAndType 5 6), (0, u "java/lang/Object"), (0, u "<init>"), (0, u "()V"), (0, .fieldref 8 9), (0, .class_ 10), (0, .nameAndType 11 12), (0, u "com/example/need_to_know/needtoknow/ListenAddress"), (0, u "host"), (0, u "Ljava/lang/String;"), (0, .fieldref 8 14), (0, .nameAndType 15 16), (0, u "port"), (0, u "I"), (1, .class_ 20), (1, u "java/lang/String"), (12, .string 34), (0, u "["), (4, .string 40), (0, u "]"), (14, .string 56), (0, u ":"), (0, .methodref 18 58), (0, .nameAndType 59 60), (0, u "contains"), (0, u "(Ljava/lang/CharSequence;)Z"), (11, u "(Ljava/lang/String;I)V"), (18, .class_ 92), (0, u "java/lang/StringBuilder"), (0, .methodref 91 3), (0, .methodref 91 95), (0, .nameAndType 96 97), (0, u "append"), (0, u "(Ljava/lang/String;)Ljava/lang/StringBuilder;"), (0, .methodref 91 99), (0, .nameAndType 100 101), (0, u "toString"), (0, u "()Ljava/lang/String;"), (0, .methodref 91 103), (0, .nameAndType 96 104), (0, u "(I)Ljava/lang/StringBuilder;"), (0, u "MAX_PORT")] 16

def k8c0 : Code := { maxStack := 2, maxLocals := 3, code := prog_5_method_1_code, exceptionTable := #[], attributes := #[] }
def k8m0 : Method := { name := "<init>", desc := "(Ljava/lang/String;I)V", sig := { parameters := [(.object "java/lang/String"), .int], returnType := none }, accessFlags := 0, code := some k8c0 }
def k8c1 : Code := { maxStack := 3, maxLocals := 1, code := prog_5_method_7_code, exceptionTable := #[], attributes := #[] }
def k8m1 : Method := { name := "toString", desc := "()Ljava/lang/String;", sig := { parameters := [], returnType := some (.object "java/lang/String") }, accessFlags := 1, code := some k8c1 }
/-- com/example/need_to_know/needtoknow/ListenAddress -/
def k8 : Class := { plain "com/example/need_to_know/needtoknow/ListenAddress" (some 0) with
  accessFlags := 49
  interfaces := #[]
  cf := some (fileOf pool8 8 #[] #[{ accessFlags := 0, nameIndex := 5, descriptorIndex := 72, attributes := #[] }, { accessFlags := 1, nameIndex := 100, descriptorIndex := 101, attributes := #[] }] 49 2 #[] #[{ accessFlags := 26, nameIndex := 105, descriptorIndex := 16, attributes := #[] }, { accessFlags := 18, nameIndex := 11, descriptorIndex := 12, attributes := #[] }, { accessFlags := 18, nameIndex := 15, descriptorIndex := 16, attributes := #[] }])
  fields := #[{ name := "MAX_PORT", type := .int, accessFlags := 26, slot := 0, constantValue := 0 }, { name := "host", type := (.object "java/lang/String"), accessFlags := 18, slot := 0, constantValue := 0 }, { name := "port", type := .int, accessFlags := 18, slot := 1, constantValue := 0 }]
  methods := #[k8m0, k8m1]
  instanceTypes := #[(.object "java/lang/String"), .int]
  staticTypes := #[.int]
  resolved := Array.replicate 122 none
  statics := none }

def pool9 : Array CpInfo := pool [(1, .class_ 2), (0, u "java/lang/Appendable"), (0, .class_ 4), (0, u "java/lang/Object")] 9

/-- java/lang/Appendable -/
def k9 : Class := { plain "java/lang/Appendable" (some 0) with
  accessFlags := 1537
  interfaces := #[]
  cf := some (fileOf pool9 1 #[] #[] 1537 3 #[] #[])
  fields := #[]
  methods := #[]
  instanceTypes := #[]
  staticTypes := #[]
  resolved := Array.replicate 14 none
  statics := none }

def pool10 : Array CpInfo := pool [(1, .class_ 2), (0, u "java/lang/String"), (0, .methodref 4 5), (0, .class_ 6), (0, .nameAndType 7 8), (0, u "java/lang/Object"), (0, u "<init>"), (0, u "()V"), (1, .class_ 12), (1, u "java/lang/AbstractStringBuilder"), (0, u "EMPTYVALUE"), (0, u "[B"), (0, .fieldref 10 16), (0, .nameAndType 17 14), (0, u "value"), (0, .fieldref 1 19), (0, .nameAndType 20 21), (0, u "COMPACT_STRINGS"), (0, u "Z"), (0, .fieldref 10 23), (0, .nameAndType 24 25), (0, u "coder"), (0, u "B"), (6, .methodref 1 33), (0, .nameAndType 34 35), (0, u "length"), (0, u "()I"), (0, .class_ 37), (0, u "java/lang/Integer"), (2, .methodref 1 41), (0, .nameAndType 24 42), (0, u "()B"), (2, u "append"), (0, u "(Ljava/lang/String;)Ljava/lang/AbstractStringBuilder;"), (1, .class_ 49), (0, u "java/lang/CharSequence"), (19, u "(Ljava/lang/String;)V"), (5, u "maybeLatin1"), (3, .fieldref 10 80), (0, .nameAndType 81 82), (0, u "count"), (0, u "I"), (0, .methodref 10 84), (0, .nameAndType 85 86), (0, u "isLatin1"), (0, u "()Z"), (13, .methodref 10 101), (0, .nameAndType 102 103), (0, u "ensureCapacityInternal"), (0, u "(I)V"), (3, u "(I)I"), (80, u "getChars"), (19, .methodref 10 209), (0, .nameAndType 210 211), (0, u "putStringAt"), (0, u "(ILjava/lang/String;)V"), (5, u "inflateIfNeededFor"), (2, .nameAndType 221 222), (0, u "getBytes"), (0, u "([BIB)V"), (22, .methodref 36 246), (0, .nameAndType 247 107), (0, u "stringSize"), (0, .methodref 36 249), (0, .nameAndType 188 250), (0, u "(II[B)I"), (146, .methodref 10 398), (0, .nameAndType 217 69), (0, .methodref 1 220), (3, u "()[B"), (40, .class_ 445), (0, u "java/lang/Appendable"), (65, u "(I)Ljava/lang/AbstractStringBuilder;"), (40, u "getValue")] 56

def k10m0 : Method := { name := "<init>", desc := "()V", sig := { parameters := [], returnType := none }, accessFlags := 0, code := none }
def k10c1 : Code := { maxStack := 2, maxLocals := 2, code := jdk_68_method_2_code, exceptionTable := #[], attributes := #[] }
def k10m1 : Method := { name := "<init>", desc := "(I)V", sig := { parameters := [.int], returnType := none }, accessFlags := 0, code := some k10c1 }
def k10c2 : Code := { maxStack := 1, maxLocals := 1, code := jdk_68_method_6_code, exceptionTable := #[], attributes := #[] }
def k10m2 : Method := { name := "length", desc := "()I", sig := { parameters := [], returnType := some .int }, accessFlags := 1, code := some k10c2 }
def k10c3 : Code := { maxStack := 4, maxLocals := 3, code := jdk_68_method_9_code, exceptionTable := #[], attributes := #[] }
def k10m3 : Method := { name := "ensureCapacityInternal", desc := "(I)V", sig := { parameters := [.int], returnType := none }, accessFlags := 2, code := some k10c3 }
def k10c4 : Code := { maxStack := 3, maxLocals := 3, code := jdk_68_method_22_code, exceptionTable := #[], attributes := #[] }
def k10m4 : Method := { name := "append", desc := "(Ljava/lang/String;)Ljava/lang/AbstractStringBuilder;", sig := { parameters := [(.object "java/lang/String")], returnType := some (.object "java/lang/AbstractStringBuilder") }, accessFlags := 1, code := some k10c4 }
def k10c5 : Code := { maxStack := 4, maxLocals := 4, code := jdk_68_method_32_code, exceptionTable := #[], attributes := #[] }
def k10m5 : Method := { name := "append", desc := "(I)Ljava/lang/AbstractStringBuilder;", sig := { parameters := [.int], returnType := some (.object "java/lang/AbstractStringBuilder") }, accessFlags := 1, code := some k10c5 }
def k10c6 : Code := { maxStack := 1, maxLocals := 1, code := jdk_68_method_64_code, exceptionTable := #[], attributes := #[] }
def k10m6 : Method := { name := "getValue", desc := "()[B", sig := { parameters := [], returnType := some (.array .byte) }, accessFlags := 16, code := some k10c6 }
def k10c7 : Code := { maxStack := 1, maxLocals := 1, code := jdk_68_method_68_code, exceptionTable := #[], attributes := #[] }
def k10m7 : Method := { name := "isLatin1", desc := "()Z", sig := { parameters := [], returnType := some .boolean }, accessFlags := 16, code := some k10c7 }
def k10c8 : Code := { maxStack := 2, maxLocals := 2, code := jdk_68_method_71_code, exceptionTable := #[], attributes := #[] }
def k10m8 : Method := { name := "inflateIfNeededFor", desc := "(Ljava/lang/String;)V", sig := { parameters := [(.object "java/lang/String")], returnType := none }, accessFlags := 2, code := some k10c8 }
def k10c9 : Code := { maxStack := 4, maxLocals := 3, code := jdk_68_method_73_code, exceptionTable := #[], attributes := #[] }
def k10m9 : Method := { name := "putStringAt", desc := "(ILjava/lang/String;)V", sig := { parameters := [.int, (.object "java/lang/String")], returnType := none }, accessFlags := 2, code := some k10c9 }
/-- java/lang/AbstractStringBuilder -/
def k10 : Class := { plain "java/lang/AbstractStringBuilder" (some 0) with
  accessFlags := 1056
  interfaces := #[9, 4]
  cf := some (fileOf pool10 10 #[] #[{ accessFlags := 0, nameIndex := 7, descriptorIndex := 8, attributes := #[] }, { accessFlags := 0, nameIndex := 7, descriptorIndex := 103, attributes := #[] }, { accessFlags := 1, nameIndex := 34, descriptorIndex := 35, attributes := #[] }, { accessFlags := 2, nameIndex := 102, descriptorIndex := 103, attributes := #[] }, { accessFlags := 1, nameIndex := 45, descriptorIndex := 46, attributes := #[] }, { accessFlags := 1, nameIndex := 45, descriptorIndex := 511, attributes := #[] }, { accessFlags := 16, nameIndex := 552, descriptorIndex := 403, attributes := #[] }, { accessFlags := 16, nameIndex := 85, descriptorIndex := 86, attributes := #[] }, { accessFlags := 2, nameIndex := 217, descriptorIndex := 69, attributes := #[] }, { accessFlags := 2, nameIndex := 210, descriptorIndex := 211, attributes := #[] }] 1056 4 #[444, 48] #[{ accessFlags := 0, nameIndex := 17, descriptorIndex := 14, attributes := #[] }, { accessFlags := 0, nameIndex := 24, descriptorIndex := 25, attributes := #[] }, { accessFlags := 0, nameIndex := 75, descriptorIndex := 21, attributes := #[] }, { accessFlags := 0, nameIndex := 81, descriptorIndex := 82, attributes := #[] }, { accessFlags := 26, nameIndex := 13, descriptorIndex := 14, attributes := #[] }])
  fields := #[{ name := "value", type := (.array .byte), accessFlags := 0, slot := 0, constantValue := 0 }, { name := "coder", type := .byte, accessFlags := 0, slot := 1, constantValue := 0 }, { name := "maybeLatin1", type := .boolean, accessFlags := 0, slot := 2, constantValue := 0 }, { name := "count", type := .int, accessFlags := 0, slot := 3, constantValue := 0 }, { name := "EMPTYVALUE", type := (.array .byte), accessFlags := 26, slot := 0, constantValue := 0 }]
  methods := #[k10m0, k10m1, k10m2, k10m3, k10m4, k10m5, k10m6, k10m7, k10m8, k10m9]
  instanceTypes := #[(.array .byte), .byte, .boolean, .int]
  staticTypes := #[(.array .byte)]
  resolved := Array.replicate 609 none
  statics := none }

def pool11 : Array CpInfo := pool [(1, .methodref 2 3), (0, .class_ 4), (0, .nameAndType 5 6), (0, u "java/lang/AbstractStringBuilder"), (0, u "<init>"), (0, u "(I)V"), (11, .class_ 20), (1, u "java/lang/String"), (3, .class_ 26), (1, u "java/lang/StringBuilder"), (0, u "append"), (0, u "(Ljava/lang/String;)Ljava/lang/StringBuilder;"), (0, .methodref 2 30), (0, .nameAndType 27 31), (0, u "(Ljava/lang/String;)Ljava/lang/AbstractStringBuilder;"), (21, .methodref 2 54), (0, .nameAndType 27 55), (0, u "(I)Ljava/lang/AbstractStringBuilder;"), (81, .methodref 18 138), (0, .nameAndType 5 139), (0, u "(Ljava/lang/StringBuilder;)V"), (5, u "()V"), (10, u "()I"), (111, u "(I)Ljava/lang/StringBuilder;"), (74, .methodref 2 344), (0, .nameAndType 345 156), (0, u "length"), (3, .class_ 350), (0, u "java/lang/Appendable"), (0, .class_ 352), (0, u "java/io/Serializable"), (0, .class_ 354), (0, u "java/lang/Comparable"), (0, .class_ 356), (0, u "java/lang/CharSequence"), (0, u "serialVersionUID"), (0, u "J"), (40, u "toString"), (0, u "()Ljava/lang/String;")] 21

def k11c0 : Code := { maxStack := 2, maxLocals := 1, code := jdk_67_method_1_code, exceptionTable := #[], attributes := #[] }
def k11m0 : Method := { name := "<init>", desc := "()V", sig := { parameters := [], returnType := none }, accessFlags := 1, code := some k11c0 }
def k11c1 : Code := { maxStack := 2, maxLocals := 2, code := jdk_67_method_7_code, exceptionTable := #[], attributes := #[] }
def k11m1 : Method := { name := "append", desc := "(Ljava/lang/String;)Ljava/lang/StringBuilder;", sig := { parameters := [(.object "java/lang/String")], returnType := some (.object "java/lang/StringBuilder") }, accessFlags := 1, code := some k11c1 }
def k11c2 : Code := { maxStack := 2, maxLocals := 2, code := jdk_67_method_15_code, exceptionTable := #[], attributes := #[] }
def k11m2 : Method := { name := "append", desc := "(I)Ljava/lang/StringBuilder;", sig := { parameters := [.int], returnType := some (.object "java/lang/StringBuilder") }, accessFlags := 1, code := some k11c2 }
def k11c3 : Code := { maxStack := 3, maxLocals := 1, code := jdk_67_method_42_code, exceptionTable := #[], attributes := #[] }
def k11m3 : Method := { name := "toString", desc := "()Ljava/lang/String;", sig := { parameters := [], returnType := some (.object "java/lang/String") }, accessFlags := 1, code := some k11c3 }
def k11c4 : Code := { maxStack := 1, maxLocals := 1, code := jdk_67_method_93_code, exceptionTable := #[], attributes := #[] }
def k11m4 : Method := { name := "length", desc := "()I", sig := { parameters := [], returnType := some .int }, accessFlags := 4161, code := some k11c4 }
/-- java/lang/StringBuilder -/
def k11 : Class := { plain "java/lang/StringBuilder" (some 10) with
  accessFlags := 49
  interfaces := #[9, 2, 3, 4]
  cf := some (fileOf pool11 24 #[] #[{ accessFlags := 1, nameIndex := 5, descriptorIndex := 145, attributes := #[] }, { accessFlags := 1, nameIndex := 27, descriptorIndex := 28, attributes := #[] }, { accessFlags := 1, nameIndex := 27, descriptorIndex := 268, attributes := #[] }, { accessFlags := 1, nameIndex := 399, descriptorIndex := 400, attributes := #[] }, { accessFlags := 4161, nameIndex := 345, descriptorIndex := 156, attributes := #[] }] 49 2 #[349, 351, 353, 355] #[{ accessFlags := 24, nameIndex := 357, descriptorIndex := 358, attributes := #[] }])
  fields := #[{ name := "serialVersionUID", type := .long, accessFlags := 24, slot := 0, constantValue := 0 }]
  methods := #[k11m0, k11m1, k11m2, k11m3, k11m4]
  instanceTypes := #[(.array .byte), .byte, .boolean, .int]
  staticTypes := #[.long]
  resolved := Array.replicate 422 none
  statics := none }

def pool12 : Array CpInfo := pool [(1, .class_ 2), (0, u "java/lang/String"), (1, .class_ 6), (1, u "java/lang/Object"), (0, u "<init>"), (0, u "()V"), (0, .methodref 1 10), (0, .nameAndType 11 12), (0, u "checkIndex"), (0, u "(II)V"), (1, .class_ 16), (1, u "java/lang/StringLatin1"), (36, u "([BI)C"), (45, .methodref 14 100), (0, .nameAndType 101 102), (0, u "indexOf"), (0, u "([BI[BII)I"), (18, u "$assertionsDisabled"), (0, u "Z"), (98, .class_ 223), (1, u "java/lang/StringLatin1$LinesSpliterator"), (28, u "charAt"), (34, u "([B[B)I"), (102, .class_ 391), (0, u "java/lang/StringLatin1$CharsSpliterator")] 3

def k12m0 : Method := { name := "<init>", desc := "()V", sig := { parameters := [], returnType := none }, accessFlags := 0, code := none }
def k12c1 : Code := { maxStack := 2, maxLocals := 2, code := jdk_43_method_2_code, exceptionTable := #[], attributes := #[] }
def k12m1 : Method := { name := "charAt", desc := "([BI)C", sig := { parameters := [(.array .byte), .int], returnType := some .char }, accessFlags := 9, code := some k12c1 }
def k12c2 : Code := { maxStack := 5, maxLocals := 2, code := jdk_43_method_24_code, exceptionTable := #[], attributes := #[] }
def k12m2 : Method := { name := "indexOf", desc := "([B[B)I", sig := { parameters := [(.array .byte), (.array .byte)], returnType := some .int }, accessFlags := 9, code := some k12c2 }
def k12c3 : Code := { maxStack := 3, maxLocals := 11, code := jdk_43_method_25_code, exceptionTable := #[], attributes := #[] }
def k12m3 : Method := { name := "indexOf", desc := "([BI[BII)I", sig := { parameters := [(.array .byte), .int, (.array .byte), .int, .int], returnType := some .int }, accessFlags := 9, code := some k12c3 }
/-- java/lang/StringLatin1 -/
def k12 : Class := { plain "java/lang/StringLatin1" (some 0) with
  accessFlags := 48
  interfaces := #[]
  cf := some (fileOf pool12 14 #[.nestMembers #[390, 221]] #[{ accessFlags := 0, nameIndex := 7, descriptorIndex := 8, attributes := #[] }, { accessFlags := 9, nameIndex := 252, descriptorIndex := 53, attributes := #[] }, { accessFlags := 9, nameIndex := 101, descriptorIndex := 287, attributes := #[] }, { accessFlags := 9, nameIndex := 101, descriptorIndex := 102, attributes := #[] }] 48 4 #[] #[{ accessFlags := 4120, nameIndex := 121, descriptorIndex := 122, attributes := #[] }])
  fields := #[{ name := "$assertionsDisabled", type := .boolean, accessFlags := 4120, slot := 0, constantValue := 0 }]
  methods := #[k12m0, k12m1, k12m2, k12m3]
  instanceTypes := #[]
  staticTypes := #[.boolean]
  resolved := Array.replicate 395 none
  statics := none }

def pool13 : Array CpInfo := pool [(2, .class_ 4), (1, u "java/lang/Object"), (0, u "<init>"), (0, u "()V"), (1, .class_ 10), (1, u "java/lang/System"), (0, u "allowSecurityManager"), (0, u "I"), (16, u "cons"), (0, u "Ljava/io/Console;"), (77, .class_ 110), (1, u "java/lang/System$CallersHolder"), (43, u "initialErrStream"), (0, u "Ljava/io/PrintStream;"), (19, u "security"), (0, u "Ljava/lang/SecurityManager;"), (31, .class_ 209), (0, u "java/lang/System$1"), (7, u "props"), (0, u "Ljava/util/Properties;"), (2, u "lineSeparator"), (0, u "Ljava/lang/String;"), (96, .class_ 321), (1, u "java/lang/System$LoggerFinder"), (5, .class_ 328), (0, u "java/lang/System$Logger"), (67, u "err"), (2, u "out"), (91, u "notSupportedJnuEncoding"), (15, u "in"), (17, u "initialIn"), (0, u "Ljava/io/InputStream;"), (35, u "bootLayer"), (0, u "Ljava/lang/ModuleLayer;"), (99, .class_ 664), (0, u "java/lang/System$2"), (9, u "NEVER"), (2, u "MAYBE"), (49, u "arraycopy"), (0, u "(Ljava/lang/Object;ILjava/lang/Object;II)V"), (72, .class_ 802), (0, u "java/lang/System$Logger$Level")] 31

def k13m0 : Method := { name := "<init>", desc := "()V", sig := { parameters := [], returnType := none }, accessFlags := 2, code := none }
def k13m1 : Method := { name := "arraycopy", desc := "(Ljava/lang/Object;ILjava/lang/Object;II)V", sig := { parameters := [(.object "java/lang/Object"), .int, (.object "java/lang/Object"), .int, .int], returnType := none }, accessFlags := 265, code := none }
/-- java/lang/System -/
def k13 : Class := { plain "java/lang/System" (some 0) with
  accessFlags := 49
  interfaces := #[]
  cf := some (fileOf pool13 8 #[.nestMembers #[319, 327, 801, 108, 663, 208]] #[{ accessFlags := 2, nameIndex := 5, descriptorIndex := 6, attributes := #[] }, { accessFlags := 265, nameIndex := 727, descriptorIndex := 728, attributes := #[] }] 49 2 #[] #[{ accessFlags := 25, nameIndex := 507, descriptorIndex := 526, attributes := #[] }, { accessFlags := 25, nameIndex := 399, descriptorIndex := 155, attributes := #[] }, { accessFlags := 25, nameIndex := 396, descriptorIndex := 155, attributes := #[] }, { accessFlags := 10, nameIndex := 525, descriptorIndex := 526, attributes := #[] }, { accessFlags := 26, nameIndex := 674, descriptorIndex := 12, attributes := #[] }, { accessFlags := 26, nameIndex := 677, descriptorIndex := 12, attributes := #[] }, { accessFlags := 10, nameIndex := 11, descriptorIndex := 12, attributes := #[] }, { accessFlags := 74, nameIndex := 175, descriptorIndex := 176, attributes := #[] }, { accessFlags := 10, nameIndex := 491, descriptorIndex := 222, attributes := #[] }, { accessFlags := 74, nameIndex := 29, descriptorIndex := 30, attributes := #[] }, { accessFlags := 74, nameIndex := 154, descriptorIndex := 155, attributes := #[] }, { accessFlags := 10, nameIndex := 217, descriptorIndex := 218, attributes := #[] }, { accessFlags := 10, nameIndex := 221, descriptorIndex := 222, attributes := #[] }, { accessFlags := 8, nameIndex := 562, descriptorIndex := 563, attributes := #[] }])
  fields := #[{ name := "in", type := (.object "java/io/InputStream"), accessFlags := 25, slot := 0, constantValue := 0 }, { name := "out", type := (.object "java/io/PrintStream"), accessFlags := 25, slot := 1, constantValue := 0 }, { name := "err", type := (.object "java/io/PrintStream"), accessFlags := 25, slot := 2, constantValue := 0 }, { name := "initialIn", type := (.object "java/io/InputStream"), accessFlags := 10, slot := 3, constantValue := 0 }, { name := "NEVER", type := .int, accessFlags := 26, slot := 4, constantValue := 0 }, { name := "MAYBE", type := .int, accessFlags := 26, slot := 5, constantValue := 0 }, { name := "allowSecurityManager", type := .int, accessFlags := 10, slot := 6, constantValue := 0 }, { name := "security", type := (.object "java/lang/SecurityManager"), accessFlags := 74, slot := 7, constantValue := 0 }, { name := "notSupportedJnuEncoding", type := (.object "java/lang/String"), accessFlags := 10, slot := 8, constantValue := 0 }, { name := "cons", type := (.object "java/io/Console"), accessFlags := 74, slot := 9, constantValue := 0 }, { name := "initialErrStream", type := (.object "java/io/PrintStream"), accessFlags := 74, slot := 10, constantValue := 0 }, { name := "props", type := (.object "java/util/Properties"), accessFlags := 10, slot := 11, constantValue := 0 }, { name := "lineSeparator", type := (.object "java/lang/String"), accessFlags := 10, slot := 12, constantValue := 0 }, { name := "bootLayer", type := (.object "java/lang/ModuleLayer"), accessFlags := 8, slot := 13, constantValue := 0 }]
  methods := #[k13m0, k13m1]
  instanceTypes := #[]
  staticTypes := #[(.object "java/io/InputStream"), (.object "java/io/PrintStream"), (.object "java/io/PrintStream"), (.object "java/io/InputStream"), .int, .int, .int, (.object "java/lang/SecurityManager"), (.object "java/lang/String"), (.object "java/io/Console"), (.object "java/io/PrintStream"), (.object "java/util/Properties"), (.object "java/lang/String"), (.object "java/lang/ModuleLayer")]
  resolved := Array.replicate 834 none
  statics := none }

def pool14 : Array CpInfo := pool [(2, .class_ 4), (1, u "java/lang/Object"), (0, u "<init>"), (0, u "()V"), (1, .class_ 10), (1, u "java/lang/Number"), (2, .class_ 14), (0, u "java/io/Serializable"), (0, u "serialVersionUID"), (0, u "J")] 20

def k14m0 : Method := { name := "<init>", desc := "()V", sig := { parameters := [], returnType := none }, accessFlags := 1, code := none }
/-- java/lang/Number -/
def k14 : Class := { plain "java/lang/Number" (some 0) with
  accessFlags := 1057
  interfaces := #[2]
  cf := some (fileOf pool14 8 #[] #[{ accessFlags := 1, nameIndex := 5, descriptorIndex := 6, attributes := #[] }] 1057 2 #[13] #[{ accessFlags := 26, nameIndex := 15, descriptorIndex := 16, attributes := #[] }])
  fields := #[{ name := "serialVersionUID", type := .long, accessFlags := 26, slot := 0, constantValue := 0 }]
  methods := #[k14m0]
  instanceTypes := #[]
  staticTypes := #[.long]
  resolved := Array.replicate 37 none
  statics := none }

def pool15 : Array CpInfo := pool [(1, .class_ 2), (0, u "java/lang/Integer"), (16, u "digits"), (0, u "[C"), (33, u "(I)I"), (19, u "stringSize"), (2, u "getChars"), (0, u "(II[B)I"), (4, .fieldref 1 84), (0, .nameAndType 85 86), (0, u "DigitOnes"), (0, u "[B"), (0, .fieldref 1 88), (0, .nameAndType 89 86), (0, u "DigitTens"), (99, .class_ 190), (0, u "java/lang/Integer$IntegerCache"), (3, u "I"), (8, .class_ 204), (0, u "java/lang/Number"), (2, u "value"), (94, u "TYPE"), (0, u "Ljava/lang/Class;"), (0, .class_ 305), (0, u "java/lang/Comparable"), (0, .class_ 307), (0, u "java/lang/constant/Constable"), (0, .class_ 309), (0, u "java/lang/constant/ConstantDesc"), (0, u "MIN_VALUE"), (1, u "MAX_VALUE"), (3, u "SIZE"), (1, u "BYTES"), (1, u "serialVersionUID"), (0, u "J")] 131

def k15c0 : Code := { maxStack := 4, maxLocals := 7, code := jdk_33_method_12_code, exceptionTable := #[], attributes := #[] }
def k15m0 : Method := { name := "getChars", desc := "(II[B)I", sig := { parameters := [.int, .int, (.array .byte)], returnType := some .int }, accessFlags := 8, code := some k15c0 }
def k15c1 : Code := { maxStack := 2, maxLocals := 4, code := jdk_33_method_13_code, exceptionTable := #[], attributes := #[] }
def k15m1 : Method := { name := "stringSize", desc := "(I)I", sig := { parameters := [.int], returnType := some .int }, accessFlags := 8, code := some k15c1 }
/-- java/lang/Integer -/
def k15 : Class := { plain "java/lang/Integer" (some 14) with
  accessFlags := 49
  interfaces := #[3, 5, 6]
  cf := some (fileOf pool15 1 #[.nestMembers #[189]] #[{ accessFlags := 8, nameIndex := 77, descriptorIndex := 78, attributes := #[] }, { accessFlags := 8, nameIndex := 74, descriptorIndex := 54, attributes := #[] }] 49 203 #[304, 306, 308] #[{ accessFlags := 25, nameIndex := 310, descriptorIndex := 194, attributes := #[] }, { accessFlags := 25, nameIndex := 312, descriptorIndex := 194, attributes := #[] }, { accessFlags := 25, nameIndex := 302, descriptorIndex := 303, attributes := #[] }, { accessFlags := 24, nameIndex := 19, descriptorIndex := 20, attributes := #[] }, { accessFlags := 24, nameIndex := 89, descriptorIndex := 86, attributes := #[] }, { accessFlags := 24, nameIndex := 85, descriptorIndex := 86, attributes := #[] }, { accessFlags := 18, nameIndex := 207, descriptorIndex := 194, attributes := #[] }, { accessFlags := 25, nameIndex := 316, descriptorIndex := 194, attributes := #[] }, { accessFlags := 25, nameIndex := 318, descriptorIndex := 194, attributes := #[] }, { accessFlags := 26, nameIndex := 320, descriptorIndex := 321, attributes := #[] }])
  fields := #[{ name := "MIN_VALUE", type := .int, accessFlags := 25, slot := 0, constantValue := 0 }, { name := "MAX_VALUE", type := .int, accessFlags := 25, slot := 1, constantValue := 0 }, { name := "TYPE", type := (.object "java/lang/Class"), accessFlags := 25, slot := 2, constantValue := 0 }, { name := "digits", type := (.array .char), accessFlags := 24, slot := 3, constantValue := 0 }, { name := "DigitTens", type := (.array .byte), accessFlags := 24, slot := 4, constantValue := 0 }, { name := "DigitOnes", type := (.array .byte), accessFlags := 24, slot := 5, constantValue := 0 }, { name := "value", type := .int, accessFlags := 18, slot := 0, constantValue := 0 }, { name := "SIZE", type := .int, accessFlags := 25, slot := 6, constantValue := 0 }, { name := "BYTES", type := .int, accessFlags := 25, slot := 7, constantValue := 0 }, { name := "serialVersionUID", type := .long, accessFlags := 26, slot := 8, constantValue := 0 }]
  methods := #[k15m0, k15m1]
  instanceTypes := #[.int]
  staticTypes := #[.int, .int, (.object "java/lang/Class"), (.array .char), (.array .byte), (.array .byte), .int, .int, .long]
  resolved := Array.replicate 453 none
  statics := some 1 }

def pool16 : Array CpInfo := pool [(2, .class_ 4), (1, u "java/lang/Object"), (0, u "<init>"), (0, u "()V"), (7, .class_ 16), (1, u "java/util/Arrays"), (57, .class_ 76), (1, u "java/util/Arrays$NaturalOrder"), (36, .class_ 115), (1, u "java/util/Arrays$LegacyMergeSort"), (1, u "Z"), (21, u "copyOfRange"), (10, .methodref 151 152), (0, .class_ 153), (0, .nameAndType 154 155), (0, u "java/lang/System"), (0, u "arraycopy"), (0, u "(Ljava/lang/Object;ILjava/lang/Object;II)V"), (148, .methodref 305 306), (0, .class_ 307), (0, .nameAndType 308 309), (0, u "java/lang/Math"), (0, u "min"), (0, u "(II)I"), (29, .methodref 14 340), (0, .nameAndType 341 342), (0, u "copyOfRangeByte"), (0, u "([BII)[B"), (0, .methodref 14 344), (0, .nameAndType 345 346), (0, u "checkLength"), (0, u "(II)V"), (28, .class_ 376), (0, u "java/util/Arrays$ArrayList"), (68, u "$assertionsDisabled"), (269, u "MIN_ARRAY_SORT_GRAN"), (0, u "I"), (2, u "INSERTIONSORT_THRESHOLD"), (255, .class_ 976), (0, u "java/util/Arrays$ArrayItr")] 52

def k16m0 : Method := { name := "<init>", desc := "()V", sig := { parameters := [], returnType := none }, accessFlags := 2, code := none }
def k16c1 : Code := { maxStack := 4, maxLocals := 2, code := jdk_65_method_131_code, exceptionTable := #[], attributes := #[] }
def k16m1 : Method := { name := "checkLength", desc := "(II)V", sig := { parameters := [.int, .int], returnType := none }, accessFlags := 10, code := some k16c1 }
def k16c2 : Code := { maxStack := 3, maxLocals := 3, code := jdk_65_method_132_code, exceptionTable := #[], attributes := #[] }
def k16m2 : Method := { name := "copyOfRange", desc := "([BII)[B", sig := { parameters := [(.array .byte), .int, .int], returnType := some (.array .byte) }, accessFlags := 9, code := some k16c2 }
def k16c3 : Code := { maxStack := 6, maxLocals := 5, code := jdk_65_method_133_code, exceptionTable := #[], attributes := #[] }
def k16m3 : Method := { name := "copyOfRangeByte", desc := "([BII)[B", sig := { parameters := [(.array .byte), .int, .int], returnType := some (.array .byte) }, accessFlags := 10, code := some k16c3 }
/-- java/util/Arrays -/
def k16 : Class := { plain "java/util/Arrays" (some 0) with
  accessFlags := 49
  interfaces := #[]
  cf := some (fileOf pool16 14 #[.nestMembers #[975, 375, 113, 74]] #[{ accessFlags := 2, nameIndex := 5, descriptorIndex := 6, attributes := #[] }, { accessFlags := 10, nameIndex := 345, descriptorIndex := 346, attributes := #[] }, { accessFlags := 9, nameIndex := 139, descriptorIndex := 342, attributes := #[] }, { accessFlags := 10, nameIndex := 341, descriptorIndex := 342, attributes := #[] }] 49 2 #[] #[{ accessFlags := 26, nameIndex := 715, descriptorIndex := 716, attributes := #[] }, { accessFlags := 26, nameIndex := 719, descriptorIndex := 716, attributes := #[] }, { accessFlags := 4120, nameIndex := 445, descriptorIndex := 117, attributes := #[] }])
  fields := #[{ name := "MIN_ARRAY_SORT_GRAN", type := .int, accessFlags := 26, slot := 0, constantValue := 0 }, { name := "INSERTIONSORT_THRESHOLD", type := .int, accessFlags := 26, slot := 1, constantValue := 0 }, { name := "$assertionsDisabled", type := .boolean, accessFlags := 4120, slot := 2, constantValue := 0 }]
  methods := #[k16m0, k16m1, k16m2, k16m3]
  instanceTypes := #[]
  staticTypes := #[.int, .int, .boolean]
  resolved := Array.replicate 1029 none
  statics := none }

def pool17 : Array CpInfo := pool [(1, .class_ 2), (0, u "java/lang/Math"), (1, .class_ 6), (1, u "java/lang/Object"), (0, u "<init>"), (0, u "()V"), (89, .class_ 100), (1, u "java/lang/Math$RandomNumberGeneratorHolder"), (71, u "negativeZeroFloatBits"), (0, u "J"), (2, u "negativeZeroDoubleBits"), (24, u "min"), (43, u "$assertionsDisabled"), (0, u "Z"), (88, u "(II)I"), (2, u "twoToTheDoubleScaleDown"), (0, u "D"), (4, u "twoToTheDoubleScaleUp"), (9, u "E"), (3, u "PI"), (2, u "TAU"), (2, u "DEGREES_TO_RADIANS"), (0, u "RADIANS_TO_DEGREES")] 94

def k17m0 : Method := { name := "<init>", desc := "()V", sig := { parameters := [], returnType := none }, accessFlags := 2, code := none }
def k17c1 : Code := { maxStack := 2, maxLocals := 2, code := jdk_29_method_69_code, exceptionTable := #[], attributes := #[] }
def k17m1 : Method := { name := "min", desc := "(II)I", sig := { parameters := [.int, .int], returnType := some .int }, accessFlags := 9, code := some k17c1 }
/-- java/lang/Math -/
def k17 : Class := { plain "java/lang/Math" (some 0) with
  accessFlags := 49
  interfaces := #[]
  cf := some (fileOf pool17 1 #[.nestMembers #[98]] #[{ accessFlags := 2, nameIndex := 7, descriptorIndex := 8, attributes := #[] }, { accessFlags := 9, nameIndex := 201, descriptorIndex := 335, attributes := #[] }] 49 4 #[] #[{ accessFlags := 25, nameIndex := 354, descriptorIndex := 339, attributes := #[] }, { accessFlags := 25, nameIndex := 358, descriptorIndex := 339, attributes := #[] }, { accessFlags := 25, nameIndex := 361, descriptorIndex := 339, attributes := #[] }, { accessFlags := 26, nameIndex := 364, descriptorIndex := 339, attributes := #[] }, { accessFlags := 26, nameIndex := 365, descriptorIndex := 339, attributes := #[] }, { accessFlags := 26, nameIndex := 172, descriptorIndex := 173, attributes := #[] }, { accessFlags := 26, nameIndex := 176, descriptorIndex := 173, attributes := #[] }, { accessFlags := 8, nameIndex := 344, descriptorIndex := 339, attributes := #[] }, { accessFlags := 8, nameIndex := 338, descriptorIndex := 339, attributes := #[] }, { accessFlags := 4120, nameIndex := 245, descriptorIndex := 246, attributes := #[] }])
  fields := #[{ name := "E", type := .double, accessFlags := 25, slot := 0, constantValue := 0 }, { name := "PI", type := .double, accessFlags := 25, slot := 1, constantValue := 0 }, { name := "TAU", type := .double, accessFlags := 25, slot := 2, constantValue := 0 }, { name := "DEGREES_TO_RADIANS", type := .double, accessFlags := 26, slot := 3, constantValue := 0 }, { name := "RADIANS_TO_DEGREES", type := .double, accessFlags := 26, slot := 4, constantValue := 0 }, { name := "negativeZeroFloatBits", type := .long, accessFlags := 26, slot := 5, constantValue := 0 }, { name := "negativeZeroDoubleBits", type := .long, accessFlags := 26, slot := 6, constantValue := 0 }, { name := "twoToTheDoubleScaleUp", type := .double, accessFlags := 8, slot := 7, constantValue := 0 }, { name := "twoToTheDoubleScaleDown", type := .double, accessFlags := 8, slot := 8, constantValue := 0 }, { name := "$assertionsDisabled", type := .boolean, accessFlags := 4120, slot := 9, constantValue := 0 }]
  methods := #[k17m0, k17m1]
  instanceTypes := #[]
  staticTypes := #[.double, .double, .double, .double, .double, .long, .long, .double, .double, .boolean]
  resolved := Array.replicate 460 none
  statics := none }

def pool18 : Array CpInfo := pool [(2, .class_ 4), (1, u "java/lang/Object"), (0, u "<init>"), (0, u "()V"), (17, .class_ 26), (1, u "jdk/internal/util/Preconditions"), (6, u "checkIndex"), (21, .class_ 56), (0, u "jdk/internal/util/Preconditions$4"), (57, .class_ 115), (0, u "jdk/internal/util/Preconditions$1"), (7, u "SIOOBE_FORMATTER"), (0, u "Ljava/util/function/BiFunction;"), (0, .class_ 126), (0, u "jdk/internal/util/Preconditions$2"), (3, u "AIOOBE_FORMATTER"), (0, .class_ 132), (0, u "jdk/internal/util/Preconditions$3"), (3, u "IOOBE_FORMATTER"), (41, u "(IILjava/util/function/BiFunction;)I")] 15

def k18m0 : Method := { name := "<init>", desc := "()V", sig := { parameters := [], returnType := none }, accessFlags := 1, code := none }
def k18c1 : Code := { maxStack := 3, maxLocals := 3, code := jdk_41_method_11_code, exceptionTable := #[], attributes := #[] }
def k18m1 : Method := { name := "checkIndex", desc := "(IILjava/util/function/BiFunction;)I", sig := { parameters := [.int, .int, (.object "java/util/function/BiFunction")], returnType := some .int }, accessFlags := 9, code := some k18c1 }
/-- jdk/internal/util/Preconditions -/
def k18 : Class := { plain "jdk/internal/util/Preconditions" (some 0) with
  accessFlags := 33
  interfaces := #[]
  cf := some (fileOf pool18 24 #[.nestMembers #[55, 131, 125, 114]] #[{ accessFlags := 1, nameIndex := 5, descriptorIndex := 6, attributes := #[] }, { accessFlags := 9, nameIndex := 33, descriptorIndex := 178, attributes := #[] }] 33 2 #[] #[{ accessFlags := 25, nameIndex := 123, descriptorIndex := 124, attributes := #[] }, { accessFlags := 25, nameIndex := 130, descriptorIndex := 124, attributes := #[] }, { accessFlags := 25, nameIndex := 136, descriptorIndex := 124, attributes := #[] }])
  fields := #[{ name := "SIOOBE_FORMATTER", type := (.object "java/util/function/BiFunction"), accessFlags := 25, slot := 0, constantValue := 0 }, { name := "AIOOBE_FORMATTER", type := (.object "java/util/function/BiFunction"), accessFlags := 25, slot := 1, constantValue := 0 }, { name := "IOOBE_FORMATTER", type := (.object "java/util/function/BiFunction"), accessFlags := 25, slot := 2, constantValue := 0 }]
  methods := #[k18m0, k18m1]
  instanceTypes := #[]
  staticTypes := #[(.object "java/util/function/BiFunction"), (.object "java/util/function/BiFunction"), (.object "java/util/function/BiFunction")]
  resolved := Array.replicate 194 none
  statics := some 2 }

def pool19 : Array CpInfo := pool [(6, .class_ 8), (1, u "java/lang/Object"), (0, u "<init>"), (0, u "()V"), (1, .class_ 14), (1, u "java/lang/StringUTF16"), (31, u "$assertionsDisabled"), (0, u "Z"), (13, u "HI_BYTE_SHIFT"), (0, u "I"), (2, u "LO_BYTE_SHIFT"), (49, .methodref 12 116), (0, .nameAndType 117 118), (0, u "compress"), (0, u "([CI[BII)I"), (3, u "([CII)[B"), (138, u "coderFromArrayLen"), (0, u "([BI)B"), (106, .class_ 371), (1, u "java/lang/StringUTF16$LinesSpliterator"), (58, u "MAX_LENGTH"), (196, .class_ 628), (0, u "java/lang/StringUTF16$CodePointsSpliterator"), (0, .class_ 630), (0, u "java/lang/StringUTF16$CharsSpliterator")] 4

def k19m0 : Method := { name := "<init>", desc := "()V", sig := { parameters := [], returnType := none }, accessFlags := 0, code := none }
def k19c1 : Code := { maxStack := 2, maxLocals := 2, code := jdk_52_method_15_code, exceptionTable := #[], attributes := #[] }
def k19m1 : Method := { name := "coderFromArrayLen", desc := "([BI)B", sig := { parameters := [(.array .byte), .int], returnType := some .byte }, accessFlags := 8, code := some k19c1 }
def k19c2 : Code := { maxStack := 5, maxLocals := 6, code := jdk_52_method_16_code, exceptionTable := #[], attributes := #[] }
def k19m2 : Method := { name := "compress", desc := "([CII)[B", sig := { parameters := [(.array .char), .int, .int], returnType := some (.array .byte) }, accessFlags := 9, code := some k19c2 }
def k19c3 : Code := { maxStack := 3, maxLocals := 7, code := jdk_52_method_21_code, exceptionTable := #[], attributes := #[] }
def k19m3 : Method := { name := "compress", desc := "([CI[BII)I", sig := { parameters := [(.array .char), .int, (.array .byte), .int, .int], returnType := some .int }, accessFlags := 9, code := some k19c3 }
/-- java/lang/StringUTF16 -/
def k19 : Class := { plain "java/lang/StringUTF16" (some 0) with
  accessFlags := 48
  interfaces := #[]
  cf := some (fileOf pool19 12 #[.nestMembers #[627, 629, 369]] #[{ accessFlags := 0, nameIndex := 9, descriptorIndex := 10, attributes := #[] }, { accessFlags := 8, nameIndex := 261, descriptorIndex := 262, attributes := #[] }, { accessFlags := 9, nameIndex := 117, descriptorIndex := 122, attributes := #[] }, { accessFlags := 9, nameIndex := 117, descriptorIndex := 118, attributes := #[] }] 48 6 #[] #[{ accessFlags := 26, nameIndex := 61, descriptorIndex := 62, attributes := #[] }, { accessFlags := 26, nameIndex := 65, descriptorIndex := 62, attributes := #[] }, { accessFlags := 24, nameIndex := 430, descriptorIndex := 62, attributes := #[] }, { accessFlags := 4120, nameIndex := 46, descriptorIndex := 47, attributes := #[] }])
  fields := #[{ name := "HI_BYTE_SHIFT", type := .int, accessFlags := 26, slot := 0, constantValue := 0 }, { name := "LO_BYTE_SHIFT", type := .int, accessFlags := 26, slot := 1, constantValue := 0 }, { name := "MAX_LENGTH", type := .int, accessFlags := 24, slot := 2, constantValue := 0 }, { name := "$assertionsDisabled", type := .boolean, accessFlags := 4120, slot := 3, constantValue := 0 }]
  methods := #[k19m0, k19m1, k19m2, k19m3]
  instanceTypes := #[]
  staticTypes := #[.int, .int, .int, .boolean]
  resolved := Array.replicate 635 none
  statics := none }

def pool20 : Array CpInfo := pool [(9, u "<init>"), (6, .class_ 18), (1, u "java/lang/Object"), (0, u "()V"), (1, .class_ 23), (1, u "jdk/internal/util/ArraysSupport"), (0, u "LOG2_ARRAY_LONG_INDEX_SCALE"), (0, u "I"), (2, u "U"), (0, u "Ljdk/internal/misc/Unsafe;"), (8, u "BIG_ENDIAN"), (0, u "Z"), (8, u "LOG2_BYTE_BIT_SIZE"), (4, u "LOG2_ARRAY_INT_INDEX_SCALE"), (54, u "JLA"), (0, u "Ljdk/internal/access/JavaLangAccess;"), (11, u "LOG2_ARRAY_BOOLEAN_INDEX_SCALE"), (9, u "LOG2_ARRAY_BYTE_INDEX_SCALE"), (5, u "LOG2_ARRAY_CHAR_INDEX_SCALE"), (5, u "LOG2_ARRAY_SHORT_INDEX_SCALE"), (18, u "LOG2_ARRAY_FLOAT_INDEX_SCALE"), (24, u "LOG2_ARRAY_DOUBLE_INDEX_SCALE"), (89, u "T_BOOLEAN"), (2, u "T_CHAR"), (1, u "T_FLOAT"), (1, u "T_DOUBLE"), (1, u "T_BYTE"), (1, u "T_SHORT"), (1, u "T_INT"), (1, u "T_LONG"), (1, u "SOFT_MAX_ARRAY_LENGTH")] 83

def k20m0 : Method := { name := "<init>", desc := "()V", sig := { parameters := [], returnType := none }, accessFlags := 2, code := none }
/-- jdk/internal/util/ArraysSupport -/
def k20 : Class := { plain "jdk/internal/util/ArraysSupport" (some 0) with
  accessFlags := 33
  interfaces := #[]
  cf := some (fileOf pool20 21 #[] #[{ accessFlags := 2, nameIndex := 9, descriptorIndex := 19, attributes := #[] }] 33 16 #[] #[{ accessFlags := 24, nameIndex := 28, descriptorIndex := 29, attributes := #[] }, { accessFlags := 26, nameIndex := 38, descriptorIndex := 39, attributes := #[] }, { accessFlags := 25, nameIndex := 121, descriptorIndex := 25, attributes := #[] }, { accessFlags := 25, nameIndex := 131, descriptorIndex := 25, attributes := #[] }, { accessFlags := 25, nameIndex := 137, descriptorIndex := 25, attributes := #[] }, { accessFlags := 25, nameIndex := 143, descriptorIndex := 25, attributes := #[] }, { accessFlags := 25, nameIndex := 53, descriptorIndex := 25, attributes := #[] }, { accessFlags := 25, nameIndex := 24, descriptorIndex := 25, attributes := #[] }, { accessFlags := 25, nameIndex := 162, descriptorIndex := 25, attributes := #[] }, { accessFlags := 25, nameIndex := 187, descriptorIndex := 25, attributes := #[] }, { accessFlags := 26, nameIndex := 48, descriptorIndex := 25, attributes := #[] }, { accessFlags := 25, nameIndex := 277, descriptorIndex := 25, attributes := #[] }, { accessFlags := 25, nameIndex := 280, descriptorIndex := 25, attributes := #[] }, { accessFlags := 25, nameIndex := 282, descriptorIndex := 25, attributes := #[] }, { accessFlags := 25, nameIndex := 284, descriptorIndex := 25, attributes := #[] }, { accessFlags := 25, nameIndex := 286, descriptorIndex := 25, attributes := #[] }, { accessFlags := 25, nameIndex := 288, descriptorIndex := 25, attributes := #[] }, { accessFlags := 25, nameIndex := 290, descriptorIndex := 25, attributes := #[] }, { accessFlags := 25, nameIndex := 292, descriptorIndex := 25, attributes := #[] }, { accessFlags := 26, nameIndex := 108, descriptorIndex := 109, attributes := #[] }, { accessFlags := 25, nameIndex := 294, descriptorIndex := 25, attributes := #[] }])
  fields := #[{ name := "U", type := (.object "jdk/internal/misc/Unsafe"), accessFlags := 24, slot := 0, constantValue := 0 }, { name := "BIG_ENDIAN", type := .boolean, accessFlags := 26, slot := 1, constantValue := 0 }, { name := "LOG2_ARRAY_BOOLEAN_INDEX_SCALE", type := .int, accessFlags := 25, slot := 2, constantValue := 0 }, { name := "LOG2_ARRAY_BYTE_INDEX_SCALE", type := .int, accessFlags := 25, slot := 3, constantValue := 0 }, { name := "LOG2_ARRAY_CHAR_INDEX_SCALE", type := .int, accessFlags := 25, slot := 4, constantValue := 0 }, { name := "LOG2_ARRAY_SHORT_INDEX_SCALE", type := .int, accessFlags := 25, slot := 5, constantValue := 0 }, { name := "LOG2_ARRAY_INT_INDEX_SCALE", type := .int, accessFlags := 25, slot := 6, constantValue := 0 }, { name := "LOG2_ARRAY_LONG_INDEX_SCALE", type := .int, accessFlags := 25, slot := 7, constantValue := 0 }, { name := "LOG2_ARRAY_FLOAT_INDEX_SCALE", type := .int, accessFlags := 25, slot := 8, constantValue := 0 }, { name := "LOG2_ARRAY_DOUBLE_INDEX_SCALE", type := .int, accessFlags := 25, slot := 9, constantValue := 0 }, { name := "LOG2_BYTE_BIT_SIZE", type := .int, accessFlags := 26, slot := 10, constantValue := 0 }, { name := "T_BOOLEAN", type := .int, accessFlags := 25, slot := 11, constantValue := 0 }, { name := "T_CHAR", type := .int, accessFlags := 25, slot := 12, constantValue := 0 }, { name := "T_FLOAT", type := .int, accessFlags := 25, slot := 13, constantValue := 0 }, { name := "T_DOUBLE", type := .int, accessFlags := 25, slot := 14, constantValue := 0 }, { name := "T_BYTE", type := .int, accessFlags := 25, slot := 15, constantValue := 0 }, { name := "T_SHORT", type := .int, accessFlags := 25, slot := 16, constantValue := 0 }, { name := "T_INT", type := .int, accessFlags := 25, slot := 17, constantValue := 0 }, { name := "T_LONG", type := .int, accessFlags := 25, slot := 18, constantValue := 0 }, { name := "JLA", type := (.object "jdk/internal/access/JavaLangAccess"), accessFlags := 26, slot := 19, constantValue := 0 }, { name := "SOFT_MAX_ARRAY_LENGTH", type := .int, accessFlags := 25, slot := 20, constantValue := 0 }]
  methods := #[k20m0]
  instanceTypes := #[]
  staticTypes := #[(.object "jdk/internal/misc/Unsafe"), .boolean, .int, .int, .int, .int, .int, .int, .int, .int, .int, .int, .int, .int, .int, .int, .int, .int, .int, (.object "jdk/internal/access/JavaLangAccess"), .int]
  resolved := Array.replicate 378 none
  statics := none }

def pool21 : Array CpInfo := pool [(1, u "java/lang/Cloneable"), (0, .class_ 1), (0, u "java/lang/Object"), (0, .class_ 3)] 3

/-- java/lang/Cloneable -/
def k21 : Class := { plain "java/lang/Cloneable" (some 0) with
  accessFlags := 1537
  interfaces := #[]
  cf := some (fileOf pool21 2 #[] #[] 1537 4 #[] #[])
  fields := #[]
  methods := #[]
  instanceTypes := #[]
  staticTypes := #[]
  resolved := Array.replicate 8 none
  statics := none }

/-- the primitive byte -/
def k22 : Class := { plain "byte" none with kind := .primitive 'B', accessFlags := 0x411 }
/-- [B -/
def k23 : Class := { plain "[B" (some 0) with kind := .array 22 .byte, interfaces := #[21, 2], accessFlags := 1041 }

/-- the primitive char -/
def k24 : Class := { plain "char" none with kind := .primitive 'C', accessFlags := 0x411 }
/-- [C -/
def k25 : Class := { plain "[C" (some 0) with kind := .array 24 .char, interfaces := #[21, 2], accessFlags := 1041 }

/-- the primitive int -/
def k26 : Class := { plain "int" none with kind := .primitive 'I', accessFlags := 0x411 }
/-- [I -/
def k27 : Class := { plain "[I" (some 0) with kind := .array 26 .int, interfaces := #[21, 2], accessFlags := 1041 }

def heap : Heap := #[{ cls := 7, slots := #[.long 0, .int 1, .null, .int 0, .null, .int 0, .int 0], vm := .statics 7 },
  { cls := 15, slots := #[.int 0, .int 0, .null, .null, .ref 4, .ref 3, .int 0, .int 0, .long 0], vm := .statics 15 },
  { cls := 18, slots := #[.null, .null, .null], vm := .statics 18 },
  { cls := 23, slots := #[.int 48, .int 49, .int 50, .int 51, .int 52, .int 53, .int 54, .int 55, .int 56, .int 57, .int 48, .int 49, .int 50, .int 51, .int 52, .int 53, .int 54, .int 55, .int 56, .int 57, .int 48, .int 49, .int 50, .int 51, .int 52, .int 53, .int 54, .int 55, .int 56, .int 57, .int 48, .int 49, .int 50, .int 51, .int 52, .int 53, .int 54, .int 55, .int 56, .int 57, .int 48, .int 49, .int 50, .int 51, .int 52, .int 53, .int 54, .int 55, .int 56, .int 57, .int 48, .int 49, .int 50, .int 51, .int 52, .int 53, .int 54, .int 55, .int 56, .int 57, .int 48, .int 49, .int 50, .int 51, .int 52, .int 53, .int 54, .int 55, .int 56, .int 57, .int 48, .int 49, .int 50, .int 51, .int 52, .int 53, .int 54, .int 55, .int 56, .int 57, .int 48, .int 49, .int 50, .int 51, .int 52, .int 53, .int 54, .int 55, .int 56, .int 57, .int 48, .int 49, .int 50, .int 51, .int 52, .int 53, .int 54, .int 55, .int 56, .int 57], vm := .none },
  { cls := 23, slots := #[.int 48, .int 48, .int 48, .int 48, .int 48, .int 48, .int 48, .int 48, .int 48, .int 48, .int 49, .int 49, .int 49, .int 49, .int 49, .int 49, .int 49, .int 49, .int 49, .int 49, .int 50, .int 50, .int 50, .int 50, .int 50, .int 50, .int 50, .int 50, .int 50, .int 50, .int 51, .int 51, .int 51, .int 51, .int 51, .int 51, .int 51, .int 51, .int 51, .int 51, .int 52, .int 52, .int 52, .int 52, .int 52, .int 52, .int 52, .int 52, .int 52, .int 52, .int 53, .int 53, .int 53, .int 53, .int 53, .int 53, .int 53, .int 53, .int 53, .int 53, .int 54, .int 54, .int 54, .int 54, .int 54, .int 54, .int 54, .int 54, .int 54, .int 54, .int 55, .int 55, .int 55, .int 55, .int 55, .int 55, .int 55, .int 55, .int 55, .int 55, .int 56, .int 56, .int 56, .int 56, .int 56, .int 56, .int 56, .int 56, .int 56, .int 56, .int 57, .int 57, .int 57, .int 57, .int 57, .int 57, .int 57, .int 57, .int 57, .int 57], vm := .none }]
def classes : Array Class := #[k0, k1, k2, k3, k4, k5, k6, k7, k8, k9, k10, k11, k12, k13, k14, k15, k16, k17, k18, k19, k20, k21, k22, k23, k24, k25, k26, k27]
def interned : List (Array UInt16 × Addr) := []
def slotsUsed : Nat := 219
def theMethod : MethodId := ⟨1, 1⟩
def args0 : Array Value := #[.int 5, .int 5, .int 5, .int 5, .int 5]
def aboutOver (below : List Frame) : State where
  vm := { classes := classes, interned := interned.toArray }
  heap := heap
  slotsUsed := slotsUsed
  threads := #[{ frames := .invoking theMethod args0 :: below }]
def below0 : List Frame := [.native { method := ⟨0, 0⟩, args := #[] }]
def about1 : State := aboutOver below0
def p0 : Program := .bare "" "" ""
def e0 : Env := launch0.env 0 0 0
theorem w_frames : about1.frames = Frame.invoking theMethod args0 :: below0 := rfl
set_option maxRecDepth 65536 in
theorem w_args : argsFit about1.vm theMethod args0 = true := by decide +kernel
set_option maxRecDepth 65536 in
theorem w_heap : heapFits about1 = true := by decide +kernel
set_option maxRecDepth 65536 in
theorem w_runnable : about1.curStatus? = some .runnable := by decide +kernel
set_option maxRecDepth 65536 in
theorem w_alone : about1.alone = true := by decide +kernel
set_option maxRecDepth 65536 in
theorem w_named : about1.methodNamed? x = some theMethod := by decide +kernel
set_option maxRecDepth 65536 in
theorem w_hears : about1.hears theMethod below0 = true := by decide +kernel
set_option maxRecDepth 65536 in
theorem w_ripe : about1.ripe theMethod args0 below0 = true := by decide +kernel
theorem w_running : about1.status = .running := rfl
set_option maxRecDepth 65536 in
theorem w_room : about1.hasRoom e0.platform room_1 = true :=
  launch0.hasRoom_least _ room_1 (by decide +kernel) (by decide +kernel) (by decide +kernel) (by decide +kernel) (by decide +kernel) (by decide +kernel)
theorem allAtoms_all (ts : List Jvm.Cond) (a : Array Jvm.Value) (st : Jvm.State) : (allAtoms ts).before a st = ts.all (fun c => c.before a st) := by
  induction ts with
  | nil => rfl
  | cons c t ih =>
    show (Jvm.Cond.and c (allAtoms t)).before a st = _
    rw [Jvm.Cond.before_and, ih, List.all_cons]
def words1 : List Jvm.Cond := Jvm.Cond.code x code maxLocals ret :: tables_1
/-- a 'code' word, met by the world's own term for the bytes: nothing is compared byte by byte -/
theorem code_word {y : MethodName} {bytes : ByteArray} {mx : Nat} {rt : Option FieldType} {a : Array Value} {s : State} {m : MethodId} {meth : Method} {c : Code} (h1 : s.methodNamed? y = some m) (h2 : s.vm.method? m = some meth) (h3 : meth.code = some c) (h4 : c.code = bytes)
    (h5 : (c.maxLocals == mx && c.exceptionTable.isEmpty && decide (c.maxStack ≤ mostOperands) && decide (meth.sig.returnType = rt) && !meth.locks && decide (parseMethodDescriptor y.desc = some meth.sig)) = true) : (Jvm.Cond.code y bytes mx rt).before a s = true := by
  simp only [Bool.and_eq_true, beq_iff_eq, Bool.not_eq_true', decide_eq_true_eq] at h5
  obtain ⟨⟨⟨⟨⟨g1, g2⟩, g3⟩, g4⟩, g5⟩, g6⟩ := h5
  simp [Cond.before, Cond.holds, Cond.value, h1, h2, h3, h4, g1, g2, g3, g4, g5, g6]
def isCode : Jvm.Cond → Bool
  | .code _ _ _ _ => true
  | _ => false
theorem all_split {L : List Jvm.Cond} {P : Jvm.Cond → Bool} (h1 : L.all (fun c => isCode c || P c) = true) (h2 : ∀ c ∈ L.filter isCode, P c = true) : L.all P = true := by
  refine List.all_eq_true.mpr fun c hc => ?_
  have h := List.all_eq_true.mp h1 c hc
  rcases Bool.eq_false_or_eq_true (isCode c) with hi | hi
  · exact h2 c (List.mem_filter.mpr ⟨hc, hi⟩)
  · simpa [hi] using h
set_option maxRecDepth 65536 in
theorem w_c0 : (Jvm.Cond.code x code maxLocals ret).before args0 about1 = true := code_word (m := ⟨1, 1⟩) (meth := k1m1) (c := k1c1) (by decide +kernel) rfl rfl rfl (by decide +kernel)
set_option maxRecDepth 65536 in
theorem w_c1 : (Jvm.Cond.code ({ cls := "java/lang/String", name := "<init>", desc := "([C)V" } : Jvm.MethodName) jdk_42_method_3_code (2 : Nat) (Option.none : Option Jvm.ClassFile.FieldType)).before args0 about1 = true := code_word (m := ⟨7, 1⟩) (meth := k7m1) (c := k7c1) (by decide +kernel) rfl rfl rfl (by decide +kernel)
set_option maxRecDepth 65536 in
theorem w_c2 : (Jvm.Cond.code ({ cls := "java/lang/String", name := "<init>", desc := "([CIILjava/lang/Void;)V" } : Jvm.MethodName) jdk_42_method_149_code (6 : Nat) (Option.none : Option Jvm.ClassFile.FieldType)).before args0 about1 = true := code_word (m := ⟨7, 9⟩) (meth := k7m9) (c := k7c9) (by decide +kernel) rfl rfl rfl (by decide +kernel)
set_option maxRecDepth 65536 in
theorem w_c3 : (Jvm.Cond.code ({ cls := "java/lang/Object", name := "<init>", desc := "()V" } : Jvm.MethodName) object_method_1_code (1 : Nat) (Option.none : Option Jvm.ClassFile.FieldType)).before args0 about1 = true := code_word (m := ⟨0, 0⟩) (meth := k0m0) (c := k0c0) (by decide +kernel) rfl rfl rfl (by decide +kernel)
set_option maxRecDepth 65536 in
theorem w_c4 : (Jvm.Cond.code ({ cls := "com/example/need_to_know/needtoknow/ListenAddress", name := "<init>", desc := "(Ljava/lang/String;I)V" } : Jvm.MethodName) prog_5_method_1_code (3 : Nat) (Option.none : Option Jvm.ClassFile.FieldType)).before args0 about1 = true := code_word (m := ⟨8, 0⟩) (meth := k8m0) (c := k8c0) (by decide +kernel) rfl rfl rfl (by decide +kernel)
set_option maxRecDepth 65536 in
theorem w_c5 : (Jvm.Cond.code ({ cls := "com/example/need_to_know/needtoknow/ListenAddress", name := "toString", desc := "()Ljava/lang/String;" } : Jvm.MethodName) prog_5_method_7_code (1 : Nat) (Option.some (Jvm.ClassFile.FieldType.object "java/lang/String"))).before args0 about1 = true := code_word (m := ⟨8, 1⟩) (meth := k8m1) (c := k8c1) (by decide +kernel) rfl rfl rfl (by decide +kernel)
set_option maxRecDepth 65536 in
theorem w_c6 : (Jvm.Cond.code ({ cls := "java/lang/StringBuilder", name := "<init>", desc := "()V" } : Jvm.MethodName) jdk_67_method_1_code (1 : Nat) (Option.none : Option Jvm.ClassFile.FieldType)).before args0 about1 = true := code_word (m := ⟨11, 0⟩) (meth := k11m0) (c := k11c0) (by decide +kernel) rfl rfl rfl (by decide +kernel)
set_option maxRecDepth 65536 in
theorem w_c7 : (Jvm.Cond.code ({ cls := "java/lang/AbstractStringBuilder", name := "<init>", desc := "(I)V" } : Jvm.MethodName) jdk_68_method_2_code (2 : Nat) (Option.none : Option Jvm.ClassFile.FieldType)).before args0 about1 = true := code_word (m := ⟨10, 1⟩) (meth := k10m1) (c := k10c1) (by decide +kernel) rfl rfl rfl (by decide +kernel)
set_option maxRecDepth 65536 in
theorem w_c8 : (Jvm.Cond.code ({ cls := "java/lang/String", name := "contains", desc := "(Ljava/lang/CharSequence;)Z" } : Jvm.MethodName) jdk_42_method_97_code (2 : Nat) (Option.some Jvm.ClassFile.FieldType.boolean)).before args0 about1 = true := code_word (m := ⟨7, 6⟩) (meth := k7m6) (c := k7c6) (by decide +kernel) rfl rfl rfl (by decide +kernel)
set_option maxRecDepth 65536 in
theorem w_c9 : (Jvm.Cond.code ({ cls := "java/lang/String", name := "toString", desc := "()Ljava/lang/String;" } : Jvm.MethodName) jdk_42_method_126_code (1 : Nat) (Option.some (Jvm.ClassFile.FieldType.object "java/lang/String"))).before args0 about1 = true := code_word (m := ⟨7, 7⟩) (meth := k7m7) (c := k7c7) (by decide +kernel) rfl rfl rfl (by decide +kernel)
set_option maxRecDepth 65536 in
theorem w_c10 : (Jvm.Cond.code ({ cls := "java/lang/String", name := "indexOf", desc := "(Ljava/lang/String;)I" } : Jvm.MethodName) jdk_42_method_84_code (3 : Nat) (Option.some Jvm.ClassFile.FieldType.int)).before args0 about1 = true := code_word (m := ⟨7, 5⟩) (meth := k7m5) (c := k7c5) (by decide +kernel) rfl rfl rfl (by decide +kernel)
set_option maxRecDepth 65536 in
theorem w_c11 : (Jvm.Cond.code ({ cls := "java/lang/String", name := "coder", desc := "()B" } : Jvm.MethodName) jdk_42_method_152_code (1 : Nat) (Option.some Jvm.ClassFile.FieldType.byte)).before args0 about1 = true := code_word (m := ⟨7, 11⟩) (meth := k7m11) (c := k7c11) (by decide +kernel) rfl rfl rfl (by decide +kernel)
set_option maxRecDepth 65536 in
theorem w_c12 : (Jvm.Cond.code ({ cls := "java/lang/String", name := "isLatin1", desc := "()Z" } : Jvm.MethodName) jdk_42_method_154_code (1 : Nat) (Option.some Jvm.ClassFile.FieldType.boolean)).before args0 about1 = true := code_word (m := ⟨7, 12⟩) (meth := k7m12) (c := k7c12) (by decide +kernel) rfl rfl rfl (by decide +kernel)
set_option maxRecDepth 65536 in
theorem w_c13 : (Jvm.Cond.code ({ cls := "java/lang/StringLatin1", name := "indexOf", desc := "([B[B)I" } : Jvm.MethodName) jdk_43_method_24_code (2 : Nat) (Option.some Jvm.ClassFile.FieldType.int)).before args0 about1 = true := code_word (m := ⟨12, 2⟩) (meth := k12m2) (c := k12c2) (by decide +kernel) rfl rfl rfl (by decide +kernel)
set_option maxRecDepth 65536 in
theorem w_c14 : (Jvm.Cond.code ({ cls := "java/lang/StringBuilder", name := "append", desc := "(Ljava/lang/String;)Ljava/lang/StringBuilder;" } : Jvm.MethodName) jdk_67_method_7_code (2 : Nat) (Option.some (Jvm.ClassFile.FieldType.object "java/lang/StringBuilder"))).before args0 about1 = true := code_word (m := ⟨11, 1⟩) (meth := k11m1) (c := k11c1) (by decide +kernel) rfl rfl rfl (by decide +kernel)
set_option maxRecDepth 65536 in
theorem w_c15 : (Jvm.Cond.code ({ cls := "java/lang/AbstractStringBuilder", name := "append", desc := "(Ljava/lang/String;)Ljava/lang/AbstractStringBuilder;" } : Jvm.MethodName) jdk_68_method_22_code (3 : Nat) (Option.some (Jvm.ClassFile.FieldType.object "java/lang/AbstractStringBuilder"))).before args0 about1 = true := code_word (m := ⟨10, 4⟩) (meth := k10m4) (c := k10c4) (by decide +kernel) rfl rfl rfl (by decide +kernel)
set_option maxRecDepth 65536 in
theorem w_c16 : (Jvm.Cond.code ({ cls := "java/lang/String", name := "length", desc := "()I" } : Jvm.MethodName) jdk_42_method_54_code (1 : Nat) (Option.some Jvm.ClassFile.FieldType.int)).before args0 about1 = true := code_word (m := ⟨7, 3⟩) (meth := k7m3) (c := k7c3) (by decide +kernel) rfl rfl rfl (by decide +kernel)
set_option maxRecDepth 65536 in
theorem w_c17 : (Jvm.Cond.code ({ cls := "java/lang/AbstractStringBuilder", name := "ensureCapacityInternal", desc := "(I)V" } : Jvm.MethodName) jdk_68_method_9_code (3 : Nat) (Option.none : Option Jvm.ClassFile.FieldType)).before args0 about1 = true := code_word (m := ⟨10, 3⟩) (meth := k10m3) (c := k10c3) (by decide +kernel) rfl rfl rfl (by decide +kernel)
set_option maxRecDepth 65536 in
theorem w_c18 : (Jvm.Cond.code ({ cls := "java/lang/AbstractStringBuilder", name := "putStringAt", desc := "(ILjava/lang/String;)V" } : Jvm.MethodName) jdk_68_method_73_code (3 : Nat) (Option.none : Option Jvm.ClassFile.FieldType)).before args0 about1 = true := code_word (m := ⟨10, 9⟩) (meth := k10m9) (c := k10c9) (by decide +kernel) rfl rfl rfl (by decide +kernel)
set_option maxRecDepth 65536 in
theorem w_c19 : (Jvm.Cond.code ({ cls := "java/lang/AbstractStringBuilder", name := "inflateIfNeededFor", desc := "(Ljava/lang/String;)V" } : Jvm.MethodName) jdk_68_method_71_code (2 : Nat) (Option.none : Option Jvm.ClassFile.FieldType)).before args0 about1 = true := code_word (m := ⟨10, 8⟩) (meth := k10m8) (c := k10c8) (by decide +kernel) rfl rfl rfl (by decide +kernel)
set_option maxRecDepth 65536 in
theorem w_c20 : (Jvm.Cond.code ({ cls := "java/lang/String", name := "getBytes", desc := "([BIB)V" } : Jvm.MethodName) jdk_42_method_147_code (4 : Nat) (Option.none : Option Jvm.ClassFile.FieldType)).before args0 about1 = true := code_word (m := ⟨7, 8⟩) (meth := k7m8) (c := k7c8) (by decide +kernel) rfl rfl rfl (by decide +kernel)
set_option maxRecDepth 65536 in
theorem w_c21 : (Jvm.Cond.code ({ cls := "java/lang/StringBuilder", name := "append", desc := "(I)Ljava/lang/StringBuilder;" } : Jvm.MethodName) jdk_67_method_15_code (2 : Nat) (Option.some (Jvm.ClassFile.FieldType.object "java/lang/StringBuilder"))).before args0 about1 = true := code_word (m := ⟨11, 2⟩) (meth := k11m2) (c := k11c2) (by decide +kernel) rfl rfl rfl (by decide +kernel)
set_option maxRecDepth 65536 in
theorem w_c22 : (Jvm.Cond.code ({ cls := "java/lang/AbstractStringBuilder", name := "append", desc := "(I)Ljava/lang/AbstractStringBuilder;" } : Jvm.MethodName) jdk_68_method_32_code (4 : Nat) (Option.some (Jvm.ClassFile.FieldType.object "java/lang/AbstractStringBuilder"))).before args0 about1 = true := code_word (m := ⟨10, 5⟩) (meth := k10m5) (c := k10c5) (by decide +kernel) rfl rfl rfl (by decide +kernel)
set_option maxRecDepth 65536 in
theorem w_c23 : (Jvm.Cond.code ({ cls := "java/lang/Integer", name := "stringSize", desc := "(I)I" } : Jvm.MethodName) jdk_33_method_13_code (4 : Nat) (Option.some Jvm.ClassFile.FieldType.int)).before args0 about1 = true := code_word (m := ⟨15, 1⟩) (meth := k15m1) (c := k15c1) (by decide +kernel) rfl rfl rfl (by decide +kernel)
set_option maxRecDepth 65536 in
theorem w_c24 : (Jvm.Cond.code ({ cls := "java/lang/AbstractStringBuilder", name := "isLatin1", desc := "()Z" } : Jvm.MethodName) jdk_68_method_68_code (1 : Nat) (Option.some Jvm.ClassFile.FieldType.boolean)).before args0 about1 = true := code_word (m := ⟨10, 7⟩) (meth := k10m7) (c := k10c7) (by decide +kernel) rfl rfl rfl (by decide +kernel)
set_option maxRecDepth 65536 in
theorem w_c25 : (Jvm.Cond.code ({ cls := "java/lang/Integer", name := "getChars", desc := "(II[B)I" } : Jvm.MethodName) jdk_33_method_12_code (7 : Nat) (Option.some Jvm.ClassFile.FieldType.int)).before args0 about1 = true := code_word (m := ⟨15, 0⟩) (meth := k15m0) (c := k15c0) (by decide +kernel) rfl rfl rfl (by decide +kernel)
set_option maxRecDepth 65536 in
theorem w_c26 : (Jvm.Cond.code ({ cls := "java/lang/StringBuilder", name := "toString", desc := "()Ljava/lang/String;" } : Jvm.MethodName) jdk_67_method_42_code (1 : Nat) (Option.some (Jvm.ClassFile.FieldType.object "java/lang/String"))).before args0 about1 = true := code_word (m := ⟨11, 3⟩) (meth := k11m3) (c := k11c3) (by decide +kernel) rfl rfl rfl (by decide +kernel)
set_option maxRecDepth 65536 in
theorem w_c27 : (Jvm.Cond.code ({ cls := "java/lang/String", name := "<init>", desc := "(Ljava/lang/StringBuilder;)V" } : Jvm.MethodName) jdk_42_method_53_code (2 : Nat) (Option.none : Option Jvm.ClassFile.FieldType)).before args0 about1 = true := code_word (m := ⟨7, 2⟩) (meth := k7m2) (c := k7c2) (by decide +kernel) rfl rfl rfl (by decide +kernel)
set_option maxRecDepth 65536 in
theorem w_c28 : (Jvm.Cond.code ({ cls := "java/lang/String", name := "<init>", desc := "(Ljava/lang/AbstractStringBuilder;Ljava/lang/Void;)V" } : Jvm.MethodName) jdk_42_method_150_code (5 : Nat) (Option.none : Option Jvm.ClassFile.FieldType)).before args0 about1 = true := code_word (m := ⟨7, 10⟩) (meth := k7m10) (c := k7c10) (by decide +kernel) rfl rfl rfl (by decide +kernel)
set_option maxRecDepth 65536 in
theorem w_c29 : (Jvm.Cond.code ({ cls := "java/lang/AbstractStringBuilder", name := "getValue", desc := "()[B" } : Jvm.MethodName) jdk_68_method_64_code (1 : Nat) (Option.some (Jvm.ClassFile.FieldType.array Jvm.ClassFile.FieldType.byte))).before args0 about1 = true := code_word (m := ⟨10, 6⟩) (meth := k10m6) (c := k10c6) (by decide +kernel) rfl rfl rfl (by decide +kernel)
set_option maxRecDepth 65536 in
theorem w_c30 : (Jvm.Cond.code ({ cls := "java/lang/StringBuilder", name := "length", desc := "()I" } : Jvm.MethodName) jdk_67_method_93_code (1 : Nat) (Option.some Jvm.ClassFile.FieldType.int)).before args0 about1 = true := code_word (m := ⟨11, 4⟩) (meth := k11m4) (c := k11c4) (by decide +kernel) rfl rfl rfl (by decide +kernel)
set_option maxRecDepth 65536 in
theorem w_c31 : (Jvm.Cond.code ({ cls := "java/lang/AbstractStringBuilder", name := "length", desc := "()I" } : Jvm.MethodName) jdk_68_method_6_code (1 : Nat) (Option.some Jvm.ClassFile.FieldType.int)).before args0 about1 = true := code_word (m := ⟨10, 2⟩) (meth := k10m2) (c := k10c2) (by decide +kernel) rfl rfl rfl (by decide +kernel)
set_option maxRecDepth 65536 in
theorem w_c32 : (Jvm.Cond.code ({ cls := "java/util/Arrays", name := "copyOfRange", desc := "([BII)[B" } : Jvm.MethodName) jdk_65_method_132_code (3 : Nat) (Option.some (Jvm.ClassFile.FieldType.array Jvm.ClassFile.FieldType.byte))).before args0 about1 = true := code_word (m := ⟨16, 2⟩) (meth := k16m2) (c := k16c2) (by decide +kernel) rfl rfl rfl (by decide +kernel)
set_option maxRecDepth 65536 in
theorem w_c33 : (Jvm.Cond.code ({ cls := "java/util/Arrays", name := "copyOfRangeByte", desc := "([BII)[B" } : Jvm.MethodName) jdk_65_method_133_code (5 : Nat) (Option.some (Jvm.ClassFile.FieldType.array Jvm.ClassFile.FieldType.byte))).before args0 about1 = true := code_word (m := ⟨16, 3⟩) (meth := k16m3) (c := k16c3) (by decide +kernel) rfl rfl rfl (by decide +kernel)
set_option maxRecDepth 65536 in
theorem w_c34 : (Jvm.Cond.code ({ cls := "java/util/Arrays", name := "checkLength", desc := "(II)V" } : Jvm.MethodName) jdk_65_method_131_code (2 : Nat) (Option.none : Option Jvm.ClassFile.FieldType)).before args0 about1 = true := code_word (m := ⟨16, 1⟩) (meth := k16m1) (c := k16c1) (by decide +kernel) rfl rfl rfl (by decide +kernel)
set_option maxRecDepth 65536 in
theorem w_c35 : (Jvm.Cond.code ({ cls := "java/lang/Math", name := "min", desc := "(II)I" } : Jvm.MethodName) jdk_29_method_69_code (2 : Nat) (Option.some Jvm.ClassFile.FieldType.int)).before args0 about1 = true := code_word (m := ⟨17, 1⟩) (meth := k17m1) (c := k17c1) (by decide +kernel) rfl rfl rfl (by decide +kernel)
set_option maxRecDepth 65536 in
theorem w_c36 : (Jvm.Cond.code ({ cls := "com/example/need_to_know/needtoknow/ListenAddressToStringPinLaw", name := "at", desc := "(Ljava/lang/String;IC)Z" } : Jvm.MethodName) method_3_code (3 : Nat) (Option.some Jvm.ClassFile.FieldType.boolean)).before args0 about1 = true := code_word (m := ⟨1, 2⟩) (meth := k1m2) (c := k1c2) (by decide +kernel) rfl rfl rfl (by decide +kernel)
set_option maxRecDepth 65536 in
theorem w_c37 : (Jvm.Cond.code ({ cls := "java/lang/String", name := "charAt", desc := "(I)C" } : Jvm.MethodName) jdk_42_method_56_code (2 : Nat) (Option.some Jvm.ClassFile.FieldType.char)).before args0 about1 = true := code_word (m := ⟨7, 4⟩) (meth := k7m4) (c := k7c4) (by decide +kernel) rfl rfl rfl (by decide +kernel)
set_option maxRecDepth 65536 in
theorem w_c38 : (Jvm.Cond.code ({ cls := "java/lang/StringLatin1", name := "charAt", desc := "([BI)C" } : Jvm.MethodName) jdk_43_method_2_code (2 : Nat) (Option.some Jvm.ClassFile.FieldType.char)).before args0 about1 = true := code_word (m := ⟨12, 1⟩) (meth := k12m1) (c := k12c1) (by decide +kernel) rfl rfl rfl (by decide +kernel)
set_option maxRecDepth 65536 in
theorem w_c39 : (Jvm.Cond.code ({ cls := "java/lang/String", name := "checkIndex", desc := "(II)V" } : Jvm.MethodName) jdk_42_method_155_code (2 : Nat) (Option.none : Option Jvm.ClassFile.FieldType)).before args0 about1 = true := code_word (m := ⟨7, 13⟩) (meth := k7m13) (c := k7c13) (by decide +kernel) rfl rfl rfl (by decide +kernel)
set_option maxRecDepth 65536 in
theorem w_c40 : (Jvm.Cond.code ({ cls := "jdk/internal/util/Preconditions", name := "checkIndex", desc := "(IILjava/util/function/BiFunction;)I" } : Jvm.MethodName) jdk_41_method_11_code (3 : Nat) (Option.some Jvm.ClassFile.FieldType.int)).before args0 about1 = true := code_word (m := ⟨18, 1⟩) (meth := k18m1) (c := k18c1) (by decide +kernel) rfl rfl rfl (by decide +kernel)
set_option maxRecDepth 65536 in
theorem w_c41 : (Jvm.Cond.code ({ cls := "com/example/need_to_know/needtoknow/ListenAddressToStringPinLaw", name := "digit", desc := "(Ljava/lang/String;IIII)Z" } : Jvm.MethodName) method_5_code (6 : Nat) (Option.some Jvm.ClassFile.FieldType.boolean)).before args0 about1 = true := code_word (m := ⟨1, 4⟩) (meth := k1m4) (c := k1c4) (by decide +kernel) rfl rfl rfl (by decide +kernel)
set_option maxRecDepth 65536 in
theorem w_c42 : (Jvm.Cond.code ({ cls := "com/example/need_to_know/needtoknow/ListenAddressToStringPinLaw", name := "pow10", desc := "(I)I" } : Jvm.MethodName) method_4_code (1 : Nat) (Option.some Jvm.ClassFile.FieldType.int)).before args0 about1 = true := code_word (m := ⟨1, 3⟩) (meth := k1m3) (c := k1c3) (by decide +kernel) rfl rfl rfl (by decide +kernel)
set_option maxRecDepth 65536 in
theorem w_c43 : (Jvm.Cond.code ({ cls := "java/lang/StringUTF16", name := "compress", desc := "([CII)[B" } : Jvm.MethodName) jdk_52_method_16_code (6 : Nat) (Option.some (Jvm.ClassFile.FieldType.array Jvm.ClassFile.FieldType.byte))).before args0 about1 = true := code_word (m := ⟨19, 2⟩) (meth := k19m2) (c := k19c2) (by decide +kernel) rfl rfl rfl (by decide +kernel)
set_option maxRecDepth 65536 in
theorem w_c44 : (Jvm.Cond.code ({ cls := "java/lang/StringUTF16", name := "compress", desc := "([CI[BII)I" } : Jvm.MethodName) jdk_52_method_21_code (7 : Nat) (Option.some Jvm.ClassFile.FieldType.int)).before args0 about1 = true := code_word (m := ⟨19, 3⟩) (meth := k19m3) (c := k19c3) (by decide +kernel) rfl rfl rfl (by decide +kernel)
set_option maxRecDepth 65536 in
theorem w_c45 : (Jvm.Cond.code ({ cls := "java/lang/StringUTF16", name := "coderFromArrayLen", desc := "([BI)B" } : Jvm.MethodName) jdk_52_method_15_code (2 : Nat) (Option.some Jvm.ClassFile.FieldType.byte)).before args0 about1 = true := code_word (m := ⟨19, 1⟩) (meth := k19m1) (c := k19c1) (by decide +kernel) rfl rfl rfl (by decide +kernel)
set_option maxRecDepth 65536 in
theorem w_c46 : (Jvm.Cond.code ({ cls := "java/lang/StringLatin1", name := "indexOf", desc := "([BI[BII)I" } : Jvm.MethodName) jdk_43_method_25_code (11 : Nat) (Option.some Jvm.ClassFile.FieldType.int)).before args0 about1 = true := code_word (m := ⟨12, 3⟩) (meth := k12m3) (c := k12c3) (by decide +kernel) rfl rfl rfl (by decide +kernel)
def codes1 : List Jvm.Cond := [Jvm.Cond.code x code maxLocals ret, Jvm.Cond.code ({ cls := "java/lang/String", name := "<init>", desc := "([C)V" } : Jvm.MethodName) jdk_42_method_3_code (2 : Nat) (Option.none : Option Jvm.ClassFile.FieldType), Jvm.Cond.code ({ cls := "java/lang/String", name := "<init>", desc := "([CIILjava/lang/Void;)V" } : Jvm.MethodName) jdk_42_method_149_code (6 : Nat) (Option.none : Option Jvm.ClassFile.FieldType), Jvm.Cond.code ({ cls := "java/lang/Object", name := "<init>", desc := "()V" } : Jvm.MethodName) object_method_1_code (1 : Nat) (Option.none : Option Jvm.ClassFile.FieldType), Jvm.Cond.code ({ cls := "com/example/need_to_know/needtoknow/ListenAddress", name := "<init>", desc := "(Ljava/lang/String;I)V" } : Jvm.MethodName) prog_5_method_1_code (3 : Nat) (Option.none : Option Jvm.ClassFile.FieldType), Jvm.Cond.code ({ cls := "com/example/need_to_know/needtoknow/ListenAddress", name := "toString", desc := "()Ljava/lang/String;" } : Jvm.MethodName) prog_5_method_7_code (1 : Nat) (Option.some (Jvm.ClassFile.FieldType.object "java/lang/String")), Jvm.Cond.code ({ cls := "java/lang/StringBuilder", name := "<init>", desc := "()V" } : Jvm.MethodName) jdk_67_method_1_code (1 : Nat) (Option.none : Option Jvm.ClassFile.FieldType), Jvm.Cond.code ({ cls := "java/lang/AbstractStringBuilder", name := "<init>", desc := "(I)V" } : Jvm.MethodName) jdk_68_method_2_code (2 : Nat) (Option.none : Option Jvm.ClassFile.FieldType), Jvm.Cond.code ({ cls := "java/lang/String", name := "contains", desc := "(Ljava/lang/CharSequence;)Z" } : Jvm.MethodName) jdk_42_method_97_code (2 : Nat) (Option.some Jvm.ClassFile.FieldType.boolean), Jvm.Cond.code ({ cls := "java/lang/String", name := "toString", desc := "()Ljava/lang/String;" } : Jvm.MethodName) jdk_42_method_126_code (1 : Nat) (Option.some (Jvm.ClassFile.FieldType.object "java/lang/String")), Jvm.Cond.code ({ cls := "java/lang/String", name := "indexOf", desc := "(Ljava/lang/String;)I" } : Jvm.MethodName) jdk_42_method_84_code (3 : Nat) (Option.some Jvm.ClassFile.FieldType.int), Jvm.Cond.code ({ cls := "java/lang/String", name := "coder", desc := "()B" } : Jvm.MethodName) jdk_42_method_152_code (1 : Nat) (Option.some Jvm.ClassFile.FieldType.byte), Jvm.Cond.code ({ cls := "java/lang/String", name := "isLatin1", desc := "()Z" } : Jvm.MethodName) jdk_42_method_154_code (1 : Nat) (Option.some Jvm.ClassFile.FieldType.boolean), Jvm.Cond.code ({ cls := "java/lang/StringLatin1", name := "indexOf", desc := "([B[B)I" } : Jvm.MethodName) jdk_43_method_24_code (2 : Nat) (Option.some Jvm.ClassFile.FieldType.int), Jvm.Cond.code ({ cls := "java/lang/StringBuilder", name := "append", desc := "(Ljava/lang/String;)Ljava/lang/StringBuilder;" } : Jvm.MethodName) jdk_67_method_7_code (2 : Nat) (Option.some (Jvm.ClassFile.FieldType.object "java/lang/StringBuilder")), Jvm.Cond.code ({ cls := "java/lang/AbstractStringBuilder", name := "append", desc := "(Ljava/lang/String;)Ljava/lang/AbstractStringBuilder;" } : Jvm.MethodName) jdk_68_method_22_code (3 : Nat) (Option.some (Jvm.ClassFile.FieldType.object "java/lang/AbstractStringBuilder")), Jvm.Cond.code ({ cls := "java/lang/String", name := "length", desc := "()I" } : Jvm.MethodName) jdk_42_method_54_code (1 : Nat) (Option.some Jvm.ClassFile.FieldType.int), Jvm.Cond.code ({ cls := "java/lang/AbstractStringBuilder", name := "ensureCapacityInternal", desc := "(I)V" } : Jvm.MethodName) jdk_68_method_9_code (3 : Nat) (Option.none : Option Jvm.ClassFile.FieldType), Jvm.Cond.code ({ cls := "java/lang/AbstractStringBuilder", name := "putStringAt", desc := "(ILjava/lang/String;)V" } : Jvm.MethodName) jdk_68_method_73_code (3 : Nat) (Option.none : Option Jvm.ClassFile.FieldType), Jvm.Cond.code ({ cls := "java/lang/AbstractStringBuilder", name := "inflateIfNeededFor", desc := "(Ljava/lang/String;)V" } : Jvm.MethodName) jdk_68_method_71_code (2 : Nat) (Option.none : Option Jvm.ClassFile.FieldType), Jvm.Cond.code ({ cls := "java/lang/String", name := "getBytes", desc := "([BIB)V" } : Jvm.MethodName) jdk_42_method_147_code (4 : Nat) (Option.none : Option Jvm.ClassFile.FieldType), Jvm.Cond.code ({ cls := "java/lang/StringBuilder", name := "append", desc := "(I)Ljava/lang/StringBuilder;" } : Jvm.MethodName) jdk_67_method_15_code (2 : Nat) (Option.some (Jvm.ClassFile.FieldType.object "java/lang/StringBuilder")), Jvm.Cond.code ({ cls := "java/lang/AbstractStringBuilder", name := "append", desc := "(I)Ljava/lang/AbstractStringBuilder;" } : Jvm.MethodName) jdk_68_method_32_code (4 : Nat) (Option.some (Jvm.ClassFile.FieldType.object "java/lang/AbstractStringBuilder")), Jvm.Cond.code ({ cls := "java/lang/Integer", name := "stringSize", desc := "(I)I" } : Jvm.MethodName) jdk_33_method_13_code (4 : Nat) (Option.some Jvm.ClassFile.FieldType.int), Jvm.Cond.code ({ cls := "java/lang/AbstractStringBuilder", name := "isLatin1", desc := "()Z" } : Jvm.MethodName) jdk_68_method_68_code (1 : Nat) (Option.some Jvm.ClassFile.FieldType.boolean), Jvm.Cond.code ({ cls := "java/lang/Integer", name := "getChars", desc := "(II[B)I" } : Jvm.MethodName) jdk_33_method_12_code (7 : Nat) (Option.some Jvm.ClassFile.FieldType.int), Jvm.Cond.code ({ cls := "java/lang/StringBuilder", name := "toString", desc := "()Ljava/lang/String;" } : Jvm.MethodName) jdk_67_method_42_code (1 : Nat) (Option.some (Jvm.ClassFile.FieldType.object "java/lang/String")), Jvm.Cond.code ({ cls := "java/lang/String", name := "<init>", desc := "(Ljava/lang/StringBuilder;)V" } : Jvm.MethodName) jdk_42_method_53_code (2 : Nat) (Option.none : Option Jvm.ClassFile.FieldType), Jvm.Cond.code ({ cls := "java/lang/String", name := "<init>", desc := "(Ljava/lang/AbstractStringBuilder;Ljava/lang/Void;)V" } : Jvm.MethodName) jdk_42_method_150_code (5 : Nat) (Option.none : Option Jvm.ClassFile.FieldType), Jvm.Cond.code ({ cls := "java/lang/AbstractStringBuilder", name := "getValue", desc := "()[B" } : Jvm.MethodName) jdk_68_method_64_code (1 : Nat) (Option.some (Jvm.ClassFile.FieldType.array Jvm.ClassFile.FieldType.byte)), Jvm.Cond.code ({ cls := "java/lang/StringBuilder", name := "length", desc := "()I" } : Jvm.MethodName) jdk_67_method_93_code (1 : Nat) (Option.some Jvm.ClassFile.FieldType.int), Jvm.Cond.code ({ cls := "java/lang/AbstractStringBuilder", name := "length", desc := "()I" } : Jvm.MethodName) jdk_68_method_6_code (1 : Nat) (Option.some Jvm.ClassFile.FieldType.int), Jvm.Cond.code ({ cls := "java/util/Arrays", name := "copyOfRange", desc := "([BII)[B" } : Jvm.MethodName) jdk_65_method_132_code (3 : Nat) (Option.some (Jvm.ClassFile.FieldType.array Jvm.ClassFile.FieldType.byte)), Jvm.Cond.code ({ cls := "java/util/Arrays", name := "copyOfRangeByte", desc := "([BII)[B" } : Jvm.MethodName) jdk_65_method_133_code (5 : Nat) (Option.some (Jvm.ClassFile.FieldType.array Jvm.ClassFile.FieldType.byte)), Jvm.Cond.code ({ cls := "java/util/Arrays", name := "checkLength", desc := "(II)V" } : Jvm.MethodName) jdk_65_method_131_code (2 : Nat) (Option.none : Option Jvm.ClassFile.FieldType), Jvm.Cond.code ({ cls := "java/lang/Math", name := "min", desc := "(II)I" } : Jvm.MethodName) jdk_29_method_69_code (2 : Nat) (Option.some Jvm.ClassFile.FieldType.int), Jvm.Cond.code ({ cls := "com/example/need_to_know/needtoknow/ListenAddressToStringPinLaw", name := "at", desc := "(Ljava/lang/String;IC)Z" } : Jvm.MethodName) method_3_code (3 : Nat) (Option.some Jvm.ClassFile.FieldType.boolean), Jvm.Cond.code ({ cls := "java/lang/String", name := "charAt", desc := "(I)C" } : Jvm.MethodName) jdk_42_method_56_code (2 : Nat) (Option.some Jvm.ClassFile.FieldType.char), Jvm.Cond.code ({ cls := "java/lang/StringLatin1", name := "charAt", desc := "([BI)C" } : Jvm.MethodName) jdk_43_method_2_code (2 : Nat) (Option.some Jvm.ClassFile.FieldType.char), Jvm.Cond.code ({ cls := "java/lang/String", name := "checkIndex", desc := "(II)V" } : Jvm.MethodName) jdk_42_method_155_code (2 : Nat) (Option.none : Option Jvm.ClassFile.FieldType), Jvm.Cond.code ({ cls := "jdk/internal/util/Preconditions", name := "checkIndex", desc := "(IILjava/util/function/BiFunction;)I" } : Jvm.MethodName) jdk_41_method_11_code (3 : Nat) (Option.some Jvm.ClassFile.FieldType.int), Jvm.Cond.code ({ cls := "com/example/need_to_know/needtoknow/ListenAddressToStringPinLaw", name := "digit", desc := "(Ljava/lang/String;IIII)Z" } : Jvm.MethodName) method_5_code (6 : Nat) (Option.some Jvm.ClassFile.FieldType.boolean), Jvm.Cond.code ({ cls := "com/example/need_to_know/needtoknow/ListenAddressToStringPinLaw", name := "pow10", desc := "(I)I" } : Jvm.MethodName) method_4_code (1 : Nat) (Option.some Jvm.ClassFile.FieldType.int), Jvm.Cond.code ({ cls := "java/lang/StringUTF16", name := "compress", desc := "([CII)[B" } : Jvm.MethodName) jdk_52_method_16_code (6 : Nat) (Option.some (Jvm.ClassFile.FieldType.array Jvm.ClassFile.FieldType.byte)), Jvm.Cond.code ({ cls := "java/lang/StringUTF16", name := "compress", desc := "([CI[BII)I" } : Jvm.MethodName) jdk_52_method_21_code (7 : Nat) (Option.some Jvm.ClassFile.FieldType.int), Jvm.Cond.code ({ cls := "java/lang/StringUTF16", name := "coderFromArrayLen", desc := "([BI)B" } : Jvm.MethodName) jdk_52_method_15_code (2 : Nat) (Option.some Jvm.ClassFile.FieldType.byte), Jvm.Cond.code ({ cls := "java/lang/StringLatin1", name := "indexOf", desc := "([BI[BII)I" } : Jvm.MethodName) jdk_43_method_25_code (11 : Nat) (Option.some Jvm.ClassFile.FieldType.int)]
set_option maxRecDepth 65536 in
theorem codes_eq : words1.filter isCode = codes1 := rfl
theorem w_codes : ∀ c ∈ words1.filter isCode, c.before args0 about1 = true := by
  rw [codes_eq]
  intro c hc
  simp only [codes1, List.mem_cons, List.not_mem_nil, or_false] at hc
  rcases hc with rfl | rfl | rfl | rfl | rfl | rfl | rfl | rfl | rfl | rfl | rfl | rfl | rfl | rfl | rfl | rfl | rfl | rfl | rfl | rfl | rfl | rfl | rfl | rfl | rfl | rfl | rfl | rfl | rfl | rfl | rfl | rfl | rfl | rfl | rfl | rfl | rfl | rfl | rfl | rfl | rfl | rfl | rfl | rfl | rfl | rfl | rfl
  · exact w_c0
  · exact w_c1
  · exact w_c2
  · exact w_c3
  · exact w_c4
  · exact w_c5
  · exact w_c6
  · exact w_c7
  · exact w_c8
  · exact w_c9
  · exact w_c10
  · exact w_c11
  · exact w_c12
  · exact w_c13
  · exact w_c14
  · exact w_c15
  · exact w_c16
  · exact w_c17
  · exact w_c18
  · exact w_c19
  · exact w_c20
  · exact w_c21
  · exact w_c22
  · exact w_c23
  · exact w_c24
  · exact w_c25
  · exact w_c26
  · exact w_c27
  · exact w_c28
  · exact w_c29
  · exact w_c30
  · exact w_c31
  · exact w_c32
  · exact w_c33
  · exact w_c34
  · exact w_c35
  · exact w_c36
  · exact w_c37
  · exact w_c38
  · exact w_c39
  · exact w_c40
  · exact w_c41
  · exact w_c42
  · exact w_c43
  · exact w_c44
  · exact w_c45
  · exact w_c46
set_option maxRecDepth 65536 in
theorem w_t1 : (words1.take 24).all (fun c => isCode c || c.before args0 about1) = true := by decide +kernel
set_option maxRecDepth 65536 in
theorem w_t2 : ((words1.drop 24).take 24).all (fun c => isCode c || c.before args0 about1) = true := by decide +kernel
set_option maxRecDepth 65536 in
theorem w_t3 : (((words1.drop 24).drop 24).take 24).all (fun c => isCode c || c.before args0 about1) = true := by decide +kernel
set_option maxRecDepth 65536 in
theorem w_t4 : ((((words1.drop 24).drop 24).drop 24).take 24).all (fun c => isCode c || c.before args0 about1) = true := by decide +kernel
set_option maxRecDepth 65536 in
theorem w_t5 : (((((words1.drop 24).drop 24).drop 24).drop 24).take 24).all (fun c => isCode c || c.before args0 about1) = true := by decide +kernel
set_option maxRecDepth 65536 in
theorem w_t6 : ((((((words1.drop 24).drop 24).drop 24).drop 24).drop 24).take 24).all (fun c => isCode c || c.before args0 about1) = true := by decide +kernel
set_option maxRecDepth 65536 in
theorem w_t7 : (((((((words1.drop 24).drop 24).drop 24).drop 24).drop 24).drop 24).take 24).all (fun c => isCode c || c.before args0 about1) = true := by decide +kernel
set_option maxRecDepth 65536 in
theorem w_t8 : ((((((((words1.drop 24).drop 24).drop 24).drop 24).drop 24).drop 24).drop 24).take 24).all (fun c => isCode c || c.before args0 about1) = true := by decide +kernel
set_option maxRecDepth 65536 in
theorem w_t9 : (((((((((words1.drop 24).drop 24).drop 24).drop 24).drop 24).drop 24).drop 24).drop 24).take 24).all (fun c => isCode c || c.before args0 about1) = true := by decide +kernel
set_option maxRecDepth 65536 in
theorem w_t10 : ((((((((((words1.drop 24).drop 24).drop 24).drop 24).drop 24).drop 24).drop 24).drop 24).drop 24).take 24).all (fun c => isCode c || c.before args0 about1) = true := by decide +kernel
set_option maxRecDepth 65536 in
theorem w_t11 : ((((((((((words1.drop 24).drop 24).drop 24).drop 24).drop 24).drop 24).drop 24).drop 24).drop 24).drop 24).all (fun c => isCode c || c.before args0 about1) = true := by decide +kernel
theorem w_tables : (allAtoms (Jvm.Cond.code x code maxLocals ret :: tables_1)).before args0 about1 = true := by
  rw [allAtoms_all]
  show words1.all (fun c => c.before args0 about1) = true
  refine all_split ?_ w_codes
  rw [← List.take_append_drop 24 words1, List.all_append, w_t1, ← List.take_append_drop 24 (words1.drop 24), List.all_append, w_t2, ← List.take_append_drop 24 ((words1.drop 24).drop 24), List.all_append, w_t3, ← List.take_append_drop 24 (((words1.drop 24).drop 24).drop 24), List.all_append, w_t4, ← List.take_append_drop 24 ((((words1.drop 24).drop 24).drop 24).drop 24), List.all_append, w_t5, ← List.take_append_drop 24 (((((words1.drop 24).drop 24).drop 24).drop 24).drop 24), List.all_append, w_t6, ← List.take_append_drop 24 ((((((words1.drop 24).drop 24).drop 24).drop 24).drop 24).drop 24), List.all_append, w_t7, ← List.take_append_drop 24 (((((((words1.drop 24).drop 24).drop 24).drop 24).drop 24).drop 24).drop 24), List.all_append, w_t8, ← List.take_append_drop 24 ((((((((words1.drop 24).drop 24).drop 24).drop 24).drop 24).drop 24).drop 24).drop 24), List.all_append, w_t9, ← List.take_append_drop 24 (((((((((words1.drop 24).drop 24).drop 24).drop 24).drop 24).drop 24).drop 24).drop 24).drop 24), List.all_append, w_t10, w_t11]
  rfl
set_option maxRecDepth 65536 in
theorem w_rest : rest_1_c.before args0 about1 = true := by decide +kernel
set_option maxRecDepth 65536 in
theorem w_case : (Jvm.Cond.and given_1 narrow_1).before args0 about1 = true := by decide +kernel
set_option maxRecDepth 65536 in
theorem w_consts : constsHeld consts_1 about1 := Jvm.Lit.constsHeldB_iff.mp (by decide +kernel)
theorem w_applies : (headSpec (Jvm.Cond.code x code maxLocals ret :: tables_1) room_1).applies x e0.platform about1 = true :=
  (Spec.applies_iff w_frames).mpr ⟨w_running, w_runnable, w_alone, w_named, w_hears, w_ripe, w_room, w_tables⟩
theorem atStart : AtStart classFile x code maxLocals ret World_1 tables_1 room_1 Calls_1 rest_1 Pre_1 launch0 p0 e0 about1 theMethod args0 below0 :=
  ⟨lists_1, trivial, launch0.admits_env _ _ _, launch0.least_env, fairChoices_fair.cas, fairChoices_fair.clock, w_frames, w_args, w_heap, w_applies, ⟨w_consts, trivial⟩, w_rest, w_case⟩
end start1
theorem witness_1 : WitnessClaimed_1 := ⟨start1.p0, start1.e0, start1.about1, start1.theMethod, start1.args0, start1.below0, start1.atStart⟩
end Jvm.Pilot.@@N@@
