import JvmDerived
import JvmDerived.Pilot.@@N@@Statement
import JvmDerived.Pilot.@@N@@Code
set_option linter.unusedVariables false
set_option linter.unusedSimpArgs false
namespace Jvm.OwnW
open Sem ClassFile Op Lib Jvm.Stand Jvm.Free Jvm.LawKit Jvm.RoadKit
theorem adr_ne {a b : Nat} (h : a < b ∨ b < a) : @Ne Addr a b := fun z => by
  have z : @Eq Nat a b := z
  omega
/-- what was written lies in one of 'ws' or is new -/
def Fw (ws : List Addr) (N : Nat) (L : List Loc) : Prop := ∀ y ∈ L, y.base ∈ ws ∨ N ≤ y.base
theorem Fw.nil (ws : List Addr) (N : Nat) : Fw ws N [] := fun _ q => nomatch q
theorem Fw.app {ws : List Addr} {N : Nat} {L L' : List Loc} (A : Fw ws N L) (B : Fw ws N L') : Fw ws N (L ++ L') := fun y q => (List.mem_append.mp q).elim (A y) (B y)
theorem Fw.snoc {ws : List Addr} {N : Nat} {L : List Loc} {a : Addr} {sl : Nat} (A : Fw ws N L) (q : a ∈ ws ∨ N ≤ a) : Fw ws N (L ++ [⟨a, sl⟩]) := A.app fun y hy => by cases List.mem_singleton.mp hy; exact q
/-- where a walk stands: what was written is new, the heap, the figures within the room -/
def Pos (p : Program) (l : Launch) (e : Env) (R : Room) (s : State) (m : MethodId) (args : Array Value) (below : List Frame) (meth : Method) (c : Code) (Z : State) (own : String) (ws : List Addr) (bd : Nat) (T : State) (h : Heap) (k n : Nat) : Prop :=
  (∃ locs, Stand p l e R s m args below meth c T locs k n ∧ Fw ws bd locs) ∧ T.heap = h ∧ bd ≤ h.size ∧ Z.Warmed39 s.vm ∧ p.tables.exec = Jvm.exec ∧ s.vm.findClass own = some m.cls ∧ meth.locks = false ∧ k ≤ R.cells ∧ n ≤ R.slots
/-- the walk that stands at the frame g in T comes to its return, and Q holds of what it returns and of the heap it leaves -/
def Done (p : Program) (l : Launch) (e : Env) (R : Room) (s : State) (m : MethodId) (args : Array Value) (below : List Frame) (meth : Method) (c : Code) (Z : State) (own : String) (ws : List Addr) (bd : Nat) (Q : Option Value → Heap → Prop) (T : State) (g : JFrame) : Prop :=
  ∃ v T' h' k n, Pos p l e R s m args below meth c Z own ws bd T' h' k n ∧ (meth.sig.returnType = none → v = none) ∧ Q v h' ∧
    ∀ fs, (∀ (f : JFrame) (acts : List Action), f.method = m → f.locked = none → f.entered = [] → (doReturn e (T'.setTop f) acts v).1 = T'.setFrames fs) → Steps p.tables e below (T.setTop g) (T'.setFrames fs)
/-- a method's contract, asked at one heap and one row of arguments; it writes what lies in 'ws' and what it makes, alone -/
def OMet (l : Launch) (y : MethodName) (bytes : ByteArray) (maxL : Nat) (ret : Option FieldType) (wd : List Cond) (rm : Room) (Z : State) (h : Heap) (ws : List Addr) (as' : Array Value) (Q : Option Value → Heap → Prop) : Prop :=
  MetFree l y (head1 (Cond.code y bytes maxL ret :: wd) rm) (fun a U => a = as' ∧ Z.Warmed39 U.vm ∧ U.heap = h) (fun _ _ _ _ _ => True) (fun _ U o U' => ∃ v L, o = .returned v ∧ (Q v U'.heap ∧ Fw ws h.size L ∧ Keep h U'.heap ws) ∧ FrameEnd U o U' L rm.cells rm.slots)
section A
variable {p : Program} {l : Launch} {e : Env} {R : Room} {s : State} {m : MethodId} {args : Array Value} {below : List Frame} {meth : Method} {c : Code} {Z : State} {own : String} {ws : List Addr} {bd : Nat} {T : State} {h h' : Heap} {k n : Nat} {a0 : Array Value} {Q : Option Value → Heap → Prop} {pc pc' : Nat} {Ls : Array Slot} {st : List Value} {T₁ : State} {g₁ : JFrame}
theorem Pos.here (P : Pos p l e R s m args below meth c Z own ws bd T h k n) : At T m c below := by obtain ⟨⟨_, X, _⟩, _⟩ := P; exact X.here
theorem Pos.x (P : Pos p l e R s m args below meth c Z own ws bd T h k n) : p.tables.exec = Jvm.exec := P.2.2.2.2.1
theorem Pos.ge (P : Pos p l e R s m args below meth c Z own ws bd T h k n) : bd ≤ h.size := P.2.2.1
theorem Pos.wa (P : Pos p l e R s m args below meth c Z own ws bd T h k n) : Z.Warmed39 s.vm := P.2.2.2.1
theorem Pos.more (P : Pos p l e R s m args below meth c Z own ws bd T h k n) {k' n' : Nat} (hk : k ≤ k') (hn : n ≤ n') (hk' : k' ≤ R.cells) (hn' : n' ≤ R.slots) : Pos p l e R s m args below meth c Z own ws bd T h k' n' := by
  obtain ⟨⟨L, X, N'⟩, a, b, c, d, f, g, _, _⟩ := P
  exact ⟨⟨L, X.more hk hn, N'⟩, a, b, c, d, f, g, hk', hn'⟩
theorem Pos.cast {k' n' : Nat} (P : Pos p l e R s m args below meth c Z own ws bd T h k n) (hk : k = k') (hn : n = n') : Pos p l e R s m args below meth c Z own ws bd T h k' n' := by subst hk hn; exact P
theorem Done.step {T' : State} {g g' : JFrame} (hs : ∀ t, Steps p.tables e below (T'.setTop g') t → Steps p.tables e below (T.setTop g) t) (D : Done p l e R s m args below meth c Z own ws bd Q T' g') : Done p l e R s m args below meth c Z own ws bd Q T g := by
  obtain ⟨v, T1, h1, k1, n1, P, hv, hq, st⟩ := D
  exact ⟨v, T1, h1, k1, n1, P, hv, hq, fun fs hl => hs _ (st fs hl)⟩
theorem Done.stepL {st' : List Value} (hs : ∀ t, Steps p.tables e below (T.setTop (mkF m pc' Ls st')) t → Steps p.tables e below (T.setTop (mkF m pc Ls st)) t) (D : Done p l e R s m args below meth c Z own ws bd Q T (mkF m pc' Ls st')) : Done p l e R s m args below meth c Z own ws bd Q T (mkF m pc Ls st) := Done.step hs D
theorem Done.imp {Q' : Option Value → Heap → Prop} {g : JFrame} (D : Done p l e R s m args below meth c Z own ws bd Q T g) (q : ∀ v h, Q v h → Q' v h) : Done p l e R s m args below meth c Z own ws bd Q' T g := by
  obtain ⟨v, T1, h1, k1, n1, P, hv, hq, st⟩ := D
  exact ⟨v, T1, h1, k1, n1, P, hv, q _ _ hq, st⟩
theorem keepOf {u : State} {L : List Loc} (q : s.sameButNew u L k n) (F : Fw ws s.heap.size L) : Keep s.heap u.heap ws := by
  obtain ⟨-, h1, -, -, -, H⟩ := q
  refine ⟨h1, fun x cl hx hn => ?_, fun x cl hx => ?_⟩
  · obtain ⟨c', e1, e2, e3, e4⟩ := H x cl hx
    have hlt := (Array.getElem?_eq_some_iff.mp hx).1
    have es : c'.slots = cl.slots := by
      apply Array.ext_getElem?
      intro i
      exact e4 i fun hm => (F _ hm).elim (fun z => hn z) (fun z => absurd z (Nat.not_le.mpr hlt))
    rw [e1, e2, es]
  · obtain ⟨c', e1, e2, e3, e4⟩ := H x cl hx
    exact ⟨c', e1, by rw [e2], by rw [e2], e3⟩
/-- a contract out of a walk -/
theorem OMet.of {y : MethodName} {bytes : ByteArray} {maxL : Nat} {ret : Option FieldType} {wd : List Cond} {rm : Room} {as' : Array Value} {nm : String} (hy : plainFor y = true) (hyc : y.cls = own) (hyn : y.name = nm)
    (H : ∀ p e s m below meth c s₁, Pos p l e rm s m as' below meth c Z own ws h.size s₁ h 0 0 → c.code = bytes → c.maxLocals = maxL → meth.sig.returnType = ret → meth.name = nm → Done p l e rm s m as' below meth c Z own ws h.size Q s₁ (entryFrame m as' maxL)) :
    OMet l y bytes maxL ret wd rm Z h ws as' Q := by
  subst hyc hyn
  refine MetFree.of_bodySF hy hisR ?_
  intro p e s m args below meth c s₁ Bd hml hP hK
  obtain ⟨rfl, hZ, hh⟩ := hP
  have hown : s.vm.findClass y.cls = some m.cls := findClass_of_methodNamed Bd.named
  have hnm := (name_of_methodNamed Bd.named Bd.method).1
  have X0 : Stand p l e rm s m args below meth c s₁ [] 0 0 := Stand.of_body Bd
  have e0 : s₁.heap = h := by rw [← hh, Bd.state]; rfl
  obtain ⟨v, T', h', k, n, ⟨⟨L, X, N⟩, eT, _, _, _, _, hlk, hk, hnn⟩, hv, hq, st⟩ := H p e s m below meth c s₁ ⟨⟨[], X0, Fw.nil _ _⟩, e0, Nat.le_refl _, hZ, Bd.exec, hown, Bd.notSynchronized, Nat.zero_le _, Nat.zero_le _⟩ Bd.bytes hml Bd.returns hnm
  obtain ⟨fs, hr, hrun, hended, hW, hsame⟩ := X.leave (v := v) hv hlk
  refine ⟨_, _, st fs hr, hrun, hended, v, L, rfl, ⟨?_, N, ?_⟩, ⟨_, rfl⟩, hW, hsame.mono hk hnn⟩
  · rw [show (T'.setFrames fs).heap = T'.heap from rfl, eT]
    exact hq
  · subst hh
    have q := keepOf hsame N
    exact q
/-! returns -/
theorem wRet {w : Value} {t : FieldType} {i : Instr} (P : Pos p l e R s m args below meth c Z own ws bd T h k n) (hret : meth.sig.returnType = some t) (hn : narrow t w = w)
    (hi : (i = .ireturn ∧ (t = .int ∨ t = .boolean ∨ t = .byte ∨ t = .char ∨ t = .short) ∧ ∃ z, w = .int z) ∨ (i = .lreturn ∧ t = .long ∧ ∃ z, w = .long z) ∨ (i = .dreturn ∧ t = .double ∧ ∃ z, w = .double z) ∨ (i = .freturn ∧ t = .float ∧ ∃ z, w = .float z) ∨ (i = .areturn ∧ t.isReference = true ∧ w.isRef = true))
    (hd : decode c.code pc = .ok (i, 1)) (hq : Q (some w) h) : Done p l e R s m args below meth c Z own ws bd Q T (mkF m pc Ls (w :: st)) := by
  obtain ⟨⟨L, X, N'⟩, r⟩ := id P
  exact ⟨some w, T, h, k, n, P, (fun q => by rw [hret] at q; cases q), hq, fun fs hl => retOut X P.x hret hn hi hd hl⟩
theorem wRetI {z : Int32} (P : Pos p l e R s m args below meth c Z own ws bd T h k n) (hret : meth.sig.returnType = some .int) (hd : decode c.code pc = .ok (.ireturn, 1)) (hq : Q (some (.int z)) h) : Done p l e R s m args below meth c Z own ws bd Q T (mkF m pc Ls (.int z :: st)) :=
  wRet P hret rfl (Or.inl ⟨rfl, Or.inl rfl, z, rfl⟩) hd hq
theorem wRetJ {z : Int64} (P : Pos p l e R s m args below meth c Z own ws bd T h k n) (hret : meth.sig.returnType = some .long) (hd : decode c.code pc = .ok (.lreturn, 1)) (hq : Q (some (.long z)) h) : Done p l e R s m args below meth c Z own ws bd Q T (mkF m pc Ls (.long z :: st)) :=
  wRet P hret rfl (Or.inr (Or.inl ⟨rfl, rfl, z, rfl⟩)) hd hq
theorem wRetD {z : UInt64} (P : Pos p l e R s m args below meth c Z own ws bd T h k n) (hret : meth.sig.returnType = some .double) (hd : decode c.code pc = .ok (.dreturn, 1)) (hq : Q (some (.double z)) h) : Done p l e R s m args below meth c Z own ws bd Q T (mkF m pc Ls (.double z :: st)) :=
  wRet P hret rfl (Or.inr (Or.inr (Or.inl ⟨rfl, rfl, z, rfl⟩))) hd hq
theorem wRetA {w : Value} {t : FieldType} (P : Pos p l e R s m args below meth c Z own ws bd T h k n) (hret : meth.sig.returnType = some t) (ht : t.isReference = true) (hw : w.isRef = true) (hd : decode c.code pc = .ok (.areturn, 1)) (hq : Q (some w) h) : Done p l e R s m args below meth c Z own ws bd Q T (mkF m pc Ls (w :: st)) :=
  wRet P hret (by cases w <;> first | rfl | (simp [Value.isRef] at hw; done) | (cases t <;> first | rfl | (simp [FieldType.isReference] at ht))) (Or.inr (Or.inr (Or.inr (Or.inr ⟨rfl, ht, hw⟩)))) hd hq
theorem wRetN {z : Int32} {t : FieldType} (P : Pos p l e R s m args below meth c Z own ws bd T h k n) (hret : meth.sig.returnType = some t) (ht : t = .boolean ∨ t = .byte ∨ t = .char ∨ t = .short) (hd : decode c.code pc = .ok (.ireturn, 1)) (hq : Q (some (.int (nar t z))) h) : Done p l e R s m args below meth c Z own ws bd Q T (mkF m pc Ls (.int z :: st)) := by
  obtain ⟨⟨L, X, N'⟩, r⟩ := id P
  exact ⟨_, T, h, k, n, P, (fun q => by rw [hret] at q; cases q), hq, fun fs hl => retN X P.x hret ht hd hl⟩
theorem wRetV (P : Pos p l e R s m args below meth c Z own ws bd T h k n) (hret : meth.sig.returnType = none) (hd : decode c.code pc = .ok (.return_, 1)) (hq : Q none h) : Done p l e R s m args below meth c Z own ws bd Q T (mkF m pc Ls []) := by
  obtain ⟨⟨L, X, N'⟩, r⟩ := id P
  exact ⟨none, T, h, k, n, P, fun _ => rfl, hq, fun fs hl => X.returnOut P.x hret hd hl⟩
/-! fields -/
theorem wGet {R0 O nm d host : String} {index : Nat} {a : Addr} {v : Value} (P : Pos p l e R s m args below meth c Z own ws bd T h k n) (w : (Cond.fieldLink own index R0 nm d).before a0 Z = true ∨ (Cond.fieldLinkNest own index R0 nm d host).before a0 Z = true) (via : Via Z R0 O nm d) (F : Fld Z h a O nm d v)
    (hd : decode c.code pc = .ok (.getfield index, 3)) (hp : pc + 3 = pc') (K : ∀ T', Pos p l e R s m args below meth c Z own ws bd T' h k n → Done p l e R s m args below meth c Z own ws bd Q T' (mkF m pc' Ls (v :: st))) : Done p l e R s m args below meth c Z own ws bd Q T (mkF m pc Ls (.ref a :: st)) := by
  obtain ⟨⟨L, X, N'⟩, eT, b, hZ, hx, ho, r⟩ := id P
  obtain ⟨T', X', e', stp⟩ := getF X hx hZ ho w via eT F (g := mkF m pc Ls (.ref a :: st)) rfl rfl hd
  subst hp
  exact Done.step stp (K T' ⟨⟨L, X', N'⟩, e', b, hZ, hx, ho, r⟩)
theorem wGetS {R0 O nm d host : String} {index : Nat} {v : Value} (P : Pos p l e R s m args below meth c Z own ws bd T h k n) (w : (Cond.fieldLink own index R0 nm d).before a0 Z = true ∨ (Cond.fieldLinkNest own index R0 nm d host).before a0 Z = true) (via : Via Z R0 O nm d) (F : Sta Z h O nm d v)
    (hd : decode c.code pc = .ok (.getstatic index, 3)) (hp : pc + 3 = pc') (K : ∀ T', Pos p l e R s m args below meth c Z own ws bd T' h k n → Done p l e R s m args below meth c Z own ws bd Q T' (mkF m pc' Ls (v :: st))) : Done p l e R s m args below meth c Z own ws bd Q T (mkF m pc Ls st) := by
  obtain ⟨⟨L, X, N'⟩, eT, b, hZ, hx, ho, r⟩ := id P
  obtain ⟨T', X', e', stp⟩ := getS2 X hx hZ ho w via eT F (g := mkF m pc Ls st) rfl hd
  subst hp
  exact Done.step stp (K T' ⟨⟨L, X', N'⟩, e', b, hZ, hx, ho, r⟩)
theorem wPut {R0 O nm d host C : String} {index kk : Nat} {ty : FieldType} {a : Addr} {v old : Value} (P : Pos p l e R s m args below meth c Z own ws bd T h k n) (w : (Cond.fieldLink own index R0 nm d).before a0 Z = true ∨ (Cond.fieldLinkNest own index R0 nm d host).before a0 Z = true) (via : Via Z R0 O nm d) (F : Fld Z h a O nm d old) (E : Exa Z h a C)
    (La : (Cond.lays C O nm d).before a0 Z = true ∨ ((Cond.laysFinal C O nm d).before a0 Z = true ∧ own = O ∧ meth.name = "<init>")) (wi : (Cond.instantiable C kk).before a0 Z = true) (hty : parseFieldDescriptor d = some ty) (hn : narrow ty v = v) (hf : fits ty v = true) (hge : a ∈ ws ∨ bd ≤ a)
    (hd : decode c.code pc = .ok (.putfield index, 3)) (hp : pc + 3 = pc') (K : ∀ T' h', Pos p l e R s m args below meth c Z own ws bd T' h' k n → Wr h h' a (Jvm.RoadKit.slotOf Z O nm d) v → Fld Z h' a O nm d v → Done p l e R s m args below meth c Z own ws bd Q T' (mkF m pc' Ls st)) : Done p l e R s m args below meth c Z own ws bd Q T (mkF m pc Ls (v :: .ref a :: st)) := by
  obtain ⟨⟨L, X, N'⟩, eT, b, hZ, hx, ho, r⟩ := id P
  obtain ⟨T', h', X', e', W, stp⟩ := putF X hx hZ ho w via eT F E La wi hty hn hf (g := mkF m pc Ls (v :: .ref a :: st)) rfl rfl hd
  subst hp
  exact Done.step stp (K T' h' ⟨⟨_, X', Fw.snoc N' hge⟩, e', by rw [W.size]; exact b, hZ, hx, ho, r⟩ W (F.same W))
theorem wPutN {R0 O nm d C : String} {index kk : Nat} {ty : FieldType} {a : Addr} {x x' : Int32} {old : Value} (P : Pos p l e R s m args below meth c Z own ws bd T h k n) (w : (Cond.fieldLink own index R0 nm d).before a0 Z = true) (via : Via Z R0 O nm d) (F : Fld Z h a O nm d old) (E : Exa Z h a C)
    (La : (Cond.lays C O nm d).before a0 Z = true ∨ ((Cond.laysFinal C O nm d).before a0 Z = true ∧ own = O ∧ meth.name = "<init>")) (wi : (Cond.instantiable C kk).before a0 Z = true) (hty : parseFieldDescriptor d = some ty) (hn : narrow ty (.int x) = .int x') (hf : fits ty (.int x') = true) (hge : a ∈ ws ∨ bd ≤ a)
    (hd : decode c.code pc = .ok (.putfield index, 3)) (hp : pc + 3 = pc') (K : ∀ T' h', Pos p l e R s m args below meth c Z own ws bd T' h' k n → Wr h h' a (Jvm.RoadKit.slotOf Z O nm d) (.int x') → Fld Z h' a O nm d (.int x') → Done p l e R s m args below meth c Z own ws bd Q T' (mkF m pc' Ls st)) : Done p l e R s m args below meth c Z own ws bd Q T (mkF m pc Ls (.int x :: .ref a :: st)) := by
  obtain ⟨⟨L, X, N'⟩, eT, b, hZ, hx, ho, r⟩ := id P
  obtain ⟨T', h', X', e', W, stp⟩ := putFN X hx hZ ho w via eT F E La wi (v' := .int x') hty hn hf (g := mkF m pc Ls (.int x :: .ref a :: st)) rfl rfl hd
  subst hp
  exact Done.step stp (K T' h' ⟨⟨_, X', Fw.snoc N' hge⟩, e', by rw [W.size]; exact b, hZ, hx, ho, r⟩ W (F.same W))
/-! objects and arrays -/
theorem wNew {C : String} {index nn : Nat} (P : Pos p l e R s m args below meth c Z own ws bd T h k n) (w : (Cond.classLink own index C).before a0 Z = true) (wi : (Cond.instantiable C nn).before a0 Z = true) (wz : (Cond.initialized C).before a0 Z = true)
    (hd : decode c.code pc = .ok (.new index, 3)) (hp : pc + 3 = pc') (hc : k + 1 ≤ R.cells) (hl : n + nn ≤ R.slots) {k' n' : Nat} (hk' : k + 1 = k') (hn' : n + nn = n')
    (K : ∀ T' h' a, a = h.size → h.size < h'.size → Pos p l e R s m args below meth c Z own ws bd T' h' k' n' → Ext h h' → Exa Z h' a C → (∀ {O nm d : String} {ty : FieldType}, Laid Z a0 C O nm d → parseFieldDescriptor d = some ty → Fld Z h' a O nm d (defaultValue ty)) → Done p l e R s m args below meth c Z own ws bd Q T' (mkF m pc' Ls (.ref a :: st))) : Done p l e R s m args below meth c Z own ws bd Q T (mkF m pc Ls st) := by
  obtain ⟨⟨L, X, N'⟩, eT, b, hZ, hx, ho, hlk, _, _⟩ := id P
  obtain ⟨T', h', X', e', E, A, D, -, stp⟩ := newO X hx hZ ho w wi wz eT (g := mkF m pc Ls st) rfl hd hc hl
  subst hp hk' hn'
  exact Done.step stp (K T' h' h.size rfl A.lt ⟨⟨L, X', N'⟩, e', Nat.le_trans b E.1, hZ, hx, ho, hlk, hc, hl⟩ E A D)
/-- an array by its places' values -/
def Ar (Z : State) (h : Heap) (a : Addr) (ty : FieldType) (n : Nat) (f : Nat → Value) : Prop := ∃ cl : Cell, Arr Z h a cl ty ∧ cl.slots.size = n ∧ n < 2147483648 ∧ ∀ i, i < n → cl.slots[i]? = some (f i)
def oupd {α : Type} (f : Nat → α) (i : Nat) (v : α) : Nat → α := fun j => if j = i then v else f j
theorem oupd_same {α : Type} (f : Nat → α) (i : Nat) (v : α) : oupd f i v i = v := if_pos rfl
theorem oupd_ne {α : Type} {f : Nat → α} {i j : Nat} {v : α} (q : j ≠ i) : oupd f i v j = f j := if_neg q
theorem Ar.lt {a : Addr} {ty : FieldType} {N : Nat} {f : Nat → Value} (A : Ar Z h a ty N f) : a < h.size := by obtain ⟨c, A, -⟩ := A; exact A.lt
theorem Ar.ltN {a : Addr} {ty : FieldType} {N : Nat} {f : Nat → Value} (A : Ar Z h a ty N f) : @LT.lt Nat instLTNat a h.size := A.lt
theorem exaN {a : Addr} {C : String} (E : Exa Z h a C) : @LT.lt Nat instLTNat a h.size := E.lt
theorem Ar.ext {a : Addr} {ty : FieldType} {N : Nat} {f : Nat → Value} (A : Ar Z h a ty N f) (E : Ext h h') : Ar Z h' a ty N f := by obtain ⟨c, A, r⟩ := A; exact ⟨c, A.ext E, r⟩
theorem Ar.other {a b : Addr} {sl : Nat} {v : Value} {ty : FieldType} {N : Nat} {f : Nat → Value} (A : Ar Z h b ty N f) (W : Wr h h' a sl v) (q : b ≠ a) : Ar Z h' b ty N f := by obtain ⟨c, A, r⟩ := A; exact ⟨c, A.other W q, r⟩
theorem Ar.keep {a : Addr} {ws : List Addr} {ty : FieldType} {N : Nat} {f : Nat → Value} (A : Ar Z h a ty N f) (K : Keep h h' ws) (q : a ∉ ws) : Ar Z h' a ty N f := by obtain ⟨c, A, r⟩ := A; exact ⟨c, ⟨K.2.1 a c A.1 q, A.2⟩, r⟩
theorem Ar.len {a : Addr} {ty : FieldType} {N : Nat} {f : Nat → Value} (A : Ar Z h a ty N f) : N < 2147483648 := by obtain ⟨c, A, r1, r2, -⟩ := A; exact r2
theorem Ar.congr {a : Addr} {ty : FieldType} {N : Nat} {f g : Nat → Value} (A : Ar Z h a ty N f) (q : ∀ i, i < N → f i = g i) : Ar Z h a ty N g := by obtain ⟨c, A, r1, r2, r3⟩ := A; exact ⟨c, A, r1, r2, fun i hi => by rw [← q i hi]; exact r3 i hi⟩
theorem in_of {cl : Cell} {N i : Nat} {j : Int32} (S : cl.slots.size = N) (hj : j.toInt = (i : Int)) (hi : i < N) : ¬ (j < 0 ∨ cl.slots.size ≤ j.toNatClampNeg) ∧ j.toNatClampNeg = i := by
  have e : j.toNatClampNeg = i := by rw [Int32.toNatClampNeg, hj]; omega
  refine ⟨?_, e⟩
  rw [S, e, Int32.lt_iff_toInt_lt, hj, show (0 : Int32).toInt = 0 from rfl]
  omega
theorem toI32 {N : Nat} (h : N < 2147483648) : (N.toInt32).toInt = (N : Int) := by
  rw [show N.toInt32 = Int32.ofNat N from rfl, Int32.toInt_ofNat_of_lt (by omega)]
theorem wNewA {aty : ArrayType} {z : Int32} {N cap : Nat} (P : Pos p l e R s m args below meth c Z own ws bd T h k n) (w : (Cond.arrayClass (newarray.typeOf aty)).before a0 Z = true) (hd : decode c.code pc = .ok (.newarray aty, 2)) (hp : pc + 2 = pc') (hz : z.toInt = (N : Int)) (hcap : N ≤ cap) (hb : cap * 8 ≤ 536870912) (hc : k + 1 ≤ R.cells) (hl : n + cap ≤ R.slots)
    {ad : String} (had : "[" ++ (newarray.typeOf aty).toString = ad) {ty : FieldType} {dv : Value} (hty : newarray.typeOf aty = ty) (hdv : defaultValue ty = dv) {k' n' : Nat} (hk' : k + 1 = k') (hn' : n + cap = n')
    (K : ∀ T' h' a, a = h.size → h.size < h'.size → Pos p l e R s m args below meth c Z own ws bd T' h' k' n' → Ext h h' → Ar Z h' a ty N (fun _ => dv) → Exa Z h' a ad → Done p l e R s m args below meth c Z own ws bd Q T' (mkF m pc' Ls (.ref a :: st))) : Done p l e R s m args below meth c Z own ws bd Q T (mkF m pc Ls (.int z :: st)) := by
  obtain ⟨⟨L, X, N'⟩, eT, b, hZ, hx, ho, hlk, _, _⟩ := id P
  have hz0 : ¬ z < 0 := by rw [Int32.lt_iff_toInt_lt, hz, show (0 : Int32).toInt = 0 from rfl]; omega
  have hzn : z.toNatClampNeg = N := by rw [Int32.toNatClampNeg, hz]; omega
  have hN := z.toInt_lt
  obtain ⟨T', h', kA, X', e', E, A, Ex, stp⟩ := newPE X hx hZ w eT (g := mkF m pc Ls (.int z :: st)) rfl hd rfl hz0 (by rw [hzn]; exact hcap) hb hc hl had
  subst hp hk' hn' hty hdv
  refine Done.step stp (K T' h' h.size rfl A.lt ⟨⟨L, X', N'⟩, e', Nat.le_trans b E.1, hZ, hx, ho, hlk, hc, hl⟩ E ⟨_, A, by rw [sz_new, hzn], by omega, fun i hi => ?_⟩ Ex)
  simp [newA, hzn, hi]
theorem wLen {ty : FieldType} {N : Nat} {f : Nat → Value} {a : Addr} (P : Pos p l e R s m args below meth c Z own ws bd T h k n) (A : Ar Z h a ty N f) {z : Int32} (hz : z.toInt = (N : Int)) (hd : decode c.code pc = .ok (.arraylength, 1)) (hp : pc + 1 = pc')
    (K : Done p l e R s m args below meth c Z own ws bd Q T (mkF m pc' Ls (.int z :: st))) : Done p l e R s m args below meth c Z own ws bd Q T (mkF m pc Ls (.ref a :: st)) := by
  obtain ⟨⟨L, X, N'⟩, eT, b, hZ, hx, ho, hlk, _, _⟩ := id P
  obtain ⟨cl, Ar, S, hN, H⟩ := A
  subst hp
  refine Done.step (fun t kk => X.arraylength hx (by rw [eT]; exact Ar.1) (State.isArrayOf_alike hZ.alike Ar.2.1) (g := mkF m pc Ls (.ref a :: st)) rfl rfl hd t ?_) K
  rw [S, show N.toInt32 = z from Int32.toInt_inj.mp (by rw [toI32 hN, hz])]
  exact kk
theorem wDaload {N i : Nat} {f : Nat → Value} {a : Addr} {j : Int32} (P : Pos p l e R s m args below meth c Z own ws bd T h k n) (A : Ar Z h a .double N f) (hj : j.toInt = (i : Int)) (hi : i < N) {v : Value} (hv : f i = v) (hd : decode c.code pc = .ok (.daload, 1)) (hp : pc + 1 = pc')
    (K : Done p l e R s m args below meth c Z own ws bd Q T (mkF m pc' Ls (v :: st))) : Done p l e R s m args below meth c Z own ws bd Q T (mkF m pc Ls (.int j :: .ref a :: st)) := by
  obtain ⟨⟨L, X, N'⟩, eT, b, hZ, hx, ho, hlk, _, _⟩ := id P
  obtain ⟨cl, Ar, S, hN, H⟩ := A
  obtain ⟨q1, q2⟩ := in_of S hj hi
  subst hp hv
  exact Done.step (fun t kk => X.daload hx (by rw [eT]; exact Ar.1) (State.isArrayOf_alike hZ.alike Ar.2.1) Ar.2.2 q1 (by rw [q2]; exact H i hi) (g := mkF m pc Ls (.int j :: .ref a :: st)) rfl rfl hd t kk) K
theorem wIaload {N i : Nat} {f : Nat → Value} {a : Addr} {j : Int32} (P : Pos p l e R s m args below meth c Z own ws bd T h k n) (A : Ar Z h a .int N f) (hj : j.toInt = (i : Int)) (hi : i < N) {v : Value} (hv : f i = v) (hd : decode c.code pc = .ok (.iaload, 1)) (hp : pc + 1 = pc')
    (K : Done p l e R s m args below meth c Z own ws bd Q T (mkF m pc' Ls (v :: st))) : Done p l e R s m args below meth c Z own ws bd Q T (mkF m pc Ls (.int j :: .ref a :: st)) := by
  obtain ⟨⟨L, X, N'⟩, eT, b, hZ, hx, ho, hlk, _, _⟩ := id P
  obtain ⟨cl, Ar, S, hN, H⟩ := A
  obtain ⟨q1, q2⟩ := in_of S hj hi
  subst hp hv
  exact Done.step (fun t kk => X.iaload hx (by rw [eT]; exact Ar.1) (State.isArrayOf_alike hZ.alike Ar.2.1) Ar.2.2 q1 (by rw [q2]; exact H i hi) (g := mkF m pc Ls (.int j :: .ref a :: st)) rfl rfl hd t kk) K
theorem wCaload {N i : Nat} {f : Nat → Value} {a : Addr} {j : Int32} (P : Pos p l e R s m args below meth c Z own ws bd T h k n) (A : Ar Z h a .char N f) (hj : j.toInt = (i : Int)) (hi : i < N) {v : Value} (hv : f i = v) (hd : decode c.code pc = .ok (.caload, 1)) (hp : pc + 1 = pc')
    (K : Done p l e R s m args below meth c Z own ws bd Q T (mkF m pc' Ls (v :: st))) : Done p l e R s m args below meth c Z own ws bd Q T (mkF m pc Ls (.int j :: .ref a :: st)) := by
  obtain ⟨⟨L, X, N'⟩, eT, b, hZ, hx, ho, hlk, _, _⟩ := id P
  obtain ⟨cl, Ar, S, hN, H⟩ := A
  obtain ⟨q1, q2⟩ := in_of S hj hi
  subst hp hv
  exact Done.step (fun t kk => X.caload hx (by rw [eT]; exact Ar.1) (State.isArrayOf_alike hZ.alike Ar.2.1) Ar.2.2 q1 (by rw [q2]; exact H i hi) (g := mkF m pc Ls (.int j :: .ref a :: st)) rfl rfl hd t kk) K
theorem wAaload {N i : Nat} {f : Nat → Value} {a : Addr} {j : Int32} {ty : FieldType} (P : Pos p l e R s m args below meth c Z own ws bd T h k n) (A : Ar Z h a ty N f) (hty : ty.isReference = true) (hj : j.toInt = (i : Int)) (hi : i < N) {v : Value} (hv : f i = v) (hd : decode c.code pc = .ok (.aaload, 1)) (hp : pc + 1 = pc')
    (K : Done p l e R s m args below meth c Z own ws bd Q T (mkF m pc' Ls (v :: st))) : Done p l e R s m args below meth c Z own ws bd Q T (mkF m pc Ls (.int j :: .ref a :: st)) := by
  obtain ⟨⟨L, X, N'⟩, eT, b, hZ, hx, ho, hlk, _, _⟩ := id P
  obtain ⟨cl, Ar, S, hN, H⟩ := A
  obtain ⟨q1, q2⟩ := in_of S hj hi
  subst hp hv
  exact Done.step (fun t kk => X.aaload hx (by rw [eT]; exact Ar.1) (State.isArrayOf_alike hZ.alike Ar.2.1) hty Ar.2.2 q1 (by rw [q2]; exact H i hi) (g := mkF m pc Ls (.int j :: .ref a :: st)) rfl rfl hd t kk) K
theorem Ar.set {cl : Cell} {a : Addr} {ty : FieldType} {N i : Nat} {f : Nat → Value} {v : Value} (A : Arr Z h a cl ty) (S : cl.slots.size = N) (hN : N < 2147483648) (H : ∀ i, i < N → cl.slots[i]? = some (f i)) (hi : i < N) (W : Wr h h' a i v) : Ar Z h' a ty N (oupd f i v) := by
  refine ⟨cl.setSlot i v, A.same W, by rw [sz_set]; exact S, hN, fun j hj => ?_⟩
  by_cases q : j = i
  · subst q; rw [oupd_same]; exact Cell.slots_setSlot_self v (by omega)
  · rw [oupd_ne q, Cell.slots_setSlot_ne v (Ne.symm q)]; exact H j hj
theorem wDastore {N i : Nat} {f : Nat → UInt64} {a : Addr} {j : Int32} {x : UInt64} (P : Pos p l e R s m args below meth c Z own ws bd T h k n) (A : Ar Z h a .double N (fun i => .double (f i))) (hj : j.toInt = (i : Int)) (hi : i < N) (hge : a ∈ ws ∨ bd ≤ a) (hd : decode c.code pc = .ok (.dastore, 1)) (hp : pc + 1 = pc')
    (K : ∀ T' h', Pos p l e R s m args below meth c Z own ws bd T' h' k n → Wr h h' a i (.double x) → Ar Z h' a .double N (fun j => .double (oupd f i x j)) → Done p l e R s m args below meth c Z own ws bd Q T' (mkF m pc' Ls st)) : Done p l e R s m args below meth c Z own ws bd Q T (mkF m pc Ls (.double x :: .int j :: .ref a :: st)) := by
  obtain ⟨⟨L, X, N'⟩, eT, b, hZ, hx, ho, r⟩ := id P
  obtain ⟨cl, Ar', S, hN, H⟩ := A
  obtain ⟨q1, q2⟩ := in_of S hj hi
  obtain ⟨T', h', X', e', W, stp⟩ := stD X hx hZ eT Ar' q1 (g := mkF m pc Ls (.double x :: .int j :: .ref a :: st)) rfl rfl hd
  subst hp
  rw [q2] at W
  refine Done.step stp (K T' h' ⟨⟨_, X', Fw.snoc N' hge⟩, e', by rw [W.size]; exact b, hZ, hx, ho, r⟩ W ((Ar.set Ar' S hN H hi W).congr fun j _ => ?_))
  unfold oupd; split <;> rfl
theorem wIastore {N i : Nat} {f : Nat → Int32} {a : Addr} {j : Int32} {x : Int32} (P : Pos p l e R s m args below meth c Z own ws bd T h k n) (A : Ar Z h a .int N (fun i => .int (f i))) (hj : j.toInt = (i : Int)) (hi : i < N) (hge : a ∈ ws ∨ bd ≤ a) (hd : decode c.code pc = .ok (.iastore, 1)) (hp : pc + 1 = pc')
    (K : ∀ T' h', Pos p l e R s m args below meth c Z own ws bd T' h' k n → Wr h h' a i (.int x) → Ar Z h' a .int N (fun j => .int (oupd f i x j)) → Done p l e R s m args below meth c Z own ws bd Q T' (mkF m pc' Ls st)) : Done p l e R s m args below meth c Z own ws bd Q T (mkF m pc Ls (.int x :: .int j :: .ref a :: st)) := by
  obtain ⟨⟨L, X, N'⟩, eT, b, hZ, hx, ho, r⟩ := id P
  obtain ⟨cl, Ar', S, hN, H⟩ := A
  obtain ⟨q1, q2⟩ := in_of S hj hi
  obtain ⟨T', h', X', e', W, stp⟩ := stI X hx hZ eT Ar' q1 (g := mkF m pc Ls (.int x :: .int j :: .ref a :: st)) rfl rfl hd
  subst hp
  rw [q2] at W
  refine Done.step stp (K T' h' ⟨⟨_, X', Fw.snoc N' hge⟩, e', by rw [W.size]; exact b, hZ, hx, ho, r⟩ W ((Ar.set Ar' S hN H hi W).congr fun j _ => ?_))
  unfold oupd; split <;> rfl
theorem wCastore {N i : Nat} {f : Nat → Int32} {a : Addr} {j : Int32} {x : Int32} (P : Pos p l e R s m args below meth c Z own ws bd T h k n) (A : Ar Z h a .char N (fun i => .int (f i))) (hj : j.toInt = (i : Int)) (hi : i < N) (hge : a ∈ ws ∨ bd ≤ a) (hd : decode c.code pc = .ok (.castore, 1)) (hp : pc + 1 = pc')
    (K : ∀ T' h', Pos p l e R s m args below meth c Z own ws bd T' h' k n → Wr h h' a i (.int (nar .char x)) → Ar Z h' a .char N (fun j => .int (oupd f i (nar .char x) j)) → Done p l e R s m args below meth c Z own ws bd Q T' (mkF m pc' Ls st)) : Done p l e R s m args below meth c Z own ws bd Q T (mkF m pc Ls (.int x :: .int j :: .ref a :: st)) := by
  obtain ⟨⟨L, X, N'⟩, eT, b, hZ, hx, ho, r⟩ := id P
  obtain ⟨cl, Ar', S, hN, H⟩ := A
  obtain ⟨q1, q2⟩ := in_of S hj hi
  obtain ⟨T', h', X', e', W, stp⟩ := stC X hx hZ eT Ar' q1 (g := mkF m pc Ls (.int x :: .int j :: .ref a :: st)) rfl rfl hd
  subst hp
  rw [q2] at W
  refine Done.step stp (K T' h' ⟨⟨_, X', Fw.snoc N' hge⟩, e', by rw [W.size]; exact b, hZ, hx, ho, r⟩ W ((Ar.set Ar' S hN H hi W).congr fun j _ => ?_))
  unfold oupd; split <;> rfl
theorem wBastore {N i : Nat} {f : Nat → Int32} {a : Addr} {j : Int32} {x : Int32} (P : Pos p l e R s m args below meth c Z own ws bd T h k n) (A : Ar Z h a .byte N (fun i => .int (f i))) (hj : j.toInt = (i : Int)) (hi : i < N) (hge : a ∈ ws ∨ bd ≤ a) (hd : decode c.code pc = .ok (.bastore, 1)) (hp : pc + 1 = pc')
    (K : ∀ T' h', Pos p l e R s m args below meth c Z own ws bd T' h' k n → Wr h h' a i (.int (nar .byte x)) → Ar Z h' a .byte N (fun j => .int (oupd f i (nar .byte x) j)) → Done p l e R s m args below meth c Z own ws bd Q T' (mkF m pc' Ls st)) : Done p l e R s m args below meth c Z own ws bd Q T (mkF m pc Ls (.int x :: .int j :: .ref a :: st)) := by
  obtain ⟨⟨L, X, N'⟩, eT, b, hZ, hx, ho, r⟩ := id P
  obtain ⟨cl, Ar', S, hN, H⟩ := A
  obtain ⟨q1, q2⟩ := in_of S hj hi
  obtain ⟨T', h', X', e', W, stp⟩ := stB X hx hZ eT Ar' q1 (g := mkF m pc Ls (.int x :: .int j :: .ref a :: st)) rfl rfl hd
  subst hp
  rw [q2] at W
  refine Done.step stp (K T' h' ⟨⟨_, X', Fw.snoc N' hge⟩, e', by rw [W.size]; exact b, hZ, hx, ho, r⟩ W ((Ar.set Ar' S hN H hi W).congr fun j _ => ?_))
  unfold oupd; split <;> rfl
theorem wZastore {N i : Nat} {f : Nat → Int32} {a : Addr} {j : Int32} {x : Int32} (P : Pos p l e R s m args below meth c Z own ws bd T h k n) (A : Ar Z h a .boolean N (fun i => .int (f i))) (hj : j.toInt = (i : Int)) (hi : i < N) (hge : a ∈ ws ∨ bd ≤ a) (hd : decode c.code pc = .ok (.bastore, 1)) (hp : pc + 1 = pc')
    (K : ∀ T' h', Pos p l e R s m args below meth c Z own ws bd T' h' k n → Wr h h' a i (.int (nar .boolean x)) → Ar Z h' a .boolean N (fun j => .int (oupd f i (nar .boolean x) j)) → Done p l e R s m args below meth c Z own ws bd Q T' (mkF m pc' Ls st)) : Done p l e R s m args below meth c Z own ws bd Q T (mkF m pc Ls (.int x :: .int j :: .ref a :: st)) := by
  obtain ⟨⟨L, X, N'⟩, eT, b, hZ, hx, ho, r⟩ := id P
  obtain ⟨cl, Ar', S, hN, H⟩ := A
  obtain ⟨q1, q2⟩ := in_of S hj hi
  obtain ⟨T', h', X', e', W, stp⟩ := stZ X hx hZ eT Ar' q1 (g := mkF m pc Ls (.int x :: .int j :: .ref a :: st)) rfl rfl hd
  subst hp
  rw [q2] at W
  refine Done.step stp (K T' h' ⟨⟨_, X', Fw.snoc N' hge⟩, e', by rw [W.size]; exact b, hZ, hx, ho, r⟩ W ((Ar.set Ar' S hN H hi W).congr fun j _ => ?_))
  unfold oupd; split <;> rfl
theorem wBaload {N i : Nat} {f : Nat → Value} {a : Addr} {j : Int32} (P : Pos p l e R s m args below meth c Z own ws bd T h k n) (A : Ar Z h a .byte N f) (hj : j.toInt = (i : Int)) (hi : i < N) {v : Value} (hv : f i = v) (hd : decode c.code pc = .ok (.baload, 1)) (hp : pc + 1 = pc')
    (K : Done p l e R s m args below meth c Z own ws bd Q T (mkF m pc' Ls (v :: st))) : Done p l e R s m args below meth c Z own ws bd Q T (mkF m pc Ls (.int j :: .ref a :: st)) := by
  obtain ⟨⟨L, X, N'⟩, eT, b, hZ, hx, ho, hlk, _, _⟩ := id P
  obtain ⟨cl, Ar, S, hN, H⟩ := A
  obtain ⟨q1, q2⟩ := in_of S hj hi
  subst hp hv
  exact Done.step (fun t kk => X.baloadBytes hx (by rw [eT]; exact Ar.1) (State.isArrayOf_alike hZ.alike Ar.2.1) Ar.2.2 q1 (by rw [q2]; exact H i hi) (g := mkF m pc Ls (.int j :: .ref a :: st)) rfl rfl hd t kk) K
theorem staKeep {C nm d : String} {v : Value} {ws' : List Addr} (F : Sta Z h C nm d v) (K : Keep h h' ws') (hw : ∀ x ∈ ws', ∀ cell : Cell, h[x]? = some cell → cell.vm.isStatics = false) : Sta Z h' C nm d v := by
  obtain ⟨cf, i, k, f, st, cell, h1, h2, h3, h4, h5, h6, r⟩ := F
  exact ⟨cf, i, k, f, st, cell, h1, h2, h3, h4, K.2.1 _ _ h5 (fun q => by rw [hw _ q _ h5] at h6; cases h6), h6, r⟩
theorem wCast {K : String} {index : Nat} {a : Addr} (P : Pos p l e R s m args below meth c Z own ws bd T h k n) (w : (Cond.classLink own index K).before a0 Z = true) (F : Ins Z h a K true) (hd : decode c.code pc = .ok (.checkcast index, 3)) (hp : pc + 3 = pc')
    (K' : ∀ T', Pos p l e R s m args below meth c Z own ws bd T' h k n → Done p l e R s m args below meth c Z own ws bd Q T' (mkF m pc' Ls (.ref a :: st))) : Done p l e R s m args below meth c Z own ws bd Q T (mkF m pc Ls (.ref a :: st)) := by
  obtain ⟨⟨L, X, N'⟩, eT, b, hZ, hx, ho, r⟩ := id P
  obtain ⟨T', X', e', stp⟩ := castY X hx hZ ho w eT F (g := mkF m pc Ls (.ref a :: st)) rfl rfl hd
  subst hp
  exact Done.step stp (K' T' ⟨⟨L, X', N'⟩, e', b, hZ, hx, ho, r⟩)
theorem wInstY {K : String} {index : Nat} {a : Addr} (P : Pos p l e R s m args below meth c Z own ws bd T h k n) (w : (Cond.classLink own index K).before a0 Z = true) (F : Ins Z h a K true) (hd : decode c.code pc = .ok (.instanceof index, 3)) (hp : pc + 3 = pc')
    (K' : ∀ T', Pos p l e R s m args below meth c Z own ws bd T' h k n → Done p l e R s m args below meth c Z own ws bd Q T' (mkF m pc' Ls (.int 1 :: st))) : Done p l e R s m args below meth c Z own ws bd Q T (mkF m pc Ls (.ref a :: st)) := by
  obtain ⟨⟨L, X, N'⟩, eT, b, hZ, hx, ho, r⟩ := id P
  obtain ⟨T', X', e', stp⟩ := instY X hx hZ ho w eT F (g := mkF m pc Ls (.ref a :: st)) rfl rfl hd
  subst hp
  exact Done.step stp (K' T' ⟨⟨L, X', N'⟩, e', b, hZ, hx, ho, r⟩)
theorem wInstN {K C : String} {index : Nat} {a : Addr} (P : Pos p l e R s m args below meth c Z own ws bd T h k n) (w : (Cond.classLink own index K).before a0 Z = true) (E : Exa Z h a C) (F : ∃ c t, Z.vm.findClass C = some c ∧ Z.vm.findClass K = some t ∧ Z.vm.assignable c t = false) (hd : decode c.code pc = .ok (.instanceof index, 3)) (hp : pc + 3 = pc')
    (K' : ∀ T', Pos p l e R s m args below meth c Z own ws bd T' h k n → Done p l e R s m args below meth c Z own ws bd Q T' (mkF m pc' Ls (.int 0 :: st))) : Done p l e R s m args below meth c Z own ws bd Q T (mkF m pc Ls (.ref a :: st)) := by
  obtain ⟨⟨L, X, N'⟩, eT, b, hZ, hx, ho, r⟩ := id P
  obtain ⟨T', X', e', stp⟩ := instNo X hx hZ ho w eT E F (g := mkF m pc Ls (.ref a :: st)) rfl rfl hd
  subst hp
  exact Done.step stp (K' T' ⟨⟨L, X', N'⟩, e', b, hZ, hx, ho, r⟩)
theorem wInst0 {index : Nat} (P : Pos p l e R s m args below meth c Z own ws bd T h k n) (hd : decode c.code pc = .ok (.instanceof index, 3)) (hp : pc + 3 = pc') (D : Done p l e R s m args below meth c Z own ws bd Q T (mkF m pc' Ls (.int 0 :: st))) : Done p l e R s m args below meth c Z own ws bd Q T (mkF m pc Ls (.null :: st)) := by
  obtain ⟨⟨L, X, N'⟩, eT, b, hZ, hx, ho, r⟩ := id P
  subst hp
  exact Done.step (Jvm.Stand.instanceofNull X hx (g := mkF m pc Ls (.null :: st)) rfl rfl hd) D
/-! calls -/
theorem wInit {index : Nat} {a : Addr} {W : Nat} (P : Pos p l e R s m args below meth c Z own ws bd T h k n) (w1 : (Cond.methodLink own index Lib.objectInit).before a0 Z = true) (w2 : (Cond.instanceMethod Lib.objectInit).before a0 Z = true) (w3 : (Cond.code Lib.objectInit ⟨#[0xb1]⟩ 1 none).before a0 Z = true) (hml : Ls.size = c.maxLocals)
    (hd : decode c.code pc = .ok (.invokespecial index, 3)) (hf : 1 ≤ R.frames) (hW : (st.map fun v => v.category).sum ≤ W) (hl : W + 12 ≤ R.locals) (hp : pc + 3 = pc')
    (K : ∀ T', Pos p l e R s m args below meth c Z own ws bd T' h k n → Done p l e R s m args below meth c Z own ws bd Q T' (mkF m pc' Ls st)) : Done p l e R s m args below meth c Z own ws bd Q T (mkF m pc Ls (.ref a :: st)) := by
  obtain ⟨⟨L, X, N'⟩, eT, b, hZ, hx, ho, r⟩ := id P
  obtain ⟨T', X', e', stp⟩ := initO X hx hZ ho w1 w2 w3 eT (g := mkF m pc Ls (.ref a :: st)) rfl hml rfl hd hf (W := W) (by show 2 * 0 + _ ≤ _; omega) hl
  subst hp
  exact Done.step stp (K T' ⟨⟨L, X', N'⟩, e', b, hZ, hx, ho, r⟩)
theorem wCallS {y : MethodName} {bytes : ByteArray} {maxL : Nat} {ret : Option FieldType} {rm : Room} {as' : Array Value} {ws' : List Addr} {Q' : Option Value → Heap → Prop} {index W : Nat} {argsL rest stk : List Value} (P : Pos p l e R s m args below meth c Z own ws bd T h k n) (M : OMet l y bytes maxL ret [] rm Z h ws' as' Q')
    (w1 : (Cond.methodLink own index y).before a0 Z = true) (w2 : (Cond.static y).before a0 Z = true) (w3 : (Cond.initialized y.cls).before a0 Z = true) (w4 : (Cond.code y bytes maxL ret).before a0 Z = true) (hy : y.cls ≠ "java/lang/invoke/MethodHandle" ∧ y.cls ≠ "java/lang/invoke/VarHandle") (hml : Ls.size = c.maxLocals)
    (hlen : ∀ sig, parseMethodDescriptor y.desc = some sig → argsL.length = sig.parameters.length) (has : (argsL).toArray = as') (hst : stk = argsL.reverse ++ rest) (hW : (rest.map fun v => v.category).sum ≤ W) (hf : rm.frames + 1 ≤ R.frames) (hl : W + (maxL + 11) + rm.locals ≤ R.locals) (hc : k + rm.cells ≤ R.cells) (hs : n + rm.slots ≤ R.slots)
    (hws : ∀ x ∈ ws', x ∈ ws ∨ bd ≤ x) (hd : decode c.code pc = .ok (.invokestatic index, 3)) (hp : pc + 3 = pc') {k' n' : Nat} (hk' : k + rm.cells = k') (hn' : n + rm.slots = n')
    (K : ∀ T' h' v, Pos p l e R s m args below meth c Z own ws bd T' h' k' n' → Keep h h' ws' → Q' v h' → Done p l e R s m args below meth c Z own ws bd Q T' (mkF m pc' Ls (v.toList ++ rest))) : Done p l e R s m args below meth c Z own ws bd Q T (mkF m pc Ls stk) := by
  obtain ⟨⟨L, X, N'⟩, eT, b, hZ, hx, ho, hlk, _, _⟩ := id P
  subst hst has hp hk' hn'
  obtain ⟨v, _, ⟨T', L', k1, n1⟩, -, X', ⟨Lc, hq, l', y', z'⟩, stp⟩ := Jvm.LawKit.callS X hx (y := y) ho (mvT hZ w1) (mvT hZ w2) (mvT hZ w3) (mvT hZ w4) hy (backOf (W := W) (Q := fun v h' L => Q' v h' ∧ Fw ws' h.size L ∧ Keep h h' ws') M hZ w4 w3 hf hl) (g := mkF m pc Ls (argsL.reverse ++ rest)) rfl hml (argsL := argsL) (rest := rest) hlen rfl (by show 2 * 0 + _ ≤ _; omega) hd (fun _ _ => ⟨rfl, eT, hc, hs⟩)
  dsimp only [Pt.U, Pt.locs, Pt.cells, Pt.slots] at X' l' y' z' stp hq
  subst l' y' z'
  exact Done.step (stp) (K T' T'.heap v ⟨⟨_, X', N'.app fun y hy => (hq.2.1 y hy).elim (fun q => hws _ q) (fun q => Or.inr (Nat.le_trans b q))⟩, rfl, Nat.le_trans b hq.2.2.1, hZ, hx, ho, hlk, hc, hs⟩ hq.2.2 hq.1)
theorem wCallI {y : MethodName} {bytes : ByteArray} {maxL : Nat} {rm : Room} {as' : Array Value} {ws' : List Addr} {Q' : Option Value → Heap → Prop} {index W : Nat} {argsL rest stk : List Value} {a : Addr} (P : Pos p l e R s m args below meth c Z own ws bd T h k n) (M : OMet l y bytes maxL none [] rm Z h ws' as' Q')
    (hyn : y.name = "<init>") (w1 : (Cond.methodLink own index y).before a0 Z = true) (w2 : (Cond.instanceMethod y).before a0 Z = true) (w3 : (Cond.initialized y.cls).before a0 Z = true) (w4 : (Cond.code y bytes maxL none).before a0 Z = true) (hy : y.cls ≠ "java/lang/invoke/MethodHandle" ∧ y.cls ≠ "java/lang/invoke/VarHandle") (hml : Ls.size = c.maxLocals)
    (hlen : ∀ sig, parseMethodDescriptor y.desc = some sig → argsL.length = sig.parameters.length) (has : (.ref a :: argsL).toArray = as') (hst : stk = argsL.reverse ++ .ref a :: rest) (hW : (rest.map fun v => v.category).sum ≤ W) (hf : rm.frames + 1 ≤ R.frames) (hl : W + (maxL + 11) + rm.locals ≤ R.locals) (hc : k + rm.cells ≤ R.cells) (hs : n + rm.slots ≤ R.slots)
    (hws : ∀ x ∈ ws', x ∈ ws ∨ bd ≤ x) (hd : decode c.code pc = .ok (.invokespecial index, 3)) (hp : pc + 3 = pc') {k' n' : Nat} (hk' : k + rm.cells = k') (hn' : n + rm.slots = n')
    (K : ∀ T' h' v, Pos p l e R s m args below meth c Z own ws bd T' h' k' n' → Keep h h' ws' → Q' v h' → Done p l e R s m args below meth c Z own ws bd Q T' (mkF m pc' Ls (v.toList ++ rest))) : Done p l e R s m args below meth c Z own ws bd Q T (mkF m pc Ls stk) := by
  obtain ⟨⟨L, X, N'⟩, eT, b, hZ, hx, ho, hlk, _, _⟩ := id P
  subst hst has hp hk' hn'
  obtain ⟨v, _, ⟨T', L', k1, n1⟩, -, X', ⟨Lc, hq, l', y', z'⟩, stp⟩ := X.specialBack hx (y := y) hyn ho (mvT hZ w1) (mvT hZ w2) (mvT hZ w4) hy (backOf (W := W) (Q := fun v h' L => Q' v h' ∧ Fw ws' h.size L ∧ Keep h h' ws') M hZ w4 w3 hf hl) (g := mkF m pc Ls (argsL.reverse ++ .ref a :: rest)) rfl hml (Steps.refl _) (a := a) (argsL := argsL) (rest := rest) hlen rfl (by show 2 * 0 + _ ≤ _; omega) hd (fun _ _ => ⟨rfl, eT, hc, hs⟩)
  dsimp only [Pt.U, Pt.locs, Pt.cells, Pt.slots] at X' l' y' z' stp hq
  subst l' y' z'
  exact Done.step (fun t kk => stp.trans kk) (K T' T'.heap v ⟨⟨_, X', N'.app fun y hy => (hq.2.1 y hy).elim (fun q => hws _ q) (fun q => Or.inr (Nat.le_trans b q))⟩, rfl, Nat.le_trans b hq.2.2.1, hZ, hx, ho, hlk, hc, hs⟩ hq.2.2 hq.1)
theorem wCallV {y : MethodName} {bytes : ByteArray} {maxL : Nat} {ret : Option FieldType} {rm : Room} {as' : Array Value} {ws' : List Addr} {Q' : Option Value → Heap → Prop} {index W : Nat} {argsL rest stk : List Value} {z : MethodName} {C : String} {a : Addr} (P : Pos p l e R s m args below meth c Z own ws bd T h k n) (M : OMet l z bytes maxL ret [] rm Z h ws' as' Q')
    (w1 : (Cond.methodLink own index y).before a0 Z = true) (w2 : (Cond.declares y).before a0 Z = true) (w5 : (Cond.selects C y z).before a0 Z = true) {D : String} (w7 : (Cond.selects D y y).before a0 Z = true) (w6 : (Cond.instanceMethod z).before a0 Z = true) (w3 : (Cond.initialized z.cls).before a0 Z = true) (w4 : (Cond.code z bytes maxL ret).before a0 Z = true) (hy : y.cls ≠ "java/lang/invoke/MethodHandle" ∧ y.cls ≠ "java/lang/invoke/VarHandle") (E : Exa Z h a C) (hml : Ls.size = c.maxLocals)
    (hlen : ∀ sig, parseMethodDescriptor y.desc = some sig → argsL.length = sig.parameters.length) (has : (.ref a :: argsL).toArray = as') (hst : stk = argsL.reverse ++ .ref a :: rest) (hW : (rest.map fun v => v.category).sum ≤ W) (hf : rm.frames + 1 ≤ R.frames) (hl : W + (maxL + 11) + rm.locals ≤ R.locals) (hc : k + rm.cells ≤ R.cells) (hs : n + rm.slots ≤ R.slots)
    (hws : ∀ x ∈ ws', x ∈ ws ∨ bd ≤ x) (hd : decode c.code pc = .ok (.invokevirtual index, 3)) (hp : pc + 3 = pc') {k' n' : Nat} (hk' : k + rm.cells = k') (hn' : n + rm.slots = n')
    (K : ∀ T' h' v, Pos p l e R s m args below meth c Z own ws bd T' h' k' n' → Keep h h' ws' → Q' v h' → Done p l e R s m args below meth c Z own ws bd Q T' (mkF m pc' Ls (v.toList ++ rest))) : Done p l e R s m args below meth c Z own ws bd Q T (mkF m pc Ls stk) := by
  obtain ⟨⟨L, X, N'⟩, eT, b, hZ, hx, ho, hlk, _, _⟩ := id P
  subst hst has hp hk' hn'
  obtain ⟨cq, kq, qa, qb, qc⟩ := isOf hZ eT E
  obtain ⟨v, _, ⟨T', L', k1, n1⟩, -, X', ⟨Lc, hq, l', y', z'⟩, stp⟩ := X.virtualBack hx (y := y) (z := z) ho (mvT hZ w1) (mvT hZ w2) (notFace_of_selects (args := #[]) (mvT hZ w7)) (mvT hZ w5) (mvT hZ w6) hy (backOf (W := W) (Q := fun v h' L => Q' v h' ∧ Fw ws' h.size L ∧ Keep h h' ws') M hZ w4 w3 hf hl) qa qc (g := mkF m pc Ls (argsL.reverse ++ .ref a :: rest)) rfl hml (Steps.refl _) (argsL := argsL) (rest := rest) hlen rfl (by show 2 * 0 + _ ≤ _; omega) hd (fun _ _ => ⟨rfl, eT, hc, hs⟩)
  dsimp only [Pt.U, Pt.locs, Pt.cells, Pt.slots] at X' l' y' z' stp hq
  subst l' y' z'
  exact Done.step (fun t kk => stp.trans kk) (K T' T'.heap v ⟨⟨_, X', N'.app fun y hy => (hq.2.1 y hy).elim (fun q => hws _ q) (fun q => Or.inr (Nat.le_trans b q))⟩, rfl, Nat.le_trans b hq.2.2.1, hZ, hx, ho, hlk, hc, hs⟩ hq.2.2 hq.1)
theorem wCallP {y : MethodName} {bytes : ByteArray} {maxL : Nat} {ret : Option FieldType} {rm : Room} {as' : Array Value} {ws' : List Addr} {Q' : Option Value → Heap → Prop} {index W kk : Nat} {argsL rest stk : List Value} {a : Addr} {C : String} (P : Pos p l e R s m args below meth c Z own ws bd T h k n) (M : OMet l y bytes maxL ret [] rm Z h ws' as' Q')
    (w1 : (Cond.methodLink own index y).before a0 Z = true) (w2 : (Cond.instanceMethod y).before a0 Z = true) (w5 : (Cond.privateMethod y).before a0 Z = true) (wi : (Cond.instantiable y.cls kk).before a0 Z = true) (w3 : (Cond.initialized y.cls).before a0 Z = true) (w4 : (Cond.code y bytes maxL ret).before a0 Z = true) (hy : y.cls ≠ "java/lang/invoke/MethodHandle" ∧ y.cls ≠ "java/lang/invoke/VarHandle") (E : Exa Z h a C) (hml : Ls.size = c.maxLocals)
    (hlen : ∀ sig, parseMethodDescriptor y.desc = some sig → argsL.length = sig.parameters.length) (has : (.ref a :: argsL).toArray = as') (hst : stk = argsL.reverse ++ .ref a :: rest) (hW : (rest.map fun v => v.category).sum ≤ W) (hf : rm.frames + 1 ≤ R.frames) (hl : W + (maxL + 11) + rm.locals ≤ R.locals) (hc : k + rm.cells ≤ R.cells) (hs : n + rm.slots ≤ R.slots)
    (hws : ∀ x ∈ ws', x ∈ ws ∨ bd ≤ x) (hd : decode c.code pc = .ok (.invokevirtual index, 3)) (hp : pc + 3 = pc') {k' n' : Nat} (hk' : k + rm.cells = k') (hn' : n + rm.slots = n')
    (K : ∀ T' h' v, Pos p l e R s m args below meth c Z own ws bd T' h' k' n' → Keep h h' ws' → Q' v h' → Done p l e R s m args below meth c Z own ws bd Q T' (mkF m pc' Ls (v.toList ++ rest))) : Done p l e R s m args below meth c Z own ws bd Q T (mkF m pc Ls stk) := by
  obtain ⟨⟨L, X, N'⟩, eT, b, hZ, hx, ho, hlk, _, _⟩ := id P
  subst hst has hp hk' hn'
  obtain ⟨cl, hcl, hst⟩ := E.cell
  have hpr : s.PrivateAt y := Cond.privateMethod_at (mvP hZ w5 (args := #[]))
  obtain ⟨ci, ki, hi1, hi2, -, hi3, -⟩ := Cond.instantiable_spec (mvT hZ wi : (Cond.instantiable y.cls kk).before args s = true)
  have hsel : (Cond.selects y.cls y y).before args s = true := selects_self_of_private hi1 hi2 (by simp only [Bool.or_eq_false_iff] at hi3; exact hi3.1) hpr (mvT hZ w2) hy
  obtain ⟨v, _, ⟨T', L', k1, n1⟩, -, X', ⟨Lc, hq, l', y', z'⟩, stp⟩ := X.privateBack hx (y := y) ho (mvT hZ w1) (mvT hZ w2) hsel hpr (mvT hZ w4) hy (backOf (W := W) (Q := fun v h' L => Q' v h' ∧ Fw ws' h.size L ∧ Keep h h' ws') M hZ w4 w3 hf hl) (g := mkF m pc Ls (argsL.reverse ++ .ref a :: rest)) rfl hml (Steps.refl _) (a := a) (by rw [eT]; exact hcl) hst (argsL := argsL) (rest := rest) hlen rfl (by show 2 * 0 + _ ≤ _; omega) hd (fun _ _ => ⟨rfl, eT, hc, hs⟩)
  dsimp only [Pt.U, Pt.locs, Pt.cells, Pt.slots] at X' l' y' z' stp hq
  subst l' y' z'
  exact Done.step (fun t kk => stp.trans kk) (K T' T'.heap v ⟨⟨_, X', N'.app fun y hy => (hq.2.1 y hy).elim (fun q => hws _ q) (fun q => Or.inr (Nat.le_trans b q))⟩, rfl, Nat.le_trans b hq.2.2.1, hZ, hx, ho, hlk, hc, hs⟩ hq.2.2 hq.1)
/-- a call that the machine answers itself -/
theorem wNat {y : MethodName} {by0 : ByteArray} {ml : Nat} {rt : Option FieldType} {index W : Nat} {F : Array Value → Prop} {val : Value} {argsL rest stk : List Value} (P : Pos p l e R s m args below meth c Z own ws bd T h k n)
    (w1 : (Cond.methodLink own index y).before a0 Z = true) (w2 : (Cond.static y).before a0 Z = true) (w3 : (Cond.initialized y.cls).before a0 Z = true) (w4 : (Cond.code y by0 ml rt).before a0 Z = true) (hy : y.cls ≠ "java/lang/invoke/MethodHandle" ∧ y.cls ≠ "java/lang/invoke/VarHandle")
    (hK : (Cond.code y by0 ml rt).before args s = true → Back l R p e below s args y 3 W (fun A a' => A.cells ≤ R.cells ∧ A.slots ≤ R.slots ∧ F a') (fun A _ v B => v = some val ∧ B = A)) (hml : Ls.size = c.maxLocals)
    (hlen : ∀ sig, parseMethodDescriptor y.desc = some sig → argsL.length = sig.parameters.length) (hst : stk = argsL.reverse ++ rest) (hW : (rest.map fun v => v.category).sum ≤ W) (hd : decode c.code pc = .ok (.invokestatic index, 3)) (hp : pc + 3 = pc') (hF : F argsL.toArray)
    (K : ∀ T', Pos p l e R s m args below meth c Z own ws bd T' h k n → Done p l e R s m args below meth c Z own ws bd Q T' (mkF m pc' Ls (val :: rest))) : Done p l e R s m args below meth c Z own ws bd Q T (mkF m pc Ls stk) := by
  obtain ⟨⟨L, X, N'⟩, eT, b, hZ, hx, ho, hlk, hc, hs⟩ := id P
  subst hst hp
  obtain ⟨T', X', e', stp⟩ := natS X hx hZ ho w1 w2 w3 w4 hy eT hK (g := mkF m pc Ls (argsL.reverse ++ rest)) rfl hml hlen rfl (by show 2 * 0 + _ ≤ _; omega) hd hc hs hF rfl
  exact Done.step stp (K T' ⟨⟨L, X', N'⟩, e', b, hZ, hx, ho, hlk, hc, hs⟩)
theorem Fw.toFr {bd : Nat} {L : List Loc} (N : Fw [] bd L) : Fr bd L := fun y hy => (N y hy).resolve_left (by simp)
theorem Fw.ofFr {ws : List Addr} {bd : Nat} {L : List Loc} (N : Fr bd L) : Fw ws bd L := fun y hy => Or.inr (N y hy)
theorem n32 {N : Nat} (h : N < 2147483648) : ¬ Int32.ofNat N < 0 ∧ (Int32.ofNat N).toNatClampNeg = N := by
  have e : (Int32.ofNat N).toInt = (N : Int) := Int32.toInt_ofNat_of_lt (by omega)
  refine ⟨?_, by rw [Int32.toNatClampNeg, e]; omega⟩
  rw [Int32.lt_iff_toInt_lt, e, show (0 : Int32).toInt = 0 from rfl]; omega
theorem Ar.toArv {a : Addr} {ty : FieldType} {N : Nat} {f : Nat → Value} (A : Ar Z h a ty N f) (dv : Value) (hf : ∀ i, fits ty (f i) = true) (hd : fits ty dv = true) : ∃ kA, Arv Z h a kA ty (Int32.ofNat N) ((List.range N).map f) dv := by
  obtain ⟨cl, Ar, S, hN, H⟩ := A
  have g : ∀ i, i < N → ((List.range N).map f).getD i dv = f i := fun i hi => by simp [List.getD_eq_getElem?_getD, hi]
  refine ⟨cl.cls, cl, Ar, rfl, by rw [(n32 hN).2, S], (n32 hN).1, fun i hi => ?_, fun i hi => ?_⟩
  · rw [g i (by omega)]; exact H i (by omega)
  · rw [g i (by omega)]; exact hf i
theorem Ar.ofArv {a : Addr} {ty : FieldType} {kA : ClassId} {N : Nat} {vs : List Value} {dv : Value} (hN : N < 2147483648) (A : Arv Z h a kA ty (Int32.ofNat N) vs dv) : Ar Z h a ty N (fun i => vs.getD i dv) := by
  obtain ⟨cl, Ar, -, S, -, H, -⟩ := A
  rw [(n32 hN).2] at S
  exact ⟨cl, Ar, S, hN, fun i hi => H i (by omega)⟩
/-- a copy of an array of doubles -/
theorem wClone {N cap index W : Nat} {f : Nat → UInt64} {a : Addr} (P : Pos p l e R s m args below meth c Z own ws bd T h k n) (A : Ar Z h a .double N (fun i => .double (f i))) (E : Exa Z h a "[D")
    (w1 : (Cond.methodLink own index ⟨"[D", "clone", "()Ljava/lang/Object;"⟩).before a0 Z = true) (w2 : (Cond.sameMethod "[D" "java/lang/Object" "clone" "()Ljava/lang/Object;").before a0 Z = true) (w3 : (Cond.native ⟨"java/lang/Object", "clone", "()Ljava/lang/Object;"⟩).before a0 Z = true)
    (w4 : (Cond.instanceMethod ⟨"java/lang/Object", "clone", "()Ljava/lang/Object;"⟩).before a0 Z = true) (w5 : (Cond.selects "[D" ⟨"[D", "clone", "()Ljava/lang/Object;"⟩ ⟨"java/lang/Object", "clone", "()Ljava/lang/Object;"⟩).before a0 Z = true) (w6 : (Cond.castable "[D" "java/lang/Cloneable").before a0 Z = true)
    (hml : Ls.size = c.maxLocals) (hd : decode c.code pc = .ok (.invokevirtual index, 3)) (hp : pc + 3 = pc') (hf : 1 ≤ R.frames) (hW : (st.map fun v => v.category).sum ≤ W) (hl : W + 14 ≤ R.locals) (hcap : N ≤ cap) (hc : k + 1 ≤ R.cells) (hsl : n + cap ≤ R.slots) {k' n' : Nat} (hk' : k + 1 = k') (hn' : n + cap = n')
    (K : ∀ T' h' b, b = h.size → h.size < h'.size → Pos p l e R s m args below meth c Z own ws bd T' h' k' n' → Ext h h' → Ar Z h' b .double N (fun i => .double (f i)) → Exa Z h' b "[D" → Done p l e R s m args below meth c Z own ws bd Q T' (mkF m pc' Ls (.ref b :: st))) : Done p l e R s m args below meth c Z own ws bd Q T (mkF m pc Ls (.ref a :: st)) := by
  obtain ⟨⟨L, X, N'⟩, eT, b, hZ, hx, ho, hlk, _, _⟩ := id P
  obtain ⟨cl, Ar, S, hN, H⟩ := A
  have FC : FitC Z cl := fitC_of Ar fun i hi v hv => by rw [H i (by omega)] at hv; cases hv; rfl
  obtain ⟨T', h', X', e', ex, A', E', stp⟩ := cloneA X hx hZ ho w1 w2 w3 w4 w5 w6 eT Ar E FC (g := mkF m pc Ls (.ref a :: st)) rfl hml rfl hd hf (W := W) (by show 2 * 0 + _ ≤ _; omega) hl (cap := cap) (by omega) hc hsl
  subst hp hk' hn'
  exact Done.step stp (K T' h' h.size rfl A'.lt ⟨⟨L, X', N'⟩, e', Nat.le_trans b ex.1, hZ, hx, ho, hlk, hc, hsl⟩ ex ⟨_, A', S, hN, H⟩ E')
/-- System.arraycopy of the first places of an array of doubles into a fresh one -/
theorem wCopyD {N M K0 index W : Nat} {f g : Nat → UInt64} {a b : Addr} {nn : Int32} (P : Pos p l e R s m args below meth c Z own [] bd T h k n) (A : Ar Z h a .double N (fun i => .double (f i))) (B : Ar Z h b .double M (fun i => .double (g i))) (hnn : nn.toInt = (K0 : Int)) (h1 : K0 ≤ N) (h2 : K0 ≤ M) (ge : bd ≤ b)
    (w1 : (Cond.methodLink own index Jvm.Stand.acN).before a0 Z = true) (w2 : (Cond.native Jvm.Stand.acN).before a0 Z = true) (w3 : (Cond.static Jvm.Stand.acN).before a0 Z = true) (w4 : (Cond.initialized "java/lang/System").before a0 Z = true)
    (hml : Ls.size = c.maxLocals) (hd : decode c.code pc = .ok (.invokestatic index, 3)) (hp : pc + 3 = pc') (hf : 1 ≤ R.frames) (hW : (st.map fun v => v.category).sum ≤ W) (hlo : W + (nativeFrameWords "java/lang/System" "arraycopy" 5 + 11) ≤ R.locals)
    (K : ∀ T' h', Pos p l e R s m args below meth c Z own [] bd T' h' k n → Keep h h' [b] → Ar Z h' b .double M (fun i => .double (if i < K0 then f i else g i)) → Done p l e R s m args below meth c Z own [] bd Q T' (mkF m pc' Ls st)) :
    Done p l e R s m args below meth c Z own [] bd Q T (mkF m pc Ls (.int nn :: .int 0 :: .ref b :: .int 0 :: .ref a :: st)) := by
  obtain ⟨⟨L, X, N'⟩, eT, hb', hZ, hx, ho, r⟩ := id P
  have hN := A.len
  have hM := B.len
  obtain ⟨kA, VA⟩ := A.toArv (.double 0) (fun _ => rfl) rfl
  obtain ⟨kB, VB⟩ := B.toArv (.double 0) (fun _ => rfl) rfl
  have z0 : ¬ (0 : Int32) < 0 := by decide
  have z1 : (0 : Int32).toNatClampNeg = 0 := by decide
  have q0 : ¬ nn < 0 := by rw [Int32.lt_iff_toInt_lt, hnn, show (0 : Int32).toInt = 0 from rfl]; omega
  have q1 : nn.toNatClampNeg = K0 := by rw [Int32.toNatClampNeg, hnn]; omega
  obtain ⟨T', h', L', X', e', F', Kp, V', stp⟩ := cpA X hx hZ ho w1 w2 w3 w4 eT VA VB (Or.inl ⟨rfl, rfl⟩) z0 z0 q0 (by rw [z1, q1, (n32 hN).2]; omega) (by rw [z1, q1, (n32 hM).2]; omega) rfl (by rw [z1, q1]; simp; omega) (n0 := bd) N'.toFr ge (g := mkF m pc Ls (.int nn :: .int 0 :: .ref b :: .int 0 :: .ref a :: st)) rfl hml rfl hd hf (W := W) (by show 2 * 0 + _ ≤ _; omega) hlo
  subst hp
  refine Done.step stp (K T' h' ⟨⟨L', X', Fw.ofFr F'⟩, e', Nat.le_trans hb' Kp.1, hZ, hx, ho, r⟩ Kp ((Ar.ofArv hM V').congr fun i hi => ?_))
  rw [z1, q1]
  by_cases q : i < K0
  · rw [if_pos q]
    simp [List.getD_eq_getElem?_getD, List.getElem?_append, q]
    rw [List.getElem?_range (by omega)]
    rfl
  · rw [if_neg q]
    simp [List.getD_eq_getElem?_getD, List.getElem?_append, q]
    have e2 : K0 + (i - K0) = i := by omega
    simp [e2, hi]
/-! constants and references -/
theorem pLdcI {index : Nat} {v : Int32} {t : State} (P : Pos p l e R s m args below meth c Z own ws bd T h k n) (w : (Cond.constant own index v).before a0 Z = true) (hd : decode c.code pc = .ok (.ldc index, 2)) (hp : pc + 2 = pc') (kk : Steps p.tables e below (T.setTop (mkF m pc' Ls (.int v :: st))) t) : Steps p.tables e below (T.setTop (mkF m pc Ls st)) t := by
  obtain ⟨⟨L, X, N'⟩, eT, b, hZ, hx, ho, hlk, _, _⟩ := id P
  subst hp
  exact X.ldcI hx ho (mvT hZ w) (g := mkF m pc Ls st) rfl hd kk
theorem pLdcIw {index : Nat} {v : Int32} {t : State} (P : Pos p l e R s m args below meth c Z own ws bd T h k n) (w : (Cond.constant own index v).before a0 Z = true) (hd : decode c.code pc = .ok (.ldc_w index, 3)) (hp : pc + 3 = pc') (kk : Steps p.tables e below (T.setTop (mkF m pc' Ls (.int v :: st))) t) : Steps p.tables e below (T.setTop (mkF m pc Ls st)) t := by
  obtain ⟨⟨L, X, N'⟩, eT, b, hZ, hx, ho, hlk, _, _⟩ := id P
  subst hp
  exact X.ldcWI hx ho (mvT hZ w) (g := mkF m pc Ls st) rfl hd kk
theorem pLdcJ {index : Nat} {v : Int64} {t : State} (P : Pos p l e R s m args below meth c Z own ws bd T h k n) (w : (Cond.constantLong own index v).before a0 Z = true) (hd : decode c.code pc = .ok (.ldc2_w index, 3)) (hp : pc + 3 = pc') (kk : Steps p.tables e below (T.setTop (mkF m pc' Ls (.long v :: st))) t) : Steps p.tables e below (T.setTop (mkF m pc Ls st)) t := by
  obtain ⟨⟨L, X, N'⟩, eT, b, hZ, hx, ho, hlk, _, _⟩ := id P
  subst hp
  exact X.ldc2J hx ho (mvT hZ w) (g := mkF m pc Ls st) rfl hd kk
theorem pLdcD {index : Nat} {v : UInt64} {t : State} (P : Pos p l e R s m args below meth c Z own ws bd T h k n) (w : (Cond.constantDouble own index v).before a0 Z = true) (hd : decode c.code pc = .ok (.ldc2_w index, 3)) (hp : pc + 3 = pc') (kk : Steps p.tables e below (T.setTop (mkF m pc' Ls (.double v :: st))) t) : Steps p.tables e below (T.setTop (mkF m pc Ls st)) t := by
  obtain ⟨⟨L, X, N'⟩, eT, b, hZ, hx, ho, hlk, _, _⟩ := id P
  subst hp
  exact X.ldc2DoubleC hx ho (mvT hZ w) (g := mkF m pc Ls st) rfl hd t kk
theorem pAcmp {cd : ACond} {x y : Value} {rest stk : List Value} {o : Int} {pc0 : Nat} {same : Bool} {t : State} (P : Pos p l e R s m args below meth c Z own ws bd T h k n) (h1 : x.isRef = true) (h2 : y.isRef = true) (hpc : pc = pc0) (hd : decode c.code pc = .ok (.if_acmp cd o, 3)) (hs : stk = y :: x :: rest) (hq : decide (x = y) = same) (ho : 0 ≤ (pc0 : Int) + o)
    (hp : pc' = if acV cd same = true then ((pc0 : Int) + o).toNat else pc0 + 3) (kk : Steps p.tables e below (T.setTop (mkF m pc' Ls rest)) t) : Steps p.tables e below (T.setTop (mkF m pc Ls stk)) t := by
  obtain ⟨⟨L, X, N'⟩, eT, b, hZ, hx, ho', hlk, _, _⟩ := id P
  exact Jvm.RoadKit.acmp (g := mkF m pc Ls stk) X hx rfl h1 h2 (pc0 := pc0) (pc' := pc') (same := same) hpc hd hs hq ho hp kk
end A
/-! conditions of branches -/
theorem iiW_lt_t {x y : Int32} (h : x < y) : if_icmp.holds .lt x y = true := (tlt h).1
theorem iiW_lt_f {x y : Int32} (h : ¬ (x < y)) : if_icmp.holds .lt x y = false := (flt h).1
theorem iiW_ge_t {x y : Int32} (h : ¬ (x < y)) : if_icmp.holds .ge x y = true := (flt h).2.1
theorem iiW_ge_f {x y : Int32} (h : ¬ ¬ (x < y)) : if_icmp.holds .ge x y = false := (tlt (Decidable.not_not.mp h)).2.1
theorem iiW_gt_t {x y : Int32} (h : y < x) : if_icmp.holds .gt x y = true := (tlt h).2.2.1
theorem iiW_gt_f {x y : Int32} (h : ¬ (y < x)) : if_icmp.holds .gt x y = false := (flt h).2.2.1
theorem iiW_le_t {x y : Int32} (h : ¬ (y < x)) : if_icmp.holds .le x y = true := (flt h).2.2.2
theorem iiW_le_f {x y : Int32} (h : ¬ ¬ (y < x)) : if_icmp.holds .le x y = false := (tlt (Decidable.not_not.mp h)).2.2.2
theorem iiW_eq_t {x y : Int32} (h : x = y) : if_icmp.holds .eq x y = true := (teq h).1
theorem iiW_eq_f {x y : Int32} (h : ¬ (x = y)) : if_icmp.holds .eq x y = false := (feq h).1
theorem iiW_ne_t {x y : Int32} (h : ¬ (x = y)) : if_icmp.holds .ne x y = true := (feq h).2
theorem iiW_ne_f {x y : Int32} (h : ¬ ¬ (x = y)) : if_icmp.holds .ne x y = false := (teq (Decidable.not_not.mp h)).2
theorem i0W_lt_t {x : Int32} (h : x < (0 : Int32)) : ifCond.holds .lt x = true := (if0 _ _).trans (iiW_lt_t h)
theorem i0W_lt_f {x : Int32} (h : ¬ (x < (0 : Int32))) : ifCond.holds .lt x = false := (if0 _ _).trans (iiW_lt_f h)
theorem i0W_ge_t {x : Int32} (h : ¬ (x < (0 : Int32))) : ifCond.holds .ge x = true := (if0 _ _).trans (iiW_ge_t h)
theorem i0W_ge_f {x : Int32} (h : ¬ ¬ (x < (0 : Int32))) : ifCond.holds .ge x = false := (if0 _ _).trans (iiW_ge_f h)
theorem i0W_gt_t {x : Int32} (h : (0 : Int32) < x) : ifCond.holds .gt x = true := (if0 _ _).trans (iiW_gt_t h)
theorem i0W_gt_f {x : Int32} (h : ¬ ((0 : Int32) < x)) : ifCond.holds .gt x = false := (if0 _ _).trans (iiW_gt_f h)
theorem i0W_le_t {x : Int32} (h : ¬ ((0 : Int32) < x)) : ifCond.holds .le x = true := (if0 _ _).trans (iiW_le_t h)
theorem i0W_le_f {x : Int32} (h : ¬ ¬ ((0 : Int32) < x)) : ifCond.holds .le x = false := (if0 _ _).trans (iiW_le_f h)
theorem i0W_eq_t {x : Int32} (h : x = (0 : Int32)) : ifCond.holds .eq x = true := (if0 _ _).trans (iiW_eq_t h)
theorem i0W_eq_f {x : Int32} (h : ¬ (x = (0 : Int32))) : ifCond.holds .eq x = false := (if0 _ _).trans (iiW_eq_f h)
theorem i0W_ne_t {x : Int32} (h : ¬ (x = (0 : Int32))) : ifCond.holds .ne x = true := (if0 _ _).trans (iiW_ne_t h)
theorem i0W_ne_f {x : Int32} (h : ¬ ¬ (x = (0 : Int32))) : ifCond.holds .ne x = false := (if0 _ _).trans (iiW_ne_f h)
theorem lcW_lt_t {x y : Int64} (h : x < y) : ifCond.holds .lt (lcmpW x y) = true := i0W_lt_t ((lw_lt x y).mpr h)
theorem lcW_lt_f {x y : Int64} (h : ¬ (x < y)) : ifCond.holds .lt (lcmpW x y) = false := i0W_lt_f fun q => h ((lw_lt x y).mp q)
theorem lcW_ge_t {x y : Int64} (h : ¬ (x < y)) : ifCond.holds .ge (lcmpW x y) = true := i0W_ge_t fun q => h ((lw_lt x y).mp q)
theorem lcW_ge_f {x y : Int64} (h : ¬ ¬ (x < y)) : ifCond.holds .ge (lcmpW x y) = false := i0W_ge_f fun q => h fun z => q ((lw_lt x y).mpr z)
theorem lcW_gt_t {x y : Int64} (h : y < x) : ifCond.holds .gt (lcmpW x y) = true := i0W_gt_t ((lw_gt x y).mpr h)
theorem lcW_gt_f {x y : Int64} (h : ¬ (y < x)) : ifCond.holds .gt (lcmpW x y) = false := i0W_gt_f fun q => h ((lw_gt x y).mp q)
theorem lcW_le_t {x y : Int64} (h : ¬ (y < x)) : ifCond.holds .le (lcmpW x y) = true := i0W_le_t fun q => h ((lw_gt x y).mp q)
theorem lcW_le_f {x y : Int64} (h : ¬ ¬ (y < x)) : ifCond.holds .le (lcmpW x y) = false := i0W_le_f fun q => h fun z => q ((lw_gt x y).mpr z)
theorem lcW_eq_t {x y : Int64} (h : x = y) : ifCond.holds .eq (lcmpW x y) = true := i0W_eq_t ((lw_eq x y).mpr h)
theorem lcW_eq_f {x y : Int64} (h : ¬ (x = y)) : ifCond.holds .eq (lcmpW x y) = false := i0W_eq_f fun q => h ((lw_eq x y).mp q)
theorem lcW_ne_t {x y : Int64} (h : ¬ (x = y)) : ifCond.holds .ne (lcmpW x y) = true := i0W_ne_t fun q => h ((lw_eq x y).mp q)
theorem lcW_ne_f {x y : Int64} (h : ¬ ¬ (x = y)) : ifCond.holds .ne (lcmpW x y) = false := i0W_ne_f fun q => h fun z => q ((lw_eq x y).mpr z)
/-- how two whole numbers compare, as dcmp pushes it -/
def cmpZ (i j : Int) : Int32 := if i < j then -1 else if i = j then 0 else 1
theorem cmpZ_lt (i j : Int) : cmpZ i j < (0 : Int32) ↔ i < j := by
  unfold cmpZ
  by_cases h1 : i < j
  · rw [if_pos h1]; exact ⟨fun _ => h1, fun _ => by decide⟩
  · rw [if_neg h1]
    by_cases h2 : i = j
    · rw [if_pos h2]; exact ⟨fun q => absurd q (by decide), fun q => absurd q h1⟩
    · rw [if_neg h2]; exact ⟨fun q => absurd q (by decide), fun q => absurd q h1⟩
theorem cmpZ_gt (i j : Int) : (0 : Int32) < cmpZ i j ↔ j < i := by
  unfold cmpZ
  by_cases h1 : i < j
  · rw [if_pos h1]; exact ⟨fun q => absurd q (by decide), fun q => by omega⟩
  · rw [if_neg h1]
    by_cases h2 : i = j
    · rw [if_pos h2]; exact ⟨fun q => absurd q (by decide), fun q => by omega⟩
    · rw [if_neg h2]; exact ⟨fun _ => by omega, fun _ => by decide⟩
theorem cmpZ_eq (i j : Int) : cmpZ i j = (0 : Int32) ↔ i = j := by
  unfold cmpZ
  by_cases h1 : i < j
  · rw [if_pos h1]; exact ⟨fun q => absurd q (by decide), fun q => by omega⟩
  · rw [if_neg h1]
    by_cases h2 : i = j
    · rw [if_pos h2]; exact ⟨fun _ => h2, fun _ => rfl⟩
    · rw [if_neg h2]; exact ⟨fun q => absurd q (by decide), fun q => absurd q h2⟩
theorem ciW_lt_t {x y : Int} (h : x < y) : ifCond.holds .lt (cmpZ x y) = true := i0W_lt_t ((cmpZ_lt x y).mpr h)
theorem ciW_lt_f {x y : Int} (h : ¬ (x < y)) : ifCond.holds .lt (cmpZ x y) = false := i0W_lt_f fun q => h ((cmpZ_lt x y).mp q)
theorem ciW_ge_t {x y : Int} (h : ¬ (x < y)) : ifCond.holds .ge (cmpZ x y) = true := i0W_ge_t fun q => h ((cmpZ_lt x y).mp q)
theorem ciW_ge_f {x y : Int} (h : ¬ ¬ (x < y)) : ifCond.holds .ge (cmpZ x y) = false := i0W_ge_f fun q => h fun z => q ((cmpZ_lt x y).mpr z)
theorem ciW_gt_t {x y : Int} (h : y < x) : ifCond.holds .gt (cmpZ x y) = true := i0W_gt_t ((cmpZ_gt x y).mpr h)
theorem ciW_gt_f {x y : Int} (h : ¬ (y < x)) : ifCond.holds .gt (cmpZ x y) = false := i0W_gt_f fun q => h ((cmpZ_gt x y).mp q)
theorem ciW_le_t {x y : Int} (h : ¬ (y < x)) : ifCond.holds .le (cmpZ x y) = true := i0W_le_t fun q => h ((cmpZ_gt x y).mp q)
theorem ciW_le_f {x y : Int} (h : ¬ ¬ (y < x)) : ifCond.holds .le (cmpZ x y) = false := i0W_le_f fun q => h fun z => q ((cmpZ_gt x y).mpr z)
theorem ciW_eq_t {x y : Int} (h : x = y) : ifCond.holds .eq (cmpZ x y) = true := i0W_eq_t ((cmpZ_eq x y).mpr h)
theorem ciW_eq_f {x y : Int} (h : ¬ (x = y)) : ifCond.holds .eq (cmpZ x y) = false := i0W_eq_f fun q => h ((cmpZ_eq x y).mp q)
theorem ciW_ne_t {x y : Int} (h : ¬ (x = y)) : ifCond.holds .ne (cmpZ x y) = true := i0W_ne_t fun q => h ((cmpZ_eq x y).mp q)
theorem ciW_ne_f {x y : Int} (h : ¬ ¬ (x = y)) : ifCond.holds .ne (cmpZ x y) = false := i0W_ne_f fun q => h fun z => q ((cmpZ_eq x y).mpr z)
section B
variable {C : Prop} [Decidable C]
theorem b01or (C : Prop) [Decidable C] : (if C then (1 : Int32) else (0 : Int32)) = 0 ∨ (if C then (1 : Int32) else (0 : Int32)) = 1 := by split <;> simp
theorem b01_eq_t (h : ¬ (C)) : ifCond.holds .eq (if C then (1 : Int32) else (0 : Int32)) = true := by rw [if_neg h]; rfl
theorem b01_eq_f (h : ¬ ¬ (C)) : ifCond.holds .eq (if C then (1 : Int32) else (0 : Int32)) = false := by rw [if_pos (Decidable.not_not.mp h)]; rfl
theorem b01_ne_t (h : C) : ifCond.holds .ne (if C then (1 : Int32) else (0 : Int32)) = true := by rw [if_pos h]; rfl
theorem b01_ne_f (h : ¬ (C)) : ifCond.holds .ne (if C then (1 : Int32) else (0 : Int32)) = false := by rw [if_neg h]; rfl
end B
theorem narrow_01 {x : Int32} (h : x = 0 ∨ x = 1) : narrow .boolean (.int x) = .int x := by rcases h with rfl | rfl <;> rfl
theorem fits_01 {x : Int32} (h : x = 0 ∨ x = 1) : fits .boolean (.int x) = true := by rcases h with rfl | rfl <;> rfl
theorem cat1 {v : Value} (h : v.isRef = true) : v.category = 1 := by cases v <;> first | rfl | (simp [Value.isRef] at h)
theorem narrow_refT {v : Value} {t : FieldType} (h : v.isRef = true) : narrow t v = v := by cases v <;> first | (simp [Value.isRef] at h; done) | (cases t <;> rfl)
theorem fits_refT {v : Value} {t : FieldType} (h : v.isRef = true) (ht : t.isReference = true) : fits t v = true := by cases v <;> first | (simp [Value.isRef] at h; done) | (cases t <;> first | rfl | (simp [FieldType.isReference] at ht; done))
theorem nab_mul {i j : Int} {A B : Nat} (h1 : i.natAbs ≤ A) (h2 : j.natAbs ≤ B) : (i * j).natAbs ≤ A * B := by rw [Int.natAbs_mul]; exact Nat.mul_le_mul h1 h2
theorem nab_add {i j : Int} {A B : Nat} (h1 : i.natAbs ≤ A) (h2 : j.natAbs ≤ B) : (i + j).natAbs ≤ A + B := by omega
theorem nab_sub {i j : Int} {A B : Nat} (h1 : i.natAbs ≤ A) (h2 : j.natAbs ≤ B) : (i - j).natAbs ≤ A + B := by omega
/-! whole numbers as doubles -/
section C
open Jvm.FP Jvm.FP.Core Jvm.Free.Fl
theorem dint_c0 : DInt 0 FP.dconst0 := by
  have h := i2d_int 0
  rwa [show Core.i2d 0 = FP.dconst0 from by decide +kernel] at h
theorem dint_c1 : DInt 1 FP.dconst1 := by
  have h := i2d_int 1
  rwa [show Core.i2d 1 = FP.dconst1 from by decide +kernel] at h
theorem dint_ite {C : Prop} [Decidable C] {i j : Int} {a b : UInt64} (h1 : C → DInt i a) (h0 : ¬ C → DInt j b) : DInt (if C then i else j) (if C then a else b) := by
  by_cases h : C
  · rw [if_pos h, if_pos h]; exact h1 h
  · rw [if_neg h, if_neg h]; exact h0 h
theorem nnD {i : Int} {a : UInt64} (h : DInt i a) : NoNaN64 a := val64_no.mpr (DInt_ne_nan h)
theorem dcmpZ {i j : Int} {a b : UInt64} (ha : DInt i a) (hb : DInt j b) {o : CmpOp} : cmpValue (FP.dcmp a b) o = cmpZ i j := by
  rw [show FP.dcmp a b = some (compare i j) from dcmp_int ha hb, compare_ite]
  unfold cmpZ
  split
  · rfl
  · split <;> rfl
end C
end Jvm.OwnW
namespace Jvm.Pilot.@@N@@
open Jvm Jvm.ClassFile Sem Op Lib Jvm.Free Jvm.Stand Jvm.LawKit Jvm.RoadKit Jvm.OwnW Bundle Jvm.Pilot.@@N@@.Jvm.D
open Jvm.FP.Core (DInt i2d_int l2d_int dadd_int dsub_int dmul_int dneg_int zval b64 val64 dcmp_zval compare_ite i2d_ne_zero DInt_ne_nan dcmp_int dcmp_l2d)

theorem own_root {Z : State} {a0 : Array Value} {O K : String} {n : Nat} (w : (Cond.noSuperclass O).before a0 Z = true) (wi : (Cond.instantiable K n).before a0 Z = true) (hn : O ≠ K) : NS Z O K := by
  obtain ⟨c, k, h1, h2, h3, -, -⟩ := Cond.noSuperclass_spec w
  obtain ⟨t, k', g1, -⟩ := Cond.instantiable_spec wi
  have ne := ids_ne h1 g1 hn
  refine ⟨c, t, h1, g1, fun fuel => ?_⟩
  cases fuel with
  | zero => rfl
  | succ f => simp [Vm.isSubclassAux, ne, h2, h3]
theorem own_noC {Z : State} {a0 : Array Value} {C S K : String} {n : Nat} (w : (Cond.superclass C S).before a0 Z = true) (wi : (Cond.instantiable K n).before a0 Z = true) (q : NS Z C K) (hn : C ≠ K) : ∃ c t, Z.vm.findClass C = some c ∧ Z.vm.findClass K = some t ∧ Z.vm.assignable c t = false := by
  obtain ⟨c, t, h0, g0, n3⟩ := q
  obtain ⟨p, k, kp, h1, h2, h3, h4, h5, -, h7⟩ := Cond.superclass_spec h0 w
  obtain ⟨t', k', g1, g2, g3, g4, -, -⟩ := Cond.instantiable_spec wi
  cases g0.symm.trans g1
  have g5 : k'.isInterface = false := (Bool.or_eq_false_iff.mp g4).1
  have ne := ids_ne h0 g0 hn
  refine ⟨c, t, h0, g0, ?_⟩
  show Z.vm.assignableAux (255 + 1) c t = false
  simp [Vm.assignableAux, ne, h2, g2, h5, g3, g5, Vm.isSubclass, n3]
theorem own_noO {Z : State} {a0 : Array Value} {O K : String} {n : Nat} (w : (Cond.noSuperclass O).before a0 Z = true) (wi : (Cond.instantiable K n).before a0 Z = true) (hn : O ≠ K) : ∃ c t, Z.vm.findClass O = some c ∧ Z.vm.findClass K = some t ∧ Z.vm.assignable c t = false := by
  obtain ⟨c, t, h0, g0, n3⟩ := own_root w wi hn
  obtain ⟨c', k, h1, h2, h3, h5, h7⟩ := Cond.noSuperclass_spec w
  cases h0.symm.trans h1
  obtain ⟨t', k', g1, g2, g3, g4, -, -⟩ := Cond.instantiable_spec wi
  cases g0.symm.trans g1
  have g5 : k'.isInterface = false := (Bool.or_eq_false_iff.mp g4).1
  have ne := ids_ne h0 g0 hn
  refine ⟨c, t, h0, g0, ?_⟩
  show Z.vm.assignableAux (255 + 1) c t = false
  simp [Vm.assignableAux, ne, h2, g2, h5, g3, g5, Vm.isSubclass, n3]
theorem own_small {Z : State} {args : Array Value} {t : Term} {x : Addr} {cl : Cell} {v : Value} (ht : t.eval args Z none [] Z = some (.ref x)) (ha : Z.arrayAt? x = some cl) (h : (Term.length t).eval args Z none [] Z = some v) : cl.slots.size < 2 ^ 31 ∧ v = .int cl.slots.size.toInt32 := by
  by_cases q : cl.slots.size < 2 ^ 31
  · exact ⟨q, (Option.some.inj ((len_f ht ha q).symm.trans h)).symm⟩
  · simp [Term.eval, ht, ha, q] at h
theorem own_bx {Z : State} {args : Array Value} {t F : Term} {a : Addr} {K d : String} (et : t.eval args Z none [] Z = some (.ref a)) (ho : (Cond.arrayOf t (.object K)).value args Z none Z [] = some true) (hl : (Cond.eq (.length t) (.int 256)).value args Z none Z [] = some true)
    (h : (Cond.all t (.and (.exactly (.elem t (.index 0)) K) (.eq (.field (.elem t (.index 0)) K "value" d) F))).value args Z none Z [] = some true) (ei : ∀ idx, t.eval args Z none idx Z = t.eval args Z none [] Z := by intro idx; rfl) : ∃ g : Nat → Addr, Ar Z Z.heap a (.object K) 256 (fun i => .ref (g i)) ∧ ∀ i, i < 256 → Exa Z Z.heap (g i) K := by
  obtain ⟨c, A⟩ := Arr.start et ho
  have fin := A.fin (Vm.Alike.refl _)
  obtain ⟨q, e⟩ := own_small et fin (eqv_i (Term.int_eval 256) hl)
  have e' : c.slots.size.toInt32 = 256 := (Value.int.inj e).symm
  have e2 : c.slots.size = 256 := by
    have := len_toInt q
    rw [e'] at this
    have e3 : (256 : Int32).toInt = 256 := by decide
    omega
  have H : ∀ i : Nat, ∃ b : Addr, i < 256 → c.slots[i]? = some (.ref b) ∧ Exa Z Z.heap b K := fun i => by
    by_cases hi : i < 256
    · have hj : (Int32.ofNat i).toInt = (i : Int) := Int32.toInt_ofNat_of_lt (by omega)
      have hk : (Int32.ofNat i).toNatClampNeg = i := by rw [Int32.toNatClampNeg, hj]; omega
      have nn : ¬ (Int32.ofNat i) < 0 := by rw [Int32.lt_iff_toInt_lt, hj, show (0 : Int32).toInt = 0 from rfl]; omega
      obtain ⟨u1, u2⟩ := and_e (Cond.all_elim et fin h i (by omega))
      obtain ⟨box, eb⟩ := exa_v u1
      have ex := exa_at eb u1
      have ix : (Term.index 0).eval args Z none [(Int32.ofNat i).toNatClampNeg] Z = some (.int (Int32.ofNat i)) := idx_at nn
      rw [hk] at ix
      have el := (elem_f ((ei [i]).trans et) ix fin nn).symm.trans eb
      rw [hk] at el
      exact ⟨box, fun _ => ⟨el, ex⟩⟩
    · exact ⟨0, fun z => absurd z hi⟩
  obtain ⟨g, hg⟩ := Classical.axiomOfChoice H
  exact ⟨g, ⟨c, A, e2, by decide, fun i hi => (hg i hi).1⟩, fun i hi => (hg i hi).2⟩
theorem own_ic (p : Int32) (h1 : ¬ (p < (-128 : Int32))) (h2 : ¬ ((127 : Int32) < p)) : ∃ i : Nat, i < 256 ∧ (p + (128 : Int32)).toInt = (i : Int) := by
  rw [Int32.lt_iff_toInt_lt] at h1 h2
  have e1 : (-128 : Int32).toInt = -128 := by decide
  have e2 : (127 : Int32).toInt = 127 := by decide
  have e3 : (128 : Int32).toInt = 128 := by decide
  have a := c_iadd p 128
  have b := rng32 (p + 128)
  exact ⟨(p + 128).toInt.toNat, by omega, by omega⟩
theorem own_lc (p : Int64) (h1 : ¬ (p < (-128 : Int64))) (h2 : ¬ ((127 : Int64) < p)) : ∃ i : Nat, i < 256 ∧ (p.toInt32 + (128 : Int32)).toInt = (i : Int) := by
  rw [Int64.lt_iff_toInt_lt] at h1 h2
  have e1 : (-128 : Int64).toInt = -128 := by decide
  have e2 : (127 : Int64).toInt = 127 := by decide
  have e3 : (128 : Int32).toInt = 128 := by decide
  have l := c_l2i p
  have r := rng32 p.toInt32
  have a := c_iadd p.toInt32 128
  have b := rng32 (p.toInt32 + 128)
  exact ⟨(p.toInt32 + 128).toInt.toNat, by omega, by omega⟩
theorem own_q (x : Int32) : ¬ ((255 : Int32) < nar .char ((x &&& (255 : Int32)).toUInt32.toUInt16.toUInt32.toInt32)) := by
  have e : nar .char ((x &&& (255 : Int32)).toUInt32.toUInt16.toUInt32.toInt32) = ((x &&& (255 : Int32)).toUInt32.toUInt16.toUInt32.toInt32).toUInt32.toUInt16.toUInt32.toInt32 := rfl
  rw [e, i2c_mask, i2c_mask]
  have h := c_and x 255 (by decide)
  rw [Int32.lt_iff_toInt_lt]
  have h4 : (255 : Int32).toInt = 255 := by decide
  omega
theorem own_kv (p : Int32) : ((p &&& (2147483647 : Int32)) - ((p &&& (2147483647 : Int32)) / (10 : Int32)) * (10 : Int32)) = 0 ∨ ((p &&& (2147483647 : Int32)) - ((p &&& (2147483647 : Int32)) / (10 : Int32)) * (10 : Int32)) = 1 ∨ ((p &&& (2147483647 : Int32)) - ((p &&& (2147483647 : Int32)) / (10 : Int32)) * (10 : Int32)) = 2 ∨ ((p &&& (2147483647 : Int32)) - ((p &&& (2147483647 : Int32)) / (10 : Int32)) * (10 : Int32)) = 3 ∨ ((p &&& (2147483647 : Int32)) - ((p &&& (2147483647 : Int32)) / (10 : Int32)) * (10 : Int32)) = 4 ∨ ((p &&& (2147483647 : Int32)) - ((p &&& (2147483647 : Int32)) / (10 : Int32)) * (10 : Int32)) = 5 ∨ ((p &&& (2147483647 : Int32)) - ((p &&& (2147483647 : Int32)) / (10 : Int32)) * (10 : Int32)) = 6 ∨ ((p &&& (2147483647 : Int32)) - ((p &&& (2147483647 : Int32)) / (10 : Int32)) * (10 : Int32)) = 7 ∨ ((p &&& (2147483647 : Int32)) - ((p &&& (2147483647 : Int32)) / (10 : Int32)) * (10 : Int32)) = 8 ∨ ((p &&& (2147483647 : Int32)) - ((p &&& (2147483647 : Int32)) / (10 : Int32)) * (10 : Int32)) = 9 := by
  rw [show ((p &&& (2147483647 : Int32)) - ((p &&& (2147483647 : Int32)) / (10 : Int32)) * (10 : Int32)) = (p &&& (2147483647 : Int32)) % 10 from irem_eq_mod _ _]
  have h1 := c_and p 2147483647 (by decide)
  have h2 := (c_irem (p &&& 2147483647) 10 10 (by decide)).1 h1.1
  have q : ∀ n : Int32, ((p &&& 2147483647) % 10).toInt = n.toInt → (p &&& 2147483647) % 10 = n := fun n h => Int32.toInt_inj.mp h
  generalize ((p &&& 2147483647) % 10) = w at *
  have h : w.toInt = 0 ∨ w.toInt = 1 ∨ w.toInt = 2 ∨ w.toInt = 3 ∨ w.toInt = 4 ∨ w.toInt = 5 ∨ w.toInt = 6 ∨ w.toInt = 7 ∨ w.toInt = 8 ∨ w.toInt = 9 := by omega
  rcases h with h | h | h | h | h | h | h | h | h | h
  · exact Or.inl (q 0 h)
  · exact Or.inr (Or.inl (q 1 h))
  · exact Or.inr (Or.inr (Or.inl (q 2 h)))
  · exact Or.inr (Or.inr (Or.inr (Or.inl (q 3 h))))
  · exact Or.inr (Or.inr (Or.inr (Or.inr (Or.inl (q 4 h)))))
  · exact Or.inr (Or.inr (Or.inr (Or.inr (Or.inr (Or.inl (q 5 h))))))
  · exact Or.inr (Or.inr (Or.inr (Or.inr (Or.inr (Or.inr (Or.inl (q 6 h)))))))
  · exact Or.inr (Or.inr (Or.inr (Or.inr (Or.inr (Or.inr (Or.inr (Or.inl (q 7 h))))))))
  · exact Or.inr (Or.inr (Or.inr (Or.inr (Or.inr (Or.inr (Or.inr (Or.inr (Or.inl (q 8 h)))))))))
  · exact Or.inr (Or.inr (Or.inr (Or.inr (Or.inr (Or.inr (Or.inr (Or.inr (Or.inr (q 9 h)))))))))
theorem tw0 {a0 : Array Value} {Z : State} (hw : ∀ d ∈ tables_1, d.before a0 Z = true) : (Jvm.Cond.constant "kindlewood/InterpreterIsNumberPinLaw" (47 : Nat) (2147483647 : Int32)).before a0 Z = true := hw _ (List.mem_of_getElem? (i := 0) rfl)
theorem tw1 {a0 : Array Value} {Z : State} (hw : ∀ d ∈ tables_1, d.before a0 Z = true) : (Jvm.Cond.methodLink "kindlewood/InterpreterIsNumberPinLaw" (48 : Nat) ({ cls := "kindlewood/InterpreterIsNumberPinLaw", name := "make", desc := "(IIJ)Ljava/lang/Object;" } : Jvm.MethodName)).before a0 Z = true := hw _ (List.mem_of_getElem? (i := 1) rfl)
theorem tw2 {a0 : Array Value} {Z : State} (hw : ∀ d ∈ tables_1, d.before a0 Z = true) : (Jvm.Cond.static ({ cls := "kindlewood/InterpreterIsNumberPinLaw", name := "make", desc := "(IIJ)Ljava/lang/Object;" } : Jvm.MethodName)).before a0 Z = true := hw _ (List.mem_of_getElem? (i := 2) rfl)
theorem tw3 {a0 : Array Value} {Z : State} (hw : ∀ d ∈ tables_1, d.before a0 Z = true) : (Jvm.Cond.initialized "kindlewood/InterpreterIsNumberPinLaw").before a0 Z = true := hw _ (List.mem_of_getElem? (i := 3) rfl)
theorem tw4 {a0 : Array Value} {Z : State} (hw : ∀ d ∈ tables_1, d.before a0 Z = true) : (Jvm.Cond.code ({ cls := "kindlewood/InterpreterIsNumberPinLaw", name := "make", desc := "(IIJ)Ljava/lang/Object;" } : Jvm.MethodName) method_2_code (5 : Nat) (Option.some (Jvm.ClassFile.FieldType.object "java/lang/Object"))).before a0 Z = true := hw _ (List.mem_of_getElem? (i := 4) rfl)
theorem tw5 {a0 : Array Value} {Z : State} (hw : ∀ d ∈ tables_1, d.before a0 Z = true) : (Jvm.Cond.methodLink "kindlewood/InterpreterIsNumberPinLaw" (54 : Nat) ({ cls := "kindlewood/Interpreter", name := "isNumber", desc := "(Ljava/lang/Object;)Z" } : Jvm.MethodName)).before a0 Z = true := hw _ (List.mem_of_getElem? (i := 5) rfl)
theorem tw6 {a0 : Array Value} {Z : State} (hw : ∀ d ∈ tables_1, d.before a0 Z = true) : (Jvm.Cond.static ({ cls := "kindlewood/Interpreter", name := "isNumber", desc := "(Ljava/lang/Object;)Z" } : Jvm.MethodName)).before a0 Z = true := hw _ (List.mem_of_getElem? (i := 6) rfl)
theorem tw7 {a0 : Array Value} {Z : State} (hw : ∀ d ∈ tables_1, d.before a0 Z = true) : (Jvm.Cond.initialized "kindlewood/Interpreter").before a0 Z = true := hw _ (List.mem_of_getElem? (i := 7) rfl)
theorem tw8 {a0 : Array Value} {Z : State} (hw : ∀ d ∈ tables_1, d.before a0 Z = true) : (Jvm.Cond.code ({ cls := "kindlewood/Interpreter", name := "isNumber", desc := "(Ljava/lang/Object;)Z" } : Jvm.MethodName) prog_41_method_10_code (1 : Nat) (Option.some Jvm.ClassFile.FieldType.boolean)).before a0 Z = true := hw _ (List.mem_of_getElem? (i := 8) rfl)
theorem tw9 {a0 : Array Value} {Z : State} (hw : ∀ d ∈ tables_1, d.before a0 Z = true) : (Jvm.Cond.fieldLink "kindlewood/Interpreter" (103 : Nat) "kindlewood/Variables" "UNBOXED" "Ljava/lang/Object;").before a0 Z = true := hw _ (List.mem_of_getElem? (i := 9) rfl)
theorem tw10 {a0 : Array Value} {Z : State} (hw : ∀ d ∈ tables_1, d.before a0 Z = true) : (Jvm.Cond.initialized "kindlewood/Variables").before a0 Z = true := hw _ (List.mem_of_getElem? (i := 10) rfl)
theorem tw11 {a0 : Array Value} {Z : State} (hw : ∀ d ∈ tables_1, d.before a0 Z = true) : (Jvm.Cond.laysStatic "kindlewood/Variables" "UNBOXED" "Ljava/lang/Object;").before a0 Z = true := hw _ (List.mem_of_getElem? (i := 11) rfl)
theorem tw12 {a0 : Array Value} {Z : State} (hw : ∀ d ∈ tables_1, d.before a0 Z = true) : (Jvm.Cond.methodLink "kindlewood/InterpreterIsNumberPinLaw" (13 : Nat) ({ cls := "java/lang/Double", name := "valueOf", desc := "(D)Ljava/lang/Double;" } : Jvm.MethodName)).before a0 Z = true := hw _ (List.mem_of_getElem? (i := 12) rfl)
theorem tw13 {a0 : Array Value} {Z : State} (hw : ∀ d ∈ tables_1, d.before a0 Z = true) : (Jvm.Cond.static ({ cls := "java/lang/Double", name := "valueOf", desc := "(D)Ljava/lang/Double;" } : Jvm.MethodName)).before a0 Z = true := hw _ (List.mem_of_getElem? (i := 13) rfl)
theorem tw14 {a0 : Array Value} {Z : State} (hw : ∀ d ∈ tables_1, d.before a0 Z = true) : (Jvm.Cond.initialized "java/lang/Double").before a0 Z = true := hw _ (List.mem_of_getElem? (i := 14) rfl)
theorem tw15 {a0 : Array Value} {Z : State} (hw : ∀ d ∈ tables_1, d.before a0 Z = true) : (Jvm.Cond.code ({ cls := "java/lang/Double", name := "valueOf", desc := "(D)Ljava/lang/Double;" } : Jvm.MethodName) jdk_117_method_4_code (2 : Nat) (Option.some (Jvm.ClassFile.FieldType.object "java/lang/Double"))).before a0 Z = true := hw _ (List.mem_of_getElem? (i := 15) rfl)
theorem tw16 {a0 : Array Value} {Z : State} (hw : ∀ d ∈ tables_1, d.before a0 Z = true) : (Jvm.Cond.classLink "java/lang/Double" (1 : Nat) "java/lang/Double").before a0 Z = true := hw _ (List.mem_of_getElem? (i := 16) rfl)
theorem tw17 {a0 : Array Value} {Z : State} (hw : ∀ d ∈ tables_1, d.before a0 Z = true) : (Jvm.Cond.instantiable "java/lang/Double" (1 : Nat)).before a0 Z = true := hw _ (List.mem_of_getElem? (i := 17) rfl)
theorem tw18 {a0 : Array Value} {Z : State} (hw : ∀ d ∈ tables_1, d.before a0 Z = true) : (Jvm.Cond.methodLink "java/lang/Double" (105 : Nat) ({ cls := "java/lang/Double", name := "<init>", desc := "(D)V" } : Jvm.MethodName)).before a0 Z = true := hw _ (List.mem_of_getElem? (i := 18) rfl)
theorem tw19 {a0 : Array Value} {Z : State} (hw : ∀ d ∈ tables_1, d.before a0 Z = true) : (Jvm.Cond.instanceMethod ({ cls := "java/lang/Double", name := "<init>", desc := "(D)V" } : Jvm.MethodName)).before a0 Z = true := hw _ (List.mem_of_getElem? (i := 19) rfl)
theorem tw21 {a0 : Array Value} {Z : State} (hw : ∀ d ∈ tables_1, d.before a0 Z = true) : (Jvm.Cond.code ({ cls := "java/lang/Double", name := "<init>", desc := "(D)V" } : Jvm.MethodName) jdk_117_method_9_code (3 : Nat) (Option.none : Option Jvm.ClassFile.FieldType)).before a0 Z = true := hw _ (List.mem_of_getElem? (i := 21) rfl)
theorem tw22 {a0 : Array Value} {Z : State} (hw : ∀ d ∈ tables_1, d.before a0 Z = true) : (Jvm.Cond.methodLink "java/lang/Double" (113 : Nat) ({ cls := "java/lang/Number", name := "<init>", desc := "()V" } : Jvm.MethodName)).before a0 Z = true := hw _ (List.mem_of_getElem? (i := 22) rfl)
theorem tw23 {a0 : Array Value} {Z : State} (hw : ∀ d ∈ tables_1, d.before a0 Z = true) : (Jvm.Cond.instanceMethod ({ cls := "java/lang/Number", name := "<init>", desc := "()V" } : Jvm.MethodName)).before a0 Z = true := hw _ (List.mem_of_getElem? (i := 23) rfl)
theorem tw26 {a0 : Array Value} {Z : State} (hw : ∀ d ∈ tables_1, d.before a0 Z = true) : (Jvm.Cond.initialized "java/lang/Number").before a0 Z = true := hw _ (List.mem_of_getElem? (i := 26) rfl)
theorem tw27 {a0 : Array Value} {Z : State} (hw : ∀ d ∈ tables_1, d.before a0 Z = true) : (Jvm.Cond.code ({ cls := "java/lang/Number", name := "<init>", desc := "()V" } : Jvm.MethodName) jdk_18_method_1_code (1 : Nat) (Option.none : Option Jvm.ClassFile.FieldType)).before a0 Z = true := hw _ (List.mem_of_getElem? (i := 27) rfl)
theorem tw28 {a0 : Array Value} {Z : State} (hw : ∀ d ∈ tables_1, d.before a0 Z = true) : (Jvm.Cond.methodLink "java/lang/Number" (1 : Nat) ({ cls := "java/lang/Object", name := "<init>", desc := "()V" } : Jvm.MethodName)).before a0 Z = true := hw _ (List.mem_of_getElem? (i := 28) rfl)
theorem tw29 {a0 : Array Value} {Z : State} (hw : ∀ d ∈ tables_1, d.before a0 Z = true) : (Jvm.Cond.instanceMethod ({ cls := "java/lang/Object", name := "<init>", desc := "()V" } : Jvm.MethodName)).before a0 Z = true := hw _ (List.mem_of_getElem? (i := 29) rfl)
theorem tw30 {a0 : Array Value} {Z : State} (hw : ∀ d ∈ tables_1, d.before a0 Z = true) : (Jvm.Cond.code ({ cls := "java/lang/Object", name := "<init>", desc := "()V" } : Jvm.MethodName) object_method_1_code (1 : Nat) (Option.none : Option Jvm.ClassFile.FieldType)).before a0 Z = true := hw _ (List.mem_of_getElem? (i := 30) rfl)
theorem tw31 {a0 : Array Value} {Z : State} (hw : ∀ d ∈ tables_1, d.before a0 Z = true) : (Jvm.Cond.fieldLink "java/lang/Double" (118 : Nat) "java/lang/Double" "value" "D").before a0 Z = true := hw _ (List.mem_of_getElem? (i := 31) rfl)
theorem tw32 {a0 : Array Value} {Z : State} (hw : ∀ d ∈ tables_1, d.before a0 Z = true) : (Jvm.Cond.laysFinal "java/lang/Double" "java/lang/Double" "value" "D").before a0 Z = true := hw _ (List.mem_of_getElem? (i := 32) rfl)
theorem tw33 {a0 : Array Value} {Z : State} (hw : ∀ d ∈ tables_1, d.before a0 Z = true) : (Jvm.Cond.classLink "kindlewood/Interpreter" (120 : Nat) "java/lang/Double").before a0 Z = true := hw _ (List.mem_of_getElem? (i := 33) rfl)
theorem tw34 {a0 : Array Value} {Z : State} (hw : ∀ d ∈ tables_1, d.before a0 Z = true) : (Jvm.Cond.classLink "kindlewood/InterpreterIsNumberPinLaw" (44 : Nat) "java/util/ArrayList").before a0 Z = true := hw _ (List.mem_of_getElem? (i := 34) rfl)
theorem tw35 {a0 : Array Value} {Z : State} (hw : ∀ d ∈ tables_1, d.before a0 Z = true) : (Jvm.Cond.instantiable "java/util/ArrayList" (3 : Nat)).before a0 Z = true := hw _ (List.mem_of_getElem? (i := 35) rfl)
theorem tw36 {a0 : Array Value} {Z : State} (hw : ∀ d ∈ tables_1, d.before a0 Z = true) : (Jvm.Cond.initialized "java/util/ArrayList").before a0 Z = true := hw _ (List.mem_of_getElem? (i := 36) rfl)
theorem tw37 {a0 : Array Value} {Z : State} (hw : ∀ d ∈ tables_1, d.before a0 Z = true) : (Jvm.Cond.methodLink "kindlewood/InterpreterIsNumberPinLaw" (46 : Nat) ({ cls := "java/util/ArrayList", name := "<init>", desc := "()V" } : Jvm.MethodName)).before a0 Z = true := hw _ (List.mem_of_getElem? (i := 37) rfl)
theorem tw38 {a0 : Array Value} {Z : State} (hw : ∀ d ∈ tables_1, d.before a0 Z = true) : (Jvm.Cond.instanceMethod ({ cls := "java/util/ArrayList", name := "<init>", desc := "()V" } : Jvm.MethodName)).before a0 Z = true := hw _ (List.mem_of_getElem? (i := 38) rfl)
theorem tw39 {a0 : Array Value} {Z : State} (hw : ∀ d ∈ tables_1, d.before a0 Z = true) : (Jvm.Cond.code ({ cls := "java/util/ArrayList", name := "<init>", desc := "()V" } : Jvm.MethodName) jdk_38_method_2_code (1 : Nat) (Option.none : Option Jvm.ClassFile.FieldType)).before a0 Z = true := hw _ (List.mem_of_getElem? (i := 39) rfl)
theorem tw40 {a0 : Array Value} {Z : State} (hw : ∀ d ∈ tables_1, d.before a0 Z = true) : (Jvm.Cond.methodLink "java/util/ArrayList" (1 : Nat) ({ cls := "java/util/AbstractList", name := "<init>", desc := "()V" } : Jvm.MethodName)).before a0 Z = true := hw _ (List.mem_of_getElem? (i := 40) rfl)
theorem tw41 {a0 : Array Value} {Z : State} (hw : ∀ d ∈ tables_1, d.before a0 Z = true) : (Jvm.Cond.instanceMethod ({ cls := "java/util/AbstractList", name := "<init>", desc := "()V" } : Jvm.MethodName)).before a0 Z = true := hw _ (List.mem_of_getElem? (i := 41) rfl)
theorem tw44 {a0 : Array Value} {Z : State} (hw : ∀ d ∈ tables_1, d.before a0 Z = true) : (Jvm.Cond.initialized "java/util/AbstractList").before a0 Z = true := hw _ (List.mem_of_getElem? (i := 44) rfl)
theorem tw45 {a0 : Array Value} {Z : State} (hw : ∀ d ∈ tables_1, d.before a0 Z = true) : (Jvm.Cond.code ({ cls := "java/util/AbstractList", name := "<init>", desc := "()V" } : Jvm.MethodName) jdk_39_method_1_code (1 : Nat) (Option.none : Option Jvm.ClassFile.FieldType)).before a0 Z = true := hw _ (List.mem_of_getElem? (i := 45) rfl)
theorem tw46 {a0 : Array Value} {Z : State} (hw : ∀ d ∈ tables_1, d.before a0 Z = true) : (Jvm.Cond.methodLink "java/util/AbstractList" (1 : Nat) ({ cls := "java/util/AbstractCollection", name := "<init>", desc := "()V" } : Jvm.MethodName)).before a0 Z = true := hw _ (List.mem_of_getElem? (i := 46) rfl)
theorem tw47 {a0 : Array Value} {Z : State} (hw : ∀ d ∈ tables_1, d.before a0 Z = true) : (Jvm.Cond.instanceMethod ({ cls := "java/util/AbstractCollection", name := "<init>", desc := "()V" } : Jvm.MethodName)).before a0 Z = true := hw _ (List.mem_of_getElem? (i := 47) rfl)
theorem tw50 {a0 : Array Value} {Z : State} (hw : ∀ d ∈ tables_1, d.before a0 Z = true) : (Jvm.Cond.initialized "java/util/AbstractCollection").before a0 Z = true := hw _ (List.mem_of_getElem? (i := 50) rfl)
theorem tw51 {a0 : Array Value} {Z : State} (hw : ∀ d ∈ tables_1, d.before a0 Z = true) : (Jvm.Cond.code ({ cls := "java/util/AbstractCollection", name := "<init>", desc := "()V" } : Jvm.MethodName) jdk_22_method_1_code (1 : Nat) (Option.none : Option Jvm.ClassFile.FieldType)).before a0 Z = true := hw _ (List.mem_of_getElem? (i := 51) rfl)
theorem tw52 {a0 : Array Value} {Z : State} (hw : ∀ d ∈ tables_1, d.before a0 Z = true) : (Jvm.Cond.methodLink "java/util/AbstractCollection" (1 : Nat) ({ cls := "java/lang/Object", name := "<init>", desc := "()V" } : Jvm.MethodName)).before a0 Z = true := hw _ (List.mem_of_getElem? (i := 52) rfl)
theorem tw53 {a0 : Array Value} {Z : State} (hw : ∀ d ∈ tables_1, d.before a0 Z = true) : (Jvm.Cond.fieldLink "java/util/AbstractList" (7 : Nat) "java/util/AbstractList" "modCount" "I").before a0 Z = true := hw _ (List.mem_of_getElem? (i := 53) rfl)
theorem tw54 {a0 : Array Value} {Z : State} (hw : ∀ d ∈ tables_1, d.before a0 Z = true) : (Jvm.Cond.lays "java/util/ArrayList" "java/util/AbstractList" "modCount" "I").before a0 Z = true := hw _ (List.mem_of_getElem? (i := 54) rfl)
theorem tw55 {a0 : Array Value} {Z : State} (hw : ∀ d ∈ tables_1, d.before a0 Z = true) : (Jvm.Cond.fieldLink "java/util/ArrayList" (39 : Nat) "java/util/ArrayList" "DEFAULTCAPACITY_EMPTY_ELEMENTDATA" "[Ljava/lang/Object;").before a0 Z = true := hw _ (List.mem_of_getElem? (i := 55) rfl)
theorem tw56 {a0 : Array Value} {Z : State} (hw : ∀ d ∈ tables_1, d.before a0 Z = true) : (Jvm.Cond.fieldLink "java/util/ArrayList" (9 : Nat) "java/util/ArrayList" "elementData" "[Ljava/lang/Object;").before a0 Z = true := hw _ (List.mem_of_getElem? (i := 56) rfl)
theorem tw57 {a0 : Array Value} {Z : State} (hw : ∀ d ∈ tables_1, d.before a0 Z = true) : (Jvm.Cond.lays "java/util/ArrayList" "java/util/ArrayList" "elementData" "[Ljava/lang/Object;").before a0 Z = true := hw _ (List.mem_of_getElem? (i := 57) rfl)
theorem tw58 {a0 : Array Value} {Z : State} (hw : ∀ d ∈ tables_1, d.before a0 Z = true) : (Jvm.Cond.superclass "java/util/ArrayList" "java/util/AbstractList").before a0 Z = true := hw _ (List.mem_of_getElem? (i := 58) rfl)
theorem tw59 {a0 : Array Value} {Z : State} (hw : ∀ d ∈ tables_1, d.before a0 Z = true) : (Jvm.Cond.superclass "java/util/AbstractList" "java/util/AbstractCollection").before a0 Z = true := hw _ (List.mem_of_getElem? (i := 59) rfl)
theorem tw60 {a0 : Array Value} {Z : State} (hw : ∀ d ∈ tables_1, d.before a0 Z = true) : (Jvm.Cond.superclass "java/util/AbstractCollection" "java/lang/Object").before a0 Z = true := hw _ (List.mem_of_getElem? (i := 60) rfl)
theorem tw61 {a0 : Array Value} {Z : State} (hw : ∀ d ∈ tables_1, d.before a0 Z = true) : (Jvm.Cond.noSuperclass "java/lang/Object").before a0 Z = true := hw _ (List.mem_of_getElem? (i := 61) rfl)
theorem tw62 {a0 : Array Value} {Z : State} (hw : ∀ d ∈ tables_1, d.before a0 Z = true) : (Jvm.Cond.methodLink "kindlewood/InterpreterIsNumberPinLaw" (39 : Nat) ({ cls := "java/lang/Long", name := "valueOf", desc := "(J)Ljava/lang/Long;" } : Jvm.MethodName)).before a0 Z = true := hw _ (List.mem_of_getElem? (i := 62) rfl)
theorem tw63 {a0 : Array Value} {Z : State} (hw : ∀ d ∈ tables_1, d.before a0 Z = true) : (Jvm.Cond.static ({ cls := "java/lang/Long", name := "valueOf", desc := "(J)Ljava/lang/Long;" } : Jvm.MethodName)).before a0 Z = true := hw _ (List.mem_of_getElem? (i := 63) rfl)
theorem tw64 {a0 : Array Value} {Z : State} (hw : ∀ d ∈ tables_1, d.before a0 Z = true) : (Jvm.Cond.initialized "java/lang/Long").before a0 Z = true := hw _ (List.mem_of_getElem? (i := 64) rfl)
theorem tw65 {a0 : Array Value} {Z : State} (hw : ∀ d ∈ tables_1, d.before a0 Z = true) : (Jvm.Cond.code ({ cls := "java/lang/Long", name := "valueOf", desc := "(J)Ljava/lang/Long;" } : Jvm.MethodName) jdk_35_method_24_code (3 : Nat) (Option.some (Jvm.ClassFile.FieldType.object "java/lang/Long"))).before a0 Z = true := hw _ (List.mem_of_getElem? (i := 65) rfl)
theorem tw66 {a0 : Array Value} {Z : State} (hw : ∀ d ∈ tables_1, d.before a0 Z = true) : (Jvm.Cond.constantLong "java/lang/Long" (230 : Nat) (-128 : Int64)).before a0 Z = true := hw _ (List.mem_of_getElem? (i := 66) rfl)
theorem tw67 {a0 : Array Value} {Z : State} (hw : ∀ d ∈ tables_1, d.before a0 Z = true) : (Jvm.Cond.classLink "java/lang/Long" (1 : Nat) "java/lang/Long").before a0 Z = true := hw _ (List.mem_of_getElem? (i := 67) rfl)
theorem tw68 {a0 : Array Value} {Z : State} (hw : ∀ d ∈ tables_1, d.before a0 Z = true) : (Jvm.Cond.instantiable "java/lang/Long" (1 : Nat)).before a0 Z = true := hw _ (List.mem_of_getElem? (i := 68) rfl)
theorem tw69 {a0 : Array Value} {Z : State} (hw : ∀ d ∈ tables_1, d.before a0 Z = true) : (Jvm.Cond.methodLink "java/lang/Long" (240 : Nat) ({ cls := "java/lang/Long", name := "<init>", desc := "(J)V" } : Jvm.MethodName)).before a0 Z = true := hw _ (List.mem_of_getElem? (i := 69) rfl)
theorem tw70 {a0 : Array Value} {Z : State} (hw : ∀ d ∈ tables_1, d.before a0 Z = true) : (Jvm.Cond.instanceMethod ({ cls := "java/lang/Long", name := "<init>", desc := "(J)V" } : Jvm.MethodName)).before a0 Z = true := hw _ (List.mem_of_getElem? (i := 70) rfl)
theorem tw72 {a0 : Array Value} {Z : State} (hw : ∀ d ∈ tables_1, d.before a0 Z = true) : (Jvm.Cond.code ({ cls := "java/lang/Long", name := "<init>", desc := "(J)V" } : Jvm.MethodName) jdk_35_method_26_code (3 : Nat) (Option.none : Option Jvm.ClassFile.FieldType)).before a0 Z = true := hw _ (List.mem_of_getElem? (i := 72) rfl)
theorem tw73 {a0 : Array Value} {Z : State} (hw : ∀ d ∈ tables_1, d.before a0 Z = true) : (Jvm.Cond.methodLink "java/lang/Long" (270 : Nat) ({ cls := "java/lang/Number", name := "<init>", desc := "()V" } : Jvm.MethodName)).before a0 Z = true := hw _ (List.mem_of_getElem? (i := 73) rfl)
theorem tw75 {a0 : Array Value} {Z : State} (hw : ∀ d ∈ tables_1, d.before a0 Z = true) : (Jvm.Cond.fieldLink "java/lang/Long" (273 : Nat) "java/lang/Long" "value" "J").before a0 Z = true := hw _ (List.mem_of_getElem? (i := 75) rfl)
theorem tw76 {a0 : Array Value} {Z : State} (hw : ∀ d ∈ tables_1, d.before a0 Z = true) : (Jvm.Cond.laysFinal "java/lang/Long" "java/lang/Long" "value" "J").before a0 Z = true := hw _ (List.mem_of_getElem? (i := 76) rfl)
theorem tw77 {a0 : Array Value} {Z : State} (hw : ∀ d ∈ tables_1, d.before a0 Z = true) : (Jvm.Cond.superclass "java/lang/Long" "java/lang/Number").before a0 Z = true := hw _ (List.mem_of_getElem? (i := 77) rfl)
theorem tw78 {a0 : Array Value} {Z : State} (hw : ∀ d ∈ tables_1, d.before a0 Z = true) : (Jvm.Cond.superclass "java/lang/Number" "java/lang/Object").before a0 Z = true := hw _ (List.mem_of_getElem? (i := 78) rfl)
theorem tw79 {a0 : Array Value} {Z : State} (hw : ∀ d ∈ tables_1, d.before a0 Z = true) : (Jvm.Cond.methodLink "kindlewood/InterpreterIsNumberPinLaw" (34 : Nat) ({ cls := "java/lang/Integer", name := "valueOf", desc := "(I)Ljava/lang/Integer;" } : Jvm.MethodName)).before a0 Z = true := hw _ (List.mem_of_getElem? (i := 79) rfl)
theorem tw80 {a0 : Array Value} {Z : State} (hw : ∀ d ∈ tables_1, d.before a0 Z = true) : (Jvm.Cond.static ({ cls := "java/lang/Integer", name := "valueOf", desc := "(I)Ljava/lang/Integer;" } : Jvm.MethodName)).before a0 Z = true := hw _ (List.mem_of_getElem? (i := 80) rfl)
theorem tw81 {a0 : Array Value} {Z : State} (hw : ∀ d ∈ tables_1, d.before a0 Z = true) : (Jvm.Cond.initialized "java/lang/Integer").before a0 Z = true := hw _ (List.mem_of_getElem? (i := 81) rfl)
theorem tw82 {a0 : Array Value} {Z : State} (hw : ∀ d ∈ tables_1, d.before a0 Z = true) : (Jvm.Cond.code ({ cls := "java/lang/Integer", name := "valueOf", desc := "(I)Ljava/lang/Integer;" } : Jvm.MethodName) jdk_33_method_22_code (1 : Nat) (Option.some (Jvm.ClassFile.FieldType.object "java/lang/Integer"))).before a0 Z = true := hw _ (List.mem_of_getElem? (i := 82) rfl)
theorem tw83 {a0 : Array Value} {Z : State} (hw : ∀ d ∈ tables_1, d.before a0 Z = true) : (Jvm.Cond.fieldLink "java/lang/Integer" (191 : Nat) "java/lang/Integer$IntegerCache" "high" "I").before a0 Z = true := hw _ (List.mem_of_getElem? (i := 83) rfl)
theorem tw84 {a0 : Array Value} {Z : State} (hw : ∀ d ∈ tables_1, d.before a0 Z = true) : (Jvm.Cond.initialized "java/lang/Integer$IntegerCache").before a0 Z = true := hw _ (List.mem_of_getElem? (i := 84) rfl)
theorem tw85 {a0 : Array Value} {Z : State} (hw : ∀ d ∈ tables_1, d.before a0 Z = true) : (Jvm.Cond.fieldLink "java/lang/Integer" (195 : Nat) "java/lang/Integer$IntegerCache" "cache" "[Ljava/lang/Integer;").before a0 Z = true := hw _ (List.mem_of_getElem? (i := 85) rfl)
theorem tw86 {a0 : Array Value} {Z : State} (hw : ∀ d ∈ tables_1, d.before a0 Z = true) : (Jvm.Cond.superclass "java/lang/Integer" "java/lang/Number").before a0 Z = true := hw _ (List.mem_of_getElem? (i := 86) rfl)
theorem tw87 {a0 : Array Value} {Z : State} (hw : ∀ d ∈ tables_1, d.before a0 Z = true) : (Jvm.Cond.constantLong "java/lang/Long" (232 : Nat) (127 : Int64)).before a0 Z = true := hw _ (List.mem_of_getElem? (i := 87) rfl)
theorem tw88 {a0 : Array Value} {Z : State} (hw : ∀ d ∈ tables_1, d.before a0 Z = true) : (Jvm.Cond.methodLink "kindlewood/InterpreterIsNumberPinLaw" (7 : Nat) ({ cls := "java/lang/Boolean", name := "valueOf", desc := "(Z)Ljava/lang/Boolean;" } : Jvm.MethodName)).before a0 Z = true := hw _ (List.mem_of_getElem? (i := 88) rfl)
theorem tw89 {a0 : Array Value} {Z : State} (hw : ∀ d ∈ tables_1, d.before a0 Z = true) : (Jvm.Cond.static ({ cls := "java/lang/Boolean", name := "valueOf", desc := "(Z)Ljava/lang/Boolean;" } : Jvm.MethodName)).before a0 Z = true := hw _ (List.mem_of_getElem? (i := 89) rfl)
theorem tw90 {a0 : Array Value} {Z : State} (hw : ∀ d ∈ tables_1, d.before a0 Z = true) : (Jvm.Cond.initialized "java/lang/Boolean").before a0 Z = true := hw _ (List.mem_of_getElem? (i := 90) rfl)
theorem tw91 {a0 : Array Value} {Z : State} (hw : ∀ d ∈ tables_1, d.before a0 Z = true) : (Jvm.Cond.code ({ cls := "java/lang/Boolean", name := "valueOf", desc := "(Z)Ljava/lang/Boolean;" } : Jvm.MethodName) jdk_2055_method_5_code (1 : Nat) (Option.some (Jvm.ClassFile.FieldType.object "java/lang/Boolean"))).before a0 Z = true := hw _ (List.mem_of_getElem? (i := 91) rfl)
theorem tw92 {a0 : Array Value} {Z : State} (hw : ∀ d ∈ tables_1, d.before a0 Z = true) : (Jvm.Cond.fieldLink "java/lang/Boolean" (27 : Nat) "java/lang/Boolean" "TRUE" "Ljava/lang/Boolean;").before a0 Z = true := hw _ (List.mem_of_getElem? (i := 92) rfl)
theorem tw93 {a0 : Array Value} {Z : State} (hw : ∀ d ∈ tables_1, d.before a0 Z = true) : (Jvm.Cond.superclass "java/lang/Boolean" "java/lang/Object").before a0 Z = true := hw _ (List.mem_of_getElem? (i := 93) rfl)
theorem tw94 {a0 : Array Value} {Z : State} (hw : ∀ d ∈ tables_1, d.before a0 Z = true) : (Jvm.Cond.arrayClass Jvm.ClassFile.FieldType.char).before a0 Z = true := hw _ (List.mem_of_getElem? (i := 94) rfl)
theorem tw95 {a0 : Array Value} {Z : State} (hw : ∀ d ∈ tables_1, d.before a0 Z = true) : (Jvm.Cond.classLink "kindlewood/InterpreterIsNumberPinLaw" (18 : Nat) "java/lang/String").before a0 Z = true := hw _ (List.mem_of_getElem? (i := 95) rfl)
theorem tw96 {a0 : Array Value} {Z : State} (hw : ∀ d ∈ tables_1, d.before a0 Z = true) : (Jvm.Cond.instantiable "java/lang/String" (4 : Nat)).before a0 Z = true := hw _ (List.mem_of_getElem? (i := 96) rfl)
theorem tw97 {a0 : Array Value} {Z : State} (hw : ∀ d ∈ tables_1, d.before a0 Z = true) : (Jvm.Cond.initialized "java/lang/String").before a0 Z = true := hw _ (List.mem_of_getElem? (i := 97) rfl)
theorem tw98 {a0 : Array Value} {Z : State} (hw : ∀ d ∈ tables_1, d.before a0 Z = true) : (Jvm.Cond.methodLink "kindlewood/InterpreterIsNumberPinLaw" (20 : Nat) ({ cls := "java/lang/String", name := "<init>", desc := "([C)V" } : Jvm.MethodName)).before a0 Z = true := hw _ (List.mem_of_getElem? (i := 98) rfl)
theorem tw99 {a0 : Array Value} {Z : State} (hw : ∀ d ∈ tables_1, d.before a0 Z = true) : (Jvm.Cond.instanceMethod ({ cls := "java/lang/String", name := "<init>", desc := "([C)V" } : Jvm.MethodName)).before a0 Z = true := hw _ (List.mem_of_getElem? (i := 99) rfl)
theorem tw100 {a0 : Array Value} {Z : State} (hw : ∀ d ∈ tables_1, d.before a0 Z = true) : (Jvm.Cond.code ({ cls := "java/lang/String", name := "<init>", desc := "([C)V" } : Jvm.MethodName) jdk_42_method_3_code (2 : Nat) (Option.none : Option Jvm.ClassFile.FieldType)).before a0 Z = true := hw _ (List.mem_of_getElem? (i := 100) rfl)
theorem tw101 {a0 : Array Value} {Z : State} (hw : ∀ d ∈ tables_1, d.before a0 Z = true) : (Jvm.Cond.methodLink "java/lang/String" (27 : Nat) ({ cls := "java/lang/String", name := "<init>", desc := "([CIILjava/lang/Void;)V" } : Jvm.MethodName)).before a0 Z = true := hw _ (List.mem_of_getElem? (i := 101) rfl)
theorem tw102 {a0 : Array Value} {Z : State} (hw : ∀ d ∈ tables_1, d.before a0 Z = true) : (Jvm.Cond.instanceMethod ({ cls := "java/lang/String", name := "<init>", desc := "([CIILjava/lang/Void;)V" } : Jvm.MethodName)).before a0 Z = true := hw _ (List.mem_of_getElem? (i := 102) rfl)
theorem tw104 {a0 : Array Value} {Z : State} (hw : ∀ d ∈ tables_1, d.before a0 Z = true) : (Jvm.Cond.code ({ cls := "java/lang/String", name := "<init>", desc := "([CIILjava/lang/Void;)V" } : Jvm.MethodName) jdk_42_method_149_code (6 : Nat) (Option.none : Option Jvm.ClassFile.FieldType)).before a0 Z = true := hw _ (List.mem_of_getElem? (i := 104) rfl)
theorem tw105 {a0 : Array Value} {Z : State} (hw : ∀ d ∈ tables_1, d.before a0 Z = true) : (Jvm.Cond.methodLink "java/lang/String" (1 : Nat) ({ cls := "java/lang/Object", name := "<init>", desc := "()V" } : Jvm.MethodName)).before a0 Z = true := hw _ (List.mem_of_getElem? (i := 105) rfl)
theorem tw106 {a0 : Array Value} {Z : State} (hw : ∀ d ∈ tables_1, d.before a0 Z = true) : (Jvm.Cond.fieldLink "java/lang/String" (38 : Nat) "java/lang/String" "COMPACT_STRINGS" "Z").before a0 Z = true := hw _ (List.mem_of_getElem? (i := 106) rfl)
theorem tw107 {a0 : Array Value} {Z : State} (hw : ∀ d ∈ tables_1, d.before a0 Z = true) : (Jvm.Cond.methodLink "java/lang/String" (177 : Nat) ({ cls := "java/lang/StringUTF16", name := "compress", desc := "([CII)[B" } : Jvm.MethodName)).before a0 Z = true := hw _ (List.mem_of_getElem? (i := 107) rfl)
theorem tw108 {a0 : Array Value} {Z : State} (hw : ∀ d ∈ tables_1, d.before a0 Z = true) : (Jvm.Cond.static ({ cls := "java/lang/StringUTF16", name := "compress", desc := "([CII)[B" } : Jvm.MethodName)).before a0 Z = true := hw _ (List.mem_of_getElem? (i := 108) rfl)
theorem tw109 {a0 : Array Value} {Z : State} (hw : ∀ d ∈ tables_1, d.before a0 Z = true) : (Jvm.Cond.initialized "java/lang/StringUTF16").before a0 Z = true := hw _ (List.mem_of_getElem? (i := 109) rfl)
theorem tw110 {a0 : Array Value} {Z : State} (hw : ∀ d ∈ tables_1, d.before a0 Z = true) : (Jvm.Cond.code ({ cls := "java/lang/StringUTF16", name := "compress", desc := "([CII)[B" } : Jvm.MethodName) jdk_52_method_16_code (6 : Nat) (Option.some (Jvm.ClassFile.FieldType.array Jvm.ClassFile.FieldType.byte))).before a0 Z = true := hw _ (List.mem_of_getElem? (i := 110) rfl)
theorem tw111 {a0 : Array Value} {Z : State} (hw : ∀ d ∈ tables_1, d.before a0 Z = true) : (Jvm.Cond.arrayClass Jvm.ClassFile.FieldType.byte).before a0 Z = true := hw _ (List.mem_of_getElem? (i := 111) rfl)
theorem tw112 {a0 : Array Value} {Z : State} (hw : ∀ d ∈ tables_1, d.before a0 Z = true) : (Jvm.Cond.methodLink "java/lang/StringUTF16" (115 : Nat) ({ cls := "java/lang/StringUTF16", name := "compress", desc := "([CI[BII)I" } : Jvm.MethodName)).before a0 Z = true := hw _ (List.mem_of_getElem? (i := 112) rfl)
theorem tw113 {a0 : Array Value} {Z : State} (hw : ∀ d ∈ tables_1, d.before a0 Z = true) : (Jvm.Cond.static ({ cls := "java/lang/StringUTF16", name := "compress", desc := "([CI[BII)I" } : Jvm.MethodName)).before a0 Z = true := hw _ (List.mem_of_getElem? (i := 113) rfl)
theorem tw114 {a0 : Array Value} {Z : State} (hw : ∀ d ∈ tables_1, d.before a0 Z = true) : (Jvm.Cond.code ({ cls := "java/lang/StringUTF16", name := "compress", desc := "([CI[BII)I" } : Jvm.MethodName) jdk_52_method_21_code (7 : Nat) (Option.some Jvm.ClassFile.FieldType.int)).before a0 Z = true := hw _ (List.mem_of_getElem? (i := 114) rfl)
theorem tw115 {a0 : Array Value} {Z : State} (hw : ∀ d ∈ tables_1, d.before a0 Z = true) : (Jvm.Cond.methodLink "java/lang/String" (47 : Nat) ({ cls := "java/lang/StringUTF16", name := "coderFromArrayLen", desc := "([BI)B" } : Jvm.MethodName)).before a0 Z = true := hw _ (List.mem_of_getElem? (i := 115) rfl)
theorem tw116 {a0 : Array Value} {Z : State} (hw : ∀ d ∈ tables_1, d.before a0 Z = true) : (Jvm.Cond.static ({ cls := "java/lang/StringUTF16", name := "coderFromArrayLen", desc := "([BI)B" } : Jvm.MethodName)).before a0 Z = true := hw _ (List.mem_of_getElem? (i := 116) rfl)
theorem tw117 {a0 : Array Value} {Z : State} (hw : ∀ d ∈ tables_1, d.before a0 Z = true) : (Jvm.Cond.code ({ cls := "java/lang/StringUTF16", name := "coderFromArrayLen", desc := "([BI)B" } : Jvm.MethodName) jdk_52_method_15_code (2 : Nat) (Option.some Jvm.ClassFile.FieldType.byte)).before a0 Z = true := hw _ (List.mem_of_getElem? (i := 117) rfl)
theorem tw118 {a0 : Array Value} {Z : State} (hw : ∀ d ∈ tables_1, d.before a0 Z = true) : (Jvm.Cond.fieldLink "java/lang/String" (15 : Nat) "java/lang/String" "coder" "B").before a0 Z = true := hw _ (List.mem_of_getElem? (i := 118) rfl)
theorem tw119 {a0 : Array Value} {Z : State} (hw : ∀ d ∈ tables_1, d.before a0 Z = true) : (Jvm.Cond.laysFinal "java/lang/String" "java/lang/String" "coder" "B").before a0 Z = true := hw _ (List.mem_of_getElem? (i := 119) rfl)
theorem tw120 {a0 : Array Value} {Z : State} (hw : ∀ d ∈ tables_1, d.before a0 Z = true) : (Jvm.Cond.fieldLink "java/lang/String" (9 : Nat) "java/lang/String" "value" "[B").before a0 Z = true := hw _ (List.mem_of_getElem? (i := 120) rfl)
theorem tw121 {a0 : Array Value} {Z : State} (hw : ∀ d ∈ tables_1, d.before a0 Z = true) : (Jvm.Cond.laysFinal "java/lang/String" "java/lang/String" "value" "[B").before a0 Z = true := hw _ (List.mem_of_getElem? (i := 121) rfl)
theorem tw122 {a0 : Array Value} {Z : State} (hw : ∀ d ∈ tables_1, d.before a0 Z = true) : (Jvm.Cond.superclass "java/lang/String" "java/lang/Object").before a0 Z = true := hw _ (List.mem_of_getElem? (i := 122) rfl)
theorem tw123 {a0 : Array Value} {Z : State} (hw : ∀ d ∈ tables_1, d.before a0 Z = true) : (Jvm.Cond.classLink "java/lang/Integer" (1 : Nat) "java/lang/Integer").before a0 Z = true := hw _ (List.mem_of_getElem? (i := 123) rfl)
theorem tw124 {a0 : Array Value} {Z : State} (hw : ∀ d ∈ tables_1, d.before a0 Z = true) : (Jvm.Cond.instantiable "java/lang/Integer" (1 : Nat)).before a0 Z = true := hw _ (List.mem_of_getElem? (i := 124) rfl)
theorem tw125 {a0 : Array Value} {Z : State} (hw : ∀ d ∈ tables_1, d.before a0 Z = true) : (Jvm.Cond.methodLink "java/lang/Integer" (199 : Nat) ({ cls := "java/lang/Integer", name := "<init>", desc := "(I)V" } : Jvm.MethodName)).before a0 Z = true := hw _ (List.mem_of_getElem? (i := 125) rfl)
theorem tw126 {a0 : Array Value} {Z : State} (hw : ∀ d ∈ tables_1, d.before a0 Z = true) : (Jvm.Cond.instanceMethod ({ cls := "java/lang/Integer", name := "<init>", desc := "(I)V" } : Jvm.MethodName)).before a0 Z = true := hw _ (List.mem_of_getElem? (i := 126) rfl)
theorem tw128 {a0 : Array Value} {Z : State} (hw : ∀ d ∈ tables_1, d.before a0 Z = true) : (Jvm.Cond.code ({ cls := "java/lang/Integer", name := "<init>", desc := "(I)V" } : Jvm.MethodName) jdk_33_method_23_code (2 : Nat) (Option.none : Option Jvm.ClassFile.FieldType)).before a0 Z = true := hw _ (List.mem_of_getElem? (i := 128) rfl)
theorem tw129 {a0 : Array Value} {Z : State} (hw : ∀ d ∈ tables_1, d.before a0 Z = true) : (Jvm.Cond.methodLink "java/lang/Integer" (202 : Nat) ({ cls := "java/lang/Number", name := "<init>", desc := "()V" } : Jvm.MethodName)).before a0 Z = true := hw _ (List.mem_of_getElem? (i := 129) rfl)
theorem tw131 {a0 : Array Value} {Z : State} (hw : ∀ d ∈ tables_1, d.before a0 Z = true) : (Jvm.Cond.fieldLink "java/lang/Integer" (205 : Nat) "java/lang/Integer" "value" "I").before a0 Z = true := hw _ (List.mem_of_getElem? (i := 131) rfl)
theorem tw132 {a0 : Array Value} {Z : State} (hw : ∀ d ∈ tables_1, d.before a0 Z = true) : (Jvm.Cond.laysFinal "java/lang/Integer" "java/lang/Integer" "value" "I").before a0 Z = true := hw _ (List.mem_of_getElem? (i := 132) rfl)
theorem tw133 {a0 : Array Value} {Z : State} (hw : ∀ d ∈ tables_1, d.before a0 Z = true) : (Jvm.Cond.fieldLink "kindlewood/InterpreterIsNumberPinLaw" (29 : Nat) "kindlewood/StmtCode" "COMPLETED" "Ljava/lang/Object;").before a0 Z = true := hw _ (List.mem_of_getElem? (i := 133) rfl)
theorem tw134 {a0 : Array Value} {Z : State} (hw : ∀ d ∈ tables_1, d.before a0 Z = true) : (Jvm.Cond.initialized "kindlewood/StmtCode").before a0 Z = true := hw _ (List.mem_of_getElem? (i := 134) rfl)
theorem tw135 {a0 : Array Value} {Z : State} (hw : ∀ d ∈ tables_1, d.before a0 Z = true) : (Jvm.Cond.laysStatic "kindlewood/StmtCode" "COMPLETED" "Ljava/lang/Object;").before a0 Z = true := hw _ (List.mem_of_getElem? (i := 135) rfl)
theorem tw136 {a0 : Array Value} {Z : State} (hw : ∀ d ∈ tables_1, d.before a0 Z = true) : (Jvm.Cond.fieldLink "kindlewood/InterpreterIsNumberPinLaw" (23 : Nat) "kindlewood/Variables" "UNBOXED" "Ljava/lang/Object;").before a0 Z = true := hw _ (List.mem_of_getElem? (i := 136) rfl)
theorem tw137 {a0 : Array Value} {Z : State} (hw : ∀ d ∈ tables_1, d.before a0 Z = true) : (Jvm.Cond.fieldLink "java/lang/Boolean" (31 : Nat) "java/lang/Boolean" "FALSE" "Ljava/lang/Boolean;").before a0 Z = true := hw _ (List.mem_of_getElem? (i := 137) rfl)
theorem tw138 {a0 : Array Value} {Z : State} (hw : ∀ d ∈ tables_1, d.before a0 Z = true) : (Jvm.Cond.fieldLink "java/lang/Long" (234 : Nat) "java/lang/Long$LongCache" "cache" "[Ljava/lang/Long;").before a0 Z = true := hw _ (List.mem_of_getElem? (i := 138) rfl)
theorem pn_0 : plainFor (⟨"java/lang/Number", "<init>", "()V"⟩ : MethodName) = true := by first | exact plainFor_of_name (by first | (simp [plainName, overriddenIn]; done) | decide +kernel) | decide +kernel
theorem pd_0 : parseMethodDescriptor "()V" = some ⟨[], none⟩ := by decide +kernel
theorem pn_1 : plainFor (⟨"java/lang/Double", "<init>", "(D)V"⟩ : MethodName) = true := by first | exact plainFor_of_name (by first | (simp [plainName, overriddenIn]; done) | decide +kernel) | decide +kernel
theorem pn_2 : plainFor (⟨"java/lang/Integer", "<init>", "(I)V"⟩ : MethodName) = true := by first | exact plainFor_of_name (by first | (simp [plainName, overriddenIn]; done) | decide +kernel) | decide +kernel
theorem pn_3 : plainFor (⟨"java/lang/Long", "<init>", "(J)V"⟩ : MethodName) = true := by first | exact plainFor_of_name (by first | (simp [plainName, overriddenIn]; done) | decide +kernel) | decide +kernel
theorem pd_1 : parseMethodDescriptor "(D)V" = some ⟨[.double], none⟩ := by decide +kernel
theorem pn_4 : plainFor (⟨"java/lang/Double", "valueOf", "(D)Ljava/lang/Double;"⟩ : MethodName) = true := by first | exact plainFor_of_name (by first | (simp [plainName, overriddenIn]; done) | decide +kernel) | decide +kernel
theorem pd_2 : parseMethodDescriptor "(I)V" = some ⟨[.int], none⟩ := by decide +kernel
theorem pn_5 : plainFor (⟨"java/lang/Integer", "valueOf", "(I)Ljava/lang/Integer;"⟩ : MethodName) = true := by first | exact plainFor_of_name (by first | (simp [plainName, overriddenIn]; done) | decide +kernel) | decide +kernel
theorem pd_3 : parseMethodDescriptor "(J)V" = some ⟨[.long], none⟩ := by decide +kernel
theorem pn_6 : plainFor (⟨"java/lang/Long", "valueOf", "(J)Ljava/lang/Long;"⟩ : MethodName) = true := by first | exact plainFor_of_name (by first | (simp [plainName, overriddenIn]; done) | decide +kernel) | decide +kernel
theorem pn_7 : plainFor (⟨"java/lang/Boolean", "valueOf", "(Z)Ljava/lang/Boolean;"⟩ : MethodName) = true := by first | exact plainFor_of_name (by first | (simp [plainName, overriddenIn]; done) | decide +kernel) | decide +kernel
theorem pn_8 : plainFor (⟨"java/util/AbstractCollection", "<init>", "()V"⟩ : MethodName) = true := by first | exact plainFor_of_name (by first | (simp [plainName, overriddenIn]; done) | decide +kernel) | decide +kernel
theorem pn_9 : plainFor (⟨"java/util/AbstractList", "<init>", "()V"⟩ : MethodName) = true := by first | exact plainFor_of_name (by first | (simp [plainName, overriddenIn]; done) | decide +kernel) | decide +kernel
theorem pn_10 : plainFor (⟨"java/util/ArrayList", "<init>", "()V"⟩ : MethodName) = true := by first | exact plainFor_of_name (by first | (simp [plainName, overriddenIn]; done) | decide +kernel) | decide +kernel
theorem pn_11 : plainFor (⟨"java/lang/StringUTF16", "compress", "([CI[BII)I"⟩ : MethodName) = true := by first | exact plainFor_of_name (by first | (simp [plainName, overriddenIn]; done) | decide +kernel) | decide +kernel
theorem pd_4 : parseMethodDescriptor "([CI[BII)I" = some ⟨[(.array .char), .int, (.array .byte), .int, .int], some .int⟩ := by decide +kernel
theorem pn_12 : plainFor (⟨"java/lang/StringUTF16", "compress", "([CII)[B"⟩ : MethodName) = true := by first | exact plainFor_of_name (by first | (simp [plainName, overriddenIn]; done) | decide +kernel) | decide +kernel
theorem pn_13 : plainFor (⟨"java/lang/StringUTF16", "coderFromArrayLen", "([BI)B"⟩ : MethodName) = true := by first | exact plainFor_of_name (by first | (simp [plainName, overriddenIn]; done) | decide +kernel) | decide +kernel
theorem pd_5 : parseMethodDescriptor "([CII)[B" = some ⟨[(.array .char), .int, .int], some (.array .byte)⟩ := by decide +kernel
theorem pd_6 : parseMethodDescriptor "([BI)B" = some ⟨[(.array .byte), .int], some .byte⟩ := by decide +kernel
theorem pn_14 : plainFor (⟨"java/lang/String", "<init>", "([CIILjava/lang/Void;)V"⟩ : MethodName) = true := by first | exact plainFor_of_name (by first | (simp [plainName, overriddenIn]; done) | decide +kernel) | decide +kernel
theorem pd_7 : parseMethodDescriptor "([CIILjava/lang/Void;)V" = some ⟨[(.array .char), .int, .int, (.object "java/lang/Void")], none⟩ := by decide +kernel
theorem pn_15 : plainFor (⟨"java/lang/String", "<init>", "([C)V"⟩ : MethodName) = true := by first | exact plainFor_of_name (by first | (simp [plainName, overriddenIn]; done) | decide +kernel) | decide +kernel
theorem pn_16 : plainName "kindlewood/Interpreter" = true := by first | (simp [plainName, overriddenIn]; done) | decide +kernel
theorem pn_17 : plainName "kindlewood/InterpreterIsNumberPinLaw" = true := by first | (simp [plainName, overriddenIn]; done) | decide +kernel
theorem pd_8 : parseMethodDescriptor "(Z)Ljava/lang/Boolean;" = some ⟨[.boolean], some (.object "java/lang/Boolean")⟩ := by decide +kernel
theorem pd_9 : parseMethodDescriptor "(D)Ljava/lang/Double;" = some ⟨[.double], some (.object "java/lang/Double")⟩ := by decide +kernel
theorem pd_10 : parseMethodDescriptor "([C)V" = some ⟨[(.array .char)], none⟩ := by decide +kernel
theorem pd_11 : parseMethodDescriptor "(I)Ljava/lang/Integer;" = some ⟨[.int], some (.object "java/lang/Integer")⟩ := by decide +kernel
theorem pd_12 : parseMethodDescriptor "(J)Ljava/lang/Long;" = some ⟨[.long], some (.object "java/lang/Long")⟩ := by decide +kernel
theorem pd_13 : parseMethodDescriptor "(IIJ)Ljava/lang/Object;" = some ⟨[.int, .int, .long], some (.object "java/lang/Object")⟩ := by decide +kernel
theorem pd_14 : parseMethodDescriptor "(Ljava/lang/Object;)Z" = some ⟨[(.object "java/lang/Object")], some .boolean⟩ := by decide +kernel
theorem ef_numInit (m : MethodId) (x0 : Addr) : entryFrame m #[(.ref x0)] 1 = mkF m 0 #[.val (.ref x0)] [] := by first | (simp [entryFrame, mkF, argsToLocals, Value.category]; done) | rfl
theorem d_numInit_0 : decode jdk_18_method_1_code 0 = .ok (.aload_n 0, 1) := by decide +kernel
theorem d_numInit_1 : decode jdk_18_method_1_code 1 = .ok (.invokespecial 1, 3) := by decide +kernel
theorem d_numInit_4 : decode jdk_18_method_1_code 4 = .ok (.return_, 1) := by decide +kernel
set_option maxRecDepth 65536 in
set_option maxHeartbeats 4000000 in
theorem m_numInit (l : Launch) (Z : State) (a0 : Array Value) (hw : ∀ d ∈ tables_1, d.before a0 Z = true) (hs : ∀ d ∈ jdkStatics_1, d.before a0 Z = true) (a : Addr) (h0 : Heap)  :
    OMet l (⟨"java/lang/Number", "<init>", "()V"⟩ : MethodName) jdk_18_method_1_code 1 (Option.none : Option FieldType) [] ({ frames := 1, cells := 0, slots := 0, locals := 12 } : Room) Z h0 [] #[(.ref a)] (fun v h' => v = none ∧ h0 = h') := by
  refine OMet.of (own := "java/lang/Number") (nm := "<init>") pn_0 rfl rfl ?_
  intro p e s m below meth c T0 P0 hby hml hret hnm
  refine Done.step (T' := T0) (g' := (mkF m 0 #[.val (.ref a)] [])) (fun t kk => castTop (ef_numInit m a) kk) ?_
  refine Done.stepL (pc' := 1) (st' := [(.ref a)]) (fun t kk => ?_) ?_
  · show Steps p.tables e below (T0.setTop (mkF m 0 _ [])) t
    refine XS.aloadN P0.here P0.x rfl (hb hby d_numInit_0) rfl rfl ?_
    exact kk
  refine wInit P0 (tw28 hw) (tw29 hw) (tw30 hw) (by rw [hml]; rfl) (hb hby d_numInit_1) (by decide) (W := 0) (Nat.le_of_eq rfl) (by decide) rfl (fun T1 P2 => ?_)
  show Done _ _ _ _ _ _ _ _ _ _ _ _ _ _ _ T1 (mkF m 4 _ [])
  exact wRetV P2 hret (hb hby d_numInit_4) ⟨rfl, rfl⟩
theorem ef_dblInit (m : MethodId) (x0 : Addr) (x1 : UInt64) : entryFrame m #[(.ref x0), (.double x1)] 3 = mkF m 0 #[.val (.ref x0), .val (.double x1), .second] [] := by first | (simp [entryFrame, mkF, argsToLocals, Value.category]; done) | rfl
theorem d_dblInit_0 : decode jdk_117_method_9_code 0 = .ok (.aload_n 0, 1) := by decide +kernel
theorem d_dblInit_1 : decode jdk_117_method_9_code 1 = .ok (.invokespecial 113, 3) := by decide +kernel
theorem d_dblInit_4 : decode jdk_117_method_9_code 4 = .ok (.aload_n 0, 1) := by decide +kernel
theorem d_dblInit_5 : decode jdk_117_method_9_code 5 = .ok (.dload_n 1, 1) := by decide +kernel
theorem d_dblInit_6 : decode jdk_117_method_9_code 6 = .ok (.putfield 118, 3) := by decide +kernel
theorem d_dblInit_9 : decode jdk_117_method_9_code 9 = .ok (.return_, 1) := by decide +kernel
set_option maxRecDepth 65536 in
set_option maxHeartbeats 4000000 in
theorem m_dblInit (l : Launch) (Z : State) (a0 : Array Value) (hw : ∀ d ∈ tables_1, d.before a0 Z = true) (hs : ∀ d ∈ jdkStatics_1, d.before a0 Z = true) (a : Addr) (p0 : UInt64) (h0 : Heap) (E0 : Exa Z h0 a "java/lang/Double") (F_value : Fld Z h0 a "java/lang/Double" "value" "D" (.double (0 : UInt64))) :
    OMet l (⟨"java/lang/Double", "<init>", "(D)V"⟩ : MethodName) jdk_117_method_9_code 3 (Option.none : Option FieldType) [] ({ frames := 2, cells := 0, slots := 0, locals := 24 } : Room) Z h0 [a] #[(.ref a), (.double p0)] (fun v h' => v = none ∧ Fld Z h' a "java/lang/Double" "value" "D" (.double p0)) := by
  refine OMet.of (own := "java/lang/Double") (nm := "<init>") pn_1 rfl rfl ?_
  intro p e s m below meth c T0 P0 hby hml hret hnm
  refine Done.step (T' := T0) (g' := (mkF m 0 #[.val (.ref a), .val (.double p0), .second] [])) (fun t kk => castTop (ef_dblInit m a p0) kk) ?_
  refine Done.stepL (pc' := 1) (st' := [(.ref a)]) (fun t kk => ?_) ?_
  · show Steps p.tables e below (T0.setTop (mkF m 0 _ [])) t
    refine XS.aloadN P0.here P0.x rfl (hb hby d_dblInit_0) rfl rfl ?_
    exact kk
  refine wCallI P0 (m_numInit l Z a0 hw hs a h0) rfl (tw22 hw) (tw23 hw) (tw26 hw) (tw27 hw) (by decide) (a := a) (by rw [hml]; rfl) (lenOf pd_0 rfl) (argsL := []) (rest := []) rfl rfl (W := 0) (Nat.le_of_eq rfl) (by decide) (by decide) (by decide) (by decide) (by simp) (hb hby d_dblInit_1) rfl (k' := 0) (n' := 0) rfl rfl ?_
  rintro T1 _ _ P2 - ⟨rfl, rfl⟩
  show Done _ _ _ _ _ _ _ _ _ _ _ _ _ _ _ T1 (mkF m 4 _ [])
  refine Done.stepL (pc' := 6) (st' := [(.double p0), (.ref a)]) (fun t kk => ?_) ?_
  · show Steps p.tables e below (T1.setTop (mkF m 4 _ [])) t
    refine XS.aloadN P2.here P2.x rfl (hb hby d_dblInit_4) rfl rfl ?_
    show Steps p.tables e below (T1.setTop (mkF m 5 _ [(.ref a)])) t
    refine XS.dloadN P2.here P2.x rfl (hb hby d_dblInit_5) rfl ?_
    exact kk
  refine wPut P2 (host := "") (Or.inl (tw31 hw)) Via.refl F_value E0 (Or.inr ⟨(tw32 hw), rfl, hnm⟩) (tw17 hw) (ty := .double) (by decide) rfl rfl (Or.inl (by simp)) (hb hby d_dblInit_6) rfl (fun T3 h5 P4 W6 F7 => ?_)
  have szh5 : h5.size = h0.size := W6.size
  show Done _ _ _ _ _ _ _ _ _ _ _ _ _ _ _ T3 (mkF m 9 _ [])
  exact wRetV P4 hret (hb hby d_dblInit_9) ⟨rfl, F7⟩
theorem ef_intInit (m : MethodId) (x0 : Addr) (x1 : Int32) : entryFrame m #[(.ref x0), (.int x1)] 2 = mkF m 0 #[.val (.ref x0), .val (.int x1)] [] := by first | (simp [entryFrame, mkF, argsToLocals, Value.category]; done) | rfl
theorem d_intInit_0 : decode jdk_33_method_23_code 0 = .ok (.aload_n 0, 1) := by decide +kernel
theorem d_intInit_1 : decode jdk_33_method_23_code 1 = .ok (.invokespecial 202, 3) := by decide +kernel
theorem d_intInit_4 : decode jdk_33_method_23_code 4 = .ok (.aload_n 0, 1) := by decide +kernel
theorem d_intInit_5 : decode jdk_33_method_23_code 5 = .ok (.iload_n 1, 1) := by decide +kernel
theorem d_intInit_6 : decode jdk_33_method_23_code 6 = .ok (.putfield 205, 3) := by decide +kernel
theorem d_intInit_9 : decode jdk_33_method_23_code 9 = .ok (.return_, 1) := by decide +kernel
set_option maxRecDepth 65536 in
set_option maxHeartbeats 4000000 in
theorem m_intInit (l : Launch) (Z : State) (a0 : Array Value) (hw : ∀ d ∈ tables_1, d.before a0 Z = true) (hs : ∀ d ∈ jdkStatics_1, d.before a0 Z = true) (a : Addr) (p0 : Int32) (h0 : Heap) (E0 : Exa Z h0 a "java/lang/Integer") (F_value : Fld Z h0 a "java/lang/Integer" "value" "I" (.int (0 : Int32))) :
    OMet l (⟨"java/lang/Integer", "<init>", "(I)V"⟩ : MethodName) jdk_33_method_23_code 2 (Option.none : Option FieldType) [] ({ frames := 2, cells := 0, slots := 0, locals := 24 } : Room) Z h0 [a] #[(.ref a), (.int p0)] (fun v h' => v = none ∧ Fld Z h' a "java/lang/Integer" "value" "I" (.int p0)) := by
  refine OMet.of (own := "java/lang/Integer") (nm := "<init>") pn_2 rfl rfl ?_
  intro p e s m below meth c T0 P0 hby hml hret hnm
  refine Done.step (T' := T0) (g' := (mkF m 0 #[.val (.ref a), .val (.int p0)] [])) (fun t kk => castTop (ef_intInit m a p0) kk) ?_
  refine Done.stepL (pc' := 1) (st' := [(.ref a)]) (fun t kk => ?_) ?_
  · show Steps p.tables e below (T0.setTop (mkF m 0 _ [])) t
    refine XS.aloadN P0.here P0.x rfl (hb hby d_intInit_0) rfl rfl ?_
    exact kk
  refine wCallI P0 (m_numInit l Z a0 hw hs a h0) rfl (tw129 hw) (tw23 hw) (tw26 hw) (tw27 hw) (by decide) (a := a) (by rw [hml]; rfl) (lenOf pd_0 rfl) (argsL := []) (rest := []) rfl rfl (W := 0) (Nat.le_of_eq rfl) (by decide) (by decide) (by decide) (by decide) (by simp) (hb hby d_intInit_1) rfl (k' := 0) (n' := 0) rfl rfl ?_
  rintro T1 _ _ P2 - ⟨rfl, rfl⟩
  show Done _ _ _ _ _ _ _ _ _ _ _ _ _ _ _ T1 (mkF m 4 _ [])
  refine Done.stepL (pc' := 6) (st' := [(.int p0), (.ref a)]) (fun t kk => ?_) ?_
  · show Steps p.tables e below (T1.setTop (mkF m 4 _ [])) t
    refine XS.aloadN P2.here P2.x rfl (hb hby d_intInit_4) rfl rfl ?_
    show Steps p.tables e below (T1.setTop (mkF m 5 _ [(.ref a)])) t
    refine XS.iloadN P2.here P2.x rfl (hb hby d_intInit_5) rfl ?_
    exact kk
  refine wPut P2 (host := "") (Or.inl (tw131 hw)) Via.refl F_value E0 (Or.inr ⟨(tw132 hw), rfl, hnm⟩) (tw124 hw) (ty := .int) (by decide) rfl rfl (Or.inl (by simp)) (hb hby d_intInit_6) rfl (fun T3 h5 P4 W6 F7 => ?_)
  have szh5 : h5.size = h0.size := W6.size
  show Done _ _ _ _ _ _ _ _ _ _ _ _ _ _ _ T3 (mkF m 9 _ [])
  exact wRetV P4 hret (hb hby d_intInit_9) ⟨rfl, F7⟩
theorem ef_lngInit (m : MethodId) (x0 : Addr) (x1 : Int64) : entryFrame m #[(.ref x0), (.long x1)] 3 = mkF m 0 #[.val (.ref x0), .val (.long x1), .second] [] := by first | (simp [entryFrame, mkF, argsToLocals, Value.category]; done) | rfl
theorem d_lngInit_0 : decode jdk_35_method_26_code 0 = .ok (.aload_n 0, 1) := by decide +kernel
theorem d_lngInit_1 : decode jdk_35_method_26_code 1 = .ok (.invokespecial 270, 3) := by decide +kernel
theorem d_lngInit_4 : decode jdk_35_method_26_code 4 = .ok (.aload_n 0, 1) := by decide +kernel
theorem d_lngInit_5 : decode jdk_35_method_26_code 5 = .ok (.lload_n 1, 1) := by decide +kernel
theorem d_lngInit_6 : decode jdk_35_method_26_code 6 = .ok (.putfield 273, 3) := by decide +kernel
theorem d_lngInit_9 : decode jdk_35_method_26_code 9 = .ok (.return_, 1) := by decide +kernel
set_option maxRecDepth 65536 in
set_option maxHeartbeats 4000000 in
theorem m_lngInit (l : Launch) (Z : State) (a0 : Array Value) (hw : ∀ d ∈ tables_1, d.before a0 Z = true) (hs : ∀ d ∈ jdkStatics_1, d.before a0 Z = true) (a : Addr) (p0 : Int64) (h0 : Heap) (E0 : Exa Z h0 a "java/lang/Long") (F_value : Fld Z h0 a "java/lang/Long" "value" "J" (.long (0 : Int64))) :
    OMet l (⟨"java/lang/Long", "<init>", "(J)V"⟩ : MethodName) jdk_35_method_26_code 3 (Option.none : Option FieldType) [] ({ frames := 2, cells := 0, slots := 0, locals := 24 } : Room) Z h0 [a] #[(.ref a), (.long p0)] (fun v h' => v = none ∧ Fld Z h' a "java/lang/Long" "value" "J" (.long p0)) := by
  refine OMet.of (own := "java/lang/Long") (nm := "<init>") pn_3 rfl rfl ?_
  intro p e s m below meth c T0 P0 hby hml hret hnm
  refine Done.step (T' := T0) (g' := (mkF m 0 #[.val (.ref a), .val (.long p0), .second] [])) (fun t kk => castTop (ef_lngInit m a p0) kk) ?_
  refine Done.stepL (pc' := 1) (st' := [(.ref a)]) (fun t kk => ?_) ?_
  · show Steps p.tables e below (T0.setTop (mkF m 0 _ [])) t
    refine XS.aloadN P0.here P0.x rfl (hb hby d_lngInit_0) rfl rfl ?_
    exact kk
  refine wCallI P0 (m_numInit l Z a0 hw hs a h0) rfl (tw73 hw) (tw23 hw) (tw26 hw) (tw27 hw) (by decide) (a := a) (by rw [hml]; rfl) (lenOf pd_0 rfl) (argsL := []) (rest := []) rfl rfl (W := 0) (Nat.le_of_eq rfl) (by decide) (by decide) (by decide) (by decide) (by simp) (hb hby d_lngInit_1) rfl (k' := 0) (n' := 0) rfl rfl ?_
  rintro T1 _ _ P2 - ⟨rfl, rfl⟩
  show Done _ _ _ _ _ _ _ _ _ _ _ _ _ _ _ T1 (mkF m 4 _ [])
  refine Done.stepL (pc' := 6) (st' := [(.long p0), (.ref a)]) (fun t kk => ?_) ?_
  · show Steps p.tables e below (T1.setTop (mkF m 4 _ [])) t
    refine XS.aloadN P2.here P2.x rfl (hb hby d_lngInit_4) rfl rfl ?_
    show Steps p.tables e below (T1.setTop (mkF m 5 _ [(.ref a)])) t
    refine XS.lloadN P2.here P2.x rfl (hb hby d_lngInit_5) rfl ?_
    exact kk
  refine wPut P2 (host := "") (Or.inl (tw75 hw)) Via.refl F_value E0 (Or.inr ⟨(tw76 hw), rfl, hnm⟩) (tw68 hw) (ty := .long) (by decide) rfl rfl (Or.inl (by simp)) (hb hby d_lngInit_6) rfl (fun T3 h5 P4 W6 F7 => ?_)
  have szh5 : h5.size = h0.size := W6.size
  show Done _ _ _ _ _ _ _ _ _ _ _ _ _ _ _ T3 (mkF m 9 _ [])
  exact wRetV P4 hret (hb hby d_lngInit_9) ⟨rfl, F7⟩
theorem ef_dblOf (m : MethodId) (x0 : UInt64) : entryFrame m #[(.double x0)] 2 = mkF m 0 #[.val (.double x0), .second] [] := by first | (simp [entryFrame, mkF, argsToLocals, Value.category]; done) | rfl
theorem d_dblOf_0 : decode jdk_117_method_4_code 0 = .ok (.new 1, 3) := by decide +kernel
theorem d_dblOf_3 : decode jdk_117_method_4_code 3 = .ok (.dup, 1) := by decide +kernel
theorem d_dblOf_4 : decode jdk_117_method_4_code 4 = .ok (.dload_n 0, 1) := by decide +kernel
theorem d_dblOf_5 : decode jdk_117_method_4_code 5 = .ok (.invokespecial 105, 3) := by decide +kernel
theorem d_dblOf_8 : decode jdk_117_method_4_code 8 = .ok (.areturn, 1) := by decide +kernel
set_option maxRecDepth 65536 in
set_option maxHeartbeats 4000000 in
theorem m_dblOf (l : Launch) (Z : State) (a0 : Array Value) (hw : ∀ d ∈ tables_1, d.before a0 Z = true) (hs : ∀ d ∈ jdkStatics_1, d.before a0 Z = true) (p0 : UInt64) (h0 : Heap)  :
    OMet l (⟨"java/lang/Double", "valueOf", "(D)Ljava/lang/Double;"⟩ : MethodName) jdk_117_method_4_code 2 (Option.some (FieldType.object "java/lang/Double")) [] ({ frames := 3, cells := 1, slots := 1, locals := 39 } : Room) Z h0 [] #[(.double p0)] (fun v h' => ∃ b : Addr, v = some (.ref b) ∧ Exa Z h' b "java/lang/Double") := by
  refine OMet.of (own := "java/lang/Double") (nm := "valueOf") pn_4 rfl rfl ?_
  intro p e s m below meth c T0 P0 hby hml hret hnm
  refine Done.step (T' := T0) (g' := (mkF m 0 #[.val (.double p0), .second] [])) (fun t kk => castTop (ef_dblOf m p0) kk) ?_
  show Done _ _ _ _ _ _ _ _ _ _ _ _ _ _ _ T0 (mkF m 0 _ [])
  refine wNew P0 (tw16 hw) (tw17 hw) (tw14 hw) (hb hby d_dblOf_0) rfl (by decide) (by decide) (k' := 1) (n' := 1) rfl rfl (fun T1 h3 b4 g5 lt6 P2 E7 X8 D9 => ?_)
  have ge_b4 : h0.size ≤ b4 := by have := P0.ge; omega
  have F10 : Fld Z h3 b4 "java/lang/Double" "value" "D" (.double (0 : UInt64)) := D9 (Or.inr (tw32 hw)) (ty := .double) (by decide)
  show Done _ _ _ _ _ _ _ _ _ _ _ _ _ _ _ T1 (mkF m 3 _ [(.ref b4)])
  refine Done.stepL (pc' := 5) (st' := [(.double p0), (.ref b4), (.ref b4)]) (fun t kk => ?_) ?_
  · show Steps p.tables e below (T1.setTop (mkF m 3 _ [(.ref b4)])) t
    refine XS.dup P2.here P2.x rfl (hb hby d_dblOf_3) rfl rfl ?_
    show Steps p.tables e below (T1.setTop (mkF m 4 _ [(.ref b4), (.ref b4)])) t
    refine XS.dloadN P2.here P2.x rfl (hb hby d_dblOf_4) rfl ?_
    exact kk
  refine wCallI P2 (m_dblInit l Z a0 hw hs b4 p0 h3 X8  F10) rfl (tw18 hw) (tw19 hw) (tw14 hw) (tw21 hw) (by decide) (a := b4) (by rw [hml]; rfl) (lenOf pd_1 rfl) (argsL := [(.double p0)]) (rest := [(.ref b4)]) rfl rfl (W := 1) (Nat.le_of_eq rfl) (by decide) (by decide) (by decide) (by decide) (allS (Or.inr ge_b4) all0) (hb hby d_dblOf_5) rfl (k' := 1) (n' := 1) rfl rfl ?_
  rintro T11 h14 _ P12 K15 ⟨rfl, F13⟩
  have szh14 : h3.size ≤ h14.size := K15.1
  show Done _ _ _ _ _ _ _ _ _ _ _ _ _ _ _ T11 (mkF m 8 _ [(.ref b4)])
  have f16 := (X8.keep K15)
  exact wRetA P12 hret rfl rfl (hb hby d_dblOf_8) ⟨b4, rfl, f16⟩
theorem ef_intOf (m : MethodId) (x0 : Int32) : entryFrame m #[(.int x0)] 1 = mkF m 0 #[.val (.int x0)] [] := by first | (simp [entryFrame, mkF, argsToLocals, Value.category]; done) | rfl
theorem d_intOf_0 : decode jdk_33_method_22_code 0 = .ok (.iload_n 0, 1) := by decide +kernel
theorem d_intOf_1 : decode jdk_33_method_22_code 1 = .ok (.bipush (-128), 2) := by decide +kernel
theorem d_intOf_3 : decode jdk_33_method_22_code 3 = .ok (.if_icmp .lt 20, 3) := by decide +kernel
theorem d_intOf_23 : decode jdk_33_method_22_code 23 = .ok (.new 1, 3) := by decide +kernel
theorem d_intOf_26 : decode jdk_33_method_22_code 26 = .ok (.dup, 1) := by decide +kernel
theorem d_intOf_27 : decode jdk_33_method_22_code 27 = .ok (.iload_n 0, 1) := by decide +kernel
theorem d_intOf_28 : decode jdk_33_method_22_code 28 = .ok (.invokespecial 199, 3) := by decide +kernel
theorem d_intOf_31 : decode jdk_33_method_22_code 31 = .ok (.areturn, 1) := by decide +kernel
theorem d_intOf_6 : decode jdk_33_method_22_code 6 = .ok (.iload_n 0, 1) := by decide +kernel
theorem d_intOf_7 : decode jdk_33_method_22_code 7 = .ok (.getstatic 191, 3) := by decide +kernel
theorem d_intOf_10 : decode jdk_33_method_22_code 10 = .ok (.if_icmp .gt 13, 3) := by decide +kernel
theorem d_intOf_13 : decode jdk_33_method_22_code 13 = .ok (.getstatic 195, 3) := by decide +kernel
theorem d_intOf_16 : decode jdk_33_method_22_code 16 = .ok (.iload_n 0, 1) := by decide +kernel
theorem d_intOf_17 : decode jdk_33_method_22_code 17 = .ok (.sipush 128, 3) := by decide +kernel
theorem d_intOf_20 : decode jdk_33_method_22_code 20 = .ok (.iadd, 1) := by decide +kernel
theorem d_intOf_21 : decode jdk_33_method_22_code 21 = .ok (.aaload, 1) := by decide +kernel
theorem d_intOf_22 : decode jdk_33_method_22_code 22 = .ok (.areturn, 1) := by decide +kernel
set_option maxRecDepth 65536 in
set_option maxHeartbeats 4000000 in
theorem m_intOf (l : Launch) (Z : State) (a0 : Array Value) (hw : ∀ d ∈ tables_1, d.before a0 Z = true) (hs : ∀ d ∈ jdkStatics_1, d.before a0 Z = true) (p0 : Int32) (ca : Addr) (gc : Nat → Addr) (h0 : Heap) (S1 : Sta Z h0 "java/lang/Integer$IntegerCache" "high" "I" (.int 127)) (S2 : Sta Z h0 "java/lang/Integer$IntegerCache" "cache" "[Ljava/lang/Integer;" (.ref ca)) (Ac : Ar Z h0 ca (.object "java/lang/Integer") 256 (fun i => .ref (gc i))) (hE : ∀ i, i < 256 → Exa Z h0 (gc i) "java/lang/Integer") :
    OMet l (⟨"java/lang/Integer", "valueOf", "(I)Ljava/lang/Integer;"⟩ : MethodName) jdk_33_method_22_code 1 (Option.some (FieldType.object "java/lang/Integer")) [] ({ frames := 3, cells := 1, slots := 1, locals := 38 } : Room) Z h0 [] #[(.int p0)] (fun v h' => ∃ b : Addr, v = some (.ref b) ∧ Exa Z h' b "java/lang/Integer") := by
  refine OMet.of (own := "java/lang/Integer") (nm := "valueOf") pn_5 rfl rfl ?_
  intro p e s m below meth c T0 P0 hby hml hret hnm
  refine Done.step (T' := T0) (g' := (mkF m 0 #[.val (.int p0)] [])) (fun t kk => castTop (ef_intOf m p0) kk) ?_
  refine Done.stepL (pc' := 3) (st' := [(.int (-128 : Int32)), (.int p0)]) (fun t kk => ?_) ?_
  · show Steps p.tables e below (T0.setTop (mkF m 0 _ [])) t
    refine XS.iloadN P0.here P0.x rfl (hb hby d_intOf_0) rfl ?_
    show Steps p.tables e below (T0.setTop (mkF m 1 _ [(.int p0)])) t
    refine XS.bipush P0.here P0.x rfl (hb hby d_intOf_1) ?_
    exact kk
  by_cases c1 : p0 < (-128 : Int32)
  · refine Done.stepL (pc' := 23) (st' := []) (fun t kk => ?_) ?_
    · show Steps p.tables e below (T0.setTop (mkF m 3 _ [(.int (-128 : Int32)), (.int p0)])) t
      refine XS.icmpYes P0.here P0.x rfl (pc0 := 3) (pc' := 23) rfl (hb hby d_intOf_3) rfl (iiW_lt_t c1) (by decide) (by decide) ?_
      exact kk
    refine wNew P0 (tw123 hw) (tw124 hw) (tw81 hw) (hb hby d_intOf_23) rfl (by decide) (by decide) (k' := 1) (n' := 1) rfl rfl (fun T1 h3 b4 g5 lt6 P2 E7 X8 D9 => ?_)
    have ge_b4 : h0.size ≤ b4 := by have := P0.ge; omega
    have F10 : Fld Z h3 b4 "java/lang/Integer" "value" "I" (.int (0 : Int32)) := D9 (Or.inr (tw132 hw)) (ty := .int) (by decide)
    show Done _ _ _ _ _ _ _ _ _ _ _ _ _ _ _ T1 (mkF m 26 _ [(.ref b4)])
    refine Done.stepL (pc' := 28) (st' := [(.int p0), (.ref b4), (.ref b4)]) (fun t kk => ?_) ?_
    · show Steps p.tables e below (T1.setTop (mkF m 26 _ [(.ref b4)])) t
      refine XS.dup P2.here P2.x rfl (hb hby d_intOf_26) rfl rfl ?_
      show Steps p.tables e below (T1.setTop (mkF m 27 _ [(.ref b4), (.ref b4)])) t
      refine XS.iloadN P2.here P2.x rfl (hb hby d_intOf_27) rfl ?_
      exact kk
    refine wCallI P2 (m_intInit l Z a0 hw hs b4 p0 h3 X8  F10) rfl (tw125 hw) (tw126 hw) (tw81 hw) (tw128 hw) (by decide) (a := b4) (by rw [hml]; rfl) (lenOf pd_2 rfl) (argsL := [(.int p0)]) (rest := [(.ref b4)]) rfl rfl (W := 1) (Nat.le_of_eq rfl) (by decide) (by decide) (by decide) (by decide) (allS (Or.inr ge_b4) all0) (hb hby d_intOf_28) rfl (k' := 1) (n' := 1) rfl rfl ?_
    rintro T11 h14 _ P12 K15 ⟨rfl, F13⟩
    have szh14 : h3.size ≤ h14.size := K15.1
    show Done _ _ _ _ _ _ _ _ _ _ _ _ _ _ _ T11 (mkF m 31 _ [(.ref b4)])
    have f16 := (X8.keep K15)
    exact wRetA P12 hret rfl rfl (hb hby d_intOf_31) ⟨b4, rfl, f16⟩
  · refine Done.stepL (pc' := 7) (st' := [(.int p0)]) (fun t kk => ?_) ?_
    · show Steps p.tables e below (T0.setTop (mkF m 3 _ [(.int (-128 : Int32)), (.int p0)])) t
      refine XS.icmpNo P0.here P0.x rfl (hb hby d_intOf_3) rfl (iiW_lt_f (show ¬ (p0 < (-128 : Int32)) from c1)) ?_
      show Steps p.tables e below (T0.setTop (mkF m 6 _ [])) t
      refine XS.iloadN P0.here P0.x rfl (hb hby d_intOf_6) rfl ?_
      exact kk
    refine wGetS P0 (host := "") (Or.inl (tw83 hw)) Via.refl S1 (hb hby d_intOf_7) rfl (fun T17 P18 => ?_)
    show Done _ _ _ _ _ _ _ _ _ _ _ _ _ _ _ T17 (mkF m 10 _ [(.int (127 : Int32)), (.int p0)])
    by_cases c2 : (127 : Int32) < p0
    · refine Done.stepL (pc' := 23) (st' := []) (fun t kk => ?_) ?_
      · show Steps p.tables e below (T17.setTop (mkF m 10 _ [(.int (127 : Int32)), (.int p0)])) t
        refine XS.icmpYes P18.here P18.x rfl (pc0 := 10) (pc' := 23) rfl (hb hby d_intOf_10) rfl (iiW_gt_t c2) (by decide) (by decide) ?_
        exact kk
      refine wNew P18 (tw123 hw) (tw124 hw) (tw81 hw) (hb hby d_intOf_23) rfl (by decide) (by decide) (k' := 1) (n' := 1) rfl rfl (fun T19 h21 b22 g23 lt24 P20 E25 X26 D27 => ?_)
      have ge_b22 : h0.size ≤ b22 := by have := P18.ge; omega
      have F28 : Fld Z h21 b22 "java/lang/Integer" "value" "I" (.int (0 : Int32)) := D27 (Or.inr (tw132 hw)) (ty := .int) (by decide)
      show Done _ _ _ _ _ _ _ _ _ _ _ _ _ _ _ T19 (mkF m 26 _ [(.ref b22)])
      refine Done.stepL (pc' := 28) (st' := [(.int p0), (.ref b22), (.ref b22)]) (fun t kk => ?_) ?_
      · show Steps p.tables e below (T19.setTop (mkF m 26 _ [(.ref b22)])) t
        refine XS.dup P20.here P20.x rfl (hb hby d_intOf_26) rfl rfl ?_
        show Steps p.tables e below (T19.setTop (mkF m 27 _ [(.ref b22), (.ref b22)])) t
        refine XS.iloadN P20.here P20.x rfl (hb hby d_intOf_27) rfl ?_
        exact kk
      refine wCallI P20 (m_intInit l Z a0 hw hs b22 p0 h21 X26  F28) rfl (tw125 hw) (tw126 hw) (tw81 hw) (tw128 hw) (by decide) (a := b22) (by rw [hml]; rfl) (lenOf pd_2 rfl) (argsL := [(.int p0)]) (rest := [(.ref b22)]) rfl rfl (W := 1) (Nat.le_of_eq rfl) (by decide) (by decide) (by decide) (by decide) (allS (Or.inr ge_b22) all0) (hb hby d_intOf_28) rfl (k' := 1) (n' := 1) rfl rfl ?_
      rintro T29 h32 _ P30 K33 ⟨rfl, F31⟩
      have szh32 : h21.size ≤ h32.size := K33.1
      show Done _ _ _ _ _ _ _ _ _ _ _ _ _ _ _ T29 (mkF m 31 _ [(.ref b22)])
      have f34 := (X26.keep K33)
      exact wRetA P30 hret rfl rfl (hb hby d_intOf_31) ⟨b22, rfl, f34⟩
    · obtain ⟨i, hi, hj⟩ := own_ic p0 c1 c2
      refine Done.stepL (pc' := 13) (st' := []) (fun t kk => ?_) ?_
      · show Steps p.tables e below (T17.setTop (mkF m 10 _ [(.int (127 : Int32)), (.int p0)])) t
        refine XS.icmpNo P18.here P18.x rfl (hb hby d_intOf_10) rfl (iiW_gt_f (show ¬ ((127 : Int32) < p0) from c2)) ?_
        exact kk
      refine wGetS P18 (host := "") (Or.inl (tw85 hw)) Via.refl S2 (hb hby d_intOf_13) rfl (fun T35 P36 => ?_)
      show Done _ _ _ _ _ _ _ _ _ _ _ _ _ _ _ T35 (mkF m 16 _ [(.ref ca)])
      refine Done.stepL (pc' := 21) (st' := [(.int (p0 + (128 : Int32))), (.ref ca)]) (fun t kk => ?_) ?_
      · show Steps p.tables e below (T35.setTop (mkF m 16 _ [(.ref ca)])) t
        refine XS.iloadN P36.here P36.x rfl (hb hby d_intOf_16) rfl ?_
        show Steps p.tables e below (T35.setTop (mkF m 17 _ [(.int p0), (.ref ca)])) t
        refine XS.sipush P36.here P36.x rfl (hb hby d_intOf_17) ?_
        show Steps p.tables e below (T35.setTop (mkF m 20 _ [(.int (128 : Int32)), (.int p0), (.ref ca)])) t
        refine XS.iadd P36.here P36.x rfl (hb hby d_intOf_20) rfl ?_
        exact kk
      refine wAaload P36 Ac rfl (j := (p0 + (128 : Int32))) (i := i) hj hi (v := (.ref (gc i))) rfl (hb hby d_intOf_21) rfl ?_
      show Done _ _ _ _ _ _ _ _ _ _ _ _ _ _ _ T35 (mkF m 22 _ [(.ref (gc i))])
      exact wRetA P36 hret rfl rfl (hb hby d_intOf_22) ⟨_, rfl, hE i hi⟩
theorem ef_lngOf (m : MethodId) (x0 : Int64) : entryFrame m #[(.long x0)] 3 = mkF m 0 #[.val (.long x0), .second, .unset] [] := by first | (simp [entryFrame, mkF, argsToLocals, Value.category]; done) | rfl
theorem d_lngOf_0 : decode jdk_35_method_24_code 0 = .ok (.sipush 128, 3) := by decide +kernel
theorem d_lngOf_3 : decode jdk_35_method_24_code 3 = .ok (.istore_n 2, 1) := by decide +kernel
theorem d_lngOf_4 : decode jdk_35_method_24_code 4 = .ok (.lload_n 0, 1) := by decide +kernel
theorem d_lngOf_5 : decode jdk_35_method_24_code 5 = .ok (.ldc2_w 230, 3) := by decide +kernel
theorem d_lngOf_8 : decode jdk_35_method_24_code 8 = .ok (.lcmp, 1) := by decide +kernel
theorem d_lngOf_9 : decode jdk_35_method_24_code 9 = .ok (.ifCond .lt 22, 3) := by decide +kernel
theorem d_lngOf_31 : decode jdk_35_method_24_code 31 = .ok (.new 1, 3) := by decide +kernel
theorem d_lngOf_34 : decode jdk_35_method_24_code 34 = .ok (.dup, 1) := by decide +kernel
theorem d_lngOf_35 : decode jdk_35_method_24_code 35 = .ok (.lload_n 0, 1) := by decide +kernel
theorem d_lngOf_36 : decode jdk_35_method_24_code 36 = .ok (.invokespecial 240, 3) := by decide +kernel
theorem d_lngOf_39 : decode jdk_35_method_24_code 39 = .ok (.areturn, 1) := by decide +kernel
theorem d_lngOf_12 : decode jdk_35_method_24_code 12 = .ok (.lload_n 0, 1) := by decide +kernel
theorem d_lngOf_13 : decode jdk_35_method_24_code 13 = .ok (.ldc2_w 232, 3) := by decide +kernel
theorem d_lngOf_16 : decode jdk_35_method_24_code 16 = .ok (.lcmp, 1) := by decide +kernel
theorem d_lngOf_17 : decode jdk_35_method_24_code 17 = .ok (.ifCond .gt 14, 3) := by decide +kernel
theorem d_lngOf_20 : decode jdk_35_method_24_code 20 = .ok (.getstatic 234, 3) := by decide +kernel
theorem d_lngOf_23 : decode jdk_35_method_24_code 23 = .ok (.lload_n 0, 1) := by decide +kernel
theorem d_lngOf_24 : decode jdk_35_method_24_code 24 = .ok (.l2i, 1) := by decide +kernel
theorem d_lngOf_25 : decode jdk_35_method_24_code 25 = .ok (.sipush 128, 3) := by decide +kernel
theorem d_lngOf_28 : decode jdk_35_method_24_code 28 = .ok (.iadd, 1) := by decide +kernel
theorem d_lngOf_29 : decode jdk_35_method_24_code 29 = .ok (.aaload, 1) := by decide +kernel
theorem d_lngOf_30 : decode jdk_35_method_24_code 30 = .ok (.areturn, 1) := by decide +kernel
set_option maxRecDepth 65536 in
set_option maxHeartbeats 4000000 in
theorem m_lngOf (l : Launch) (Z : State) (a0 : Array Value) (hw : ∀ d ∈ tables_1, d.before a0 Z = true) (hs : ∀ d ∈ jdkStatics_1, d.before a0 Z = true) (p0 : Int64) (ca : Addr) (gc : Nat → Addr) (h0 : Heap) (S2 : Sta Z h0 "java/lang/Long$LongCache" "cache" "[Ljava/lang/Long;" (.ref ca)) (Ac : Ar Z h0 ca (.object "java/lang/Long") 256 (fun i => .ref (gc i))) (hE : ∀ i, i < 256 → Exa Z h0 (gc i) "java/lang/Long") :
    OMet l (⟨"java/lang/Long", "valueOf", "(J)Ljava/lang/Long;"⟩ : MethodName) jdk_35_method_24_code 3 (Option.some (FieldType.object "java/lang/Long")) [] ({ frames := 3, cells := 1, slots := 1, locals := 39 } : Room) Z h0 [] #[(.long p0)] (fun v h' => ∃ b : Addr, v = some (.ref b) ∧ Exa Z h' b "java/lang/Long") := by
  refine OMet.of (own := "java/lang/Long") (nm := "valueOf") pn_6 rfl rfl ?_
  intro p e s m below meth c T0 P0 hby hml hret hnm
  refine Done.step (T' := T0) (g' := (mkF m 0 #[.val (.long p0), .second, .unset] [])) (fun t kk => castTop (ef_lngOf m p0) kk) ?_
  refine Done.step (T' := T0) (g' := (mkF m 9 #[.val (.long p0), .second, .val (.int (128 : Int32))] [(.int (lcmpW p0 (-128 : Int64)))])) (fun t kk => ?_) ?_
  · show Steps p.tables e below (T0.setTop (mkF m 0 _ [])) t
    refine XS.sipush P0.here P0.x rfl (hb hby d_lngOf_0) ?_
    show Steps p.tables e below (T0.setTop (mkF m 3 _ [(.int (128 : Int32))])) t
    refine XS.istoreN P0.here P0.x rfl (hb hby d_lngOf_3) rfl (l' := #[.val (.long p0), .second, .val (.int (128 : Int32))]) rfl ?_
    show Steps p.tables e below (T0.setTop (mkF m 4 _ [])) t
    refine XS.lloadN P0.here P0.x rfl (hb hby d_lngOf_4) rfl ?_
    show Steps p.tables e below (T0.setTop (mkF m 5 _ [(.long p0)])) t
    refine pLdcJ P0 (tw66 hw) (hb hby d_lngOf_5) rfl ?_
    show Steps p.tables e below (T0.setTop (mkF m 8 _ [(.long (-128 : Int64)), (.long p0)])) t
    refine XS.lcmp P0.here P0.x rfl (hb hby d_lngOf_8) rfl ?_
    exact kk
  by_cases c1 : p0 < (-128 : Int64)
  · refine Done.stepL (pc' := 31) (st' := []) (fun t kk => ?_) ?_
    · show Steps p.tables e below (T0.setTop (mkF m 9 _ [(.int (lcmpW p0 (-128 : Int64)))])) t
      refine XS.ifYes P0.here P0.x rfl (pc0 := 9) (pc' := 31) rfl (hb hby d_lngOf_9) rfl (lcW_lt_t c1) (by decide) (by decide) ?_
      exact kk
    refine wNew P0 (tw67 hw) (tw68 hw) (tw64 hw) (hb hby d_lngOf_31) rfl (by decide) (by decide) (k' := 1) (n' := 1) rfl rfl (fun T1 h3 b4 g5 lt6 P2 E7 X8 D9 => ?_)
    have ge_b4 : h0.size ≤ b4 := by have := P0.ge; omega
    have F10 : Fld Z h3 b4 "java/lang/Long" "value" "J" (.long (0 : Int64)) := D9 (Or.inr (tw76 hw)) (ty := .long) (by decide)
    show Done _ _ _ _ _ _ _ _ _ _ _ _ _ _ _ T1 (mkF m 34 _ [(.ref b4)])
    refine Done.stepL (pc' := 36) (st' := [(.long p0), (.ref b4), (.ref b4)]) (fun t kk => ?_) ?_
    · show Steps p.tables e below (T1.setTop (mkF m 34 _ [(.ref b4)])) t
      refine XS.dup P2.here P2.x rfl (hb hby d_lngOf_34) rfl rfl ?_
      show Steps p.tables e below (T1.setTop (mkF m 35 _ [(.ref b4), (.ref b4)])) t
      refine XS.lloadN P2.here P2.x rfl (hb hby d_lngOf_35) rfl ?_
      exact kk
    refine wCallI P2 (m_lngInit l Z a0 hw hs b4 p0 h3 X8  F10) rfl (tw69 hw) (tw70 hw) (tw64 hw) (tw72 hw) (by decide) (a := b4) (by rw [hml]; rfl) (lenOf pd_3 rfl) (argsL := [(.long p0)]) (rest := [(.ref b4)]) rfl rfl (W := 1) (Nat.le_of_eq rfl) (by decide) (by decide) (by decide) (by decide) (allS (Or.inr ge_b4) all0) (hb hby d_lngOf_36) rfl (k' := 1) (n' := 1) rfl rfl ?_
    rintro T11 h14 _ P12 K15 ⟨rfl, F13⟩
    have szh14 : h3.size ≤ h14.size := K15.1
    show Done _ _ _ _ _ _ _ _ _ _ _ _ _ _ _ T11 (mkF m 39 _ [(.ref b4)])
    have f16 := (X8.keep K15)
    exact wRetA P12 hret rfl rfl (hb hby d_lngOf_39) ⟨b4, rfl, f16⟩
  · refine Done.stepL (pc' := 17) (st' := [(.int (lcmpW p0 (127 : Int64)))]) (fun t kk => ?_) ?_
    · show Steps p.tables e below (T0.setTop (mkF m 9 _ [(.int (lcmpW p0 (-128 : Int64)))])) t
      refine XS.ifNo P0.here P0.x rfl (hb hby d_lngOf_9) rfl (lcW_lt_f (show ¬ (p0 < (-128 : Int64)) from c1)) ?_
      show Steps p.tables e below (T0.setTop (mkF m 12 _ [])) t
      refine XS.lloadN P0.here P0.x rfl (hb hby d_lngOf_12) rfl ?_
      show Steps p.tables e below (T0.setTop (mkF m 13 _ [(.long p0)])) t
      refine pLdcJ P0 (tw87 hw) (hb hby d_lngOf_13) rfl ?_
      show Steps p.tables e below (T0.setTop (mkF m 16 _ [(.long (127 : Int64)), (.long p0)])) t
      refine XS.lcmp P0.here P0.x rfl (hb hby d_lngOf_16) rfl ?_
      exact kk
    by_cases c2 : (127 : Int64) < p0
    · refine Done.stepL (pc' := 31) (st' := []) (fun t kk => ?_) ?_
      · show Steps p.tables e below (T0.setTop (mkF m 17 _ [(.int (lcmpW p0 (127 : Int64)))])) t
        refine XS.ifYes P0.here P0.x rfl (pc0 := 17) (pc' := 31) rfl (hb hby d_lngOf_17) rfl (lcW_gt_t c2) (by decide) (by decide) ?_
        exact kk
      refine wNew P0 (tw67 hw) (tw68 hw) (tw64 hw) (hb hby d_lngOf_31) rfl (by decide) (by decide) (k' := 1) (n' := 1) rfl rfl (fun T17 h19 b20 g21 lt22 P18 E23 X24 D25 => ?_)
      have ge_b20 : h0.size ≤ b20 := by have := P0.ge; omega
      have F26 : Fld Z h19 b20 "java/lang/Long" "value" "J" (.long (0 : Int64)) := D25 (Or.inr (tw76 hw)) (ty := .long) (by decide)
      show Done _ _ _ _ _ _ _ _ _ _ _ _ _ _ _ T17 (mkF m 34 _ [(.ref b20)])
      refine Done.stepL (pc' := 36) (st' := [(.long p0), (.ref b20), (.ref b20)]) (fun t kk => ?_) ?_
      · show Steps p.tables e below (T17.setTop (mkF m 34 _ [(.ref b20)])) t
        refine XS.dup P18.here P18.x rfl (hb hby d_lngOf_34) rfl rfl ?_
        show Steps p.tables e below (T17.setTop (mkF m 35 _ [(.ref b20), (.ref b20)])) t
        refine XS.lloadN P18.here P18.x rfl (hb hby d_lngOf_35) rfl ?_
        exact kk
      refine wCallI P18 (m_lngInit l Z a0 hw hs b20 p0 h19 X24  F26) rfl (tw69 hw) (tw70 hw) (tw64 hw) (tw72 hw) (by decide) (a := b20) (by rw [hml]; rfl) (lenOf pd_3 rfl) (argsL := [(.long p0)]) (rest := [(.ref b20)]) rfl rfl (W := 1) (Nat.le_of_eq rfl) (by decide) (by decide) (by decide) (by decide) (allS (Or.inr ge_b20) all0) (hb hby d_lngOf_36) rfl (k' := 1) (n' := 1) rfl rfl ?_
      rintro T27 h30 _ P28 K31 ⟨rfl, F29⟩
      have szh30 : h19.size ≤ h30.size := K31.1
      show Done _ _ _ _ _ _ _ _ _ _ _ _ _ _ _ T27 (mkF m 39 _ [(.ref b20)])
      have f32 := (X24.keep K31)
      exact wRetA P28 hret rfl rfl (hb hby d_lngOf_39) ⟨b20, rfl, f32⟩
    · obtain ⟨i, hi, hj⟩ := own_lc p0 c1 c2
      refine Done.stepL (pc' := 20) (st' := []) (fun t kk => ?_) ?_
      · show Steps p.tables e below (T0.setTop (mkF m 17 _ [(.int (lcmpW p0 (127 : Int64)))])) t
        refine XS.ifNo P0.here P0.x rfl (hb hby d_lngOf_17) rfl (lcW_gt_f (show ¬ ((127 : Int64) < p0) from c2)) ?_
        exact kk
      refine wGetS P0 (host := "") (Or.inl (tw138 hw)) Via.refl S2 (hb hby d_lngOf_20) rfl (fun T33 P34 => ?_)
      show Done _ _ _ _ _ _ _ _ _ _ _ _ _ _ _ T33 (mkF m 23 _ [(.ref ca)])
      refine Done.stepL (pc' := 29) (st' := [(.int (p0.toInt32 + (128 : Int32))), (.ref ca)]) (fun t kk => ?_) ?_
      · show Steps p.tables e below (T33.setTop (mkF m 23 _ [(.ref ca)])) t
        refine XS.lloadN P34.here P34.x rfl (hb hby d_lngOf_23) rfl ?_
        show Steps p.tables e below (T33.setTop (mkF m 24 _ [(.long p0), (.ref ca)])) t
        refine XS.l2i P34.here P34.x rfl (hb hby d_lngOf_24) rfl ?_
        show Steps p.tables e below (T33.setTop (mkF m 25 _ [(.int p0.toInt32), (.ref ca)])) t
        refine XS.sipush P34.here P34.x rfl (hb hby d_lngOf_25) ?_
        show Steps p.tables e below (T33.setTop (mkF m 28 _ [(.int (128 : Int32)), (.int p0.toInt32), (.ref ca)])) t
        refine XS.iadd P34.here P34.x rfl (hb hby d_lngOf_28) rfl ?_
        exact kk
      refine wAaload P34 Ac rfl (j := (p0.toInt32 + (128 : Int32))) (i := i) hj hi (v := (.ref (gc i))) rfl (hb hby d_lngOf_29) rfl ?_
      show Done _ _ _ _ _ _ _ _ _ _ _ _ _ _ _ T33 (mkF m 30 _ [(.ref (gc i))])
      exact wRetA P34 hret rfl rfl (hb hby d_lngOf_30) ⟨_, rfl, hE i hi⟩
theorem ef_boolOf (m : MethodId) (x0 : Int32) : entryFrame m #[(.int x0)] 1 = mkF m 0 #[.val (.int x0)] [] := by first | (simp [entryFrame, mkF, argsToLocals, Value.category]; done) | rfl
theorem d_boolOf_0 : decode jdk_2055_method_5_code 0 = .ok (.iload_n 0, 1) := by decide +kernel
theorem d_boolOf_1 : decode jdk_2055_method_5_code 1 = .ok (.ifCond .eq 9, 3) := by decide +kernel
theorem d_boolOf_10 : decode jdk_2055_method_5_code 10 = .ok (.getstatic 31, 3) := by decide +kernel
theorem d_boolOf_13 : decode jdk_2055_method_5_code 13 = .ok (.areturn, 1) := by decide +kernel
theorem d_boolOf_4 : decode jdk_2055_method_5_code 4 = .ok (.getstatic 27, 3) := by decide +kernel
theorem d_boolOf_7 : decode jdk_2055_method_5_code 7 = .ok (.goto 6, 3) := by decide +kernel
set_option maxRecDepth 65536 in
set_option maxHeartbeats 4000000 in
theorem m_boolOf (l : Launch) (Z : State) (a0 : Array Value) (hw : ∀ d ∈ tables_1, d.before a0 Z = true) (hs : ∀ d ∈ jdkStatics_1, d.before a0 Z = true) (p0 : Int32) (tb fb : Addr) (h0 : Heap) (S1 : Sta Z h0 "java/lang/Boolean" "TRUE" "Ljava/lang/Boolean;" (.ref tb)) (S2 : Sta Z h0 "java/lang/Boolean" "FALSE" "Ljava/lang/Boolean;" (.ref fb)) (E1 : Exa Z h0 tb "java/lang/Boolean") (E2 : Exa Z h0 fb "java/lang/Boolean") :
    OMet l (⟨"java/lang/Boolean", "valueOf", "(Z)Ljava/lang/Boolean;"⟩ : MethodName) jdk_2055_method_5_code 1 (Option.some (FieldType.object "java/lang/Boolean")) [] ({ frames := 0, cells := 0, slots := 0, locals := 0 } : Room) Z h0 [] #[(.int p0)] (fun v h' => ∃ b : Addr, v = some (.ref b) ∧ Exa Z h' b "java/lang/Boolean") := by
  refine OMet.of (own := "java/lang/Boolean") (nm := "valueOf") pn_7 rfl rfl ?_
  intro p e s m below meth c T0 P0 hby hml hret hnm
  refine Done.step (T' := T0) (g' := (mkF m 0 #[.val (.int p0)] [])) (fun t kk => castTop (ef_boolOf m p0) kk) ?_
  refine Done.stepL (pc' := 1) (st' := [(.int p0)]) (fun t kk => ?_) ?_
  · show Steps p.tables e below (T0.setTop (mkF m 0 _ [])) t
    refine XS.iloadN P0.here P0.x rfl (hb hby d_boolOf_0) rfl ?_
    exact kk
  by_cases c1 : p0 = (0 : Int32)
  · refine Done.stepL (pc' := 10) (st' := []) (fun t kk => ?_) ?_
    · show Steps p.tables e below (T0.setTop (mkF m 1 _ [(.int p0)])) t
      refine XS.ifYes P0.here P0.x rfl (pc0 := 1) (pc' := 10) rfl (hb hby d_boolOf_1) rfl (i0W_eq_t c1) (by decide) (by decide) ?_
      exact kk
    refine wGetS P0 (host := "") (Or.inl (tw137 hw)) Via.refl S2 (hb hby d_boolOf_10) rfl (fun T1 P2 => ?_)
    show Done _ _ _ _ _ _ _ _ _ _ _ _ _ _ _ T1 (mkF m 13 _ [(.ref fb)])
    exact wRetA P2 hret rfl rfl (hb hby d_boolOf_13) ⟨fb, rfl, E2⟩
  · refine Done.stepL (pc' := 4) (st' := []) (fun t kk => ?_) ?_
    · show Steps p.tables e below (T0.setTop (mkF m 1 _ [(.int p0)])) t
      refine XS.ifNo P0.here P0.x rfl (hb hby d_boolOf_1) rfl (i0W_eq_f (show ¬ (p0 = (0 : Int32)) from c1)) ?_
      exact kk
    refine wGetS P0 (host := "") (Or.inl (tw92 hw)) Via.refl S1 (hb hby d_boolOf_4) rfl (fun T3 P4 => ?_)
    show Done _ _ _ _ _ _ _ _ _ _ _ _ _ _ _ T3 (mkF m 7 _ [(.ref tb)])
    refine Done.stepL (pc' := 13) (st' := [(.ref tb)]) (fun t kk => ?_) ?_
    · show Steps p.tables e below (T3.setTop (mkF m 7 _ [(.ref tb)])) t
      refine XS.goto P4.here P4.x rfl (pc0 := 7) (pc' := 13) rfl (hb hby d_boolOf_7) (by decide) (by decide) ?_
      exact kk
    exact wRetA P4 hret rfl rfl (hb hby d_boolOf_13) ⟨tb, rfl, E1⟩
theorem ef_abcInit (m : MethodId) (x0 : Addr) : entryFrame m #[(.ref x0)] 1 = mkF m 0 #[.val (.ref x0)] [] := by first | (simp [entryFrame, mkF, argsToLocals, Value.category]; done) | rfl
theorem d_abcInit_0 : decode jdk_22_method_1_code 0 = .ok (.aload_n 0, 1) := by decide +kernel
theorem d_abcInit_1 : decode jdk_22_method_1_code 1 = .ok (.invokespecial 1, 3) := by decide +kernel
theorem d_abcInit_4 : decode jdk_22_method_1_code 4 = .ok (.return_, 1) := by decide +kernel
set_option maxRecDepth 65536 in
set_option maxHeartbeats 4000000 in
theorem m_abcInit (l : Launch) (Z : State) (a0 : Array Value) (hw : ∀ d ∈ tables_1, d.before a0 Z = true) (hs : ∀ d ∈ jdkStatics_1, d.before a0 Z = true) (a : Addr) (h0 : Heap)  :
    OMet l (⟨"java/util/AbstractCollection", "<init>", "()V"⟩ : MethodName) jdk_22_method_1_code 1 (Option.none : Option FieldType) [] ({ frames := 1, cells := 0, slots := 0, locals := 12 } : Room) Z h0 [] #[(.ref a)] (fun v h' => v = none ∧ h0 = h') := by
  refine OMet.of (own := "java/util/AbstractCollection") (nm := "<init>") pn_8 rfl rfl ?_
  intro p e s m below meth c T0 P0 hby hml hret hnm
  refine Done.step (T' := T0) (g' := (mkF m 0 #[.val (.ref a)] [])) (fun t kk => castTop (ef_abcInit m a) kk) ?_
  refine Done.stepL (pc' := 1) (st' := [(.ref a)]) (fun t kk => ?_) ?_
  · show Steps p.tables e below (T0.setTop (mkF m 0 _ [])) t
    refine XS.aloadN P0.here P0.x rfl (hb hby d_abcInit_0) rfl rfl ?_
    exact kk
  refine wInit P0 (tw52 hw) (tw29 hw) (tw30 hw) (by rw [hml]; rfl) (hb hby d_abcInit_1) (by decide) (W := 0) (Nat.le_of_eq rfl) (by decide) rfl (fun T1 P2 => ?_)
  show Done _ _ _ _ _ _ _ _ _ _ _ _ _ _ _ T1 (mkF m 4 _ [])
  exact wRetV P2 hret (hb hby d_abcInit_4) ⟨rfl, rfl⟩
theorem ef_ablInit (m : MethodId) (x0 : Addr) : entryFrame m #[(.ref x0)] 1 = mkF m 0 #[.val (.ref x0)] [] := by first | (simp [entryFrame, mkF, argsToLocals, Value.category]; done) | rfl
theorem d_ablInit_0 : decode jdk_39_method_1_code 0 = .ok (.aload_n 0, 1) := by decide +kernel
theorem d_ablInit_1 : decode jdk_39_method_1_code 1 = .ok (.invokespecial 1, 3) := by decide +kernel
theorem d_ablInit_4 : decode jdk_39_method_1_code 4 = .ok (.aload_n 0, 1) := by decide +kernel
theorem d_ablInit_5 : decode jdk_39_method_1_code 5 = .ok (.iconst 0, 1) := by decide +kernel
theorem d_ablInit_6 : decode jdk_39_method_1_code 6 = .ok (.putfield 7, 3) := by decide +kernel
theorem d_ablInit_9 : decode jdk_39_method_1_code 9 = .ok (.return_, 1) := by decide +kernel
set_option maxRecDepth 65536 in
set_option maxHeartbeats 4000000 in
theorem m_ablInit (l : Launch) (Z : State) (a0 : Array Value) (hw : ∀ d ∈ tables_1, d.before a0 Z = true) (hs : ∀ d ∈ jdkStatics_1, d.before a0 Z = true) (a : Addr) (h0 : Heap) (E0 : Exa Z h0 a "java/util/ArrayList") (F1 : Fld Z h0 a "java/util/AbstractList" "modCount" "I" (.int 0)) (F2 : Fld Z h0 a "java/util/ArrayList" "elementData" "[Ljava/lang/Object;" .null) :
    OMet l (⟨"java/util/AbstractList", "<init>", "()V"⟩ : MethodName) jdk_39_method_1_code 1 (Option.none : Option FieldType) [] ({ frames := 2, cells := 0, slots := 0, locals := 24 } : Room) Z h0 [a] #[(.ref a)] (fun v h' => v = none ∧ Fld Z h' a "java/util/ArrayList" "elementData" "[Ljava/lang/Object;" .null) := by
  refine OMet.of (own := "java/util/AbstractList") (nm := "<init>") pn_9 rfl rfl ?_
  intro p e s m below meth c T0 P0 hby hml hret hnm
  refine Done.step (T' := T0) (g' := (mkF m 0 #[.val (.ref a)] [])) (fun t kk => castTop (ef_ablInit m a) kk) ?_
  refine Done.stepL (pc' := 1) (st' := [(.ref a)]) (fun t kk => ?_) ?_
  · show Steps p.tables e below (T0.setTop (mkF m 0 _ [])) t
    refine XS.aloadN P0.here P0.x rfl (hb hby d_ablInit_0) rfl rfl ?_
    exact kk
  refine wCallI P0 (m_abcInit l Z a0 hw hs a h0) rfl (tw46 hw) (tw47 hw) (tw50 hw) (tw51 hw) (by decide) (a := a) (by rw [hml]; rfl) (lenOf pd_0 rfl) (argsL := []) (rest := []) rfl rfl (W := 0) (Nat.le_of_eq rfl) (by decide) (by decide) (by decide) (by decide) (by simp) (hb hby d_ablInit_1) rfl (k' := 0) (n' := 0) rfl rfl ?_
  rintro T1 _ _ P2 - ⟨rfl, rfl⟩
  show Done _ _ _ _ _ _ _ _ _ _ _ _ _ _ _ T1 (mkF m 4 _ [])
  refine Done.stepL (pc' := 6) (st' := [(.int (0 : Int32)), (.ref a)]) (fun t kk => ?_) ?_
  · show Steps p.tables e below (T1.setTop (mkF m 4 _ [])) t
    refine XS.aloadN P2.here P2.x rfl (hb hby d_ablInit_4) rfl rfl ?_
    show Steps p.tables e below (T1.setTop (mkF m 5 _ [(.ref a)])) t
    refine XS.iconst P2.here P2.x rfl (hb hby d_ablInit_5) ?_
    exact kk
  refine wPut P2 (host := "") (Or.inl (tw53 hw)) Via.refl F1 E0 (Or.inl (tw54 hw)) (tw35 hw) (ty := .int) (by decide) rfl rfl (Or.inl (by simp)) (hb hby d_ablInit_6) rfl (fun T3 h5 P4 W6 F7 => ?_)
  have szh5 : h5.size = h0.size := W6.size
  show Done _ _ _ _ _ _ _ _ _ _ _ _ _ _ _ T3 (mkF m 9 _ [])
  have f8 := (F2.other W6 (Or.inr (slot_ne (Or.inl (tw57 hw)) (Or.inl (tw54 hw)) (by decide) (t := (.array (.object "java/lang/Object"))) (t' := .int) (by decide) (by decide))))
  exact wRetV P4 hret (hb hby d_ablInit_9) ⟨rfl, f8⟩
theorem ef_alInit (m : MethodId) (x0 : Addr) : entryFrame m #[(.ref x0)] 1 = mkF m 0 #[.val (.ref x0)] [] := by first | (simp [entryFrame, mkF, argsToLocals, Value.category]; done) | rfl
theorem d_alInit_0 : decode jdk_38_method_2_code 0 = .ok (.aload_n 0, 1) := by decide +kernel
theorem d_alInit_1 : decode jdk_38_method_2_code 1 = .ok (.invokespecial 1, 3) := by decide +kernel
theorem d_alInit_4 : decode jdk_38_method_2_code 4 = .ok (.aload_n 0, 1) := by decide +kernel
theorem d_alInit_5 : decode jdk_38_method_2_code 5 = .ok (.getstatic 39, 3) := by decide +kernel
theorem d_alInit_8 : decode jdk_38_method_2_code 8 = .ok (.putfield 9, 3) := by decide +kernel
theorem d_alInit_11 : decode jdk_38_method_2_code 11 = .ok (.return_, 1) := by decide +kernel
set_option maxRecDepth 65536 in
set_option maxHeartbeats 4000000 in
theorem m_alInit (l : Launch) (Z : State) (a0 : Array Value) (hw : ∀ d ∈ tables_1, d.before a0 Z = true) (hs : ∀ d ∈ jdkStatics_1, d.before a0 Z = true) (a da : Addr) (h0 : Heap) (E0 : Exa Z h0 a "java/util/ArrayList") (F1 : Fld Z h0 a "java/util/AbstractList" "modCount" "I" (.int 0)) (F2 : Fld Z h0 a "java/util/ArrayList" "elementData" "[Ljava/lang/Object;" .null) (S1 : Sta Z h0 "java/util/ArrayList" "DEFAULTCAPACITY_EMPTY_ELEMENTDATA" "[Ljava/lang/Object;" (.ref da)) :
    OMet l (⟨"java/util/ArrayList", "<init>", "()V"⟩ : MethodName) jdk_38_method_2_code 1 (Option.none : Option FieldType) [] ({ frames := 3, cells := 0, slots := 0, locals := 36 } : Room) Z h0 [a] #[(.ref a)] (fun v h' => v = none) := by
  refine OMet.of (own := "java/util/ArrayList") (nm := "<init>") pn_10 rfl rfl ?_
  intro p e s m below meth c T0 P0 hby hml hret hnm
  refine Done.step (T' := T0) (g' := (mkF m 0 #[.val (.ref a)] [])) (fun t kk => castTop (ef_alInit m a) kk) ?_
  refine Done.stepL (pc' := 1) (st' := [(.ref a)]) (fun t kk => ?_) ?_
  · show Steps p.tables e below (T0.setTop (mkF m 0 _ [])) t
    refine XS.aloadN P0.here P0.x rfl (hb hby d_alInit_0) rfl rfl ?_
    exact kk
  refine wCallI P0 (m_ablInit l Z a0 hw hs a h0 E0 F1 F2) rfl (tw40 hw) (tw41 hw) (tw44 hw) (tw45 hw) (by decide) (a := a) (by rw [hml]; rfl) (lenOf pd_0 rfl) (argsL := []) (rest := []) rfl rfl (W := 0) (Nat.le_of_eq rfl) (by decide) (by decide) (by decide) (by decide) (allS (Or.inl (by simp)) all0) (hb hby d_alInit_1) rfl (k' := 0) (n' := 0) rfl rfl ?_
  rintro T1 h4 _ P2 K5 ⟨rfl, F3⟩
  have szh4 : h0.size ≤ h4.size := K5.1
  show Done _ _ _ _ _ _ _ _ _ _ _ _ _ _ _ T1 (mkF m 4 _ [])
  refine Done.stepL (pc' := 5) (st' := [(.ref a)]) (fun t kk => ?_) ?_
  · show Steps p.tables e below (T1.setTop (mkF m 4 _ [])) t
    refine XS.aloadN P2.here P2.x rfl (hb hby d_alInit_4) rfl rfl ?_
    exact kk
  have f6 := (staKeep S1 K5 (nsS (Exa.nostat E0) ns0))
  refine wGetS P2 (host := "") (Or.inl (tw55 hw)) Via.refl f6 (hb hby d_alInit_5) rfl (fun T7 P8 => ?_)
  show Done _ _ _ _ _ _ _ _ _ _ _ _ _ _ _ T7 (mkF m 8 _ [(.ref da), (.ref a)])
  have f9 := (E0.keep K5)
  refine wPut P8 (host := "") (Or.inl (tw56 hw)) Via.refl F3 f9 (Or.inl (tw57 hw)) (tw35 hw) (ty := (.array (.object "java/lang/Object"))) (by decide) rfl rfl (Or.inl (by simp)) (hb hby d_alInit_8) rfl (fun T10 h12 P11 W13 F14 => ?_)
  have szh12 : h12.size = h4.size := W13.size
  show Done _ _ _ _ _ _ _ _ _ _ _ _ _ _ _ T10 (mkF m 11 _ [])
  exact wRetV P11 hret (hb hby d_alInit_11) rfl
theorem ef_comp5 (m : MethodId) (x0 : Addr) (x1 : Int32) (x2 : Addr) (x3 : Int32) (x4 : Int32) : entryFrame m #[(.ref x0), (.int x1), (.ref x2), (.int x3), (.int x4)] 7 = mkF m 0 #[.val (.ref x0), .val (.int x1), .val (.ref x2), .val (.int x3), .val (.int x4), .unset, .unset] [] := by first | (simp [entryFrame, mkF, argsToLocals, Value.category]; done) | rfl
theorem d_comp5_0 : decode jdk_52_method_21_code 0 = .ok (.iconst 0, 1) := by decide +kernel
theorem d_comp5_1 : decode jdk_52_method_21_code 1 = .ok (.istore 5, 2) := by decide +kernel
theorem d_comp5_3 : decode jdk_52_method_21_code 3 = .ok (.iload 5, 2) := by decide +kernel
theorem d_comp5_5 : decode jdk_52_method_21_code 5 = .ok (.iload 4, 2) := by decide +kernel
theorem d_comp5_7 : decode jdk_52_method_21_code 7 = .ok (.if_icmp .ge 37, 3) := by decide +kernel
theorem d_comp5_10 : decode jdk_52_method_21_code 10 = .ok (.aload_n 0, 1) := by decide +kernel
theorem d_comp5_11 : decode jdk_52_method_21_code 11 = .ok (.iload_n 1, 1) := by decide +kernel
theorem d_comp5_12 : decode jdk_52_method_21_code 12 = .ok (.caload, 1) := by decide +kernel
theorem d_comp5_13 : decode jdk_52_method_21_code 13 = .ok (.istore 6, 2) := by decide +kernel
theorem d_comp5_15 : decode jdk_52_method_21_code 15 = .ok (.iload 6, 2) := by decide +kernel
theorem d_comp5_17 : decode jdk_52_method_21_code 17 = .ok (.sipush 255, 3) := by decide +kernel
theorem d_comp5_20 : decode jdk_52_method_21_code 20 = .ok (.if_icmp .le 6, 3) := by decide +kernel
theorem d_comp5_26 : decode jdk_52_method_21_code 26 = .ok (.aload_n 2, 1) := by decide +kernel
theorem d_comp5_27 : decode jdk_52_method_21_code 27 = .ok (.iload_n 3, 1) := by decide +kernel
theorem d_comp5_28 : decode jdk_52_method_21_code 28 = .ok (.iload 6, 2) := by decide +kernel
theorem d_comp5_30 : decode jdk_52_method_21_code 30 = .ok (.i2b, 1) := by decide +kernel
theorem d_comp5_31 : decode jdk_52_method_21_code 31 = .ok (.bastore, 1) := by decide +kernel
theorem d_comp5_32 : decode jdk_52_method_21_code 32 = .ok (.iinc 1 1, 3) := by decide +kernel
theorem d_comp5_35 : decode jdk_52_method_21_code 35 = .ok (.iinc 3 1, 3) := by decide +kernel
theorem d_comp5_38 : decode jdk_52_method_21_code 38 = .ok (.iinc 5 1, 3) := by decide +kernel
theorem d_comp5_41 : decode jdk_52_method_21_code 41 = .ok (.goto (-38), 3) := by decide +kernel
theorem d_comp5_44 : decode jdk_52_method_21_code 44 = .ok (.iload 4, 2) := by decide +kernel
theorem d_comp5_46 : decode jdk_52_method_21_code 46 = .ok (.ireturn, 1) := by decide +kernel
set_option maxRecDepth 65536 in
set_option maxHeartbeats 4000000 in
theorem m_comp5 (l : Launch) (Z : State) (a0 : Array Value) (hw : ∀ d ∈ tables_1, d.before a0 Z = true) (hs : ∀ d ∈ jdkStatics_1, d.before a0 Z = true) (a b : Addr) (f gb : Nat → Int32) (h0 : Heap) (Aa : Ar Z h0 a .char 2 (fun i => .int (f i))) (q0 : ¬ ((255 : Int32) < f 0)) (q1 : ¬ ((255 : Int32) < f 1)) (Ab : Ar Z h0 b .byte 2 (fun i => .int (gb i))) (nab : a ≠ b) :
    OMet l (⟨"java/lang/StringUTF16", "compress", "([CI[BII)I"⟩ : MethodName) jdk_52_method_21_code 7 (Option.some FieldType.int) [] ({ frames := 0, cells := 0, slots := 0, locals := 0 } : Room) Z h0 [b] #[(.ref a), (.int (0 : Int32)), (.ref b), (.int (0 : Int32)), (.int (2 : Int32))] (fun v h' => v = some (.int 2) ∧ ∃ g' : Nat → Int32, Ar Z h' b .byte 2 (fun i => .int (g' i))) := by
  refine OMet.of (own := "java/lang/StringUTF16") (nm := "compress") pn_11 rfl rfl ?_
  intro p e s m below meth c T0 P0 hby hml hret hnm
  refine Done.step (T' := T0) (g' := (mkF m 0 #[.val (.ref a), .val (.int (0 : Int32)), .val (.ref b), .val (.int (0 : Int32)), .val (.int (2 : Int32)), .unset, .unset] [])) (fun t kk => castTop (ef_comp5 m a (0 : Int32) b (0 : Int32) (2 : Int32)) kk) ?_
  refine Done.step (T' := T0) (g' := (mkF m 12 #[.val (.ref a), .val (.int (0 : Int32)), .val (.ref b), .val (.int (0 : Int32)), .val (.int (2 : Int32)), .val (.int (0 : Int32)), .unset] [(.int (0 : Int32)), (.ref a)])) (fun t kk => ?_) ?_
  · show Steps p.tables e below (T0.setTop (mkF m 0 _ [])) t
    refine XS.iconst P0.here P0.x rfl (hb hby d_comp5_0) ?_
    show Steps p.tables e below (T0.setTop (mkF m 1 _ [(.int (0 : Int32))])) t
    refine XS.istore P0.here P0.x rfl (hb hby d_comp5_1) rfl (l' := #[.val (.ref a), .val (.int (0 : Int32)), .val (.ref b), .val (.int (0 : Int32)), .val (.int (2 : Int32)), .val (.int (0 : Int32)), .unset]) rfl ?_
    show Steps p.tables e below (T0.setTop (mkF m 3 _ [])) t
    refine XS.iload P0.here P0.x rfl (hb hby d_comp5_3) rfl ?_
    show Steps p.tables e below (T0.setTop (mkF m 5 _ [(.int (0 : Int32))])) t
    refine XS.iload P0.here P0.x rfl (hb hby d_comp5_5) rfl ?_
    show Steps p.tables e below (T0.setTop (mkF m 7 _ [(.int (2 : Int32)), (.int (0 : Int32))])) t
    refine XS.icmpNo P0.here P0.x rfl (hb hby d_comp5_7) rfl (iiW_ge_f (by decide)) ?_
    show Steps p.tables e below (T0.setTop (mkF m 10 _ [])) t
    refine XS.aloadN P0.here P0.x rfl (hb hby d_comp5_10) rfl rfl ?_
    show Steps p.tables e below (T0.setTop (mkF m 11 _ [(.ref a)])) t
    refine XS.iloadN P0.here P0.x rfl (hb hby d_comp5_11) rfl ?_
    exact kk
  refine wCaload P0 Aa (j := (0 : Int32)) (i := 0) rfl (by decide) (v := (.int (f 0))) rfl (hb hby d_comp5_12) rfl ?_
  show Done _ _ _ _ _ _ _ _ _ _ _ _ _ _ _ T0 (mkF m 13 _ [(.int (f 0))])
  refine Done.step (T' := T0) (g' := (mkF m 31 #[.val (.ref a), .val (.int (0 : Int32)), .val (.ref b), .val (.int (0 : Int32)), .val (.int (2 : Int32)), .val (.int (0 : Int32)), .val (.int (f 0))] [(.int (f 0).toInt8.toInt32), (.int (0 : Int32)), (.ref b)])) (fun t kk => ?_) ?_
  · show Steps p.tables e below (T0.setTop (mkF m 13 _ [(.int (f 0))])) t
    refine XS.istore P0.here P0.x rfl (hb hby d_comp5_13) rfl (l' := #[.val (.ref a), .val (.int (0 : Int32)), .val (.ref b), .val (.int (0 : Int32)), .val (.int (2 : Int32)), .val (.int (0 : Int32)), .val (.int (f 0))]) rfl ?_
    show Steps p.tables e below (T0.setTop (mkF m 15 _ [])) t
    refine XS.iload P0.here P0.x rfl (hb hby d_comp5_15) rfl ?_
    show Steps p.tables e below (T0.setTop (mkF m 17 _ [(.int (f 0))])) t
    refine XS.sipush P0.here P0.x rfl (hb hby d_comp5_17) ?_
    show Steps p.tables e below (T0.setTop (mkF m 20 _ [(.int (255 : Int32)), (.int (f 0))])) t
    refine XS.icmpYes P0.here P0.x rfl (pc0 := 20) (pc' := 26) rfl (hb hby d_comp5_20) rfl (iiW_le_t q0) (by decide) (by decide) ?_
    show Steps p.tables e below (T0.setTop (mkF m 26 _ [])) t
    refine XS.aloadN P0.here P0.x rfl (hb hby d_comp5_26) rfl rfl ?_
    show Steps p.tables e below (T0.setTop (mkF m 27 _ [(.ref b)])) t
    refine XS.iloadN P0.here P0.x rfl (hb hby d_comp5_27) rfl ?_
    show Steps p.tables e below (T0.setTop (mkF m 28 _ [(.int (0 : Int32)), (.ref b)])) t
    refine XS.iload P0.here P0.x rfl (hb hby d_comp5_28) rfl ?_
    show Steps p.tables e below (T0.setTop (mkF m 30 _ [(.int (f 0)), (.int (0 : Int32)), (.ref b)])) t
    refine XS.i2b P0.here P0.x rfl (hb hby d_comp5_30) rfl ?_
    exact kk
  refine wBastore P0 (f := gb) Ab (j := (0 : Int32)) (i := 0) rfl (by decide) (Or.inl (by simp)) (hb hby d_comp5_31) rfl (fun T1 h3 P2 W4 A5 => ?_)
  have szh3 : h3.size = h0.size := W4.size
  show Done _ _ _ _ _ _ _ _ _ _ _ _ _ _ _ T1 (mkF m 32 _ [])
  refine Done.step (T' := T1) (g' := (mkF m 3 #[.val (.ref a), .val (.int ((0 : Int32) + (1 : Int32))), .val (.ref b), .val (.int ((0 : Int32) + (1 : Int32))), .val (.int (2 : Int32)), .val (.int ((0 : Int32) + (1 : Int32))), .val (.int (f 0))] [])) (fun t kk => ?_) ?_
  · show Steps p.tables e below (T1.setTop (mkF m 32 _ [])) t
    refine XS.iinc P2.here P2.x rfl (hb hby d_comp5_32) rfl (l' := #[.val (.ref a), .val (.int ((0 : Int32) + (1 : Int32))), .val (.ref b), .val (.int (0 : Int32)), .val (.int (2 : Int32)), .val (.int (0 : Int32)), .val (.int (f 0))]) rfl ?_
    show Steps p.tables e below (T1.setTop (mkF m 35 _ [])) t
    refine XS.iinc P2.here P2.x rfl (hb hby d_comp5_35) rfl (l' := #[.val (.ref a), .val (.int ((0 : Int32) + (1 : Int32))), .val (.ref b), .val (.int ((0 : Int32) + (1 : Int32))), .val (.int (2 : Int32)), .val (.int (0 : Int32)), .val (.int (f 0))]) rfl ?_
    show Steps p.tables e below (T1.setTop (mkF m 38 _ [])) t
    refine XS.iinc P2.here P2.x rfl (hb hby d_comp5_38) rfl (l' := #[.val (.ref a), .val (.int ((0 : Int32) + (1 : Int32))), .val (.ref b), .val (.int ((0 : Int32) + (1 : Int32))), .val (.int (2 : Int32)), .val (.int ((0 : Int32) + (1 : Int32))), .val (.int (f 0))]) rfl ?_
    show Steps p.tables e below (T1.setTop (mkF m 41 _ [])) t
    refine XS.goto P2.here P2.x rfl (pc0 := 41) (pc' := 3) rfl (hb hby d_comp5_41) (by decide) (by decide) ?_
    exact kk
  show Done _ _ _ _ _ _ _ _ _ _ _ _ _ _ _ T1 (mkF m 3 #[.val (.ref a), .val (.int (1 : Int32)), .val (.ref b), .val (.int ((0 : Int32) + (1 : Int32))), .val (.int (2 : Int32)), .val (.int ((0 : Int32) + (1 : Int32))), .val (.int (f 0))] [])
  show Done _ _ _ _ _ _ _ _ _ _ _ _ _ _ _ T1 (mkF m 3 #[.val (.ref a), .val (.int (1 : Int32)), .val (.ref b), .val (.int (1 : Int32)), .val (.int (2 : Int32)), .val (.int ((0 : Int32) + (1 : Int32))), .val (.int (f 0))] [])
  show Done _ _ _ _ _ _ _ _ _ _ _ _ _ _ _ T1 (mkF m 3 #[.val (.ref a), .val (.int (1 : Int32)), .val (.ref b), .val (.int (1 : Int32)), .val (.int (2 : Int32)), .val (.int (1 : Int32)), .val (.int (f 0))] [])
  refine Done.stepL (pc' := 12) (st' := [(.int (1 : Int32)), (.ref a)]) (fun t kk => ?_) ?_
  · show Steps p.tables e below (T1.setTop (mkF m 3 _ [])) t
    refine XS.iload P2.here P2.x rfl (hb hby d_comp5_3) rfl ?_
    show Steps p.tables e below (T1.setTop (mkF m 5 _ [(.int (1 : Int32))])) t
    refine XS.iload P2.here P2.x rfl (hb hby d_comp5_5) rfl ?_
    show Steps p.tables e below (T1.setTop (mkF m 7 _ [(.int (2 : Int32)), (.int (1 : Int32))])) t
    refine XS.icmpNo P2.here P2.x rfl (hb hby d_comp5_7) rfl (iiW_ge_f (by decide)) ?_
    show Steps p.tables e below (T1.setTop (mkF m 10 _ [])) t
    refine XS.aloadN P2.here P2.x rfl (hb hby d_comp5_10) rfl rfl ?_
    show Steps p.tables e below (T1.setTop (mkF m 11 _ [(.ref a)])) t
    refine XS.iloadN P2.here P2.x rfl (hb hby d_comp5_11) rfl ?_
    exact kk
  have f6 := (Aa.other W4 (by first | assumption | exact Ne.symm (by assumption) | exact adr_ne (by omega) | omega))
  refine wCaload P2 f6 (j := (1 : Int32)) (i := 1) rfl (by decide) (v := (.int (f 1))) rfl (hb hby d_comp5_12) rfl ?_
  show Done _ _ _ _ _ _ _ _ _ _ _ _ _ _ _ T1 (mkF m 13 _ [(.int (f 1))])
  refine Done.step (T' := T1) (g' := (mkF m 31 #[.val (.ref a), .val (.int (1 : Int32)), .val (.ref b), .val (.int (1 : Int32)), .val (.int (2 : Int32)), .val (.int (1 : Int32)), .val (.int (f 1))] [(.int (f 1).toInt8.toInt32), (.int (1 : Int32)), (.ref b)])) (fun t kk => ?_) ?_
  · show Steps p.tables e below (T1.setTop (mkF m 13 _ [(.int (f 1))])) t
    refine XS.istore P2.here P2.x rfl (hb hby d_comp5_13) rfl (l' := #[.val (.ref a), .val (.int (1 : Int32)), .val (.ref b), .val (.int (1 : Int32)), .val (.int (2 : Int32)), .val (.int (1 : Int32)), .val (.int (f 1))]) rfl ?_
    show Steps p.tables e below (T1.setTop (mkF m 15 _ [])) t
    refine XS.iload P2.here P2.x rfl (hb hby d_comp5_15) rfl ?_
    show Steps p.tables e below (T1.setTop (mkF m 17 _ [(.int (f 1))])) t
    refine XS.sipush P2.here P2.x rfl (hb hby d_comp5_17) ?_
    show Steps p.tables e below (T1.setTop (mkF m 20 _ [(.int (255 : Int32)), (.int (f 1))])) t
    refine XS.icmpYes P2.here P2.x rfl (pc0 := 20) (pc' := 26) rfl (hb hby d_comp5_20) rfl (iiW_le_t q1) (by decide) (by decide) ?_
    show Steps p.tables e below (T1.setTop (mkF m 26 _ [])) t
    refine XS.aloadN P2.here P2.x rfl (hb hby d_comp5_26) rfl rfl ?_
    show Steps p.tables e below (T1.setTop (mkF m 27 _ [(.ref b)])) t
    refine XS.iloadN P2.here P2.x rfl (hb hby d_comp5_27) rfl ?_
    show Steps p.tables e below (T1.setTop (mkF m 28 _ [(.int (1 : Int32)), (.ref b)])) t
    refine XS.iload P2.here P2.x rfl (hb hby d_comp5_28) rfl ?_
    show Steps p.tables e below (T1.setTop (mkF m 30 _ [(.int (f 1)), (.int (1 : Int32)), (.ref b)])) t
    refine XS.i2b P2.here P2.x rfl (hb hby d_comp5_30) rfl ?_
    exact kk
  refine wBastore P2 (f := (oupd gb 0 (nar .byte (f 0).toInt8.toInt32))) A5 (j := (1 : Int32)) (i := 1) rfl (by decide) (Or.inl (by simp)) (hb hby d_comp5_31) rfl (fun T7 h9 P8 W10 A11 => ?_)
  have szh9 : h9.size = h3.size := W10.size
  show Done _ _ _ _ _ _ _ _ _ _ _ _ _ _ _ T7 (mkF m 32 _ [])
  refine Done.step (T' := T7) (g' := (mkF m 3 #[.val (.ref a), .val (.int ((1 : Int32) + (1 : Int32))), .val (.ref b), .val (.int ((1 : Int32) + (1 : Int32))), .val (.int (2 : Int32)), .val (.int ((1 : Int32) + (1 : Int32))), .val (.int (f 1))] [])) (fun t kk => ?_) ?_
  · show Steps p.tables e below (T7.setTop (mkF m 32 _ [])) t
    refine XS.iinc P8.here P8.x rfl (hb hby d_comp5_32) rfl (l' := #[.val (.ref a), .val (.int ((1 : Int32) + (1 : Int32))), .val (.ref b), .val (.int (1 : Int32)), .val (.int (2 : Int32)), .val (.int (1 : Int32)), .val (.int (f 1))]) rfl ?_
    show Steps p.tables e below (T7.setTop (mkF m 35 _ [])) t
    refine XS.iinc P8.here P8.x rfl (hb hby d_comp5_35) rfl (l' := #[.val (.ref a), .val (.int ((1 : Int32) + (1 : Int32))), .val (.ref b), .val (.int ((1 : Int32) + (1 : Int32))), .val (.int (2 : Int32)), .val (.int (1 : Int32)), .val (.int (f 1))]) rfl ?_
    show Steps p.tables e below (T7.setTop (mkF m 38 _ [])) t
    refine XS.iinc P8.here P8.x rfl (hb hby d_comp5_38) rfl (l' := #[.val (.ref a), .val (.int ((1 : Int32) + (1 : Int32))), .val (.ref b), .val (.int ((1 : Int32) + (1 : Int32))), .val (.int (2 : Int32)), .val (.int ((1 : Int32) + (1 : Int32))), .val (.int (f 1))]) rfl ?_
    show Steps p.tables e below (T7.setTop (mkF m 41 _ [])) t
    refine XS.goto P8.here P8.x rfl (pc0 := 41) (pc' := 3) rfl (hb hby d_comp5_41) (by decide) (by decide) ?_
    exact kk
  show Done _ _ _ _ _ _ _ _ _ _ _ _ _ _ _ T7 (mkF m 3 #[.val (.ref a), .val (.int (2 : Int32)), .val (.ref b), .val (.int ((1 : Int32) + (1 : Int32))), .val (.int (2 : Int32)), .val (.int ((1 : Int32) + (1 : Int32))), .val (.int (f 1))] [])
  show Done _ _ _ _ _ _ _ _ _ _ _ _ _ _ _ T7 (mkF m 3 #[.val (.ref a), .val (.int (2 : Int32)), .val (.ref b), .val (.int (2 : Int32)), .val (.int (2 : Int32)), .val (.int ((1 : Int32) + (1 : Int32))), .val (.int (f 1))] [])
  show Done _ _ _ _ _ _ _ _ _ _ _ _ _ _ _ T7 (mkF m 3 #[.val (.ref a), .val (.int (2 : Int32)), .val (.ref b), .val (.int (2 : Int32)), .val (.int (2 : Int32)), .val (.int (2 : Int32)), .val (.int (f 1))] [])
  refine Done.stepL (pc' := 46) (st' := [(.int (2 : Int32))]) (fun t kk => ?_) ?_
  · show Steps p.tables e below (T7.setTop (mkF m 3 _ [])) t
    refine XS.iload P8.here P8.x rfl (hb hby d_comp5_3) rfl ?_
    show Steps p.tables e below (T7.setTop (mkF m 5 _ [(.int (2 : Int32))])) t
    refine XS.iload P8.here P8.x rfl (hb hby d_comp5_5) rfl ?_
    show Steps p.tables e below (T7.setTop (mkF m 7 _ [(.int (2 : Int32)), (.int (2 : Int32))])) t
    refine XS.icmpYes P8.here P8.x rfl (pc0 := 7) (pc' := 44) rfl (hb hby d_comp5_7) rfl (iiW_ge_t (by decide)) (by decide) (by decide) ?_
    show Steps p.tables e below (T7.setTop (mkF m 44 _ [])) t
    refine XS.iload P8.here P8.x rfl (hb hby d_comp5_44) rfl ?_
    exact kk
  exact wRetI P8 hret (hb hby d_comp5_46) ⟨rfl, _, A11⟩
theorem ef_comp3 (m : MethodId) (x0 : Addr) (x1 : Int32) (x2 : Int32) : entryFrame m #[(.ref x0), (.int x1), (.int x2)] 6 = mkF m 0 #[.val (.ref x0), .val (.int x1), .val (.int x2), .unset, .unset, .unset] [] := by first | (simp [entryFrame, mkF, argsToLocals, Value.category]; done) | rfl
theorem d_comp3_0 : decode jdk_52_method_16_code 0 = .ok (.iload_n 2, 1) := by decide +kernel
theorem d_comp3_1 : decode jdk_52_method_16_code 1 = .ok (.newarray .byte, 2) := by decide +kernel
theorem d_comp3_3 : decode jdk_52_method_16_code 3 = .ok (.astore_n 3, 1) := by decide +kernel
theorem d_comp3_4 : decode jdk_52_method_16_code 4 = .ok (.aload_n 0, 1) := by decide +kernel
theorem d_comp3_5 : decode jdk_52_method_16_code 5 = .ok (.iload_n 1, 1) := by decide +kernel
theorem d_comp3_6 : decode jdk_52_method_16_code 6 = .ok (.aload_n 3, 1) := by decide +kernel
theorem d_comp3_7 : decode jdk_52_method_16_code 7 = .ok (.iconst 0, 1) := by decide +kernel
theorem d_comp3_8 : decode jdk_52_method_16_code 8 = .ok (.iload_n 2, 1) := by decide +kernel
theorem d_comp3_9 : decode jdk_52_method_16_code 9 = .ok (.invokestatic 115, 3) := by decide +kernel
theorem d_comp3_12 : decode jdk_52_method_16_code 12 = .ok (.istore 4, 2) := by decide +kernel
theorem d_comp3_14 : decode jdk_52_method_16_code 14 = .ok (.iload 4, 2) := by decide +kernel
theorem d_comp3_16 : decode jdk_52_method_16_code 16 = .ok (.iload_n 2, 1) := by decide +kernel
theorem d_comp3_17 : decode jdk_52_method_16_code 17 = .ok (.if_icmp .eq 40, 3) := by decide +kernel
theorem d_comp3_57 : decode jdk_52_method_16_code 57 = .ok (.aload_n 3, 1) := by decide +kernel
theorem d_comp3_58 : decode jdk_52_method_16_code 58 = .ok (.areturn, 1) := by decide +kernel
set_option maxRecDepth 65536 in
set_option maxHeartbeats 4000000 in
theorem m_comp3 (l : Launch) (Z : State) (a0 : Array Value) (hw : ∀ d ∈ tables_1, d.before a0 Z = true) (hs : ∀ d ∈ jdkStatics_1, d.before a0 Z = true) (a : Addr) (f : Nat → Int32) (h0 : Heap) (Aa : Ar Z h0 a .char 2 (fun i => .int (f i))) (q0 : ¬ ((255 : Int32) < f 0)) (q1 : ¬ ((255 : Int32) < f 1)) :
    OMet l (⟨"java/lang/StringUTF16", "compress", "([CII)[B"⟩ : MethodName) jdk_52_method_16_code 6 (Option.some (FieldType.array FieldType.byte)) [] ({ frames := 1, cells := 1, slots := 2, locals := 18 } : Room) Z h0 [] #[(.ref a), (.int (0 : Int32)), (.int (2 : Int32))] (fun v h' => ∃ (b : Addr) (g' : Nat → Int32), v = some (.ref b) ∧ h0.size ≤ b ∧ Ar Z h' b .byte 2 (fun i => .int (g' i))) := by
  refine OMet.of (own := "java/lang/StringUTF16") (nm := "compress") pn_12 rfl rfl ?_
  intro p e s m below meth c T0 P0 hby hml hret hnm
  refine Done.step (T' := T0) (g' := (mkF m 0 #[.val (.ref a), .val (.int (0 : Int32)), .val (.int (2 : Int32)), .unset, .unset, .unset] [])) (fun t kk => castTop (ef_comp3 m a (0 : Int32) (2 : Int32)) kk) ?_
  have lta := Aa.ltN
  refine Done.stepL (pc' := 1) (st' := [(.int (2 : Int32))]) (fun t kk => ?_) ?_
  · show Steps p.tables e below (T0.setTop (mkF m 0 _ [])) t
    refine XS.iloadN P0.here P0.x rfl (hb hby d_comp3_0) rfl ?_
    exact kk
  refine wNewA (aty := .byte) P0 (tw111 hw) (hb hby d_comp3_1) rfl (N := 2) rfl (cap := 2) (Nat.le_refl _) (by decide) (by decide) (by decide) (ad := "[B") (by decide) (ty := .byte) (dv := (.int (0 : Int32))) rfl rfl (k' := 1) (n' := 2) rfl rfl (fun T1 h3 b4 g5 lt6 P2 E7 A8 X9 => ?_)
  have ge_b4 : h0.size ≤ b4 := by have := P0.ge; omega
  show Done _ _ _ _ _ _ _ _ _ _ _ _ _ _ _ T1 (mkF m 3 _ [(.ref b4)])
  refine Done.step (T' := T1) (g' := (mkF m 9 #[.val (.ref a), .val (.int (0 : Int32)), .val (.int (2 : Int32)), .val (.ref b4), .unset, .unset] [(.int (2 : Int32)), (.int (0 : Int32)), (.ref b4), (.int (0 : Int32)), (.ref a)])) (fun t kk => ?_) ?_
  · show Steps p.tables e below (T1.setTop (mkF m 3 _ [(.ref b4)])) t
    refine XS.astoreN P2.here P2.x rfl (hb hby d_comp3_3) rfl rfl (l' := #[.val (.ref a), .val (.int (0 : Int32)), .val (.int (2 : Int32)), .val (.ref b4), .unset, .unset]) rfl ?_
    show Steps p.tables e below (T1.setTop (mkF m 4 _ [])) t
    refine XS.aloadN P2.here P2.x rfl (hb hby d_comp3_4) rfl rfl ?_
    show Steps p.tables e below (T1.setTop (mkF m 5 _ [(.ref a)])) t
    refine XS.iloadN P2.here P2.x rfl (hb hby d_comp3_5) rfl ?_
    show Steps p.tables e below (T1.setTop (mkF m 6 _ [(.int (0 : Int32)), (.ref a)])) t
    refine XS.aloadN P2.here P2.x rfl (hb hby d_comp3_6) rfl rfl ?_
    show Steps p.tables e below (T1.setTop (mkF m 7 _ [(.ref b4), (.int (0 : Int32)), (.ref a)])) t
    refine XS.iconst P2.here P2.x rfl (hb hby d_comp3_7) ?_
    show Steps p.tables e below (T1.setTop (mkF m 8 _ [(.int (0 : Int32)), (.ref b4), (.int (0 : Int32)), (.ref a)])) t
    refine XS.iloadN P2.here P2.x rfl (hb hby d_comp3_8) rfl ?_
    exact kk
  have f14 := (Aa.ext E7)
  refine wCallS P2 (m_comp5 l Z a0 hw hs a b4 f (fun _ => (0 : Int32)) h3 f14 q0 q1 A8 (by first | assumption | exact Ne.symm (by assumption) | exact adr_ne (by omega) | omega)) (tw112 hw) (tw113 hw) (tw109 hw) (tw114 hw) (by decide) (by rw [hml]; rfl) (lenOf pd_4 rfl) (argsL := [(.ref a), (.int (0 : Int32)), (.ref b4), (.int (0 : Int32)), (.int (2 : Int32))]) (rest := []) rfl rfl (W := 0) (Nat.le_of_eq rfl) (by decide) (by decide) (by decide) (by decide) (allS (Or.inr ge_b4) all0) (hb hby d_comp3_9) rfl (k' := 1) (n' := 2) rfl rfl ?_
  rintro T10 h15 _ P11 K16 ⟨rfl, g13, A12⟩
  have szh15 : h3.size ≤ h15.size := K16.1
  show Done _ _ _ _ _ _ _ _ _ _ _ _ _ _ _ T10 (mkF m 12 _ [(.int (2 : Int32))])
  refine Done.step (T' := T10) (g' := (mkF m 58 #[.val (.ref a), .val (.int (0 : Int32)), .val (.int (2 : Int32)), .val (.ref b4), .val (.int (2 : Int32)), .unset] [(.ref b4)])) (fun t kk => ?_) ?_
  · show Steps p.tables e below (T10.setTop (mkF m 12 _ [(.int (2 : Int32))])) t
    refine XS.istore P11.here P11.x rfl (hb hby d_comp3_12) rfl (l' := #[.val (.ref a), .val (.int (0 : Int32)), .val (.int (2 : Int32)), .val (.ref b4), .val (.int (2 : Int32)), .unset]) rfl ?_
    show Steps p.tables e below (T10.setTop (mkF m 14 _ [])) t
    refine XS.iload P11.here P11.x rfl (hb hby d_comp3_14) rfl ?_
    show Steps p.tables e below (T10.setTop (mkF m 16 _ [(.int (2 : Int32))])) t
    refine XS.iloadN P11.here P11.x rfl (hb hby d_comp3_16) rfl ?_
    show Steps p.tables e below (T10.setTop (mkF m 17 _ [(.int (2 : Int32)), (.int (2 : Int32))])) t
    refine XS.icmpYes P11.here P11.x rfl (pc0 := 17) (pc' := 57) rfl (hb hby d_comp3_17) rfl (iiW_eq_t (by decide)) (by decide) (by decide) ?_
    show Steps p.tables e below (T10.setTop (mkF m 57 _ [])) t
    refine XS.aloadN P11.here P11.x rfl (hb hby d_comp3_57) rfl rfl ?_
    exact kk
  exact wRetA P11 hret rfl rfl (hb hby d_comp3_58) ⟨b4, _, rfl, ge_b4, A12⟩
theorem ef_coder (m : MethodId) (x0 : Addr) (x1 : Int32) : entryFrame m #[(.ref x0), (.int x1)] 2 = mkF m 0 #[.val (.ref x0), .val (.int x1)] [] := by first | (simp [entryFrame, mkF, argsToLocals, Value.category]; done) | rfl
theorem d_coder_0 : decode jdk_52_method_15_code 0 = .ok (.iload_n 1, 1) := by decide +kernel
theorem d_coder_1 : decode jdk_52_method_15_code 1 = .ok (.aload_n 0, 1) := by decide +kernel
theorem d_coder_2 : decode jdk_52_method_15_code 2 = .ok (.arraylength, 1) := by decide +kernel
theorem d_coder_3 : decode jdk_52_method_15_code 3 = .ok (.isub, 1) := by decide +kernel
theorem d_coder_4 : decode jdk_52_method_15_code 4 = .ok (.bipush 31, 2) := by decide +kernel
theorem d_coder_6 : decode jdk_52_method_15_code 6 = .ok (.iushr, 1) := by decide +kernel
theorem d_coder_7 : decode jdk_52_method_15_code 7 = .ok (.i2b, 1) := by decide +kernel
theorem d_coder_8 : decode jdk_52_method_15_code 8 = .ok (.ireturn, 1) := by decide +kernel
set_option maxRecDepth 65536 in
set_option maxHeartbeats 4000000 in
theorem m_coder (l : Launch) (Z : State) (a0 : Array Value) (hw : ∀ d ∈ tables_1, d.before a0 Z = true) (hs : ∀ d ∈ jdkStatics_1, d.before a0 Z = true) (a : Addr) (gb : Nat → Int32) (h0 : Heap) (Ab : Ar Z h0 a .byte 2 (fun i => .int (gb i))) :
    OMet l (⟨"java/lang/StringUTF16", "coderFromArrayLen", "([BI)B"⟩ : MethodName) jdk_52_method_15_code 2 (Option.some FieldType.byte) [] ({ frames := 0, cells := 0, slots := 0, locals := 0 } : Room) Z h0 [] #[(.ref a), (.int (2 : Int32))] (fun v h' => ∃ x : Int32, v = some (.int x) ∧ h0 = h') := by
  refine OMet.of (own := "java/lang/StringUTF16") (nm := "coderFromArrayLen") pn_13 rfl rfl ?_
  intro p e s m below meth c T0 P0 hby hml hret hnm
  refine Done.step (T' := T0) (g' := (mkF m 0 #[.val (.ref a), .val (.int (2 : Int32))] [])) (fun t kk => castTop (ef_coder m a (2 : Int32)) kk) ?_
  refine Done.stepL (pc' := 2) (st' := [(.ref a), (.int (2 : Int32))]) (fun t kk => ?_) ?_
  · show Steps p.tables e below (T0.setTop (mkF m 0 _ [])) t
    refine XS.iloadN P0.here P0.x rfl (hb hby d_coder_0) rfl ?_
    show Steps p.tables e below (T0.setTop (mkF m 1 _ [(.int (2 : Int32))])) t
    refine XS.aloadN P0.here P0.x rfl (hb hby d_coder_1) rfl rfl ?_
    exact kk
  refine wLen P0 Ab (z := (2 : Int32)) rfl (hb hby d_coder_2) rfl ?_
  show Done _ _ _ _ _ _ _ _ _ _ _ _ _ _ _ T0 (mkF m 3 _ [(.int (2 : Int32)), (.int (2 : Int32))])
  refine Done.stepL (pc' := 8) (st' := [(.int ((((2 : Int32) - (2 : Int32)).toUInt32 >>> ((31 : Int32) &&& 31).toUInt32).toInt32).toInt8.toInt32)]) (fun t kk => ?_) ?_
  · show Steps p.tables e below (T0.setTop (mkF m 3 _ [(.int (2 : Int32)), (.int (2 : Int32))])) t
    refine XS.isub P0.here P0.x rfl (hb hby d_coder_3) rfl ?_
    show Steps p.tables e below (T0.setTop (mkF m 4 _ [(.int ((2 : Int32) - (2 : Int32)))])) t
    refine XS.bipush P0.here P0.x rfl (hb hby d_coder_4) ?_
    show Steps p.tables e below (T0.setTop (mkF m 6 _ [(.int (31 : Int32)), (.int ((2 : Int32) - (2 : Int32)))])) t
    refine XS.iushr P0.here P0.x rfl (hb hby d_coder_6) rfl ?_
    show Steps p.tables e below (T0.setTop (mkF m 7 _ [(.int ((((2 : Int32) - (2 : Int32)).toUInt32 >>> ((31 : Int32) &&& 31).toUInt32).toInt32))])) t
    refine XS.i2b P0.here P0.x rfl (hb hby d_coder_7) rfl ?_
    exact kk
  exact wRetN P0 (t := .byte) hret (by simp) (hb hby d_coder_8) ⟨_, rfl, rfl⟩
theorem ef_str4 (m : MethodId) (x0 : Addr) (x1 : Addr) (x2 : Int32) (x3 : Int32) : entryFrame m #[(.ref x0), (.ref x1), (.int x2), (.int x3), .null] 6 = mkF m 0 #[.val (.ref x0), .val (.ref x1), .val (.int x2), .val (.int x3), .val .null, .unset] [] := by first | (simp [entryFrame, mkF, argsToLocals, Value.category]; done) | rfl
theorem d_str4_0 : decode jdk_42_method_149_code 0 = .ok (.aload_n 0, 1) := by decide +kernel
theorem d_str4_1 : decode jdk_42_method_149_code 1 = .ok (.invokespecial 1, 3) := by decide +kernel
theorem d_str4_4 : decode jdk_42_method_149_code 4 = .ok (.iload_n 3, 1) := by decide +kernel
theorem d_str4_5 : decode jdk_42_method_149_code 5 = .ok (.ifCond .ne 22, 3) := by decide +kernel
theorem d_str4_27 : decode jdk_42_method_149_code 27 = .ok (.getstatic 38, 3) := by decide +kernel
theorem d_str4_30 : decode jdk_42_method_149_code 30 = .ok (.ifCond .eq 28, 3) := by decide +kernel
theorem d_str4_33 : decode jdk_42_method_149_code 33 = .ok (.aload_n 1, 1) := by decide +kernel
theorem d_str4_34 : decode jdk_42_method_149_code 34 = .ok (.iload_n 2, 1) := by decide +kernel
theorem d_str4_35 : decode jdk_42_method_149_code 35 = .ok (.iload_n 3, 1) := by decide +kernel
theorem d_str4_36 : decode jdk_42_method_149_code 36 = .ok (.invokestatic 177, 3) := by decide +kernel
theorem d_str4_39 : decode jdk_42_method_149_code 39 = .ok (.astore 5, 2) := by decide +kernel
theorem d_str4_41 : decode jdk_42_method_149_code 41 = .ok (.aload_n 0, 1) := by decide +kernel
theorem d_str4_42 : decode jdk_42_method_149_code 42 = .ok (.aload 5, 2) := by decide +kernel
theorem d_str4_44 : decode jdk_42_method_149_code 44 = .ok (.iload_n 3, 1) := by decide +kernel
theorem d_str4_45 : decode jdk_42_method_149_code 45 = .ok (.invokestatic 47, 3) := by decide +kernel
theorem d_str4_48 : decode jdk_42_method_149_code 48 = .ok (.putfield 15, 3) := by decide +kernel
theorem d_str4_51 : decode jdk_42_method_149_code 51 = .ok (.aload_n 0, 1) := by decide +kernel
theorem d_str4_52 : decode jdk_42_method_149_code 52 = .ok (.aload 5, 2) := by decide +kernel
theorem d_str4_54 : decode jdk_42_method_149_code 54 = .ok (.putfield 9, 3) := by decide +kernel
theorem d_str4_57 : decode jdk_42_method_149_code 57 = .ok (.return_, 1) := by decide +kernel
set_option maxRecDepth 65536 in
set_option maxHeartbeats 4000000 in
theorem m_str4 (l : Launch) (Z : State) (a0 : Array Value) (hw : ∀ d ∈ tables_1, d.before a0 Z = true) (hs : ∀ d ∈ jdkStatics_1, d.before a0 Z = true) (z a : Addr) (f : Nat → Int32) (cs : Int32) (h0 : Heap) (E0 : Exa Z h0 z "java/lang/String") (F1 : Fld Z h0 z "java/lang/String" "value" "[B" .null) (F2 : Fld Z h0 z "java/lang/String" "coder" "B" (.int 0)) (nza : z ≠ a) (Aa : Ar Z h0 a .char 2 (fun i => .int (f i))) (q0 : ¬ ((255 : Int32) < f 0)) (q1 : ¬ ((255 : Int32) < f 1)) (S0 : Sta Z h0 "java/lang/String" "COMPACT_STRINGS" "Z" (.int cs)) (hcs : ¬ (cs = (0 : Int32))) :
    OMet l (⟨"java/lang/String", "<init>", "([CIILjava/lang/Void;)V"⟩ : MethodName) jdk_42_method_149_code 6 (Option.none : Option FieldType) [] ({ frames := 2, cells := 1, slots := 2, locals := 35 } : Room) Z h0 [z] #[(.ref z), (.ref a), (.int (0 : Int32)), (.int (2 : Int32)), .null] (fun v h' => v = none) := by
  refine OMet.of (own := "java/lang/String") (nm := "<init>") pn_14 rfl rfl ?_
  intro p e s m below meth c T0 P0 hby hml hret hnm
  refine Done.step (T' := T0) (g' := (mkF m 0 #[.val (.ref z), .val (.ref a), .val (.int (0 : Int32)), .val (.int (2 : Int32)), .val .null, .unset] [])) (fun t kk => castTop (ef_str4 m z a (0 : Int32) (2 : Int32)) kk) ?_
  have lta := Aa.ltN
  have ltz := exaN E0
  refine Done.stepL (pc' := 1) (st' := [(.ref z)]) (fun t kk => ?_) ?_
  · show Steps p.tables e below (T0.setTop (mkF m 0 _ [])) t
    refine XS.aloadN P0.here P0.x rfl (hb hby d_str4_0) rfl rfl ?_
    exact kk
  refine wInit P0 (tw105 hw) (tw29 hw) (tw30 hw) (by rw [hml]; rfl) (hb hby d_str4_1) (by decide) (W := 0) (Nat.le_of_eq rfl) (by decide) rfl (fun T1 P2 => ?_)
  show Done _ _ _ _ _ _ _ _ _ _ _ _ _ _ _ T1 (mkF m 4 _ [])
  refine Done.stepL (pc' := 27) (st' := []) (fun t kk => ?_) ?_
  · show Steps p.tables e below (T1.setTop (mkF m 4 _ [])) t
    refine XS.iloadN P2.here P2.x rfl (hb hby d_str4_4) rfl ?_
    show Steps p.tables e below (T1.setTop (mkF m 5 _ [(.int (2 : Int32))])) t
    refine XS.ifYes P2.here P2.x rfl (pc0 := 5) (pc' := 27) rfl (hb hby d_str4_5) rfl (i0W_ne_t (by decide)) (by decide) (by decide) ?_
    exact kk
  refine wGetS P2 (host := "") (Or.inl (tw106 hw)) Via.refl S0 (hb hby d_str4_27) rfl (fun T3 P4 => ?_)
  show Done _ _ _ _ _ _ _ _ _ _ _ _ _ _ _ T3 (mkF m 30 _ [(.int cs)])
  refine Done.stepL (pc' := 36) (st' := [(.int (2 : Int32)), (.int (0 : Int32)), (.ref a)]) (fun t kk => ?_) ?_
  · show Steps p.tables e below (T3.setTop (mkF m 30 _ [(.int cs)])) t
    refine XS.ifNo P4.here P4.x rfl (hb hby d_str4_30) rfl (i0W_eq_f hcs) ?_
    show Steps p.tables e below (T3.setTop (mkF m 33 _ [])) t
    refine XS.aloadN P4.here P4.x rfl (hb hby d_str4_33) rfl rfl ?_
    show Steps p.tables e below (T3.setTop (mkF m 34 _ [(.ref a)])) t
    refine XS.iloadN P4.here P4.x rfl (hb hby d_str4_34) rfl ?_
    show Steps p.tables e below (T3.setTop (mkF m 35 _ [(.int (0 : Int32)), (.ref a)])) t
    refine XS.iloadN P4.here P4.x rfl (hb hby d_str4_35) rfl ?_
    exact kk
  refine wCallS P4 (m_comp3 l Z a0 hw hs a f h0 Aa q0 q1) (tw107 hw) (tw108 hw) (tw109 hw) (tw110 hw) (by decide) (by rw [hml]; rfl) (lenOf pd_5 rfl) (argsL := [(.ref a), (.int (0 : Int32)), (.int (2 : Int32))]) (rest := []) rfl rfl (W := 0) (Nat.le_of_eq rfl) (by decide) (by decide) (by decide) (by decide) (by simp) (hb hby d_str4_36) rfl (k' := 1) (n' := 2) rfl rfl ?_
  rintro T5 h11 _ P6 K12 ⟨b7, g8, rfl, ge9, A10⟩
  have szh11 : h0.size ≤ h11.size := K12.1
  show Done _ _ _ _ _ _ _ _ _ _ _ _ _ _ _ T5 (mkF m 39 _ [(.ref b7)])
  refine Done.step (T' := T5) (g' := (mkF m 45 #[.val (.ref z), .val (.ref a), .val (.int (0 : Int32)), .val (.int (2 : Int32)), .val .null, .val (.ref b7)] [(.int (2 : Int32)), (.ref b7), (.ref z)])) (fun t kk => ?_) ?_
  · show Steps p.tables e below (T5.setTop (mkF m 39 _ [(.ref b7)])) t
    refine XS.astore P6.here P6.x rfl (hb hby d_str4_39) rfl rfl (l' := #[.val (.ref z), .val (.ref a), .val (.int (0 : Int32)), .val (.int (2 : Int32)), .val .null, .val (.ref b7)]) rfl ?_
    show Steps p.tables e below (T5.setTop (mkF m 41 _ [])) t
    refine XS.aloadN P6.here P6.x rfl (hb hby d_str4_41) rfl rfl ?_
    show Steps p.tables e below (T5.setTop (mkF m 42 _ [(.ref z)])) t
    refine XS.aload P6.here P6.x rfl (hb hby d_str4_42) rfl rfl ?_
    show Steps p.tables e below (T5.setTop (mkF m 44 _ [(.ref b7), (.ref z)])) t
    refine XS.iloadN P6.here P6.x rfl (hb hby d_str4_44) rfl ?_
    exact kk
  refine wCallS P6 (m_coder l Z a0 hw hs b7 g8 h11 A10) (tw115 hw) (tw116 hw) (tw109 hw) (tw117 hw) (by decide) (by rw [hml]; rfl) (lenOf pd_6 rfl) (argsL := [(.ref b7), (.int (2 : Int32))]) (rest := [(.ref z)]) rfl rfl (W := 1) (Nat.le_of_eq rfl) (by decide) (by decide) (by decide) (by decide) (by simp) (hb hby d_str4_45) rfl (k' := 1) (n' := 2) rfl rfl ?_
  rintro T13 _ _ P14 - ⟨x15, rfl, rfl⟩
  show Done _ _ _ _ _ _ _ _ _ _ _ _ _ _ _ T13 (mkF m 48 _ [(.int x15), (.ref z)])
  have f16 := (F2.keep K12 nin0)
  have f17 := (E0.keep K12)
  refine wPutN P14 (tw118 hw) Via.refl f16 f17 (Or.inr ⟨(tw119 hw), rfl, hnm⟩) (tw96 hw) (ty := .byte) (by decide) (x' := x15.toInt8.toInt32) rfl (fits_nar_byte _) (Or.inl (by simp)) (hb hby d_str4_48) rfl (fun T18 h20 P19 W21 F22 => ?_)
  have szh20 : h20.size = h11.size := W21.size
  show Done _ _ _ _ _ _ _ _ _ _ _ _ _ _ _ T18 (mkF m 51 _ [])
  refine Done.stepL (pc' := 54) (st' := [(.ref b7), (.ref z)]) (fun t kk => ?_) ?_
  · show Steps p.tables e below (T18.setTop (mkF m 51 _ [])) t
    refine XS.aloadN P19.here P19.x rfl (hb hby d_str4_51) rfl rfl ?_
    show Steps p.tables e below (T18.setTop (mkF m 52 _ [(.ref z)])) t
    refine XS.aload P19.here P19.x rfl (hb hby d_str4_52) rfl rfl ?_
    exact kk
  have f23 := ((F1.keep K12 nin0).other W21 (Or.inr (slot_ne (Or.inr (tw121 hw)) (Or.inr (tw119 hw)) (by decide) (t := (.array .byte)) (t' := .byte) (by decide) (by decide))))
  have f24 := (f17.wr W21)
  refine wPut P19 (host := "") (Or.inl (tw120 hw)) Via.refl f23 f24 (Or.inr ⟨(tw121 hw), rfl, hnm⟩) (tw96 hw) (ty := (.array .byte)) (by decide) rfl rfl (Or.inl (by simp)) (hb hby d_str4_54) rfl (fun T25 h27 P26 W28 F29 => ?_)
  have szh27 : h27.size = h20.size := W28.size
  show Done _ _ _ _ _ _ _ _ _ _ _ _ _ _ _ T25 (mkF m 57 _ [])
  exact wRetV P26 hret (hb hby d_str4_57) rfl
theorem ef_str1 (m : MethodId) (x0 : Addr) (x1 : Addr) : entryFrame m #[(.ref x0), (.ref x1)] 2 = mkF m 0 #[.val (.ref x0), .val (.ref x1)] [] := by first | (simp [entryFrame, mkF, argsToLocals, Value.category]; done) | rfl
theorem d_str1_0 : decode jdk_42_method_3_code 0 = .ok (.aload_n 0, 1) := by decide +kernel
theorem d_str1_1 : decode jdk_42_method_3_code 1 = .ok (.aload_n 1, 1) := by decide +kernel
theorem d_str1_2 : decode jdk_42_method_3_code 2 = .ok (.iconst 0, 1) := by decide +kernel
theorem d_str1_3 : decode jdk_42_method_3_code 3 = .ok (.aload_n 1, 1) := by decide +kernel
theorem d_str1_4 : decode jdk_42_method_3_code 4 = .ok (.arraylength, 1) := by decide +kernel
theorem d_str1_5 : decode jdk_42_method_3_code 5 = .ok (.aconst_null, 1) := by decide +kernel
theorem d_str1_6 : decode jdk_42_method_3_code 6 = .ok (.invokespecial 27, 3) := by decide +kernel
theorem d_str1_9 : decode jdk_42_method_3_code 9 = .ok (.return_, 1) := by decide +kernel
set_option maxRecDepth 65536 in
set_option maxHeartbeats 4000000 in
theorem m_str1 (l : Launch) (Z : State) (a0 : Array Value) (hw : ∀ d ∈ tables_1, d.before a0 Z = true) (hs : ∀ d ∈ jdkStatics_1, d.before a0 Z = true) (z a : Addr) (f : Nat → Int32) (cs : Int32) (h0 : Heap) (E0 : Exa Z h0 z "java/lang/String") (F1 : Fld Z h0 z "java/lang/String" "value" "[B" .null) (F2 : Fld Z h0 z "java/lang/String" "coder" "B" (.int 0)) (nza : z ≠ a) (Aa : Ar Z h0 a .char 2 (fun i => .int (f i))) (q0 : ¬ ((255 : Int32) < f 0)) (q1 : ¬ ((255 : Int32) < f 1)) (S0 : Sta Z h0 "java/lang/String" "COMPACT_STRINGS" "Z" (.int cs)) (hcs : ¬ (cs = (0 : Int32))) :
    OMet l (⟨"java/lang/String", "<init>", "([C)V"⟩ : MethodName) jdk_42_method_3_code 2 (Option.none : Option FieldType) [] ({ frames := 3, cells := 1, slots := 2, locals := 52 } : Room) Z h0 [z] #[(.ref z), (.ref a)] (fun v h' => v = none) := by
  refine OMet.of (own := "java/lang/String") (nm := "<init>") pn_15 rfl rfl ?_
  intro p e s m below meth c T0 P0 hby hml hret hnm
  refine Done.step (T' := T0) (g' := (mkF m 0 #[.val (.ref z), .val (.ref a)] [])) (fun t kk => castTop (ef_str1 m z a) kk) ?_
  have lta := Aa.ltN
  have ltz := exaN E0
  refine Done.stepL (pc' := 4) (st' := [(.ref a), (.int (0 : Int32)), (.ref a), (.ref z)]) (fun t kk => ?_) ?_
  · show Steps p.tables e below (T0.setTop (mkF m 0 _ [])) t
    refine XS.aloadN P0.here P0.x rfl (hb hby d_str1_0) rfl rfl ?_
    show Steps p.tables e below (T0.setTop (mkF m 1 _ [(.ref z)])) t
    refine XS.aloadN P0.here P0.x rfl (hb hby d_str1_1) rfl rfl ?_
    show Steps p.tables e below (T0.setTop (mkF m 2 _ [(.ref a), (.ref z)])) t
    refine XS.iconst P0.here P0.x rfl (hb hby d_str1_2) ?_
    show Steps p.tables e below (T0.setTop (mkF m 3 _ [(.int (0 : Int32)), (.ref a), (.ref z)])) t
    refine XS.aloadN P0.here P0.x rfl (hb hby d_str1_3) rfl rfl ?_
    exact kk
  refine wLen P0 Aa (z := (2 : Int32)) rfl (hb hby d_str1_4) rfl ?_
  show Done _ _ _ _ _ _ _ _ _ _ _ _ _ _ _ T0 (mkF m 5 _ [(.int (2 : Int32)), (.int (0 : Int32)), (.ref a), (.ref z)])
  refine Done.stepL (pc' := 6) (st' := [.null, (.int (2 : Int32)), (.int (0 : Int32)), (.ref a), (.ref z)]) (fun t kk => ?_) ?_
  · show Steps p.tables e below (T0.setTop (mkF m 5 _ [(.int (2 : Int32)), (.int (0 : Int32)), (.ref a), (.ref z)])) t
    refine XS.aconstNull P0.here P0.x rfl (hb hby d_str1_5) ?_
    exact kk
  refine wCallI P0 (m_str4 l Z a0 hw hs z a f cs h0 E0 F1 F2 (by first | assumption | exact Ne.symm (by assumption) | exact adr_ne (by omega) | omega) Aa q0 q1 S0 hcs) rfl (tw101 hw) (tw102 hw) (tw97 hw) (tw104 hw) (by decide) (a := z) (by rw [hml]; rfl) (lenOf pd_7 rfl) (argsL := [(.ref a), (.int (0 : Int32)), (.int (2 : Int32)), .null]) (rest := []) rfl rfl (W := 0) (Nat.le_of_eq rfl) (by decide) (by decide) (by decide) (by decide) (allS (Or.inl (by simp)) all0) (hb hby d_str1_6) rfl (k' := 1) (n' := 2) rfl rfl ?_
  rintro T1 h3 _ P2 K4 rfl
  have szh3 : h0.size ≤ h3.size := K4.1
  show Done _ _ _ _ _ _ _ _ _ _ _ _ _ _ _ T1 (mkF m 9 _ [])
  exact wRetV P2 hret (hb hby d_str1_9) rfl
theorem ef_isNull (m : MethodId)  : entryFrame m #[.null] 1 = mkF m 0 #[.val .null] [] := by first | (simp [entryFrame, mkF, argsToLocals, Value.category]; done) | rfl
theorem d_isNull_0 : decode prog_41_method_10_code 0 = .ok (.aload_n 0, 1) := by decide +kernel
theorem d_isNull_1 : decode prog_41_method_10_code 1 = .ok (.getstatic 103, 3) := by decide +kernel
theorem d_isNull_4 : decode prog_41_method_10_code 4 = .ok (.if_acmp .eq 10, 3) := by decide +kernel
theorem d_isNull_7 : decode prog_41_method_10_code 7 = .ok (.aload_n 0, 1) := by decide +kernel
theorem d_isNull_8 : decode prog_41_method_10_code 8 = .ok (.instanceof 120, 3) := by decide +kernel
theorem d_isNull_11 : decode prog_41_method_10_code 11 = .ok (.ifCond .eq 7, 3) := by decide +kernel
theorem d_isNull_18 : decode prog_41_method_10_code 18 = .ok (.iconst 0, 1) := by decide +kernel
theorem d_isNull_19 : decode prog_41_method_10_code 19 = .ok (.ireturn, 1) := by decide +kernel
set_option maxRecDepth 65536 in
set_option maxHeartbeats 4000000 in
theorem m_isNull (l : Launch) (Z : State) (a0 : Array Value) (hw : ∀ d ∈ tables_1, d.before a0 Z = true) (hs : ∀ d ∈ jdkStatics_1, d.before a0 Z = true) (ub : Addr) (h0 : Heap) (S1 : Sta Z h0 "kindlewood/Variables" "UNBOXED" "Ljava/lang/Object;" (.ref ub)) :
    OMet l (⟨"kindlewood/Interpreter", "isNumber", "(Ljava/lang/Object;)Z"⟩ : MethodName) prog_41_method_10_code 1 (Option.some FieldType.boolean) [] ({ frames := 0, cells := 0, slots := 0, locals := 0 } : Room) Z h0 [] #[.null] (fun v h' => v = some (.int 0) ∧ h0 = h') := by
  refine OMet.of (own := "kindlewood/Interpreter") (nm := "isNumber") (plainFor_of_name pn_16) rfl rfl ?_
  intro p e s m below meth c T0 P0 hby hml hret hnm
  refine Done.step (T' := T0) (g' := (mkF m 0 #[.val .null] [])) (fun t kk => castTop (ef_isNull m ) kk) ?_
  refine Done.stepL (pc' := 1) (st' := [.null]) (fun t kk => ?_) ?_
  · show Steps p.tables e below (T0.setTop (mkF m 0 _ [])) t
    refine XS.aloadN P0.here P0.x rfl (hb hby d_isNull_0) rfl rfl ?_
    exact kk
  refine wGetS P0 (host := "") (Or.inl (tw9 hw)) Via.refl S1 (hb hby d_isNull_1) rfl (fun T1 P2 => ?_)
  show Done _ _ _ _ _ _ _ _ _ _ _ _ _ _ _ T1 (mkF m 4 _ [(.ref ub), .null])
  refine Done.stepL (pc' := 8) (st' := [.null]) (fun t kk => ?_) ?_
  · show Steps p.tables e below (T1.setTop (mkF m 4 _ [(.ref ub), .null])) t
    refine pAcmp P2 rfl rfl (pc0 := 4) (pc' := 7) (same := false) rfl (hb hby d_isNull_4) rfl (decide_eq_false nofun) (by decide) (by decide) ?_
    show Steps p.tables e below (T1.setTop (mkF m 7 _ [])) t
    refine XS.aloadN P2.here P2.x rfl (hb hby d_isNull_7) rfl rfl ?_
    exact kk
  refine wInst0 P2 (hb hby d_isNull_8) rfl ?_
  show Done _ _ _ _ _ _ _ _ _ _ _ _ _ _ _ T1 (mkF m 11 _ [(.int (0 : Int32))])
  refine Done.stepL (pc' := 19) (st' := [(.int (0 : Int32))]) (fun t kk => ?_) ?_
  · show Steps p.tables e below (T1.setTop (mkF m 11 _ [(.int (0 : Int32))])) t
    refine XS.ifYes P2.here P2.x rfl (pc0 := 11) (pc' := 18) rfl (hb hby d_isNull_11) rfl (i0W_eq_t (by decide)) (by decide) (by decide) ?_
    show Steps p.tables e below (T1.setTop (mkF m 18 _ [])) t
    refine XS.iconst P2.here P2.x rfl (hb hby d_isNull_18) ?_
    exact kk
  exact wRet P2 (t := .boolean) hret (narrow_01 (Or.inl rfl)) (Or.inl ⟨rfl, Or.inr (Or.inl rfl), _, rfl⟩) (hb hby d_isNull_19) ⟨rfl, rfl⟩
theorem ef_isUb (m : MethodId) (x0 : Addr) : entryFrame m #[(.ref x0)] 1 = mkF m 0 #[.val (.ref x0)] [] := by first | (simp [entryFrame, mkF, argsToLocals, Value.category]; done) | rfl
theorem d_isUb_0 : decode prog_41_method_10_code 0 = .ok (.aload_n 0, 1) := by decide +kernel
theorem d_isUb_1 : decode prog_41_method_10_code 1 = .ok (.getstatic 103, 3) := by decide +kernel
theorem d_isUb_4 : decode prog_41_method_10_code 4 = .ok (.if_acmp .eq 10, 3) := by decide +kernel
theorem d_isUb_14 : decode prog_41_method_10_code 14 = .ok (.iconst 1, 1) := by decide +kernel
theorem d_isUb_15 : decode prog_41_method_10_code 15 = .ok (.goto 4, 3) := by decide +kernel
theorem d_isUb_19 : decode prog_41_method_10_code 19 = .ok (.ireturn, 1) := by decide +kernel
set_option maxRecDepth 65536 in
set_option maxHeartbeats 4000000 in
theorem m_isUb (l : Launch) (Z : State) (a0 : Array Value) (hw : ∀ d ∈ tables_1, d.before a0 Z = true) (hs : ∀ d ∈ jdkStatics_1, d.before a0 Z = true) (ub : Addr) (h0 : Heap) (S1 : Sta Z h0 "kindlewood/Variables" "UNBOXED" "Ljava/lang/Object;" (.ref ub)) :
    OMet l (⟨"kindlewood/Interpreter", "isNumber", "(Ljava/lang/Object;)Z"⟩ : MethodName) prog_41_method_10_code 1 (Option.some FieldType.boolean) [] ({ frames := 0, cells := 0, slots := 0, locals := 0 } : Room) Z h0 [] #[(.ref ub)] (fun v h' => v = some (.int 1) ∧ h0 = h') := by
  refine OMet.of (own := "kindlewood/Interpreter") (nm := "isNumber") (plainFor_of_name pn_16) rfl rfl ?_
  intro p e s m below meth c T0 P0 hby hml hret hnm
  refine Done.step (T' := T0) (g' := (mkF m 0 #[.val (.ref ub)] [])) (fun t kk => castTop (ef_isUb m ub) kk) ?_
  refine Done.stepL (pc' := 1) (st' := [(.ref ub)]) (fun t kk => ?_) ?_
  · show Steps p.tables e below (T0.setTop (mkF m 0 _ [])) t
    refine XS.aloadN P0.here P0.x rfl (hb hby d_isUb_0) rfl rfl ?_
    exact kk
  refine wGetS P0 (host := "") (Or.inl (tw9 hw)) Via.refl S1 (hb hby d_isUb_1) rfl (fun T1 P2 => ?_)
  show Done _ _ _ _ _ _ _ _ _ _ _ _ _ _ _ T1 (mkF m 4 _ [(.ref ub), (.ref ub)])
  refine Done.stepL (pc' := 19) (st' := [(.int (1 : Int32))]) (fun t kk => ?_) ?_
  · show Steps p.tables e below (T1.setTop (mkF m 4 _ [(.ref ub), (.ref ub)])) t
    refine pAcmp P2 rfl rfl (pc0 := 4) (pc' := 14) (same := true) rfl (hb hby d_isUb_4) rfl (decide_eq_true rfl) (by decide) (by decide) ?_
    show Steps p.tables e below (T1.setTop (mkF m 14 _ [])) t
    refine XS.iconst P2.here P2.x rfl (hb hby d_isUb_14) ?_
    show Steps p.tables e below (T1.setTop (mkF m 15 _ [(.int (1 : Int32))])) t
    refine XS.goto P2.here P2.x rfl (pc0 := 15) (pc' := 19) rfl (hb hby d_isUb_15) (by decide) (by decide) ?_
    exact kk
  exact wRet P2 (t := .boolean) hret (narrow_01 (Or.inr rfl)) (Or.inl ⟨rfl, Or.inr (Or.inl rfl), _, rfl⟩) (hb hby d_isUb_19) ⟨rfl, rfl⟩
theorem ef_isNo (m : MethodId) (x0 : Addr) : entryFrame m #[(.ref x0)] 1 = mkF m 0 #[.val (.ref x0)] [] := by first | (simp [entryFrame, mkF, argsToLocals, Value.category]; done) | rfl
theorem d_isNo_0 : decode prog_41_method_10_code 0 = .ok (.aload_n 0, 1) := by decide +kernel
theorem d_isNo_1 : decode prog_41_method_10_code 1 = .ok (.getstatic 103, 3) := by decide +kernel
theorem d_isNo_4 : decode prog_41_method_10_code 4 = .ok (.if_acmp .eq 10, 3) := by decide +kernel
theorem d_isNo_7 : decode prog_41_method_10_code 7 = .ok (.aload_n 0, 1) := by decide +kernel
theorem d_isNo_8 : decode prog_41_method_10_code 8 = .ok (.instanceof 120, 3) := by decide +kernel
theorem d_isNo_11 : decode prog_41_method_10_code 11 = .ok (.ifCond .eq 7, 3) := by decide +kernel
theorem d_isNo_18 : decode prog_41_method_10_code 18 = .ok (.iconst 0, 1) := by decide +kernel
theorem d_isNo_19 : decode prog_41_method_10_code 19 = .ok (.ireturn, 1) := by decide +kernel
set_option maxRecDepth 65536 in
set_option maxHeartbeats 4000000 in
theorem m_isNo (l : Launch) (Z : State) (a0 : Array Value) (hw : ∀ d ∈ tables_1, d.before a0 Z = true) (hs : ∀ d ∈ jdkStatics_1, d.before a0 Z = true) (b ub : Addr) (C : String) (h0 : Heap) (S1 : Sta Z h0 "kindlewood/Variables" "UNBOXED" "Ljava/lang/Object;" (.ref ub)) (E0 : Exa Z h0 b C) (hno : ∃ c t, Z.vm.findClass C = some c ∧ Z.vm.findClass "java/lang/Double" = some t ∧ Z.vm.assignable c t = false) (hne : b ≠ ub) :
    OMet l (⟨"kindlewood/Interpreter", "isNumber", "(Ljava/lang/Object;)Z"⟩ : MethodName) prog_41_method_10_code 1 (Option.some FieldType.boolean) [] ({ frames := 0, cells := 0, slots := 0, locals := 0 } : Room) Z h0 [] #[(.ref b)] (fun v h' => v = some (.int 0) ∧ h0 = h') := by
  refine OMet.of (own := "kindlewood/Interpreter") (nm := "isNumber") (plainFor_of_name pn_16) rfl rfl ?_
  intro p e s m below meth c T0 P0 hby hml hret hnm
  refine Done.step (T' := T0) (g' := (mkF m 0 #[.val (.ref b)] [])) (fun t kk => castTop (ef_isNo m b) kk) ?_
  refine Done.stepL (pc' := 1) (st' := [(.ref b)]) (fun t kk => ?_) ?_
  · show Steps p.tables e below (T0.setTop (mkF m 0 _ [])) t
    refine XS.aloadN P0.here P0.x rfl (hb hby d_isNo_0) rfl rfl ?_
    exact kk
  refine wGetS P0 (host := "") (Or.inl (tw9 hw)) Via.refl S1 (hb hby d_isNo_1) rfl (fun T1 P2 => ?_)
  show Done _ _ _ _ _ _ _ _ _ _ _ _ _ _ _ T1 (mkF m 4 _ [(.ref ub), (.ref b)])
  refine Done.stepL (pc' := 8) (st' := [(.ref b)]) (fun t kk => ?_) ?_
  · show Steps p.tables e below (T1.setTop (mkF m 4 _ [(.ref ub), (.ref b)])) t
    refine pAcmp P2 rfl rfl (pc0 := 4) (pc' := 7) (same := false) rfl (hb hby d_isNo_4) rfl (decide_eq_false (fun z_ => hne (Value.ref.inj z_))) (by decide) (by decide) ?_
    show Steps p.tables e below (T1.setTop (mkF m 7 _ [])) t
    refine XS.aloadN P2.here P2.x rfl (hb hby d_isNo_7) rfl rfl ?_
    exact kk
  refine wInstN P2 (tw33 hw) E0 hno (hb hby d_isNo_8) rfl (fun T3 P4 => ?_)
  show Done _ _ _ _ _ _ _ _ _ _ _ _ _ _ _ T3 (mkF m 11 _ [(.int (0 : Int32))])
  refine Done.stepL (pc' := 19) (st' := [(.int (0 : Int32))]) (fun t kk => ?_) ?_
  · show Steps p.tables e below (T3.setTop (mkF m 11 _ [(.int (0 : Int32))])) t
    refine XS.ifYes P4.here P4.x rfl (pc0 := 11) (pc' := 18) rfl (hb hby d_isNo_11) rfl (i0W_eq_t (by decide)) (by decide) (by decide) ?_
    show Steps p.tables e below (T3.setTop (mkF m 18 _ [])) t
    refine XS.iconst P4.here P4.x rfl (hb hby d_isNo_18) ?_
    exact kk
  exact wRet P4 (t := .boolean) hret (narrow_01 (Or.inl rfl)) (Or.inl ⟨rfl, Or.inr (Or.inl rfl), _, rfl⟩) (hb hby d_isNo_19) ⟨rfl, rfl⟩
theorem ef_isYes (m : MethodId) (x0 : Addr) : entryFrame m #[(.ref x0)] 1 = mkF m 0 #[.val (.ref x0)] [] := by first | (simp [entryFrame, mkF, argsToLocals, Value.category]; done) | rfl
theorem d_isYes_0 : decode prog_41_method_10_code 0 = .ok (.aload_n 0, 1) := by decide +kernel
theorem d_isYes_1 : decode prog_41_method_10_code 1 = .ok (.getstatic 103, 3) := by decide +kernel
theorem d_isYes_4 : decode prog_41_method_10_code 4 = .ok (.if_acmp .eq 10, 3) := by decide +kernel
theorem d_isYes_7 : decode prog_41_method_10_code 7 = .ok (.aload_n 0, 1) := by decide +kernel
theorem d_isYes_8 : decode prog_41_method_10_code 8 = .ok (.instanceof 120, 3) := by decide +kernel
theorem d_isYes_11 : decode prog_41_method_10_code 11 = .ok (.ifCond .eq 7, 3) := by decide +kernel
theorem d_isYes_14 : decode prog_41_method_10_code 14 = .ok (.iconst 1, 1) := by decide +kernel
theorem d_isYes_15 : decode prog_41_method_10_code 15 = .ok (.goto 4, 3) := by decide +kernel
theorem d_isYes_19 : decode prog_41_method_10_code 19 = .ok (.ireturn, 1) := by decide +kernel
set_option maxRecDepth 65536 in
set_option maxHeartbeats 4000000 in
theorem m_isYes (l : Launch) (Z : State) (a0 : Array Value) (hw : ∀ d ∈ tables_1, d.before a0 Z = true) (hs : ∀ d ∈ jdkStatics_1, d.before a0 Z = true) (b ub : Addr) (h0 : Heap) (S1 : Sta Z h0 "kindlewood/Variables" "UNBOXED" "Ljava/lang/Object;" (.ref ub)) (E0 : Exa Z h0 b "java/lang/Double") (hne : b ≠ ub) :
    OMet l (⟨"kindlewood/Interpreter", "isNumber", "(Ljava/lang/Object;)Z"⟩ : MethodName) prog_41_method_10_code 1 (Option.some FieldType.boolean) [] ({ frames := 0, cells := 0, slots := 0, locals := 0 } : Room) Z h0 [] #[(.ref b)] (fun v h' => v = some (.int 1) ∧ h0 = h') := by
  refine OMet.of (own := "kindlewood/Interpreter") (nm := "isNumber") (plainFor_of_name pn_16) rfl rfl ?_
  intro p e s m below meth c T0 P0 hby hml hret hnm
  refine Done.step (T' := T0) (g' := (mkF m 0 #[.val (.ref b)] [])) (fun t kk => castTop (ef_isYes m b) kk) ?_
  refine Done.stepL (pc' := 1) (st' := [(.ref b)]) (fun t kk => ?_) ?_
  · show Steps p.tables e below (T0.setTop (mkF m 0 _ [])) t
    refine XS.aloadN P0.here P0.x rfl (hb hby d_isYes_0) rfl rfl ?_
    exact kk
  refine wGetS P0 (host := "") (Or.inl (tw9 hw)) Via.refl S1 (hb hby d_isYes_1) rfl (fun T1 P2 => ?_)
  show Done _ _ _ _ _ _ _ _ _ _ _ _ _ _ _ T1 (mkF m 4 _ [(.ref ub), (.ref b)])
  refine Done.stepL (pc' := 8) (st' := [(.ref b)]) (fun t kk => ?_) ?_
  · show Steps p.tables e below (T1.setTop (mkF m 4 _ [(.ref ub), (.ref b)])) t
    refine pAcmp P2 rfl rfl (pc0 := 4) (pc' := 7) (same := false) rfl (hb hby d_isYes_4) rfl (decide_eq_false (fun z_ => hne (Value.ref.inj z_))) (by decide) (by decide) ?_
    show Steps p.tables e below (T1.setTop (mkF m 7 _ [])) t
    refine XS.aloadN P2.here P2.x rfl (hb hby d_isYes_7) rfl rfl ?_
    exact kk
  refine wInstY P2 (tw33 hw) (Ins.self E0) (hb hby d_isYes_8) rfl (fun T3 P4 => ?_)
  show Done _ _ _ _ _ _ _ _ _ _ _ _ _ _ _ T3 (mkF m 11 _ [(.int (1 : Int32))])
  refine Done.stepL (pc' := 19) (st' := [(.int (1 : Int32))]) (fun t kk => ?_) ?_
  · show Steps p.tables e below (T3.setTop (mkF m 11 _ [(.int (1 : Int32))])) t
    refine XS.ifNo P4.here P4.x rfl (hb hby d_isYes_11) rfl (i0W_eq_f (by decide)) ?_
    show Steps p.tables e below (T3.setTop (mkF m 14 _ [])) t
    refine XS.iconst P4.here P4.x rfl (hb hby d_isYes_14) ?_
    show Steps p.tables e below (T3.setTop (mkF m 15 _ [(.int (1 : Int32))])) t
    refine XS.goto P4.here P4.x rfl (pc0 := 15) (pc' := 19) rfl (hb hby d_isYes_15) (by decide) (by decide) ?_
    exact kk
  exact wRet P4 (t := .boolean) hret (narrow_01 (Or.inr rfl)) (Or.inl ⟨rfl, Or.inr (Or.inl rfl), _, rfl⟩) (hb hby d_isYes_19) ⟨rfl, rfl⟩
theorem ef_mk0 (m : MethodId) (x0 : Int32) (x1 : Int32) (x2 : Int64) : entryFrame m #[(.int x0), (.int x1), (.long x2)] 5 = mkF m 0 #[.val (.int x0), .val (.int x1), .val (.long x2), .second, .unset] [] := by first | (simp [entryFrame, mkF, argsToLocals, Value.category]; done) | rfl
theorem d_mk0_0 : decode method_2_code 0 = .ok (.iload_n 0, 1) := by decide +kernel
theorem d_mk0_1 : decode method_2_code 1 = .ok (.ifCond .ne 5, 3) := by decide +kernel
theorem d_mk0_4 : decode method_2_code 4 = .ok (.aconst_null, 1) := by decide +kernel
theorem d_mk0_5 : decode method_2_code 5 = .ok (.areturn, 1) := by decide +kernel
set_option maxRecDepth 65536 in
set_option maxHeartbeats 4000000 in
theorem m_mk0 (l : Launch) (Z : State) (a0 : Array Value) (hw : ∀ d ∈ tables_1, d.before a0 Z = true) (hs : ∀ d ∈ jdkStatics_1, d.before a0 Z = true) (p1 : Int32) (p2 : Int64) (ub cb tb fb ci cj da : Addr) (gi gl : Nat → Addr) (cs : Int32) (h0 : Heap) (SU : Sta Z h0 "kindlewood/Variables" "UNBOXED" "Ljava/lang/Object;" (.ref ub)) (SC : Sta Z h0 "kindlewood/StmtCode" "COMPLETED" "Ljava/lang/Object;" (.ref cb)) (ST : Sta Z h0 "java/lang/Boolean" "TRUE" "Ljava/lang/Boolean;" (.ref tb)) (SF : Sta Z h0 "java/lang/Boolean" "FALSE" "Ljava/lang/Boolean;" (.ref fb)) (SH : Sta Z h0 "java/lang/Integer$IntegerCache" "high" "I" (.int 127)) (SI : Sta Z h0 "java/lang/Integer$IntegerCache" "cache" "[Ljava/lang/Integer;" (.ref ci)) (SL : Sta Z h0 "java/lang/Long$LongCache" "cache" "[Ljava/lang/Long;" (.ref cj)) (SA : Sta Z h0 "java/util/ArrayList" "DEFAULTCAPACITY_EMPTY_ELEMENTDATA" "[Ljava/lang/Object;" (.ref da)) (SS : Sta Z h0 "java/lang/String" "COMPACT_STRINGS" "Z" (.int cs)) (EUB : Exa Z h0 ub "java/lang/Object") (ECB : Exa Z h0 cb "java/lang/Object") (ETB : Exa Z h0 tb "java/lang/Boolean") (EFB : Exa Z h0 fb "java/lang/Boolean") (AI : Ar Z h0 ci (.object "java/lang/Integer") 256 (fun i => .ref (gi i))) (hEI : ∀ i, i < 256 → Exa Z h0 (gi i) "java/lang/Integer") (ALc : Ar Z h0 cj (.object "java/lang/Long") 256 (fun i => .ref (gl i))) (hEL : ∀ i, i < 256 → Exa Z h0 (gl i) "java/lang/Long") (hcs : ¬ (cs = (0 : Int32))) (hcu : cb ≠ ub) :
    OMet l (⟨"kindlewood/InterpreterIsNumberPinLaw", "make", "(IIJ)Ljava/lang/Object;"⟩ : MethodName) method_2_code 5 (Option.some (FieldType.object "java/lang/Object")) [] ({ frames := 0, cells := 0, slots := 0, locals := 0 } : Room) Z h0 [] #[(.int (0 : Int32)), (.int p1), (.long p2)] (fun v h' => v = some .null ∧ h0 = h') := by
  refine OMet.of (own := "kindlewood/InterpreterIsNumberPinLaw") (nm := "make") (plainFor_of_name pn_17) rfl rfl ?_
  intro p e s m below meth c T0 P0 hby hml hret hnm
  refine Done.step (T' := T0) (g' := (mkF m 0 #[.val (.int (0 : Int32)), .val (.int p1), .val (.long p2), .second, .unset] [])) (fun t kk => castTop (ef_mk0 m (0 : Int32) p1 p2) kk) ?_
  refine Done.stepL (pc' := 5) (st' := [.null]) (fun t kk => ?_) ?_
  · show Steps p.tables e below (T0.setTop (mkF m 0 _ [])) t
    refine XS.iloadN P0.here P0.x rfl (hb hby d_mk0_0) rfl ?_
    show Steps p.tables e below (T0.setTop (mkF m 1 _ [(.int (0 : Int32))])) t
    refine XS.ifNo P0.here P0.x rfl (hb hby d_mk0_1) rfl (i0W_ne_f (by decide)) ?_
    show Steps p.tables e below (T0.setTop (mkF m 4 _ [])) t
    refine XS.aconstNull P0.here P0.x rfl (hb hby d_mk0_4) ?_
    exact kk
  exact wRetA P0 hret rfl rfl (hb hby d_mk0_5) ⟨rfl, rfl⟩
theorem ef_mk1 (m : MethodId) (x0 : Int32) (x1 : Int32) (x2 : Int64) : entryFrame m #[(.int x0), (.int x1), (.long x2)] 5 = mkF m 0 #[.val (.int x0), .val (.int x1), .val (.long x2), .second, .unset] [] := by first | (simp [entryFrame, mkF, argsToLocals, Value.category]; done) | rfl
theorem d_mk1_0 : decode method_2_code 0 = .ok (.iload_n 0, 1) := by decide +kernel
theorem d_mk1_1 : decode method_2_code 1 = .ok (.ifCond .ne 5, 3) := by decide +kernel
theorem d_mk1_6 : decode method_2_code 6 = .ok (.iload_n 0, 1) := by decide +kernel
theorem d_mk1_7 : decode method_2_code 7 = .ok (.iconst 1, 1) := by decide +kernel
theorem d_mk1_8 : decode method_2_code 8 = .ok (.if_icmp .ne 22, 3) := by decide +kernel
theorem d_mk1_11 : decode method_2_code 11 = .ok (.iload_n 1, 1) := by decide +kernel
theorem d_mk1_12 : decode method_2_code 12 = .ok (.iconst 1, 1) := by decide +kernel
theorem d_mk1_13 : decode method_2_code 13 = .ok (.iand, 1) := by decide +kernel
theorem d_mk1_14 : decode method_2_code 14 = .ok (.ifCond .eq 7, 3) := by decide +kernel
theorem d_mk1_17 : decode method_2_code 17 = .ok (.iconst 1, 1) := by decide +kernel
theorem d_mk1_18 : decode method_2_code 18 = .ok (.goto 4, 3) := by decide +kernel
theorem d_mk1_21 : decode method_2_code 21 = .ok (.iconst 0, 1) := by decide +kernel
theorem d_mk1_22 : decode method_2_code 22 = .ok (.invokestatic 7, 3) := by decide +kernel
theorem d_mk1_25 : decode method_2_code 25 = .ok (.astore 4, 2) := by decide +kernel
theorem d_mk1_27 : decode method_2_code 27 = .ok (.aload 4, 2) := by decide +kernel
theorem d_mk1_29 : decode method_2_code 29 = .ok (.areturn, 1) := by decide +kernel
set_option maxRecDepth 65536 in
set_option maxHeartbeats 4000000 in
theorem m_mk1 (l : Launch) (Z : State) (a0 : Array Value) (hw : ∀ d ∈ tables_1, d.before a0 Z = true) (hs : ∀ d ∈ jdkStatics_1, d.before a0 Z = true) (p1 : Int32) (p2 : Int64) (ub cb tb fb ci cj da : Addr) (gi gl : Nat → Addr) (cs : Int32) (h0 : Heap) (SU : Sta Z h0 "kindlewood/Variables" "UNBOXED" "Ljava/lang/Object;" (.ref ub)) (SC : Sta Z h0 "kindlewood/StmtCode" "COMPLETED" "Ljava/lang/Object;" (.ref cb)) (ST : Sta Z h0 "java/lang/Boolean" "TRUE" "Ljava/lang/Boolean;" (.ref tb)) (SF : Sta Z h0 "java/lang/Boolean" "FALSE" "Ljava/lang/Boolean;" (.ref fb)) (SH : Sta Z h0 "java/lang/Integer$IntegerCache" "high" "I" (.int 127)) (SI : Sta Z h0 "java/lang/Integer$IntegerCache" "cache" "[Ljava/lang/Integer;" (.ref ci)) (SL : Sta Z h0 "java/lang/Long$LongCache" "cache" "[Ljava/lang/Long;" (.ref cj)) (SA : Sta Z h0 "java/util/ArrayList" "DEFAULTCAPACITY_EMPTY_ELEMENTDATA" "[Ljava/lang/Object;" (.ref da)) (SS : Sta Z h0 "java/lang/String" "COMPACT_STRINGS" "Z" (.int cs)) (EUB : Exa Z h0 ub "java/lang/Object") (ECB : Exa Z h0 cb "java/lang/Object") (ETB : Exa Z h0 tb "java/lang/Boolean") (EFB : Exa Z h0 fb "java/lang/Boolean") (AI : Ar Z h0 ci (.object "java/lang/Integer") 256 (fun i => .ref (gi i))) (hEI : ∀ i, i < 256 → Exa Z h0 (gi i) "java/lang/Integer") (ALc : Ar Z h0 cj (.object "java/lang/Long") 256 (fun i => .ref (gl i))) (hEL : ∀ i, i < 256 → Exa Z h0 (gl i) "java/lang/Long") (hcs : ¬ (cs = (0 : Int32))) (hcu : cb ≠ ub) :
    OMet l (⟨"kindlewood/InterpreterIsNumberPinLaw", "make", "(IIJ)Ljava/lang/Object;"⟩ : MethodName) method_2_code 5 (Option.some (FieldType.object "java/lang/Object")) [] ({ frames := 1, cells := 0, slots := 0, locals := 12 } : Room) Z h0 [] #[(.int (1 : Int32)), (.int p1), (.long p2)] (fun v h' => ∃ b : Addr, v = some (.ref b) ∧ Exa Z h' b "java/lang/Boolean") := by
  refine OMet.of (own := "kindlewood/InterpreterIsNumberPinLaw") (nm := "make") (plainFor_of_name pn_17) rfl rfl ?_
  intro p e s m below meth c T0 P0 hby hml hret hnm
  refine Done.step (T' := T0) (g' := (mkF m 0 #[.val (.int (1 : Int32)), .val (.int p1), .val (.long p2), .second, .unset] [])) (fun t kk => castTop (ef_mk1 m (1 : Int32) p1 p2) kk) ?_
  refine Done.stepL (pc' := 22) (st' := [(.int (if ¬ ((p1 &&& (1 : Int32)) = (0 : Int32)) then (1 : Int32) else (0 : Int32)))]) (fun t kk => ?_) ?_
  · show Steps p.tables e below (T0.setTop (mkF m 0 _ [])) t
    refine XS.iloadN P0.here P0.x rfl (hb hby d_mk1_0) rfl ?_
    show Steps p.tables e below (T0.setTop (mkF m 1 _ [(.int (1 : Int32))])) t
    refine XS.ifYes P0.here P0.x rfl (pc0 := 1) (pc' := 6) rfl (hb hby d_mk1_1) rfl (i0W_ne_t (by decide)) (by decide) (by decide) ?_
    show Steps p.tables e below (T0.setTop (mkF m 6 _ [])) t
    refine XS.iloadN P0.here P0.x rfl (hb hby d_mk1_6) rfl ?_
    show Steps p.tables e below (T0.setTop (mkF m 7 _ [(.int (1 : Int32))])) t
    refine XS.iconst P0.here P0.x rfl (hb hby d_mk1_7) ?_
    show Steps p.tables e below (T0.setTop (mkF m 8 _ [(.int (1 : Int32)), (.int (1 : Int32))])) t
    refine XS.icmpNo P0.here P0.x rfl (hb hby d_mk1_8) rfl (iiW_ne_f (by decide)) ?_
    show Steps p.tables e below (T0.setTop (mkF m 11 _ [])) t
    refine XS.iloadN P0.here P0.x rfl (hb hby d_mk1_11) rfl ?_
    show Steps p.tables e below (T0.setTop (mkF m 12 _ [(.int p1)])) t
    refine XS.iconst P0.here P0.x rfl (hb hby d_mk1_12) ?_
    show Steps p.tables e below (T0.setTop (mkF m 13 _ [(.int (1 : Int32)), (.int p1)])) t
    refine XS.iand P0.here P0.x rfl (hb hby d_mk1_13) rfl ?_
    show Steps p.tables e below (T0.setTop (mkF m 14 _ [(.int (p1 &&& (1 : Int32)))])) t
    suffices kk2 : Steps p.tables e below (T0.setTop (mkF m 22 #[.val (.int (1 : Int32)), .val (.int p1), .val (.long p2), .second, .unset] [(.int (if ¬ ((p1 &&& (1 : Int32)) = (0 : Int32)) then (1 : Int32) else (0 : Int32)))])) t by
      by_cases hc1 : (p1 &&& (1 : Int32)) = (0 : Int32)
      · skip
        replace kk2 := Eq.mp (congrArg (fun z_ : Int32 => Steps p.tables e below (T0.setTop (mkF m 22 #[.val (.int (1 : Int32)), .val (.int p1), .val (.long p2), .second, .unset] [(.int z_)])) t) (show (if ¬ ((p1 &&& (1 : Int32)) = (0 : Int32)) then (1 : Int32) else (0 : Int32)) = (0 : Int32) from if_neg (not_not_intro hc1))) kk2
        show Steps p.tables e below (T0.setTop (mkF m 14 _ [(.int (p1 &&& (1 : Int32)))])) t
        refine XS.ifYes P0.here P0.x rfl (pc0 := 14) (pc' := 21) rfl (hb hby d_mk1_14) rfl (i0W_eq_t hc1) (by decide) (by decide) ?_
        show Steps p.tables e below (T0.setTop (mkF m 21 _ [])) t
        refine XS.iconst P0.here P0.x rfl (hb hby d_mk1_21) ?_
        exact kk2
      · skip
        replace kk2 := Eq.mp (congrArg (fun z_ : Int32 => Steps p.tables e below (T0.setTop (mkF m 22 #[.val (.int (1 : Int32)), .val (.int p1), .val (.long p2), .second, .unset] [(.int z_)])) t) (show (if ¬ ((p1 &&& (1 : Int32)) = (0 : Int32)) then (1 : Int32) else (0 : Int32)) = (1 : Int32) from if_pos hc1)) kk2
        show Steps p.tables e below (T0.setTop (mkF m 14 _ [(.int (p1 &&& (1 : Int32)))])) t
        refine XS.ifNo P0.here P0.x rfl (hb hby d_mk1_14) rfl (i0W_eq_f hc1) ?_
        show Steps p.tables e below (T0.setTop (mkF m 17 _ [])) t
        refine XS.iconst P0.here P0.x rfl (hb hby d_mk1_17) ?_
        show Steps p.tables e below (T0.setTop (mkF m 18 _ [(.int (1 : Int32))])) t
        refine XS.goto P0.here P0.x rfl (pc0 := 18) (pc' := 22) rfl (hb hby d_mk1_18) (by decide) (by decide) ?_
        exact kk2
    exact kk
  refine wCallS P0 (m_boolOf l Z a0 hw hs (if ¬ ((p1 &&& (1 : Int32)) = (0 : Int32)) then (1 : Int32) else (0 : Int32)) tb fb h0 ST SF ETB EFB) (tw88 hw) (tw89 hw) (tw90 hw) (tw91 hw) (by decide) (by rw [hml]; rfl) (lenOf pd_8 rfl) (argsL := [(.int (if ¬ ((p1 &&& (1 : Int32)) = (0 : Int32)) then (1 : Int32) else (0 : Int32)))]) (rest := []) rfl rfl (W := 0) (Nat.le_of_eq rfl) (by decide) (by decide) (by decide) (by decide) (by simp) (hb hby d_mk1_22) rfl (k' := 0) (n' := 0) rfl rfl ?_
  rintro T3 h7 _ P4 K8 ⟨b5, rfl, X6⟩
  have szh7 : h0.size ≤ h7.size := K8.1
  show Done _ _ _ _ _ _ _ _ _ _ _ _ _ _ _ T3 (mkF m 25 _ [(.ref b5)])
  refine Done.step (T' := T3) (g' := (mkF m 29 #[.val (.int (1 : Int32)), .val (.int p1), .val (.long p2), .second, .val (.ref b5)] [(.ref b5)])) (fun t kk => ?_) ?_
  · show Steps p.tables e below (T3.setTop (mkF m 25 _ [(.ref b5)])) t
    refine XS.astore P4.here P4.x rfl (hb hby d_mk1_25) rfl rfl (l' := #[.val (.int (1 : Int32)), .val (.int p1), .val (.long p2), .second, .val (.ref b5)]) rfl ?_
    show Steps p.tables e below (T3.setTop (mkF m 27 _ [])) t
    refine XS.aload P4.here P4.x rfl (hb hby d_mk1_27) rfl rfl ?_
    exact kk
  exact wRetA P4 hret rfl rfl (hb hby d_mk1_29) ⟨b5, rfl, X6⟩
theorem ef_mk2 (m : MethodId) (x0 : Int32) (x1 : Int32) (x2 : Int64) : entryFrame m #[(.int x0), (.int x1), (.long x2)] 5 = mkF m 0 #[.val (.int x0), .val (.int x1), .val (.long x2), .second, .unset] [] := by first | (simp [entryFrame, mkF, argsToLocals, Value.category]; done) | rfl
theorem d_mk2_0 : decode method_2_code 0 = .ok (.iload_n 0, 1) := by decide +kernel
theorem d_mk2_1 : decode method_2_code 1 = .ok (.ifCond .ne 5, 3) := by decide +kernel
theorem d_mk2_6 : decode method_2_code 6 = .ok (.iload_n 0, 1) := by decide +kernel
theorem d_mk2_7 : decode method_2_code 7 = .ok (.iconst 1, 1) := by decide +kernel
theorem d_mk2_8 : decode method_2_code 8 = .ok (.if_icmp .ne 22, 3) := by decide +kernel
theorem d_mk2_30 : decode method_2_code 30 = .ok (.iload_n 0, 1) := by decide +kernel
theorem d_mk2_31 : decode method_2_code 31 = .ok (.iconst 2, 1) := by decide +kernel
theorem d_mk2_32 : decode method_2_code 32 = .ok (.if_icmp .ne 13, 3) := by decide +kernel
theorem d_mk2_35 : decode method_2_code 35 = .ok (.iload_n 1, 1) := by decide +kernel
theorem d_mk2_36 : decode method_2_code 36 = .ok (.i2d, 1) := by decide +kernel
theorem d_mk2_37 : decode method_2_code 37 = .ok (.invokestatic 13, 3) := by decide +kernel
theorem d_mk2_40 : decode method_2_code 40 = .ok (.astore 4, 2) := by decide +kernel
theorem d_mk2_42 : decode method_2_code 42 = .ok (.aload 4, 2) := by decide +kernel
theorem d_mk2_44 : decode method_2_code 44 = .ok (.areturn, 1) := by decide +kernel
set_option maxRecDepth 65536 in
set_option maxHeartbeats 4000000 in
theorem m_mk2 (l : Launch) (Z : State) (a0 : Array Value) (hw : ∀ d ∈ tables_1, d.before a0 Z = true) (hs : ∀ d ∈ jdkStatics_1, d.before a0 Z = true) (p1 : Int32) (p2 : Int64) (ub cb tb fb ci cj da : Addr) (gi gl : Nat → Addr) (cs : Int32) (h0 : Heap) (SU : Sta Z h0 "kindlewood/Variables" "UNBOXED" "Ljava/lang/Object;" (.ref ub)) (SC : Sta Z h0 "kindlewood/StmtCode" "COMPLETED" "Ljava/lang/Object;" (.ref cb)) (ST : Sta Z h0 "java/lang/Boolean" "TRUE" "Ljava/lang/Boolean;" (.ref tb)) (SF : Sta Z h0 "java/lang/Boolean" "FALSE" "Ljava/lang/Boolean;" (.ref fb)) (SH : Sta Z h0 "java/lang/Integer$IntegerCache" "high" "I" (.int 127)) (SI : Sta Z h0 "java/lang/Integer$IntegerCache" "cache" "[Ljava/lang/Integer;" (.ref ci)) (SL : Sta Z h0 "java/lang/Long$LongCache" "cache" "[Ljava/lang/Long;" (.ref cj)) (SA : Sta Z h0 "java/util/ArrayList" "DEFAULTCAPACITY_EMPTY_ELEMENTDATA" "[Ljava/lang/Object;" (.ref da)) (SS : Sta Z h0 "java/lang/String" "COMPACT_STRINGS" "Z" (.int cs)) (EUB : Exa Z h0 ub "java/lang/Object") (ECB : Exa Z h0 cb "java/lang/Object") (ETB : Exa Z h0 tb "java/lang/Boolean") (EFB : Exa Z h0 fb "java/lang/Boolean") (AI : Ar Z h0 ci (.object "java/lang/Integer") 256 (fun i => .ref (gi i))) (hEI : ∀ i, i < 256 → Exa Z h0 (gi i) "java/lang/Integer") (ALc : Ar Z h0 cj (.object "java/lang/Long") 256 (fun i => .ref (gl i))) (hEL : ∀ i, i < 256 → Exa Z h0 (gl i) "java/lang/Long") (hcs : ¬ (cs = (0 : Int32))) (hcu : cb ≠ ub) :
    OMet l (⟨"kindlewood/InterpreterIsNumberPinLaw", "make", "(IIJ)Ljava/lang/Object;"⟩ : MethodName) method_2_code 5 (Option.some (FieldType.object "java/lang/Object")) [] ({ frames := 4, cells := 1, slots := 1, locals := 52 } : Room) Z h0 [] #[(.int (2 : Int32)), (.int p1), (.long p2)] (fun v h' => ∃ b : Addr, v = some (.ref b) ∧ Exa Z h' b "java/lang/Double") := by
  refine OMet.of (own := "kindlewood/InterpreterIsNumberPinLaw") (nm := "make") (plainFor_of_name pn_17) rfl rfl ?_
  intro p e s m below meth c T0 P0 hby hml hret hnm
  refine Done.step (T' := T0) (g' := (mkF m 0 #[.val (.int (2 : Int32)), .val (.int p1), .val (.long p2), .second, .unset] [])) (fun t kk => castTop (ef_mk2 m (2 : Int32) p1 p2) kk) ?_
  refine Done.stepL (pc' := 37) (st' := [(.double (FP.i2d p1))]) (fun t kk => ?_) ?_
  · show Steps p.tables e below (T0.setTop (mkF m 0 _ [])) t
    refine XS.iloadN P0.here P0.x rfl (hb hby d_mk2_0) rfl ?_
    show Steps p.tables e below (T0.setTop (mkF m 1 _ [(.int (2 : Int32))])) t
    refine XS.ifYes P0.here P0.x rfl (pc0 := 1) (pc' := 6) rfl (hb hby d_mk2_1) rfl (i0W_ne_t (by decide)) (by decide) (by decide) ?_
    show Steps p.tables e below (T0.setTop (mkF m 6 _ [])) t
    refine XS.iloadN P0.here P0.x rfl (hb hby d_mk2_6) rfl ?_
    show Steps p.tables e below (T0.setTop (mkF m 7 _ [(.int (2 : Int32))])) t
    refine XS.iconst P0.here P0.x rfl (hb hby d_mk2_7) ?_
    show Steps p.tables e below (T0.setTop (mkF m 8 _ [(.int (1 : Int32)), (.int (2 : Int32))])) t
    refine XS.icmpYes P0.here P0.x rfl (pc0 := 8) (pc' := 30) rfl (hb hby d_mk2_8) rfl (iiW_ne_t (by decide)) (by decide) (by decide) ?_
    show Steps p.tables e below (T0.setTop (mkF m 30 _ [])) t
    refine XS.iloadN P0.here P0.x rfl (hb hby d_mk2_30) rfl ?_
    show Steps p.tables e below (T0.setTop (mkF m 31 _ [(.int (2 : Int32))])) t
    refine XS.iconst P0.here P0.x rfl (hb hby d_mk2_31) ?_
    show Steps p.tables e below (T0.setTop (mkF m 32 _ [(.int (2 : Int32)), (.int (2 : Int32))])) t
    refine XS.icmpNo P0.here P0.x rfl (hb hby d_mk2_32) rfl (iiW_ne_f (by decide)) ?_
    show Steps p.tables e below (T0.setTop (mkF m 35 _ [])) t
    refine XS.iloadN P0.here P0.x rfl (hb hby d_mk2_35) rfl ?_
    show Steps p.tables e below (T0.setTop (mkF m 36 _ [(.int p1)])) t
    refine XS.i2dS P0.here P0.x rfl (hb hby d_mk2_36) rfl rfl ?_
    exact kk
  refine wCallS P0 (m_dblOf l Z a0 hw hs (FP.i2d p1) h0) (tw12 hw) (tw13 hw) (tw14 hw) (tw15 hw) (by decide) (by rw [hml]; rfl) (lenOf pd_9 rfl) (argsL := [(.double (FP.i2d p1))]) (rest := []) rfl rfl (W := 0) (Nat.le_of_eq rfl) (by decide) (by decide) (by decide) (by decide) (by simp) (hb hby d_mk2_37) rfl (k' := 1) (n' := 1) rfl rfl ?_
  rintro T1 h5 _ P2 K6 ⟨b3, rfl, X4⟩
  have szh5 : h0.size ≤ h5.size := K6.1
  show Done _ _ _ _ _ _ _ _ _ _ _ _ _ _ _ T1 (mkF m 40 _ [(.ref b3)])
  refine Done.step (T' := T1) (g' := (mkF m 44 #[.val (.int (2 : Int32)), .val (.int p1), .val (.long p2), .second, .val (.ref b3)] [(.ref b3)])) (fun t kk => ?_) ?_
  · show Steps p.tables e below (T1.setTop (mkF m 40 _ [(.ref b3)])) t
    refine XS.astore P2.here P2.x rfl (hb hby d_mk2_40) rfl rfl (l' := #[.val (.int (2 : Int32)), .val (.int p1), .val (.long p2), .second, .val (.ref b3)]) rfl ?_
    show Steps p.tables e below (T1.setTop (mkF m 42 _ [])) t
    refine XS.aload P2.here P2.x rfl (hb hby d_mk2_42) rfl rfl ?_
    exact kk
  exact wRetA P2 hret rfl rfl (hb hby d_mk2_44) ⟨b3, rfl, X4⟩
theorem ef_mk3 (m : MethodId) (x0 : Int32) (x1 : Int32) (x2 : Int64) : entryFrame m #[(.int x0), (.int x1), (.long x2)] 5 = mkF m 0 #[.val (.int x0), .val (.int x1), .val (.long x2), .second, .unset] [] := by first | (simp [entryFrame, mkF, argsToLocals, Value.category]; done) | rfl
theorem d_mk3_0 : decode method_2_code 0 = .ok (.iload_n 0, 1) := by decide +kernel
theorem d_mk3_1 : decode method_2_code 1 = .ok (.ifCond .ne 5, 3) := by decide +kernel
theorem d_mk3_6 : decode method_2_code 6 = .ok (.iload_n 0, 1) := by decide +kernel
theorem d_mk3_7 : decode method_2_code 7 = .ok (.iconst 1, 1) := by decide +kernel
theorem d_mk3_8 : decode method_2_code 8 = .ok (.if_icmp .ne 22, 3) := by decide +kernel
theorem d_mk3_30 : decode method_2_code 30 = .ok (.iload_n 0, 1) := by decide +kernel
theorem d_mk3_31 : decode method_2_code 31 = .ok (.iconst 2, 1) := by decide +kernel
theorem d_mk3_32 : decode method_2_code 32 = .ok (.if_icmp .ne 13, 3) := by decide +kernel
theorem d_mk3_45 : decode method_2_code 45 = .ok (.iload_n 0, 1) := by decide +kernel
theorem d_mk3_46 : decode method_2_code 46 = .ok (.iconst 3, 1) := by decide +kernel
theorem d_mk3_47 : decode method_2_code 47 = .ok (.if_icmp .ne 14, 3) := by decide +kernel
theorem d_mk3_50 : decode method_2_code 50 = .ok (.iload_n 1, 1) := by decide +kernel
theorem d_mk3_51 : decode method_2_code 51 = .ok (.i2d, 1) := by decide +kernel
theorem d_mk3_52 : decode method_2_code 52 = .ok (.dneg, 1) := by decide +kernel
theorem d_mk3_53 : decode method_2_code 53 = .ok (.invokestatic 13, 3) := by decide +kernel
theorem d_mk3_56 : decode method_2_code 56 = .ok (.astore 4, 2) := by decide +kernel
theorem d_mk3_58 : decode method_2_code 58 = .ok (.aload 4, 2) := by decide +kernel
theorem d_mk3_60 : decode method_2_code 60 = .ok (.areturn, 1) := by decide +kernel
set_option maxRecDepth 65536 in
set_option maxHeartbeats 4000000 in
theorem m_mk3 (l : Launch) (Z : State) (a0 : Array Value) (hw : ∀ d ∈ tables_1, d.before a0 Z = true) (hs : ∀ d ∈ jdkStatics_1, d.before a0 Z = true) (p1 : Int32) (p2 : Int64) (ub cb tb fb ci cj da : Addr) (gi gl : Nat → Addr) (cs : Int32) (h0 : Heap) (SU : Sta Z h0 "kindlewood/Variables" "UNBOXED" "Ljava/lang/Object;" (.ref ub)) (SC : Sta Z h0 "kindlewood/StmtCode" "COMPLETED" "Ljava/lang/Object;" (.ref cb)) (ST : Sta Z h0 "java/lang/Boolean" "TRUE" "Ljava/lang/Boolean;" (.ref tb)) (SF : Sta Z h0 "java/lang/Boolean" "FALSE" "Ljava/lang/Boolean;" (.ref fb)) (SH : Sta Z h0 "java/lang/Integer$IntegerCache" "high" "I" (.int 127)) (SI : Sta Z h0 "java/lang/Integer$IntegerCache" "cache" "[Ljava/lang/Integer;" (.ref ci)) (SL : Sta Z h0 "java/lang/Long$LongCache" "cache" "[Ljava/lang/Long;" (.ref cj)) (SA : Sta Z h0 "java/util/ArrayList" "DEFAULTCAPACITY_EMPTY_ELEMENTDATA" "[Ljava/lang/Object;" (.ref da)) (SS : Sta Z h0 "java/lang/String" "COMPACT_STRINGS" "Z" (.int cs)) (EUB : Exa Z h0 ub "java/lang/Object") (ECB : Exa Z h0 cb "java/lang/Object") (ETB : Exa Z h0 tb "java/lang/Boolean") (EFB : Exa Z h0 fb "java/lang/Boolean") (AI : Ar Z h0 ci (.object "java/lang/Integer") 256 (fun i => .ref (gi i))) (hEI : ∀ i, i < 256 → Exa Z h0 (gi i) "java/lang/Integer") (ALc : Ar Z h0 cj (.object "java/lang/Long") 256 (fun i => .ref (gl i))) (hEL : ∀ i, i < 256 → Exa Z h0 (gl i) "java/lang/Long") (hcs : ¬ (cs = (0 : Int32))) (hcu : cb ≠ ub) :
    OMet l (⟨"kindlewood/InterpreterIsNumberPinLaw", "make", "(IIJ)Ljava/lang/Object;"⟩ : MethodName) method_2_code 5 (Option.some (FieldType.object "java/lang/Object")) [] ({ frames := 4, cells := 1, slots := 1, locals := 52 } : Room) Z h0 [] #[(.int (3 : Int32)), (.int p1), (.long p2)] (fun v h' => ∃ b : Addr, v = some (.ref b) ∧ Exa Z h' b "java/lang/Double") := by
  refine OMet.of (own := "kindlewood/InterpreterIsNumberPinLaw") (nm := "make") (plainFor_of_name pn_17) rfl rfl ?_
  intro p e s m below meth c T0 P0 hby hml hret hnm
  refine Done.step (T' := T0) (g' := (mkF m 0 #[.val (.int (3 : Int32)), .val (.int p1), .val (.long p2), .second, .unset] [])) (fun t kk => castTop (ef_mk3 m (3 : Int32) p1 p2) kk) ?_
  refine Done.stepL (pc' := 53) (st' := [(.double (FP.dneg (FP.i2d p1)))]) (fun t kk => ?_) ?_
  · show Steps p.tables e below (T0.setTop (mkF m 0 _ [])) t
    refine XS.iloadN P0.here P0.x rfl (hb hby d_mk3_0) rfl ?_
    show Steps p.tables e below (T0.setTop (mkF m 1 _ [(.int (3 : Int32))])) t
    refine XS.ifYes P0.here P0.x rfl (pc0 := 1) (pc' := 6) rfl (hb hby d_mk3_1) rfl (i0W_ne_t (by decide)) (by decide) (by decide) ?_
    show Steps p.tables e below (T0.setTop (mkF m 6 _ [])) t
    refine XS.iloadN P0.here P0.x rfl (hb hby d_mk3_6) rfl ?_
    show Steps p.tables e below (T0.setTop (mkF m 7 _ [(.int (3 : Int32))])) t
    refine XS.iconst P0.here P0.x rfl (hb hby d_mk3_7) ?_
    show Steps p.tables e below (T0.setTop (mkF m 8 _ [(.int (1 : Int32)), (.int (3 : Int32))])) t
    refine XS.icmpYes P0.here P0.x rfl (pc0 := 8) (pc' := 30) rfl (hb hby d_mk3_8) rfl (iiW_ne_t (by decide)) (by decide) (by decide) ?_
    show Steps p.tables e below (T0.setTop (mkF m 30 _ [])) t
    refine XS.iloadN P0.here P0.x rfl (hb hby d_mk3_30) rfl ?_
    show Steps p.tables e below (T0.setTop (mkF m 31 _ [(.int (3 : Int32))])) t
    refine XS.iconst P0.here P0.x rfl (hb hby d_mk3_31) ?_
    show Steps p.tables e below (T0.setTop (mkF m 32 _ [(.int (2 : Int32)), (.int (3 : Int32))])) t
    refine XS.icmpYes P0.here P0.x rfl (pc0 := 32) (pc' := 45) rfl (hb hby d_mk3_32) rfl (iiW_ne_t (by decide)) (by decide) (by decide) ?_
    show Steps p.tables e below (T0.setTop (mkF m 45 _ [])) t
    refine XS.iloadN P0.here P0.x rfl (hb hby d_mk3_45) rfl ?_
    show Steps p.tables e below (T0.setTop (mkF m 46 _ [(.int (3 : Int32))])) t
    refine XS.iconst P0.here P0.x rfl (hb hby d_mk3_46) ?_
    show Steps p.tables e below (T0.setTop (mkF m 47 _ [(.int (3 : Int32)), (.int (3 : Int32))])) t
    refine XS.icmpNo P0.here P0.x rfl (hb hby d_mk3_47) rfl (iiW_ne_f (by decide)) ?_
    show Steps p.tables e below (T0.setTop (mkF m 50 _ [])) t
    refine XS.iloadN P0.here P0.x rfl (hb hby d_mk3_50) rfl ?_
    show Steps p.tables e below (T0.setTop (mkF m 51 _ [(.int p1)])) t
    refine XS.i2dS P0.here P0.x rfl (hb hby d_mk3_51) rfl rfl ?_
    show Steps p.tables e below (T0.setTop (mkF m 52 _ [(.double (FP.i2d p1))])) t
    refine XS.dnegS P0.here P0.x rfl (hb hby d_mk3_52) rfl rfl ?_
    exact kk
  refine wCallS P0 (m_dblOf l Z a0 hw hs (FP.dneg (FP.i2d p1)) h0) (tw12 hw) (tw13 hw) (tw14 hw) (tw15 hw) (by decide) (by rw [hml]; rfl) (lenOf pd_9 rfl) (argsL := [(.double (FP.dneg (FP.i2d p1)))]) (rest := []) rfl rfl (W := 0) (Nat.le_of_eq rfl) (by decide) (by decide) (by decide) (by decide) (by simp) (hb hby d_mk3_53) rfl (k' := 1) (n' := 1) rfl rfl ?_
  rintro T1 h5 _ P2 K6 ⟨b3, rfl, X4⟩
  have szh5 : h0.size ≤ h5.size := K6.1
  show Done _ _ _ _ _ _ _ _ _ _ _ _ _ _ _ T1 (mkF m 56 _ [(.ref b3)])
  refine Done.step (T' := T1) (g' := (mkF m 60 #[.val (.int (3 : Int32)), .val (.int p1), .val (.long p2), .second, .val (.ref b3)] [(.ref b3)])) (fun t kk => ?_) ?_
  · show Steps p.tables e below (T1.setTop (mkF m 56 _ [(.ref b3)])) t
    refine XS.astore P2.here P2.x rfl (hb hby d_mk3_56) rfl rfl (l' := #[.val (.int (3 : Int32)), .val (.int p1), .val (.long p2), .second, .val (.ref b3)]) rfl ?_
    show Steps p.tables e below (T1.setTop (mkF m 58 _ [])) t
    refine XS.aload P2.here P2.x rfl (hb hby d_mk3_58) rfl rfl ?_
    exact kk
  exact wRetA P2 hret rfl rfl (hb hby d_mk3_60) ⟨b3, rfl, X4⟩
theorem ef_mk4 (m : MethodId) (x0 : Int32) (x1 : Int32) (x2 : Int64) : entryFrame m #[(.int x0), (.int x1), (.long x2)] 5 = mkF m 0 #[.val (.int x0), .val (.int x1), .val (.long x2), .second, .unset] [] := by first | (simp [entryFrame, mkF, argsToLocals, Value.category]; done) | rfl
theorem d_mk4_0 : decode method_2_code 0 = .ok (.iload_n 0, 1) := by decide +kernel
theorem d_mk4_1 : decode method_2_code 1 = .ok (.ifCond .ne 5, 3) := by decide +kernel
theorem d_mk4_6 : decode method_2_code 6 = .ok (.iload_n 0, 1) := by decide +kernel
theorem d_mk4_7 : decode method_2_code 7 = .ok (.iconst 1, 1) := by decide +kernel
theorem d_mk4_8 : decode method_2_code 8 = .ok (.if_icmp .ne 22, 3) := by decide +kernel
theorem d_mk4_30 : decode method_2_code 30 = .ok (.iload_n 0, 1) := by decide +kernel
theorem d_mk4_31 : decode method_2_code 31 = .ok (.iconst 2, 1) := by decide +kernel
theorem d_mk4_32 : decode method_2_code 32 = .ok (.if_icmp .ne 13, 3) := by decide +kernel
theorem d_mk4_45 : decode method_2_code 45 = .ok (.iload_n 0, 1) := by decide +kernel
theorem d_mk4_46 : decode method_2_code 46 = .ok (.iconst 3, 1) := by decide +kernel
theorem d_mk4_47 : decode method_2_code 47 = .ok (.if_icmp .ne 14, 3) := by decide +kernel
theorem d_mk4_61 : decode method_2_code 61 = .ok (.iload_n 0, 1) := by decide +kernel
theorem d_mk4_62 : decode method_2_code 62 = .ok (.iconst 4, 1) := by decide +kernel
theorem d_mk4_63 : decode method_2_code 63 = .ok (.if_icmp .ne 41, 3) := by decide +kernel
theorem d_mk4_66 : decode method_2_code 66 = .ok (.iconst 2, 1) := by decide +kernel
theorem d_mk4_67 : decode method_2_code 67 = .ok (.newarray .char, 2) := by decide +kernel
theorem d_mk4_69 : decode method_2_code 69 = .ok (.astore 4, 2) := by decide +kernel
theorem d_mk4_71 : decode method_2_code 71 = .ok (.aload 4, 2) := by decide +kernel
theorem d_mk4_73 : decode method_2_code 73 = .ok (.iconst 0, 1) := by decide +kernel
theorem d_mk4_74 : decode method_2_code 74 = .ok (.iload_n 1, 1) := by decide +kernel
theorem d_mk4_75 : decode method_2_code 75 = .ok (.sipush 255, 3) := by decide +kernel
theorem d_mk4_78 : decode method_2_code 78 = .ok (.iand, 1) := by decide +kernel
theorem d_mk4_79 : decode method_2_code 79 = .ok (.i2c, 1) := by decide +kernel
theorem d_mk4_80 : decode method_2_code 80 = .ok (.castore, 1) := by decide +kernel
theorem d_mk4_81 : decode method_2_code 81 = .ok (.aload 4, 2) := by decide +kernel
theorem d_mk4_83 : decode method_2_code 83 = .ok (.iconst 1, 1) := by decide +kernel
theorem d_mk4_84 : decode method_2_code 84 = .ok (.iload_n 1, 1) := by decide +kernel
theorem d_mk4_85 : decode method_2_code 85 = .ok (.bipush 8, 2) := by decide +kernel
theorem d_mk4_87 : decode method_2_code 87 = .ok (.iushr, 1) := by decide +kernel
theorem d_mk4_88 : decode method_2_code 88 = .ok (.sipush 255, 3) := by decide +kernel
theorem d_mk4_91 : decode method_2_code 91 = .ok (.iand, 1) := by decide +kernel
theorem d_mk4_92 : decode method_2_code 92 = .ok (.i2c, 1) := by decide +kernel
theorem d_mk4_93 : decode method_2_code 93 = .ok (.castore, 1) := by decide +kernel
theorem d_mk4_94 : decode method_2_code 94 = .ok (.new 18, 3) := by decide +kernel
theorem d_mk4_97 : decode method_2_code 97 = .ok (.dup, 1) := by decide +kernel
theorem d_mk4_98 : decode method_2_code 98 = .ok (.aload 4, 2) := by decide +kernel
theorem d_mk4_100 : decode method_2_code 100 = .ok (.invokespecial 20, 3) := by decide +kernel
theorem d_mk4_103 : decode method_2_code 103 = .ok (.areturn, 1) := by decide +kernel
set_option maxRecDepth 65536 in
set_option maxHeartbeats 4000000 in
theorem m_mk4 (l : Launch) (Z : State) (a0 : Array Value) (hw : ∀ d ∈ tables_1, d.before a0 Z = true) (hs : ∀ d ∈ jdkStatics_1, d.before a0 Z = true) (p1 : Int32) (p2 : Int64) (ub cb tb fb ci cj da : Addr) (gi gl : Nat → Addr) (cs : Int32) (h0 : Heap) (SU : Sta Z h0 "kindlewood/Variables" "UNBOXED" "Ljava/lang/Object;" (.ref ub)) (SC : Sta Z h0 "kindlewood/StmtCode" "COMPLETED" "Ljava/lang/Object;" (.ref cb)) (ST : Sta Z h0 "java/lang/Boolean" "TRUE" "Ljava/lang/Boolean;" (.ref tb)) (SF : Sta Z h0 "java/lang/Boolean" "FALSE" "Ljava/lang/Boolean;" (.ref fb)) (SH : Sta Z h0 "java/lang/Integer$IntegerCache" "high" "I" (.int 127)) (SI : Sta Z h0 "java/lang/Integer$IntegerCache" "cache" "[Ljava/lang/Integer;" (.ref ci)) (SL : Sta Z h0 "java/lang/Long$LongCache" "cache" "[Ljava/lang/Long;" (.ref cj)) (SA : Sta Z h0 "java/util/ArrayList" "DEFAULTCAPACITY_EMPTY_ELEMENTDATA" "[Ljava/lang/Object;" (.ref da)) (SS : Sta Z h0 "java/lang/String" "COMPACT_STRINGS" "Z" (.int cs)) (EUB : Exa Z h0 ub "java/lang/Object") (ECB : Exa Z h0 cb "java/lang/Object") (ETB : Exa Z h0 tb "java/lang/Boolean") (EFB : Exa Z h0 fb "java/lang/Boolean") (AI : Ar Z h0 ci (.object "java/lang/Integer") 256 (fun i => .ref (gi i))) (hEI : ∀ i, i < 256 → Exa Z h0 (gi i) "java/lang/Integer") (ALc : Ar Z h0 cj (.object "java/lang/Long") 256 (fun i => .ref (gl i))) (hEL : ∀ i, i < 256 → Exa Z h0 (gl i) "java/lang/Long") (hcs : ¬ (cs = (0 : Int32))) (hcu : cb ≠ ub) :
    OMet l (⟨"kindlewood/InterpreterIsNumberPinLaw", "make", "(IIJ)Ljava/lang/Object;"⟩ : MethodName) method_2_code 5 (Option.some (FieldType.object "java/lang/Object")) [] ({ frames := 4, cells := 3, slots := 8, locals := 66 } : Room) Z h0 [] #[(.int (4 : Int32)), (.int p1), (.long p2)] (fun v h' => ∃ b : Addr, v = some (.ref b) ∧ Exa Z h' b "java/lang/String") := by
  refine OMet.of (own := "kindlewood/InterpreterIsNumberPinLaw") (nm := "make") (plainFor_of_name pn_17) rfl rfl ?_
  intro p e s m below meth c T0 P0 hby hml hret hnm
  refine Done.step (T' := T0) (g' := (mkF m 0 #[.val (.int (4 : Int32)), .val (.int p1), .val (.long p2), .second, .unset] [])) (fun t kk => castTop (ef_mk4 m (4 : Int32) p1 p2) kk) ?_
  refine Done.stepL (pc' := 67) (st' := [(.int (2 : Int32))]) (fun t kk => ?_) ?_
  · show Steps p.tables e below (T0.setTop (mkF m 0 _ [])) t
    refine XS.iloadN P0.here P0.x rfl (hb hby d_mk4_0) rfl ?_
    show Steps p.tables e below (T0.setTop (mkF m 1 _ [(.int (4 : Int32))])) t
    refine XS.ifYes P0.here P0.x rfl (pc0 := 1) (pc' := 6) rfl (hb hby d_mk4_1) rfl (i0W_ne_t (by decide)) (by decide) (by decide) ?_
    show Steps p.tables e below (T0.setTop (mkF m 6 _ [])) t
    refine XS.iloadN P0.here P0.x rfl (hb hby d_mk4_6) rfl ?_
    show Steps p.tables e below (T0.setTop (mkF m 7 _ [(.int (4 : Int32))])) t
    refine XS.iconst P0.here P0.x rfl (hb hby d_mk4_7) ?_
    show Steps p.tables e below (T0.setTop (mkF m 8 _ [(.int (1 : Int32)), (.int (4 : Int32))])) t
    refine XS.icmpYes P0.here P0.x rfl (pc0 := 8) (pc' := 30) rfl (hb hby d_mk4_8) rfl (iiW_ne_t (by decide)) (by decide) (by decide) ?_
    show Steps p.tables e below (T0.setTop (mkF m 30 _ [])) t
    refine XS.iloadN P0.here P0.x rfl (hb hby d_mk4_30) rfl ?_
    show Steps p.tables e below (T0.setTop (mkF m 31 _ [(.int (4 : Int32))])) t
    refine XS.iconst P0.here P0.x rfl (hb hby d_mk4_31) ?_
    show Steps p.tables e below (T0.setTop (mkF m 32 _ [(.int (2 : Int32)), (.int (4 : Int32))])) t
    refine XS.icmpYes P0.here P0.x rfl (pc0 := 32) (pc' := 45) rfl (hb hby d_mk4_32) rfl (iiW_ne_t (by decide)) (by decide) (by decide) ?_
    show Steps p.tables e below (T0.setTop (mkF m 45 _ [])) t
    refine XS.iloadN P0.here P0.x rfl (hb hby d_mk4_45) rfl ?_
    show Steps p.tables e below (T0.setTop (mkF m 46 _ [(.int (4 : Int32))])) t
    refine XS.iconst P0.here P0.x rfl (hb hby d_mk4_46) ?_
    show Steps p.tables e below (T0.setTop (mkF m 47 _ [(.int (3 : Int32)), (.int (4 : Int32))])) t
    refine XS.icmpYes P0.here P0.x rfl (pc0 := 47) (pc' := 61) rfl (hb hby d_mk4_47) rfl (iiW_ne_t (by decide)) (by decide) (by decide) ?_
    show Steps p.tables e below (T0.setTop (mkF m 61 _ [])) t
    refine XS.iloadN P0.here P0.x rfl (hb hby d_mk4_61) rfl ?_
    show Steps p.tables e below (T0.setTop (mkF m 62 _ [(.int (4 : Int32))])) t
    refine XS.iconst P0.here P0.x rfl (hb hby d_mk4_62) ?_
    show Steps p.tables e below (T0.setTop (mkF m 63 _ [(.int (4 : Int32)), (.int (4 : Int32))])) t
    refine XS.icmpNo P0.here P0.x rfl (hb hby d_mk4_63) rfl (iiW_ne_f (by decide)) ?_
    show Steps p.tables e below (T0.setTop (mkF m 66 _ [])) t
    refine XS.iconst P0.here P0.x rfl (hb hby d_mk4_66) ?_
    exact kk
  refine wNewA (aty := .char) P0 (tw94 hw) (hb hby d_mk4_67) rfl (N := 2) rfl (cap := 2) (Nat.le_refl _) (by decide) (by decide) (by decide) (ad := "[C") (by decide) (ty := .char) (dv := (.int (0 : Int32))) rfl rfl (k' := 1) (n' := 2) rfl rfl (fun T1 h3 b4 g5 lt6 P2 E7 A8 X9 => ?_)
  have ge_b4 : h0.size ≤ b4 := by have := P0.ge; omega
  show Done _ _ _ _ _ _ _ _ _ _ _ _ _ _ _ T1 (mkF m 69 _ [(.ref b4)])
  refine Done.step (T' := T1) (g' := (mkF m 80 #[.val (.int (4 : Int32)), .val (.int p1), .val (.long p2), .second, .val (.ref b4)] [(.int (p1 &&& (255 : Int32)).toUInt32.toUInt16.toUInt32.toInt32), (.int (0 : Int32)), (.ref b4)])) (fun t kk => ?_) ?_
  · show Steps p.tables e below (T1.setTop (mkF m 69 _ [(.ref b4)])) t
    refine XS.astore P2.here P2.x rfl (hb hby d_mk4_69) rfl rfl (l' := #[.val (.int (4 : Int32)), .val (.int p1), .val (.long p2), .second, .val (.ref b4)]) rfl ?_
    show Steps p.tables e below (T1.setTop (mkF m 71 _ [])) t
    refine XS.aload P2.here P2.x rfl (hb hby d_mk4_71) rfl rfl ?_
    show Steps p.tables e below (T1.setTop (mkF m 73 _ [(.ref b4)])) t
    refine XS.iconst P2.here P2.x rfl (hb hby d_mk4_73) ?_
    show Steps p.tables e below (T1.setTop (mkF m 74 _ [(.int (0 : Int32)), (.ref b4)])) t
    refine XS.iloadN P2.here P2.x rfl (hb hby d_mk4_74) rfl ?_
    show Steps p.tables e below (T1.setTop (mkF m 75 _ [(.int p1), (.int (0 : Int32)), (.ref b4)])) t
    refine XS.sipush P2.here P2.x rfl (hb hby d_mk4_75) ?_
    show Steps p.tables e below (T1.setTop (mkF m 78 _ [(.int (255 : Int32)), (.int p1), (.int (0 : Int32)), (.ref b4)])) t
    refine XS.iand P2.here P2.x rfl (hb hby d_mk4_78) rfl ?_
    show Steps p.tables e below (T1.setTop (mkF m 79 _ [(.int (p1 &&& (255 : Int32))), (.int (0 : Int32)), (.ref b4)])) t
    refine XS.i2c P2.here P2.x rfl (hb hby d_mk4_79) rfl ?_
    exact kk
  refine wCastore P2 (f := (fun _ => (0 : Int32))) A8 (j := (0 : Int32)) (i := 0) rfl (by decide) (Or.inr ge_b4) (hb hby d_mk4_80) rfl (fun T10 h12 P11 W13 A14 => ?_)
  have szh12 : h12.size = h3.size := W13.size
  show Done _ _ _ _ _ _ _ _ _ _ _ _ _ _ _ T10 (mkF m 81 _ [])
  refine Done.stepL (pc' := 93) (st' := [(.int (((p1.toUInt32 >>> ((8 : Int32) &&& 31).toUInt32).toInt32) &&& (255 : Int32)).toUInt32.toUInt16.toUInt32.toInt32), (.int (1 : Int32)), (.ref b4)]) (fun t kk => ?_) ?_
  · show Steps p.tables e below (T10.setTop (mkF m 81 _ [])) t
    refine XS.aload P11.here P11.x rfl (hb hby d_mk4_81) rfl rfl ?_
    show Steps p.tables e below (T10.setTop (mkF m 83 _ [(.ref b4)])) t
    refine XS.iconst P11.here P11.x rfl (hb hby d_mk4_83) ?_
    show Steps p.tables e below (T10.setTop (mkF m 84 _ [(.int (1 : Int32)), (.ref b4)])) t
    refine XS.iloadN P11.here P11.x rfl (hb hby d_mk4_84) rfl ?_
    show Steps p.tables e below (T10.setTop (mkF m 85 _ [(.int p1), (.int (1 : Int32)), (.ref b4)])) t
    refine XS.bipush P11.here P11.x rfl (hb hby d_mk4_85) ?_
    show Steps p.tables e below (T10.setTop (mkF m 87 _ [(.int (8 : Int32)), (.int p1), (.int (1 : Int32)), (.ref b4)])) t
    refine XS.iushr P11.here P11.x rfl (hb hby d_mk4_87) rfl ?_
    show Steps p.tables e below (T10.setTop (mkF m 88 _ [(.int ((p1.toUInt32 >>> ((8 : Int32) &&& 31).toUInt32).toInt32)), (.int (1 : Int32)), (.ref b4)])) t
    refine XS.sipush P11.here P11.x rfl (hb hby d_mk4_88) ?_
    show Steps p.tables e below (T10.setTop (mkF m 91 _ [(.int (255 : Int32)), (.int ((p1.toUInt32 >>> ((8 : Int32) &&& 31).toUInt32).toInt32)), (.int (1 : Int32)), (.ref b4)])) t
    refine XS.iand P11.here P11.x rfl (hb hby d_mk4_91) rfl ?_
    show Steps p.tables e below (T10.setTop (mkF m 92 _ [(.int (((p1.toUInt32 >>> ((8 : Int32) &&& 31).toUInt32).toInt32) &&& (255 : Int32))), (.int (1 : Int32)), (.ref b4)])) t
    refine XS.i2c P11.here P11.x rfl (hb hby d_mk4_92) rfl ?_
    exact kk
  refine wCastore P11 (f := (oupd (fun _ => (0 : Int32)) 0 (nar .char (p1 &&& (255 : Int32)).toUInt32.toUInt16.toUInt32.toInt32))) A14 (j := (1 : Int32)) (i := 1) rfl (by decide) (Or.inr ge_b4) (hb hby d_mk4_93) rfl (fun T15 h17 P16 W18 A19 => ?_)
  have szh17 : h17.size = h12.size := W18.size
  show Done _ _ _ _ _ _ _ _ _ _ _ _ _ _ _ T15 (mkF m 94 _ [])
  refine wNew P16 (tw95 hw) (tw96 hw) (tw97 hw) (hb hby d_mk4_94) rfl (by decide) (by decide) (k' := 2) (n' := 6) rfl rfl (fun T20 h22 b23 g24 lt25 P21 E26 X27 D28 => ?_)
  have ge_b23 : h0.size ≤ b23 := by have := P16.ge; omega
  have F29 : Fld Z h22 b23 "java/lang/String" "coder" "B" (.int (0 : Int32)) := D28 (Or.inr (tw119 hw)) (ty := .byte) (by decide)
  have F30 : Fld Z h22 b23 "java/lang/String" "value" "[B" .null := D28 (Or.inr (tw121 hw)) (ty := (.array .byte)) (by decide)
  show Done _ _ _ _ _ _ _ _ _ _ _ _ _ _ _ T20 (mkF m 97 _ [(.ref b23)])
  refine Done.stepL (pc' := 100) (st' := [(.ref b4), (.ref b23), (.ref b23)]) (fun t kk => ?_) ?_
  · show Steps p.tables e below (T20.setTop (mkF m 97 _ [(.ref b23)])) t
    refine XS.dup P21.here P21.x rfl (hb hby d_mk4_97) rfl rfl ?_
    show Steps p.tables e below (T20.setTop (mkF m 98 _ [(.ref b23), (.ref b23)])) t
    refine XS.aload P21.here P21.x rfl (hb hby d_mk4_98) rfl rfl ?_
    exact kk
  have f33 := (A19.ext E26)
  have f34 := ((((SS.ext E7).wr W13).wr W18).ext E26)
  refine wCallI P21 (m_str1 l Z a0 hw hs b23 b4 (oupd (oupd (fun _ => (0 : Int32)) 0 (nar .char (p1 &&& (255 : Int32)).toUInt32.toUInt16.toUInt32.toInt32)) 1 (nar .char (((p1.toUInt32 >>> ((8 : Int32) &&& 31).toUInt32).toInt32) &&& (255 : Int32)).toUInt32.toUInt16.toUInt32.toInt32)) cs h22 X27 F30 F29 (by first | assumption | exact Ne.symm (by assumption) | exact adr_ne (by omega) | omega) f33 (own_q _) (own_q _) f34 hcs) rfl (tw98 hw) (tw99 hw) (tw97 hw) (tw100 hw) (by decide) (a := b23) (by rw [hml]; rfl) (lenOf pd_10 rfl) (argsL := [(.ref b4)]) (rest := [(.ref b23)]) rfl rfl (W := 1) (Nat.le_of_eq rfl) (by decide) (by decide) (by decide) (by decide) (allS (Or.inr ge_b23) all0) (hb hby d_mk4_100) rfl (k' := 3) (n' := 8) rfl rfl ?_
  rintro T31 h35 _ P32 K36 rfl
  have szh35 : h22.size ≤ h35.size := K36.1
  show Done _ _ _ _ _ _ _ _ _ _ _ _ _ _ _ T31 (mkF m 103 _ [(.ref b23)])
  have f37 := (X27.keep K36)
  exact wRetA P32 hret rfl rfl (hb hby d_mk4_103) ⟨b23, rfl, f37⟩
theorem ef_mk5 (m : MethodId) (x0 : Int32) (x1 : Int32) (x2 : Int64) : entryFrame m #[(.int x0), (.int x1), (.long x2)] 5 = mkF m 0 #[.val (.int x0), .val (.int x1), .val (.long x2), .second, .unset] [] := by first | (simp [entryFrame, mkF, argsToLocals, Value.category]; done) | rfl
theorem d_mk5_0 : decode method_2_code 0 = .ok (.iload_n 0, 1) := by decide +kernel
theorem d_mk5_1 : decode method_2_code 1 = .ok (.ifCond .ne 5, 3) := by decide +kernel
theorem d_mk5_6 : decode method_2_code 6 = .ok (.iload_n 0, 1) := by decide +kernel
theorem d_mk5_7 : decode method_2_code 7 = .ok (.iconst 1, 1) := by decide +kernel
theorem d_mk5_8 : decode method_2_code 8 = .ok (.if_icmp .ne 22, 3) := by decide +kernel
theorem d_mk5_30 : decode method_2_code 30 = .ok (.iload_n 0, 1) := by decide +kernel
theorem d_mk5_31 : decode method_2_code 31 = .ok (.iconst 2, 1) := by decide +kernel
theorem d_mk5_32 : decode method_2_code 32 = .ok (.if_icmp .ne 13, 3) := by decide +kernel
theorem d_mk5_45 : decode method_2_code 45 = .ok (.iload_n 0, 1) := by decide +kernel
theorem d_mk5_46 : decode method_2_code 46 = .ok (.iconst 3, 1) := by decide +kernel
theorem d_mk5_47 : decode method_2_code 47 = .ok (.if_icmp .ne 14, 3) := by decide +kernel
theorem d_mk5_61 : decode method_2_code 61 = .ok (.iload_n 0, 1) := by decide +kernel
theorem d_mk5_62 : decode method_2_code 62 = .ok (.iconst 4, 1) := by decide +kernel
theorem d_mk5_63 : decode method_2_code 63 = .ok (.if_icmp .ne 41, 3) := by decide +kernel
theorem d_mk5_104 : decode method_2_code 104 = .ok (.iload_n 0, 1) := by decide +kernel
theorem d_mk5_105 : decode method_2_code 105 = .ok (.iconst 5, 1) := by decide +kernel
theorem d_mk5_106 : decode method_2_code 106 = .ok (.if_icmp .ne 7, 3) := by decide +kernel
theorem d_mk5_109 : decode method_2_code 109 = .ok (.getstatic 23, 3) := by decide +kernel
theorem d_mk5_112 : decode method_2_code 112 = .ok (.areturn, 1) := by decide +kernel
set_option maxRecDepth 65536 in
set_option maxHeartbeats 4000000 in
theorem m_mk5 (l : Launch) (Z : State) (a0 : Array Value) (hw : ∀ d ∈ tables_1, d.before a0 Z = true) (hs : ∀ d ∈ jdkStatics_1, d.before a0 Z = true) (p1 : Int32) (p2 : Int64) (ub cb tb fb ci cj da : Addr) (gi gl : Nat → Addr) (cs : Int32) (h0 : Heap) (SU : Sta Z h0 "kindlewood/Variables" "UNBOXED" "Ljava/lang/Object;" (.ref ub)) (SC : Sta Z h0 "kindlewood/StmtCode" "COMPLETED" "Ljava/lang/Object;" (.ref cb)) (ST : Sta Z h0 "java/lang/Boolean" "TRUE" "Ljava/lang/Boolean;" (.ref tb)) (SF : Sta Z h0 "java/lang/Boolean" "FALSE" "Ljava/lang/Boolean;" (.ref fb)) (SH : Sta Z h0 "java/lang/Integer$IntegerCache" "high" "I" (.int 127)) (SI : Sta Z h0 "java/lang/Integer$IntegerCache" "cache" "[Ljava/lang/Integer;" (.ref ci)) (SL : Sta Z h0 "java/lang/Long$LongCache" "cache" "[Ljava/lang/Long;" (.ref cj)) (SA : Sta Z h0 "java/util/ArrayList" "DEFAULTCAPACITY_EMPTY_ELEMENTDATA" "[Ljava/lang/Object;" (.ref da)) (SS : Sta Z h0 "java/lang/String" "COMPACT_STRINGS" "Z" (.int cs)) (EUB : Exa Z h0 ub "java/lang/Object") (ECB : Exa Z h0 cb "java/lang/Object") (ETB : Exa Z h0 tb "java/lang/Boolean") (EFB : Exa Z h0 fb "java/lang/Boolean") (AI : Ar Z h0 ci (.object "java/lang/Integer") 256 (fun i => .ref (gi i))) (hEI : ∀ i, i < 256 → Exa Z h0 (gi i) "java/lang/Integer") (ALc : Ar Z h0 cj (.object "java/lang/Long") 256 (fun i => .ref (gl i))) (hEL : ∀ i, i < 256 → Exa Z h0 (gl i) "java/lang/Long") (hcs : ¬ (cs = (0 : Int32))) (hcu : cb ≠ ub) :
    OMet l (⟨"kindlewood/InterpreterIsNumberPinLaw", "make", "(IIJ)Ljava/lang/Object;"⟩ : MethodName) method_2_code 5 (Option.some (FieldType.object "java/lang/Object")) [] ({ frames := 0, cells := 0, slots := 0, locals := 0 } : Room) Z h0 [] #[(.int (5 : Int32)), (.int p1), (.long p2)] (fun v h' => v = some (.ref ub) ∧ h0 = h') := by
  refine OMet.of (own := "kindlewood/InterpreterIsNumberPinLaw") (nm := "make") (plainFor_of_name pn_17) rfl rfl ?_
  intro p e s m below meth c T0 P0 hby hml hret hnm
  refine Done.step (T' := T0) (g' := (mkF m 0 #[.val (.int (5 : Int32)), .val (.int p1), .val (.long p2), .second, .unset] [])) (fun t kk => castTop (ef_mk5 m (5 : Int32) p1 p2) kk) ?_
  refine Done.stepL (pc' := 109) (st' := []) (fun t kk => ?_) ?_
  · show Steps p.tables e below (T0.setTop (mkF m 0 _ [])) t
    refine XS.iloadN P0.here P0.x rfl (hb hby d_mk5_0) rfl ?_
    show Steps p.tables e below (T0.setTop (mkF m 1 _ [(.int (5 : Int32))])) t
    refine XS.ifYes P0.here P0.x rfl (pc0 := 1) (pc' := 6) rfl (hb hby d_mk5_1) rfl (i0W_ne_t (by decide)) (by decide) (by decide) ?_
    show Steps p.tables e below (T0.setTop (mkF m 6 _ [])) t
    refine XS.iloadN P0.here P0.x rfl (hb hby d_mk5_6) rfl ?_
    show Steps p.tables e below (T0.setTop (mkF m 7 _ [(.int (5 : Int32))])) t
    refine XS.iconst P0.here P0.x rfl (hb hby d_mk5_7) ?_
    show Steps p.tables e below (T0.setTop (mkF m 8 _ [(.int (1 : Int32)), (.int (5 : Int32))])) t
    refine XS.icmpYes P0.here P0.x rfl (pc0 := 8) (pc' := 30) rfl (hb hby d_mk5_8) rfl (iiW_ne_t (by decide)) (by decide) (by decide) ?_
    show Steps p.tables e below (T0.setTop (mkF m 30 _ [])) t
    refine XS.iloadN P0.here P0.x rfl (hb hby d_mk5_30) rfl ?_
    show Steps p.tables e below (T0.setTop (mkF m 31 _ [(.int (5 : Int32))])) t
    refine XS.iconst P0.here P0.x rfl (hb hby d_mk5_31) ?_
    show Steps p.tables e below (T0.setTop (mkF m 32 _ [(.int (2 : Int32)), (.int (5 : Int32))])) t
    refine XS.icmpYes P0.here P0.x rfl (pc0 := 32) (pc' := 45) rfl (hb hby d_mk5_32) rfl (iiW_ne_t (by decide)) (by decide) (by decide) ?_
    show Steps p.tables e below (T0.setTop (mkF m 45 _ [])) t
    refine XS.iloadN P0.here P0.x rfl (hb hby d_mk5_45) rfl ?_
    show Steps p.tables e below (T0.setTop (mkF m 46 _ [(.int (5 : Int32))])) t
    refine XS.iconst P0.here P0.x rfl (hb hby d_mk5_46) ?_
    show Steps p.tables e below (T0.setTop (mkF m 47 _ [(.int (3 : Int32)), (.int (5 : Int32))])) t
    refine XS.icmpYes P0.here P0.x rfl (pc0 := 47) (pc' := 61) rfl (hb hby d_mk5_47) rfl (iiW_ne_t (by decide)) (by decide) (by decide) ?_
    show Steps p.tables e below (T0.setTop (mkF m 61 _ [])) t
    refine XS.iloadN P0.here P0.x rfl (hb hby d_mk5_61) rfl ?_
    show Steps p.tables e below (T0.setTop (mkF m 62 _ [(.int (5 : Int32))])) t
    refine XS.iconst P0.here P0.x rfl (hb hby d_mk5_62) ?_
    show Steps p.tables e below (T0.setTop (mkF m 63 _ [(.int (4 : Int32)), (.int (5 : Int32))])) t
    refine XS.icmpYes P0.here P0.x rfl (pc0 := 63) (pc' := 104) rfl (hb hby d_mk5_63) rfl (iiW_ne_t (by decide)) (by decide) (by decide) ?_
    show Steps p.tables e below (T0.setTop (mkF m 104 _ [])) t
    refine XS.iloadN P0.here P0.x rfl (hb hby d_mk5_104) rfl ?_
    show Steps p.tables e below (T0.setTop (mkF m 105 _ [(.int (5 : Int32))])) t
    refine XS.iconst P0.here P0.x rfl (hb hby d_mk5_105) ?_
    show Steps p.tables e below (T0.setTop (mkF m 106 _ [(.int (5 : Int32)), (.int (5 : Int32))])) t
    refine XS.icmpNo P0.here P0.x rfl (hb hby d_mk5_106) rfl (iiW_ne_f (by decide)) ?_
    exact kk
  refine wGetS P0 (host := "") (Or.inl (tw136 hw)) Via.refl SU (hb hby d_mk5_109) rfl (fun T1 P2 => ?_)
  show Done _ _ _ _ _ _ _ _ _ _ _ _ _ _ _ T1 (mkF m 112 _ [(.ref ub)])
  exact wRetA P2 hret rfl rfl (hb hby d_mk5_112) ⟨rfl, rfl⟩
theorem ef_mk6 (m : MethodId) (x0 : Int32) (x1 : Int32) (x2 : Int64) : entryFrame m #[(.int x0), (.int x1), (.long x2)] 5 = mkF m 0 #[.val (.int x0), .val (.int x1), .val (.long x2), .second, .unset] [] := by first | (simp [entryFrame, mkF, argsToLocals, Value.category]; done) | rfl
theorem d_mk6_0 : decode method_2_code 0 = .ok (.iload_n 0, 1) := by decide +kernel
theorem d_mk6_1 : decode method_2_code 1 = .ok (.ifCond .ne 5, 3) := by decide +kernel
theorem d_mk6_6 : decode method_2_code 6 = .ok (.iload_n 0, 1) := by decide +kernel
theorem d_mk6_7 : decode method_2_code 7 = .ok (.iconst 1, 1) := by decide +kernel
theorem d_mk6_8 : decode method_2_code 8 = .ok (.if_icmp .ne 22, 3) := by decide +kernel
theorem d_mk6_30 : decode method_2_code 30 = .ok (.iload_n 0, 1) := by decide +kernel
theorem d_mk6_31 : decode method_2_code 31 = .ok (.iconst 2, 1) := by decide +kernel
theorem d_mk6_32 : decode method_2_code 32 = .ok (.if_icmp .ne 13, 3) := by decide +kernel
theorem d_mk6_45 : decode method_2_code 45 = .ok (.iload_n 0, 1) := by decide +kernel
theorem d_mk6_46 : decode method_2_code 46 = .ok (.iconst 3, 1) := by decide +kernel
theorem d_mk6_47 : decode method_2_code 47 = .ok (.if_icmp .ne 14, 3) := by decide +kernel
theorem d_mk6_61 : decode method_2_code 61 = .ok (.iload_n 0, 1) := by decide +kernel
theorem d_mk6_62 : decode method_2_code 62 = .ok (.iconst 4, 1) := by decide +kernel
theorem d_mk6_63 : decode method_2_code 63 = .ok (.if_icmp .ne 41, 3) := by decide +kernel
theorem d_mk6_104 : decode method_2_code 104 = .ok (.iload_n 0, 1) := by decide +kernel
theorem d_mk6_105 : decode method_2_code 105 = .ok (.iconst 5, 1) := by decide +kernel
theorem d_mk6_106 : decode method_2_code 106 = .ok (.if_icmp .ne 7, 3) := by decide +kernel
theorem d_mk6_113 : decode method_2_code 113 = .ok (.iload_n 0, 1) := by decide +kernel
theorem d_mk6_114 : decode method_2_code 114 = .ok (.bipush 6, 2) := by decide +kernel
theorem d_mk6_116 : decode method_2_code 116 = .ok (.if_icmp .ne 7, 3) := by decide +kernel
theorem d_mk6_119 : decode method_2_code 119 = .ok (.getstatic 29, 3) := by decide +kernel
theorem d_mk6_122 : decode method_2_code 122 = .ok (.areturn, 1) := by decide +kernel
set_option maxRecDepth 65536 in
set_option maxHeartbeats 4000000 in
theorem m_mk6 (l : Launch) (Z : State) (a0 : Array Value) (hw : ∀ d ∈ tables_1, d.before a0 Z = true) (hs : ∀ d ∈ jdkStatics_1, d.before a0 Z = true) (p1 : Int32) (p2 : Int64) (ub cb tb fb ci cj da : Addr) (gi gl : Nat → Addr) (cs : Int32) (h0 : Heap) (SU : Sta Z h0 "kindlewood/Variables" "UNBOXED" "Ljava/lang/Object;" (.ref ub)) (SC : Sta Z h0 "kindlewood/StmtCode" "COMPLETED" "Ljava/lang/Object;" (.ref cb)) (ST : Sta Z h0 "java/lang/Boolean" "TRUE" "Ljava/lang/Boolean;" (.ref tb)) (SF : Sta Z h0 "java/lang/Boolean" "FALSE" "Ljava/lang/Boolean;" (.ref fb)) (SH : Sta Z h0 "java/lang/Integer$IntegerCache" "high" "I" (.int 127)) (SI : Sta Z h0 "java/lang/Integer$IntegerCache" "cache" "[Ljava/lang/Integer;" (.ref ci)) (SL : Sta Z h0 "java/lang/Long$LongCache" "cache" "[Ljava/lang/Long;" (.ref cj)) (SA : Sta Z h0 "java/util/ArrayList" "DEFAULTCAPACITY_EMPTY_ELEMENTDATA" "[Ljava/lang/Object;" (.ref da)) (SS : Sta Z h0 "java/lang/String" "COMPACT_STRINGS" "Z" (.int cs)) (EUB : Exa Z h0 ub "java/lang/Object") (ECB : Exa Z h0 cb "java/lang/Object") (ETB : Exa Z h0 tb "java/lang/Boolean") (EFB : Exa Z h0 fb "java/lang/Boolean") (AI : Ar Z h0 ci (.object "java/lang/Integer") 256 (fun i => .ref (gi i))) (hEI : ∀ i, i < 256 → Exa Z h0 (gi i) "java/lang/Integer") (ALc : Ar Z h0 cj (.object "java/lang/Long") 256 (fun i => .ref (gl i))) (hEL : ∀ i, i < 256 → Exa Z h0 (gl i) "java/lang/Long") (hcs : ¬ (cs = (0 : Int32))) (hcu : cb ≠ ub) :
    OMet l (⟨"kindlewood/InterpreterIsNumberPinLaw", "make", "(IIJ)Ljava/lang/Object;"⟩ : MethodName) method_2_code 5 (Option.some (FieldType.object "java/lang/Object")) [] ({ frames := 0, cells := 0, slots := 0, locals := 0 } : Room) Z h0 [] #[(.int (6 : Int32)), (.int p1), (.long p2)] (fun v h' => v = some (.ref cb) ∧ h0 = h') := by
  refine OMet.of (own := "kindlewood/InterpreterIsNumberPinLaw") (nm := "make") (plainFor_of_name pn_17) rfl rfl ?_
  intro p e s m below meth c T0 P0 hby hml hret hnm
  refine Done.step (T' := T0) (g' := (mkF m 0 #[.val (.int (6 : Int32)), .val (.int p1), .val (.long p2), .second, .unset] [])) (fun t kk => castTop (ef_mk6 m (6 : Int32) p1 p2) kk) ?_
  refine Done.stepL (pc' := 119) (st' := []) (fun t kk => ?_) ?_
  · show Steps p.tables e below (T0.setTop (mkF m 0 _ [])) t
    refine XS.iloadN P0.here P0.x rfl (hb hby d_mk6_0) rfl ?_
    show Steps p.tables e below (T0.setTop (mkF m 1 _ [(.int (6 : Int32))])) t
    refine XS.ifYes P0.here P0.x rfl (pc0 := 1) (pc' := 6) rfl (hb hby d_mk6_1) rfl (i0W_ne_t (by decide)) (by decide) (by decide) ?_
    show Steps p.tables e below (T0.setTop (mkF m 6 _ [])) t
    refine XS.iloadN P0.here P0.x rfl (hb hby d_mk6_6) rfl ?_
    show Steps p.tables e below (T0.setTop (mkF m 7 _ [(.int (6 : Int32))])) t
    refine XS.iconst P0.here P0.x rfl (hb hby d_mk6_7) ?_
    show Steps p.tables e below (T0.setTop (mkF m 8 _ [(.int (1 : Int32)), (.int (6 : Int32))])) t
    refine XS.icmpYes P0.here P0.x rfl (pc0 := 8) (pc' := 30) rfl (hb hby d_mk6_8) rfl (iiW_ne_t (by decide)) (by decide) (by decide) ?_
    show Steps p.tables e below (T0.setTop (mkF m 30 _ [])) t
    refine XS.iloadN P0.here P0.x rfl (hb hby d_mk6_30) rfl ?_
    show Steps p.tables e below (T0.setTop (mkF m 31 _ [(.int (6 : Int32))])) t
    refine XS.iconst P0.here P0.x rfl (hb hby d_mk6_31) ?_
    show Steps p.tables e below (T0.setTop (mkF m 32 _ [(.int (2 : Int32)), (.int (6 : Int32))])) t
    refine XS.icmpYes P0.here P0.x rfl (pc0 := 32) (pc' := 45) rfl (hb hby d_mk6_32) rfl (iiW_ne_t (by decide)) (by decide) (by decide) ?_
    show Steps p.tables e below (T0.setTop (mkF m 45 _ [])) t
    refine XS.iloadN P0.here P0.x rfl (hb hby d_mk6_45) rfl ?_
    show Steps p.tables e below (T0.setTop (mkF m 46 _ [(.int (6 : Int32))])) t
    refine XS.iconst P0.here P0.x rfl (hb hby d_mk6_46) ?_
    show Steps p.tables e below (T0.setTop (mkF m 47 _ [(.int (3 : Int32)), (.int (6 : Int32))])) t
    refine XS.icmpYes P0.here P0.x rfl (pc0 := 47) (pc' := 61) rfl (hb hby d_mk6_47) rfl (iiW_ne_t (by decide)) (by decide) (by decide) ?_
    show Steps p.tables e below (T0.setTop (mkF m 61 _ [])) t
    refine XS.iloadN P0.here P0.x rfl (hb hby d_mk6_61) rfl ?_
    show Steps p.tables e below (T0.setTop (mkF m 62 _ [(.int (6 : Int32))])) t
    refine XS.iconst P0.here P0.x rfl (hb hby d_mk6_62) ?_
    show Steps p.tables e below (T0.setTop (mkF m 63 _ [(.int (4 : Int32)), (.int (6 : Int32))])) t
    refine XS.icmpYes P0.here P0.x rfl (pc0 := 63) (pc' := 104) rfl (hb hby d_mk6_63) rfl (iiW_ne_t (by decide)) (by decide) (by decide) ?_
    show Steps p.tables e below (T0.setTop (mkF m 104 _ [])) t
    refine XS.iloadN P0.here P0.x rfl (hb hby d_mk6_104) rfl ?_
    show Steps p.tables e below (T0.setTop (mkF m 105 _ [(.int (6 : Int32))])) t
    refine XS.iconst P0.here P0.x rfl (hb hby d_mk6_105) ?_
    show Steps p.tables e below (T0.setTop (mkF m 106 _ [(.int (5 : Int32)), (.int (6 : Int32))])) t
    refine XS.icmpYes P0.here P0.x rfl (pc0 := 106) (pc' := 113) rfl (hb hby d_mk6_106) rfl (iiW_ne_t (by decide)) (by decide) (by decide) ?_
    show Steps p.tables e below (T0.setTop (mkF m 113 _ [])) t
    refine XS.iloadN P0.here P0.x rfl (hb hby d_mk6_113) rfl ?_
    show Steps p.tables e below (T0.setTop (mkF m 114 _ [(.int (6 : Int32))])) t
    refine XS.bipush P0.here P0.x rfl (hb hby d_mk6_114) ?_
    show Steps p.tables e below (T0.setTop (mkF m 116 _ [(.int (6 : Int32)), (.int (6 : Int32))])) t
    refine XS.icmpNo P0.here P0.x rfl (hb hby d_mk6_116) rfl (iiW_ne_f (by decide)) ?_
    exact kk
  refine wGetS P0 (host := "") (Or.inl (tw133 hw)) Via.refl SC (hb hby d_mk6_119) rfl (fun T1 P2 => ?_)
  show Done _ _ _ _ _ _ _ _ _ _ _ _ _ _ _ T1 (mkF m 122 _ [(.ref cb)])
  exact wRetA P2 hret rfl rfl (hb hby d_mk6_122) ⟨rfl, rfl⟩
theorem ef_mk7 (m : MethodId) (x0 : Int32) (x1 : Int32) (x2 : Int64) : entryFrame m #[(.int x0), (.int x1), (.long x2)] 5 = mkF m 0 #[.val (.int x0), .val (.int x1), .val (.long x2), .second, .unset] [] := by first | (simp [entryFrame, mkF, argsToLocals, Value.category]; done) | rfl
theorem d_mk7_0 : decode method_2_code 0 = .ok (.iload_n 0, 1) := by decide +kernel
theorem d_mk7_1 : decode method_2_code 1 = .ok (.ifCond .ne 5, 3) := by decide +kernel
theorem d_mk7_6 : decode method_2_code 6 = .ok (.iload_n 0, 1) := by decide +kernel
theorem d_mk7_7 : decode method_2_code 7 = .ok (.iconst 1, 1) := by decide +kernel
theorem d_mk7_8 : decode method_2_code 8 = .ok (.if_icmp .ne 22, 3) := by decide +kernel
theorem d_mk7_30 : decode method_2_code 30 = .ok (.iload_n 0, 1) := by decide +kernel
theorem d_mk7_31 : decode method_2_code 31 = .ok (.iconst 2, 1) := by decide +kernel
theorem d_mk7_32 : decode method_2_code 32 = .ok (.if_icmp .ne 13, 3) := by decide +kernel
theorem d_mk7_45 : decode method_2_code 45 = .ok (.iload_n 0, 1) := by decide +kernel
theorem d_mk7_46 : decode method_2_code 46 = .ok (.iconst 3, 1) := by decide +kernel
theorem d_mk7_47 : decode method_2_code 47 = .ok (.if_icmp .ne 14, 3) := by decide +kernel
theorem d_mk7_61 : decode method_2_code 61 = .ok (.iload_n 0, 1) := by decide +kernel
theorem d_mk7_62 : decode method_2_code 62 = .ok (.iconst 4, 1) := by decide +kernel
theorem d_mk7_63 : decode method_2_code 63 = .ok (.if_icmp .ne 41, 3) := by decide +kernel
theorem d_mk7_104 : decode method_2_code 104 = .ok (.iload_n 0, 1) := by decide +kernel
theorem d_mk7_105 : decode method_2_code 105 = .ok (.iconst 5, 1) := by decide +kernel
theorem d_mk7_106 : decode method_2_code 106 = .ok (.if_icmp .ne 7, 3) := by decide +kernel
theorem d_mk7_113 : decode method_2_code 113 = .ok (.iload_n 0, 1) := by decide +kernel
theorem d_mk7_114 : decode method_2_code 114 = .ok (.bipush 6, 2) := by decide +kernel
theorem d_mk7_116 : decode method_2_code 116 = .ok (.if_icmp .ne 7, 3) := by decide +kernel
theorem d_mk7_123 : decode method_2_code 123 = .ok (.iload_n 0, 1) := by decide +kernel
theorem d_mk7_124 : decode method_2_code 124 = .ok (.bipush 7, 2) := by decide +kernel
theorem d_mk7_126 : decode method_2_code 126 = .ok (.if_icmp .ne 8, 3) := by decide +kernel
theorem d_mk7_129 : decode method_2_code 129 = .ok (.iload_n 1, 1) := by decide +kernel
theorem d_mk7_130 : decode method_2_code 130 = .ok (.invokestatic 34, 3) := by decide +kernel
theorem d_mk7_133 : decode method_2_code 133 = .ok (.areturn, 1) := by decide +kernel
set_option maxRecDepth 65536 in
set_option maxHeartbeats 4000000 in
theorem m_mk7 (l : Launch) (Z : State) (a0 : Array Value) (hw : ∀ d ∈ tables_1, d.before a0 Z = true) (hs : ∀ d ∈ jdkStatics_1, d.before a0 Z = true) (p1 : Int32) (p2 : Int64) (ub cb tb fb ci cj da : Addr) (gi gl : Nat → Addr) (cs : Int32) (h0 : Heap) (SU : Sta Z h0 "kindlewood/Variables" "UNBOXED" "Ljava/lang/Object;" (.ref ub)) (SC : Sta Z h0 "kindlewood/StmtCode" "COMPLETED" "Ljava/lang/Object;" (.ref cb)) (ST : Sta Z h0 "java/lang/Boolean" "TRUE" "Ljava/lang/Boolean;" (.ref tb)) (SF : Sta Z h0 "java/lang/Boolean" "FALSE" "Ljava/lang/Boolean;" (.ref fb)) (SH : Sta Z h0 "java/lang/Integer$IntegerCache" "high" "I" (.int 127)) (SI : Sta Z h0 "java/lang/Integer$IntegerCache" "cache" "[Ljava/lang/Integer;" (.ref ci)) (SL : Sta Z h0 "java/lang/Long$LongCache" "cache" "[Ljava/lang/Long;" (.ref cj)) (SA : Sta Z h0 "java/util/ArrayList" "DEFAULTCAPACITY_EMPTY_ELEMENTDATA" "[Ljava/lang/Object;" (.ref da)) (SS : Sta Z h0 "java/lang/String" "COMPACT_STRINGS" "Z" (.int cs)) (EUB : Exa Z h0 ub "java/lang/Object") (ECB : Exa Z h0 cb "java/lang/Object") (ETB : Exa Z h0 tb "java/lang/Boolean") (EFB : Exa Z h0 fb "java/lang/Boolean") (AI : Ar Z h0 ci (.object "java/lang/Integer") 256 (fun i => .ref (gi i))) (hEI : ∀ i, i < 256 → Exa Z h0 (gi i) "java/lang/Integer") (ALc : Ar Z h0 cj (.object "java/lang/Long") 256 (fun i => .ref (gl i))) (hEL : ∀ i, i < 256 → Exa Z h0 (gl i) "java/lang/Long") (hcs : ¬ (cs = (0 : Int32))) (hcu : cb ≠ ub) :
    OMet l (⟨"kindlewood/InterpreterIsNumberPinLaw", "make", "(IIJ)Ljava/lang/Object;"⟩ : MethodName) method_2_code 5 (Option.some (FieldType.object "java/lang/Object")) [] ({ frames := 4, cells := 1, slots := 1, locals := 50 } : Room) Z h0 [] #[(.int (7 : Int32)), (.int p1), (.long p2)] (fun v h' => ∃ b : Addr, v = some (.ref b) ∧ Exa Z h' b "java/lang/Integer") := by
  refine OMet.of (own := "kindlewood/InterpreterIsNumberPinLaw") (nm := "make") (plainFor_of_name pn_17) rfl rfl ?_
  intro p e s m below meth c T0 P0 hby hml hret hnm
  refine Done.step (T' := T0) (g' := (mkF m 0 #[.val (.int (7 : Int32)), .val (.int p1), .val (.long p2), .second, .unset] [])) (fun t kk => castTop (ef_mk7 m (7 : Int32) p1 p2) kk) ?_
  refine Done.stepL (pc' := 130) (st' := [(.int p1)]) (fun t kk => ?_) ?_
  · show Steps p.tables e below (T0.setTop (mkF m 0 _ [])) t
    refine XS.iloadN P0.here P0.x rfl (hb hby d_mk7_0) rfl ?_
    show Steps p.tables e below (T0.setTop (mkF m 1 _ [(.int (7 : Int32))])) t
    refine XS.ifYes P0.here P0.x rfl (pc0 := 1) (pc' := 6) rfl (hb hby d_mk7_1) rfl (i0W_ne_t (by decide)) (by decide) (by decide) ?_
    show Steps p.tables e below (T0.setTop (mkF m 6 _ [])) t
    refine XS.iloadN P0.here P0.x rfl (hb hby d_mk7_6) rfl ?_
    show Steps p.tables e below (T0.setTop (mkF m 7 _ [(.int (7 : Int32))])) t
    refine XS.iconst P0.here P0.x rfl (hb hby d_mk7_7) ?_
    show Steps p.tables e below (T0.setTop (mkF m 8 _ [(.int (1 : Int32)), (.int (7 : Int32))])) t
    refine XS.icmpYes P0.here P0.x rfl (pc0 := 8) (pc' := 30) rfl (hb hby d_mk7_8) rfl (iiW_ne_t (by decide)) (by decide) (by decide) ?_
    show Steps p.tables e below (T0.setTop (mkF m 30 _ [])) t
    refine XS.iloadN P0.here P0.x rfl (hb hby d_mk7_30) rfl ?_
    show Steps p.tables e below (T0.setTop (mkF m 31 _ [(.int (7 : Int32))])) t
    refine XS.iconst P0.here P0.x rfl (hb hby d_mk7_31) ?_
    show Steps p.tables e below (T0.setTop (mkF m 32 _ [(.int (2 : Int32)), (.int (7 : Int32))])) t
    refine XS.icmpYes P0.here P0.x rfl (pc0 := 32) (pc' := 45) rfl (hb hby d_mk7_32) rfl (iiW_ne_t (by decide)) (by decide) (by decide) ?_
    show Steps p.tables e below (T0.setTop (mkF m 45 _ [])) t
    refine XS.iloadN P0.here P0.x rfl (hb hby d_mk7_45) rfl ?_
    show Steps p.tables e below (T0.setTop (mkF m 46 _ [(.int (7 : Int32))])) t
    refine XS.iconst P0.here P0.x rfl (hb hby d_mk7_46) ?_
    show Steps p.tables e below (T0.setTop (mkF m 47 _ [(.int (3 : Int32)), (.int (7 : Int32))])) t
    refine XS.icmpYes P0.here P0.x rfl (pc0 := 47) (pc' := 61) rfl (hb hby d_mk7_47) rfl (iiW_ne_t (by decide)) (by decide) (by decide) ?_
    show Steps p.tables e below (T0.setTop (mkF m 61 _ [])) t
    refine XS.iloadN P0.here P0.x rfl (hb hby d_mk7_61) rfl ?_
    show Steps p.tables e below (T0.setTop (mkF m 62 _ [(.int (7 : Int32))])) t
    refine XS.iconst P0.here P0.x rfl (hb hby d_mk7_62) ?_
    show Steps p.tables e below (T0.setTop (mkF m 63 _ [(.int (4 : Int32)), (.int (7 : Int32))])) t
    refine XS.icmpYes P0.here P0.x rfl (pc0 := 63) (pc' := 104) rfl (hb hby d_mk7_63) rfl (iiW_ne_t (by decide)) (by decide) (by decide) ?_
    show Steps p.tables e below (T0.setTop (mkF m 104 _ [])) t
    refine XS.iloadN P0.here P0.x rfl (hb hby d_mk7_104) rfl ?_
    show Steps p.tables e below (T0.setTop (mkF m 105 _ [(.int (7 : Int32))])) t
    refine XS.iconst P0.here P0.x rfl (hb hby d_mk7_105) ?_
    show Steps p.tables e below (T0.setTop (mkF m 106 _ [(.int (5 : Int32)), (.int (7 : Int32))])) t
    refine XS.icmpYes P0.here P0.x rfl (pc0 := 106) (pc' := 113) rfl (hb hby d_mk7_106) rfl (iiW_ne_t (by decide)) (by decide) (by decide) ?_
    show Steps p.tables e below (T0.setTop (mkF m 113 _ [])) t
    refine XS.iloadN P0.here P0.x rfl (hb hby d_mk7_113) rfl ?_
    show Steps p.tables e below (T0.setTop (mkF m 114 _ [(.int (7 : Int32))])) t
    refine XS.bipush P0.here P0.x rfl (hb hby d_mk7_114) ?_
    show Steps p.tables e below (T0.setTop (mkF m 116 _ [(.int (6 : Int32)), (.int (7 : Int32))])) t
    refine XS.icmpYes P0.here P0.x rfl (pc0 := 116) (pc' := 123) rfl (hb hby d_mk7_116) rfl (iiW_ne_t (by decide)) (by decide) (by decide) ?_
    show Steps p.tables e below (T0.setTop (mkF m 123 _ [])) t
    refine XS.iloadN P0.here P0.x rfl (hb hby d_mk7_123) rfl ?_
    show Steps p.tables e below (T0.setTop (mkF m 124 _ [(.int (7 : Int32))])) t
    refine XS.bipush P0.here P0.x rfl (hb hby d_mk7_124) ?_
    show Steps p.tables e below (T0.setTop (mkF m 126 _ [(.int (7 : Int32)), (.int (7 : Int32))])) t
    refine XS.icmpNo P0.here P0.x rfl (hb hby d_mk7_126) rfl (iiW_ne_f (by decide)) ?_
    show Steps p.tables e below (T0.setTop (mkF m 129 _ [])) t
    refine XS.iloadN P0.here P0.x rfl (hb hby d_mk7_129) rfl ?_
    exact kk
  refine wCallS P0 (m_intOf l Z a0 hw hs p1 ci gi h0 SH SI AI hEI) (tw79 hw) (tw80 hw) (tw81 hw) (tw82 hw) (by decide) (by rw [hml]; rfl) (lenOf pd_11 rfl) (argsL := [(.int p1)]) (rest := []) rfl rfl (W := 0) (Nat.le_of_eq rfl) (by decide) (by decide) (by decide) (by decide) (by simp) (hb hby d_mk7_130) rfl (k' := 1) (n' := 1) rfl rfl ?_
  rintro T1 h5 _ P2 K6 ⟨b3, rfl, X4⟩
  have szh5 : h0.size ≤ h5.size := K6.1
  show Done _ _ _ _ _ _ _ _ _ _ _ _ _ _ _ T1 (mkF m 133 _ [(.ref b3)])
  exact wRetA P2 hret rfl rfl (hb hby d_mk7_133) ⟨b3, rfl, X4⟩
theorem ef_mk8 (m : MethodId) (x0 : Int32) (x1 : Int32) (x2 : Int64) : entryFrame m #[(.int x0), (.int x1), (.long x2)] 5 = mkF m 0 #[.val (.int x0), .val (.int x1), .val (.long x2), .second, .unset] [] := by first | (simp [entryFrame, mkF, argsToLocals, Value.category]; done) | rfl
theorem d_mk8_0 : decode method_2_code 0 = .ok (.iload_n 0, 1) := by decide +kernel
theorem d_mk8_1 : decode method_2_code 1 = .ok (.ifCond .ne 5, 3) := by decide +kernel
theorem d_mk8_6 : decode method_2_code 6 = .ok (.iload_n 0, 1) := by decide +kernel
theorem d_mk8_7 : decode method_2_code 7 = .ok (.iconst 1, 1) := by decide +kernel
theorem d_mk8_8 : decode method_2_code 8 = .ok (.if_icmp .ne 22, 3) := by decide +kernel
theorem d_mk8_30 : decode method_2_code 30 = .ok (.iload_n 0, 1) := by decide +kernel
theorem d_mk8_31 : decode method_2_code 31 = .ok (.iconst 2, 1) := by decide +kernel
theorem d_mk8_32 : decode method_2_code 32 = .ok (.if_icmp .ne 13, 3) := by decide +kernel
theorem d_mk8_45 : decode method_2_code 45 = .ok (.iload_n 0, 1) := by decide +kernel
theorem d_mk8_46 : decode method_2_code 46 = .ok (.iconst 3, 1) := by decide +kernel
theorem d_mk8_47 : decode method_2_code 47 = .ok (.if_icmp .ne 14, 3) := by decide +kernel
theorem d_mk8_61 : decode method_2_code 61 = .ok (.iload_n 0, 1) := by decide +kernel
theorem d_mk8_62 : decode method_2_code 62 = .ok (.iconst 4, 1) := by decide +kernel
theorem d_mk8_63 : decode method_2_code 63 = .ok (.if_icmp .ne 41, 3) := by decide +kernel
theorem d_mk8_104 : decode method_2_code 104 = .ok (.iload_n 0, 1) := by decide +kernel
theorem d_mk8_105 : decode method_2_code 105 = .ok (.iconst 5, 1) := by decide +kernel
theorem d_mk8_106 : decode method_2_code 106 = .ok (.if_icmp .ne 7, 3) := by decide +kernel
theorem d_mk8_113 : decode method_2_code 113 = .ok (.iload_n 0, 1) := by decide +kernel
theorem d_mk8_114 : decode method_2_code 114 = .ok (.bipush 6, 2) := by decide +kernel
theorem d_mk8_116 : decode method_2_code 116 = .ok (.if_icmp .ne 7, 3) := by decide +kernel
theorem d_mk8_123 : decode method_2_code 123 = .ok (.iload_n 0, 1) := by decide +kernel
theorem d_mk8_124 : decode method_2_code 124 = .ok (.bipush 7, 2) := by decide +kernel
theorem d_mk8_126 : decode method_2_code 126 = .ok (.if_icmp .ne 8, 3) := by decide +kernel
theorem d_mk8_134 : decode method_2_code 134 = .ok (.iload_n 0, 1) := by decide +kernel
theorem d_mk8_135 : decode method_2_code 135 = .ok (.bipush 8, 2) := by decide +kernel
theorem d_mk8_137 : decode method_2_code 137 = .ok (.if_icmp .ne 8, 3) := by decide +kernel
theorem d_mk8_140 : decode method_2_code 140 = .ok (.lload_n 2, 1) := by decide +kernel
theorem d_mk8_141 : decode method_2_code 141 = .ok (.invokestatic 39, 3) := by decide +kernel
theorem d_mk8_144 : decode method_2_code 144 = .ok (.areturn, 1) := by decide +kernel
set_option maxRecDepth 65536 in
set_option maxHeartbeats 4000000 in
theorem m_mk8 (l : Launch) (Z : State) (a0 : Array Value) (hw : ∀ d ∈ tables_1, d.before a0 Z = true) (hs : ∀ d ∈ jdkStatics_1, d.before a0 Z = true) (p1 : Int32) (p2 : Int64) (ub cb tb fb ci cj da : Addr) (gi gl : Nat → Addr) (cs : Int32) (h0 : Heap) (SU : Sta Z h0 "kindlewood/Variables" "UNBOXED" "Ljava/lang/Object;" (.ref ub)) (SC : Sta Z h0 "kindlewood/StmtCode" "COMPLETED" "Ljava/lang/Object;" (.ref cb)) (ST : Sta Z h0 "java/lang/Boolean" "TRUE" "Ljava/lang/Boolean;" (.ref tb)) (SF : Sta Z h0 "java/lang/Boolean" "FALSE" "Ljava/lang/Boolean;" (.ref fb)) (SH : Sta Z h0 "java/lang/Integer$IntegerCache" "high" "I" (.int 127)) (SI : Sta Z h0 "java/lang/Integer$IntegerCache" "cache" "[Ljava/lang/Integer;" (.ref ci)) (SL : Sta Z h0 "java/lang/Long$LongCache" "cache" "[Ljava/lang/Long;" (.ref cj)) (SA : Sta Z h0 "java/util/ArrayList" "DEFAULTCAPACITY_EMPTY_ELEMENTDATA" "[Ljava/lang/Object;" (.ref da)) (SS : Sta Z h0 "java/lang/String" "COMPACT_STRINGS" "Z" (.int cs)) (EUB : Exa Z h0 ub "java/lang/Object") (ECB : Exa Z h0 cb "java/lang/Object") (ETB : Exa Z h0 tb "java/lang/Boolean") (EFB : Exa Z h0 fb "java/lang/Boolean") (AI : Ar Z h0 ci (.object "java/lang/Integer") 256 (fun i => .ref (gi i))) (hEI : ∀ i, i < 256 → Exa Z h0 (gi i) "java/lang/Integer") (ALc : Ar Z h0 cj (.object "java/lang/Long") 256 (fun i => .ref (gl i))) (hEL : ∀ i, i < 256 → Exa Z h0 (gl i) "java/lang/Long") (hcs : ¬ (cs = (0 : Int32))) (hcu : cb ≠ ub) :
    OMet l (⟨"kindlewood/InterpreterIsNumberPinLaw", "make", "(IIJ)Ljava/lang/Object;"⟩ : MethodName) method_2_code 5 (Option.some (FieldType.object "java/lang/Object")) [] ({ frames := 4, cells := 1, slots := 1, locals := 53 } : Room) Z h0 [] #[(.int (8 : Int32)), (.int p1), (.long p2)] (fun v h' => ∃ b : Addr, v = some (.ref b) ∧ Exa Z h' b "java/lang/Long") := by
  refine OMet.of (own := "kindlewood/InterpreterIsNumberPinLaw") (nm := "make") (plainFor_of_name pn_17) rfl rfl ?_
  intro p e s m below meth c T0 P0 hby hml hret hnm
  refine Done.step (T' := T0) (g' := (mkF m 0 #[.val (.int (8 : Int32)), .val (.int p1), .val (.long p2), .second, .unset] [])) (fun t kk => castTop (ef_mk8 m (8 : Int32) p1 p2) kk) ?_
  refine Done.stepL (pc' := 141) (st' := [(.long p2)]) (fun t kk => ?_) ?_
  · show Steps p.tables e below (T0.setTop (mkF m 0 _ [])) t
    refine XS.iloadN P0.here P0.x rfl (hb hby d_mk8_0) rfl ?_
    show Steps p.tables e below (T0.setTop (mkF m 1 _ [(.int (8 : Int32))])) t
    refine XS.ifYes P0.here P0.x rfl (pc0 := 1) (pc' := 6) rfl (hb hby d_mk8_1) rfl (i0W_ne_t (by decide)) (by decide) (by decide) ?_
    show Steps p.tables e below (T0.setTop (mkF m 6 _ [])) t
    refine XS.iloadN P0.here P0.x rfl (hb hby d_mk8_6) rfl ?_
    show Steps p.tables e below (T0.setTop (mkF m 7 _ [(.int (8 : Int32))])) t
    refine XS.iconst P0.here P0.x rfl (hb hby d_mk8_7) ?_
    show Steps p.tables e below (T0.setTop (mkF m 8 _ [(.int (1 : Int32)), (.int (8 : Int32))])) t
    refine XS.icmpYes P0.here P0.x rfl (pc0 := 8) (pc' := 30) rfl (hb hby d_mk8_8) rfl (iiW_ne_t (by decide)) (by decide) (by decide) ?_
    show Steps p.tables e below (T0.setTop (mkF m 30 _ [])) t
    refine XS.iloadN P0.here P0.x rfl (hb hby d_mk8_30) rfl ?_
    show Steps p.tables e below (T0.setTop (mkF m 31 _ [(.int (8 : Int32))])) t
    refine XS.iconst P0.here P0.x rfl (hb hby d_mk8_31) ?_
    show Steps p.tables e below (T0.setTop (mkF m 32 _ [(.int (2 : Int32)), (.int (8 : Int32))])) t
    refine XS.icmpYes P0.here P0.x rfl (pc0 := 32) (pc' := 45) rfl (hb hby d_mk8_32) rfl (iiW_ne_t (by decide)) (by decide) (by decide) ?_
    show Steps p.tables e below (T0.setTop (mkF m 45 _ [])) t
    refine XS.iloadN P0.here P0.x rfl (hb hby d_mk8_45) rfl ?_
    show Steps p.tables e below (T0.setTop (mkF m 46 _ [(.int (8 : Int32))])) t
    refine XS.iconst P0.here P0.x rfl (hb hby d_mk8_46) ?_
    show Steps p.tables e below (T0.setTop (mkF m 47 _ [(.int (3 : Int32)), (.int (8 : Int32))])) t
    refine XS.icmpYes P0.here P0.x rfl (pc0 := 47) (pc' := 61) rfl (hb hby d_mk8_47) rfl (iiW_ne_t (by decide)) (by decide) (by decide) ?_
    show Steps p.tables e below (T0.setTop (mkF m 61 _ [])) t
    refine XS.iloadN P0.here P0.x rfl (hb hby d_mk8_61) rfl ?_
    show Steps p.tables e below (T0.setTop (mkF m 62 _ [(.int (8 : Int32))])) t
    refine XS.iconst P0.here P0.x rfl (hb hby d_mk8_62) ?_
    show Steps p.tables e below (T0.setTop (mkF m 63 _ [(.int (4 : Int32)), (.int (8 : Int32))])) t
    refine XS.icmpYes P0.here P0.x rfl (pc0 := 63) (pc' := 104) rfl (hb hby d_mk8_63) rfl (iiW_ne_t (by decide)) (by decide) (by decide) ?_
    show Steps p.tables e below (T0.setTop (mkF m 104 _ [])) t
    refine XS.iloadN P0.here P0.x rfl (hb hby d_mk8_104) rfl ?_
    show Steps p.tables e below (T0.setTop (mkF m 105 _ [(.int (8 : Int32))])) t
    refine XS.iconst P0.here P0.x rfl (hb hby d_mk8_105) ?_
    show Steps p.tables e below (T0.setTop (mkF m 106 _ [(.int (5 : Int32)), (.int (8 : Int32))])) t
    refine XS.icmpYes P0.here P0.x rfl (pc0 := 106) (pc' := 113) rfl (hb hby d_mk8_106) rfl (iiW_ne_t (by decide)) (by decide) (by decide) ?_
    show Steps p.tables e below (T0.setTop (mkF m 113 _ [])) t
    refine XS.iloadN P0.here P0.x rfl (hb hby d_mk8_113) rfl ?_
    show Steps p.tables e below (T0.setTop (mkF m 114 _ [(.int (8 : Int32))])) t
    refine XS.bipush P0.here P0.x rfl (hb hby d_mk8_114) ?_
    show Steps p.tables e below (T0.setTop (mkF m 116 _ [(.int (6 : Int32)), (.int (8 : Int32))])) t
    refine XS.icmpYes P0.here P0.x rfl (pc0 := 116) (pc' := 123) rfl (hb hby d_mk8_116) rfl (iiW_ne_t (by decide)) (by decide) (by decide) ?_
    show Steps p.tables e below (T0.setTop (mkF m 123 _ [])) t
    refine XS.iloadN P0.here P0.x rfl (hb hby d_mk8_123) rfl ?_
    show Steps p.tables e below (T0.setTop (mkF m 124 _ [(.int (8 : Int32))])) t
    refine XS.bipush P0.here P0.x rfl (hb hby d_mk8_124) ?_
    show Steps p.tables e below (T0.setTop (mkF m 126 _ [(.int (7 : Int32)), (.int (8 : Int32))])) t
    refine XS.icmpYes P0.here P0.x rfl (pc0 := 126) (pc' := 134) rfl (hb hby d_mk8_126) rfl (iiW_ne_t (by decide)) (by decide) (by decide) ?_
    show Steps p.tables e below (T0.setTop (mkF m 134 _ [])) t
    refine XS.iloadN P0.here P0.x rfl (hb hby d_mk8_134) rfl ?_
    show Steps p.tables e below (T0.setTop (mkF m 135 _ [(.int (8 : Int32))])) t
    refine XS.bipush P0.here P0.x rfl (hb hby d_mk8_135) ?_
    show Steps p.tables e below (T0.setTop (mkF m 137 _ [(.int (8 : Int32)), (.int (8 : Int32))])) t
    refine XS.icmpNo P0.here P0.x rfl (hb hby d_mk8_137) rfl (iiW_ne_f (by decide)) ?_
    show Steps p.tables e below (T0.setTop (mkF m 140 _ [])) t
    refine XS.lloadN P0.here P0.x rfl (hb hby d_mk8_140) rfl ?_
    exact kk
  refine wCallS P0 (m_lngOf l Z a0 hw hs p2 cj gl h0 SL ALc hEL) (tw62 hw) (tw63 hw) (tw64 hw) (tw65 hw) (by decide) (by rw [hml]; rfl) (lenOf pd_12 rfl) (argsL := [(.long p2)]) (rest := []) rfl rfl (W := 0) (Nat.le_of_eq rfl) (by decide) (by decide) (by decide) (by decide) (by simp) (hb hby d_mk8_141) rfl (k' := 1) (n' := 1) rfl rfl ?_
  rintro T1 h5 _ P2 K6 ⟨b3, rfl, X4⟩
  have szh5 : h0.size ≤ h5.size := K6.1
  show Done _ _ _ _ _ _ _ _ _ _ _ _ _ _ _ T1 (mkF m 144 _ [(.ref b3)])
  exact wRetA P2 hret rfl rfl (hb hby d_mk8_144) ⟨b3, rfl, X4⟩
theorem ef_mk9 (m : MethodId) (x0 : Int32) (x1 : Int32) (x2 : Int64) : entryFrame m #[(.int x0), (.int x1), (.long x2)] 5 = mkF m 0 #[.val (.int x0), .val (.int x1), .val (.long x2), .second, .unset] [] := by first | (simp [entryFrame, mkF, argsToLocals, Value.category]; done) | rfl
theorem d_mk9_0 : decode method_2_code 0 = .ok (.iload_n 0, 1) := by decide +kernel
theorem d_mk9_1 : decode method_2_code 1 = .ok (.ifCond .ne 5, 3) := by decide +kernel
theorem d_mk9_6 : decode method_2_code 6 = .ok (.iload_n 0, 1) := by decide +kernel
theorem d_mk9_7 : decode method_2_code 7 = .ok (.iconst 1, 1) := by decide +kernel
theorem d_mk9_8 : decode method_2_code 8 = .ok (.if_icmp .ne 22, 3) := by decide +kernel
theorem d_mk9_30 : decode method_2_code 30 = .ok (.iload_n 0, 1) := by decide +kernel
theorem d_mk9_31 : decode method_2_code 31 = .ok (.iconst 2, 1) := by decide +kernel
theorem d_mk9_32 : decode method_2_code 32 = .ok (.if_icmp .ne 13, 3) := by decide +kernel
theorem d_mk9_45 : decode method_2_code 45 = .ok (.iload_n 0, 1) := by decide +kernel
theorem d_mk9_46 : decode method_2_code 46 = .ok (.iconst 3, 1) := by decide +kernel
theorem d_mk9_47 : decode method_2_code 47 = .ok (.if_icmp .ne 14, 3) := by decide +kernel
theorem d_mk9_61 : decode method_2_code 61 = .ok (.iload_n 0, 1) := by decide +kernel
theorem d_mk9_62 : decode method_2_code 62 = .ok (.iconst 4, 1) := by decide +kernel
theorem d_mk9_63 : decode method_2_code 63 = .ok (.if_icmp .ne 41, 3) := by decide +kernel
theorem d_mk9_104 : decode method_2_code 104 = .ok (.iload_n 0, 1) := by decide +kernel
theorem d_mk9_105 : decode method_2_code 105 = .ok (.iconst 5, 1) := by decide +kernel
theorem d_mk9_106 : decode method_2_code 106 = .ok (.if_icmp .ne 7, 3) := by decide +kernel
theorem d_mk9_113 : decode method_2_code 113 = .ok (.iload_n 0, 1) := by decide +kernel
theorem d_mk9_114 : decode method_2_code 114 = .ok (.bipush 6, 2) := by decide +kernel
theorem d_mk9_116 : decode method_2_code 116 = .ok (.if_icmp .ne 7, 3) := by decide +kernel
theorem d_mk9_123 : decode method_2_code 123 = .ok (.iload_n 0, 1) := by decide +kernel
theorem d_mk9_124 : decode method_2_code 124 = .ok (.bipush 7, 2) := by decide +kernel
theorem d_mk9_126 : decode method_2_code 126 = .ok (.if_icmp .ne 8, 3) := by decide +kernel
theorem d_mk9_134 : decode method_2_code 134 = .ok (.iload_n 0, 1) := by decide +kernel
theorem d_mk9_135 : decode method_2_code 135 = .ok (.bipush 8, 2) := by decide +kernel
theorem d_mk9_137 : decode method_2_code 137 = .ok (.if_icmp .ne 8, 3) := by decide +kernel
theorem d_mk9_145 : decode method_2_code 145 = .ok (.new 44, 3) := by decide +kernel
theorem d_mk9_148 : decode method_2_code 148 = .ok (.dup, 1) := by decide +kernel
theorem d_mk9_149 : decode method_2_code 149 = .ok (.invokespecial 46, 3) := by decide +kernel
theorem d_mk9_152 : decode method_2_code 152 = .ok (.areturn, 1) := by decide +kernel
set_option maxRecDepth 65536 in
set_option maxHeartbeats 4000000 in
theorem m_mk9 (l : Launch) (Z : State) (a0 : Array Value) (hw : ∀ d ∈ tables_1, d.before a0 Z = true) (hs : ∀ d ∈ jdkStatics_1, d.before a0 Z = true) (p1 : Int32) (p2 : Int64) (ub cb tb fb ci cj da : Addr) (gi gl : Nat → Addr) (cs : Int32) (h0 : Heap) (SU : Sta Z h0 "kindlewood/Variables" "UNBOXED" "Ljava/lang/Object;" (.ref ub)) (SC : Sta Z h0 "kindlewood/StmtCode" "COMPLETED" "Ljava/lang/Object;" (.ref cb)) (ST : Sta Z h0 "java/lang/Boolean" "TRUE" "Ljava/lang/Boolean;" (.ref tb)) (SF : Sta Z h0 "java/lang/Boolean" "FALSE" "Ljava/lang/Boolean;" (.ref fb)) (SH : Sta Z h0 "java/lang/Integer$IntegerCache" "high" "I" (.int 127)) (SI : Sta Z h0 "java/lang/Integer$IntegerCache" "cache" "[Ljava/lang/Integer;" (.ref ci)) (SL : Sta Z h0 "java/lang/Long$LongCache" "cache" "[Ljava/lang/Long;" (.ref cj)) (SA : Sta Z h0 "java/util/ArrayList" "DEFAULTCAPACITY_EMPTY_ELEMENTDATA" "[Ljava/lang/Object;" (.ref da)) (SS : Sta Z h0 "java/lang/String" "COMPACT_STRINGS" "Z" (.int cs)) (EUB : Exa Z h0 ub "java/lang/Object") (ECB : Exa Z h0 cb "java/lang/Object") (ETB : Exa Z h0 tb "java/lang/Boolean") (EFB : Exa Z h0 fb "java/lang/Boolean") (AI : Ar Z h0 ci (.object "java/lang/Integer") 256 (fun i => .ref (gi i))) (hEI : ∀ i, i < 256 → Exa Z h0 (gi i) "java/lang/Integer") (ALc : Ar Z h0 cj (.object "java/lang/Long") 256 (fun i => .ref (gl i))) (hEL : ∀ i, i < 256 → Exa Z h0 (gl i) "java/lang/Long") (hcs : ¬ (cs = (0 : Int32))) (hcu : cb ≠ ub) :
    OMet l (⟨"kindlewood/InterpreterIsNumberPinLaw", "make", "(IIJ)Ljava/lang/Object;"⟩ : MethodName) method_2_code 5 (Option.some (FieldType.object "java/lang/Object")) [] ({ frames := 4, cells := 1, slots := 3, locals := 49 } : Room) Z h0 [] #[(.int (9 : Int32)), (.int p1), (.long p2)] (fun v h' => ∃ b : Addr, v = some (.ref b) ∧ Exa Z h' b "java/util/ArrayList") := by
  refine OMet.of (own := "kindlewood/InterpreterIsNumberPinLaw") (nm := "make") (plainFor_of_name pn_17) rfl rfl ?_
  intro p e s m below meth c T0 P0 hby hml hret hnm
  refine Done.step (T' := T0) (g' := (mkF m 0 #[.val (.int (9 : Int32)), .val (.int p1), .val (.long p2), .second, .unset] [])) (fun t kk => castTop (ef_mk9 m (9 : Int32) p1 p2) kk) ?_
  refine Done.stepL (pc' := 145) (st' := []) (fun t kk => ?_) ?_
  · show Steps p.tables e below (T0.setTop (mkF m 0 _ [])) t
    refine XS.iloadN P0.here P0.x rfl (hb hby d_mk9_0) rfl ?_
    show Steps p.tables e below (T0.setTop (mkF m 1 _ [(.int (9 : Int32))])) t
    refine XS.ifYes P0.here P0.x rfl (pc0 := 1) (pc' := 6) rfl (hb hby d_mk9_1) rfl (i0W_ne_t (by decide)) (by decide) (by decide) ?_
    show Steps p.tables e below (T0.setTop (mkF m 6 _ [])) t
    refine XS.iloadN P0.here P0.x rfl (hb hby d_mk9_6) rfl ?_
    show Steps p.tables e below (T0.setTop (mkF m 7 _ [(.int (9 : Int32))])) t
    refine XS.iconst P0.here P0.x rfl (hb hby d_mk9_7) ?_
    show Steps p.tables e below (T0.setTop (mkF m 8 _ [(.int (1 : Int32)), (.int (9 : Int32))])) t
    refine XS.icmpYes P0.here P0.x rfl (pc0 := 8) (pc' := 30) rfl (hb hby d_mk9_8) rfl (iiW_ne_t (by decide)) (by decide) (by decide) ?_
    show Steps p.tables e below (T0.setTop (mkF m 30 _ [])) t
    refine XS.iloadN P0.here P0.x rfl (hb hby d_mk9_30) rfl ?_
    show Steps p.tables e below (T0.setTop (mkF m 31 _ [(.int (9 : Int32))])) t
    refine XS.iconst P0.here P0.x rfl (hb hby d_mk9_31) ?_
    show Steps p.tables e below (T0.setTop (mkF m 32 _ [(.int (2 : Int32)), (.int (9 : Int32))])) t
    refine XS.icmpYes P0.here P0.x rfl (pc0 := 32) (pc' := 45) rfl (hb hby d_mk9_32) rfl (iiW_ne_t (by decide)) (by decide) (by decide) ?_
    show Steps p.tables e below (T0.setTop (mkF m 45 _ [])) t
    refine XS.iloadN P0.here P0.x rfl (hb hby d_mk9_45) rfl ?_
    show Steps p.tables e below (T0.setTop (mkF m 46 _ [(.int (9 : Int32))])) t
    refine XS.iconst P0.here P0.x rfl (hb hby d_mk9_46) ?_
    show Steps p.tables e below (T0.setTop (mkF m 47 _ [(.int (3 : Int32)), (.int (9 : Int32))])) t
    refine XS.icmpYes P0.here P0.x rfl (pc0 := 47) (pc' := 61) rfl (hb hby d_mk9_47) rfl (iiW_ne_t (by decide)) (by decide) (by decide) ?_
    show Steps p.tables e below (T0.setTop (mkF m 61 _ [])) t
    refine XS.iloadN P0.here P0.x rfl (hb hby d_mk9_61) rfl ?_
    show Steps p.tables e below (T0.setTop (mkF m 62 _ [(.int (9 : Int32))])) t
    refine XS.iconst P0.here P0.x rfl (hb hby d_mk9_62) ?_
    show Steps p.tables e below (T0.setTop (mkF m 63 _ [(.int (4 : Int32)), (.int (9 : Int32))])) t
    refine XS.icmpYes P0.here P0.x rfl (pc0 := 63) (pc' := 104) rfl (hb hby d_mk9_63) rfl (iiW_ne_t (by decide)) (by decide) (by decide) ?_
    show Steps p.tables e below (T0.setTop (mkF m 104 _ [])) t
    refine XS.iloadN P0.here P0.x rfl (hb hby d_mk9_104) rfl ?_
    show Steps p.tables e below (T0.setTop (mkF m 105 _ [(.int (9 : Int32))])) t
    refine XS.iconst P0.here P0.x rfl (hb hby d_mk9_105) ?_
    show Steps p.tables e below (T0.setTop (mkF m 106 _ [(.int (5 : Int32)), (.int (9 : Int32))])) t
    refine XS.icmpYes P0.here P0.x rfl (pc0 := 106) (pc' := 113) rfl (hb hby d_mk9_106) rfl (iiW_ne_t (by decide)) (by decide) (by decide) ?_
    show Steps p.tables e below (T0.setTop (mkF m 113 _ [])) t
    refine XS.iloadN P0.here P0.x rfl (hb hby d_mk9_113) rfl ?_
    show Steps p.tables e below (T0.setTop (mkF m 114 _ [(.int (9 : Int32))])) t
    refine XS.bipush P0.here P0.x rfl (hb hby d_mk9_114) ?_
    show Steps p.tables e below (T0.setTop (mkF m 116 _ [(.int (6 : Int32)), (.int (9 : Int32))])) t
    refine XS.icmpYes P0.here P0.x rfl (pc0 := 116) (pc' := 123) rfl (hb hby d_mk9_116) rfl (iiW_ne_t (by decide)) (by decide) (by decide) ?_
    show Steps p.tables e below (T0.setTop (mkF m 123 _ [])) t
    refine XS.iloadN P0.here P0.x rfl (hb hby d_mk9_123) rfl ?_
    show Steps p.tables e below (T0.setTop (mkF m 124 _ [(.int (9 : Int32))])) t
    refine XS.bipush P0.here P0.x rfl (hb hby d_mk9_124) ?_
    show Steps p.tables e below (T0.setTop (mkF m 126 _ [(.int (7 : Int32)), (.int (9 : Int32))])) t
    refine XS.icmpYes P0.here P0.x rfl (pc0 := 126) (pc' := 134) rfl (hb hby d_mk9_126) rfl (iiW_ne_t (by decide)) (by decide) (by decide) ?_
    show Steps p.tables e below (T0.setTop (mkF m 134 _ [])) t
    refine XS.iloadN P0.here P0.x rfl (hb hby d_mk9_134) rfl ?_
    show Steps p.tables e below (T0.setTop (mkF m 135 _ [(.int (9 : Int32))])) t
    refine XS.bipush P0.here P0.x rfl (hb hby d_mk9_135) ?_
    show Steps p.tables e below (T0.setTop (mkF m 137 _ [(.int (8 : Int32)), (.int (9 : Int32))])) t
    refine XS.icmpYes P0.here P0.x rfl (pc0 := 137) (pc' := 145) rfl (hb hby d_mk9_137) rfl (iiW_ne_t (by decide)) (by decide) (by decide) ?_
    exact kk
  refine wNew P0 (tw34 hw) (tw35 hw) (tw36 hw) (hb hby d_mk9_145) rfl (by decide) (by decide) (k' := 1) (n' := 3) rfl rfl (fun T1 h3 b4 g5 lt6 P2 E7 X8 D9 => ?_)
  have ge_b4 : h0.size ≤ b4 := by have := P0.ge; omega
  have F10 : Fld Z h3 b4 "java/util/AbstractList" "modCount" "I" (.int (0 : Int32)) := D9 (Or.inl (tw54 hw)) (ty := .int) (by decide)
  have F11 : Fld Z h3 b4 "java/util/ArrayList" "elementData" "[Ljava/lang/Object;" .null := D9 (Or.inl (tw57 hw)) (ty := (.array (.object "java/lang/Object"))) (by decide)
  show Done _ _ _ _ _ _ _ _ _ _ _ _ _ _ _ T1 (mkF m 148 _ [(.ref b4)])
  refine Done.stepL (pc' := 149) (st' := [(.ref b4), (.ref b4)]) (fun t kk => ?_) ?_
  · show Steps p.tables e below (T1.setTop (mkF m 148 _ [(.ref b4)])) t
    refine XS.dup P2.here P2.x rfl (hb hby d_mk9_148) rfl rfl ?_
    exact kk
  have f14 := (SA.ext E7)
  refine wCallI P2 (m_alInit l Z a0 hw hs b4 da h3 X8 F10 F11 f14) rfl (tw37 hw) (tw38 hw) (tw36 hw) (tw39 hw) (by decide) (a := b4) (by rw [hml]; rfl) (lenOf pd_0 rfl) (argsL := []) (rest := [(.ref b4)]) rfl rfl (W := 1) (Nat.le_of_eq rfl) (by decide) (by decide) (by decide) (by decide) (allS (Or.inr ge_b4) all0) (hb hby d_mk9_149) rfl (k' := 1) (n' := 3) rfl rfl ?_
  rintro T12 h15 _ P13 K16 rfl
  have szh15 : h3.size ≤ h15.size := K16.1
  show Done _ _ _ _ _ _ _ _ _ _ _ _ _ _ _ T12 (mkF m 152 _ [(.ref b4)])
  have f17 := (X8.keep K16)
  exact wRetA P13 hret rfl rfl (hb hby d_mk9_152) ⟨b4, rfl, f17⟩
theorem ef_law (m : MethodId) (x0 : Int32) (x1 : Int32) (x2 : Int64) : entryFrame m #[(.int x0), (.int x1), (.long x2)] maxLocals = mkF m 0 #[.val (.int x0), .val (.int x1), .val (.long x2), .second, .unset, .unset, .unset] [] := by first | (simp [entryFrame, mkF, argsToLocals, Value.category, maxLocals]; done) | rfl
set_option maxRecDepth 65536 in
set_option maxHeartbeats 4000000 in
theorem m_law (l : Launch) (Z : State) (a0 : Array Value) (hw : ∀ d ∈ tables_1, d.before a0 Z = true) (hs : ∀ d ∈ jdkStatics_1, d.before a0 Z = true) (p0 : Int32) (p1 : Int32) (p2 : Int64) (ub cb tb fb ci cj da : Addr) (gi gl : Nat → Addr) (cs : Int32) (h0 : Heap) (SU : Sta Z h0 "kindlewood/Variables" "UNBOXED" "Ljava/lang/Object;" (.ref ub)) (SC : Sta Z h0 "kindlewood/StmtCode" "COMPLETED" "Ljava/lang/Object;" (.ref cb)) (ST : Sta Z h0 "java/lang/Boolean" "TRUE" "Ljava/lang/Boolean;" (.ref tb)) (SF : Sta Z h0 "java/lang/Boolean" "FALSE" "Ljava/lang/Boolean;" (.ref fb)) (SH : Sta Z h0 "java/lang/Integer$IntegerCache" "high" "I" (.int 127)) (SI : Sta Z h0 "java/lang/Integer$IntegerCache" "cache" "[Ljava/lang/Integer;" (.ref ci)) (SL : Sta Z h0 "java/lang/Long$LongCache" "cache" "[Ljava/lang/Long;" (.ref cj)) (SA : Sta Z h0 "java/util/ArrayList" "DEFAULTCAPACITY_EMPTY_ELEMENTDATA" "[Ljava/lang/Object;" (.ref da)) (SS : Sta Z h0 "java/lang/String" "COMPACT_STRINGS" "Z" (.int cs)) (EUB : Exa Z h0 ub "java/lang/Object") (ECB : Exa Z h0 cb "java/lang/Object") (ETB : Exa Z h0 tb "java/lang/Boolean") (EFB : Exa Z h0 fb "java/lang/Boolean") (AI : Ar Z h0 ci (.object "java/lang/Integer") 256 (fun i => .ref (gi i))) (hEI : ∀ i, i < 256 → Exa Z h0 (gi i) "java/lang/Integer") (ALc : Ar Z h0 cj (.object "java/lang/Long") 256 (fun i => .ref (gl i))) (hEL : ∀ i, i < 256 → Exa Z h0 (gl i) "java/lang/Long") (hcs : ¬ (cs = (0 : Int32))) (hcu : cb ≠ ub) :
    OMet l x code maxLocals ret tables_1 room_1 Z h0 [] #[(.int p0), (.int p1), (.long p2)] (fun v h' => v = some (.int 1)) := by
  refine OMet.of (own := "kindlewood/InterpreterIsNumberPinLaw") (nm := "law") (plainFor_of_name pn_17) rfl rfl ?_
  intro p e s m below meth c T0 P0 hby hml hret hnm
  refine Done.step (T' := T0) (g' := (mkF m 0 #[.val (.int p0), .val (.int p1), .val (.long p2), .second, .unset, .unset, .unset] [])) (fun t kk => castTop (ef_law m p0 p1 p2) kk) ?_
  refine Done.step (T' := T0) (g' := (mkF m 9 #[.val (.int p0), .val (.int p1), .val (.long p2), .second, .val (.int ((p0 &&& (2147483647 : Int32)) - ((p0 &&& (2147483647 : Int32)) / (10 : Int32)) * (10 : Int32))), .unset, .unset] [])) (fun t kk => ?_) ?_
  · show Steps p.tables e below (T0.setTop (mkF m 0 _ [])) t
    refine XS.iloadN P0.here P0.x rfl (hb hby at_0) rfl ?_
    show Steps p.tables e below (T0.setTop (mkF m 1 _ [(.int p0)])) t
    refine pLdcI P0 (tw0 hw) (hb hby at_1) rfl ?_
    show Steps p.tables e below (T0.setTop (mkF m 3 _ [(.int (2147483647 : Int32)), (.int p0)])) t
    refine XS.iand P0.here P0.x rfl (hb hby at_3) rfl ?_
    show Steps p.tables e below (T0.setTop (mkF m 4 _ [(.int (p0 &&& (2147483647 : Int32)))])) t
    refine XS.bipush P0.here P0.x rfl (hb hby at_4) ?_
    show Steps p.tables e below (T0.setTop (mkF m 6 _ [(.int (10 : Int32)), (.int (p0 &&& (2147483647 : Int32)))])) t
    refine XS.irem P0.here P0.x rfl (hb hby at_6) rfl (by decide) ?_
    show Steps p.tables e below (T0.setTop (mkF m 7 _ [(.int ((p0 &&& (2147483647 : Int32)) - ((p0 &&& (2147483647 : Int32)) / (10 : Int32)) * (10 : Int32)))])) t
    refine XS.istore P0.here P0.x rfl (hb hby at_7) rfl (l' := #[.val (.int p0), .val (.int p1), .val (.long p2), .second, .val (.int ((p0 &&& (2147483647 : Int32)) - ((p0 &&& (2147483647 : Int32)) / (10 : Int32)) * (10 : Int32))), .unset, .unset]) rfl ?_
    exact kk
  generalize g_kv : ((p0 &&& (2147483647 : Int32)) - ((p0 &&& (2147483647 : Int32)) / (10 : Int32)) * (10 : Int32)) = kv
  have hkv : kv = 0 ∨ kv = 1 ∨ kv = 2 ∨ kv = 3 ∨ kv = 4 ∨ kv = 5 ∨ kv = 6 ∨ kv = 7 ∨ kv = 8 ∨ kv = 9 := by rw [← g_kv]; exact own_kv p0
  show Done _ _ _ _ _ _ _ _ _ _ _ _ _ _ _ T0 (mkF m 9 _ [])
  rcases hkv with rfl | rfl | rfl | rfl | rfl | rfl | rfl | rfl | rfl | rfl
  · refine Done.stepL (pc' := 13) (st' := [(.long p2), (.int p1), (.int (0 : Int32))]) (fun t kk => ?_) ?_
    · show Steps p.tables e below (T0.setTop (mkF m 9 _ [])) t
      refine XS.iload P0.here P0.x rfl (hb hby at_9) rfl ?_
      show Steps p.tables e below (T0.setTop (mkF m 11 _ [(.int (0 : Int32))])) t
      refine XS.iloadN P0.here P0.x rfl (hb hby at_11) rfl ?_
      show Steps p.tables e below (T0.setTop (mkF m 12 _ [(.int p1), (.int (0 : Int32))])) t
      refine XS.lloadN P0.here P0.x rfl (hb hby at_12) rfl ?_
      exact kk
    refine wCallS P0 (m_mk0 l Z a0 hw hs p1 p2 ub cb tb fb ci cj da gi gl cs h0 SU SC ST SF SH SI SL SA SS EUB ECB ETB EFB AI hEI ALc hEL hcs hcu) (tw1 hw) (tw2 hw) (tw3 hw) (tw4 hw) (by decide) (by rw [hml]; rfl) (lenOf pd_13 rfl) (argsL := [(.int (0 : Int32)), (.int p1), (.long p2)]) (rest := []) rfl rfl (W := 0) (Nat.le_of_eq rfl) (by decide) (by decide) (by decide) (by decide) (by simp) (hb hby at_13) rfl (k' := 0) (n' := 0) rfl rfl ?_
    rintro T1 _ _ P2 - ⟨rfl, rfl⟩
    show Done _ _ _ _ _ _ _ _ _ _ _ _ _ _ _ T1 (mkF m 16 _ [.null])
    refine Done.step (T' := T1) (g' := (mkF m 45 #[.val (.int p0), .val (.int p1), .val (.long p2), .second, .val (.int (0 : Int32)), .val .null, .val (.int (0 : Int32))] [.null])) (fun t kk => ?_) ?_
    · show Steps p.tables e below (T1.setTop (mkF m 16 _ [.null])) t
      refine XS.astore P2.here P2.x rfl (hb hby at_16) rfl rfl (l' := #[.val (.int p0), .val (.int p1), .val (.long p2), .second, .val (.int (0 : Int32)), .val .null, .unset]) rfl ?_
      show Steps p.tables e below (T1.setTop (mkF m 18 _ [])) t
      refine XS.iload P2.here P2.x rfl (hb hby at_18) rfl ?_
      show Steps p.tables e below (T1.setTop (mkF m 20 _ [(.int (0 : Int32))])) t
      refine XS.iconst P2.here P2.x rfl (hb hby at_20) ?_
      show Steps p.tables e below (T1.setTop (mkF m 21 _ [(.int (2 : Int32)), (.int (0 : Int32))])) t
      refine XS.icmpNo P2.here P2.x rfl (hb hby at_21) rfl (iiW_eq_f (by decide)) ?_
      show Steps p.tables e below (T1.setTop (mkF m 24 _ [])) t
      refine XS.iload P2.here P2.x rfl (hb hby at_24) rfl ?_
      show Steps p.tables e below (T1.setTop (mkF m 26 _ [(.int (0 : Int32))])) t
      refine XS.iconst P2.here P2.x rfl (hb hby at_26) ?_
      show Steps p.tables e below (T1.setTop (mkF m 27 _ [(.int (3 : Int32)), (.int (0 : Int32))])) t
      refine XS.icmpNo P2.here P2.x rfl (hb hby at_27) rfl (iiW_eq_f (by decide)) ?_
      show Steps p.tables e below (T1.setTop (mkF m 30 _ [])) t
      refine XS.iload P2.here P2.x rfl (hb hby at_30) rfl ?_
      show Steps p.tables e below (T1.setTop (mkF m 32 _ [(.int (0 : Int32))])) t
      refine XS.iconst P2.here P2.x rfl (hb hby at_32) ?_
      show Steps p.tables e below (T1.setTop (mkF m 33 _ [(.int (5 : Int32)), (.int (0 : Int32))])) t
      refine XS.icmpYes P2.here P2.x rfl (pc0 := 33) (pc' := 40) rfl (hb hby at_33) rfl (iiW_ne_t (by decide)) (by decide) (by decide) ?_
      show Steps p.tables e below (T1.setTop (mkF m 40 _ [])) t
      refine XS.iconst P2.here P2.x rfl (hb hby at_40) ?_
      show Steps p.tables e below (T1.setTop (mkF m 41 _ [(.int (0 : Int32))])) t
      refine XS.istore P2.here P2.x rfl (hb hby at_41) rfl (l' := #[.val (.int p0), .val (.int p1), .val (.long p2), .second, .val (.int (0 : Int32)), .val .null, .val (.int (0 : Int32))]) rfl ?_
      show Steps p.tables e below (T1.setTop (mkF m 43 _ [])) t
      refine XS.aload P2.here P2.x rfl (hb hby at_43) rfl rfl ?_
      exact kk
    refine wCallS P2 (m_isNull l Z a0 hw hs ub h0 SU) (tw5 hw) (tw6 hw) (tw7 hw) (tw8 hw) (by decide) (by rw [hml]; rfl) (lenOf pd_14 rfl) (argsL := [.null]) (rest := []) rfl rfl (W := 0) (Nat.le_of_eq rfl) (by decide) (by decide) (by decide) (by decide) (by simp) (hb hby at_45) rfl (k' := 0) (n' := 0) rfl rfl ?_
    rintro T3 _ _ P4 - ⟨rfl, rfl⟩
    show Done _ _ _ _ _ _ _ _ _ _ _ _ _ _ _ T3 (mkF m 48 _ [(.int (0 : Int32))])
    refine Done.stepL (pc' := 58) (st' := [(.int (1 : Int32))]) (fun t kk => ?_) ?_
    · show Steps p.tables e below (T3.setTop (mkF m 48 _ [(.int (0 : Int32))])) t
      refine XS.iload P4.here P4.x rfl (hb hby at_48) rfl ?_
      show Steps p.tables e below (T3.setTop (mkF m 50 _ [(.int (0 : Int32)), (.int (0 : Int32))])) t
      refine XS.icmpNo P4.here P4.x rfl (hb hby at_50) rfl (iiW_ne_f (by decide)) ?_
      show Steps p.tables e below (T3.setTop (mkF m 53 _ [])) t
      refine XS.iconst P4.here P4.x rfl (hb hby at_53) ?_
      show Steps p.tables e below (T3.setTop (mkF m 54 _ [(.int (1 : Int32))])) t
      refine XS.goto P4.here P4.x rfl (pc0 := 54) (pc' := 58) rfl (hb hby at_54) (by decide) (by decide) ?_
      exact kk
    exact wRet P4 (t := .boolean) hret (narrow_01 (Or.inr rfl)) (Or.inl ⟨rfl, Or.inr (Or.inl rfl), _, rfl⟩) (hb hby at_58) rfl
  · refine Done.stepL (pc' := 13) (st' := [(.long p2), (.int p1), (.int (1 : Int32))]) (fun t kk => ?_) ?_
    · show Steps p.tables e below (T0.setTop (mkF m 9 _ [])) t
      refine XS.iload P0.here P0.x rfl (hb hby at_9) rfl ?_
      show Steps p.tables e below (T0.setTop (mkF m 11 _ [(.int (1 : Int32))])) t
      refine XS.iloadN P0.here P0.x rfl (hb hby at_11) rfl ?_
      show Steps p.tables e below (T0.setTop (mkF m 12 _ [(.int p1), (.int (1 : Int32))])) t
      refine XS.lloadN P0.here P0.x rfl (hb hby at_12) rfl ?_
      exact kk
    refine wCallS P0 (m_mk1 l Z a0 hw hs p1 p2 ub cb tb fb ci cj da gi gl cs h0 SU SC ST SF SH SI SL SA SS EUB ECB ETB EFB AI hEI ALc hEL hcs hcu) (tw1 hw) (tw2 hw) (tw3 hw) (tw4 hw) (by decide) (by rw [hml]; rfl) (lenOf pd_13 rfl) (argsL := [(.int (1 : Int32)), (.int p1), (.long p2)]) (rest := []) rfl rfl (W := 0) (Nat.le_of_eq rfl) (by decide) (by decide) (by decide) (by decide) (by simp) (hb hby at_13) rfl (k' := 0) (n' := 0) rfl rfl ?_
    rintro T5 h9 _ P6 K10 ⟨b7, rfl, X8⟩
    have szh9 : h0.size ≤ h9.size := K10.1
    show Done _ _ _ _ _ _ _ _ _ _ _ _ _ _ _ T5 (mkF m 16 _ [(.ref b7)])
    refine Done.step (T' := T5) (g' := (mkF m 45 #[.val (.int p0), .val (.int p1), .val (.long p2), .second, .val (.int (1 : Int32)), .val (.ref b7), .val (.int (0 : Int32))] [(.ref b7)])) (fun t kk => ?_) ?_
    · show Steps p.tables e below (T5.setTop (mkF m 16 _ [(.ref b7)])) t
      refine XS.astore P6.here P6.x rfl (hb hby at_16) rfl rfl (l' := #[.val (.int p0), .val (.int p1), .val (.long p2), .second, .val (.int (1 : Int32)), .val (.ref b7), .unset]) rfl ?_
      show Steps p.tables e below (T5.setTop (mkF m 18 _ [])) t
      refine XS.iload P6.here P6.x rfl (hb hby at_18) rfl ?_
      show Steps p.tables e below (T5.setTop (mkF m 20 _ [(.int (1 : Int32))])) t
      refine XS.iconst P6.here P6.x rfl (hb hby at_20) ?_
      show Steps p.tables e below (T5.setTop (mkF m 21 _ [(.int (2 : Int32)), (.int (1 : Int32))])) t
      refine XS.icmpNo P6.here P6.x rfl (hb hby at_21) rfl (iiW_eq_f (by decide)) ?_
      show Steps p.tables e below (T5.setTop (mkF m 24 _ [])) t
      refine XS.iload P6.here P6.x rfl (hb hby at_24) rfl ?_
      show Steps p.tables e below (T5.setTop (mkF m 26 _ [(.int (1 : Int32))])) t
      refine XS.iconst P6.here P6.x rfl (hb hby at_26) ?_
      show Steps p.tables e below (T5.setTop (mkF m 27 _ [(.int (3 : Int32)), (.int (1 : Int32))])) t
      refine XS.icmpNo P6.here P6.x rfl (hb hby at_27) rfl (iiW_eq_f (by decide)) ?_
      show Steps p.tables e below (T5.setTop (mkF m 30 _ [])) t
      refine XS.iload P6.here P6.x rfl (hb hby at_30) rfl ?_
      show Steps p.tables e below (T5.setTop (mkF m 32 _ [(.int (1 : Int32))])) t
      refine XS.iconst P6.here P6.x rfl (hb hby at_32) ?_
      show Steps p.tables e below (T5.setTop (mkF m 33 _ [(.int (5 : Int32)), (.int (1 : Int32))])) t
      refine XS.icmpYes P6.here P6.x rfl (pc0 := 33) (pc' := 40) rfl (hb hby at_33) rfl (iiW_ne_t (by decide)) (by decide) (by decide) ?_
      show Steps p.tables e below (T5.setTop (mkF m 40 _ [])) t
      refine XS.iconst P6.here P6.x rfl (hb hby at_40) ?_
      show Steps p.tables e below (T5.setTop (mkF m 41 _ [(.int (0 : Int32))])) t
      refine XS.istore P6.here P6.x rfl (hb hby at_41) rfl (l' := #[.val (.int p0), .val (.int p1), .val (.long p2), .second, .val (.int (1 : Int32)), .val (.ref b7), .val (.int (0 : Int32))]) rfl ?_
      show Steps p.tables e below (T5.setTop (mkF m 43 _ [])) t
      refine XS.aload P6.here P6.x rfl (hb hby at_43) rfl rfl ?_
      exact kk
    have f13 := (staKeep SU K10 ns0)
    have f14 := (EUB.keep K10)
    refine wCallS P6 (m_isNo l Z a0 hw hs b7 ub "java/lang/Boolean" h9 f13 X8 (own_noC (tw93 hw) (tw17 hw) (NS.step (tw93 hw) (own_root (tw61 hw) (tw17 hw) (by decide)) (by decide)) (by decide)) (Exa.ne X8 f14 (by decide))) (tw5 hw) (tw6 hw) (tw7 hw) (tw8 hw) (by decide) (by rw [hml]; rfl) (lenOf pd_14 rfl) (argsL := [(.ref b7)]) (rest := []) rfl rfl (W := 0) (Nat.le_of_eq rfl) (by decide) (by decide) (by decide) (by decide) (by simp) (hb hby at_45) rfl (k' := 0) (n' := 0) rfl rfl ?_
    rintro T11 _ _ P12 - ⟨rfl, rfl⟩
    show Done _ _ _ _ _ _ _ _ _ _ _ _ _ _ _ T11 (mkF m 48 _ [(.int (0 : Int32))])
    refine Done.stepL (pc' := 58) (st' := [(.int (1 : Int32))]) (fun t kk => ?_) ?_
    · show Steps p.tables e below (T11.setTop (mkF m 48 _ [(.int (0 : Int32))])) t
      refine XS.iload P12.here P12.x rfl (hb hby at_48) rfl ?_
      show Steps p.tables e below (T11.setTop (mkF m 50 _ [(.int (0 : Int32)), (.int (0 : Int32))])) t
      refine XS.icmpNo P12.here P12.x rfl (hb hby at_50) rfl (iiW_ne_f (by decide)) ?_
      show Steps p.tables e below (T11.setTop (mkF m 53 _ [])) t
      refine XS.iconst P12.here P12.x rfl (hb hby at_53) ?_
      show Steps p.tables e below (T11.setTop (mkF m 54 _ [(.int (1 : Int32))])) t
      refine XS.goto P12.here P12.x rfl (pc0 := 54) (pc' := 58) rfl (hb hby at_54) (by decide) (by decide) ?_
      exact kk
    exact wRet P12 (t := .boolean) hret (narrow_01 (Or.inr rfl)) (Or.inl ⟨rfl, Or.inr (Or.inl rfl), _, rfl⟩) (hb hby at_58) rfl
  · refine Done.stepL (pc' := 13) (st' := [(.long p2), (.int p1), (.int (2 : Int32))]) (fun t kk => ?_) ?_
    · show Steps p.tables e below (T0.setTop (mkF m 9 _ [])) t
      refine XS.iload P0.here P0.x rfl (hb hby at_9) rfl ?_
      show Steps p.tables e below (T0.setTop (mkF m 11 _ [(.int (2 : Int32))])) t
      refine XS.iloadN P0.here P0.x rfl (hb hby at_11) rfl ?_
      show Steps p.tables e below (T0.setTop (mkF m 12 _ [(.int p1), (.int (2 : Int32))])) t
      refine XS.lloadN P0.here P0.x rfl (hb hby at_12) rfl ?_
      exact kk
    refine wCallS P0 (m_mk2 l Z a0 hw hs p1 p2 ub cb tb fb ci cj da gi gl cs h0 SU SC ST SF SH SI SL SA SS EUB ECB ETB EFB AI hEI ALc hEL hcs hcu) (tw1 hw) (tw2 hw) (tw3 hw) (tw4 hw) (by decide) (by rw [hml]; rfl) (lenOf pd_13 rfl) (argsL := [(.int (2 : Int32)), (.int p1), (.long p2)]) (rest := []) rfl rfl (W := 0) (Nat.le_of_eq rfl) (by decide) (by decide) (by decide) (by decide) (by simp) (hb hby at_13) rfl (k' := 1) (n' := 1) rfl rfl ?_
    rintro T15 h19 _ P16 K20 ⟨b17, rfl, X18⟩
    have szh19 : h0.size ≤ h19.size := K20.1
    show Done _ _ _ _ _ _ _ _ _ _ _ _ _ _ _ T15 (mkF m 16 _ [(.ref b17)])
    refine Done.step (T' := T15) (g' := (mkF m 45 #[.val (.int p0), .val (.int p1), .val (.long p2), .second, .val (.int (2 : Int32)), .val (.ref b17), .val (.int (1 : Int32))] [(.ref b17)])) (fun t kk => ?_) ?_
    · show Steps p.tables e below (T15.setTop (mkF m 16 _ [(.ref b17)])) t
      refine XS.astore P16.here P16.x rfl (hb hby at_16) rfl rfl (l' := #[.val (.int p0), .val (.int p1), .val (.long p2), .second, .val (.int (2 : Int32)), .val (.ref b17), .unset]) rfl ?_
      show Steps p.tables e below (T15.setTop (mkF m 18 _ [])) t
      refine XS.iload P16.here P16.x rfl (hb hby at_18) rfl ?_
      show Steps p.tables e below (T15.setTop (mkF m 20 _ [(.int (2 : Int32))])) t
      refine XS.iconst P16.here P16.x rfl (hb hby at_20) ?_
      show Steps p.tables e below (T15.setTop (mkF m 21 _ [(.int (2 : Int32)), (.int (2 : Int32))])) t
      refine XS.icmpYes P16.here P16.x rfl (pc0 := 21) (pc' := 36) rfl (hb hby at_21) rfl (iiW_eq_t (by decide)) (by decide) (by decide) ?_
      show Steps p.tables e below (T15.setTop (mkF m 36 _ [])) t
      refine XS.iconst P16.here P16.x rfl (hb hby at_36) ?_
      show Steps p.tables e below (T15.setTop (mkF m 37 _ [(.int (1 : Int32))])) t
      refine XS.goto P16.here P16.x rfl (pc0 := 37) (pc' := 41) rfl (hb hby at_37) (by decide) (by decide) ?_
      show Steps p.tables e below (T15.setTop (mkF m 41 _ [(.int (1 : Int32))])) t
      refine XS.istore P16.here P16.x rfl (hb hby at_41) rfl (l' := #[.val (.int p0), .val (.int p1), .val (.long p2), .second, .val (.int (2 : Int32)), .val (.ref b17), .val (.int (1 : Int32))]) rfl ?_
      show Steps p.tables e below (T15.setTop (mkF m 43 _ [])) t
      refine XS.aload P16.here P16.x rfl (hb hby at_43) rfl rfl ?_
      exact kk
    have f23 := (staKeep SU K20 ns0)
    have f24 := (EUB.keep K20)
    refine wCallS P16 (m_isYes l Z a0 hw hs b17 ub h19 f23 X18 (Exa.ne X18 f24 (by decide))) (tw5 hw) (tw6 hw) (tw7 hw) (tw8 hw) (by decide) (by rw [hml]; rfl) (lenOf pd_14 rfl) (argsL := [(.ref b17)]) (rest := []) rfl rfl (W := 0) (Nat.le_of_eq rfl) (by decide) (by decide) (by decide) (by decide) (by simp) (hb hby at_45) rfl (k' := 1) (n' := 1) rfl rfl ?_
    rintro T21 _ _ P22 - ⟨rfl, rfl⟩
    show Done _ _ _ _ _ _ _ _ _ _ _ _ _ _ _ T21 (mkF m 48 _ [(.int (1 : Int32))])
    refine Done.stepL (pc' := 58) (st' := [(.int (1 : Int32))]) (fun t kk => ?_) ?_
    · show Steps p.tables e below (T21.setTop (mkF m 48 _ [(.int (1 : Int32))])) t
      refine XS.iload P22.here P22.x rfl (hb hby at_48) rfl ?_
      show Steps p.tables e below (T21.setTop (mkF m 50 _ [(.int (1 : Int32)), (.int (1 : Int32))])) t
      refine XS.icmpNo P22.here P22.x rfl (hb hby at_50) rfl (iiW_ne_f (by decide)) ?_
      show Steps p.tables e below (T21.setTop (mkF m 53 _ [])) t
      refine XS.iconst P22.here P22.x rfl (hb hby at_53) ?_
      show Steps p.tables e below (T21.setTop (mkF m 54 _ [(.int (1 : Int32))])) t
      refine XS.goto P22.here P22.x rfl (pc0 := 54) (pc' := 58) rfl (hb hby at_54) (by decide) (by decide) ?_
      exact kk
    exact wRet P22 (t := .boolean) hret (narrow_01 (Or.inr rfl)) (Or.inl ⟨rfl, Or.inr (Or.inl rfl), _, rfl⟩) (hb hby at_58) rfl
  · refine Done.stepL (pc' := 13) (st' := [(.long p2), (.int p1), (.int (3 : Int32))]) (fun t kk => ?_) ?_
    · show Steps p.tables e below (T0.setTop (mkF m 9 _ [])) t
      refine XS.iload P0.here P0.x rfl (hb hby at_9) rfl ?_
      show Steps p.tables e below (T0.setTop (mkF m 11 _ [(.int (3 : Int32))])) t
      refine XS.iloadN P0.here P0.x rfl (hb hby at_11) rfl ?_
      show Steps p.tables e below (T0.setTop (mkF m 12 _ [(.int p1), (.int (3 : Int32))])) t
      refine XS.lloadN P0.here P0.x rfl (hb hby at_12) rfl ?_
      exact kk
    refine wCallS P0 (m_mk3 l Z a0 hw hs p1 p2 ub cb tb fb ci cj da gi gl cs h0 SU SC ST SF SH SI SL SA SS EUB ECB ETB EFB AI hEI ALc hEL hcs hcu) (tw1 hw) (tw2 hw) (tw3 hw) (tw4 hw) (by decide) (by rw [hml]; rfl) (lenOf pd_13 rfl) (argsL := [(.int (3 : Int32)), (.int p1), (.long p2)]) (rest := []) rfl rfl (W := 0) (Nat.le_of_eq rfl) (by decide) (by decide) (by decide) (by decide) (by simp) (hb hby at_13) rfl (k' := 1) (n' := 1) rfl rfl ?_
    rintro T25 h29 _ P26 K30 ⟨b27, rfl, X28⟩
    have szh29 : h0.size ≤ h29.size := K30.1
    show Done _ _ _ _ _ _ _ _ _ _ _ _ _ _ _ T25 (mkF m 16 _ [(.ref b27)])
    refine Done.step (T' := T25) (g' := (mkF m 45 #[.val (.int p0), .val (.int p1), .val (.long p2), .second, .val (.int (3 : Int32)), .val (.ref b27), .val (.int (1 : Int32))] [(.ref b27)])) (fun t kk => ?_) ?_
    · show Steps p.tables e below (T25.setTop (mkF m 16 _ [(.ref b27)])) t
      refine XS.astore P26.here P26.x rfl (hb hby at_16) rfl rfl (l' := #[.val (.int p0), .val (.int p1), .val (.long p2), .second, .val (.int (3 : Int32)), .val (.ref b27), .unset]) rfl ?_
      show Steps p.tables e below (T25.setTop (mkF m 18 _ [])) t
      refine XS.iload P26.here P26.x rfl (hb hby at_18) rfl ?_
      show Steps p.tables e below (T25.setTop (mkF m 20 _ [(.int (3 : Int32))])) t
      refine XS.iconst P26.here P26.x rfl (hb hby at_20) ?_
      show Steps p.tables e below (T25.setTop (mkF m 21 _ [(.int (2 : Int32)), (.int (3 : Int32))])) t
      refine XS.icmpNo P26.here P26.x rfl (hb hby at_21) rfl (iiW_eq_f (by decide)) ?_
      show Steps p.tables e below (T25.setTop (mkF m 24 _ [])) t
      refine XS.iload P26.here P26.x rfl (hb hby at_24) rfl ?_
      show Steps p.tables e below (T25.setTop (mkF m 26 _ [(.int (3 : Int32))])) t
      refine XS.iconst P26.here P26.x rfl (hb hby at_26) ?_
      show Steps p.tables e below (T25.setTop (mkF m 27 _ [(.int (3 : Int32)), (.int (3 : Int32))])) t
      refine XS.icmpYes P26.here P26.x rfl (pc0 := 27) (pc' := 36) rfl (hb hby at_27) rfl (iiW_eq_t (by decide)) (by decide) (by decide) ?_
      show Steps p.tables e below (T25.setTop (mkF m 36 _ [])) t
      refine XS.iconst P26.here P26.x rfl (hb hby at_36) ?_
      show Steps p.tables e below (T25.setTop (mkF m 37 _ [(.int (1 : Int32))])) t
      refine XS.goto P26.here P26.x rfl (pc0 := 37) (pc' := 41) rfl (hb hby at_37) (by decide) (by decide) ?_
      show Steps p.tables e below (T25.setTop (mkF m 41 _ [(.int (1 : Int32))])) t
      refine XS.istore P26.here P26.x rfl (hb hby at_41) rfl (l' := #[.val (.int p0), .val (.int p1), .val (.long p2), .second, .val (.int (3 : Int32)), .val (.ref b27), .val (.int (1 : Int32))]) rfl ?_
      show Steps p.tables e below (T25.setTop (mkF m 43 _ [])) t
      refine XS.aload P26.here P26.x rfl (hb hby at_43) rfl rfl ?_
      exact kk
    have f33 := (staKeep SU K30 ns0)
    have f34 := (EUB.keep K30)
    refine wCallS P26 (m_isYes l Z a0 hw hs b27 ub h29 f33 X28 (Exa.ne X28 f34 (by decide))) (tw5 hw) (tw6 hw) (tw7 hw) (tw8 hw) (by decide) (by rw [hml]; rfl) (lenOf pd_14 rfl) (argsL := [(.ref b27)]) (rest := []) rfl rfl (W := 0) (Nat.le_of_eq rfl) (by decide) (by decide) (by decide) (by decide) (by simp) (hb hby at_45) rfl (k' := 1) (n' := 1) rfl rfl ?_
    rintro T31 _ _ P32 - ⟨rfl, rfl⟩
    show Done _ _ _ _ _ _ _ _ _ _ _ _ _ _ _ T31 (mkF m 48 _ [(.int (1 : Int32))])
    refine Done.stepL (pc' := 58) (st' := [(.int (1 : Int32))]) (fun t kk => ?_) ?_
    · show Steps p.tables e below (T31.setTop (mkF m 48 _ [(.int (1 : Int32))])) t
      refine XS.iload P32.here P32.x rfl (hb hby at_48) rfl ?_
      show Steps p.tables e below (T31.setTop (mkF m 50 _ [(.int (1 : Int32)), (.int (1 : Int32))])) t
      refine XS.icmpNo P32.here P32.x rfl (hb hby at_50) rfl (iiW_ne_f (by decide)) ?_
      show Steps p.tables e below (T31.setTop (mkF m 53 _ [])) t
      refine XS.iconst P32.here P32.x rfl (hb hby at_53) ?_
      show Steps p.tables e below (T31.setTop (mkF m 54 _ [(.int (1 : Int32))])) t
      refine XS.goto P32.here P32.x rfl (pc0 := 54) (pc' := 58) rfl (hb hby at_54) (by decide) (by decide) ?_
      exact kk
    exact wRet P32 (t := .boolean) hret (narrow_01 (Or.inr rfl)) (Or.inl ⟨rfl, Or.inr (Or.inl rfl), _, rfl⟩) (hb hby at_58) rfl
  · refine Done.stepL (pc' := 13) (st' := [(.long p2), (.int p1), (.int (4 : Int32))]) (fun t kk => ?_) ?_
    · show Steps p.tables e below (T0.setTop (mkF m 9 _ [])) t
      refine XS.iload P0.here P0.x rfl (hb hby at_9) rfl ?_
      show Steps p.tables e below (T0.setTop (mkF m 11 _ [(.int (4 : Int32))])) t
      refine XS.iloadN P0.here P0.x rfl (hb hby at_11) rfl ?_
      show Steps p.tables e below (T0.setTop (mkF m 12 _ [(.int p1), (.int (4 : Int32))])) t
      refine XS.lloadN P0.here P0.x rfl (hb hby at_12) rfl ?_
      exact kk
    refine wCallS P0 (m_mk4 l Z a0 hw hs p1 p2 ub cb tb fb ci cj da gi gl cs h0 SU SC ST SF SH SI SL SA SS EUB ECB ETB EFB AI hEI ALc hEL hcs hcu) (tw1 hw) (tw2 hw) (tw3 hw) (tw4 hw) (by decide) (by rw [hml]; rfl) (lenOf pd_13 rfl) (argsL := [(.int (4 : Int32)), (.int p1), (.long p2)]) (rest := []) rfl rfl (W := 0) (Nat.le_of_eq rfl) (by decide) (by decide) (by decide) (by decide) (by simp) (hb hby at_13) rfl (k' := 3) (n' := 8) rfl rfl ?_
    rintro T35 h39 _ P36 K40 ⟨b37, rfl, X38⟩
    have szh39 : h0.size ≤ h39.size := K40.1
    show Done _ _ _ _ _ _ _ _ _ _ _ _ _ _ _ T35 (mkF m 16 _ [(.ref b37)])
    refine Done.step (T' := T35) (g' := (mkF m 45 #[.val (.int p0), .val (.int p1), .val (.long p2), .second, .val (.int (4 : Int32)), .val (.ref b37), .val (.int (0 : Int32))] [(.ref b37)])) (fun t kk => ?_) ?_
    · show Steps p.tables e below (T35.setTop (mkF m 16 _ [(.ref b37)])) t
      refine XS.astore P36.here P36.x rfl (hb hby at_16) rfl rfl (l' := #[.val (.int p0), .val (.int p1), .val (.long p2), .second, .val (.int (4 : Int32)), .val (.ref b37), .unset]) rfl ?_
      show Steps p.tables e below (T35.setTop (mkF m 18 _ [])) t
      refine XS.iload P36.here P36.x rfl (hb hby at_18) rfl ?_
      show Steps p.tables e below (T35.setTop (mkF m 20 _ [(.int (4 : Int32))])) t
      refine XS.iconst P36.here P36.x rfl (hb hby at_20) ?_
      show Steps p.tables e below (T35.setTop (mkF m 21 _ [(.int (2 : Int32)), (.int (4 : Int32))])) t
      refine XS.icmpNo P36.here P36.x rfl (hb hby at_21) rfl (iiW_eq_f (by decide)) ?_
      show Steps p.tables e below (T35.setTop (mkF m 24 _ [])) t
      refine XS.iload P36.here P36.x rfl (hb hby at_24) rfl ?_
      show Steps p.tables e below (T35.setTop (mkF m 26 _ [(.int (4 : Int32))])) t
      refine XS.iconst P36.here P36.x rfl (hb hby at_26) ?_
      show Steps p.tables e below (T35.setTop (mkF m 27 _ [(.int (3 : Int32)), (.int (4 : Int32))])) t
      refine XS.icmpNo P36.here P36.x rfl (hb hby at_27) rfl (iiW_eq_f (by decide)) ?_
      show Steps p.tables e below (T35.setTop (mkF m 30 _ [])) t
      refine XS.iload P36.here P36.x rfl (hb hby at_30) rfl ?_
      show Steps p.tables e below (T35.setTop (mkF m 32 _ [(.int (4 : Int32))])) t
      refine XS.iconst P36.here P36.x rfl (hb hby at_32) ?_
      show Steps p.tables e below (T35.setTop (mkF m 33 _ [(.int (5 : Int32)), (.int (4 : Int32))])) t
      refine XS.icmpYes P36.here P36.x rfl (pc0 := 33) (pc' := 40) rfl (hb hby at_33) rfl (iiW_ne_t (by decide)) (by decide) (by decide) ?_
      show Steps p.tables e below (T35.setTop (mkF m 40 _ [])) t
      refine XS.iconst P36.here P36.x rfl (hb hby at_40) ?_
      show Steps p.tables e below (T35.setTop (mkF m 41 _ [(.int (0 : Int32))])) t
      refine XS.istore P36.here P36.x rfl (hb hby at_41) rfl (l' := #[.val (.int p0), .val (.int p1), .val (.long p2), .second, .val (.int (4 : Int32)), .val (.ref b37), .val (.int (0 : Int32))]) rfl ?_
      show Steps p.tables e below (T35.setTop (mkF m 43 _ [])) t
      refine XS.aload P36.here P36.x rfl (hb hby at_43) rfl rfl ?_
      exact kk
    have f43 := (staKeep SU K40 ns0)
    have f44 := (EUB.keep K40)
    refine wCallS P36 (m_isNo l Z a0 hw hs b37 ub "java/lang/String" h39 f43 X38 (own_noC (tw122 hw) (tw17 hw) (NS.step (tw122 hw) (own_root (tw61 hw) (tw17 hw) (by decide)) (by decide)) (by decide)) (Exa.ne X38 f44 (by decide))) (tw5 hw) (tw6 hw) (tw7 hw) (tw8 hw) (by decide) (by rw [hml]; rfl) (lenOf pd_14 rfl) (argsL := [(.ref b37)]) (rest := []) rfl rfl (W := 0) (Nat.le_of_eq rfl) (by decide) (by decide) (by decide) (by decide) (by simp) (hb hby at_45) rfl (k' := 3) (n' := 8) rfl rfl ?_
    rintro T41 _ _ P42 - ⟨rfl, rfl⟩
    show Done _ _ _ _ _ _ _ _ _ _ _ _ _ _ _ T41 (mkF m 48 _ [(.int (0 : Int32))])
    refine Done.stepL (pc' := 58) (st' := [(.int (1 : Int32))]) (fun t kk => ?_) ?_
    · show Steps p.tables e below (T41.setTop (mkF m 48 _ [(.int (0 : Int32))])) t
      refine XS.iload P42.here P42.x rfl (hb hby at_48) rfl ?_
      show Steps p.tables e below (T41.setTop (mkF m 50 _ [(.int (0 : Int32)), (.int (0 : Int32))])) t
      refine XS.icmpNo P42.here P42.x rfl (hb hby at_50) rfl (iiW_ne_f (by decide)) ?_
      show Steps p.tables e below (T41.setTop (mkF m 53 _ [])) t
      refine XS.iconst P42.here P42.x rfl (hb hby at_53) ?_
      show Steps p.tables e below (T41.setTop (mkF m 54 _ [(.int (1 : Int32))])) t
      refine XS.goto P42.here P42.x rfl (pc0 := 54) (pc' := 58) rfl (hb hby at_54) (by decide) (by decide) ?_
      exact kk
    exact wRet P42 (t := .boolean) hret (narrow_01 (Or.inr rfl)) (Or.inl ⟨rfl, Or.inr (Or.inl rfl), _, rfl⟩) (hb hby at_58) rfl
  · refine Done.stepL (pc' := 13) (st' := [(.long p2), (.int p1), (.int (5 : Int32))]) (fun t kk => ?_) ?_
    · show Steps p.tables e below (T0.setTop (mkF m 9 _ [])) t
      refine XS.iload P0.here P0.x rfl (hb hby at_9) rfl ?_
      show Steps p.tables e below (T0.setTop (mkF m 11 _ [(.int (5 : Int32))])) t
      refine XS.iloadN P0.here P0.x rfl (hb hby at_11) rfl ?_
      show Steps p.tables e below (T0.setTop (mkF m 12 _ [(.int p1), (.int (5 : Int32))])) t
      refine XS.lloadN P0.here P0.x rfl (hb hby at_12) rfl ?_
      exact kk
    refine wCallS P0 (m_mk5 l Z a0 hw hs p1 p2 ub cb tb fb ci cj da gi gl cs h0 SU SC ST SF SH SI SL SA SS EUB ECB ETB EFB AI hEI ALc hEL hcs hcu) (tw1 hw) (tw2 hw) (tw3 hw) (tw4 hw) (by decide) (by rw [hml]; rfl) (lenOf pd_13 rfl) (argsL := [(.int (5 : Int32)), (.int p1), (.long p2)]) (rest := []) rfl rfl (W := 0) (Nat.le_of_eq rfl) (by decide) (by decide) (by decide) (by decide) (by simp) (hb hby at_13) rfl (k' := 0) (n' := 0) rfl rfl ?_
    rintro T45 _ _ P46 - ⟨rfl, rfl⟩
    show Done _ _ _ _ _ _ _ _ _ _ _ _ _ _ _ T45 (mkF m 16 _ [(.ref ub)])
    refine Done.step (T' := T45) (g' := (mkF m 45 #[.val (.int p0), .val (.int p1), .val (.long p2), .second, .val (.int (5 : Int32)), .val (.ref ub), .val (.int (1 : Int32))] [(.ref ub)])) (fun t kk => ?_) ?_
    · show Steps p.tables e below (T45.setTop (mkF m 16 _ [(.ref ub)])) t
      refine XS.astore P46.here P46.x rfl (hb hby at_16) rfl rfl (l' := #[.val (.int p0), .val (.int p1), .val (.long p2), .second, .val (.int (5 : Int32)), .val (.ref ub), .unset]) rfl ?_
      show Steps p.tables e below (T45.setTop (mkF m 18 _ [])) t
      refine XS.iload P46.here P46.x rfl (hb hby at_18) rfl ?_
      show Steps p.tables e below (T45.setTop (mkF m 20 _ [(.int (5 : Int32))])) t
      refine XS.iconst P46.here P46.x rfl (hb hby at_20) ?_
      show Steps p.tables e below (T45.setTop (mkF m 21 _ [(.int (2 : Int32)), (.int (5 : Int32))])) t
      refine XS.icmpNo P46.here P46.x rfl (hb hby at_21) rfl (iiW_eq_f (by decide)) ?_
      show Steps p.tables e below (T45.setTop (mkF m 24 _ [])) t
      refine XS.iload P46.here P46.x rfl (hb hby at_24) rfl ?_
      show Steps p.tables e below (T45.setTop (mkF m 26 _ [(.int (5 : Int32))])) t
      refine XS.iconst P46.here P46.x rfl (hb hby at_26) ?_
      show Steps p.tables e below (T45.setTop (mkF m 27 _ [(.int (3 : Int32)), (.int (5 : Int32))])) t
      refine XS.icmpNo P46.here P46.x rfl (hb hby at_27) rfl (iiW_eq_f (by decide)) ?_
      show Steps p.tables e below (T45.setTop (mkF m 30 _ [])) t
      refine XS.iload P46.here P46.x rfl (hb hby at_30) rfl ?_
      show Steps p.tables e below (T45.setTop (mkF m 32 _ [(.int (5 : Int32))])) t
      refine XS.iconst P46.here P46.x rfl (hb hby at_32) ?_
      show Steps p.tables e below (T45.setTop (mkF m 33 _ [(.int (5 : Int32)), (.int (5 : Int32))])) t
      refine XS.icmpNo P46.here P46.x rfl (hb hby at_33) rfl (iiW_ne_f (by decide)) ?_
      show Steps p.tables e below (T45.setTop (mkF m 36 _ [])) t
      refine XS.iconst P46.here P46.x rfl (hb hby at_36) ?_
      show Steps p.tables e below (T45.setTop (mkF m 37 _ [(.int (1 : Int32))])) t
      refine XS.goto P46.here P46.x rfl (pc0 := 37) (pc' := 41) rfl (hb hby at_37) (by decide) (by decide) ?_
      show Steps p.tables e below (T45.setTop (mkF m 41 _ [(.int (1 : Int32))])) t
      refine XS.istore P46.here P46.x rfl (hb hby at_41) rfl (l' := #[.val (.int p0), .val (.int p1), .val (.long p2), .second, .val (.int (5 : Int32)), .val (.ref ub), .val (.int (1 : Int32))]) rfl ?_
      show Steps p.tables e below (T45.setTop (mkF m 43 _ [])) t
      refine XS.aload P46.here P46.x rfl (hb hby at_43) rfl rfl ?_
      exact kk
    refine wCallS P46 (m_isUb l Z a0 hw hs ub h0 SU) (tw5 hw) (tw6 hw) (tw7 hw) (tw8 hw) (by decide) (by rw [hml]; rfl) (lenOf pd_14 rfl) (argsL := [(.ref ub)]) (rest := []) rfl rfl (W := 0) (Nat.le_of_eq rfl) (by decide) (by decide) (by decide) (by decide) (by simp) (hb hby at_45) rfl (k' := 0) (n' := 0) rfl rfl ?_
    rintro T47 _ _ P48 - ⟨rfl, rfl⟩
    show Done _ _ _ _ _ _ _ _ _ _ _ _ _ _ _ T47 (mkF m 48 _ [(.int (1 : Int32))])
    refine Done.stepL (pc' := 58) (st' := [(.int (1 : Int32))]) (fun t kk => ?_) ?_
    · show Steps p.tables e below (T47.setTop (mkF m 48 _ [(.int (1 : Int32))])) t
      refine XS.iload P48.here P48.x rfl (hb hby at_48) rfl ?_
      show Steps p.tables e below (T47.setTop (mkF m 50 _ [(.int (1 : Int32)), (.int (1 : Int32))])) t
      refine XS.icmpNo P48.here P48.x rfl (hb hby at_50) rfl (iiW_ne_f (by decide)) ?_
      show Steps p.tables e below (T47.setTop (mkF m 53 _ [])) t
      refine XS.iconst P48.here P48.x rfl (hb hby at_53) ?_
      show Steps p.tables e below (T47.setTop (mkF m 54 _ [(.int (1 : Int32))])) t
      refine XS.goto P48.here P48.x rfl (pc0 := 54) (pc' := 58) rfl (hb hby at_54) (by decide) (by decide) ?_
      exact kk
    exact wRet P48 (t := .boolean) hret (narrow_01 (Or.inr rfl)) (Or.inl ⟨rfl, Or.inr (Or.inl rfl), _, rfl⟩) (hb hby at_58) rfl
  · refine Done.stepL (pc' := 13) (st' := [(.long p2), (.int p1), (.int (6 : Int32))]) (fun t kk => ?_) ?_
    · show Steps p.tables e below (T0.setTop (mkF m 9 _ [])) t
      refine XS.iload P0.here P0.x rfl (hb hby at_9) rfl ?_
      show Steps p.tables e below (T0.setTop (mkF m 11 _ [(.int (6 : Int32))])) t
      refine XS.iloadN P0.here P0.x rfl (hb hby at_11) rfl ?_
      show Steps p.tables e below (T0.setTop (mkF m 12 _ [(.int p1), (.int (6 : Int32))])) t
      refine XS.lloadN P0.here P0.x rfl (hb hby at_12) rfl ?_
      exact kk
    refine wCallS P0 (m_mk6 l Z a0 hw hs p1 p2 ub cb tb fb ci cj da gi gl cs h0 SU SC ST SF SH SI SL SA SS EUB ECB ETB EFB AI hEI ALc hEL hcs hcu) (tw1 hw) (tw2 hw) (tw3 hw) (tw4 hw) (by decide) (by rw [hml]; rfl) (lenOf pd_13 rfl) (argsL := [(.int (6 : Int32)), (.int p1), (.long p2)]) (rest := []) rfl rfl (W := 0) (Nat.le_of_eq rfl) (by decide) (by decide) (by decide) (by decide) (by simp) (hb hby at_13) rfl (k' := 0) (n' := 0) rfl rfl ?_
    rintro T49 _ _ P50 - ⟨rfl, rfl⟩
    show Done _ _ _ _ _ _ _ _ _ _ _ _ _ _ _ T49 (mkF m 16 _ [(.ref cb)])
    refine Done.step (T' := T49) (g' := (mkF m 45 #[.val (.int p0), .val (.int p1), .val (.long p2), .second, .val (.int (6 : Int32)), .val (.ref cb), .val (.int (0 : Int32))] [(.ref cb)])) (fun t kk => ?_) ?_
    · show Steps p.tables e below (T49.setTop (mkF m 16 _ [(.ref cb)])) t
      refine XS.astore P50.here P50.x rfl (hb hby at_16) rfl rfl (l' := #[.val (.int p0), .val (.int p1), .val (.long p2), .second, .val (.int (6 : Int32)), .val (.ref cb), .unset]) rfl ?_
      show Steps p.tables e below (T49.setTop (mkF m 18 _ [])) t
      refine XS.iload P50.here P50.x rfl (hb hby at_18) rfl ?_
      show Steps p.tables e below (T49.setTop (mkF m 20 _ [(.int (6 : Int32))])) t
      refine XS.iconst P50.here P50.x rfl (hb hby at_20) ?_
      show Steps p.tables e below (T49.setTop (mkF m 21 _ [(.int (2 : Int32)), (.int (6 : Int32))])) t
      refine XS.icmpNo P50.here P50.x rfl (hb hby at_21) rfl (iiW_eq_f (by decide)) ?_
      show Steps p.tables e below (T49.setTop (mkF m 24 _ [])) t
      refine XS.iload P50.here P50.x rfl (hb hby at_24) rfl ?_
      show Steps p.tables e below (T49.setTop (mkF m 26 _ [(.int (6 : Int32))])) t
      refine XS.iconst P50.here P50.x rfl (hb hby at_26) ?_
      show Steps p.tables e below (T49.setTop (mkF m 27 _ [(.int (3 : Int32)), (.int (6 : Int32))])) t
      refine XS.icmpNo P50.here P50.x rfl (hb hby at_27) rfl (iiW_eq_f (by decide)) ?_
      show Steps p.tables e below (T49.setTop (mkF m 30 _ [])) t
      refine XS.iload P50.here P50.x rfl (hb hby at_30) rfl ?_
      show Steps p.tables e below (T49.setTop (mkF m 32 _ [(.int (6 : Int32))])) t
      refine XS.iconst P50.here P50.x rfl (hb hby at_32) ?_
      show Steps p.tables e below (T49.setTop (mkF m 33 _ [(.int (5 : Int32)), (.int (6 : Int32))])) t
      refine XS.icmpYes P50.here P50.x rfl (pc0 := 33) (pc' := 40) rfl (hb hby at_33) rfl (iiW_ne_t (by decide)) (by decide) (by decide) ?_
      show Steps p.tables e below (T49.setTop (mkF m 40 _ [])) t
      refine XS.iconst P50.here P50.x rfl (hb hby at_40) ?_
      show Steps p.tables e below (T49.setTop (mkF m 41 _ [(.int (0 : Int32))])) t
      refine XS.istore P50.here P50.x rfl (hb hby at_41) rfl (l' := #[.val (.int p0), .val (.int p1), .val (.long p2), .second, .val (.int (6 : Int32)), .val (.ref cb), .val (.int (0 : Int32))]) rfl ?_
      show Steps p.tables e below (T49.setTop (mkF m 43 _ [])) t
      refine XS.aload P50.here P50.x rfl (hb hby at_43) rfl rfl ?_
      exact kk
    refine wCallS P50 (m_isNo l Z a0 hw hs cb ub "java/lang/Object" h0 SU ECB (own_noO (tw61 hw) (tw17 hw) (by decide)) hcu) (tw5 hw) (tw6 hw) (tw7 hw) (tw8 hw) (by decide) (by rw [hml]; rfl) (lenOf pd_14 rfl) (argsL := [(.ref cb)]) (rest := []) rfl rfl (W := 0) (Nat.le_of_eq rfl) (by decide) (by decide) (by decide) (by decide) (by simp) (hb hby at_45) rfl (k' := 0) (n' := 0) rfl rfl ?_
    rintro T51 _ _ P52 - ⟨rfl, rfl⟩
    show Done _ _ _ _ _ _ _ _ _ _ _ _ _ _ _ T51 (mkF m 48 _ [(.int (0 : Int32))])
    refine Done.stepL (pc' := 58) (st' := [(.int (1 : Int32))]) (fun t kk => ?_) ?_
    · show Steps p.tables e below (T51.setTop (mkF m 48 _ [(.int (0 : Int32))])) t
      refine XS.iload P52.here P52.x rfl (hb hby at_48) rfl ?_
      show Steps p.tables e below (T51.setTop (mkF m 50 _ [(.int (0 : Int32)), (.int (0 : Int32))])) t
      refine XS.icmpNo P52.here P52.x rfl (hb hby at_50) rfl (iiW_ne_f (by decide)) ?_
      show Steps p.tables e below (T51.setTop (mkF m 53 _ [])) t
      refine XS.iconst P52.here P52.x rfl (hb hby at_53) ?_
      show Steps p.tables e below (T51.setTop (mkF m 54 _ [(.int (1 : Int32))])) t
      refine XS.goto P52.here P52.x rfl (pc0 := 54) (pc' := 58) rfl (hb hby at_54) (by decide) (by decide) ?_
      exact kk
    exact wRet P52 (t := .boolean) hret (narrow_01 (Or.inr rfl)) (Or.inl ⟨rfl, Or.inr (Or.inl rfl), _, rfl⟩) (hb hby at_58) rfl
  · refine Done.stepL (pc' := 13) (st' := [(.long p2), (.int p1), (.int (7 : Int32))]) (fun t kk => ?_) ?_
    · show Steps p.tables e below (T0.setTop (mkF m 9 _ [])) t
      refine XS.iload P0.here P0.x rfl (hb hby at_9) rfl ?_
      show Steps p.tables e below (T0.setTop (mkF m 11 _ [(.int (7 : Int32))])) t
      refine XS.iloadN P0.here P0.x rfl (hb hby at_11) rfl ?_
      show Steps p.tables e below (T0.setTop (mkF m 12 _ [(.int p1), (.int (7 : Int32))])) t
      refine XS.lloadN P0.here P0.x rfl (hb hby at_12) rfl ?_
      exact kk
    refine wCallS P0 (m_mk7 l Z a0 hw hs p1 p2 ub cb tb fb ci cj da gi gl cs h0 SU SC ST SF SH SI SL SA SS EUB ECB ETB EFB AI hEI ALc hEL hcs hcu) (tw1 hw) (tw2 hw) (tw3 hw) (tw4 hw) (by decide) (by rw [hml]; rfl) (lenOf pd_13 rfl) (argsL := [(.int (7 : Int32)), (.int p1), (.long p2)]) (rest := []) rfl rfl (W := 0) (Nat.le_of_eq rfl) (by decide) (by decide) (by decide) (by decide) (by simp) (hb hby at_13) rfl (k' := 1) (n' := 1) rfl rfl ?_
    rintro T53 h57 _ P54 K58 ⟨b55, rfl, X56⟩
    have szh57 : h0.size ≤ h57.size := K58.1
    show Done _ _ _ _ _ _ _ _ _ _ _ _ _ _ _ T53 (mkF m 16 _ [(.ref b55)])
    refine Done.step (T' := T53) (g' := (mkF m 45 #[.val (.int p0), .val (.int p1), .val (.long p2), .second, .val (.int (7 : Int32)), .val (.ref b55), .val (.int (0 : Int32))] [(.ref b55)])) (fun t kk => ?_) ?_
    · show Steps p.tables e below (T53.setTop (mkF m 16 _ [(.ref b55)])) t
      refine XS.astore P54.here P54.x rfl (hb hby at_16) rfl rfl (l' := #[.val (.int p0), .val (.int p1), .val (.long p2), .second, .val (.int (7 : Int32)), .val (.ref b55), .unset]) rfl ?_
      show Steps p.tables e below (T53.setTop (mkF m 18 _ [])) t
      refine XS.iload P54.here P54.x rfl (hb hby at_18) rfl ?_
      show Steps p.tables e below (T53.setTop (mkF m 20 _ [(.int (7 : Int32))])) t
      refine XS.iconst P54.here P54.x rfl (hb hby at_20) ?_
      show Steps p.tables e below (T53.setTop (mkF m 21 _ [(.int (2 : Int32)), (.int (7 : Int32))])) t
      refine XS.icmpNo P54.here P54.x rfl (hb hby at_21) rfl (iiW_eq_f (by decide)) ?_
      show Steps p.tables e below (T53.setTop (mkF m 24 _ [])) t
      refine XS.iload P54.here P54.x rfl (hb hby at_24) rfl ?_
      show Steps p.tables e below (T53.setTop (mkF m 26 _ [(.int (7 : Int32))])) t
      refine XS.iconst P54.here P54.x rfl (hb hby at_26) ?_
      show Steps p.tables e below (T53.setTop (mkF m 27 _ [(.int (3 : Int32)), (.int (7 : Int32))])) t
      refine XS.icmpNo P54.here P54.x rfl (hb hby at_27) rfl (iiW_eq_f (by decide)) ?_
      show Steps p.tables e below (T53.setTop (mkF m 30 _ [])) t
      refine XS.iload P54.here P54.x rfl (hb hby at_30) rfl ?_
      show Steps p.tables e below (T53.setTop (mkF m 32 _ [(.int (7 : Int32))])) t
      refine XS.iconst P54.here P54.x rfl (hb hby at_32) ?_
      show Steps p.tables e below (T53.setTop (mkF m 33 _ [(.int (5 : Int32)), (.int (7 : Int32))])) t
      refine XS.icmpYes P54.here P54.x rfl (pc0 := 33) (pc' := 40) rfl (hb hby at_33) rfl (iiW_ne_t (by decide)) (by decide) (by decide) ?_
      show Steps p.tables e below (T53.setTop (mkF m 40 _ [])) t
      refine XS.iconst P54.here P54.x rfl (hb hby at_40) ?_
      show Steps p.tables e below (T53.setTop (mkF m 41 _ [(.int (0 : Int32))])) t
      refine XS.istore P54.here P54.x rfl (hb hby at_41) rfl (l' := #[.val (.int p0), .val (.int p1), .val (.long p2), .second, .val (.int (7 : Int32)), .val (.ref b55), .val (.int (0 : Int32))]) rfl ?_
      show Steps p.tables e below (T53.setTop (mkF m 43 _ [])) t
      refine XS.aload P54.here P54.x rfl (hb hby at_43) rfl rfl ?_
      exact kk
    have f61 := (staKeep SU K58 ns0)
    have f62 := (EUB.keep K58)
    refine wCallS P54 (m_isNo l Z a0 hw hs b55 ub "java/lang/Integer" h57 f61 X56 (own_noC (tw86 hw) (tw17 hw) (NS.step (tw86 hw) (NS.step (tw78 hw) (own_root (tw61 hw) (tw17 hw) (by decide)) (by decide)) (by decide)) (by decide)) (Exa.ne X56 f62 (by decide))) (tw5 hw) (tw6 hw) (tw7 hw) (tw8 hw) (by decide) (by rw [hml]; rfl) (lenOf pd_14 rfl) (argsL := [(.ref b55)]) (rest := []) rfl rfl (W := 0) (Nat.le_of_eq rfl) (by decide) (by decide) (by decide) (by decide) (by simp) (hb hby at_45) rfl (k' := 1) (n' := 1) rfl rfl ?_
    rintro T59 _ _ P60 - ⟨rfl, rfl⟩
    show Done _ _ _ _ _ _ _ _ _ _ _ _ _ _ _ T59 (mkF m 48 _ [(.int (0 : Int32))])
    refine Done.stepL (pc' := 58) (st' := [(.int (1 : Int32))]) (fun t kk => ?_) ?_
    · show Steps p.tables e below (T59.setTop (mkF m 48 _ [(.int (0 : Int32))])) t
      refine XS.iload P60.here P60.x rfl (hb hby at_48) rfl ?_
      show Steps p.tables e below (T59.setTop (mkF m 50 _ [(.int (0 : Int32)), (.int (0 : Int32))])) t
      refine XS.icmpNo P60.here P60.x rfl (hb hby at_50) rfl (iiW_ne_f (by decide)) ?_
      show Steps p.tables e below (T59.setTop (mkF m 53 _ [])) t
      refine XS.iconst P60.here P60.x rfl (hb hby at_53) ?_
      show Steps p.tables e below (T59.setTop (mkF m 54 _ [(.int (1 : Int32))])) t
      refine XS.goto P60.here P60.x rfl (pc0 := 54) (pc' := 58) rfl (hb hby at_54) (by decide) (by decide) ?_
      exact kk
    exact wRet P60 (t := .boolean) hret (narrow_01 (Or.inr rfl)) (Or.inl ⟨rfl, Or.inr (Or.inl rfl), _, rfl⟩) (hb hby at_58) rfl
  · refine Done.stepL (pc' := 13) (st' := [(.long p2), (.int p1), (.int (8 : Int32))]) (fun t kk => ?_) ?_
    · show Steps p.tables e below (T0.setTop (mkF m 9 _ [])) t
      refine XS.iload P0.here P0.x rfl (hb hby at_9) rfl ?_
      show Steps p.tables e below (T0.setTop (mkF m 11 _ [(.int (8 : Int32))])) t
      refine XS.iloadN P0.here P0.x rfl (hb hby at_11) rfl ?_
      show Steps p.tables e below (T0.setTop (mkF m 12 _ [(.int p1), (.int (8 : Int32))])) t
      refine XS.lloadN P0.here P0.x rfl (hb hby at_12) rfl ?_
      exact kk
    refine wCallS P0 (m_mk8 l Z a0 hw hs p1 p2 ub cb tb fb ci cj da gi gl cs h0 SU SC ST SF SH SI SL SA SS EUB ECB ETB EFB AI hEI ALc hEL hcs hcu) (tw1 hw) (tw2 hw) (tw3 hw) (tw4 hw) (by decide) (by rw [hml]; rfl) (lenOf pd_13 rfl) (argsL := [(.int (8 : Int32)), (.int p1), (.long p2)]) (rest := []) rfl rfl (W := 0) (Nat.le_of_eq rfl) (by decide) (by decide) (by decide) (by decide) (by simp) (hb hby at_13) rfl (k' := 1) (n' := 1) rfl rfl ?_
    rintro T63 h67 _ P64 K68 ⟨b65, rfl, X66⟩
    have szh67 : h0.size ≤ h67.size := K68.1
    show Done _ _ _ _ _ _ _ _ _ _ _ _ _ _ _ T63 (mkF m 16 _ [(.ref b65)])
    refine Done.step (T' := T63) (g' := (mkF m 45 #[.val (.int p0), .val (.int p1), .val (.long p2), .second, .val (.int (8 : Int32)), .val (.ref b65), .val (.int (0 : Int32))] [(.ref b65)])) (fun t kk => ?_) ?_
    · show Steps p.tables e below (T63.setTop (mkF m 16 _ [(.ref b65)])) t
      refine XS.astore P64.here P64.x rfl (hb hby at_16) rfl rfl (l' := #[.val (.int p0), .val (.int p1), .val (.long p2), .second, .val (.int (8 : Int32)), .val (.ref b65), .unset]) rfl ?_
      show Steps p.tables e below (T63.setTop (mkF m 18 _ [])) t
      refine XS.iload P64.here P64.x rfl (hb hby at_18) rfl ?_
      show Steps p.tables e below (T63.setTop (mkF m 20 _ [(.int (8 : Int32))])) t
      refine XS.iconst P64.here P64.x rfl (hb hby at_20) ?_
      show Steps p.tables e below (T63.setTop (mkF m 21 _ [(.int (2 : Int32)), (.int (8 : Int32))])) t
      refine XS.icmpNo P64.here P64.x rfl (hb hby at_21) rfl (iiW_eq_f (by decide)) ?_
      show Steps p.tables e below (T63.setTop (mkF m 24 _ [])) t
      refine XS.iload P64.here P64.x rfl (hb hby at_24) rfl ?_
      show Steps p.tables e below (T63.setTop (mkF m 26 _ [(.int (8 : Int32))])) t
      refine XS.iconst P64.here P64.x rfl (hb hby at_26) ?_
      show Steps p.tables e below (T63.setTop (mkF m 27 _ [(.int (3 : Int32)), (.int (8 : Int32))])) t
      refine XS.icmpNo P64.here P64.x rfl (hb hby at_27) rfl (iiW_eq_f (by decide)) ?_
      show Steps p.tables e below (T63.setTop (mkF m 30 _ [])) t
      refine XS.iload P64.here P64.x rfl (hb hby at_30) rfl ?_
      show Steps p.tables e below (T63.setTop (mkF m 32 _ [(.int (8 : Int32))])) t
      refine XS.iconst P64.here P64.x rfl (hb hby at_32) ?_
      show Steps p.tables e below (T63.setTop (mkF m 33 _ [(.int (5 : Int32)), (.int (8 : Int32))])) t
      refine XS.icmpYes P64.here P64.x rfl (pc0 := 33) (pc' := 40) rfl (hb hby at_33) rfl (iiW_ne_t (by decide)) (by decide) (by decide) ?_
      show Steps p.tables e below (T63.setTop (mkF m 40 _ [])) t
      refine XS.iconst P64.here P64.x rfl (hb hby at_40) ?_
      show Steps p.tables e below (T63.setTop (mkF m 41 _ [(.int (0 : Int32))])) t
      refine XS.istore P64.here P64.x rfl (hb hby at_41) rfl (l' := #[.val (.int p0), .val (.int p1), .val (.long p2), .second, .val (.int (8 : Int32)), .val (.ref b65), .val (.int (0 : Int32))]) rfl ?_
      show Steps p.tables e below (T63.setTop (mkF m 43 _ [])) t
      refine XS.aload P64.here P64.x rfl (hb hby at_43) rfl rfl ?_
      exact kk
    have f71 := (staKeep SU K68 ns0)
    have f72 := (EUB.keep K68)
    refine wCallS P64 (m_isNo l Z a0 hw hs b65 ub "java/lang/Long" h67 f71 X66 (own_noC (tw77 hw) (tw17 hw) (NS.step (tw77 hw) (NS.step (tw78 hw) (own_root (tw61 hw) (tw17 hw) (by decide)) (by decide)) (by decide)) (by decide)) (Exa.ne X66 f72 (by decide))) (tw5 hw) (tw6 hw) (tw7 hw) (tw8 hw) (by decide) (by rw [hml]; rfl) (lenOf pd_14 rfl) (argsL := [(.ref b65)]) (rest := []) rfl rfl (W := 0) (Nat.le_of_eq rfl) (by decide) (by decide) (by decide) (by decide) (by simp) (hb hby at_45) rfl (k' := 1) (n' := 1) rfl rfl ?_
    rintro T69 _ _ P70 - ⟨rfl, rfl⟩
    show Done _ _ _ _ _ _ _ _ _ _ _ _ _ _ _ T69 (mkF m 48 _ [(.int (0 : Int32))])
    refine Done.stepL (pc' := 58) (st' := [(.int (1 : Int32))]) (fun t kk => ?_) ?_
    · show Steps p.tables e below (T69.setTop (mkF m 48 _ [(.int (0 : Int32))])) t
      refine XS.iload P70.here P70.x rfl (hb hby at_48) rfl ?_
      show Steps p.tables e below (T69.setTop (mkF m 50 _ [(.int (0 : Int32)), (.int (0 : Int32))])) t
      refine XS.icmpNo P70.here P70.x rfl (hb hby at_50) rfl (iiW_ne_f (by decide)) ?_
      show Steps p.tables e below (T69.setTop (mkF m 53 _ [])) t
      refine XS.iconst P70.here P70.x rfl (hb hby at_53) ?_
      show Steps p.tables e below (T69.setTop (mkF m 54 _ [(.int (1 : Int32))])) t
      refine XS.goto P70.here P70.x rfl (pc0 := 54) (pc' := 58) rfl (hb hby at_54) (by decide) (by decide) ?_
      exact kk
    exact wRet P70 (t := .boolean) hret (narrow_01 (Or.inr rfl)) (Or.inl ⟨rfl, Or.inr (Or.inl rfl), _, rfl⟩) (hb hby at_58) rfl
  · refine Done.stepL (pc' := 13) (st' := [(.long p2), (.int p1), (.int (9 : Int32))]) (fun t kk => ?_) ?_
    · show Steps p.tables e below (T0.setTop (mkF m 9 _ [])) t
      refine XS.iload P0.here P0.x rfl (hb hby at_9) rfl ?_
      show Steps p.tables e below (T0.setTop (mkF m 11 _ [(.int (9 : Int32))])) t
      refine XS.iloadN P0.here P0.x rfl (hb hby at_11) rfl ?_
      show Steps p.tables e below (T0.setTop (mkF m 12 _ [(.int p1), (.int (9 : Int32))])) t
      refine XS.lloadN P0.here P0.x rfl (hb hby at_12) rfl ?_
      exact kk
    refine wCallS P0 (m_mk9 l Z a0 hw hs p1 p2 ub cb tb fb ci cj da gi gl cs h0 SU SC ST SF SH SI SL SA SS EUB ECB ETB EFB AI hEI ALc hEL hcs hcu) (tw1 hw) (tw2 hw) (tw3 hw) (tw4 hw) (by decide) (by rw [hml]; rfl) (lenOf pd_13 rfl) (argsL := [(.int (9 : Int32)), (.int p1), (.long p2)]) (rest := []) rfl rfl (W := 0) (Nat.le_of_eq rfl) (by decide) (by decide) (by decide) (by decide) (by simp) (hb hby at_13) rfl (k' := 1) (n' := 3) rfl rfl ?_
    rintro T73 h77 _ P74 K78 ⟨b75, rfl, X76⟩
    have szh77 : h0.size ≤ h77.size := K78.1
    show Done _ _ _ _ _ _ _ _ _ _ _ _ _ _ _ T73 (mkF m 16 _ [(.ref b75)])
    refine Done.step (T' := T73) (g' := (mkF m 45 #[.val (.int p0), .val (.int p1), .val (.long p2), .second, .val (.int (9 : Int32)), .val (.ref b75), .val (.int (0 : Int32))] [(.ref b75)])) (fun t kk => ?_) ?_
    · show Steps p.tables e below (T73.setTop (mkF m 16 _ [(.ref b75)])) t
      refine XS.astore P74.here P74.x rfl (hb hby at_16) rfl rfl (l' := #[.val (.int p0), .val (.int p1), .val (.long p2), .second, .val (.int (9 : Int32)), .val (.ref b75), .unset]) rfl ?_
      show Steps p.tables e below (T73.setTop (mkF m 18 _ [])) t
      refine XS.iload P74.here P74.x rfl (hb hby at_18) rfl ?_
      show Steps p.tables e below (T73.setTop (mkF m 20 _ [(.int (9 : Int32))])) t
      refine XS.iconst P74.here P74.x rfl (hb hby at_20) ?_
      show Steps p.tables e below (T73.setTop (mkF m 21 _ [(.int (2 : Int32)), (.int (9 : Int32))])) t
      refine XS.icmpNo P74.here P74.x rfl (hb hby at_21) rfl (iiW_eq_f (by decide)) ?_
      show Steps p.tables e below (T73.setTop (mkF m 24 _ [])) t
      refine XS.iload P74.here P74.x rfl (hb hby at_24) rfl ?_
      show Steps p.tables e below (T73.setTop (mkF m 26 _ [(.int (9 : Int32))])) t
      refine XS.iconst P74.here P74.x rfl (hb hby at_26) ?_
      show Steps p.tables e below (T73.setTop (mkF m 27 _ [(.int (3 : Int32)), (.int (9 : Int32))])) t
      refine XS.icmpNo P74.here P74.x rfl (hb hby at_27) rfl (iiW_eq_f (by decide)) ?_
      show Steps p.tables e below (T73.setTop (mkF m 30 _ [])) t
      refine XS.iload P74.here P74.x rfl (hb hby at_30) rfl ?_
      show Steps p.tables e below (T73.setTop (mkF m 32 _ [(.int (9 : Int32))])) t
      refine XS.iconst P74.here P74.x rfl (hb hby at_32) ?_
      show Steps p.tables e below (T73.setTop (mkF m 33 _ [(.int (5 : Int32)), (.int (9 : Int32))])) t
      refine XS.icmpYes P74.here P74.x rfl (pc0 := 33) (pc' := 40) rfl (hb hby at_33) rfl (iiW_ne_t (by decide)) (by decide) (by decide) ?_
      show Steps p.tables e below (T73.setTop (mkF m 40 _ [])) t
      refine XS.iconst P74.here P74.x rfl (hb hby at_40) ?_
      show Steps p.tables e below (T73.setTop (mkF m 41 _ [(.int (0 : Int32))])) t
      refine XS.istore P74.here P74.x rfl (hb hby at_41) rfl (l' := #[.val (.int p0), .val (.int p1), .val (.long p2), .second, .val (.int (9 : Int32)), .val (.ref b75), .val (.int (0 : Int32))]) rfl ?_
      show Steps p.tables e below (T73.setTop (mkF m 43 _ [])) t
      refine XS.aload P74.here P74.x rfl (hb hby at_43) rfl rfl ?_
      exact kk
    have f81 := (staKeep SU K78 ns0)
    have f82 := (EUB.keep K78)
    refine wCallS P74 (m_isNo l Z a0 hw hs b75 ub "java/util/ArrayList" h77 f81 X76 (own_noC (tw58 hw) (tw17 hw) (NS.step (tw58 hw) (NS.step (tw59 hw) (NS.step (tw60 hw) (own_root (tw61 hw) (tw17 hw) (by decide)) (by decide)) (by decide)) (by decide)) (by decide)) (Exa.ne X76 f82 (by decide))) (tw5 hw) (tw6 hw) (tw7 hw) (tw8 hw) (by decide) (by rw [hml]; rfl) (lenOf pd_14 rfl) (argsL := [(.ref b75)]) (rest := []) rfl rfl (W := 0) (Nat.le_of_eq rfl) (by decide) (by decide) (by decide) (by decide) (by simp) (hb hby at_45) rfl (k' := 1) (n' := 3) rfl rfl ?_
    rintro T79 _ _ P80 - ⟨rfl, rfl⟩
    show Done _ _ _ _ _ _ _ _ _ _ _ _ _ _ _ T79 (mkF m 48 _ [(.int (0 : Int32))])
    refine Done.stepL (pc' := 58) (st' := [(.int (1 : Int32))]) (fun t kk => ?_) ?_
    · show Steps p.tables e below (T79.setTop (mkF m 48 _ [(.int (0 : Int32))])) t
      refine XS.iload P80.here P80.x rfl (hb hby at_48) rfl ?_
      show Steps p.tables e below (T79.setTop (mkF m 50 _ [(.int (0 : Int32)), (.int (0 : Int32))])) t
      refine XS.icmpNo P80.here P80.x rfl (hb hby at_50) rfl (iiW_ne_f (by decide)) ?_
      show Steps p.tables e below (T79.setTop (mkF m 53 _ [])) t
      refine XS.iconst P80.here P80.x rfl (hb hby at_53) ?_
      show Steps p.tables e below (T79.setTop (mkF m 54 _ [(.int (1 : Int32))])) t
      refine XS.goto P80.here P80.x rfl (pc0 := 54) (pc' := 58) rfl (hb hby at_54) (by decide) (by decide) ?_
      exact kk
    exact wRet P80 (t := .boolean) hret (narrow_01 (Or.inr rfl)) (Or.inl ⟨rfl, Or.inr (Or.inl rfl), _, rfl⟩) (hb hby at_58) rfl
set_option maxRecDepth 65536 in
set_option maxHeartbeats 4000000 in
theorem comes_1 {Post : Tables → Env → Array Value → State → Outcome → State → Prop} (hpost : ∀ tb e args s v u, (limb_1_1.after args s (.returned v) u = true ∧ limb_1_2.after args s (.returned v) u = true ∧ True) → FrameEnd s (.returned v) u (Jvm.fieldLocs frame_1_writes args s ++ Jvm.arrayLocs frame_1_arrays args s ++ Jvm.staticLocs frame_1_statics s) 16 128 → Post tb e args s (.returned v) u) :
    ArmFor flags0 classFile x code maxLocals ret World_1 tables_1 room_1 Calls_1 rest_1 Pre_1 Post := by
  intro l hfl _ _ p e ha hc hk s m args below hf hA hF happ hP
  obtain ⟨hcalls, hrest, hpre⟩ := hP
  obtain ⟨-, -, -, hnamed, -, -, -, hat⟩ := (Spec.applies_iff hf).mp happ
  obtain ⟨hg, hn⟩ := and_e (Cond.before_iff.mp (show (Jvm.Cond.and given_1 narrow_1).before args s = true from hpre))
  obtain ⟨h1, g0⟩ := and_e hg
  obtain ⟨q0, g1⟩ := and_e g0
  obtain ⟨q1, g2⟩ := and_e g1
  obtain ⟨w0, w1, w2, rfl⟩ : ∃ w0 w1 w2 : Value, args = #[w0, w1, w2] := by
    have hs : args.size = 3 := by simpa [Cond.value, given_1] using h1
    obtain ⟨L⟩ := args
    match L, hs with
    | [w0, w1, w2], _ => exact ⟨w0, w1, w2, rfl⟩
  have hw := fun d (hd : d ∈ tables_1) => atoms_spec (ws := Jvm.Cond.code x code maxLocals ret :: tables_1) hat d (List.mem_cons_of_mem _ hd)
  have hfit : Fit s := fun {y c} hc i hi => by
    obtain ⟨ha, rfl⟩ := Array.getElem?_eq_some_iff.mp hc
    have q := List.all_eq_true.mp ((Array.all_eq_true_iff_forall_mem.mp hF) _ (Array.getElem_mem ha)) i (List.mem_range.mpr hi)
    simpa [Array.getElem?_eq_getElem hi] using q
  obtain ⟨i0, e0⟩ := is_v q0
  obtain rfl : w0 = (.int i0) := Option.some.inj e0
  obtain ⟨i1, e1⟩ := is_v q1
  obtain rfl : w1 = (.int i1) := Option.some.inj e1
  obtain ⟨i2, e2⟩ := isL_v g2
  obtain rfl : w2 = (.long i2) := Option.some.inj e2
  obtain ⟨hsets, hown0⟩ := atoms_of _ (rest_1_c_eq ▸ (show rest_1_c.before _ s = true from hrest))
  obtain ⟨nu1, nu2⟩ := and_e (show (Jvm.Cond.and _ _).value _ _ _ _ _ = _ from hn)
  obtain ⟨nu2, nu3⟩ := and_e nu2
  obtain ⟨ub, eub⟩ := exa_v nu1
  obtain ⟨cb, ecb⟩ := exa_v nu2
  have hcu : cb ≠ ub := fun z_ => gotF (eq_R ecb eub rfl rfl) (not_v nu3) (by rw [z_])
  have SU : Sta s s.heap "kindlewood/Variables" "UNBOXED" "Ljava/lang/Object;" (.ref ub) := Sta.start eub (Or.inr ⟨(tw10 hw), (tw11 hw)⟩)
  have SC : Sta s s.heap "kindlewood/StmtCode" "COMPLETED" "Ljava/lang/Object;" (.ref cb) := Sta.start ecb (Or.inr ⟨(tw134 hw), (tw135 hw)⟩)
  have EUB := exa_at eub nu1
  have ECB := exa_at ecb nu2
  obtain ⟨tb, etb⟩ := exa_v (Cond.before_iff.mp (hsets _ (List.mem_of_getElem? (i := 19) rfl)))
  have ST : Sta s s.heap "java/lang/Boolean" "TRUE" "Ljava/lang/Boolean;" (.ref tb) := Sta.start etb (Or.inl (hsets _ (List.mem_of_getElem? (i := 18) rfl)))
  have ETB := exa_at etb (Cond.before_iff.mp (hsets _ (List.mem_of_getElem? (i := 19) rfl)))
  obtain ⟨fb, efb⟩ := exa_v (Cond.before_iff.mp (hsets _ (List.mem_of_getElem? (i := 32) rfl)))
  have SF : Sta s s.heap "java/lang/Boolean" "FALSE" "Ljava/lang/Boolean;" (.ref fb) := Sta.start efb (Or.inl (hsets _ (List.mem_of_getElem? (i := 31) rfl)))
  have EFB := exa_at efb (Cond.before_iff.mp (hsets _ (List.mem_of_getElem? (i := 32) rfl)))
  have ehi := eqv_i (Term.int_eval 127) (Cond.before_iff.mp (hsets _ (List.mem_of_getElem? (i := 12) rfl)))
  have SH : Sta s s.heap "java/lang/Integer$IntegerCache" "high" "I" (.int 127) := Sta.start ehi (Or.inl (hsets _ (List.mem_of_getElem? (i := 10) rfl)))
  obtain ⟨ci, eci⟩ := exa_v (Cond.before_iff.mp (hsets _ (List.mem_of_getElem? (i := 14) rfl)))
  have SI : Sta s s.heap "java/lang/Integer$IntegerCache" "cache" "[Ljava/lang/Integer;" (.ref ci) := Sta.start eci (Or.inr ⟨(tw84 hw), (hsets _ (List.mem_of_getElem? (i := 11) rfl))⟩)
  obtain ⟨gi, AI, hEI⟩ := own_bx eci (Cond.before_iff.mp (hsets _ (List.mem_of_getElem? (i := 13) rfl))) (Cond.before_iff.mp (hsets _ (List.mem_of_getElem? (i := 15) rfl))) (Cond.before_iff.mp (hsets _ (List.mem_of_getElem? (i := 16) rfl)))
  obtain ⟨cj, ecj⟩ := exa_v (Cond.before_iff.mp (hsets _ (List.mem_of_getElem? (i := 37) rfl)))
  have SL : Sta s s.heap "java/lang/Long$LongCache" "cache" "[Ljava/lang/Long;" (.ref cj) := Sta.start ecj (Or.inl (hsets _ (List.mem_of_getElem? (i := 35) rfl)))
  obtain ⟨gl, ALc, hEL⟩ := own_bx ecj (Cond.before_iff.mp (hsets _ (List.mem_of_getElem? (i := 36) rfl))) (Cond.before_iff.mp (hsets _ (List.mem_of_getElem? (i := 38) rfl))) (Cond.before_iff.mp (hsets _ (List.mem_of_getElem? (i := 39) rfl)))
  obtain ⟨da, eda⟩ := exa_v (Cond.before_iff.mp (hsets _ (List.mem_of_getElem? (i := 7) rfl)))
  have SA : Sta s s.heap "java/util/ArrayList" "DEFAULTCAPACITY_EMPTY_ELEMENTDATA" "[Ljava/lang/Object;" (.ref da) := Sta.start eda (Or.inr ⟨(tw36 hw), (hsets _ (List.mem_of_getElem? (i := 2) rfl))⟩)
  have nCS := not_v (Cond.before_iff.mp (hsets _ (List.mem_of_getElem? (i := 23) rfl)))
  obtain ⟨cs, eCS⟩ := is_v (Cond.before_iff.mp (hsets _ (List.mem_of_getElem? (i := 22) rfl)))
  have SS : Sta s s.heap "java/lang/String" "COMPACT_STRINGS" "Z" (.int cs) := Sta.start eCS (Or.inl (hsets _ (List.mem_of_getElem? (i := 21) rfl)))
  have hcs : ¬ (cs = (0 : Int32)) := gotF (Cond.eq_ints eCS (Term.int_eval (0))) nCS
  obtain ⟨n, o, h1, h2, h3, _, L, rfl, ⟨rfl, N, -⟩, hq⟩ := m_law l s _ hw hsets i0 i1 i2 ub cb tb fb ci cj da gi gl cs s.heap SU SC ST SF SH SI SL SA SS EUB ECB ETB EFB AI hEI ALc hEL hcs hcu p e ha hc hk s m _ below hf ((Spec.applies_iff_loose hf).mp happ).1 ⟨rfl, State.Warmed39.refl s, rfl⟩ trivial
  refine ⟨n, _, h1, h2, h3, hpost _ _ _ _ _ _ ⟨Cond.after_iff.mpr rfl, Cond.after_iff.mpr (eq_i res_at (Term.int_eval (1)) rfl), trivial⟩ ⟨hq.1, hq.2.1, (hq.2.2.sift fun y hy => Or.inr ((N y hy).resolve_left (by simp))).mono (by decide) (by decide)⟩⟩
theorem main_1_1 : Claimed_1_1 := comes_1 fun _ _ _ _ _ _ h hF => ⟨h.1, hF⟩
theorem main_1_2 : Claimed_1_2 := comes_1 fun _ _ _ _ _ _ h hF => ⟨h.2.1, hF⟩
end Jvm.Pilot.@@N@@
namespace Jvm.Pilot.@@N@@
open Jvm Jvm.ClassFile Sem Op Lib Jvm.Free Jvm.Stand Jvm.Pilot.@@N@@.Jvm.D
/-! MADE BY PROGRAM (witnessworld.py) out of the Statement's table words and the real class files: 40 classes; the members and pool entries that the words name. The judged class is class 1, her method 2. -/
namespace start1
open Jvm.ClassFile
def u (s : String) : CpInfo := .utf8 (stringToUtf16 s)
/-- a pool by its gaps: so many unusable entries, then the entry; so many at the end -/
def gap : Nat → List CpInfo → List CpInfo
  | 0, r => r
  | n + 1, r => .unusable :: gap n r
def poolList (es : List (Nat × CpInfo)) (last : Nat) : List CpInfo := es.foldr (fun e r => gap e.1 (e.2 :: r)) (gap last [])
def pool (es : List (Nat × CpInfo)) (last : Nat) : Array CpInfo := ⟨poolList es last⟩
def fileOf (pool : Array CpInfo) (this : Nat) (attrs : Array Attribute := #[]) (ms : Array MethodInfo := #[]) (fl : Nat := 33) (sup : Nat := 0) (ifs : Array Nat := #[]) (fds : Array FieldInfo := #[]) : ClassFile where
  minorVersion := 0
  majorVersion := 65
  constantPool := pool
  accessFlags := fl
  thisClass := this
  superClass := sup
  interfaces := ifs
  fields := fds
  methods := ms
  attributes := attrs
def plain (name : String) (sup : Option ClassId) : Class where
  name := name
  kind := .ordinary
  loader := none
  accessFlags := 33
  super := sup
  interfaces := #[]
  cf := none
  fields := #[]
  methods := #[]
  instanceTypes := #[]
  staticTypes := #[]
  resolved := #[]
  callSites := []
  init := .initialized
  statics := none
  mirror := none

def pool0 : Array CpInfo := pool [(5, u "<init>"), (0, u "()V"), (1, .class_ 10), (1, u "java/lang/Object")] 113

def k0c0 : Code := { maxStack := 0, maxLocals := 1, code := object_method_1_code, exceptionTable := #[], attributes := #[] }
def k0m0 : Method := { name := "<init>", desc := "()V", sig := { parameters := [], returnType := none }, accessFlags := 1, code := some k0c0 }
/-- java/lang/Object -/
def k0 : Class := { plain "java/lang/Object" none with
  accessFlags := 33
  interfaces := #[]
  cf := some (fileOf pool0 8 #[] #[{ accessFlags := 1, nameIndex := 5, descriptorIndex := 6, attributes := #[] }] 33 0 #[] #[])
  fields := #[]
  methods := #[k0m0]
  instanceTypes := #[]
  staticTypes := #[]
  resolved := Array.replicate 124 none
  statics := none }

def pool1 : Array CpInfo := pool [(2, .class_ 4), (0, .nameAndType 5 6), (0, u "java/lang/Object"), (0, u "<init>"), (0, u "()V"), (0, .methodref 8 9), (0, .class_ 10), (0, .nameAndType 11 12), (0, u "java/lang/Boolean"), (0, u "valueOf"), (0, u "(Z)Ljava/lang/Boolean;"), (0, .methodref 14 15), (0, .class_ 16), (0, .nameAndType 11 17), (0, u "java/lang/Double"), (0, u "(D)Ljava/lang/Double;"), (0, .class_ 19), (0, u "java/lang/String"), (0, .methodref 18 21), (0, .nameAndType 5 22), (0, u "([C)V"), (0, .fieldref 24 25), (0, .class_ 26), (0, .nameAndType 27 28), (0, u "kindlewood/Variables"), (0, u "UNBOXED"), (0, u "Ljava/lang/Object;"), (0, .fieldref 30 31), (0, .class_ 32), (0, .nameAndType 33 28), (0, u "kindlewood/StmtCode"), (0, u "COMPLETED"), (0, .methodref 35 36), (0, .class_ 37), (0, .nameAndType 11 38), (0, u "java/lang/Integer"), (0, u "(I)Ljava/lang/Integer;"), (0, .methodref 40 41), (0, .class_ 42), (0, .nameAndType 11 43), (0, u "java/lang/Long"), (0, u "(J)Ljava/lang/Long;"), (0, .class_ 45), (0, u "java/util/ArrayList"), (0, .methodref 44 3), (0, .integer 2147483647), (0, .methodref 49 50), (0, .class_ 51), (0, .nameAndType 52 53), (0, u "kindlewood/InterpreterIsNumberPinLaw"), (0, u "make"), (0, u "(IIJ)Ljava/lang/Object;"), (0, .methodref 55 56), (0, .class_ 57), (0, .nameAndType 58 59), (0, u "kindlewood/Interpreter"), (0, u "isNumber"), (0, u "(Ljava/lang/Object;)Z"), (3, u "law"), (0, u "(IIJ)Z")] 2

def k1m0 : Method := { name := "<init>", desc := "()V", sig := { parameters := [], returnType := none }, accessFlags := 2, code := none }
def k1c1 : Code := { maxStack := 4, maxLocals := 5, code := method_2_code, exceptionTable := #[], attributes := #[] }
def k1m1 : Method := { name := "make", desc := "(IIJ)Ljava/lang/Object;", sig := { parameters := [.int, .int, .long], returnType := some (.object "java/lang/Object") }, accessFlags := 10, code := some k1c1 }
def k1c2 : Code := { maxStack := 4, maxLocals := 7, code := code, exceptionTable := #[], attributes := #[] }
def k1m2 : Method := { name := "law", desc := "(IIJ)Z", sig := { parameters := [.int, .int, .long], returnType := some .boolean }, accessFlags := 9, code := some k1c2 }
/-- kindlewood/InterpreterIsNumberPinLaw -/
def k1 : Class := { plain "kindlewood/InterpreterIsNumberPinLaw" (some 0) with
  accessFlags := 49
  interfaces := #[]
  cf := some (fileOf pool1 49 #[] #[{ accessFlags := 2, nameIndex := 5, descriptorIndex := 6, attributes := #[] }, { accessFlags := 10, nameIndex := 52, descriptorIndex := 53, attributes := #[] }, { accessFlags := 9, nameIndex := 63, descriptorIndex := 64, attributes := #[] }] 49 2 #[] #[])
  fields := #[]
  methods := #[k1m0, k1m1, k1m2]
  instanceTypes := #[]
  staticTypes := #[]
  resolved := Array.replicate 67 none
  statics := none }

def pool2 : Array CpInfo := pool [(2, .class_ 4), (1, u "java/lang/Object"), (6, .class_ 13), (1, u "kindlewood/Interpreter"), (0, u "globals"), (0, u "Lkindlewood/Globals;"), (5, u "numbers"), (0, u "Lkindlewood/NumberStack;"), (2, u "out"), (0, u "Lkindlewood/ProgramOutput;"), (2, u "stack"), (0, u "Lkindlewood/RunStack;"), (7, u "compiler"), (0, u "Lkindlewood/Compiler;"), (58, .class_ 100), (1, u "kindlewood/Variables"), (2, .fieldref 98 104), (0, .nameAndType 105 106), (0, u "UNBOXED"), (0, u "Ljava/lang/Object;"), (6, u "unboxedNumber"), (0, u "D"), (5, .class_ 121), (0, u "java/lang/Double"), (45, u "base"), (0, u "I"), (47, .class_ 217), (0, u "kindlewood/Interpreter$1"), (7, .class_ 226), (0, u "kindlewood/Interpreter$2"), (31, u "isNumber"), (0, u "(Ljava/lang/Object;)Z"), (6, u "MAX_DEPTH"), (2, u "MAX_CALL_LEVELS"), (0, u "STACK_OVERFLOW"), (0, u "Ljava/lang/String;")] 56

def k2c0 : Code := { maxStack := 2, maxLocals := 1, code := prog_41_method_10_code, exceptionTable := #[], attributes := #[] }
def k2m0 : Method := { name := "isNumber", desc := "(Ljava/lang/Object;)Z", sig := { parameters := [(.object "java/lang/Object")], returnType := some .boolean }, accessFlags := 8, code := some k2c0 }
/-- kindlewood/Interpreter -/
def k2 : Class := { plain "kindlewood/Interpreter" (some 0) with
  accessFlags := 48
  interfaces := #[]
  cf := some (fileOf pool2 11 #[.nestMembers #[225, 216]] #[{ accessFlags := 8, nameIndex := 258, descriptorIndex := 259, attributes := #[] }] 48 2 #[] #[{ accessFlags := 24, nameIndex := 266, descriptorIndex := 168, attributes := #[] }, { accessFlags := 24, nameIndex := 269, descriptorIndex := 168, attributes := #[] }, { accessFlags := 24, nameIndex := 270, descriptorIndex := 271, attributes := #[] }, { accessFlags := 18, nameIndex := 25, descriptorIndex := 26, attributes := #[] }, { accessFlags := 18, nameIndex := 29, descriptorIndex := 30, attributes := #[] }, { accessFlags := 18, nameIndex := 14, descriptorIndex := 15, attributes := #[] }, { accessFlags := 18, nameIndex := 38, descriptorIndex := 39, attributes := #[] }, { accessFlags := 18, nameIndex := 21, descriptorIndex := 22, attributes := #[] }, { accessFlags := 2, nameIndex := 167, descriptorIndex := 168, attributes := #[] }, { accessFlags := 2, nameIndex := 113, descriptorIndex := 114, attributes := #[] }])
  fields := #[{ name := "MAX_DEPTH", type := .int, accessFlags := 24, slot := 0, constantValue := 0 }, { name := "MAX_CALL_LEVELS", type := .int, accessFlags := 24, slot := 1, constantValue := 0 }, { name := "STACK_OVERFLOW", type := (.object "java/lang/String"), accessFlags := 24, slot := 2, constantValue := 0 }, { name := "out", type := (.object "kindlewood/ProgramOutput"), accessFlags := 18, slot := 0, constantValue := 0 }, { name := "stack", type := (.object "kindlewood/RunStack"), accessFlags := 18, slot := 1, constantValue := 0 }, { name := "globals", type := (.object "kindlewood/Globals"), accessFlags := 18, slot := 2, constantValue := 0 }, { name := "compiler", type := (.object "kindlewood/Compiler"), accessFlags := 18, slot := 3, constantValue := 0 }, { name := "numbers", type := (.object "kindlewood/NumberStack"), accessFlags := 18, slot := 4, constantValue := 0 }, { name := "base", type := .int, accessFlags := 2, slot := 5, constantValue := 0 }, { name := "unboxedNumber", type := .double, accessFlags := 2, slot := 6, constantValue := 0 }]
  methods := #[k2m0]
  instanceTypes := #[(.object "kindlewood/ProgramOutput"), (.object "kindlewood/RunStack"), (.object "kindlewood/Globals"), (.object "kindlewood/Compiler"), (.object "kindlewood/NumberStack"), .int, .double]
  staticTypes := #[.int, .int, (.object "java/lang/String")]
  resolved := Array.replicate 328 none
  statics := none }

def pool3 : Array CpInfo := pool [(2, .class_ 4), (1, u "java/lang/Object"), (3, .class_ 10), (1, u "kindlewood/Variables"), (0, u "values"), (0, u "[Ljava/lang/Object;"), (2, u "numbers"), (0, u "[D"), (2, u "UNBOXED"), (0, u "Ljava/lang/Object;")] 34

/-- kindlewood/Variables -/
def k3 : Class := { plain "kindlewood/Variables" (some 0) with
  accessFlags := 1056
  interfaces := #[]
  cf := some (fileOf pool3 8 #[] #[] 1056 2 #[] #[{ accessFlags := 24, nameIndex := 19, descriptorIndex := 20, attributes := #[] }, { accessFlags := 2, nameIndex := 11, descriptorIndex := 12, attributes := #[] }, { accessFlags := 2, nameIndex := 15, descriptorIndex := 16, attributes := #[] }])
  fields := #[{ name := "UNBOXED", type := (.object "java/lang/Object"), accessFlags := 24, slot := 0, constantValue := 0 }, { name := "values", type := (.array (.object "java/lang/Object")), accessFlags := 2, slot := 0, constantValue := 0 }, { name := "numbers", type := (.array .double), accessFlags := 2, slot := 1, constantValue := 0 }]
  methods := #[]
  instanceTypes := #[(.array (.object "java/lang/Object")), (.array .double)]
  staticTypes := #[(.object "java/lang/Object")]
  resolved := Array.replicate 55 none
  statics := some 0 }

def pool4 : Array CpInfo := pool [(1, .class_ 2), (0, u "java/io/Serializable"), (0, .class_ 4), (0, u "java/lang/Object")] 2

/-- java/io/Serializable -/
def k4 : Class := { plain "java/io/Serializable" (some 0) with
  accessFlags := 1537
  interfaces := #[]
  cf := some (fileOf pool4 1 #[] #[] 1537 3 #[] #[])
  fields := #[]
  methods := #[]
  instanceTypes := #[]
  staticTypes := #[]
  resolved := Array.replicate 7 none
  statics := none }

def pool5 : Array CpInfo := pool [(1, .methodref 2 3), (0, .class_ 4), (0, .nameAndType 5 6), (0, u "java/lang/Object"), (0, u "<init>"), (0, u "()V"), (1, .class_ 10), (1, u "java/lang/Number"), (2, .class_ 14), (0, u "java/io/Serializable"), (0, u "serialVersionUID"), (0, u "J")] 20

def k5c0 : Code := { maxStack := 1, maxLocals := 1, code := jdk_18_method_1_code, exceptionTable := #[], attributes := #[] }
def k5m0 : Method := { name := "<init>", desc := "()V", sig := { parameters := [], returnType := none }, accessFlags := 1, code := some k5c0 }
/-- java/lang/Number -/
def k5 : Class := { plain "java/lang/Number" (some 0) with
  accessFlags := 1057
  interfaces := #[4]
  cf := some (fileOf pool5 8 #[] #[{ accessFlags := 1, nameIndex := 5, descriptorIndex := 6, attributes := #[] }] 1057 2 #[13] #[{ accessFlags := 26, nameIndex := 15, descriptorIndex := 16, attributes := #[] }])
  fields := #[{ name := "serialVersionUID", type := .long, accessFlags := 26, slot := 0, constantValue := 0 }]
  methods := #[k5m0]
  instanceTypes := #[]
  staticTypes := #[.long]
  resolved := Array.replicate 37 none
  statics := none }

def pool6 : Array CpInfo := pool [(1, .class_ 2), (0, u "java/lang/Comparable"), (0, .class_ 4), (0, u "java/lang/Object")] 7

/-- java/lang/Comparable -/
def k6 : Class := { plain "java/lang/Comparable" (some 0) with
  accessFlags := 1537
  interfaces := #[]
  cf := some (fileOf pool6 1 #[] #[] 1537 3 #[] #[])
  fields := #[]
  methods := #[]
  instanceTypes := #[]
  staticTypes := #[]
  resolved := Array.replicate 12 none
  statics := none }

def pool7 : Array CpInfo := pool [(1, .class_ 2), (0, u "java/lang/constant/Constable"), (0, .class_ 4), (0, u "java/lang/Object")] 6

/-- java/lang/constant/Constable -/
def k7 : Class := { plain "java/lang/constant/Constable" (some 0) with
  accessFlags := 1537
  interfaces := #[]
  cf := some (fileOf pool7 1 #[] #[] 1537 3 #[] #[])
  fields := #[]
  methods := #[]
  instanceTypes := #[]
  staticTypes := #[]
  resolved := Array.replicate 11 none
  statics := none }

def pool8 : Array CpInfo := pool [(1, .class_ 2), (0, u "java/lang/constant/ConstantDesc"), (0, .class_ 4), (0, u "java/lang/Object")] 32

/-- java/lang/constant/ConstantDesc -/
def k8 : Class := { plain "java/lang/constant/ConstantDesc" (some 0) with
  accessFlags := 1537
  interfaces := #[]
  cf := some (fileOf pool8 1 #[] #[] 1537 3 #[] #[])
  fields := #[]
  methods := #[]
  instanceTypes := #[]
  staticTypes := #[]
  resolved := Array.replicate 37 none
  statics := none }

def pool9 : Array CpInfo := pool [(1, .class_ 2), (0, u "java/lang/Double"), (17, u "<init>"), (84, .methodref 1 106), (0, .nameAndType 20 107), (0, u "(D)V"), (5, .methodref 114 115), (0, .class_ 116), (0, .nameAndType 20 117), (0, u "java/lang/Number"), (0, u "()V"), (0, .fieldref 1 119), (0, .nameAndType 120 121), (0, u "value"), (0, u "D"), (51, u "TYPE"), (0, u "Ljava/lang/Class;"), (0, .class_ 176), (0, u "java/lang/Comparable"), (0, .class_ 178), (0, u "java/lang/constant/Constable"), (0, .class_ 180), (0, u "java/lang/constant/ConstantDesc"), (0, u "POSITIVE_INFINITY"), (3, u "NEGATIVE_INFINITY"), (2, u "NaN"), (2, u "MAX_VALUE"), (0, u "MIN_NORMAL"), (0, u "MIN_VALUE"), (2, u "SIZE"), (0, u "I"), (1, u "PRECISION"), (1, u "MAX_EXPONENT"), (1, u "MIN_EXPONENT"), (1, u "BYTES"), (3, u "serialVersionUID"), (0, u "J"), (14, u "valueOf"), (5, u "(D)Ljava/lang/Double;")] 58

def k9c0 : Code := { maxStack := 4, maxLocals := 2, code := jdk_117_method_4_code, exceptionTable := #[], attributes := #[] }
def k9m0 : Method := { name := "valueOf", desc := "(D)Ljava/lang/Double;", sig := { parameters := [.double], returnType := some (.object "java/lang/Double") }, accessFlags := 9, code := some k9c0 }
def k9c1 : Code := { maxStack := 3, maxLocals := 3, code := jdk_117_method_9_code, exceptionTable := #[], attributes := #[] }
def k9m1 : Method := { name := "<init>", desc := "(D)V", sig := { parameters := [.double], returnType := none }, accessFlags := 1, code := some k9c1 }
/-- java/lang/Double -/
def k9 : Class := { plain "java/lang/Double" (some 5) with
  accessFlags := 49
  interfaces := #[6, 7, 8]
  cf := some (fileOf pool9 1 #[] #[{ accessFlags := 9, nameIndex := 225, descriptorIndex := 231, attributes := #[] }, { accessFlags := 1, nameIndex := 20, descriptorIndex := 107, attributes := #[] }] 49 114 #[175, 177, 179] #[{ accessFlags := 25, nameIndex := 181, descriptorIndex := 121, attributes := #[] }, { accessFlags := 25, nameIndex := 185, descriptorIndex := 121, attributes := #[] }, { accessFlags := 25, nameIndex := 188, descriptorIndex := 121, attributes := #[] }, { accessFlags := 25, nameIndex := 191, descriptorIndex := 121, attributes := #[] }, { accessFlags := 25, nameIndex := 192, descriptorIndex := 121, attributes := #[] }, { accessFlags := 25, nameIndex := 193, descriptorIndex := 121, attributes := #[] }, { accessFlags := 25, nameIndex := 196, descriptorIndex := 197, attributes := #[] }, { accessFlags := 25, nameIndex := 199, descriptorIndex := 197, attributes := #[] }, { accessFlags := 25, nameIndex := 201, descriptorIndex := 197, attributes := #[] }, { accessFlags := 25, nameIndex := 203, descriptorIndex := 197, attributes := #[] }, { accessFlags := 25, nameIndex := 205, descriptorIndex := 197, attributes := #[] }, { accessFlags := 25, nameIndex := 173, descriptorIndex := 174, attributes := #[] }, { accessFlags := 18, nameIndex := 120, descriptorIndex := 121, attributes := #[] }, { accessFlags := 26, nameIndex := 209, descriptorIndex := 210, attributes := #[] }])
  fields := #[{ name := "POSITIVE_INFINITY", type := .double, accessFlags := 25, slot := 0, constantValue := 0 }, { name := "NEGATIVE_INFINITY", type := .double, accessFlags := 25, slot := 1, constantValue := 0 }, { name := "NaN", type := .double, accessFlags := 25, slot := 2, constantValue := 0 }, { name := "MAX_VALUE", type := .double, accessFlags := 25, slot := 3, constantValue := 0 }, { name := "MIN_NORMAL", type := .double, accessFlags := 25, slot := 4, constantValue := 0 }, { name := "MIN_VALUE", type := .double, accessFlags := 25, slot := 5, constantValue := 0 }, { name := "SIZE", type := .int, accessFlags := 25, slot := 6, constantValue := 0 }, { name := "PRECISION", type := .int, accessFlags := 25, slot := 7, constantValue := 0 }, { name := "MAX_EXPONENT", type := .int, accessFlags := 25, slot := 8, constantValue := 0 }, { name := "MIN_EXPONENT", type := .int, accessFlags := 25, slot := 9, constantValue := 0 }, { name := "BYTES", type := .int, accessFlags := 25, slot := 10, constantValue := 0 }, { name := "TYPE", type := (.object "java/lang/Class"), accessFlags := 25, slot := 11, constantValue := 0 }, { name := "value", type := .double, accessFlags := 18, slot := 0, constantValue := 0 }, { name := "serialVersionUID", type := .long, accessFlags := 26, slot := 12, constantValue := 0 }]
  methods := #[k9m0, k9m1]
  instanceTypes := #[.double]
  staticTypes := #[.double, .double, .double, .double, .double, .double, .int, .int, .int, .int, .int, (.object "java/lang/Class"), .long]
  resolved := Array.replicate 290 none
  statics := none }

def pool10 : Array CpInfo := pool [(8, .class_ 10), (1, u "java/lang/Iterable"), (24, .class_ 36), (0, u "java/lang/Object")] 25

/-- java/lang/Iterable -/
def k10 : Class := { plain "java/lang/Iterable" (some 0) with
  accessFlags := 1537
  interfaces := #[]
  cf := some (fileOf pool10 8 #[] #[] 1537 35 #[] #[])
  fields := #[]
  methods := #[]
  instanceTypes := #[]
  staticTypes := #[]
  resolved := Array.replicate 62 none
  statics := none }

def pool11 : Array CpInfo := pool [(10, .class_ 12), (1, u "java/util/Collection"), (47, .class_ 61), (0, u "java/lang/Object"), (0, .class_ 63), (0, u "java/lang/Iterable")] 51

/-- java/util/Collection -/
def k11 : Class := { plain "java/util/Collection" (some 0) with
  accessFlags := 1537
  interfaces := #[10]
  cf := some (fileOf pool11 10 #[] #[] 1537 60 #[62] #[])
  fields := #[]
  methods := #[]
  instanceTypes := #[]
  staticTypes := #[]
  resolved := Array.replicate 115 none
  statics := none }

def pool12 : Array CpInfo := pool [(1, .methodref 2 3), (0, .class_ 4), (0, .nameAndType 5 6), (0, u "java/lang/Object"), (0, u "<init>"), (0, u "()V"), (1, .class_ 10), (1, u "java/util/AbstractCollection"), (66, .class_ 78), (0, u "java/util/Collection")] 81

def k12c0 : Code := { maxStack := 1, maxLocals := 1, code := jdk_22_method_1_code, exceptionTable := #[], attributes := #[] }
def k12m0 : Method := { name := "<init>", desc := "()V", sig := { parameters := [], returnType := none }, accessFlags := 4, code := some k12c0 }
/-- java/util/AbstractCollection -/
def k12 : Class := { plain "java/util/AbstractCollection" (some 0) with
  accessFlags := 1057
  interfaces := #[11]
  cf := some (fileOf pool12 8 #[] #[{ accessFlags := 4, nameIndex := 5, descriptorIndex := 6, attributes := #[] }] 1057 2 #[77] #[])
  fields := #[]
  methods := #[k12m0]
  instanceTypes := #[]
  staticTypes := #[]
  resolved := Array.replicate 160 none
  statics := none }

def pool13 : Array CpInfo := pool [(8, .class_ 10), (1, u "java/util/SequencedCollection"), (15, .class_ 27), (0, u "java/lang/Object"), (0, .class_ 29), (0, u "java/util/Collection")] 27

/-- java/util/SequencedCollection -/
def k13 : Class := { plain "java/util/SequencedCollection" (some 0) with
  accessFlags := 1537
  interfaces := #[11]
  cf := some (fileOf pool13 8 #[] #[] 1537 26 #[28] #[])
  fields := #[]
  methods := #[]
  instanceTypes := #[]
  staticTypes := #[]
  resolved := Array.replicate 57 none
  statics := none }

def pool14 : Array CpInfo := pool [(8, .class_ 10), (1, u "java/util/List"), (92, .class_ 104), (0, u "java/lang/Object"), (15, .class_ 121), (0, u "java/util/SequencedCollection")] 129

/-- java/util/List -/
def k14 : Class := { plain "java/util/List" (some 0) with
  accessFlags := 1537
  interfaces := #[13]
  cf := some (fileOf pool14 8 #[] #[] 1537 103 #[120] #[])
  fields := #[]
  methods := #[]
  instanceTypes := #[]
  staticTypes := #[]
  resolved := Array.replicate 251 none
  statics := none }

def pool15 : Array CpInfo := pool [(1, .methodref 2 3), (0, .class_ 4), (0, .nameAndType 5 6), (0, u "java/util/AbstractCollection"), (0, u "<init>"), (0, u "()V"), (0, .fieldref 8 9), (0, .class_ 10), (0, .nameAndType 11 12), (0, u "java/util/AbstractList"), (0, u "modCount"), (0, u "I"), (64, .class_ 78), (0, u "java/util/AbstractList$Itr"), (3, .class_ 83), (0, u "java/util/AbstractList$ListItr"), (9, .class_ 94), (0, u "java/util/AbstractList$RandomAccessSubList"), (3, .class_ 99), (0, u "java/util/AbstractList$SubList"), (33, .class_ 134), (0, u "java/util/List"), (73, .class_ 209), (0, u "java/util/AbstractList$SubList$1"), (0, .class_ 211), (0, u "java/util/AbstractList$RandomAccessSpliterator")] 6

def k15c0 : Code := { maxStack := 2, maxLocals := 1, code := jdk_39_method_1_code, exceptionTable := #[], attributes := #[] }
def k15m0 : Method := { name := "<init>", desc := "()V", sig := { parameters := [], returnType := none }, accessFlags := 4, code := some k15c0 }
/-- java/util/AbstractList -/
def k15 : Class := { plain "java/util/AbstractList" (some 12) with
  accessFlags := 1057
  interfaces := #[14]
  cf := some (fileOf pool15 8 #[.nestMembers #[93, 98, 208, 210, 82, 77]] #[{ accessFlags := 4, nameIndex := 5, descriptorIndex := 6, attributes := #[] }] 1057 2 #[133] #[{ accessFlags := 132, nameIndex := 11, descriptorIndex := 12, attributes := #[] }])
  fields := #[{ name := "modCount", type := .int, accessFlags := 132, slot := 0, constantValue := 0 }]
  methods := #[k15m0]
  instanceTypes := #[.int]
  staticTypes := #[]
  resolved := Array.replicate 218 none
  statics := none }

def pool16 : Array CpInfo := pool [(1, .class_ 2), (0, u "java/util/RandomAccess"), (0, .class_ 4), (0, u "java/lang/Object")] 2

/-- java/util/RandomAccess -/
def k16 : Class := { plain "java/util/RandomAccess" (some 0) with
  accessFlags := 1537
  interfaces := #[]
  cf := some (fileOf pool16 1 #[] #[] 1537 3 #[] #[])
  fields := #[]
  methods := #[]
  instanceTypes := #[]
  staticTypes := #[]
  resolved := Array.replicate 7 none
  statics := none }

def pool17 : Array CpInfo := pool [(1, .class_ 2), (0, u "java/lang/Cloneable"), (0, .class_ 4), (0, u "java/lang/Object")] 2

/-- java/lang/Cloneable -/
def k17 : Class := { plain "java/lang/Cloneable" (some 0) with
  accessFlags := 1537
  interfaces := #[]
  cf := some (fileOf pool17 1 #[] #[] 1537 3 #[] #[])
  fields := #[]
  methods := #[]
  instanceTypes := #[]
  staticTypes := #[]
  resolved := Array.replicate 7 none
  statics := none }

def pool18 : Array CpInfo := pool [(1, .methodref 2 3), (0, .class_ 4), (0, .nameAndType 5 6), (0, u "java/util/AbstractList"), (0, u "<init>"), (0, u "()V"), (2, .fieldref 10 11), (0, .class_ 12), (0, .nameAndType 13 14), (0, u "java/util/ArrayList"), (0, u "elementData"), (0, u "[Ljava/lang/Object;"), (2, u "EMPTY_ELEMENTDATA"), (21, .fieldref 10 40), (0, .nameAndType 41 14), (0, u "DEFAULTCAPACITY_EMPTY_ELEMENTDATA"), (8, u "size"), (0, u "I"), (96, .class_ 149), (0, u "java/util/List"), (112, .class_ 263), (0, u "java/util/ArrayList$ListItr"), (3, .class_ 268), (0, u "java/util/ArrayList$Itr"), (7, .class_ 277), (0, u "java/util/ArrayList$SubList"), (12, .class_ 291), (0, u "java/util/ArrayList$ArrayListSpliterator"), (37, .class_ 330), (0, u "java/util/RandomAccess"), (0, .class_ 332), (0, u "java/lang/Cloneable"), (0, .class_ 334), (0, u "java/io/Serializable"), (0, u "serialVersionUID"), (0, u "J"), (3, u "DEFAULT_CAPACITY"), (159, .class_ 501), (0, u "java/util/ArrayList$SubList$2"), (0, .class_ 503), (0, u "java/util/ArrayList$SubList$1")] 5

def k18c0 : Code := { maxStack := 2, maxLocals := 1, code := jdk_38_method_2_code, exceptionTable := #[], attributes := #[] }
def k18m0 : Method := { name := "<init>", desc := "()V", sig := { parameters := [], returnType := none }, accessFlags := 1, code := some k18c0 }
/-- java/util/ArrayList -/
def k18 : Class := { plain "java/util/ArrayList" (some 15) with
  accessFlags := 33
  interfaces := #[14, 16, 17, 4]
  cf := some (fileOf pool18 10 #[.nestMembers #[290, 276, 500, 502, 262, 267]] #[{ accessFlags := 1, nameIndex := 5, descriptorIndex := 6, attributes := #[] }] 33 2 #[148, 329, 331, 333] #[{ accessFlags := 26, nameIndex := 335, descriptorIndex := 336, attributes := #[] }, { accessFlags := 26, nameIndex := 340, descriptorIndex := 51, attributes := #[] }, { accessFlags := 26, nameIndex := 17, descriptorIndex := 14, attributes := #[] }, { accessFlags := 26, nameIndex := 41, descriptorIndex := 14, attributes := #[] }, { accessFlags := 128, nameIndex := 13, descriptorIndex := 14, attributes := #[] }, { accessFlags := 2, nameIndex := 50, descriptorIndex := 51, attributes := #[] }])
  fields := #[{ name := "serialVersionUID", type := .long, accessFlags := 26, slot := 0, constantValue := 0 }, { name := "DEFAULT_CAPACITY", type := .int, accessFlags := 26, slot := 1, constantValue := 0 }, { name := "EMPTY_ELEMENTDATA", type := (.array (.object "java/lang/Object")), accessFlags := 26, slot := 2, constantValue := 0 }, { name := "DEFAULTCAPACITY_EMPTY_ELEMENTDATA", type := (.array (.object "java/lang/Object")), accessFlags := 26, slot := 3, constantValue := 0 }, { name := "elementData", type := (.array (.object "java/lang/Object")), accessFlags := 128, slot := 1, constantValue := 0 }, { name := "size", type := .int, accessFlags := 2, slot := 2, constantValue := 0 }]
  methods := #[k18m0]
  instanceTypes := #[.int, (.array (.object "java/lang/Object")), .int]
  staticTypes := #[.long, .int, (.array (.object "java/lang/Object")), (.array (.object "java/lang/Object"))]
  resolved := Array.replicate 509 none
  statics := some 1 }

def pool19 : Array CpInfo := pool [(1, .class_ 2), (0, u "java/lang/Long"), (55, .nameAndType 59 60), (0, u "<init>"), (0, u "()V"), (24, u "valueOf"), (143, u "(J)Ljava/lang/Long;"), (0, .long 18446744073709551488), (1, .long 127), (1, .fieldref 235 236), (0, .class_ 237), (0, .nameAndType 238 239), (0, u "java/lang/Long$LongCache"), (0, u "cache"), (0, u "[Ljava/lang/Long;"), (0, .methodref 1 241), (0, .nameAndType 59 242), (0, u "(J)V"), (27, .methodref 271 58), (0, .class_ 272), (0, u "java/lang/Number"), (0, .fieldref 1 274), (0, .nameAndType 275 276), (0, u "value"), (0, u "J"), (84, u "TYPE"), (0, u "Ljava/lang/Class;"), (0, .class_ 364), (0, u "java/lang/Comparable"), (0, .class_ 366), (0, u "java/lang/constant/Constable"), (0, .class_ 368), (0, u "java/lang/constant/ConstantDesc"), (0, u "MIN_VALUE"), (1, u "MAX_VALUE"), (4, u "SIZE"), (0, u "I"), (1, u "BYTES"), (1, u "serialVersionUID")] 142

def k19c0 : Code := { maxStack := 4, maxLocals := 3, code := jdk_35_method_24_code, exceptionTable := #[], attributes := #[] }
def k19m0 : Method := { name := "valueOf", desc := "(J)Ljava/lang/Long;", sig := { parameters := [.long], returnType := some (.object "java/lang/Long") }, accessFlags := 9, code := some k19c0 }
def k19c1 : Code := { maxStack := 3, maxLocals := 3, code := jdk_35_method_26_code, exceptionTable := #[], attributes := #[] }
def k19m1 : Method := { name := "<init>", desc := "(J)V", sig := { parameters := [.long], returnType := none }, accessFlags := 1, code := some k19c1 }
/-- java/lang/Long -/
def k19 : Class := { plain "java/lang/Long" (some 5) with
  accessFlags := 49
  interfaces := #[6, 7, 8]
  cf := some (fileOf pool19 1 #[.nestMembers #[235]] #[{ accessFlags := 9, nameIndex := 85, descriptorIndex := 229, attributes := #[] }, { accessFlags := 1, nameIndex := 59, descriptorIndex := 242, attributes := #[] }] 49 271 #[363, 365, 367] #[{ accessFlags := 25, nameIndex := 369, descriptorIndex := 276, attributes := #[] }, { accessFlags := 25, nameIndex := 371, descriptorIndex := 276, attributes := #[] }, { accessFlags := 25, nameIndex := 361, descriptorIndex := 362, attributes := #[] }, { accessFlags := 18, nameIndex := 275, descriptorIndex := 276, attributes := #[] }, { accessFlags := 25, nameIndex := 376, descriptorIndex := 377, attributes := #[] }, { accessFlags := 25, nameIndex := 379, descriptorIndex := 377, attributes := #[] }, { accessFlags := 26, nameIndex := 381, descriptorIndex := 276, attributes := #[] }])
  fields := #[{ name := "MIN_VALUE", type := .long, accessFlags := 25, slot := 0, constantValue := 0 }, { name := "MAX_VALUE", type := .long, accessFlags := 25, slot := 1, constantValue := 0 }, { name := "TYPE", type := (.object "java/lang/Class"), accessFlags := 25, slot := 2, constantValue := 0 }, { name := "value", type := .long, accessFlags := 18, slot := 0, constantValue := 0 }, { name := "SIZE", type := .int, accessFlags := 25, slot := 3, constantValue := 0 }, { name := "BYTES", type := .int, accessFlags := 25, slot := 4, constantValue := 0 }, { name := "serialVersionUID", type := .long, accessFlags := 26, slot := 5, constantValue := 0 }]
  methods := #[k19m0, k19m1]
  instanceTypes := #[.long]
  staticTypes := #[.long, .long, (.object "java/lang/Class"), .int, .int, .long]
  resolved := Array.replicate 524 none
  statics := none }

def pool20 : Array CpInfo := pool [(1, .class_ 2), (0, u "java/lang/Integer"), (16, u "digits"), (0, u "[C"), (46, u "<init>"), (17, u "DigitOnes"), (0, u "[B"), (2, u "DigitTens"), (10, .nameAndType 67 101), (0, u "()V"), (85, u "valueOf"), (0, u "(I)Ljava/lang/Integer;"), (0, .class_ 190), (0, u "java/lang/Integer$IntegerCache"), (0, .fieldref 189 192), (0, .nameAndType 193 194), (0, u "high"), (0, u "I"), (0, .fieldref 189 196), (0, .nameAndType 197 198), (0, u "cache"), (0, u "[Ljava/lang/Integer;"), (0, .methodref 1 200), (0, .nameAndType 67 201), (0, u "(I)V"), (0, .methodref 203 100), (0, .class_ 204), (0, u "java/lang/Number"), (0, .fieldref 1 206), (0, .nameAndType 207 194), (0, u "value"), (94, u "TYPE"), (0, u "Ljava/lang/Class;"), (0, .class_ 305), (0, u "java/lang/Comparable"), (0, .class_ 307), (0, u "java/lang/constant/Constable"), (0, .class_ 309), (0, u "java/lang/constant/ConstantDesc"), (0, u "MIN_VALUE"), (1, u "MAX_VALUE"), (3, u "SIZE"), (1, u "BYTES"), (1, u "serialVersionUID"), (0, u "J")] 131

def k20c0 : Code := { maxStack := 3, maxLocals := 1, code := jdk_33_method_22_code, exceptionTable := #[], attributes := #[] }
def k20m0 : Method := { name := "valueOf", desc := "(I)Ljava/lang/Integer;", sig := { parameters := [.int], returnType := some (.object "java/lang/Integer") }, accessFlags := 9, code := some k20c0 }
def k20c1 : Code := { maxStack := 2, maxLocals := 2, code := jdk_33_method_23_code, exceptionTable := #[], attributes := #[] }
def k20m1 : Method := { name := "<init>", desc := "(I)V", sig := { parameters := [.int], returnType := none }, accessFlags := 1, code := some k20c1 }
/-- java/lang/Integer -/
def k20 : Class := { plain "java/lang/Integer" (some 5) with
  accessFlags := 49
  interfaces := #[6, 7, 8]
  cf := some (fileOf pool20 1 #[.nestMembers #[189]] #[{ accessFlags := 9, nameIndex := 187, descriptorIndex := 188, attributes := #[] }, { accessFlags := 1, nameIndex := 67, descriptorIndex := 201, attributes := #[] }] 49 203 #[304, 306, 308] #[{ accessFlags := 25, nameIndex := 310, descriptorIndex := 194, attributes := #[] }, { accessFlags := 25, nameIndex := 312, descriptorIndex := 194, attributes := #[] }, { accessFlags := 25, nameIndex := 302, descriptorIndex := 303, attributes := #[] }, { accessFlags := 24, nameIndex := 19, descriptorIndex := 20, attributes := #[] }, { accessFlags := 24, nameIndex := 89, descriptorIndex := 86, attributes := #[] }, { accessFlags := 24, nameIndex := 85, descriptorIndex := 86, attributes := #[] }, { accessFlags := 18, nameIndex := 207, descriptorIndex := 194, attributes := #[] }, { accessFlags := 25, nameIndex := 316, descriptorIndex := 194, attributes := #[] }, { accessFlags := 25, nameIndex := 318, descriptorIndex := 194, attributes := #[] }, { accessFlags := 26, nameIndex := 320, descriptorIndex := 321, attributes := #[] }])
  fields := #[{ name := "MIN_VALUE", type := .int, accessFlags := 25, slot := 0, constantValue := 0 }, { name := "MAX_VALUE", type := .int, accessFlags := 25, slot := 1, constantValue := 0 }, { name := "TYPE", type := (.object "java/lang/Class"), accessFlags := 25, slot := 2, constantValue := 0 }, { name := "digits", type := (.array .char), accessFlags := 24, slot := 3, constantValue := 0 }, { name := "DigitTens", type := (.array .byte), accessFlags := 24, slot := 4, constantValue := 0 }, { name := "DigitOnes", type := (.array .byte), accessFlags := 24, slot := 5, constantValue := 0 }, { name := "value", type := .int, accessFlags := 18, slot := 0, constantValue := 0 }, { name := "SIZE", type := .int, accessFlags := 25, slot := 6, constantValue := 0 }, { name := "BYTES", type := .int, accessFlags := 25, slot := 7, constantValue := 0 }, { name := "serialVersionUID", type := .long, accessFlags := 26, slot := 8, constantValue := 0 }]
  methods := #[k20m0, k20m1]
  instanceTypes := #[.int]
  staticTypes := #[.int, .int, (.object "java/lang/Class"), (.array .char), (.array .byte), (.array .byte), .int, .int, .long]
  resolved := Array.replicate 453 none
  statics := none }

def pool21 : Array CpInfo := pool [(2, .class_ 4), (1, u "java/lang/Object"), (0, u "<init>"), (0, u "()V"), (0, .class_ 8), (0, u "java/lang/Integer"), (7, .class_ 18), (1, u "java/lang/Integer$IntegerCache"), (0, u "$assertionsDisabled"), (0, u "Z"), (26, u "high"), (0, u "I"), (8, u "archivedCache"), (0, u "[Ljava/lang/Integer;"), (12, u "cache"), (0, u "low")] 27

def k21m0 : Method := { name := "<init>", desc := "()V", sig := { parameters := [], returnType := none }, accessFlags := 2, code := none }
/-- java/lang/Integer$IntegerCache -/
def k21 : Class := { plain "java/lang/Integer$IntegerCache" (some 0) with
  accessFlags := 48
  interfaces := #[]
  cf := some (fileOf pool21 16 #[.nestHost 7] #[{ accessFlags := 2, nameIndex := 5, descriptorIndex := 6, attributes := #[] }] 48 2 #[] #[{ accessFlags := 24, nameIndex := 72, descriptorIndex := 48, attributes := #[] }, { accessFlags := 24, nameIndex := 47, descriptorIndex := 48, attributes := #[] }, { accessFlags := 24, nameIndex := 71, descriptorIndex := 58, attributes := #[] }, { accessFlags := 8, nameIndex := 57, descriptorIndex := 58, attributes := #[] }, { accessFlags := 4120, nameIndex := 19, descriptorIndex := 20, attributes := #[] }])
  fields := #[{ name := "low", type := .int, accessFlags := 24, slot := 0, constantValue := 0 }, { name := "high", type := .int, accessFlags := 24, slot := 1, constantValue := 0 }, { name := "cache", type := (.array (.object "java/lang/Integer")), accessFlags := 24, slot := 2, constantValue := 0 }, { name := "archivedCache", type := (.array (.object "java/lang/Integer")), accessFlags := 8, slot := 3, constantValue := 0 }, { name := "$assertionsDisabled", type := .boolean, accessFlags := 4120, slot := 4, constantValue := 0 }]
  methods := #[k21m0]
  instanceTypes := #[]
  staticTypes := #[.int, .int, (.array (.object "java/lang/Integer")), (.array (.object "java/lang/Integer")), .boolean]
  resolved := Array.replicate 100 none
  statics := some 2 }

def pool22 : Array CpInfo := pool [(2, .class_ 4), (1, u "java/lang/Object"), (3, .class_ 10), (1, u "java/lang/Boolean"), (0, u "value"), (0, u "Z"), (14, .fieldref 8 28), (0, .nameAndType 29 30), (0, u "TRUE"), (0, u "Ljava/lang/Boolean;"), (0, .fieldref 8 32), (0, .nameAndType 33 30), (0, u "FALSE"), (2, u "valueOf"), (50, u "TYPE"), (0, u "Ljava/lang/Class;"), (0, .class_ 90), (0, u "java/io/Serializable"), (0, .class_ 92), (0, u "java/lang/Comparable"), (0, .class_ 94), (0, u "java/lang/constant/Constable"), (2, u "serialVersionUID"), (0, u "J"), (18, u "(Z)Ljava/lang/Boolean;")] 34

def k22c0 : Code := { maxStack := 1, maxLocals := 1, code := jdk_2055_method_5_code, exceptionTable := #[], attributes := #[] }
def k22m0 : Method := { name := "valueOf", desc := "(Z)Ljava/lang/Boolean;", sig := { parameters := [.boolean], returnType := some (.object "java/lang/Boolean") }, accessFlags := 9, code := some k22c0 }
/-- java/lang/Boolean -/
def k22 : Class := { plain "java/lang/Boolean" (some 0) with
  accessFlags := 49
  interfaces := #[4, 6, 7]
  cf := some (fileOf pool22 8 #[] #[{ accessFlags := 9, nameIndex := 36, descriptorIndex := 117, attributes := #[] }] 49 2 #[89, 91, 93] #[{ accessFlags := 25, nameIndex := 29, descriptorIndex := 30, attributes := #[] }, { accessFlags := 25, nameIndex := 33, descriptorIndex := 30, attributes := #[] }, { accessFlags := 25, nameIndex := 87, descriptorIndex := 88, attributes := #[] }, { accessFlags := 18, nameIndex := 11, descriptorIndex := 12, attributes := #[] }, { accessFlags := 26, nameIndex := 97, descriptorIndex := 98, attributes := #[] }])
  fields := #[{ name := "TRUE", type := (.object "java/lang/Boolean"), accessFlags := 25, slot := 0, constantValue := 0 }, { name := "FALSE", type := (.object "java/lang/Boolean"), accessFlags := 25, slot := 1, constantValue := 0 }, { name := "TYPE", type := (.object "java/lang/Class"), accessFlags := 25, slot := 2, constantValue := 0 }, { name := "value", type := .boolean, accessFlags := 18, slot := 0, constantValue := 0 }, { name := "serialVersionUID", type := .long, accessFlags := 26, slot := 3, constantValue := 0 }]
  methods := #[k22m0]
  instanceTypes := #[.boolean]
  staticTypes := #[(.object "java/lang/Boolean"), (.object "java/lang/Boolean"), (.object "java/lang/Class"), .long]
  resolved := Array.replicate 152 none
  statics := some 3 }

def pool23 : Array CpInfo := pool [(2, .class_ 4), (1, u "java/lang/CharSequence"), (42, .class_ 48), (0, u "java/lang/CharSequence$1CodePointIterator"), (10, .class_ 60), (0, u "java/lang/CharSequence$1CharIterator"), (5, .class_ 67), (0, u "java/lang/Object")] 63

/-- java/lang/CharSequence -/
def k23 : Class := { plain "java/lang/CharSequence" (some 0) with
  accessFlags := 1537
  interfaces := #[]
  cf := some (fileOf pool23 2 #[.nestMembers #[47, 59]] #[] 1537 66 #[] #[])
  fields := #[]
  methods := #[]
  instanceTypes := #[]
  staticTypes := #[]
  resolved := Array.replicate 131 none
  statics := none }

def pool24 : Array CpInfo := pool [(1, .methodref 2 3), (0, .class_ 4), (0, .nameAndType 5 6), (0, u "java/lang/Object"), (0, u "<init>"), (0, u "()V"), (2, .fieldref 10 11), (0, .class_ 12), (0, .nameAndType 13 14), (0, u "java/lang/String"), (0, u "value"), (0, u "[B"), (0, .fieldref 10 16), (0, .nameAndType 17 18), (0, u "coder"), (0, u "B"), (2, u "hash"), (0, u "I"), (2, u "hashIsZero"), (0, u "Z"), (0, .methodref 10 28), (0, .nameAndType 5 29), (0, u "([CIILjava/lang/Void;)V"), (8, .fieldref 10 39), (0, .nameAndType 40 26), (0, u "COMPACT_STRINGS"), (1, .class_ 44), (1, u "java/lang/StringUTF16"), (0, u "compress"), (1, .methodref 42 48), (0, .nameAndType 49 50), (0, u "coderFromArrayLen"), (0, u "([BI)B"), (126, .methodref 42 178), (0, .nameAndType 45 179), (0, u "([CII)[B"), (395, .class_ 576), (0, u "java/lang/CharSequence"), (22, u "CASE_INSENSITIVE_ORDER"), (0, u "Ljava/util/Comparator;"), (409, u "([C)V"), (90, u "serialPersistentFields"), (0, u "[Ljava/io/ObjectStreamField;"), (0, .class_ 1104), (0, u "java/lang/String$CaseInsensitiveComparator"), (1, .class_ 1107), (0, u "java/io/Serializable"), (0, .class_ 1109), (0, u "java/lang/Comparable"), (0, .class_ 1111), (0, u "java/lang/constant/Constable"), (0, .class_ 1113), (0, u "java/lang/constant/ConstantDesc"), (2, u "serialVersionUID"), (0, u "J"), (3, u "REPL"), (0, u "C"), (2, u "LATIN1"), (1, u "UTF16")] 323

def k24m0 : Method := { name := "<init>", desc := "()V", sig := { parameters := [], returnType := none }, accessFlags := 1, code := none }
def k24c1 : Code := { maxStack := 5, maxLocals := 2, code := jdk_42_method_3_code, exceptionTable := #[], attributes := #[] }
def k24m1 : Method := { name := "<init>", desc := "([C)V", sig := { parameters := [(.array .char)], returnType := none }, accessFlags := 1, code := some k24c1 }
def k24c2 : Code := { maxStack := 4, maxLocals := 6, code := jdk_42_method_149_code, exceptionTable := #[], attributes := #[] }
def k24m2 : Method := { name := "<init>", desc := "([CIILjava/lang/Void;)V", sig := { parameters := [(.array .char), .int, .int, (.object "java/lang/Void")], returnType := none }, accessFlags := 2, code := some k24c2 }
/-- java/lang/String -/
def k24 : Class := { plain "java/lang/String" (some 0) with
  accessFlags := 49
  interfaces := #[4, 6, 23, 7, 8]
  cf := some (fileOf pool24 10 #[.nestMembers #[1103]] #[{ accessFlags := 1, nameIndex := 5, descriptorIndex := 6, attributes := #[] }, { accessFlags := 1, nameIndex := 5, descriptorIndex := 1010, attributes := #[] }, { accessFlags := 2, nameIndex := 5, descriptorIndex := 29, attributes := #[] }] 49 2 #[1106, 1108, 575, 1110, 1112] #[{ accessFlags := 18, nameIndex := 13, descriptorIndex := 14, attributes := #[] }, { accessFlags := 18, nameIndex := 17, descriptorIndex := 18, attributes := #[] }, { accessFlags := 2, nameIndex := 21, descriptorIndex := 22, attributes := #[] }, { accessFlags := 2, nameIndex := 25, descriptorIndex := 26, attributes := #[] }, { accessFlags := 26, nameIndex := 1116, descriptorIndex := 1117, attributes := #[] }, { accessFlags := 24, nameIndex := 40, descriptorIndex := 26, attributes := #[] }, { accessFlags := 26, nameIndex := 1101, descriptorIndex := 1102, attributes := #[] }, { accessFlags := 26, nameIndex := 1121, descriptorIndex := 1122, attributes := #[] }, { accessFlags := 25, nameIndex := 599, descriptorIndex := 600, attributes := #[] }, { accessFlags := 24, nameIndex := 1125, descriptorIndex := 18, attributes := #[] }, { accessFlags := 24, nameIndex := 1127, descriptorIndex := 18, attributes := #[] }])
  fields := #[{ name := "value", type := (.array .byte), accessFlags := 18, slot := 0, constantValue := 0 }, { name := "coder", type := .byte, accessFlags := 18, slot := 1, constantValue := 0 }, { name := "hash", type := .int, accessFlags := 2, slot := 2, constantValue := 0 }, { name := "hashIsZero", type := .boolean, accessFlags := 2, slot := 3, constantValue := 0 }, { name := "serialVersionUID", type := .long, accessFlags := 26, slot := 0, constantValue := 0 }, { name := "COMPACT_STRINGS", type := .boolean, accessFlags := 24, slot := 1, constantValue := 0 }, { name := "serialPersistentFields", type := (.array (.object "java/io/ObjectStreamField")), accessFlags := 26, slot := 2, constantValue := 0 }, { name := "REPL", type := .char, accessFlags := 26, slot := 3, constantValue := 0 }, { name := "CASE_INSENSITIVE_ORDER", type := (.object "java/util/Comparator"), accessFlags := 25, slot := 4, constantValue := 0 }, { name := "LATIN1", type := .byte, accessFlags := 24, slot := 5, constantValue := 0 }, { name := "UTF16", type := .byte, accessFlags := 24, slot := 6, constantValue := 0 }]
  methods := #[k24m0, k24m1, k24m2]
  instanceTypes := #[(.array .byte), .byte, .int, .boolean]
  staticTypes := #[.long, .boolean, (.array (.object "java/io/ObjectStreamField")), .char, (.object "java/util/Comparator"), .byte, .byte]
  resolved := Array.replicate 1451 none
  statics := some 4 }

def pool25 : Array CpInfo := pool [(6, .class_ 8), (1, u "java/lang/Object"), (0, u "<init>"), (0, u "()V"), (1, .class_ 14), (1, u "java/lang/StringUTF16"), (31, u "$assertionsDisabled"), (0, u "Z"), (13, u "HI_BYTE_SHIFT"), (0, u "I"), (2, u "LO_BYTE_SHIFT"), (49, .methodref 12 116), (0, .nameAndType 117 118), (0, u "compress"), (0, u "([CI[BII)I"), (3, u "([CII)[B"), (138, u "coderFromArrayLen"), (0, u "([BI)B"), (106, .class_ 371), (1, u "java/lang/StringUTF16$LinesSpliterator"), (58, u "MAX_LENGTH"), (196, .class_ 628), (0, u "java/lang/StringUTF16$CodePointsSpliterator"), (0, .class_ 630), (0, u "java/lang/StringUTF16$CharsSpliterator")] 4

def k25m0 : Method := { name := "<init>", desc := "()V", sig := { parameters := [], returnType := none }, accessFlags := 0, code := none }
def k25c1 : Code := { maxStack := 2, maxLocals := 2, code := jdk_52_method_15_code, exceptionTable := #[], attributes := #[] }
def k25m1 : Method := { name := "coderFromArrayLen", desc := "([BI)B", sig := { parameters := [(.array .byte), .int], returnType := some .byte }, accessFlags := 8, code := some k25c1 }
def k25c2 : Code := { maxStack := 5, maxLocals := 6, code := jdk_52_method_16_code, exceptionTable := #[], attributes := #[] }
def k25m2 : Method := { name := "compress", desc := "([CII)[B", sig := { parameters := [(.array .char), .int, .int], returnType := some (.array .byte) }, accessFlags := 9, code := some k25c2 }
def k25c3 : Code := { maxStack := 3, maxLocals := 7, code := jdk_52_method_21_code, exceptionTable := #[], attributes := #[] }
def k25m3 : Method := { name := "compress", desc := "([CI[BII)I", sig := { parameters := [(.array .char), .int, (.array .byte), .int, .int], returnType := some .int }, accessFlags := 9, code := some k25c3 }
/-- java/lang/StringUTF16 -/
def k25 : Class := { plain "java/lang/StringUTF16" (some 0) with
  accessFlags := 48
  interfaces := #[]
  cf := some (fileOf pool25 12 #[.nestMembers #[627, 629, 369]] #[{ accessFlags := 0, nameIndex := 9, descriptorIndex := 10, attributes := #[] }, { accessFlags := 8, nameIndex := 261, descriptorIndex := 262, attributes := #[] }, { accessFlags := 9, nameIndex := 117, descriptorIndex := 122, attributes := #[] }, { accessFlags := 9, nameIndex := 117, descriptorIndex := 118, attributes := #[] }] 48 6 #[] #[{ accessFlags := 26, nameIndex := 61, descriptorIndex := 62, attributes := #[] }, { accessFlags := 26, nameIndex := 65, descriptorIndex := 62, attributes := #[] }, { accessFlags := 24, nameIndex := 430, descriptorIndex := 62, attributes := #[] }, { accessFlags := 4120, nameIndex := 46, descriptorIndex := 47, attributes := #[] }])
  fields := #[{ name := "HI_BYTE_SHIFT", type := .int, accessFlags := 26, slot := 0, constantValue := 0 }, { name := "LO_BYTE_SHIFT", type := .int, accessFlags := 26, slot := 1, constantValue := 0 }, { name := "MAX_LENGTH", type := .int, accessFlags := 24, slot := 2, constantValue := 0 }, { name := "$assertionsDisabled", type := .boolean, accessFlags := 4120, slot := 3, constantValue := 0 }]
  methods := #[k25m0, k25m1, k25m2, k25m3]
  instanceTypes := #[]
  staticTypes := #[.int, .int, .int, .boolean]
  resolved := Array.replicate 635 none
  statics := none }

def pool26 : Array CpInfo := pool [(2, .class_ 4), (1, u "java/lang/Object"), (0, u "<init>"), (0, u "()V"), (1, .class_ 10), (1, u "kindlewood/StmtCode"), (0, u "COMPLETED"), (0, u "Ljava/lang/Object;"), (8, .class_ 22), (0, u "kindlewood/StmtCode$Room"), (0, .class_ 24), (0, u "kindlewood/StmtCode$Return"), (0, .class_ 26), (0, u "kindlewood/StmtCode$For"), (0, .class_ 28), (0, u "kindlewood/StmtCode$While"), (0, .class_ 30), (0, u "kindlewood/StmtCode$If"), (0, .class_ 32), (0, u "kindlewood/StmtCode$Framed"), (0, .class_ 34), (0, u "kindlewood/StmtCode$Scope"), (0, .class_ 36), (0, u "kindlewood/StmtCode$Sequence"), (0, .class_ 38), (0, u "kindlewood/StmtCode$Function"), (0, .class_ 40), (0, u "kindlewood/StmtCode$Var"), (0, .class_ 42), (0, u "kindlewood/StmtCode$Print"), (0, .class_ 44), (0, u "kindlewood/StmtCode$Expression")] 13

def k26m0 : Method := { name := "<init>", desc := "()V", sig := { parameters := [], returnType := none }, accessFlags := 0, code := none }
/-- kindlewood/StmtCode -/
def k26 : Class := { plain "kindlewood/StmtCode" (some 0) with
  accessFlags := 1056
  interfaces := #[]
  cf := some (fileOf pool26 8 #[.nestMembers #[21, 23, 25, 27, 29, 31, 33, 35, 37, 39, 41, 43]] #[{ accessFlags := 0, nameIndex := 5, descriptorIndex := 6, attributes := #[] }] 1056 2 #[] #[{ accessFlags := 24, nameIndex := 11, descriptorIndex := 12, attributes := #[] }])
  fields := #[{ name := "COMPLETED", type := (.object "java/lang/Object"), accessFlags := 24, slot := 0, constantValue := 0 }]
  methods := #[k26m0]
  instanceTypes := #[]
  staticTypes := #[(.object "java/lang/Object")]
  resolved := Array.replicate 58 none
  statics := some 5 }

def pool27 : Array CpInfo := pool [(2, .class_ 4), (1, u "java/lang/Object"), (0, u "<init>"), (0, u "()V"), (0, .class_ 8), (0, u "java/lang/Long"), (7, .class_ 18), (1, u "java/lang/Long$LongCache"), (0, u "$assertionsDisabled"), (0, u "Z"), (8, u "archivedCache"), (0, u "[Ljava/lang/Long;"), (7, u "cache")] 24

def k27m0 : Method := { name := "<init>", desc := "()V", sig := { parameters := [], returnType := none }, accessFlags := 2, code := none }
/-- java/lang/Long$LongCache -/
def k27 : Class := { plain "java/lang/Long$LongCache" (some 0) with
  accessFlags := 48
  interfaces := #[]
  cf := some (fileOf pool27 16 #[.nestHost 7] #[{ accessFlags := 2, nameIndex := 5, descriptorIndex := 6, attributes := #[] }] 48 2 #[] #[{ accessFlags := 24, nameIndex := 38, descriptorIndex := 30, attributes := #[] }, { accessFlags := 8, nameIndex := 29, descriptorIndex := 30, attributes := #[] }, { accessFlags := 4120, nameIndex := 19, descriptorIndex := 20, attributes := #[] }])
  fields := #[{ name := "cache", type := (.array (.object "java/lang/Long")), accessFlags := 24, slot := 0, constantValue := 0 }, { name := "archivedCache", type := (.array (.object "java/lang/Long")), accessFlags := 8, slot := 1, constantValue := 0 }, { name := "$assertionsDisabled", type := .boolean, accessFlags := 4120, slot := 2, constantValue := 0 }]
  methods := #[k27m0]
  instanceTypes := #[]
  staticTypes := #[(.array (.object "java/lang/Long")), (.array (.object "java/lang/Long")), .boolean]
  resolved := Array.replicate 63 none
  statics := some 6 }

def pool28 : Array CpInfo := pool [(4, .class_ 6), (1, u "java/lang/Object"), (0, u "<init>"), (0, u "()V"), (5, .class_ 16), (1, u "java/lang/StringLatin1"), (104, u "$assertionsDisabled"), (0, u "Z"), (98, .class_ 223), (1, u "java/lang/StringLatin1$LinesSpliterator"), (166, .class_ 391), (0, u "java/lang/StringLatin1$CharsSpliterator")] 3

def k28m0 : Method := { name := "<init>", desc := "()V", sig := { parameters := [], returnType := none }, accessFlags := 0, code := none }
/-- java/lang/StringLatin1 -/
def k28 : Class := { plain "java/lang/StringLatin1" (some 0) with
  accessFlags := 48
  interfaces := #[]
  cf := some (fileOf pool28 14 #[.nestMembers #[390, 221]] #[{ accessFlags := 0, nameIndex := 7, descriptorIndex := 8, attributes := #[] }] 48 4 #[] #[{ accessFlags := 4120, nameIndex := 121, descriptorIndex := 122, attributes := #[] }])
  fields := #[{ name := "$assertionsDisabled", type := .boolean, accessFlags := 4120, slot := 0, constantValue := 0 }]
  methods := #[k28m0]
  instanceTypes := #[]
  staticTypes := #[.boolean]
  resolved := Array.replicate 395 none
  statics := none }

def pool29 : Array CpInfo := pool [(2, .class_ 4), (1, u "java/lang/Object"), (0, u "<init>"), (0, u "()V"), (17, .class_ 26), (1, u "jdk/internal/util/Preconditions"), (28, .class_ 56), (0, u "jdk/internal/util/Preconditions$4"), (57, .class_ 115), (0, u "jdk/internal/util/Preconditions$1"), (7, u "SIOOBE_FORMATTER"), (0, u "Ljava/util/function/BiFunction;"), (0, .class_ 126), (0, u "jdk/internal/util/Preconditions$2"), (3, u "AIOOBE_FORMATTER"), (0, .class_ 132), (0, u "jdk/internal/util/Preconditions$3"), (3, u "IOOBE_FORMATTER")] 57

def k29m0 : Method := { name := "<init>", desc := "()V", sig := { parameters := [], returnType := none }, accessFlags := 1, code := none }
/-- jdk/internal/util/Preconditions -/
def k29 : Class := { plain "jdk/internal/util/Preconditions" (some 0) with
  accessFlags := 33
  interfaces := #[]
  cf := some (fileOf pool29 24 #[.nestMembers #[55, 131, 125, 114]] #[{ accessFlags := 1, nameIndex := 5, descriptorIndex := 6, attributes := #[] }] 33 2 #[] #[{ accessFlags := 25, nameIndex := 123, descriptorIndex := 124, attributes := #[] }, { accessFlags := 25, nameIndex := 130, descriptorIndex := 124, attributes := #[] }, { accessFlags := 25, nameIndex := 136, descriptorIndex := 124, attributes := #[] }])
  fields := #[{ name := "SIOOBE_FORMATTER", type := (.object "java/util/function/BiFunction"), accessFlags := 25, slot := 0, constantValue := 0 }, { name := "AIOOBE_FORMATTER", type := (.object "java/util/function/BiFunction"), accessFlags := 25, slot := 1, constantValue := 0 }, { name := "IOOBE_FORMATTER", type := (.object "java/util/function/BiFunction"), accessFlags := 25, slot := 2, constantValue := 0 }]
  methods := #[k29m0]
  instanceTypes := #[]
  staticTypes := #[(.object "java/util/function/BiFunction"), (.object "java/util/function/BiFunction"), (.object "java/util/function/BiFunction")]
  resolved := Array.replicate 194 none
  statics := some 7 }

def pool30 : Array CpInfo := pool [(9, u "<init>"), (6, .class_ 18), (1, u "java/lang/Object"), (0, u "()V"), (1, .class_ 23), (1, u "jdk/internal/util/ArraysSupport"), (0, u "LOG2_ARRAY_LONG_INDEX_SCALE"), (0, u "I"), (2, u "U"), (0, u "Ljdk/internal/misc/Unsafe;"), (8, u "BIG_ENDIAN"), (0, u "Z"), (8, u "LOG2_BYTE_BIT_SIZE"), (4, u "LOG2_ARRAY_INT_INDEX_SCALE"), (54, u "JLA"), (0, u "Ljdk/internal/access/JavaLangAccess;"), (11, u "LOG2_ARRAY_BOOLEAN_INDEX_SCALE"), (9, u "LOG2_ARRAY_BYTE_INDEX_SCALE"), (5, u "LOG2_ARRAY_CHAR_INDEX_SCALE"), (5, u "LOG2_ARRAY_SHORT_INDEX_SCALE"), (18, u "LOG2_ARRAY_FLOAT_INDEX_SCALE"), (24, u "LOG2_ARRAY_DOUBLE_INDEX_SCALE"), (89, u "T_BOOLEAN"), (2, u "T_CHAR"), (1, u "T_FLOAT"), (1, u "T_DOUBLE"), (1, u "T_BYTE"), (1, u "T_SHORT"), (1, u "T_INT"), (1, u "T_LONG"), (1, u "SOFT_MAX_ARRAY_LENGTH")] 83

def k30m0 : Method := { name := "<init>", desc := "()V", sig := { parameters := [], returnType := none }, accessFlags := 2, code := none }
/-- jdk/internal/util/ArraysSupport -/
def k30 : Class := { plain "jdk/internal/util/ArraysSupport" (some 0) with
  accessFlags := 33
  interfaces := #[]
  cf := some (fileOf pool30 21 #[] #[{ accessFlags := 2, nameIndex := 9, descriptorIndex := 19, attributes := #[] }] 33 16 #[] #[{ accessFlags := 24, nameIndex := 28, descriptorIndex := 29, attributes := #[] }, { accessFlags := 26, nameIndex := 38, descriptorIndex := 39, attributes := #[] }, { accessFlags := 25, nameIndex := 121, descriptorIndex := 25, attributes := #[] }, { accessFlags := 25, nameIndex := 131, descriptorIndex := 25, attributes := #[] }, { accessFlags := 25, nameIndex := 137, descriptorIndex := 25, attributes := #[] }, { accessFlags := 25, nameIndex := 143, descriptorIndex := 25, attributes := #[] }, { accessFlags := 25, nameIndex := 53, descriptorIndex := 25, attributes := #[] }, { accessFlags := 25, nameIndex := 24, descriptorIndex := 25, attributes := #[] }, { accessFlags := 25, nameIndex := 162, descriptorIndex := 25, attributes := #[] }, { accessFlags := 25, nameIndex := 187, descriptorIndex := 25, attributes := #[] }, { accessFlags := 26, nameIndex := 48, descriptorIndex := 25, attributes := #[] }, { accessFlags := 25, nameIndex := 277, descriptorIndex := 25, attributes := #[] }, { accessFlags := 25, nameIndex := 280, descriptorIndex := 25, attributes := #[] }, { accessFlags := 25, nameIndex := 282, descriptorIndex := 25, attributes := #[] }, { accessFlags := 25, nameIndex := 284, descriptorIndex := 25, attributes := #[] }, { accessFlags := 25, nameIndex := 286, descriptorIndex := 25, attributes := #[] }, { accessFlags := 25, nameIndex := 288, descriptorIndex := 25, attributes := #[] }, { accessFlags := 25, nameIndex := 290, descriptorIndex := 25, attributes := #[] }, { accessFlags := 25, nameIndex := 292, descriptorIndex := 25, attributes := #[] }, { accessFlags := 26, nameIndex := 108, descriptorIndex := 109, attributes := #[] }, { accessFlags := 25, nameIndex := 294, descriptorIndex := 25, attributes := #[] }])
  fields := #[{ name := "U", type := (.object "jdk/internal/misc/Unsafe"), accessFlags := 24, slot := 0, constantValue := 0 }, { name := "BIG_ENDIAN", type := .boolean, accessFlags := 26, slot := 1, constantValue := 0 }, { name := "LOG2_ARRAY_BOOLEAN_INDEX_SCALE", type := .int, accessFlags := 25, slot := 2, constantValue := 0 }, { name := "LOG2_ARRAY_BYTE_INDEX_SCALE", type := .int, accessFlags := 25, slot := 3, constantValue := 0 }, { name := "LOG2_ARRAY_CHAR_INDEX_SCALE", type := .int, accessFlags := 25, slot := 4, constantValue := 0 }, { name := "LOG2_ARRAY_SHORT_INDEX_SCALE", type := .int, accessFlags := 25, slot := 5, constantValue := 0 }, { name := "LOG2_ARRAY_INT_INDEX_SCALE", type := .int, accessFlags := 25, slot := 6, constantValue := 0 }, { name := "LOG2_ARRAY_LONG_INDEX_SCALE", type := .int, accessFlags := 25, slot := 7, constantValue := 0 }, { name := "LOG2_ARRAY_FLOAT_INDEX_SCALE", type := .int, accessFlags := 25, slot := 8, constantValue := 0 }, { name := "LOG2_ARRAY_DOUBLE_INDEX_SCALE", type := .int, accessFlags := 25, slot := 9, constantValue := 0 }, { name := "LOG2_BYTE_BIT_SIZE", type := .int, accessFlags := 26, slot := 10, constantValue := 0 }, { name := "T_BOOLEAN", type := .int, accessFlags := 25, slot := 11, constantValue := 0 }, { name := "T_CHAR", type := .int, accessFlags := 25, slot := 12, constantValue := 0 }, { name := "T_FLOAT", type := .int, accessFlags := 25, slot := 13, constantValue := 0 }, { name := "T_DOUBLE", type := .int, accessFlags := 25, slot := 14, constantValue := 0 }, { name := "T_BYTE", type := .int, accessFlags := 25, slot := 15, constantValue := 0 }, { name := "T_SHORT", type := .int, accessFlags := 25, slot := 16, constantValue := 0 }, { name := "T_INT", type := .int, accessFlags := 25, slot := 17, constantValue := 0 }, { name := "T_LONG", type := .int, accessFlags := 25, slot := 18, constantValue := 0 }, { name := "JLA", type := (.object "jdk/internal/access/JavaLangAccess"), accessFlags := 26, slot := 19, constantValue := 0 }, { name := "SOFT_MAX_ARRAY_LENGTH", type := .int, accessFlags := 25, slot := 20, constantValue := 0 }]
  methods := #[k30m0]
  instanceTypes := #[]
  staticTypes := #[(.object "jdk/internal/misc/Unsafe"), .boolean, .int, .int, .int, .int, .int, .int, .int, .int, .int, .int, .int, .int, .int, .int, .int, .int, .int, (.object "jdk/internal/access/JavaLangAccess"), .int]
  resolved := Array.replicate 378 none
  statics := none }

/-- the primitive byte -/
def k31 : Class := { plain "byte" none with kind := .primitive 'B', accessFlags := 0x411 }
/-- [B -/
def k32 : Class := { plain "[B" (some 0) with kind := .array 31 .byte, interfaces := #[17, 4], accessFlags := 1041 }

/-- the primitive char -/
def k33 : Class := { plain "char" none with kind := .primitive 'C', accessFlags := 0x411 }
/-- [C -/
def k34 : Class := { plain "[C" (some 0) with kind := .array 33 .char, interfaces := #[17, 4], accessFlags := 1041 }

/-- the primitive int -/
def k35 : Class := { plain "int" none with kind := .primitive 'I', accessFlags := 0x411 }
/-- [I -/
def k36 : Class := { plain "[I" (some 0) with kind := .array 35 .int, interfaces := #[17, 4], accessFlags := 1041 }

/-- [Ljava/lang/Integer; -/
def k37 : Class := { plain "[Ljava/lang/Integer;" (some 0) with kind := .array 20 (.object "java/lang/Integer"), interfaces := #[17, 4], accessFlags := 1041 }

/-- [Ljava/lang/Long; -/
def k38 : Class := { plain "[Ljava/lang/Long;" (some 0) with kind := .array 19 (.object "java/lang/Long"), interfaces := #[17, 4], accessFlags := 1041 }

/-- [Ljava/lang/Object; -/
def k39 : Class := { plain "[Ljava/lang/Object;" (some 0) with kind := .array 0 (.object "java/lang/Object"), interfaces := #[17, 4], accessFlags := 1041 }

def heap : Heap := #[{ cls := 3, slots := #[.ref 10], vm := .statics 3 },
  { cls := 18, slots := #[.long 0, .int 0, .ref 524, .ref 525], vm := .statics 18 },
  { cls := 21, slots := #[.int 0, .int 127, .ref 8, .null, .int 0], vm := .statics 21 },
  { cls := 22, slots := #[.ref 526, .ref 527, .null, .long 0], vm := .statics 22 },
  { cls := 24, slots := #[.long 0, .int 1, .null, .int 0, .null, .int 0, .int 0], vm := .statics 24 },
  { cls := 26, slots := #[.ref 11], vm := .statics 26 },
  { cls := 27, slots := #[.ref 9, .null, .int 0], vm := .statics 27 },
  { cls := 29, slots := #[.null, .null, .null], vm := .statics 29 },
  { cls := 37, slots := #[.ref 12, .ref 13, .ref 14, .ref 15, .ref 16, .ref 17, .ref 18, .ref 19, .ref 20, .ref 21, .ref 22, .ref 23, .ref 24, .ref 25, .ref 26, .ref 27, .ref 28, .ref 29, .ref 30, .ref 31, .ref 32, .ref 33, .ref 34, .ref 35, .ref 36, .ref 37, .ref 38, .ref 39, .ref 40, .ref 41, .ref 42, .ref 43, .ref 44, .ref 45, .ref 46, .ref 47, .ref 48, .ref 49, .ref 50, .ref 51, .ref 52, .ref 53, .ref 54, .ref 55, .ref 56, .ref 57, .ref 58, .ref 59, .ref 60, .ref 61, .ref 62, .ref 63, .ref 64, .ref 65, .ref 66, .ref 67, .ref 68, .ref 69, .ref 70, .ref 71, .ref 72, .ref 73, .ref 74, .ref 75, .ref 76, .ref 77, .ref 78, .ref 79, .ref 80, .ref 81, .ref 82, .ref 83, .ref 84, .ref 85, .ref 86, .ref 87, .ref 88, .ref 89, .ref 90, .ref 91, .ref 92, .ref 93, .ref 94, .ref 95, .ref 96, .ref 97, .ref 98, .ref 99, .ref 100, .ref 101, .ref 102, .ref 103, .ref 104, .ref 105, .ref 106, .ref 107, .ref 108, .ref 109, .ref 110, .ref 111, .ref 112, .ref 113, .ref 114, .ref 115, .ref 116, .ref 117, .ref 118, .ref 119, .ref 120, .ref 121, .ref 122, .ref 123, .ref 124, .ref 125, .ref 126, .ref 127, .ref 128, .ref 129, .ref 130, .ref 131, .ref 132, .ref 133, .ref 134, .ref 135, .ref 136, .ref 137, .ref 138, .ref 139, .ref 140, .ref 141, .ref 142, .ref 143, .ref 144, .ref 145, .ref 146, .ref 147, .ref 148, .ref 149, .ref 150, .ref 151, .ref 152, .ref 153, .ref 154, .ref 155, .ref 156, .ref 157, .ref 158, .ref 159, .ref 160, .ref 161, .ref 162, .ref 163, .ref 164, .ref 165, .ref 166, .ref 167, .ref 168, .ref 169, .ref 170, .ref 171, .ref 172, .ref 173, .ref 174, .ref 175, .ref 176, .ref 177, .ref 178, .ref 179, .ref 180, .ref 181, .ref 182, .ref 183, .ref 184, .ref 185, .ref 186, .ref 187, .ref 188, .ref 189, .ref 190, .ref 191, .ref 192, .ref 193, .ref 194, .ref 195, .ref 196, .ref 197, .ref 198, .ref 199, .ref 200, .ref 201, .ref 202, .ref 203, .ref 204, .ref 205, .ref 206, .ref 207, .ref 208, .ref 209, .ref 210, .ref 211, .ref 212, .ref 213, .ref 214, .ref 215, .ref 216, .ref 217, .ref 218, .ref 219, .ref 220, .ref 221, .ref 222, .ref 223, .ref 224, .ref 225, .ref 226, .ref 227, .ref 228, .ref 229, .ref 230, .ref 231, .ref 232, .ref 233, .ref 234, .ref 235, .ref 236, .ref 237, .ref 238, .ref 239, .ref 240, .ref 241, .ref 242, .ref 243, .ref 244, .ref 245, .ref 246, .ref 247, .ref 248, .ref 249, .ref 250, .ref 251, .ref 252, .ref 253, .ref 254, .ref 255, .ref 256, .ref 257, .ref 258, .ref 259, .ref 260, .ref 261, .ref 262, .ref 263, .ref 264, .ref 265, .ref 266, .ref 267], vm := .none },
  { cls := 38, slots := #[.ref 268, .ref 269, .ref 270, .ref 271, .ref 272, .ref 273, .ref 274, .ref 275, .ref 276, .ref 277, .ref 278, .ref 279, .ref 280, .ref 281, .ref 282, .ref 283, .ref 284, .ref 285, .ref 286, .ref 287, .ref 288, .ref 289, .ref 290, .ref 291, .ref 292, .ref 293, .ref 294, .ref 295, .ref 296, .ref 297, .ref 298, .ref 299, .ref 300, .ref 301, .ref 302, .ref 303, .ref 304, .ref 305, .ref 306, .ref 307, .ref 308, .ref 309, .ref 310, .ref 311, .ref 312, .ref 313, .ref 314, .ref 315, .ref 316, .ref 317, .ref 318, .ref 319, .ref 320, .ref 321, .ref 322, .ref 323, .ref 324, .ref 325, .ref 326, .ref 327, .ref 328, .ref 329, .ref 330, .ref 331, .ref 332, .ref 333, .ref 334, .ref 335, .ref 336, .ref 337, .ref 338, .ref 339, .ref 340, .ref 341, .ref 342, .ref 343, .ref 344, .ref 345, .ref 346, .ref 347, .ref 348, .ref 349, .ref 350, .ref 351, .ref 352, .ref 353, .ref 354, .ref 355, .ref 356, .ref 357, .ref 358, .ref 359, .ref 360, .ref 361, .ref 362, .ref 363, .ref 364, .ref 365, .ref 366, .ref 367, .ref 368, .ref 369, .ref 370, .ref 371, .ref 372, .ref 373, .ref 374, .ref 375, .ref 376, .ref 377, .ref 378, .ref 379, .ref 380, .ref 381, .ref 382, .ref 383, .ref 384, .ref 385, .ref 386, .ref 387, .ref 388, .ref 389, .ref 390, .ref 391, .ref 392, .ref 393, .ref 394, .ref 395, .ref 396, .ref 397, .ref 398, .ref 399, .ref 400, .ref 401, .ref 402, .ref 403, .ref 404, .ref 405, .ref 406, .ref 407, .ref 408, .ref 409, .ref 410, .ref 411, .ref 412, .ref 413, .ref 414, .ref 415, .ref 416, .ref 417, .ref 418, .ref 419, .ref 420, .ref 421, .ref 422, .ref 423, .ref 424, .ref 425, .ref 426, .ref 427, .ref 428, .ref 429, .ref 430, .ref 431, .ref 432, .ref 433, .ref 434, .ref 435, .ref 436, .ref 437, .ref 438, .ref 439, .ref 440, .ref 441, .ref 442, .ref 443, .ref 444, .ref 445, .ref 446, .ref 447, .ref 448, .ref 449, .ref 450, .ref 451, .ref 452, .ref 453, .ref 454, .ref 455, .ref 456, .ref 457, .ref 458, .ref 459, .ref 460, .ref 461, .ref 462, .ref 463, .ref 464, .ref 465, .ref 466, .ref 467, .ref 468, .ref 469, .ref 470, .ref 471, .ref 472, .ref 473, .ref 474, .ref 475, .ref 476, .ref 477, .ref 478, .ref 479, .ref 480, .ref 481, .ref 482, .ref 483, .ref 484, .ref 485, .ref 486, .ref 487, .ref 488, .ref 489, .ref 490, .ref 491, .ref 492, .ref 493, .ref 494, .ref 495, .ref 496, .ref 497, .ref 498, .ref 499, .ref 500, .ref 501, .ref 502, .ref 503, .ref 504, .ref 505, .ref 506, .ref 507, .ref 508, .ref 509, .ref 510, .ref 511, .ref 512, .ref 513, .ref 514, .ref 515, .ref 516, .ref 517, .ref 518, .ref 519, .ref 520, .ref 521, .ref 522, .ref 523], vm := .none },
  { cls := 0, slots := #[], vm := .none },
  { cls := 0, slots := #[], vm := .none },
  { cls := 20, slots := #[.int (-128)], vm := .none },
  { cls := 20, slots := #[.int (-127)], vm := .none },
  { cls := 20, slots := #[.int (-126)], vm := .none },
  { cls := 20, slots := #[.int (-125)], vm := .none },
  { cls := 20, slots := #[.int (-124)], vm := .none },
  { cls := 20, slots := #[.int (-123)], vm := .none },
  { cls := 20, slots := #[.int (-122)], vm := .none },
  { cls := 20, slots := #[.int (-121)], vm := .none },
  { cls := 20, slots := #[.int (-120)], vm := .none },
  { cls := 20, slots := #[.int (-119)], vm := .none },
  { cls := 20, slots := #[.int (-118)], vm := .none },
  { cls := 20, slots := #[.int (-117)], vm := .none },
  { cls := 20, slots := #[.int (-116)], vm := .none },
  { cls := 20, slots := #[.int (-115)], vm := .none },
  { cls := 20, slots := #[.int (-114)], vm := .none },
  { cls := 20, slots := #[.int (-113)], vm := .none },
  { cls := 20, slots := #[.int (-112)], vm := .none },
  { cls := 20, slots := #[.int (-111)], vm := .none },
  { cls := 20, slots := #[.int (-110)], vm := .none },
  { cls := 20, slots := #[.int (-109)], vm := .none },
  { cls := 20, slots := #[.int (-108)], vm := .none },
  { cls := 20, slots := #[.int (-107)], vm := .none },
  { cls := 20, slots := #[.int (-106)], vm := .none },
  { cls := 20, slots := #[.int (-105)], vm := .none },
  { cls := 20, slots := #[.int (-104)], vm := .none },
  { cls := 20, slots := #[.int (-103)], vm := .none },
  { cls := 20, slots := #[.int (-102)], vm := .none },
  { cls := 20, slots := #[.int (-101)], vm := .none },
  { cls := 20, slots := #[.int (-100)], vm := .none },
  { cls := 20, slots := #[.int (-99)], vm := .none },
  { cls := 20, slots := #[.int (-98)], vm := .none },
  { cls := 20, slots := #[.int (-97)], vm := .none },
  { cls := 20, slots := #[.int (-96)], vm := .none },
  { cls := 20, slots := #[.int (-95)], vm := .none },
  { cls := 20, slots := #[.int (-94)], vm := .none },
  { cls := 20, slots := #[.int (-93)], vm := .none },
  { cls := 20, slots := #[.int (-92)], vm := .none },
  { cls := 20, slots := #[.int (-91)], vm := .none },
  { cls := 20, slots := #[.int (-90)], vm := .none },
  { cls := 20, slots := #[.int (-89)], vm := .none },
  { cls := 20, slots := #[.int (-88)], vm := .none },
  { cls := 20, slots := #[.int (-87)], vm := .none },
  { cls := 20, slots := #[.int (-86)], vm := .none },
  { cls := 20, slots := #[.int (-85)], vm := .none },
  { cls := 20, slots := #[.int (-84)], vm := .none },
  { cls := 20, slots := #[.int (-83)], vm := .none },
  { cls := 20, slots := #[.int (-82)], vm := .none },
  { cls := 20, slots := #[.int (-81)], vm := .none },
  { cls := 20, slots := #[.int (-80)], vm := .none },
  { cls := 20, slots := #[.int (-79)], vm := .none },
  { cls := 20, slots := #[.int (-78)], vm := .none },
  { cls := 20, slots := #[.int (-77)], vm := .none },
  { cls := 20, slots := #[.int (-76)], vm := .none },
  { cls := 20, slots := #[.int (-75)], vm := .none },
  { cls := 20, slots := #[.int (-74)], vm := .none },
  { cls := 20, slots := #[.int (-73)], vm := .none },
  { cls := 20, slots := #[.int (-72)], vm := .none },
  { cls := 20, slots := #[.int (-71)], vm := .none },
  { cls := 20, slots := #[.int (-70)], vm := .none },
  { cls := 20, slots := #[.int (-69)], vm := .none },
  { cls := 20, slots := #[.int (-68)], vm := .none },
  { cls := 20, slots := #[.int (-67)], vm := .none },
  { cls := 20, slots := #[.int (-66)], vm := .none },
  { cls := 20, slots := #[.int (-65)], vm := .none },
  { cls := 20, slots := #[.int (-64)], vm := .none },
  { cls := 20, slots := #[.int (-63)], vm := .none },
  { cls := 20, slots := #[.int (-62)], vm := .none },
  { cls := 20, slots := #[.int (-61)], vm := .none },
  { cls := 20, slots := #[.int (-60)], vm := .none },
  { cls := 20, slots := #[.int (-59)], vm := .none },
  { cls := 20, slots := #[.int (-58)], vm := .none },
  { cls := 20, slots := #[.int (-57)], vm := .none },
  { cls := 20, slots := #[.int (-56)], vm := .none },
  { cls := 20, slots := #[.int (-55)], vm := .none },
  { cls := 20, slots := #[.int (-54)], vm := .none },
  { cls := 20, slots := #[.int (-53)], vm := .none },
  { cls := 20, slots := #[.int (-52)], vm := .none },
  { cls := 20, slots := #[.int (-51)], vm := .none },
  { cls := 20, slots := #[.int (-50)], vm := .none },
  { cls := 20, slots := #[.int (-49)], vm := .none },
  { cls := 20, slots := #[.int (-48)], vm := .none },
  { cls := 20, slots := #[.int (-47)], vm := .none },
  { cls := 20, slots := #[.int (-46)], vm := .none },
  { cls := 20, slots := #[.int (-45)], vm := .none },
  { cls := 20, slots := #[.int (-44)], vm := .none },
  { cls := 20, slots := #[.int (-43)], vm := .none },
  { cls := 20, slots := #[.int (-42)], vm := .none },
  { cls := 20, slots := #[.int (-41)], vm := .none },
  { cls := 20, slots := #[.int (-40)], vm := .none },
  { cls := 20, slots := #[.int (-39)], vm := .none },
  { cls := 20, slots := #[.int (-38)], vm := .none },
  { cls := 20, slots := #[.int (-37)], vm := .none },
  { cls := 20, slots := #[.int (-36)], vm := .none },
  { cls := 20, slots := #[.int (-35)], vm := .none },
  { cls := 20, slots := #[.int (-34)], vm := .none },
  { cls := 20, slots := #[.int (-33)], vm := .none },
  { cls := 20, slots := #[.int (-32)], vm := .none },
  { cls := 20, slots := #[.int (-31)], vm := .none },
  { cls := 20, slots := #[.int (-30)], vm := .none },
  { cls := 20, slots := #[.int (-29)], vm := .none },
  { cls := 20, slots := #[.int (-28)], vm := .none },
  { cls := 20, slots := #[.int (-27)], vm := .none },
  { cls := 20, slots := #[.int (-26)], vm := .none },
  { cls := 20, slots := #[.int (-25)], vm := .none },
  { cls := 20, slots := #[.int (-24)], vm := .none },
  { cls := 20, slots := #[.int (-23)], vm := .none },
  { cls := 20, slots := #[.int (-22)], vm := .none },
  { cls := 20, slots := #[.int (-21)], vm := .none },
  { cls := 20, slots := #[.int (-20)], vm := .none },
  { cls := 20, slots := #[.int (-19)], vm := .none },
  { cls := 20, slots := #[.int (-18)], vm := .none },
  { cls := 20, slots := #[.int (-17)], vm := .none },
  { cls := 20, slots := #[.int (-16)], vm := .none },
  { cls := 20, slots := #[.int (-15)], vm := .none },
  { cls := 20, slots := #[.int (-14)], vm := .none },
  { cls := 20, slots := #[.int (-13)], vm := .none },
  { cls := 20, slots := #[.int (-12)], vm := .none },
  { cls := 20, slots := #[.int (-11)], vm := .none },
  { cls := 20, slots := #[.int (-10)], vm := .none },
  { cls := 20, slots := #[.int (-9)], vm := .none },
  { cls := 20, slots := #[.int (-8)], vm := .none },
  { cls := 20, slots := #[.int (-7)], vm := .none },
  { cls := 20, slots := #[.int (-6)], vm := .none },
  { cls := 20, slots := #[.int (-5)], vm := .none },
  { cls := 20, slots := #[.int (-4)], vm := .none },
  { cls := 20, slots := #[.int (-3)], vm := .none },
  { cls := 20, slots := #[.int (-2)], vm := .none },
  { cls := 20, slots := #[.int (-1)], vm := .none },
  { cls := 20, slots := #[.int 0], vm := .none },
  { cls := 20, slots := #[.int 1], vm := .none },
  { cls := 20, slots := #[.int 2], vm := .none },
  { cls := 20, slots := #[.int 3], vm := .none },
  { cls := 20, slots := #[.int 4], vm := .none },
  { cls := 20, slots := #[.int 5], vm := .none },
  { cls := 20, slots := #[.int 6], vm := .none },
  { cls := 20, slots := #[.int 7], vm := .none },
  { cls := 20, slots := #[.int 8], vm := .none },
  { cls := 20, slots := #[.int 9], vm := .none },
  { cls := 20, slots := #[.int 10], vm := .none },
  { cls := 20, slots := #[.int 11], vm := .none },
  { cls := 20, slots := #[.int 12], vm := .none },
  { cls := 20, slots := #[.int 13], vm := .none },
  { cls := 20, slots := #[.int 14], vm := .none },
  { cls := 20, slots := #[.int 15], vm := .none },
  { cls := 20, slots := #[.int 16], vm := .none },
  { cls := 20, slots := #[.int 17], vm := .none },
  { cls := 20, slots := #[.int 18], vm := .none },
  { cls := 20, slots := #[.int 19], vm := .none },
  { cls := 20, slots := #[.int 20], vm := .none },
  { cls := 20, slots := #[.int 21], vm := .none },
  { cls := 20, slots := #[.int 22], vm := .none },
  { cls := 20, slots := #[.int 23], vm := .none },
  { cls := 20, slots := #[.int 24], vm := .none },
  { cls := 20, slots := #[.int 25], vm := .none },
  { cls := 20, slots := #[.int 26], vm := .none },
  { cls := 20, slots := #[.int 27], vm := .none },
  { cls := 20, slots := #[.int 28], vm := .none },
  { cls := 20, slots := #[.int 29], vm := .none },
  { cls := 20, slots := #[.int 30], vm := .none },
  { cls := 20, slots := #[.int 31], vm := .none },
  { cls := 20, slots := #[.int 32], vm := .none },
  { cls := 20, slots := #[.int 33], vm := .none },
  { cls := 20, slots := #[.int 34], vm := .none },
  { cls := 20, slots := #[.int 35], vm := .none },
  { cls := 20, slots := #[.int 36], vm := .none },
  { cls := 20, slots := #[.int 37], vm := .none },
  { cls := 20, slots := #[.int 38], vm := .none },
  { cls := 20, slots := #[.int 39], vm := .none },
  { cls := 20, slots := #[.int 40], vm := .none },
  { cls := 20, slots := #[.int 41], vm := .none },
  { cls := 20, slots := #[.int 42], vm := .none },
  { cls := 20, slots := #[.int 43], vm := .none },
  { cls := 20, slots := #[.int 44], vm := .none },
  { cls := 20, slots := #[.int 45], vm := .none },
  { cls := 20, slots := #[.int 46], vm := .none },
  { cls := 20, slots := #[.int 47], vm := .none },
  { cls := 20, slots := #[.int 48], vm := .none },
  { cls := 20, slots := #[.int 49], vm := .none },
  { cls := 20, slots := #[.int 50], vm := .none },
  { cls := 20, slots := #[.int 51], vm := .none },
  { cls := 20, slots := #[.int 52], vm := .none },
  { cls := 20, slots := #[.int 53], vm := .none },
  { cls := 20, slots := #[.int 54], vm := .none },
  { cls := 20, slots := #[.int 55], vm := .none },
  { cls := 20, slots := #[.int 56], vm := .none },
  { cls := 20, slots := #[.int 57], vm := .none },
  { cls := 20, slots := #[.int 58], vm := .none },
  { cls := 20, slots := #[.int 59], vm := .none },
  { cls := 20, slots := #[.int 60], vm := .none },
  { cls := 20, slots := #[.int 61], vm := .none },
  { cls := 20, slots := #[.int 62], vm := .none },
  { cls := 20, slots := #[.int 63], vm := .none },
  { cls := 20, slots := #[.int 64], vm := .none },
  { cls := 20, slots := #[.int 65], vm := .none },
  { cls := 20, slots := #[.int 66], vm := .none },
  { cls := 20, slots := #[.int 67], vm := .none },
  { cls := 20, slots := #[.int 68], vm := .none },
  { cls := 20, slots := #[.int 69], vm := .none },
  { cls := 20, slots := #[.int 70], vm := .none },
  { cls := 20, slots := #[.int 71], vm := .none },
  { cls := 20, slots := #[.int 72], vm := .none },
  { cls := 20, slots := #[.int 73], vm := .none },
  { cls := 20, slots := #[.int 74], vm := .none },
  { cls := 20, slots := #[.int 75], vm := .none },
  { cls := 20, slots := #[.int 76], vm := .none },
  { cls := 20, slots := #[.int 77], vm := .none },
  { cls := 20, slots := #[.int 78], vm := .none },
  { cls := 20, slots := #[.int 79], vm := .none },
  { cls := 20, slots := #[.int 80], vm := .none },
  { cls := 20, slots := #[.int 81], vm := .none },
  { cls := 20, slots := #[.int 82], vm := .none },
  { cls := 20, slots := #[.int 83], vm := .none },
  { cls := 20, slots := #[.int 84], vm := .none },
  { cls := 20, slots := #[.int 85], vm := .none },
  { cls := 20, slots := #[.int 86], vm := .none },
  { cls := 20, slots := #[.int 87], vm := .none },
  { cls := 20, slots := #[.int 88], vm := .none },
  { cls := 20, slots := #[.int 89], vm := .none },
  { cls := 20, slots := #[.int 90], vm := .none },
  { cls := 20, slots := #[.int 91], vm := .none },
  { cls := 20, slots := #[.int 92], vm := .none },
  { cls := 20, slots := #[.int 93], vm := .none },
  { cls := 20, slots := #[.int 94], vm := .none },
  { cls := 20, slots := #[.int 95], vm := .none },
  { cls := 20, slots := #[.int 96], vm := .none },
  { cls := 20, slots := #[.int 97], vm := .none },
  { cls := 20, slots := #[.int 98], vm := .none },
  { cls := 20, slots := #[.int 99], vm := .none },
  { cls := 20, slots := #[.int 100], vm := .none },
  { cls := 20, slots := #[.int 101], vm := .none },
  { cls := 20, slots := #[.int 102], vm := .none },
  { cls := 20, slots := #[.int 103], vm := .none },
  { cls := 20, slots := #[.int 104], vm := .none },
  { cls := 20, slots := #[.int 105], vm := .none },
  { cls := 20, slots := #[.int 106], vm := .none },
  { cls := 20, slots := #[.int 107], vm := .none },
  { cls := 20, slots := #[.int 108], vm := .none },
  { cls := 20, slots := #[.int 109], vm := .none },
  { cls := 20, slots := #[.int 110], vm := .none },
  { cls := 20, slots := #[.int 111], vm := .none },
  { cls := 20, slots := #[.int 112], vm := .none },
  { cls := 20, slots := #[.int 113], vm := .none },
  { cls := 20, slots := #[.int 114], vm := .none },
  { cls := 20, slots := #[.int 115], vm := .none },
  { cls := 20, slots := #[.int 116], vm := .none },
  { cls := 20, slots := #[.int 117], vm := .none },
  { cls := 20, slots := #[.int 118], vm := .none },
  { cls := 20, slots := #[.int 119], vm := .none },
  { cls := 20, slots := #[.int 120], vm := .none },
  { cls := 20, slots := #[.int 121], vm := .none },
  { cls := 20, slots := #[.int 122], vm := .none },
  { cls := 20, slots := #[.int 123], vm := .none },
  { cls := 20, slots := #[.int 124], vm := .none },
  { cls := 20, slots := #[.int 125], vm := .none },
  { cls := 20, slots := #[.int 126], vm := .none },
  { cls := 20, slots := #[.int 127], vm := .none },
  { cls := 19, slots := #[.long (-128)], vm := .none },
  { cls := 19, slots := #[.long (-127)], vm := .none },
  { cls := 19, slots := #[.long (-126)], vm := .none },
  { cls := 19, slots := #[.long (-125)], vm := .none },
  { cls := 19, slots := #[.long (-124)], vm := .none },
  { cls := 19, slots := #[.long (-123)], vm := .none },
  { cls := 19, slots := #[.long (-122)], vm := .none },
  { cls := 19, slots := #[.long (-121)], vm := .none },
  { cls := 19, slots := #[.long (-120)], vm := .none },
  { cls := 19, slots := #[.long (-119)], vm := .none },
  { cls := 19, slots := #[.long (-118)], vm := .none },
  { cls := 19, slots := #[.long (-117)], vm := .none },
  { cls := 19, slots := #[.long (-116)], vm := .none },
  { cls := 19, slots := #[.long (-115)], vm := .none },
  { cls := 19, slots := #[.long (-114)], vm := .none },
  { cls := 19, slots := #[.long (-113)], vm := .none },
  { cls := 19, slots := #[.long (-112)], vm := .none },
  { cls := 19, slots := #[.long (-111)], vm := .none },
  { cls := 19, slots := #[.long (-110)], vm := .none },
  { cls := 19, slots := #[.long (-109)], vm := .none },
  { cls := 19, slots := #[.long (-108)], vm := .none },
  { cls := 19, slots := #[.long (-107)], vm := .none },
  { cls := 19, slots := #[.long (-106)], vm := .none },
  { cls := 19, slots := #[.long (-105)], vm := .none },
  { cls := 19, slots := #[.long (-104)], vm := .none },
  { cls := 19, slots := #[.long (-103)], vm := .none },
  { cls := 19, slots := #[.long (-102)], vm := .none },
  { cls := 19, slots := #[.long (-101)], vm := .none },
  { cls := 19, slots := #[.long (-100)], vm := .none },
  { cls := 19, slots := #[.long (-99)], vm := .none },
  { cls := 19, slots := #[.long (-98)], vm := .none },
  { cls := 19, slots := #[.long (-97)], vm := .none },
  { cls := 19, slots := #[.long (-96)], vm := .none },
  { cls := 19, slots := #[.long (-95)], vm := .none },
  { cls := 19, slots := #[.long (-94)], vm := .none },
  { cls := 19, slots := #[.long (-93)], vm := .none },
  { cls := 19, slots := #[.long (-92)], vm := .none },
  { cls := 19, slots := #[.long (-91)], vm := .none },
  { cls := 19, slots := #[.long (-90)], vm := .none },
  { cls := 19, slots := #[.long (-89)], vm := .none },
  { cls := 19, slots := #[.long (-88)], vm := .none },
  { cls := 19, slots := #[.long (-87)], vm := .none },
  { cls := 19, slots := #[.long (-86)], vm := .none },
  { cls := 19, slots := #[.long (-85)], vm := .none },
  { cls := 19, slots := #[.long (-84)], vm := .none },
  { cls := 19, slots := #[.long (-83)], vm := .none },
  { cls := 19, slots := #[.long (-82)], vm := .none },
  { cls := 19, slots := #[.long (-81)], vm := .none },
  { cls := 19, slots := #[.long (-80)], vm := .none },
  { cls := 19, slots := #[.long (-79)], vm := .none },
  { cls := 19, slots := #[.long (-78)], vm := .none },
  { cls := 19, slots := #[.long (-77)], vm := .none },
  { cls := 19, slots := #[.long (-76)], vm := .none },
  { cls := 19, slots := #[.long (-75)], vm := .none },
  { cls := 19, slots := #[.long (-74)], vm := .none },
  { cls := 19, slots := #[.long (-73)], vm := .none },
  { cls := 19, slots := #[.long (-72)], vm := .none },
  { cls := 19, slots := #[.long (-71)], vm := .none },
  { cls := 19, slots := #[.long (-70)], vm := .none },
  { cls := 19, slots := #[.long (-69)], vm := .none },
  { cls := 19, slots := #[.long (-68)], vm := .none },
  { cls := 19, slots := #[.long (-67)], vm := .none },
  { cls := 19, slots := #[.long (-66)], vm := .none },
  { cls := 19, slots := #[.long (-65)], vm := .none },
  { cls := 19, slots := #[.long (-64)], vm := .none },
  { cls := 19, slots := #[.long (-63)], vm := .none },
  { cls := 19, slots := #[.long (-62)], vm := .none },
  { cls := 19, slots := #[.long (-61)], vm := .none },
  { cls := 19, slots := #[.long (-60)], vm := .none },
  { cls := 19, slots := #[.long (-59)], vm := .none },
  { cls := 19, slots := #[.long (-58)], vm := .none },
  { cls := 19, slots := #[.long (-57)], vm := .none },
  { cls := 19, slots := #[.long (-56)], vm := .none },
  { cls := 19, slots := #[.long (-55)], vm := .none },
  { cls := 19, slots := #[.long (-54)], vm := .none },
  { cls := 19, slots := #[.long (-53)], vm := .none },
  { cls := 19, slots := #[.long (-52)], vm := .none },
  { cls := 19, slots := #[.long (-51)], vm := .none },
  { cls := 19, slots := #[.long (-50)], vm := .none },
  { cls := 19, slots := #[.long (-49)], vm := .none },
  { cls := 19, slots := #[.long (-48)], vm := .none },
  { cls := 19, slots := #[.long (-47)], vm := .none },
  { cls := 19, slots := #[.long (-46)], vm := .none },
  { cls := 19, slots := #[.long (-45)], vm := .none },
  { cls := 19, slots := #[.long (-44)], vm := .none },
  { cls := 19, slots := #[.long (-43)], vm := .none },
  { cls := 19, slots := #[.long (-42)], vm := .none },
  { cls := 19, slots := #[.long (-41)], vm := .none },
  { cls := 19, slots := #[.long (-40)], vm := .none },
  { cls := 19, slots := #[.long (-39)], vm := .none },
  { cls := 19, slots := #[.long (-38)], vm := .none },
  { cls := 19, slots := #[.long (-37)], vm := .none },
  { cls := 19, slots := #[.long (-36)], vm := .none },
  { cls := 19, slots := #[.long (-35)], vm := .none },
  { cls := 19, slots := #[.long (-34)], vm := .none },
  { cls := 19, slots := #[.long (-33)], vm := .none },
  { cls := 19, slots := #[.long (-32)], vm := .none },
  { cls := 19, slots := #[.long (-31)], vm := .none },
  { cls := 19, slots := #[.long (-30)], vm := .none },
  { cls := 19, slots := #[.long (-29)], vm := .none },
  { cls := 19, slots := #[.long (-28)], vm := .none },
  { cls := 19, slots := #[.long (-27)], vm := .none },
  { cls := 19, slots := #[.long (-26)], vm := .none },
  { cls := 19, slots := #[.long (-25)], vm := .none },
  { cls := 19, slots := #[.long (-24)], vm := .none },
  { cls := 19, slots := #[.long (-23)], vm := .none },
  { cls := 19, slots := #[.long (-22)], vm := .none },
  { cls := 19, slots := #[.long (-21)], vm := .none },
  { cls := 19, slots := #[.long (-20)], vm := .none },
  { cls := 19, slots := #[.long (-19)], vm := .none },
  { cls := 19, slots := #[.long (-18)], vm := .none },
  { cls := 19, slots := #[.long (-17)], vm := .none },
  { cls := 19, slots := #[.long (-16)], vm := .none },
  { cls := 19, slots := #[.long (-15)], vm := .none },
  { cls := 19, slots := #[.long (-14)], vm := .none },
  { cls := 19, slots := #[.long (-13)], vm := .none },
  { cls := 19, slots := #[.long (-12)], vm := .none },
  { cls := 19, slots := #[.long (-11)], vm := .none },
  { cls := 19, slots := #[.long (-10)], vm := .none },
  { cls := 19, slots := #[.long (-9)], vm := .none },
  { cls := 19, slots := #[.long (-8)], vm := .none },
  { cls := 19, slots := #[.long (-7)], vm := .none },
  { cls := 19, slots := #[.long (-6)], vm := .none },
  { cls := 19, slots := #[.long (-5)], vm := .none },
  { cls := 19, slots := #[.long (-4)], vm := .none },
  { cls := 19, slots := #[.long (-3)], vm := .none },
  { cls := 19, slots := #[.long (-2)], vm := .none },
  { cls := 19, slots := #[.long (-1)], vm := .none },
  { cls := 19, slots := #[.long 0], vm := .none },
  { cls := 19, slots := #[.long 1], vm := .none },
  { cls := 19, slots := #[.long 2], vm := .none },
  { cls := 19, slots := #[.long 3], vm := .none },
  { cls := 19, slots := #[.long 4], vm := .none },
  { cls := 19, slots := #[.long 5], vm := .none },
  { cls := 19, slots := #[.long 6], vm := .none },
  { cls := 19, slots := #[.long 7], vm := .none },
  { cls := 19, slots := #[.long 8], vm := .none },
  { cls := 19, slots := #[.long 9], vm := .none },
  { cls := 19, slots := #[.long 10], vm := .none },
  { cls := 19, slots := #[.long 11], vm := .none },
  { cls := 19, slots := #[.long 12], vm := .none },
  { cls := 19, slots := #[.long 13], vm := .none },
  { cls := 19, slots := #[.long 14], vm := .none },
  { cls := 19, slots := #[.long 15], vm := .none },
  { cls := 19, slots := #[.long 16], vm := .none },
  { cls := 19, slots := #[.long 17], vm := .none },
  { cls := 19, slots := #[.long 18], vm := .none },
  { cls := 19, slots := #[.long 19], vm := .none },
  { cls := 19, slots := #[.long 20], vm := .none },
  { cls := 19, slots := #[.long 21], vm := .none },
  { cls := 19, slots := #[.long 22], vm := .none },
  { cls := 19, slots := #[.long 23], vm := .none },
  { cls := 19, slots := #[.long 24], vm := .none },
  { cls := 19, slots := #[.long 25], vm := .none },
  { cls := 19, slots := #[.long 26], vm := .none },
  { cls := 19, slots := #[.long 27], vm := .none },
  { cls := 19, slots := #[.long 28], vm := .none },
  { cls := 19, slots := #[.long 29], vm := .none },
  { cls := 19, slots := #[.long 30], vm := .none },
  { cls := 19, slots := #[.long 31], vm := .none },
  { cls := 19, slots := #[.long 32], vm := .none },
  { cls := 19, slots := #[.long 33], vm := .none },
  { cls := 19, slots := #[.long 34], vm := .none },
  { cls := 19, slots := #[.long 35], vm := .none },
  { cls := 19, slots := #[.long 36], vm := .none },
  { cls := 19, slots := #[.long 37], vm := .none },
  { cls := 19, slots := #[.long 38], vm := .none },
  { cls := 19, slots := #[.long 39], vm := .none },
  { cls := 19, slots := #[.long 40], vm := .none },
  { cls := 19, slots := #[.long 41], vm := .none },
  { cls := 19, slots := #[.long 42], vm := .none },
  { cls := 19, slots := #[.long 43], vm := .none },
  { cls := 19, slots := #[.long 44], vm := .none },
  { cls := 19, slots := #[.long 45], vm := .none },
  { cls := 19, slots := #[.long 46], vm := .none },
  { cls := 19, slots := #[.long 47], vm := .none },
  { cls := 19, slots := #[.long 48], vm := .none },
  { cls := 19, slots := #[.long 49], vm := .none },
  { cls := 19, slots := #[.long 50], vm := .none },
  { cls := 19, slots := #[.long 51], vm := .none },
  { cls := 19, slots := #[.long 52], vm := .none },
  { cls := 19, slots := #[.long 53], vm := .none },
  { cls := 19, slots := #[.long 54], vm := .none },
  { cls := 19, slots := #[.long 55], vm := .none },
  { cls := 19, slots := #[.long 56], vm := .none },
  { cls := 19, slots := #[.long 57], vm := .none },
  { cls := 19, slots := #[.long 58], vm := .none },
  { cls := 19, slots := #[.long 59], vm := .none },
  { cls := 19, slots := #[.long 60], vm := .none },
  { cls := 19, slots := #[.long 61], vm := .none },
  { cls := 19, slots := #[.long 62], vm := .none },
  { cls := 19, slots := #[.long 63], vm := .none },
  { cls := 19, slots := #[.long 64], vm := .none },
  { cls := 19, slots := #[.long 65], vm := .none },
  { cls := 19, slots := #[.long 66], vm := .none },
  { cls := 19, slots := #[.long 67], vm := .none },
  { cls := 19, slots := #[.long 68], vm := .none },
  { cls := 19, slots := #[.long 69], vm := .none },
  { cls := 19, slots := #[.long 70], vm := .none },
  { cls := 19, slots := #[.long 71], vm := .none },
  { cls := 19, slots := #[.long 72], vm := .none },
  { cls := 19, slots := #[.long 73], vm := .none },
  { cls := 19, slots := #[.long 74], vm := .none },
  { cls := 19, slots := #[.long 75], vm := .none },
  { cls := 19, slots := #[.long 76], vm := .none },
  { cls := 19, slots := #[.long 77], vm := .none },
  { cls := 19, slots := #[.long 78], vm := .none },
  { cls := 19, slots := #[.long 79], vm := .none },
  { cls := 19, slots := #[.long 80], vm := .none },
  { cls := 19, slots := #[.long 81], vm := .none },
  { cls := 19, slots := #[.long 82], vm := .none },
  { cls := 19, slots := #[.long 83], vm := .none },
  { cls := 19, slots := #[.long 84], vm := .none },
  { cls := 19, slots := #[.long 85], vm := .none },
  { cls := 19, slots := #[.long 86], vm := .none },
  { cls := 19, slots := #[.long 87], vm := .none },
  { cls := 19, slots := #[.long 88], vm := .none },
  { cls := 19, slots := #[.long 89], vm := .none },
  { cls := 19, slots := #[.long 90], vm := .none },
  { cls := 19, slots := #[.long 91], vm := .none },
  { cls := 19, slots := #[.long 92], vm := .none },
  { cls := 19, slots := #[.long 93], vm := .none },
  { cls := 19, slots := #[.long 94], vm := .none },
  { cls := 19, slots := #[.long 95], vm := .none },
  { cls := 19, slots := #[.long 96], vm := .none },
  { cls := 19, slots := #[.long 97], vm := .none },
  { cls := 19, slots := #[.long 98], vm := .none },
  { cls := 19, slots := #[.long 99], vm := .none },
  { cls := 19, slots := #[.long 100], vm := .none },
  { cls := 19, slots := #[.long 101], vm := .none },
  { cls := 19, slots := #[.long 102], vm := .none },
  { cls := 19, slots := #[.long 103], vm := .none },
  { cls := 19, slots := #[.long 104], vm := .none },
  { cls := 19, slots := #[.long 105], vm := .none },
  { cls := 19, slots := #[.long 106], vm := .none },
  { cls := 19, slots := #[.long 107], vm := .none },
  { cls := 19, slots := #[.long 108], vm := .none },
  { cls := 19, slots := #[.long 109], vm := .none },
  { cls := 19, slots := #[.long 110], vm := .none },
  { cls := 19, slots := #[.long 111], vm := .none },
  { cls := 19, slots := #[.long 112], vm := .none },
  { cls := 19, slots := #[.long 113], vm := .none },
  { cls := 19, slots := #[.long 114], vm := .none },
  { cls := 19, slots := #[.long 115], vm := .none },
  { cls := 19, slots := #[.long 116], vm := .none },
  { cls := 19, slots := #[.long 117], vm := .none },
  { cls := 19, slots := #[.long 118], vm := .none },
  { cls := 19, slots := #[.long 119], vm := .none },
  { cls := 19, slots := #[.long 120], vm := .none },
  { cls := 19, slots := #[.long 121], vm := .none },
  { cls := 19, slots := #[.long 122], vm := .none },
  { cls := 19, slots := #[.long 123], vm := .none },
  { cls := 19, slots := #[.long 124], vm := .none },
  { cls := 19, slots := #[.long 125], vm := .none },
  { cls := 19, slots := #[.long 126], vm := .none },
  { cls := 19, slots := #[.long 127], vm := .none },
  { cls := 39, slots := #[], vm := .none },
  { cls := 39, slots := #[], vm := .none },
  { cls := 22, slots := #[.int 1], vm := .none },
  { cls := 22, slots := #[.int 0], vm := .none }]
def classes : Array Class := #[k0, k1, k2, k3, k4, k5, k6, k7, k8, k9, k10, k11, k12, k13, k14, k15, k16, k17, k18, k19, k20, k21, k22, k23, k24, k25, k26, k27, k28, k29, k30, k31, k32, k33, k34, k35, k36, k37, k38, k39]
def interned : List (Array UInt16 × Addr) := []
def slotsUsed : Nat := 1054
def theMethod : MethodId := ⟨1, 2⟩
def args0 : Array Value := #[.int 5, .int 1, .long 2]
def aboutOver (below : List Frame) : State where
  vm := { classes := classes, interned := interned.toArray }
  heap := heap
  slotsUsed := slotsUsed
  threads := #[{ frames := .invoking theMethod args0 :: below }]
def below0 : List Frame := [.native { method := ⟨0, 0⟩, args := #[] }]
def about1 : State := aboutOver below0
def p0 : Program := .bare "" "" ""
def e0 : Env := launch0.env 0 0 0
theorem w_frames : about1.frames = Frame.invoking theMethod args0 :: below0 := rfl
set_option maxRecDepth 65536 in
theorem w_args : argsFit about1.vm theMethod args0 = true := by decide +kernel
set_option maxRecDepth 65536 in
theorem w_heap : heapFits about1 = true := by decide +kernel
set_option maxRecDepth 65536 in
theorem w_runnable : about1.curStatus? = some .runnable := by decide +kernel
set_option maxRecDepth 65536 in
theorem w_alone : about1.alone = true := by decide +kernel
set_option maxRecDepth 65536 in
theorem w_named : about1.methodNamed? x = some theMethod := by decide +kernel
set_option maxRecDepth 65536 in
theorem w_hears : about1.hears theMethod below0 = true := by decide +kernel
set_option maxRecDepth 65536 in
theorem w_ripe : about1.ripe theMethod args0 below0 = true := by decide +kernel
theorem w_running : about1.status = .running := rfl
set_option maxRecDepth 65536 in
theorem w_room : about1.hasRoom e0.platform room_1 = true :=
  launch0.hasRoom_least _ room_1 (by decide +kernel) (by decide +kernel) (by decide +kernel) (by decide +kernel) (by decide +kernel) (by decide +kernel)
theorem allAtoms_all (ts : List Jvm.Cond) (a : Array Jvm.Value) (st : Jvm.State) : (allAtoms ts).before a st = ts.all (fun c => c.before a st) := by
  induction ts with
  | nil => rfl
  | cons c t ih =>
    show (Jvm.Cond.and c (allAtoms t)).before a st = _
    rw [Jvm.Cond.before_and, ih, List.all_cons]
def words1 : List Jvm.Cond := Jvm.Cond.code x code maxLocals ret :: tables_1
/-- a 'code' word, met by the world's own term for the bytes: nothing is compared byte by byte -/
theorem code_word {y : MethodName} {bytes : ByteArray} {mx : Nat} {rt : Option FieldType} {a : Array Value} {s : State} {m : MethodId} {meth : Method} {c : Code} (h1 : s.methodNamed? y = some m) (h2 : s.vm.method? m = some meth) (h3 : meth.code = some c) (h4 : c.code = bytes)
    (h5 : (c.maxLocals == mx && c.exceptionTable.isEmpty && decide (c.maxStack ≤ mostOperands) && decide (meth.sig.returnType = rt) && !meth.locks && decide (parseMethodDescriptor y.desc = some meth.sig)) = true) : (Jvm.Cond.code y bytes mx rt).before a s = true := by
  simp only [Bool.and_eq_true, beq_iff_eq, Bool.not_eq_true', decide_eq_true_eq] at h5
  obtain ⟨⟨⟨⟨⟨g1, g2⟩, g3⟩, g4⟩, g5⟩, g6⟩ := h5
  simp [Cond.before, Cond.holds, Cond.value, h1, h2, h3, h4, g1, g2, g3, g4, g5, g6]
def isCode : Jvm.Cond → Bool
  | .code _ _ _ _ => true
  | _ => false
theorem all_split {L : List Jvm.Cond} {P : Jvm.Cond → Bool} (h1 : L.all (fun c => isCode c || P c) = true) (h2 : ∀ c ∈ L.filter isCode, P c = true) : L.all P = true := by
  refine List.all_eq_true.mpr fun c hc => ?_
  have h := List.all_eq_true.mp h1 c hc
  rcases Bool.eq_false_or_eq_true (isCode c) with hi | hi
  · exact h2 c (List.mem_filter.mpr ⟨hc, hi⟩)
  · simpa [hi] using h
set_option maxRecDepth 65536 in
theorem w_c0 : (Jvm.Cond.code x code maxLocals ret).before args0 about1 = true := code_word (m := ⟨1, 2⟩) (meth := k1m2) (c := k1c2) (by decide +kernel) rfl rfl rfl (by decide +kernel)
set_option maxRecDepth 65536 in
theorem w_c1 : (Jvm.Cond.code ({ cls := "kindlewood/InterpreterIsNumberPinLaw", name := "make", desc := "(IIJ)Ljava/lang/Object;" } : Jvm.MethodName) method_2_code (5 : Nat) (Option.some (Jvm.ClassFile.FieldType.object "java/lang/Object"))).before args0 about1 = true := code_word (m := ⟨1, 1⟩) (meth := k1m1) (c := k1c1) (by decide +kernel) rfl rfl rfl (by decide +kernel)
set_option maxRecDepth 65536 in
theorem w_c2 : (Jvm.Cond.code ({ cls := "kindlewood/Interpreter", name := "isNumber", desc := "(Ljava/lang/Object;)Z" } : Jvm.MethodName) prog_41_method_10_code (1 : Nat) (Option.some Jvm.ClassFile.FieldType.boolean)).before args0 about1 = true := code_word (m := ⟨2, 0⟩) (meth := k2m0) (c := k2c0) (by decide +kernel) rfl rfl rfl (by decide +kernel)
set_option maxRecDepth 65536 in
theorem w_c3 : (Jvm.Cond.code ({ cls := "java/lang/Double", name := "valueOf", desc := "(D)Ljava/lang/Double;" } : Jvm.MethodName) jdk_117_method_4_code (2 : Nat) (Option.some (Jvm.ClassFile.FieldType.object "java/lang/Double"))).before args0 about1 = true := code_word (m := ⟨9, 0⟩) (meth := k9m0) (c := k9c0) (by decide +kernel) rfl rfl rfl (by decide +kernel)
set_option maxRecDepth 65536 in
theorem w_c4 : (Jvm.Cond.code ({ cls := "java/lang/Double", name := "<init>", desc := "(D)V" } : Jvm.MethodName) jdk_117_method_9_code (3 : Nat) (Option.none : Option Jvm.ClassFile.FieldType)).before args0 about1 = true := code_word (m := ⟨9, 1⟩) (meth := k9m1) (c := k9c1) (by decide +kernel) rfl rfl rfl (by decide +kernel)
set_option maxRecDepth 65536 in
theorem w_c5 : (Jvm.Cond.code ({ cls := "java/lang/Number", name := "<init>", desc := "()V" } : Jvm.MethodName) jdk_18_method_1_code (1 : Nat) (Option.none : Option Jvm.ClassFile.FieldType)).before args0 about1 = true := code_word (m := ⟨5, 0⟩) (meth := k5m0) (c := k5c0) (by decide +kernel) rfl rfl rfl (by decide +kernel)
set_option maxRecDepth 65536 in
theorem w_c6 : (Jvm.Cond.code ({ cls := "java/lang/Object", name := "<init>", desc := "()V" } : Jvm.MethodName) object_method_1_code (1 : Nat) (Option.none : Option Jvm.ClassFile.FieldType)).before args0 about1 = true := code_word (m := ⟨0, 0⟩) (meth := k0m0) (c := k0c0) (by decide +kernel) rfl rfl rfl (by decide +kernel)
set_option maxRecDepth 65536 in
theorem w_c7 : (Jvm.Cond.code ({ cls := "java/util/ArrayList", name := "<init>", desc := "()V" } : Jvm.MethodName) jdk_38_method_2_code (1 : Nat) (Option.none : Option Jvm.ClassFile.FieldType)).before args0 about1 = true := code_word (m := ⟨18, 0⟩) (meth := k18m0) (c := k18c0) (by decide +kernel) rfl rfl rfl (by decide +kernel)
set_option maxRecDepth 65536 in
theorem w_c8 : (Jvm.Cond.code ({ cls := "java/util/AbstractList", name := "<init>", desc := "()V" } : Jvm.MethodName) jdk_39_method_1_code (1 : Nat) (Option.none : Option Jvm.ClassFile.FieldType)).before args0 about1 = true := code_word (m := ⟨15, 0⟩) (meth := k15m0) (c := k15c0) (by decide +kernel) rfl rfl rfl (by decide +kernel)
set_option maxRecDepth 65536 in
theorem w_c9 : (Jvm.Cond.code ({ cls := "java/util/AbstractCollection", name := "<init>", desc := "()V" } : Jvm.MethodName) jdk_22_method_1_code (1 : Nat) (Option.none : Option Jvm.ClassFile.FieldType)).before args0 about1 = true := code_word (m := ⟨12, 0⟩) (meth := k12m0) (c := k12c0) (by decide +kernel) rfl rfl rfl (by decide +kernel)
set_option maxRecDepth 65536 in
theorem w_c10 : (Jvm.Cond.code ({ cls := "java/lang/Long", name := "valueOf", desc := "(J)Ljava/lang/Long;" } : Jvm.MethodName) jdk_35_method_24_code (3 : Nat) (Option.some (Jvm.ClassFile.FieldType.object "java/lang/Long"))).before args0 about1 = true := code_word (m := ⟨19, 0⟩) (meth := k19m0) (c := k19c0) (by decide +kernel) rfl rfl rfl (by decide +kernel)
set_option maxRecDepth 65536 in
theorem w_c11 : (Jvm.Cond.code ({ cls := "java/lang/Long", name := "<init>", desc := "(J)V" } : Jvm.MethodName) jdk_35_method_26_code (3 : Nat) (Option.none : Option Jvm.ClassFile.FieldType)).before args0 about1 = true := code_word (m := ⟨19, 1⟩) (meth := k19m1) (c := k19c1) (by decide +kernel) rfl rfl rfl (by decide +kernel)
set_option maxRecDepth 65536 in
theorem w_c12 : (Jvm.Cond.code ({ cls := "java/lang/Integer", name := "valueOf", desc := "(I)Ljava/lang/Integer;" } : Jvm.MethodName) jdk_33_method_22_code (1 : Nat) (Option.some (Jvm.ClassFile.FieldType.object "java/lang/Integer"))).before args0 about1 = true := code_word (m := ⟨20, 0⟩) (meth := k20m0) (c := k20c0) (by decide +kernel) rfl rfl rfl (by decide +kernel)
set_option maxRecDepth 65536 in
theorem w_c13 : (Jvm.Cond.code ({ cls := "java/lang/Boolean", name := "valueOf", desc := "(Z)Ljava/lang/Boolean;" } : Jvm.MethodName) jdk_2055_method_5_code (1 : Nat) (Option.some (Jvm.ClassFile.FieldType.object "java/lang/Boolean"))).before args0 about1 = true := code_word (m := ⟨22, 0⟩) (meth := k22m0) (c := k22c0) (by decide +kernel) rfl rfl rfl (by decide +kernel)
set_option maxRecDepth 65536 in
theorem w_c14 : (Jvm.Cond.code ({ cls := "java/lang/String", name := "<init>", desc := "([C)V" } : Jvm.MethodName) jdk_42_method_3_code (2 : Nat) (Option.none : Option Jvm.ClassFile.FieldType)).before args0 about1 = true := code_word (m := ⟨24, 1⟩) (meth := k24m1) (c := k24c1) (by decide +kernel) rfl rfl rfl (by decide +kernel)
set_option maxRecDepth 65536 in
theorem w_c15 : (Jvm.Cond.code ({ cls := "java/lang/String", name := "<init>", desc := "([CIILjava/lang/Void;)V" } : Jvm.MethodName) jdk_42_method_149_code (6 : Nat) (Option.none : Option Jvm.ClassFile.FieldType)).before args0 about1 = true := code_word (m := ⟨24, 2⟩) (meth := k24m2) (c := k24c2) (by decide +kernel) rfl rfl rfl (by decide +kernel)
set_option maxRecDepth 65536 in
theorem w_c16 : (Jvm.Cond.code ({ cls := "java/lang/StringUTF16", name := "compress", desc := "([CII)[B" } : Jvm.MethodName) jdk_52_method_16_code (6 : Nat) (Option.some (Jvm.ClassFile.FieldType.array Jvm.ClassFile.FieldType.byte))).before args0 about1 = true := code_word (m := ⟨25, 2⟩) (meth := k25m2) (c := k25c2) (by decide +kernel) rfl rfl rfl (by decide +kernel)
set_option maxRecDepth 65536 in
theorem w_c17 : (Jvm.Cond.code ({ cls := "java/lang/StringUTF16", name := "compress", desc := "([CI[BII)I" } : Jvm.MethodName) jdk_52_method_21_code (7 : Nat) (Option.some Jvm.ClassFile.FieldType.int)).before args0 about1 = true := code_word (m := ⟨25, 3⟩) (meth := k25m3) (c := k25c3) (by decide +kernel) rfl rfl rfl (by decide +kernel)
set_option maxRecDepth 65536 in
theorem w_c18 : (Jvm.Cond.code ({ cls := "java/lang/StringUTF16", name := "coderFromArrayLen", desc := "([BI)B" } : Jvm.MethodName) jdk_52_method_15_code (2 : Nat) (Option.some Jvm.ClassFile.FieldType.byte)).before args0 about1 = true := code_word (m := ⟨25, 1⟩) (meth := k25m1) (c := k25c1) (by decide +kernel) rfl rfl rfl (by decide +kernel)
set_option maxRecDepth 65536 in
theorem w_c19 : (Jvm.Cond.code ({ cls := "java/lang/Integer", name := "<init>", desc := "(I)V" } : Jvm.MethodName) jdk_33_method_23_code (2 : Nat) (Option.none : Option Jvm.ClassFile.FieldType)).before args0 about1 = true := code_word (m := ⟨20, 1⟩) (meth := k20m1) (c := k20c1) (by decide +kernel) rfl rfl rfl (by decide +kernel)
def codes1 : List Jvm.Cond := [Jvm.Cond.code x code maxLocals ret, Jvm.Cond.code ({ cls := "kindlewood/InterpreterIsNumberPinLaw", name := "make", desc := "(IIJ)Ljava/lang/Object;" } : Jvm.MethodName) method_2_code (5 : Nat) (Option.some (Jvm.ClassFile.FieldType.object "java/lang/Object")), Jvm.Cond.code ({ cls := "kindlewood/Interpreter", name := "isNumber", desc := "(Ljava/lang/Object;)Z" } : Jvm.MethodName) prog_41_method_10_code (1 : Nat) (Option.some Jvm.ClassFile.FieldType.boolean), Jvm.Cond.code ({ cls := "java/lang/Double", name := "valueOf", desc := "(D)Ljava/lang/Double;" } : Jvm.MethodName) jdk_117_method_4_code (2 : Nat) (Option.some (Jvm.ClassFile.FieldType.object "java/lang/Double")), Jvm.Cond.code ({ cls := "java/lang/Double", name := "<init>", desc := "(D)V" } : Jvm.MethodName) jdk_117_method_9_code (3 : Nat) (Option.none : Option Jvm.ClassFile.FieldType), Jvm.Cond.code ({ cls := "java/lang/Number", name := "<init>", desc := "()V" } : Jvm.MethodName) jdk_18_method_1_code (1 : Nat) (Option.none : Option Jvm.ClassFile.FieldType), Jvm.Cond.code ({ cls := "java/lang/Object", name := "<init>", desc := "()V" } : Jvm.MethodName) object_method_1_code (1 : Nat) (Option.none : Option Jvm.ClassFile.FieldType), Jvm.Cond.code ({ cls := "java/util/ArrayList", name := "<init>", desc := "()V" } : Jvm.MethodName) jdk_38_method_2_code (1 : Nat) (Option.none : Option Jvm.ClassFile.FieldType), Jvm.Cond.code ({ cls := "java/util/AbstractList", name := "<init>", desc := "()V" } : Jvm.MethodName) jdk_39_method_1_code (1 : Nat) (Option.none : Option Jvm.ClassFile.FieldType), Jvm.Cond.code ({ cls := "java/util/AbstractCollection", name := "<init>", desc := "()V" } : Jvm.MethodName) jdk_22_method_1_code (1 : Nat) (Option.none : Option Jvm.ClassFile.FieldType), Jvm.Cond.code ({ cls := "java/lang/Long", name := "valueOf", desc := "(J)Ljava/lang/Long;" } : Jvm.MethodName) jdk_35_method_24_code (3 : Nat) (Option.some (Jvm.ClassFile.FieldType.object "java/lang/Long")), Jvm.Cond.code ({ cls := "java/lang/Long", name := "<init>", desc := "(J)V" } : Jvm.MethodName) jdk_35_method_26_code (3 : Nat) (Option.none : Option Jvm.ClassFile.FieldType), Jvm.Cond.code ({ cls := "java/lang/Integer", name := "valueOf", desc := "(I)Ljava/lang/Integer;" } : Jvm.MethodName) jdk_33_method_22_code (1 : Nat) (Option.some (Jvm.ClassFile.FieldType.object "java/lang/Integer")), Jvm.Cond.code ({ cls := "java/lang/Boolean", name := "valueOf", desc := "(Z)Ljava/lang/Boolean;" } : Jvm.MethodName) jdk_2055_method_5_code (1 : Nat) (Option.some (Jvm.ClassFile.FieldType.object "java/lang/Boolean")), Jvm.Cond.code ({ cls := "java/lang/String", name := "<init>", desc := "([C)V" } : Jvm.MethodName) jdk_42_method_3_code (2 : Nat) (Option.none : Option Jvm.ClassFile.FieldType), Jvm.Cond.code ({ cls := "java/lang/String", name := "<init>", desc := "([CIILjava/lang/Void;)V" } : Jvm.MethodName) jdk_42_method_149_code (6 : Nat) (Option.none : Option Jvm.ClassFile.FieldType), Jvm.Cond.code ({ cls := "java/lang/StringUTF16", name := "compress", desc := "([CII)[B" } : Jvm.MethodName) jdk_52_method_16_code (6 : Nat) (Option.some (Jvm.ClassFile.FieldType.array Jvm.ClassFile.FieldType.byte)), Jvm.Cond.code ({ cls := "java/lang/StringUTF16", name := "compress", desc := "([CI[BII)I" } : Jvm.MethodName) jdk_52_method_21_code (7 : Nat) (Option.some Jvm.ClassFile.FieldType.int), Jvm.Cond.code ({ cls := "java/lang/StringUTF16", name := "coderFromArrayLen", desc := "([BI)B" } : Jvm.MethodName) jdk_52_method_15_code (2 : Nat) (Option.some Jvm.ClassFile.FieldType.byte), Jvm.Cond.code ({ cls := "java/lang/Integer", name := "<init>", desc := "(I)V" } : Jvm.MethodName) jdk_33_method_23_code (2 : Nat) (Option.none : Option Jvm.ClassFile.FieldType)]
set_option maxRecDepth 65536 in
theorem codes_eq : words1.filter isCode = codes1 := rfl
theorem w_codes : ∀ c ∈ words1.filter isCode, c.before args0 about1 = true := by
  rw [codes_eq]
  intro c hc
  simp only [codes1, List.mem_cons, List.not_mem_nil, or_false] at hc
  rcases hc with rfl | rfl | rfl | rfl | rfl | rfl | rfl | rfl | rfl | rfl | rfl | rfl | rfl | rfl | rfl | rfl | rfl | rfl | rfl | rfl
  · exact w_c0
  · exact w_c1
  · exact w_c2
  · exact w_c3
  · exact w_c4
  · exact w_c5
  · exact w_c6
  · exact w_c7
  · exact w_c8
  · exact w_c9
  · exact w_c10
  · exact w_c11
  · exact w_c12
  · exact w_c13
  · exact w_c14
  · exact w_c15
  · exact w_c16
  · exact w_c17
  · exact w_c18
  · exact w_c19
set_option maxRecDepth 65536 in
theorem w_t1 : (words1.take 24).all (fun c => isCode c || c.before args0 about1) = true := by decide +kernel
set_option maxRecDepth 65536 in
theorem w_t2 : ((words1.drop 24).take 24).all (fun c => isCode c || c.before args0 about1) = true := by decide +kernel
set_option maxRecDepth 65536 in
theorem w_t3 : (((words1.drop 24).drop 24).take 24).all (fun c => isCode c || c.before args0 about1) = true := by decide +kernel
set_option maxRecDepth 65536 in
theorem w_t4 : ((((words1.drop 24).drop 24).drop 24).take 24).all (fun c => isCode c || c.before args0 about1) = true := by decide +kernel
set_option maxRecDepth 65536 in
theorem w_t5 : (((((words1.drop 24).drop 24).drop 24).drop 24).take 24).all (fun c => isCode c || c.before args0 about1) = true := by decide +kernel
set_option maxRecDepth 65536 in
theorem w_t6 : (((((words1.drop 24).drop 24).drop 24).drop 24).drop 24).all (fun c => isCode c || c.before args0 about1) = true := by decide +kernel
theorem w_tables : (allAtoms (Jvm.Cond.code x code maxLocals ret :: tables_1)).before args0 about1 = true := by
  rw [allAtoms_all]
  show words1.all (fun c => c.before args0 about1) = true
  refine all_split ?_ w_codes
  rw [← List.take_append_drop 24 words1, List.all_append, w_t1, ← List.take_append_drop 24 (words1.drop 24), List.all_append, w_t2, ← List.take_append_drop 24 ((words1.drop 24).drop 24), List.all_append, w_t3, ← List.take_append_drop 24 (((words1.drop 24).drop 24).drop 24), List.all_append, w_t4, ← List.take_append_drop 24 ((((words1.drop 24).drop 24).drop 24).drop 24), List.all_append, w_t5, w_t6]
  rfl
set_option maxRecDepth 65536 in
theorem w_rest : rest_1_c.before args0 about1 = true := by decide +kernel
set_option maxRecDepth 65536 in
theorem w_case : (Jvm.Cond.and given_1 narrow_1).before args0 about1 = true := by decide +kernel
theorem w_applies : (headSpec (Jvm.Cond.code x code maxLocals ret :: tables_1) room_1).applies x e0.platform about1 = true :=
  (Spec.applies_iff w_frames).mpr ⟨w_running, w_runnable, w_alone, w_named, w_hears, w_ripe, w_room, w_tables⟩
theorem atStart : AtStart classFile x code maxLocals ret World_1 tables_1 room_1 Calls_1 rest_1 Pre_1 launch0 p0 e0 about1 theMethod args0 below0 :=
  ⟨lists_1, trivial, launch0.admits_env _ _ _, launch0.least_env, fairChoices_fair.cas, fairChoices_fair.clock, w_frames, w_args, w_heap, w_applies, trivial, w_rest, w_case⟩
end start1
theorem witness_1 : WitnessClaimed_1 := ⟨start1.p0, start1.e0, start1.about1, start1.theMethod, start1.args0, start1.below0, start1.atStart⟩
end Jvm.Pilot.@@N@@
