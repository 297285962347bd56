import JvmDerived
import JvmDerived.Pilot.@@N@@Statement
import JvmDerived.Pilot.@@N@@Code
set_option linter.unusedVariables false
set_option linter.unusedSimpArgs false
namespace Jvm.OwnW
open Sem ClassFile Op Lib Jvm.Stand Jvm.Free Jvm.LawKit Jvm.RoadKit
theorem adr_ne {a b : Nat} (h : a < b ∨ b < a) : @Ne Addr a b := fun z => by
  have z : @Eq Nat a b := z
  omega
/-- what was written lies in one of 'ws' or is new -/
def Fw (ws : List Addr) (N : Nat) (L : List Loc) : Prop := ∀ y ∈ L, y.base ∈ ws ∨ N ≤ y.base
theorem Fw.nil (ws : List Addr) (N : Nat) : Fw ws N [] := fun _ q => nomatch q
theorem Fw.app {ws : List Addr} {N : Nat} {L L' : List Loc} (A : Fw ws N L) (B : Fw ws N L') : Fw ws N (L ++ L') := fun y q => (List.mem_append.mp q).elim (A y) (B y)
theorem Fw.snoc {ws : List Addr} {N : Nat} {L : List Loc} {a : Addr} {sl : Nat} (A : Fw ws N L) (q : a ∈ ws ∨ N ≤ a) : Fw ws N (L ++ [⟨a, sl⟩]) := A.app fun y hy => by cases List.mem_singleton.mp hy; exact q
/-- where a walk stands: what was written is new, the heap, the figures within the room -/
def Pos (p : Program) (l : Launch) (e : Env) (R : Room) (s : State) (m : MethodId) (args : Array Value) (below : List Frame) (meth : Method) (c : Code) (Z : State) (own : String) (ws : List Addr) (bd : Nat) (T : State) (h : Heap) (k n : Nat) : Prop :=
  (∃ locs, Stand p l e R s m args below meth c T locs k n ∧ Fw ws bd locs) ∧ T.heap = h ∧ bd ≤ h.size ∧ Z.Warmed39 s.vm ∧ p.tables.exec = Jvm.exec ∧ s.vm.findClass own = some m.cls ∧ meth.locks = false ∧ k ≤ R.cells ∧ n ≤ R.slots
/-- the walk that stands at the frame g in T comes to its return, and Q holds of what it returns and of the heap it leaves -/
def Done (p : Program) (l : Launch) (e : Env) (R : Room) (s : State) (m : MethodId) (args : Array Value) (below : List Frame) (meth : Method) (c : Code) (Z : State) (own : String) (ws : List Addr) (bd : Nat) (Q : Option Value → Heap → Prop) (T : State) (g : JFrame) : Prop :=
  ∃ v T' h' k n, Pos p l e R s m args below meth c Z own ws bd T' h' k n ∧ (meth.sig.returnType = none → v = none) ∧ Q v h' ∧
    ∀ fs, (∀ (f : JFrame) (acts : List Action), f.method = m → f.locked = none → f.entered = [] → (doReturn e (T'.setTop f) acts v).1 = T'.setFrames fs) → Steps p.tables e below (T.setTop g) (T'.setFrames fs)
/-- a method's contract, asked at one heap and one row of arguments; it writes what lies in 'ws' and what it makes, alone -/
def OMet (l : Launch) (y : MethodName) (bytes : ByteArray) (maxL : Nat) (ret : Option FieldType) (wd : List Cond) (rm : Room) (Z : State) (h : Heap) (ws : List Addr) (as' : Array Value) (Q : Option Value → Heap → Prop) : Prop :=
  MetFree l y (head1 (Cond.code y bytes maxL ret :: wd) rm) (fun a U => a = as' ∧ Z.Warmed39 U.vm ∧ U.heap = h) (fun _ _ _ _ _ => True) (fun _ U o U' => ∃ v L, o = .returned v ∧ (Q v U'.heap ∧ Fw ws h.size L ∧ Keep h U'.heap ws) ∧ FrameEnd U o U' L rm.cells rm.slots)
section A
variable {p : Program} {l : Launch} {e : Env} {R : Room} {s : State} {m : MethodId} {args : Array Value} {below : List Frame} {meth : Method} {c : Code} {Z : State} {own : String} {ws : List Addr} {bd : Nat} {T : State} {h h' : Heap} {k n : Nat} {a0 : Array Value} {Q : Option Value → Heap → Prop} {pc pc' : Nat} {Ls : Array Slot} {st : List Value} {T₁ : State} {g₁ : JFrame}
theorem Pos.here (P : Pos p l e R s m args below meth c Z own ws bd T h k n) : At T m c below := by obtain ⟨⟨_, X, _⟩, _⟩ := P; exact X.here
theorem Pos.x (P : Pos p l e R s m args below meth c Z own ws bd T h k n) : p.tables.exec = Jvm.exec := P.2.2.2.2.1
theorem Pos.ge (P : Pos p l e R s m args below meth c Z own ws bd T h k n) : bd ≤ h.size := P.2.2.1
theorem Pos.wa (P : Pos p l e R s m args below meth c Z own ws bd T h k n) : Z.Warmed39 s.vm := P.2.2.2.1
theorem Pos.more (P : Pos p l e R s m args below meth c Z own ws bd T h k n) {k' n' : Nat} (hk : k ≤ k') (hn : n ≤ n') (hk' : k' ≤ R.cells) (hn' : n' ≤ R.slots) : Pos p l e R s m args below meth c Z own ws bd T h k' n' := by
  obtain ⟨⟨L, X, N'⟩, a, b, c, d, f, g, _, _⟩ := P
  exact ⟨⟨L, X.more hk hn, N'⟩, a, b, c, d, f, g, hk', hn'⟩
theorem Pos.cast {k' n' : Nat} (P : Pos p l e R s m args below meth c Z own ws bd T h k n) (hk : k = k') (hn : n = n') : Pos p l e R s m args below meth c Z own ws bd T h k' n' := by subst hk hn; exact P
theorem Done.step {T' : State} {g g' : JFrame} (hs : ∀ t, Steps p.tables e below (T'.setTop g') t → Steps p.tables e below (T.setTop g) t) (D : Done p l e R s m args below meth c Z own ws bd Q T' g') : Done p l e R s m args below meth c Z own ws bd Q T g := by
  obtain ⟨v, T1, h1, k1, n1, P, hv, hq, st⟩ := D
  exact ⟨v, T1, h1, k1, n1, P, hv, hq, fun fs hl => hs _ (st fs hl)⟩
theorem Done.stepL {st' : List Value} (hs : ∀ t, Steps p.tables e below (T.setTop (mkF m pc' Ls st')) t → Steps p.tables e below (T.setTop (mkF m pc Ls st)) t) (D : Done p l e R s m args below meth c Z own ws bd Q T (mkF m pc' Ls st')) : Done p l e R s m args below meth c Z own ws bd Q T (mkF m pc Ls st) := Done.step hs D
theorem Done.imp {Q' : Option Value → Heap → Prop} {g : JFrame} (D : Done p l e R s m args below meth c Z own ws bd Q T g) (q : ∀ v h, Q v h → Q' v h) : Done p l e R s m args below meth c Z own ws bd Q' T g := by
  obtain ⟨v, T1, h1, k1, n1, P, hv, hq, st⟩ := D
  exact ⟨v, T1, h1, k1, n1, P, hv, q _ _ hq, st⟩
theorem keepOf {u : State} {L : List Loc} (q : s.sameButNew u L k n) (F : Fw ws s.heap.size L) : Keep s.heap u.heap ws := by
  obtain ⟨-, h1, -, -, -, H⟩ := q
  refine ⟨h1, fun x cl hx hn => ?_, fun x cl hx => ?_⟩
  · obtain ⟨c', e1, e2, e3, e4⟩ := H x cl hx
    have hlt := (Array.getElem?_eq_some_iff.mp hx).1
    have es : c'.slots = cl.slots := by
      apply Array.ext_getElem?
      intro i
      exact e4 i fun hm => (F _ hm).elim (fun z => hn z) (fun z => absurd z (Nat.not_le.mpr hlt))
    rw [e1, e2, es]
  · obtain ⟨c', e1, e2, e3, e4⟩ := H x cl hx
    exact ⟨c', e1, by rw [e2], by rw [e2], e3⟩
/-- a contract out of a walk -/
theorem OMet.of {y : MethodName} {bytes : ByteArray} {maxL : Nat} {ret : Option FieldType} {wd : List Cond} {rm : Room} {as' : Array Value} {nm : String} (hy : plainFor y = true) (hyc : y.cls = own) (hyn : y.name = nm)
    (H : ∀ p e s m below meth c s₁, Pos p l e rm s m as' below meth c Z own ws h.size s₁ h 0 0 → c.code = bytes → c.maxLocals = maxL → meth.sig.returnType = ret → meth.name = nm → Done p l e rm s m as' below meth c Z own ws h.size Q s₁ (entryFrame m as' maxL)) :
    OMet l y bytes maxL ret wd rm Z h ws as' Q := by
  subst hyc hyn
  refine MetFree.of_bodySF hy hisR ?_
  intro p e s m args below meth c s₁ Bd hml hP hK
  obtain ⟨rfl, hZ, hh⟩ := hP
  have hown : s.vm.findClass y.cls = some m.cls := findClass_of_methodNamed Bd.named
  have hnm := (name_of_methodNamed Bd.named Bd.method).1
  have X0 : Stand p l e rm s m args below meth c s₁ [] 0 0 := Stand.of_body Bd
  have e0 : s₁.heap = h := by rw [← hh, Bd.state]; rfl
  obtain ⟨v, T', h', k, n, ⟨⟨L, X, N⟩, eT, _, _, _, _, hlk, hk, hnn⟩, hv, hq, st⟩ := H p e s m below meth c s₁ ⟨⟨[], X0, Fw.nil _ _⟩, e0, Nat.le_refl _, hZ, Bd.exec, hown, Bd.notSynchronized, Nat.zero_le _, Nat.zero_le _⟩ Bd.bytes hml Bd.returns hnm
  obtain ⟨fs, hr, hrun, hended, hW, hsame⟩ := X.leave (v := v) hv hlk
  refine ⟨_, _, st fs hr, hrun, hended, v, L, rfl, ⟨?_, N, ?_⟩, ⟨_, rfl⟩, hW, hsame.mono hk hnn⟩
  · rw [show (T'.setFrames fs).heap = T'.heap from rfl, eT]
    exact hq
  · subst hh
    have q := keepOf hsame N
    exact q
/-! returns -/
theorem wRet {w : Value} {t : FieldType} {i : Instr} (P : Pos p l e R s m args below meth c Z own ws bd T h k n) (hret : meth.sig.returnType = some t) (hn : narrow t w = w)
    (hi : (i = .ireturn ∧ (t = .int ∨ t = .boolean ∨ t = .byte ∨ t = .char ∨ t = .short) ∧ ∃ z, w = .int z) ∨ (i = .lreturn ∧ t = .long ∧ ∃ z, w = .long z) ∨ (i = .dreturn ∧ t = .double ∧ ∃ z, w = .double z) ∨ (i = .freturn ∧ t = .float ∧ ∃ z, w = .float z) ∨ (i = .areturn ∧ t.isReference = true ∧ w.isRef = true))
    (hd : decode c.code pc = .ok (i, 1)) (hq : Q (some w) h) : Done p l e R s m args below meth c Z own ws bd Q T (mkF m pc Ls (w :: st)) := by
  obtain ⟨⟨L, X, N'⟩, r⟩ := id P
  exact ⟨some w, T, h, k, n, P, (fun q => by rw [hret] at q; cases q), hq, fun fs hl => retOut X P.x hret hn hi hd hl⟩
theorem wRetI {z : Int32} (P : Pos p l e R s m args below meth c Z own ws bd T h k n) (hret : meth.sig.returnType = some .int) (hd : decode c.code pc = .ok (.ireturn, 1)) (hq : Q (some (.int z)) h) : Done p l e R s m args below meth c Z own ws bd Q T (mkF m pc Ls (.int z :: st)) :=
  wRet P hret rfl (Or.inl ⟨rfl, Or.inl rfl, z, rfl⟩) hd hq
theorem wRetJ {z : Int64} (P : Pos p l e R s m args below meth c Z own ws bd T h k n) (hret : meth.sig.returnType = some .long) (hd : decode c.code pc = .ok (.lreturn, 1)) (hq : Q (some (.long z)) h) : Done p l e R s m args below meth c Z own ws bd Q T (mkF m pc Ls (.long z :: st)) :=
  wRet P hret rfl (Or.inr (Or.inl ⟨rfl, rfl, z, rfl⟩)) hd hq
theorem wRetD {z : UInt64} (P : Pos p l e R s m args below meth c Z own ws bd T h k n) (hret : meth.sig.returnType = some .double) (hd : decode c.code pc = .ok (.dreturn, 1)) (hq : Q (some (.double z)) h) : Done p l e R s m args below meth c Z own ws bd Q T (mkF m pc Ls (.double z :: st)) :=
  wRet P hret rfl (Or.inr (Or.inr (Or.inl ⟨rfl, rfl, z, rfl⟩))) hd hq
theorem wRetA {w : Value} {t : FieldType} (P : Pos p l e R s m args below meth c Z own ws bd T h k n) (hret : meth.sig.returnType = some t) (ht : t.isReference = true) (hw : w.isRef = true) (hd : decode c.code pc = .ok (.areturn, 1)) (hq : Q (some w) h) : Done p l e R s m args below meth c Z own ws bd Q T (mkF m pc Ls (w :: st)) :=
  wRet P hret (by cases w <;> first | rfl | (simp [Value.isRef] at hw; done) | (cases t <;> first | rfl | (simp [FieldType.isReference] at ht))) (Or.inr (Or.inr (Or.inr (Or.inr ⟨rfl, ht, hw⟩)))) hd hq
theorem wRetN {z : Int32} {t : FieldType} (P : Pos p l e R s m args below meth c Z own ws bd T h k n) (hret : meth.sig.returnType = some t) (ht : t = .boolean ∨ t = .byte ∨ t = .char ∨ t = .short) (hd : decode c.code pc = .ok (.ireturn, 1)) (hq : Q (some (.int (nar t z))) h) : Done p l e R s m args below meth c Z own ws bd Q T (mkF m pc Ls (.int z :: st)) := by
  obtain ⟨⟨L, X, N'⟩, r⟩ := id P
  exact ⟨_, T, h, k, n, P, (fun q => by rw [hret] at q; cases q), hq, fun fs hl => retN X P.x hret ht hd hl⟩
theorem wRetV (P : Pos p l e R s m args below meth c Z own ws bd T h k n) (hret : meth.sig.returnType = none) (hd : decode c.code pc = .ok (.return_, 1)) (hq : Q none h) : Done p l e R s m args below meth c Z own ws bd Q T (mkF m pc Ls []) := by
  obtain ⟨⟨L, X, N'⟩, r⟩ := id P
  exact ⟨none, T, h, k, n, P, fun _ => rfl, hq, fun fs hl => X.returnOut P.x hret hd hl⟩
/-! fields -/
theorem wGet {R0 O nm d host : String} {index : Nat} {a : Addr} {v : Value} (P : Pos p l e R s m args below meth c Z own ws bd T h k n) (w : (Cond.fieldLink own index R0 nm d).before a0 Z = true ∨ (Cond.fieldLinkNest own index R0 nm d host).before a0 Z = true) (via : Via Z R0 O nm d) (F : Fld Z h a O nm d v)
    (hd : decode c.code pc = .ok (.getfield index, 3)) (hp : pc + 3 = pc') (K : ∀ T', Pos p l e R s m args below meth c Z own ws bd T' h k n → Done p l e R s m args below meth c Z own ws bd Q T' (mkF m pc' Ls (v :: st))) : Done p l e R s m args below meth c Z own ws bd Q T (mkF m pc Ls (.ref a :: st)) := by
  obtain ⟨⟨L, X, N'⟩, eT, b, hZ, hx, ho, r⟩ := id P
  obtain ⟨T', X', e', stp⟩ := getF X hx hZ ho w via eT F (g := mkF m pc Ls (.ref a :: st)) rfl rfl hd
  subst hp
  exact Done.step stp (K T' ⟨⟨L, X', N'⟩, e', b, hZ, hx, ho, r⟩)
theorem wGetS {R0 O nm d host : String} {index : Nat} {v : Value} (P : Pos p l e R s m args below meth c Z own ws bd T h k n) (w : (Cond.fieldLink own index R0 nm d).before a0 Z = true ∨ (Cond.fieldLinkNest own index R0 nm d host).before a0 Z = true) (via : Via Z R0 O nm d) (F : Sta Z h O nm d v)
    (hd : decode c.code pc = .ok (.getstatic index, 3)) (hp : pc + 3 = pc') (K : ∀ T', Pos p l e R s m args below meth c Z own ws bd T' h k n → Done p l e R s m args below meth c Z own ws bd Q T' (mkF m pc' Ls (v :: st))) : Done p l e R s m args below meth c Z own ws bd Q T (mkF m pc Ls st) := by
  obtain ⟨⟨L, X, N'⟩, eT, b, hZ, hx, ho, r⟩ := id P
  obtain ⟨T', X', e', stp⟩ := getS2 X hx hZ ho w via eT F (g := mkF m pc Ls st) rfl hd
  subst hp
  exact Done.step stp (K T' ⟨⟨L, X', N'⟩, e', b, hZ, hx, ho, r⟩)
theorem wPut {R0 O nm d host C : String} {index kk : Nat} {ty : FieldType} {a : Addr} {v old : Value} (P : Pos p l e R s m args below meth c Z own ws bd T h k n) (w : (Cond.fieldLink own index R0 nm d).before a0 Z = true ∨ (Cond.fieldLinkNest own index R0 nm d host).before a0 Z = true) (via : Via Z R0 O nm d) (F : Fld Z h a O nm d old) (E : Exa Z h a C)
    (La : (Cond.lays C O nm d).before a0 Z = true ∨ ((Cond.laysFinal C O nm d).before a0 Z = true ∧ own = O ∧ meth.name = "<init>")) (wi : (Cond.instantiable C kk).before a0 Z = true) (hty : parseFieldDescriptor d = some ty) (hn : narrow ty v = v) (hf : fits ty v = true) (hge : a ∈ ws ∨ bd ≤ a)
    (hd : decode c.code pc = .ok (.putfield index, 3)) (hp : pc + 3 = pc') (K : ∀ T' h', Pos p l e R s m args below meth c Z own ws bd T' h' k n → Wr h h' a (Jvm.RoadKit.slotOf Z O nm d) v → Fld Z h' a O nm d v → Done p l e R s m args below meth c Z own ws bd Q T' (mkF m pc' Ls st)) : Done p l e R s m args below meth c Z own ws bd Q T (mkF m pc Ls (v :: .ref a :: st)) := by
  obtain ⟨⟨L, X, N'⟩, eT, b, hZ, hx, ho, r⟩ := id P
  obtain ⟨T', h', X', e', W, stp⟩ := putF X hx hZ ho w via eT F E La wi hty hn hf (g := mkF m pc Ls (v :: .ref a :: st)) rfl rfl hd
  subst hp
  exact Done.step stp (K T' h' ⟨⟨_, X', Fw.snoc N' hge⟩, e', by rw [W.size]; exact b, hZ, hx, ho, r⟩ W (F.same W))
theorem wPutN {R0 O nm d C : String} {index kk : Nat} {ty : FieldType} {a : Addr} {x x' : Int32} {old : Value} (P : Pos p l e R s m args below meth c Z own ws bd T h k n) (w : (Cond.fieldLink own index R0 nm d).before a0 Z = true) (via : Via Z R0 O nm d) (F : Fld Z h a O nm d old) (E : Exa Z h a C)
    (La : (Cond.lays C O nm d).before a0 Z = true ∨ ((Cond.laysFinal C O nm d).before a0 Z = true ∧ own = O ∧ meth.name = "<init>")) (wi : (Cond.instantiable C kk).before a0 Z = true) (hty : parseFieldDescriptor d = some ty) (hn : narrow ty (.int x) = .int x') (hf : fits ty (.int x') = true) (hge : a ∈ ws ∨ bd ≤ a)
    (hd : decode c.code pc = .ok (.putfield index, 3)) (hp : pc + 3 = pc') (K : ∀ T' h', Pos p l e R s m args below meth c Z own ws bd T' h' k n → Wr h h' a (Jvm.RoadKit.slotOf Z O nm d) (.int x') → Fld Z h' a O nm d (.int x') → Done p l e R s m args below meth c Z own ws bd Q T' (mkF m pc' Ls st)) : Done p l e R s m args below meth c Z own ws bd Q T (mkF m pc Ls (.int x :: .ref a :: st)) := by
  obtain ⟨⟨L, X, N'⟩, eT, b, hZ, hx, ho, r⟩ := id P
  obtain ⟨T', h', X', e', W, stp⟩ := putFN X hx hZ ho w via eT F E La wi (v' := .int x') hty hn hf (g := mkF m pc Ls (.int x :: .ref a :: st)) rfl rfl hd
  subst hp
  exact Done.step stp (K T' h' ⟨⟨_, X', Fw.snoc N' hge⟩, e', by rw [W.size]; exact b, hZ, hx, ho, r⟩ W (F.same W))
/-! objects and arrays -/
theorem wNew {C : String} {index nn : Nat} (P : Pos p l e R s m args below meth c Z own ws bd T h k n) (w : (Cond.classLink own index C).before a0 Z = true) (wi : (Cond.instantiable C nn).before a0 Z = true) (wz : (Cond.initialized C).before a0 Z = true)
    (hd : decode c.code pc = .ok (.new index, 3)) (hp : pc + 3 = pc') (hc : k + 1 ≤ R.cells) (hl : n + nn ≤ R.slots) {k' n' : Nat} (hk' : k + 1 = k') (hn' : n + nn = n')
    (K : ∀ T' h' a, a = h.size → h.size < h'.size → Pos p l e R s m args below meth c Z own ws bd T' h' k' n' → Ext h h' → Exa Z h' a C → (∀ {O nm d : String} {ty : FieldType}, Laid Z a0 C O nm d → parseFieldDescriptor d = some ty → Fld Z h' a O nm d (defaultValue ty)) → Done p l e R s m args below meth c Z own ws bd Q T' (mkF m pc' Ls (.ref a :: st))) : Done p l e R s m args below meth c Z own ws bd Q T (mkF m pc Ls st) := by
  obtain ⟨⟨L, X, N'⟩, eT, b, hZ, hx, ho, hlk, _, _⟩ := id P
  obtain ⟨T', h', X', e', E, A, D, -, stp⟩ := newO X hx hZ ho w wi wz eT (g := mkF m pc Ls st) rfl hd hc hl
  subst hp hk' hn'
  exact Done.step stp (K T' h' h.size rfl A.lt ⟨⟨L, X', N'⟩, e', Nat.le_trans b E.1, hZ, hx, ho, hlk, hc, hl⟩ E A D)
/-- an array by its places' values -/
def Ar (Z : State) (h : Heap) (a : Addr) (ty : FieldType) (n : Nat) (f : Nat → Value) : Prop := ∃ cl : Cell, Arr Z h a cl ty ∧ cl.slots.size = n ∧ n < 2147483648 ∧ ∀ i, i < n → cl.slots[i]? = some (f i)
def oupd {α : Type} (f : Nat → α) (i : Nat) (v : α) : Nat → α := fun j => if j = i then v else f j
theorem oupd_same {α : Type} (f : Nat → α) (i : Nat) (v : α) : oupd f i v i = v := if_pos rfl
theorem oupd_ne {α : Type} {f : Nat → α} {i j : Nat} {v : α} (q : j ≠ i) : oupd f i v j = f j := if_neg q
theorem Ar.lt {a : Addr} {ty : FieldType} {N : Nat} {f : Nat → Value} (A : Ar Z h a ty N f) : a < h.size := by obtain ⟨c, A, -⟩ := A; exact A.lt
theorem Ar.ltN {a : Addr} {ty : FieldType} {N : Nat} {f : Nat → Value} (A : Ar Z h a ty N f) : @LT.lt Nat instLTNat a h.size := A.lt
theorem exaN {a : Addr} {C : String} (E : Exa Z h a C) : @LT.lt Nat instLTNat a h.size := E.lt
theorem Ar.ext {a : Addr} {ty : FieldType} {N : Nat} {f : Nat → Value} (A : Ar Z h a ty N f) (E : Ext h h') : Ar Z h' a ty N f := by obtain ⟨c, A, r⟩ := A; exact ⟨c, A.ext E, r⟩
theorem Ar.other {a b : Addr} {sl : Nat} {v : Value} {ty : FieldType} {N : Nat} {f : Nat → Value} (A : Ar Z h b ty N f) (W : Wr h h' a sl v) (q : b ≠ a) : Ar Z h' b ty N f := by obtain ⟨c, A, r⟩ := A; exact ⟨c, A.other W q, r⟩
theorem Ar.keep {a : Addr} {ws : List Addr} {ty : FieldType} {N : Nat} {f : Nat → Value} (A : Ar Z h a ty N f) (K : Keep h h' ws) (q : a ∉ ws) : Ar Z h' a ty N f := by obtain ⟨c, A, r⟩ := A; exact ⟨c, ⟨K.2.1 a c A.1 q, A.2⟩, r⟩
theorem Ar.len {a : Addr} {ty : FieldType} {N : Nat} {f : Nat → Value} (A : Ar Z h a ty N f) : N < 2147483648 := by obtain ⟨c, A, r1, r2, -⟩ := A; exact r2
theorem Ar.congr {a : Addr} {ty : FieldType} {N : Nat} {f g : Nat → Value} (A : Ar Z h a ty N f) (q : ∀ i, i < N → f i = g i) : Ar Z h a ty N g := by obtain ⟨c, A, r1, r2, r3⟩ := A; exact ⟨c, A, r1, r2, fun i hi => by rw [← q i hi]; exact r3 i hi⟩
theorem in_of {cl : Cell} {N i : Nat} {j : Int32} (S : cl.slots.size = N) (hj : j.toInt = (i : Int)) (hi : i < N) : ¬ (j < 0 ∨ cl.slots.size ≤ j.toNatClampNeg) ∧ j.toNatClampNeg = i := by
  have e : j.toNatClampNeg = i := by rw [Int32.toNatClampNeg, hj]; omega
  refine ⟨?_, e⟩
  rw [S, e, Int32.lt_iff_toInt_lt, hj, show (0 : Int32).toInt = 0 from rfl]
  omega
theorem toI32 {N : Nat} (h : N < 2147483648) : (N.toInt32).toInt = (N : Int) := by
  rw [show N.toInt32 = Int32.ofNat N from rfl, Int32.toInt_ofNat_of_lt (by omega)]
theorem wNewA {aty : ArrayType} {z : Int32} {N cap : Nat} (P : Pos p l e R s m args below meth c Z own ws bd T h k n) (w : (Cond.arrayClass (newarray.typeOf aty)).before a0 Z = true) (hd : decode c.code pc = .ok (.newarray aty, 2)) (hp : pc + 2 = pc') (hz : z.toInt = (N : Int)) (hcap : N ≤ cap) (hb : cap * 8 ≤ 536870912) (hc : k + 1 ≤ R.cells) (hl : n + cap ≤ R.slots)
    {ad : String} (had : "[" ++ (newarray.typeOf aty).toString = ad) {ty : FieldType} {dv : Value} (hty : newarray.typeOf aty = ty) (hdv : defaultValue ty = dv) {k' n' : Nat} (hk' : k + 1 = k') (hn' : n + cap = n')
    (K : ∀ T' h' a, a = h.size → h.size < h'.size → Pos p l e R s m args below meth c Z own ws bd T' h' k' n' → Ext h h' → Ar Z h' a ty N (fun _ => dv) → Exa Z h' a ad → Done p l e R s m args below meth c Z own ws bd Q T' (mkF m pc' Ls (.ref a :: st))) : Done p l e R s m args below meth c Z own ws bd Q T (mkF m pc Ls (.int z :: st)) := by
  obtain ⟨⟨L, X, N'⟩, eT, b, hZ, hx, ho, hlk, _, _⟩ := id P
  have hz0 : ¬ z < 0 := by rw [Int32.lt_iff_toInt_lt, hz, show (0 : Int32).toInt = 0 from rfl]; omega
  have hzn : z.toNatClampNeg = N := by rw [Int32.toNatClampNeg, hz]; omega
  have hN := z.toInt_lt
  obtain ⟨T', h', kA, X', e', E, A, Ex, stp⟩ := newPE X hx hZ w eT (g := mkF m pc Ls (.int z :: st)) rfl hd rfl hz0 (by rw [hzn]; exact hcap) hb hc hl had
  subst hp hk' hn' hty hdv
  refine Done.step stp (K T' h' h.size rfl A.lt ⟨⟨L, X', N'⟩, e', Nat.le_trans b E.1, hZ, hx, ho, hlk, hc, hl⟩ E ⟨_, A, by rw [sz_new, hzn], by omega, fun i hi => ?_⟩ Ex)
  simp [newA, hzn, hi]
theorem wLen {ty : FieldType} {N : Nat} {f : Nat → Value} {a : Addr} (P : Pos p l e R s m args below meth c Z own ws bd T h k n) (A : Ar Z h a ty N f) {z : Int32} (hz : z.toInt = (N : Int)) (hd : decode c.code pc = .ok (.arraylength, 1)) (hp : pc + 1 = pc')
    (K : Done p l e R s m args below meth c Z own ws bd Q T (mkF m pc' Ls (.int z :: st))) : Done p l e R s m args below meth c Z own ws bd Q T (mkF m pc Ls (.ref a :: st)) := by
  obtain ⟨⟨L, X, N'⟩, eT, b, hZ, hx, ho, hlk, _, _⟩ := id P
  obtain ⟨cl, Ar, S, hN, H⟩ := A
  subst hp
  refine Done.step (fun t kk => X.arraylength hx (by rw [eT]; exact Ar.1) (State.isArrayOf_alike hZ.alike Ar.2.1) (g := mkF m pc Ls (.ref a :: st)) rfl rfl hd t ?_) K
  rw [S, show N.toInt32 = z from Int32.toInt_inj.mp (by rw [toI32 hN, hz])]
  exact kk
theorem wDaload {N i : Nat} {f : Nat → Value} {a : Addr} {j : Int32} (P : Pos p l e R s m args below meth c Z own ws bd T h k n) (A : Ar Z h a .double N f) (hj : j.toInt = (i : Int)) (hi : i < N) {v : Value} (hv : f i = v) (hd : decode c.code pc = .ok (.daload, 1)) (hp : pc + 1 = pc')
    (K : Done p l e R s m args below meth c Z own ws bd Q T (mkF m pc' Ls (v :: st))) : Done p l e R s m args below meth c Z own ws bd Q T (mkF m pc Ls (.int j :: .ref a :: st)) := by
  obtain ⟨⟨L, X, N'⟩, eT, b, hZ, hx, ho, hlk, _, _⟩ := id P
  obtain ⟨cl, Ar, S, hN, H⟩ := A
  obtain ⟨q1, q2⟩ := in_of S hj hi
  subst hp hv
  exact Done.step (fun t kk => X.daload hx (by rw [eT]; exact Ar.1) (State.isArrayOf_alike hZ.alike Ar.2.1) Ar.2.2 q1 (by rw [q2]; exact H i hi) (g := mkF m pc Ls (.int j :: .ref a :: st)) rfl rfl hd t kk) K
theorem wIaload {N i : Nat} {f : Nat → Value} {a : Addr} {j : Int32} (P : Pos p l e R s m args below meth c Z own ws bd T h k n) (A : Ar Z h a .int N f) (hj : j.toInt = (i : Int)) (hi : i < N) {v : Value} (hv : f i = v) (hd : decode c.code pc = .ok (.iaload, 1)) (hp : pc + 1 = pc')
    (K : Done p l e R s m args below meth c Z own ws bd Q T (mkF m pc' Ls (v :: st))) : Done p l e R s m args below meth c Z own ws bd Q T (mkF m pc Ls (.int j :: .ref a :: st)) := by
  obtain ⟨⟨L, X, N'⟩, eT, b, hZ, hx, ho, hlk, _, _⟩ := id P
  obtain ⟨cl, Ar, S, hN, H⟩ := A
  obtain ⟨q1, q2⟩ := in_of S hj hi
  subst hp hv
  exact Done.step (fun t kk => X.iaload hx (by rw [eT]; exact Ar.1) (State.isArrayOf_alike hZ.alike Ar.2.1) Ar.2.2 q1 (by rw [q2]; exact H i hi) (g := mkF m pc Ls (.int j :: .ref a :: st)) rfl rfl hd t kk) K
theorem wCaload {N i : Nat} {f : Nat → Value} {a : Addr} {j : Int32} (P : Pos p l e R s m args below meth c Z own ws bd T h k n) (A : Ar Z h a .char N f) (hj : j.toInt = (i : Int)) (hi : i < N) {v : Value} (hv : f i = v) (hd : decode c.code pc = .ok (.caload, 1)) (hp : pc + 1 = pc')
    (K : Done p l e R s m args below meth c Z own ws bd Q T (mkF m pc' Ls (v :: st))) : Done p l e R s m args below meth c Z own ws bd Q T (mkF m pc Ls (.int j :: .ref a :: st)) := by
  obtain ⟨⟨L, X, N'⟩, eT, b, hZ, hx, ho, hlk, _, _⟩ := id P
  obtain ⟨cl, Ar, S, hN, H⟩ := A
  obtain ⟨q1, q2⟩ := in_of S hj hi
  subst hp hv
  exact Done.step (fun t kk => X.caload hx (by rw [eT]; exact Ar.1) (State.isArrayOf_alike hZ.alike Ar.2.1) Ar.2.2 q1 (by rw [q2]; exact H i hi) (g := mkF m pc Ls (.int j :: .ref a :: st)) rfl rfl hd t kk) K
theorem wAaload {N i : Nat} {f : Nat → Value} {a : Addr} {j : Int32} {ty : FieldType} (P : Pos p l e R s m args below meth c Z own ws bd T h k n) (A : Ar Z h a ty N f) (hty : ty.isReference = true) (hj : j.toInt = (i : Int)) (hi : i < N) {v : Value} (hv : f i = v) (hd : decode c.code pc = .ok (.aaload, 1)) (hp : pc + 1 = pc')
    (K : Done p l e R s m args below meth c Z own ws bd Q T (mkF m pc' Ls (v :: st))) : Done p l e R s m args below meth c Z own ws bd Q T (mkF m pc Ls (.int j :: .ref a :: st)) := by
  obtain ⟨⟨L, X, N'⟩, eT, b, hZ, hx, ho, hlk, _, _⟩ := id P
  obtain ⟨cl, Ar, S, hN, H⟩ := A
  obtain ⟨q1, q2⟩ := in_of S hj hi
  subst hp hv
  exact Done.step (fun t kk => X.aaload hx (by rw [eT]; exact Ar.1) (State.isArrayOf_alike hZ.alike Ar.2.1) hty Ar.2.2 q1 (by rw [q2]; exact H i hi) (g := mkF m pc Ls (.int j :: .ref a :: st)) rfl rfl hd t kk) K
theorem Ar.set {cl : Cell} {a : Addr} {ty : FieldType} {N i : Nat} {f : Nat → Value} {v : Value} (A : Arr Z h a cl ty) (S : cl.slots.size = N) (hN : N < 2147483648) (H : ∀ i, i < N → cl.slots[i]? = some (f i)) (hi : i < N) (W : Wr h h' a i v) : Ar Z h' a ty N (oupd f i v) := by
  refine ⟨cl.setSlot i v, A.same W, by rw [sz_set]; exact S, hN, fun j hj => ?_⟩
  by_cases q : j = i
  · subst q; rw [oupd_same]; exact Cell.slots_setSlot_self v (by omega)
  · rw [oupd_ne q, Cell.slots_setSlot_ne v (Ne.symm q)]; exact H j hj
theorem wDastore {N i : Nat} {f : Nat → UInt64} {a : Addr} {j : Int32} {x : UInt64} (P : Pos p l e R s m args below meth c Z own ws bd T h k n) (A : Ar Z h a .double N (fun i => .double (f i))) (hj : j.toInt = (i : Int)) (hi : i < N) (hge : a ∈ ws ∨ bd ≤ a) (hd : decode c.code pc = .ok (.dastore, 1)) (hp : pc + 1 = pc')
    (K : ∀ T' h', Pos p l e R s m args below meth c Z own ws bd T' h' k n → Wr h h' a i (.double x) → Ar Z h' a .double N (fun j => .double (oupd f i x j)) → Done p l e R s m args below meth c Z own ws bd Q T' (mkF m pc' Ls st)) : Done p l e R s m args below meth c Z own ws bd Q T (mkF m pc Ls (.double x :: .int j :: .ref a :: st)) := by
  obtain ⟨⟨L, X, N'⟩, eT, b, hZ, hx, ho, r⟩ := id P
  obtain ⟨cl, Ar', S, hN, H⟩ := A
  obtain ⟨q1, q2⟩ := in_of S hj hi
  obtain ⟨T', h', X', e', W, stp⟩ := stD X hx hZ eT Ar' q1 (g := mkF m pc Ls (.double x :: .int j :: .ref a :: st)) rfl rfl hd
  subst hp
  rw [q2] at W
  refine Done.step stp (K T' h' ⟨⟨_, X', Fw.snoc N' hge⟩, e', by rw [W.size]; exact b, hZ, hx, ho, r⟩ W ((Ar.set Ar' S hN H hi W).congr fun j _ => ?_))
  unfold oupd; split <;> rfl
theorem wIastore {N i : Nat} {f : Nat → Int32} {a : Addr} {j : Int32} {x : Int32} (P : Pos p l e R s m args below meth c Z own ws bd T h k n) (A : Ar Z h a .int N (fun i => .int (f i))) (hj : j.toInt = (i : Int)) (hi : i < N) (hge : a ∈ ws ∨ bd ≤ a) (hd : decode c.code pc = .ok (.iastore, 1)) (hp : pc + 1 = pc')
    (K : ∀ T' h', Pos p l e R s m args below meth c Z own ws bd T' h' k n → Wr h h' a i (.int x) → Ar Z h' a .int N (fun j => .int (oupd f i x j)) → Done p l e R s m args below meth c Z own ws bd Q T' (mkF m pc' Ls st)) : Done p l e R s m args below meth c Z own ws bd Q T (mkF m pc Ls (.int x :: .int j :: .ref a :: st)) := by
  obtain ⟨⟨L, X, N'⟩, eT, b, hZ, hx, ho, r⟩ := id P
  obtain ⟨cl, Ar', S, hN, H⟩ := A
  obtain ⟨q1, q2⟩ := in_of S hj hi
  obtain ⟨T', h', X', e', W, stp⟩ := stI X hx hZ eT Ar' q1 (g := mkF m pc Ls (.int x :: .int j :: .ref a :: st)) rfl rfl hd
  subst hp
  rw [q2] at W
  refine Done.step stp (K T' h' ⟨⟨_, X', Fw.snoc N' hge⟩, e', by rw [W.size]; exact b, hZ, hx, ho, r⟩ W ((Ar.set Ar' S hN H hi W).congr fun j _ => ?_))
  unfold oupd; split <;> rfl
theorem wCastore {N i : Nat} {f : Nat → Int32} {a : Addr} {j : Int32} {x : Int32} (P : Pos p l e R s m args below meth c Z own ws bd T h k n) (A : Ar Z h a .char N (fun i => .int (f i))) (hj : j.toInt = (i : Int)) (hi : i < N) (hge : a ∈ ws ∨ bd ≤ a) (hd : decode c.code pc = .ok (.castore, 1)) (hp : pc + 1 = pc')
    (K : ∀ T' h', Pos p l e R s m args below meth c Z own ws bd T' h' k n → Wr h h' a i (.int (nar .char x)) → Ar Z h' a .char N (fun j => .int (oupd f i (nar .char x) j)) → Done p l e R s m args below meth c Z own ws bd Q T' (mkF m pc' Ls st)) : Done p l e R s m args below meth c Z own ws bd Q T (mkF m pc Ls (.int x :: .int j :: .ref a :: st)) := by
  obtain ⟨⟨L, X, N'⟩, eT, b, hZ, hx, ho, r⟩ := id P
  obtain ⟨cl, Ar', S, hN, H⟩ := A
  obtain ⟨q1, q2⟩ := in_of S hj hi
  obtain ⟨T', h', X', e', W, stp⟩ := stC X hx hZ eT Ar' q1 (g := mkF m pc Ls (.int x :: .int j :: .ref a :: st)) rfl rfl hd
  subst hp
  rw [q2] at W
  refine Done.step stp (K T' h' ⟨⟨_, X', Fw.snoc N' hge⟩, e', by rw [W.size]; exact b, hZ, hx, ho, r⟩ W ((Ar.set Ar' S hN H hi W).congr fun j _ => ?_))
  unfold oupd; split <;> rfl
theorem wBastore {N i : Nat} {f : Nat → Int32} {a : Addr} {j : Int32} {x : Int32} (P : Pos p l e R s m args below meth c Z own ws bd T h k n) (A : Ar Z h a .byte N (fun i => .int (f i))) (hj : j.toInt = (i : Int)) (hi : i < N) (hge : a ∈ ws ∨ bd ≤ a) (hd : decode c.code pc = .ok (.bastore, 1)) (hp : pc + 1 = pc')
    (K : ∀ T' h', Pos p l e R s m args below meth c Z own ws bd T' h' k n → Wr h h' a i (.int (nar .byte x)) → Ar Z h' a .byte N (fun j => .int (oupd f i (nar .byte x) j)) → Done p l e R s m args below meth c Z own ws bd Q T' (mkF m pc' Ls st)) : Done p l e R s m args below meth c Z own ws bd Q T (mkF m pc Ls (.int x :: .int j :: .ref a :: st)) := by
  obtain ⟨⟨L, X, N'⟩, eT, b, hZ, hx, ho, r⟩ := id P
  obtain ⟨cl, Ar', S, hN, H⟩ := A
  obtain ⟨q1, q2⟩ := in_of S hj hi
  obtain ⟨T', h', X', e', W, stp⟩ := stB X hx hZ eT Ar' q1 (g := mkF m pc Ls (.int x :: .int j :: .ref a :: st)) rfl rfl hd
  subst hp
  rw [q2] at W
  refine Done.step stp (K T' h' ⟨⟨_, X', Fw.snoc N' hge⟩, e', by rw [W.size]; exact b, hZ, hx, ho, r⟩ W ((Ar.set Ar' S hN H hi W).congr fun j _ => ?_))
  unfold oupd; split <;> rfl
theorem wZastore {N i : Nat} {f : Nat → Int32} {a : Addr} {j : Int32} {x : Int32} (P : Pos p l e R s m args below meth c Z own ws bd T h k n) (A : Ar Z h a .boolean N (fun i => .int (f i))) (hj : j.toInt = (i : Int)) (hi : i < N) (hge : a ∈ ws ∨ bd ≤ a) (hd : decode c.code pc = .ok (.bastore, 1)) (hp : pc + 1 = pc')
    (K : ∀ T' h', Pos p l e R s m args below meth c Z own ws bd T' h' k n → Wr h h' a i (.int (nar .boolean x)) → Ar Z h' a .boolean N (fun j => .int (oupd f i (nar .boolean x) j)) → Done p l e R s m args below meth c Z own ws bd Q T' (mkF m pc' Ls st)) : Done p l e R s m args below meth c Z own ws bd Q T (mkF m pc Ls (.int x :: .int j :: .ref a :: st)) := by
  obtain ⟨⟨L, X, N'⟩, eT, b, hZ, hx, ho, r⟩ := id P
  obtain ⟨cl, Ar', S, hN, H⟩ := A
  obtain ⟨q1, q2⟩ := in_of S hj hi
  obtain ⟨T', h', X', e', W, stp⟩ := stZ X hx hZ eT Ar' q1 (g := mkF m pc Ls (.int x :: .int j :: .ref a :: st)) rfl rfl hd
  subst hp
  rw [q2] at W
  refine Done.step stp (K T' h' ⟨⟨_, X', Fw.snoc N' hge⟩, e', by rw [W.size]; exact b, hZ, hx, ho, r⟩ W ((Ar.set Ar' S hN H hi W).congr fun j _ => ?_))
  unfold oupd; split <;> rfl
theorem wBaload {N i : Nat} {f : Nat → Value} {a : Addr} {j : Int32} (P : Pos p l e R s m args below meth c Z own ws bd T h k n) (A : Ar Z h a .byte N f) (hj : j.toInt = (i : Int)) (hi : i < N) {v : Value} (hv : f i = v) (hd : decode c.code pc = .ok (.baload, 1)) (hp : pc + 1 = pc')
    (K : Done p l e R s m args below meth c Z own ws bd Q T (mkF m pc' Ls (v :: st))) : Done p l e R s m args below meth c Z own ws bd Q T (mkF m pc Ls (.int j :: .ref a :: st)) := by
  obtain ⟨⟨L, X, N'⟩, eT, b, hZ, hx, ho, hlk, _, _⟩ := id P
  obtain ⟨cl, Ar, S, hN, H⟩ := A
  obtain ⟨q1, q2⟩ := in_of S hj hi
  subst hp hv
  exact Done.step (fun t kk => X.baloadBytes hx (by rw [eT]; exact Ar.1) (State.isArrayOf_alike hZ.alike Ar.2.1) Ar.2.2 q1 (by rw [q2]; exact H i hi) (g := mkF m pc Ls (.int j :: .ref a :: st)) rfl rfl hd t kk) K
theorem staKeep {C nm d : String} {v : Value} {ws' : List Addr} (F : Sta Z h C nm d v) (K : Keep h h' ws') (hw : ∀ x ∈ ws', ∀ cell : Cell, h[x]? = some cell → cell.vm.isStatics = false) : Sta Z h' C nm d v := by
  obtain ⟨cf, i, k, f, st, cell, h1, h2, h3, h4, h5, h6, r⟩ := F
  exact ⟨cf, i, k, f, st, cell, h1, h2, h3, h4, K.2.1 _ _ h5 (fun q => by rw [hw _ q _ h5] at h6; cases h6), h6, r⟩
theorem wCast {K : String} {index : Nat} {a : Addr} (P : Pos p l e R s m args below meth c Z own ws bd T h k n) (w : (Cond.classLink own index K).before a0 Z = true) (F : Ins Z h a K true) (hd : decode c.code pc = .ok (.checkcast index, 3)) (hp : pc + 3 = pc')
    (K' : ∀ T', Pos p l e R s m args below meth c Z own ws bd T' h k n → Done p l e R s m args below meth c Z own ws bd Q T' (mkF m pc' Ls (.ref a :: st))) : Done p l e R s m args below meth c Z own ws bd Q T (mkF m pc Ls (.ref a :: st)) := by
  obtain ⟨⟨L, X, N'⟩, eT, b, hZ, hx, ho, r⟩ := id P
  obtain ⟨T', X', e', stp⟩ := castY X hx hZ ho w eT F (g := mkF m pc Ls (.ref a :: st)) rfl rfl hd
  subst hp
  exact Done.step stp (K' T' ⟨⟨L, X', N'⟩, e', b, hZ, hx, ho, r⟩)
theorem wInstY {K : String} {index : Nat} {a : Addr} (P : Pos p l e R s m args below meth c Z own ws bd T h k n) (w : (Cond.classLink own index K).before a0 Z = true) (F : Ins Z h a K true) (hd : decode c.code pc = .ok (.instanceof index, 3)) (hp : pc + 3 = pc')
    (K' : ∀ T', Pos p l e R s m args below meth c Z own ws bd T' h k n → Done p l e R s m args below meth c Z own ws bd Q T' (mkF m pc' Ls (.int 1 :: st))) : Done p l e R s m args below meth c Z own ws bd Q T (mkF m pc Ls (.ref a :: st)) := by
  obtain ⟨⟨L, X, N'⟩, eT, b, hZ, hx, ho, r⟩ := id P
  obtain ⟨T', X', e', stp⟩ := instY X hx hZ ho w eT F (g := mkF m pc Ls (.ref a :: st)) rfl rfl hd
  subst hp
  exact Done.step stp (K' T' ⟨⟨L, X', N'⟩, e', b, hZ, hx, ho, r⟩)
theorem wInstN {K C : String} {index : Nat} {a : Addr} (P : Pos p l e R s m args below meth c Z own ws bd T h k n) (w : (Cond.classLink own index K).before a0 Z = true) (E : Exa Z h a C) (F : ∃ c t, Z.vm.findClass C = some c ∧ Z.vm.findClass K = some t ∧ Z.vm.assignable c t = false) (hd : decode c.code pc = .ok (.instanceof index, 3)) (hp : pc + 3 = pc')
    (K' : ∀ T', Pos p l e R s m args below meth c Z own ws bd T' h k n → Done p l e R s m args below meth c Z own ws bd Q T' (mkF m pc' Ls (.int 0 :: st))) : Done p l e R s m args below meth c Z own ws bd Q T (mkF m pc Ls (.ref a :: st)) := by
  obtain ⟨⟨L, X, N'⟩, eT, b, hZ, hx, ho, r⟩ := id P
  obtain ⟨T', X', e', stp⟩ := instNo X hx hZ ho w eT E F (g := mkF m pc Ls (.ref a :: st)) rfl rfl hd
  subst hp
  exact Done.step stp (K' T' ⟨⟨L, X', N'⟩, e', b, hZ, hx, ho, r⟩)
theorem wInst0 {index : Nat} (P : Pos p l e R s m args below meth c Z own ws bd T h k n) (hd : decode c.code pc = .ok (.instanceof index, 3)) (hp : pc + 3 = pc') (D : Done p l e R s m args below meth c Z own ws bd Q T (mkF m pc' Ls (.int 0 :: st))) : Done p l e R s m args below meth c Z own ws bd Q T (mkF m pc Ls (.null :: st)) := by
  obtain ⟨⟨L, X, N'⟩, eT, b, hZ, hx, ho, r⟩ := id P
  subst hp
  exact Done.step (Jvm.Stand.instanceofNull X hx (g := mkF m pc Ls (.null :: st)) rfl rfl hd) D
/-! calls -/
theorem wInit {index : Nat} {a : Addr} {W : Nat} (P : Pos p l e R s m args below meth c Z own ws bd T h k n) (w1 : (Cond.methodLink own index Lib.objectInit).before a0 Z = true) (w2 : (Cond.instanceMethod Lib.objectInit).before a0 Z = true) (w3 : (Cond.code Lib.objectInit ⟨#[0xb1]⟩ 1 none).before a0 Z = true) (hml : Ls.size = c.maxLocals)
    (hd : decode c.code pc = .ok (.invokespecial index, 3)) (hf : 1 ≤ R.frames) (hW : (st.map fun v => v.category).sum ≤ W) (hl : W + 12 ≤ R.locals) (hp : pc + 3 = pc')
    (K : ∀ T', Pos p l e R s m args below meth c Z own ws bd T' h k n → Done p l e R s m args below meth c Z own ws bd Q T' (mkF m pc' Ls st)) : Done p l e R s m args below meth c Z own ws bd Q T (mkF m pc Ls (.ref a :: st)) := by
  obtain ⟨⟨L, X, N'⟩, eT, b, hZ, hx, ho, r⟩ := id P
  obtain ⟨T', X', e', stp⟩ := initO X hx hZ ho w1 w2 w3 eT (g := mkF m pc Ls (.ref a :: st)) rfl hml rfl hd hf (W := W) (by show 2 * 0 + _ ≤ _; omega) hl
  subst hp
  exact Done.step stp (K T' ⟨⟨L, X', N'⟩, e', b, hZ, hx, ho, r⟩)
theorem wCallS {y : MethodName} {bytes : ByteArray} {maxL : Nat} {ret : Option FieldType} {rm : Room} {as' : Array Value} {ws' : List Addr} {Q' : Option Value → Heap → Prop} {index W : Nat} {argsL rest stk : List Value} (P : Pos p l e R s m args below meth c Z own ws bd T h k n) (M : OMet l y bytes maxL ret [] rm Z h ws' as' Q')
    (w1 : (Cond.methodLink own index y).before a0 Z = true) (w2 : (Cond.static y).before a0 Z = true) (w3 : (Cond.initialized y.cls).before a0 Z = true) (w4 : (Cond.code y bytes maxL ret).before a0 Z = true) (hy : y.cls ≠ "java/lang/invoke/MethodHandle" ∧ y.cls ≠ "java/lang/invoke/VarHandle") (hml : Ls.size = c.maxLocals)
    (hlen : ∀ sig, parseMethodDescriptor y.desc = some sig → argsL.length = sig.parameters.length) (has : (argsL).toArray = as') (hst : stk = argsL.reverse ++ rest) (hW : (rest.map fun v => v.category).sum ≤ W) (hf : rm.frames + 1 ≤ R.frames) (hl : W + (maxL + 11) + rm.locals ≤ R.locals) (hc : k + rm.cells ≤ R.cells) (hs : n + rm.slots ≤ R.slots)
    (hws : ∀ x ∈ ws', x ∈ ws ∨ bd ≤ x) (hd : decode c.code pc = .ok (.invokestatic index, 3)) (hp : pc + 3 = pc') {k' n' : Nat} (hk' : k + rm.cells = k') (hn' : n + rm.slots = n')
    (K : ∀ T' h' v, Pos p l e R s m args below meth c Z own ws bd T' h' k' n' → Keep h h' ws' → Q' v h' → Done p l e R s m args below meth c Z own ws bd Q T' (mkF m pc' Ls (v.toList ++ rest))) : Done p l e R s m args below meth c Z own ws bd Q T (mkF m pc Ls stk) := by
  obtain ⟨⟨L, X, N'⟩, eT, b, hZ, hx, ho, hlk, _, _⟩ := id P
  subst hst has hp hk' hn'
  obtain ⟨v, _, ⟨T', L', k1, n1⟩, -, X', ⟨Lc, hq, l', y', z'⟩, stp⟩ := Jvm.LawKit.callS X hx (y := y) ho (mvT hZ w1) (mvT hZ w2) (mvT hZ w3) (mvT hZ w4) hy (backOf (W := W) (Q := fun v h' L => Q' v h' ∧ Fw ws' h.size L ∧ Keep h h' ws') M hZ w4 w3 hf hl) (g := mkF m pc Ls (argsL.reverse ++ rest)) rfl hml (argsL := argsL) (rest := rest) hlen rfl (by show 2 * 0 + _ ≤ _; omega) hd (fun _ _ => ⟨rfl, eT, hc, hs⟩)
  dsimp only [Pt.U, Pt.locs, Pt.cells, Pt.slots] at X' l' y' z' stp hq
  subst l' y' z'
  exact Done.step (stp) (K T' T'.heap v ⟨⟨_, X', N'.app fun y hy => (hq.2.1 y hy).elim (fun q => hws _ q) (fun q => Or.inr (Nat.le_trans b q))⟩, rfl, Nat.le_trans b hq.2.2.1, hZ, hx, ho, hlk, hc, hs⟩ hq.2.2 hq.1)
theorem wCallI {y : MethodName} {bytes : ByteArray} {maxL : Nat} {rm : Room} {as' : Array Value} {ws' : List Addr} {Q' : Option Value → Heap → Prop} {index W : Nat} {argsL rest stk : List Value} {a : Addr} (P : Pos p l e R s m args below meth c Z own ws bd T h k n) (M : OMet l y bytes maxL none [] rm Z h ws' as' Q')
    (hyn : y.name = "<init>") (w1 : (Cond.methodLink own index y).before a0 Z = true) (w2 : (Cond.instanceMethod y).before a0 Z = true) (w3 : (Cond.initialized y.cls).before a0 Z = true) (w4 : (Cond.code y bytes maxL none).before a0 Z = true) (hy : y.cls ≠ "java/lang/invoke/MethodHandle" ∧ y.cls ≠ "java/lang/invoke/VarHandle") (hml : Ls.size = c.maxLocals)
    (hlen : ∀ sig, parseMethodDescriptor y.desc = some sig → argsL.length = sig.parameters.length) (has : (.ref a :: argsL).toArray = as') (hst : stk = argsL.reverse ++ .ref a :: rest) (hW : (rest.map fun v => v.category).sum ≤ W) (hf : rm.frames + 1 ≤ R.frames) (hl : W + (maxL + 11) + rm.locals ≤ R.locals) (hc : k + rm.cells ≤ R.cells) (hs : n + rm.slots ≤ R.slots)
    (hws : ∀ x ∈ ws', x ∈ ws ∨ bd ≤ x) (hd : decode c.code pc = .ok (.invokespecial index, 3)) (hp : pc + 3 = pc') {k' n' : Nat} (hk' : k + rm.cells = k') (hn' : n + rm.slots = n')
    (K : ∀ T' h' v, Pos p l e R s m args below meth c Z own ws bd T' h' k' n' → Keep h h' ws' → Q' v h' → Done p l e R s m args below meth c Z own ws bd Q T' (mkF m pc' Ls (v.toList ++ rest))) : Done p l e R s m args below meth c Z own ws bd Q T (mkF m pc Ls stk) := by
  obtain ⟨⟨L, X, N'⟩, eT, b, hZ, hx, ho, hlk, _, _⟩ := id P
  subst hst has hp hk' hn'
  obtain ⟨v, _, ⟨T', L', k1, n1⟩, -, X', ⟨Lc, hq, l', y', z'⟩, stp⟩ := X.specialBack hx (y := y) hyn ho (mvT hZ w1) (mvT hZ w2) (mvT hZ w4) hy (backOf (W := W) (Q := fun v h' L => Q' v h' ∧ Fw ws' h.size L ∧ Keep h h' ws') M hZ w4 w3 hf hl) (g := mkF m pc Ls (argsL.reverse ++ .ref a :: rest)) rfl hml (Steps.refl _) (a := a) (argsL := argsL) (rest := rest) hlen rfl (by show 2 * 0 + _ ≤ _; omega) hd (fun _ _ => ⟨rfl, eT, hc, hs⟩)
  dsimp only [Pt.U, Pt.locs, Pt.cells, Pt.slots] at X' l' y' z' stp hq
  subst l' y' z'
  exact Done.step (fun t kk => stp.trans kk) (K T' T'.heap v ⟨⟨_, X', N'.app fun y hy => (hq.2.1 y hy).elim (fun q => hws _ q) (fun q => Or.inr (Nat.le_trans b q))⟩, rfl, Nat.le_trans b hq.2.2.1, hZ, hx, ho, hlk, hc, hs⟩ hq.2.2 hq.1)
theorem wCallV {y : MethodName} {bytes : ByteArray} {maxL : Nat} {ret : Option FieldType} {rm : Room} {as' : Array Value} {ws' : List Addr} {Q' : Option Value → Heap → Prop} {index W : Nat} {argsL rest stk : List Value} {z : MethodName} {C : String} {a : Addr} (P : Pos p l e R s m args below meth c Z own ws bd T h k n) (M : OMet l z bytes maxL ret [] rm Z h ws' as' Q')
    (w1 : (Cond.methodLink own index y).before a0 Z = true) (w2 : (Cond.declares y).before a0 Z = true) (w5 : (Cond.selects C y z).before a0 Z = true) {D : String} (w7 : (Cond.selects D y y).before a0 Z = true) (w6 : (Cond.instanceMethod z).before a0 Z = true) (w3 : (Cond.initialized z.cls).before a0 Z = true) (w4 : (Cond.code z bytes maxL ret).before a0 Z = true) (hy : y.cls ≠ "java/lang/invoke/MethodHandle" ∧ y.cls ≠ "java/lang/invoke/VarHandle") (E : Exa Z h a C) (hml : Ls.size = c.maxLocals)
    (hlen : ∀ sig, parseMethodDescriptor y.desc = some sig → argsL.length = sig.parameters.length) (has : (.ref a :: argsL).toArray = as') (hst : stk = argsL.reverse ++ .ref a :: rest) (hW : (rest.map fun v => v.category).sum ≤ W) (hf : rm.frames + 1 ≤ R.frames) (hl : W + (maxL + 11) + rm.locals ≤ R.locals) (hc : k + rm.cells ≤ R.cells) (hs : n + rm.slots ≤ R.slots)
    (hws : ∀ x ∈ ws', x ∈ ws ∨ bd ≤ x) (hd : decode c.code pc = .ok (.invokevirtual index, 3)) (hp : pc + 3 = pc') {k' n' : Nat} (hk' : k + rm.cells = k') (hn' : n + rm.slots = n')
    (K : ∀ T' h' v, Pos p l e R s m args below meth c Z own ws bd T' h' k' n' → Keep h h' ws' → Q' v h' → Done p l e R s m args below meth c Z own ws bd Q T' (mkF m pc' Ls (v.toList ++ rest))) : Done p l e R s m args below meth c Z own ws bd Q T (mkF m pc Ls stk) := by
  obtain ⟨⟨L, X, N'⟩, eT, b, hZ, hx, ho, hlk, _, _⟩ := id P
  subst hst has hp hk' hn'
  obtain ⟨cq, kq, qa, qb, qc⟩ := isOf hZ eT E
  obtain ⟨v, _, ⟨T', L', k1, n1⟩, -, X', ⟨Lc, hq, l', y', z'⟩, stp⟩ := X.virtualBack hx (y := y) (z := z) ho (mvT hZ w1) (mvT hZ w2) (notFace_of_selects (args := #[]) (mvT hZ w7)) (mvT hZ w5) (mvT hZ w6) hy (backOf (W := W) (Q := fun v h' L => Q' v h' ∧ Fw ws' h.size L ∧ Keep h h' ws') M hZ w4 w3 hf hl) qa qc (g := mkF m pc Ls (argsL.reverse ++ .ref a :: rest)) rfl hml (Steps.refl _) (argsL := argsL) (rest := rest) hlen rfl (by show 2 * 0 + _ ≤ _; omega) hd (fun _ _ => ⟨rfl, eT, hc, hs⟩)
  dsimp only [Pt.U, Pt.locs, Pt.cells, Pt.slots] at X' l' y' z' stp hq
  subst l' y' z'
  exact Done.step (fun t kk => stp.trans kk) (K T' T'.heap v ⟨⟨_, X', N'.app fun y hy => (hq.2.1 y hy).elim (fun q => hws _ q) (fun q => Or.inr (Nat.le_trans b q))⟩, rfl, Nat.le_trans b hq.2.2.1, hZ, hx, ho, hlk, hc, hs⟩ hq.2.2 hq.1)
theorem wCallP {y : MethodName} {bytes : ByteArray} {maxL : Nat} {ret : Option FieldType} {rm : Room} {as' : Array Value} {ws' : List Addr} {Q' : Option Value → Heap → Prop} {index W kk : Nat} {argsL rest stk : List Value} {a : Addr} {C : String} (P : Pos p l e R s m args below meth c Z own ws bd T h k n) (M : OMet l y bytes maxL ret [] rm Z h ws' as' Q')
    (w1 : (Cond.methodLink own index y).before a0 Z = true) (w2 : (Cond.instanceMethod y).before a0 Z = true) (w5 : (Cond.privateMethod y).before a0 Z = true) (wi : (Cond.instantiable y.cls kk).before a0 Z = true) (w3 : (Cond.initialized y.cls).before a0 Z = true) (w4 : (Cond.code y bytes maxL ret).before a0 Z = true) (hy : y.cls ≠ "java/lang/invoke/MethodHandle" ∧ y.cls ≠ "java/lang/invoke/VarHandle") (E : Exa Z h a C) (hml : Ls.size = c.maxLocals)
    (hlen : ∀ sig, parseMethodDescriptor y.desc = some sig → argsL.length = sig.parameters.length) (has : (.ref a :: argsL).toArray = as') (hst : stk = argsL.reverse ++ .ref a :: rest) (hW : (rest.map fun v => v.category).sum ≤ W) (hf : rm.frames + 1 ≤ R.frames) (hl : W + (maxL + 11) + rm.locals ≤ R.locals) (hc : k + rm.cells ≤ R.cells) (hs : n + rm.slots ≤ R.slots)
    (hws : ∀ x ∈ ws', x ∈ ws ∨ bd ≤ x) (hd : decode c.code pc = .ok (.invokevirtual index, 3)) (hp : pc + 3 = pc') {k' n' : Nat} (hk' : k + rm.cells = k') (hn' : n + rm.slots = n')
    (K : ∀ T' h' v, Pos p l e R s m args below meth c Z own ws bd T' h' k' n' → Keep h h' ws' → Q' v h' → Done p l e R s m args below meth c Z own ws bd Q T' (mkF m pc' Ls (v.toList ++ rest))) : Done p l e R s m args below meth c Z own ws bd Q T (mkF m pc Ls stk) := by
  obtain ⟨⟨L, X, N'⟩, eT, b, hZ, hx, ho, hlk, _, _⟩ := id P
  subst hst has hp hk' hn'
  obtain ⟨cl, hcl, hst⟩ := E.cell
  have hpr : s.PrivateAt y := Cond.privateMethod_at (mvP hZ w5 (args := #[]))
  obtain ⟨ci, ki, hi1, hi2, -, hi3, -⟩ := Cond.instantiable_spec (mvT hZ wi : (Cond.instantiable y.cls kk).before args s = true)
  have hsel : (Cond.selects y.cls y y).before args s = true := selects_self_of_private hi1 hi2 (by simp only [Bool.or_eq_false_iff] at hi3; exact hi3.1) hpr (mvT hZ w2) hy
  obtain ⟨v, _, ⟨T', L', k1, n1⟩, -, X', ⟨Lc, hq, l', y', z'⟩, stp⟩ := X.privateBack hx (y := y) ho (mvT hZ w1) (mvT hZ w2) hsel hpr (mvT hZ w4) hy (backOf (W := W) (Q := fun v h' L => Q' v h' ∧ Fw ws' h.size L ∧ Keep h h' ws') M hZ w4 w3 hf hl) (g := mkF m pc Ls (argsL.reverse ++ .ref a :: rest)) rfl hml (Steps.refl _) (a := a) (by rw [eT]; exact hcl) hst (argsL := argsL) (rest := rest) hlen rfl (by show 2 * 0 + _ ≤ _; omega) hd (fun _ _ => ⟨rfl, eT, hc, hs⟩)
  dsimp only [Pt.U, Pt.locs, Pt.cells, Pt.slots] at X' l' y' z' stp hq
  subst l' y' z'
  exact Done.step (fun t kk => stp.trans kk) (K T' T'.heap v ⟨⟨_, X', N'.app fun y hy => (hq.2.1 y hy).elim (fun q => hws _ q) (fun q => Or.inr (Nat.le_trans b q))⟩, rfl, Nat.le_trans b hq.2.2.1, hZ, hx, ho, hlk, hc, hs⟩ hq.2.2 hq.1)
/-- a call that the machine answers itself -/
theorem wNat {y : MethodName} {by0 : ByteArray} {ml : Nat} {rt : Option FieldType} {index W : Nat} {F : Array Value → Prop} {val : Value} {argsL rest stk : List Value} (P : Pos p l e R s m args below meth c Z own ws bd T h k n)
    (w1 : (Cond.methodLink own index y).before a0 Z = true) (w2 : (Cond.static y).before a0 Z = true) (w3 : (Cond.initialized y.cls).before a0 Z = true) (w4 : (Cond.code y by0 ml rt).before a0 Z = true) (hy : y.cls ≠ "java/lang/invoke/MethodHandle" ∧ y.cls ≠ "java/lang/invoke/VarHandle")
    (hK : (Cond.code y by0 ml rt).before args s = true → Back l R p e below s args y 3 W (fun A a' => A.cells ≤ R.cells ∧ A.slots ≤ R.slots ∧ F a') (fun A _ v B => v = some val ∧ B = A)) (hml : Ls.size = c.maxLocals)
    (hlen : ∀ sig, parseMethodDescriptor y.desc = some sig → argsL.length = sig.parameters.length) (hst : stk = argsL.reverse ++ rest) (hW : (rest.map fun v => v.category).sum ≤ W) (hd : decode c.code pc = .ok (.invokestatic index, 3)) (hp : pc + 3 = pc') (hF : F argsL.toArray)
    (K : ∀ T', Pos p l e R s m args below meth c Z own ws bd T' h k n → Done p l e R s m args below meth c Z own ws bd Q T' (mkF m pc' Ls (val :: rest))) : Done p l e R s m args below meth c Z own ws bd Q T (mkF m pc Ls stk) := by
  obtain ⟨⟨L, X, N'⟩, eT, b, hZ, hx, ho, hlk, hc, hs⟩ := id P
  subst hst hp
  obtain ⟨T', X', e', stp⟩ := natS X hx hZ ho w1 w2 w3 w4 hy eT hK (g := mkF m pc Ls (argsL.reverse ++ rest)) rfl hml hlen rfl (by show 2 * 0 + _ ≤ _; omega) hd hc hs hF rfl
  exact Done.step stp (K T' ⟨⟨L, X', N'⟩, e', b, hZ, hx, ho, hlk, hc, hs⟩)
theorem Fw.toFr {bd : Nat} {L : List Loc} (N : Fw [] bd L) : Fr bd L := fun y hy => (N y hy).resolve_left (by simp)
theorem Fw.ofFr {ws : List Addr} {bd : Nat} {L : List Loc} (N : Fr bd L) : Fw ws bd L := fun y hy => Or.inr (N y hy)
theorem n32 {N : Nat} (h : N < 2147483648) : ¬ Int32.ofNat N < 0 ∧ (Int32.ofNat N).toNatClampNeg = N := by
  have e : (Int32.ofNat N).toInt = (N : Int) := Int32.toInt_ofNat_of_lt (by omega)
  refine ⟨?_, by rw [Int32.toNatClampNeg, e]; omega⟩
  rw [Int32.lt_iff_toInt_lt, e, show (0 : Int32).toInt = 0 from rfl]; omega
theorem Ar.toArv {a : Addr} {ty : FieldType} {N : Nat} {f : Nat → Value} (A : Ar Z h a ty N f) (dv : Value) (hf : ∀ i, fits ty (f i) = true) (hd : fits ty dv = true) : ∃ kA, Arv Z h a kA ty (Int32.ofNat N) ((List.range N).map f) dv := by
  obtain ⟨cl, Ar, S, hN, H⟩ := A
  have g : ∀ i, i < N → ((List.range N).map f).getD i dv = f i := fun i hi => by simp [List.getD_eq_getElem?_getD, hi]
  refine ⟨cl.cls, cl, Ar, rfl, by rw [(n32 hN).2, S], (n32 hN).1, fun i hi => ?_, fun i hi => ?_⟩
  · rw [g i (by omega)]; exact H i (by omega)
  · rw [g i (by omega)]; exact hf i
theorem Ar.ofArv {a : Addr} {ty : FieldType} {kA : ClassId} {N : Nat} {vs : List Value} {dv : Value} (hN : N < 2147483648) (A : Arv Z h a kA ty (Int32.ofNat N) vs dv) : Ar Z h a ty N (fun i => vs.getD i dv) := by
  obtain ⟨cl, Ar, -, S, -, H, -⟩ := A
  rw [(n32 hN).2] at S
  exact ⟨cl, Ar, S, hN, fun i hi => H i (by omega)⟩
/-- a copy of an array of doubles -/
theorem wClone {N cap index W : Nat} {f : Nat → UInt64} {a : Addr} (P : Pos p l e R s m args below meth c Z own ws bd T h k n) (A : Ar Z h a .double N (fun i => .double (f i))) (E : Exa Z h a "[D")
    (w1 : (Cond.methodLink own index ⟨"[D", "clone", "()Ljava/lang/Object;"⟩).before a0 Z = true) (w2 : (Cond.sameMethod "[D" "java/lang/Object" "clone" "()Ljava/lang/Object;").before a0 Z = true) (w3 : (Cond.native ⟨"java/lang/Object", "clone", "()Ljava/lang/Object;"⟩).before a0 Z = true)
    (w4 : (Cond.instanceMethod ⟨"java/lang/Object", "clone", "()Ljava/lang/Object;"⟩).before a0 Z = true) (w5 : (Cond.selects "[D" ⟨"[D", "clone", "()Ljava/lang/Object;"⟩ ⟨"java/lang/Object", "clone", "()Ljava/lang/Object;"⟩).before a0 Z = true) (w6 : (Cond.castable "[D" "java/lang/Cloneable").before a0 Z = true)
    (hml : Ls.size = c.maxLocals) (hd : decode c.code pc = .ok (.invokevirtual index, 3)) (hp : pc + 3 = pc') (hf : 1 ≤ R.frames) (hW : (st.map fun v => v.category).sum ≤ W) (hl : W + 14 ≤ R.locals) (hcap : N ≤ cap) (hc : k + 1 ≤ R.cells) (hsl : n + cap ≤ R.slots) {k' n' : Nat} (hk' : k + 1 = k') (hn' : n + cap = n')
    (K : ∀ T' h' b, b = h.size → h.size < h'.size → Pos p l e R s m args below meth c Z own ws bd T' h' k' n' → Ext h h' → Ar Z h' b .double N (fun i => .double (f i)) → Exa Z h' b "[D" → Done p l e R s m args below meth c Z own ws bd Q T' (mkF m pc' Ls (.ref b :: st))) : Done p l e R s m args below meth c Z own ws bd Q T (mkF m pc Ls (.ref a :: st)) := by
  obtain ⟨⟨L, X, N'⟩, eT, b, hZ, hx, ho, hlk, _, _⟩ := id P
  obtain ⟨cl, Ar, S, hN, H⟩ := A
  have FC : FitC Z cl := fitC_of Ar fun i hi v hv => by rw [H i (by omega)] at hv; cases hv; rfl
  obtain ⟨T', h', X', e', ex, A', E', stp⟩ := cloneA X hx hZ ho w1 w2 w3 w4 w5 w6 eT Ar E FC (g := mkF m pc Ls (.ref a :: st)) rfl hml rfl hd hf (W := W) (by show 2 * 0 + _ ≤ _; omega) hl (cap := cap) (by omega) hc hsl
  subst hp hk' hn'
  exact Done.step stp (K T' h' h.size rfl A'.lt ⟨⟨L, X', N'⟩, e', Nat.le_trans b ex.1, hZ, hx, ho, hlk, hc, hsl⟩ ex ⟨_, A', S, hN, H⟩ E')
/-- System.arraycopy of the first places of an array of doubles into a fresh one -/
theorem wCopyD {N M K0 index W : Nat} {f g : Nat → UInt64} {a b : Addr} {nn : Int32} (P : Pos p l e R s m args below meth c Z own [] bd T h k n) (A : Ar Z h a .double N (fun i => .double (f i))) (B : Ar Z h b .double M (fun i => .double (g i))) (hnn : nn.toInt = (K0 : Int)) (h1 : K0 ≤ N) (h2 : K0 ≤ M) (ge : bd ≤ b)
    (w1 : (Cond.methodLink own index Jvm.Stand.acN).before a0 Z = true) (w2 : (Cond.native Jvm.Stand.acN).before a0 Z = true) (w3 : (Cond.static Jvm.Stand.acN).before a0 Z = true) (w4 : (Cond.initialized "java/lang/System").before a0 Z = true)
    (hml : Ls.size = c.maxLocals) (hd : decode c.code pc = .ok (.invokestatic index, 3)) (hp : pc + 3 = pc') (hf : 1 ≤ R.frames) (hW : (st.map fun v => v.category).sum ≤ W) (hlo : W + (nativeFrameWords "java/lang/System" "arraycopy" 5 + 11) ≤ R.locals)
    (K : ∀ T' h', Pos p l e R s m args below meth c Z own [] bd T' h' k n → Keep h h' [b] → Ar Z h' b .double M (fun i => .double (if i < K0 then f i else g i)) → Done p l e R s m args below meth c Z own [] bd Q T' (mkF m pc' Ls st)) :
    Done p l e R s m args below meth c Z own [] bd Q T (mkF m pc Ls (.int nn :: .int 0 :: .ref b :: .int 0 :: .ref a :: st)) := by
  obtain ⟨⟨L, X, N'⟩, eT, hb', hZ, hx, ho, r⟩ := id P
  have hN := A.len
  have hM := B.len
  obtain ⟨kA, VA⟩ := A.toArv (.double 0) (fun _ => rfl) rfl
  obtain ⟨kB, VB⟩ := B.toArv (.double 0) (fun _ => rfl) rfl
  have z0 : ¬ (0 : Int32) < 0 := by decide
  have z1 : (0 : Int32).toNatClampNeg = 0 := by decide
  have q0 : ¬ nn < 0 := by rw [Int32.lt_iff_toInt_lt, hnn, show (0 : Int32).toInt = 0 from rfl]; omega
  have q1 : nn.toNatClampNeg = K0 := by rw [Int32.toNatClampNeg, hnn]; omega
  obtain ⟨T', h', L', X', e', F', Kp, V', stp⟩ := cpA X hx hZ ho w1 w2 w3 w4 eT VA VB (Or.inl ⟨rfl, rfl⟩) z0 z0 q0 (by rw [z1, q1, (n32 hN).2]; omega) (by rw [z1, q1, (n32 hM).2]; omega) rfl (by rw [z1, q1]; simp; omega) (n0 := bd) N'.toFr ge (g := mkF m pc Ls (.int nn :: .int 0 :: .ref b :: .int 0 :: .ref a :: st)) rfl hml rfl hd hf (W := W) (by show 2 * 0 + _ ≤ _; omega) hlo
  subst hp
  refine Done.step stp (K T' h' ⟨⟨L', X', Fw.ofFr F'⟩, e', Nat.le_trans hb' Kp.1, hZ, hx, ho, r⟩ Kp ((Ar.ofArv hM V').congr fun i hi => ?_))
  rw [z1, q1]
  by_cases q : i < K0
  · rw [if_pos q]
    simp [List.getD_eq_getElem?_getD, List.getElem?_append, q]
    rw [List.getElem?_range (by omega)]
    rfl
  · rw [if_neg q]
    simp [List.getD_eq_getElem?_getD, List.getElem?_append, q]
    have e2 : K0 + (i - K0) = i := by omega
    simp [e2, hi]
/-! constants and references -/
theorem pLdcI {index : Nat} {v : Int32} {t : State} (P : Pos p l e R s m args below meth c Z own ws bd T h k n) (w : (Cond.constant own index v).before a0 Z = true) (hd : decode c.code pc = .ok (.ldc index, 2)) (hp : pc + 2 = pc') (kk : Steps p.tables e below (T.setTop (mkF m pc' Ls (.int v :: st))) t) : Steps p.tables e below (T.setTop (mkF m pc Ls st)) t := by
  obtain ⟨⟨L, X, N'⟩, eT, b, hZ, hx, ho, hlk, _, _⟩ := id P
  subst hp
  exact X.ldcI hx ho (mvT hZ w) (g := mkF m pc Ls st) rfl hd kk
theorem pLdcIw {index : Nat} {v : Int32} {t : State} (P : Pos p l e R s m args below meth c Z own ws bd T h k n) (w : (Cond.constant own index v).before a0 Z = true) (hd : decode c.code pc = .ok (.ldc_w index, 3)) (hp : pc + 3 = pc') (kk : Steps p.tables e below (T.setTop (mkF m pc' Ls (.int v :: st))) t) : Steps p.tables e below (T.setTop (mkF m pc Ls st)) t := by
  obtain ⟨⟨L, X, N'⟩, eT, b, hZ, hx, ho, hlk, _, _⟩ := id P
  subst hp
  exact X.ldcWI hx ho (mvT hZ w) (g := mkF m pc Ls st) rfl hd kk
theorem pLdcJ {index : Nat} {v : Int64} {t : State} (P : Pos p l e R s m args below meth c Z own ws bd T h k n) (w : (Cond.constantLong own index v).before a0 Z = true) (hd : decode c.code pc = .ok (.ldc2_w index, 3)) (hp : pc + 3 = pc') (kk : Steps p.tables e below (T.setTop (mkF m pc' Ls (.long v :: st))) t) : Steps p.tables e below (T.setTop (mkF m pc Ls st)) t := by
  obtain ⟨⟨L, X, N'⟩, eT, b, hZ, hx, ho, hlk, _, _⟩ := id P
  subst hp
  exact X.ldc2J hx ho (mvT hZ w) (g := mkF m pc Ls st) rfl hd kk
theorem pLdcD {index : Nat} {v : UInt64} {t : State} (P : Pos p l e R s m args below meth c Z own ws bd T h k n) (w : (Cond.constantDouble own index v).before a0 Z = true) (hd : decode c.code pc = .ok (.ldc2_w index, 3)) (hp : pc + 3 = pc') (kk : Steps p.tables e below (T.setTop (mkF m pc' Ls (.double v :: st))) t) : Steps p.tables e below (T.setTop (mkF m pc Ls st)) t := by
  obtain ⟨⟨L, X, N'⟩, eT, b, hZ, hx, ho, hlk, _, _⟩ := id P
  subst hp
  exact X.ldc2DoubleC hx ho (mvT hZ w) (g := mkF m pc Ls st) rfl hd t kk
theorem pAcmp {cd : ACond} {x y : Value} {rest stk : List Value} {o : Int} {pc0 : Nat} {same : Bool} {t : State} (P : Pos p l e R s m args below meth c Z own ws bd T h k n) (h1 : x.isRef = true) (h2 : y.isRef = true) (hpc : pc = pc0) (hd : decode c.code pc = .ok (.if_acmp cd o, 3)) (hs : stk = y :: x :: rest) (hq : decide (x = y) = same) (ho : 0 ≤ (pc0 : Int) + o)
    (hp : pc' = if acV cd same = true then ((pc0 : Int) + o).toNat else pc0 + 3) (kk : Steps p.tables e below (T.setTop (mkF m pc' Ls rest)) t) : Steps p.tables e below (T.setTop (mkF m pc Ls stk)) t := by
  obtain ⟨⟨L, X, N'⟩, eT, b, hZ, hx, ho', hlk, _, _⟩ := id P
  exact Jvm.RoadKit.acmp (g := mkF m pc Ls stk) X hx rfl h1 h2 (pc0 := pc0) (pc' := pc') (same := same) hpc hd hs hq ho hp kk
end A
/-! conditions of branches -/
theorem iiW_lt_t {x y : Int32} (h : x < y) : if_icmp.holds .lt x y = true := (tlt h).1
theorem iiW_lt_f {x y : Int32} (h : ¬ (x < y)) : if_icmp.holds .lt x y = false := (flt h).1
theorem iiW_ge_t {x y : Int32} (h : ¬ (x < y)) : if_icmp.holds .ge x y = true := (flt h).2.1
theorem iiW_ge_f {x y : Int32} (h : ¬ ¬ (x < y)) : if_icmp.holds .ge x y = false := (tlt (Decidable.not_not.mp h)).2.1
theorem iiW_gt_t {x y : Int32} (h : y < x) : if_icmp.holds .gt x y = true := (tlt h).2.2.1
theorem iiW_gt_f {x y : Int32} (h : ¬ (y < x)) : if_icmp.holds .gt x y = false := (flt h).2.2.1
theorem iiW_le_t {x y : Int32} (h : ¬ (y < x)) : if_icmp.holds .le x y = true := (flt h).2.2.2
theorem iiW_le_f {x y : Int32} (h : ¬ ¬ (y < x)) : if_icmp.holds .le x y = false := (tlt (Decidable.not_not.mp h)).2.2.2
theorem iiW_eq_t {x y : Int32} (h : x = y) : if_icmp.holds .eq x y = true := (teq h).1
theorem iiW_eq_f {x y : Int32} (h : ¬ (x = y)) : if_icmp.holds .eq x y = false := (feq h).1
theorem iiW_ne_t {x y : Int32} (h : ¬ (x = y)) : if_icmp.holds .ne x y = true := (feq h).2
theorem iiW_ne_f {x y : Int32} (h : ¬ ¬ (x = y)) : if_icmp.holds .ne x y = false := (teq (Decidable.not_not.mp h)).2
theorem i0W_lt_t {x : Int32} (h : x < (0 : Int32)) : ifCond.holds .lt x = true := (if0 _ _).trans (iiW_lt_t h)
theorem i0W_lt_f {x : Int32} (h : ¬ (x < (0 : Int32))) : ifCond.holds .lt x = false := (if0 _ _).trans (iiW_lt_f h)
theorem i0W_ge_t {x : Int32} (h : ¬ (x < (0 : Int32))) : ifCond.holds .ge x = true := (if0 _ _).trans (iiW_ge_t h)
theorem i0W_ge_f {x : Int32} (h : ¬ ¬ (x < (0 : Int32))) : ifCond.holds .ge x = false := (if0 _ _).trans (iiW_ge_f h)
theorem i0W_gt_t {x : Int32} (h : (0 : Int32) < x) : ifCond.holds .gt x = true := (if0 _ _).trans (iiW_gt_t h)
theorem i0W_gt_f {x : Int32} (h : ¬ ((0 : Int32) < x)) : ifCond.holds .gt x = false := (if0 _ _).trans (iiW_gt_f h)
theorem i0W_le_t {x : Int32} (h : ¬ ((0 : Int32) < x)) : ifCond.holds .le x = true := (if0 _ _).trans (iiW_le_t h)
theorem i0W_le_f {x : Int32} (h : ¬ ¬ ((0 : Int32) < x)) : ifCond.holds .le x = false := (if0 _ _).trans (iiW_le_f h)
theorem i0W_eq_t {x : Int32} (h : x = (0 : Int32)) : ifCond.holds .eq x = true := (if0 _ _).trans (iiW_eq_t h)
theorem i0W_eq_f {x : Int32} (h : ¬ (x = (0 : Int32))) : ifCond.holds .eq x = false := (if0 _ _).trans (iiW_eq_f h)
theorem i0W_ne_t {x : Int32} (h : ¬ (x = (0 : Int32))) : ifCond.holds .ne x = true := (if0 _ _).trans (iiW_ne_t h)
theorem i0W_ne_f {x : Int32} (h : ¬ ¬ (x = (0 : Int32))) : ifCond.holds .ne x = false := (if0 _ _).trans (iiW_ne_f h)
theorem lcW_lt_t {x y : Int64} (h : x < y) : ifCond.holds .lt (lcmpW x y) = true := i0W_lt_t ((lw_lt x y).mpr h)
theorem lcW_lt_f {x y : Int64} (h : ¬ (x < y)) : ifCond.holds .lt (lcmpW x y) = false := i0W_lt_f fun q => h ((lw_lt x y).mp q)
theorem lcW_ge_t {x y : Int64} (h : ¬ (x < y)) : ifCond.holds .ge (lcmpW x y) = true := i0W_ge_t fun q => h ((lw_lt x y).mp q)
theorem lcW_ge_f {x y : Int64} (h : ¬ ¬ (x < y)) : ifCond.holds .ge (lcmpW x y) = false := i0W_ge_f fun q => h fun z => q ((lw_lt x y).mpr z)
theorem lcW_gt_t {x y : Int64} (h : y < x) : ifCond.holds .gt (lcmpW x y) = true := i0W_gt_t ((lw_gt x y).mpr h)
theorem lcW_gt_f {x y : Int64} (h : ¬ (y < x)) : ifCond.holds .gt (lcmpW x y) = false := i0W_gt_f fun q => h ((lw_gt x y).mp q)
theorem lcW_le_t {x y : Int64} (h : ¬ (y < x)) : ifCond.holds .le (lcmpW x y) = true := i0W_le_t fun q => h ((lw_gt x y).mp q)
theorem lcW_le_f {x y : Int64} (h : ¬ ¬ (y < x)) : ifCond.holds .le (lcmpW x y) = false := i0W_le_f fun q => h fun z => q ((lw_gt x y).mpr z)
theorem lcW_eq_t {x y : Int64} (h : x = y) : ifCond.holds .eq (lcmpW x y) = true := i0W_eq_t ((lw_eq x y).mpr h)
theorem lcW_eq_f {x y : Int64} (h : ¬ (x = y)) : ifCond.holds .eq (lcmpW x y) = false := i0W_eq_f fun q => h ((lw_eq x y).mp q)
theorem lcW_ne_t {x y : Int64} (h : ¬ (x = y)) : ifCond.holds .ne (lcmpW x y) = true := i0W_ne_t fun q => h ((lw_eq x y).mp q)
theorem lcW_ne_f {x y : Int64} (h : ¬ ¬ (x = y)) : ifCond.holds .ne (lcmpW x y) = false := i0W_ne_f fun q => h fun z => q ((lw_eq x y).mpr z)
/-- how two whole numbers compare, as dcmp pushes it -/
def cmpZ (i j : Int) : Int32 := if i < j then -1 else if i = j then 0 else 1
theorem cmpZ_lt (i j : Int) : cmpZ i j < (0 : Int32) ↔ i < j := by
  unfold cmpZ
  by_cases h1 : i < j
  · rw [if_pos h1]; exact ⟨fun _ => h1, fun _ => by decide⟩
  · rw [if_neg h1]
    by_cases h2 : i = j
    · rw [if_pos h2]; exact ⟨fun q => absurd q (by decide), fun q => absurd q h1⟩
    · rw [if_neg h2]; exact ⟨fun q => absurd q (by decide), fun q => absurd q h1⟩
theorem cmpZ_gt (i j : Int) : (0 : Int32) < cmpZ i j ↔ j < i := by
  unfold cmpZ
  by_cases h1 : i < j
  · rw [if_pos h1]; exact ⟨fun q => absurd q (by decide), fun q => by omega⟩
  · rw [if_neg h1]
    by_cases h2 : i = j
    · rw [if_pos h2]; exact ⟨fun q => absurd q (by decide), fun q => by omega⟩
    · rw [if_neg h2]; exact ⟨fun _ => by omega, fun _ => by decide⟩
theorem cmpZ_eq (i j : Int) : cmpZ i j = (0 : Int32) ↔ i = j := by
  unfold cmpZ
  by_cases h1 : i < j
  · rw [if_pos h1]; exact ⟨fun q => absurd q (by decide), fun q => by omega⟩
  · rw [if_neg h1]
    by_cases h2 : i = j
    · rw [if_pos h2]; exact ⟨fun _ => h2, fun _ => rfl⟩
    · rw [if_neg h2]; exact ⟨fun q => absurd q (by decide), fun q => absurd q h2⟩
theorem ciW_lt_t {x y : Int} (h : x < y) : ifCond.holds .lt (cmpZ x y) = true := i0W_lt_t ((cmpZ_lt x y).mpr h)
theorem ciW_lt_f {x y : Int} (h : ¬ (x < y)) : ifCond.holds .lt (cmpZ x y) = false := i0W_lt_f fun q => h ((cmpZ_lt x y).mp q)
theorem ciW_ge_t {x y : Int} (h : ¬ (x < y)) : ifCond.holds .ge (cmpZ x y) = true := i0W_ge_t fun q => h ((cmpZ_lt x y).mp q)
theorem ciW_ge_f {x y : Int} (h : ¬ ¬ (x < y)) : ifCond.holds .ge (cmpZ x y) = false := i0W_ge_f fun q => h fun z => q ((cmpZ_lt x y).mpr z)
theorem ciW_gt_t {x y : Int} (h : y < x) : ifCond.holds .gt (cmpZ x y) = true := i0W_gt_t ((cmpZ_gt x y).mpr h)
theorem ciW_gt_f {x y : Int} (h : ¬ (y < x)) : ifCond.holds .gt (cmpZ x y) = false := i0W_gt_f fun q => h ((cmpZ_gt x y).mp q)
theorem ciW_le_t {x y : Int} (h : ¬ (y < x)) : ifCond.holds .le (cmpZ x y) = true := i0W_le_t fun q => h ((cmpZ_gt x y).mp q)
theorem ciW_le_f {x y : Int} (h : ¬ ¬ (y < x)) : ifCond.holds .le (cmpZ x y) = false := i0W_le_f fun q => h fun z => q ((cmpZ_gt x y).mpr z)
theorem ciW_eq_t {x y : Int} (h : x = y) : ifCond.holds .eq (cmpZ x y) = true := i0W_eq_t ((cmpZ_eq x y).mpr h)
theorem ciW_eq_f {x y : Int} (h : ¬ (x = y)) : ifCond.holds .eq (cmpZ x y) = false := i0W_eq_f fun q => h ((cmpZ_eq x y).mp q)
theorem ciW_ne_t {x y : Int} (h : ¬ (x = y)) : ifCond.holds .ne (cmpZ x y) = true := i0W_ne_t fun q => h ((cmpZ_eq x y).mp q)
theorem ciW_ne_f {x y : Int} (h : ¬ ¬ (x = y)) : ifCond.holds .ne (cmpZ x y) = false := i0W_ne_f fun q => h fun z => q ((cmpZ_eq x y).mpr z)
section B
variable {C : Prop} [Decidable C]
theorem b01or (C : Prop) [Decidable C] : (if C then (1 : Int32) else (0 : Int32)) = 0 ∨ (if C then (1 : Int32) else (0 : Int32)) = 1 := by split <;> simp
theorem b01_eq_t (h : ¬ (C)) : ifCond.holds .eq (if C then (1 : Int32) else (0 : Int32)) = true := by rw [if_neg h]; rfl
theorem b01_eq_f (h : ¬ ¬ (C)) : ifCond.holds .eq (if C then (1 : Int32) else (0 : Int32)) = false := by rw [if_pos (Decidable.not_not.mp h)]; rfl
theorem b01_ne_t (h : C) : ifCond.holds .ne (if C then (1 : Int32) else (0 : Int32)) = true := by rw [if_pos h]; rfl
theorem b01_ne_f (h : ¬ (C)) : ifCond.holds .ne (if C then (1 : Int32) else (0 : Int32)) = false := by rw [if_neg h]; rfl
end B
theorem narrow_01 {x : Int32} (h : x = 0 ∨ x = 1) : narrow .boolean (.int x) = .int x := by rcases h with rfl | rfl <;> rfl
theorem fits_01 {x : Int32} (h : x = 0 ∨ x = 1) : fits .boolean (.int x) = true := by rcases h with rfl | rfl <;> rfl
theorem cat1 {v : Value} (h : v.isRef = true) : v.category = 1 := by cases v <;> first | rfl | (simp [Value.isRef] at h)
theorem narrow_refT {v : Value} {t : FieldType} (h : v.isRef = true) : narrow t v = v := by cases v <;> first | (simp [Value.isRef] at h; done) | (cases t <;> rfl)
theorem fits_refT {v : Value} {t : FieldType} (h : v.isRef = true) (ht : t.isReference = true) : fits t v = true := by cases v <;> first | (simp [Value.isRef] at h; done) | (cases t <;> first | rfl | (simp [FieldType.isReference] at ht; done))
theorem nab_mul {i j : Int} {A B : Nat} (h1 : i.natAbs ≤ A) (h2 : j.natAbs ≤ B) : (i * j).natAbs ≤ A * B := by rw [Int.natAbs_mul]; exact Nat.mul_le_mul h1 h2
theorem nab_add {i j : Int} {A B : Nat} (h1 : i.natAbs ≤ A) (h2 : j.natAbs ≤ B) : (i + j).natAbs ≤ A + B := by omega
theorem nab_sub {i j : Int} {A B : Nat} (h1 : i.natAbs ≤ A) (h2 : j.natAbs ≤ B) : (i - j).natAbs ≤ A + B := by omega
/-! whole numbers as doubles -/
section C
open Jvm.FP Jvm.FP.Core Jvm.Free.Fl
theorem dint_c0 : DInt 0 FP.dconst0 := by
  have h := i2d_int 0
  rwa [show Core.i2d 0 = FP.dconst0 from by decide +kernel] at h
theorem dint_c1 : DInt 1 FP.dconst1 := by
  have h := i2d_int 1
  rwa [show Core.i2d 1 = FP.dconst1 from by decide +kernel] at h
theorem dint_ite {C : Prop} [Decidable C] {i j : Int} {a b : UInt64} (h1 : C → DInt i a) (h0 : ¬ C → DInt j b) : DInt (if C then i else j) (if C then a else b) := by
  by_cases h : C
  · rw [if_pos h, if_pos h]; exact h1 h
  · rw [if_neg h, if_neg h]; exact h0 h
theorem nnD {i : Int} {a : UInt64} (h : DInt i a) : NoNaN64 a := val64_no.mpr (DInt_ne_nan h)
theorem dcmpZ {i j : Int} {a b : UInt64} (ha : DInt i a) (hb : DInt j b) {o : CmpOp} : cmpValue (FP.dcmp a b) o = cmpZ i j := by
  rw [show FP.dcmp a b = some (compare i j) from dcmp_int ha hb, compare_ite]
  unfold cmpZ
  split
  · rfl
  · split <;> rfl
end C
end Jvm.OwnW
namespace Jvm.Pilot.@@N@@
open Jvm Jvm.ClassFile Sem Op Lib Jvm.Free Jvm.Stand Jvm.LawKit Jvm.RoadKit Jvm.OwnW Bundle Jvm.Pilot.@@N@@.Jvm.D
open Jvm.FP.Core (DInt i2d_int l2d_int dadd_int dsub_int dmul_int dneg_int zval b64 val64 dcmp_zval compare_ite i2d_ne_zero DInt_ne_nan dcmp_int dcmp_l2d)

def own_up : Nat → (Nat → Int) → (Nat → Int32) → Nat → Int → Int32 → (Nat → Int) × (Nat → Int32)
  | 0, K, J, ip, k, i => (oupd K ip k, oupd J ip i)
  | r + 1, K, J, ip, k, i => if ip = 0 then (oupd K ip k, oupd J ip i) else if K ((ip - 1) / 2) < k then own_up r (oupd K ip (K ((ip - 1) / 2))) (oupd J ip (J ((ip - 1) / 2))) ((ip - 1) / 2) k i else (oupd K ip k, oupd J ip i)
def own_d (n : Nat) (K : Nat → Int) (ip : Nat) : Nat := if 2 * ip + 2 < n ∧ K (2 * ip + 1) < K (2 * ip + 2) then 2 * ip + 2 else 2 * ip + 1
def own_dn : Nat → Nat → (Nat → Int) → (Nat → Int32) → Nat → Int → Int32 → (Nat → Int) × (Nat → Int32)
  | 0, _, K, J, ip, k, i => (oupd K ip k, oupd J ip i)
  | r + 1, n, K, J, ip, k, i => if 2 * ip + 1 < n then (if k < K (own_d n K ip) then own_dn r n (oupd K ip (K (own_d n K ip))) (oupd J ip (J (own_d n K ip))) (own_d n K ip) k i else (oupd K ip k, oupd J ip i)) else (oupd K ip k, oupd J ip i)
def own_of (n : Nat) (c : Bool) (K : Nat → Int) (J : Nat → Int32) (k : Int) (i : Int32) : (Nat → Int) × (Nat → Int32) := if c then own_up n K J n k i else if k < K 0 then own_dn n n K J 0 k i else (K, J)
theorem own_dupd {N ip : Nat} {K : Nat → Int} {kf : Nat → UInt64} {x : Int} {y : UInt64} (h : ∀ i, i < N → DInt (K i) (kf i)) (q : DInt x y) (i : Nat) (hi : i < N) : DInt (oupd K ip x i) (oupd kf ip y i) := by
  by_cases z : i = ip
  · subst z; rw [oupd_same, oupd_same]; exact q
  · rw [oupd_ne z, oupd_ne z]; exact h i hi
theorem own_z {N : Nat} (h : N < 2147483648) : (Int32.ofNat N).toInt = (N : Int) := Int32.toInt_ofNat_of_lt (by omega)
theorem own_p0 {pv : Int32} {ip : Nat} (h : pv.toInt = (ip : Int)) (q : ¬ ((0 : Int32) < pv)) : ip = 0 := by
  rw [Int32.lt_iff_toInt_lt, h, show (0 : Int32).toInt = 0 from rfl] at q; omega
theorem own_p1 {pv : Int32} {ip : Nat} (h : pv.toInt = (ip : Int)) (q : ¬ ¬ ((0 : Int32) < pv)) : 0 < ip := by
  have q := Decidable.not_not.mp q
  rw [Int32.lt_iff_toInt_lt, h, show (0 : Int32).toInt = 0 from rfl] at q; omega
theorem own_par {pv : Int32} {ip : Nat} (h : pv.toInt = (ip : Int)) (hp : 0 < ip) : ((pv - (1 : Int32)) / (2 : Int32)).toInt = (((ip - 1) / 2 : Nat) : Int) := by
  have h1 := c_isub pv 1
  have h2 := rng32 (pv - 1)
  have h3 := rng32 pv
  have e1 : (1 : Int32).toInt = 1 := by decide
  have h4 := (c_idiv (pv - 1) 2 2 (by decide) (by decide)).1
  omega
theorem own_ch {hv : Int32} {ip : Nat} (h : hv.toInt = (ip : Int)) (hp : ip < 1000) : (((2 : Int32) * hv) + (1 : Int32)).toInt = ((2 * ip + 1 : Nat) : Int) := by
  have e1 : (1 : Int32).toInt = 1 := by decide
  have e2 : (2 : Int32).toInt = 2 := by decide
  have h1 := c_imul 2 hv
  have h2 := rng32 (2 * hv)
  have h3 := c_iadd (2 * hv) 1
  have h4 := rng32 (2 * hv + 1)
  rw [e2] at h1
  omega
theorem own_in {cv : Int32} {ip : Nat} (h : cv.toInt = (ip : Int)) (hp : ip < 1000) : (cv + (1 : Int32)).toInt = ((ip + 1 : Nat) : Int) := by
  have e1 : (1 : Int32).toInt = 1 := by decide
  have h3 := c_iadd cv 1
  have h4 := rng32 (cv + 1)
  omega
theorem own_lt' {x y : Int32} {i j : Nat} (hx : x.toInt = (i : Int)) (hy : y.toInt = (j : Int)) : x < y ↔ i < j := by
  rw [Int32.lt_iff_toInt_lt, hx, hy]; omega

theorem own_d_or (n : Nat) (K : Nat → Int) (ip : Nat) : own_d n K ip = 2 * ip + 1 ∨ own_d n K ip = 2 * ip + 2 := by unfold own_d; split <;> simp

def own_st (n : Nat) (K : Nat → Int) (J : Nat → Int32) : Nat → (Nat → Int) × (Nat → Int32)
  | 0 => (K, J)
  | j + 1 => own_dn (n - 1 - j) (n - 1 - j) (own_st n K J j).1 (own_st n K J j).2 0 ((own_st n K J j).1 (n - 1 - j)) ((own_st n K J j).2 (n - 1 - j))
theorem own_dec {x : Int32} {n : Nat} (h : x.toInt = ((n + 1 : Nat) : Int)) : (x - (1 : Int32)).toInt = (n : Int) := by
  have h1 := c_isub x 1
  have h2 := rng32 (x - 1)
  have h3 := rng32 x
  have e : (1 : Int32).toInt = 1 := by decide
  omega
theorem own_dm {x : Int32} {r : Nat} (h : x.toInt = (r : Int)) (hr : r < 1000) : (x + (-1 : Int32)).toInt = (r : Int) - 1 := by
  have h1 := c_iadd x (-1)
  have h2 := rng32 (x + (-1))
  have e : (-1 : Int32).toInt = -1 := by decide
  omega
theorem own_upto {n r : Nat} {F g : Nat → Int32} {x : Int32} (h : ∀ d, r + 1 ≤ d → d < n → g d = F d) (hx : x = F r) (d : Nat) (h1 : r ≤ d) (h2 : d < n) : oupd g r x d = F d := by
  by_cases q : d = r
  · subst q; rw [oupd_same]; exact hx
  · rw [oupd_ne q]; exact h d (by omega) h2

theorem own_dm' {x : Int32} {n : Nat} (h : x.toInt = (n : Int)) : (x - (1 : Int32)).toInt = (n : Int) - 1 := by
  have h1 := c_isub x 1
  have h2 := rng32 (x - 1)
  have h3 := rng32 x
  have e : (1 : Int32).toInt = 1 := by decide
  omega

theorem own_cv (p : Int32) : 0 ≤ (if p &&& (8 : Int32) = (0 : Int32) then (p &&& (7 : Int32)) else ((p.toUInt32 >>> ((1 : Int32) &&& 31).toUInt32).toInt32)).toInt := by
  split
  · exact (c_and p 7 (by decide)).1
  · rw [c_iushr p 1 1 (by decide) (by decide)]
    omega

theorem own_nv (cv p : Int32) : (if cv = (0 : Int32) then (0 : Int32) else ((p &&& (2147483647 : Int32)) - ((p &&& (2147483647 : Int32)) / (5 : Int32)) * (5 : Int32))) = 0 ∨ (¬ (cv = 0) ∧ ((if cv = (0 : Int32) then (0 : Int32) else ((p &&& (2147483647 : Int32)) - ((p &&& (2147483647 : Int32)) / (5 : Int32)) * (5 : Int32))) = 1 ∨ (if cv = (0 : Int32) then (0 : Int32) else ((p &&& (2147483647 : Int32)) - ((p &&& (2147483647 : Int32)) / (5 : Int32)) * (5 : Int32))) = 2 ∨ (if cv = (0 : Int32) then (0 : Int32) else ((p &&& (2147483647 : Int32)) - ((p &&& (2147483647 : Int32)) / (5 : Int32)) * (5 : Int32))) = 3 ∨ (if cv = (0 : Int32) then (0 : Int32) else ((p &&& (2147483647 : Int32)) - ((p &&& (2147483647 : Int32)) / (5 : Int32)) * (5 : Int32))) = 4)) := by
  by_cases h : cv = 0
  · exact Or.inl (if_pos h)
  · rw [if_neg h, irem_eq_mod]
    have h1 := c_and p 2147483647 (by decide)
    have h2 := (c_irem (p &&& 2147483647) 5 5 (by decide)).1 h1.1
    have q : ∀ n : Int32, ((p &&& 2147483647) % 5).toInt = n.toInt → (p &&& 2147483647) % 5 = n := fun n h => Int32.toInt_inj.mp h
    generalize ((p &&& 2147483647) % 5) = w at *
    have h3 : w.toInt = 0 ∨ w.toInt = 1 ∨ w.toInt = 2 ∨ w.toInt = 3 ∨ w.toInt = 4 := by omega
    rcases h3 with h3 | h3 | h3 | h3 | h3
    · exact Or.inl (q 0 h3)
    · exact Or.inr ⟨h, Or.inl (q 1 h3)⟩
    · exact Or.inr ⟨h, Or.inr (Or.inl (q 2 h3))⟩
    · exact Or.inr ⟨h, Or.inr (Or.inr (Or.inl (q 3 h3)))⟩
    · exact Or.inr ⟨h, Or.inr (Or.inr (Or.inr (q 4 h3)))⟩
theorem own_cc {cv : Int32} (h : 0 ≤ cv.toInt) : cv = 0 ∨ cv = 1 ∨ cv = 2 ∨ cv = 3 ∨ cv = 4 ∨ 5 ≤ cv.toInt := by
  have q : ∀ n : Int32, cv.toInt = n.toInt → cv = n := fun n h => Int32.toInt_inj.mp h
  have h3 : cv.toInt = 0 ∨ cv.toInt = 1 ∨ cv.toInt = 2 ∨ cv.toInt = 3 ∨ cv.toInt = 4 ∨ 5 ≤ cv.toInt := by omega
  rcases h3 with h3 | h3 | h3 | h3 | h3 | h3
  · exact Or.inl (q 0 h3)
  · exact Or.inr (Or.inl (q 1 h3))
  · exact Or.inr (Or.inr (Or.inl (q 2 h3)))
  · exact Or.inr (Or.inr (Or.inr (Or.inl (q 3 h3))))
  · exact Or.inr (Or.inr (Or.inr (Or.inr (Or.inl (q 4 h3)))))
  · exact Or.inr (Or.inr (Or.inr (Or.inr (Or.inr h3))))
theorem own_N {cv : Int32} (h : 5 ≤ cv.toInt) : ∃ N : Nat, (if (16 : Int32) < cv then (16 : Int32) else cv).toInt = (N : Int) ∧ N ≤ 16 ∧ 5 ≤ N := by
  have e : (16 : Int32).toInt = 16 := by decide
  by_cases q : (16 : Int32) < cv
  · exact ⟨16, by rw [if_pos q]; rfl, by omega, by omega⟩
  · rw [if_neg q]
    rw [Int32.lt_iff_toInt_lt, e] at q
    exact ⟨cv.toInt.toNat, by omega, by omega, by omega⟩
theorem own_l5 {cv j : Int32} (h : 5 ≤ cv.toInt) (hj : j.toInt < 5) : j < cv := by
  rw [Int32.lt_iff_toInt_lt]; omega
theorem own_m5 {cv n : Int32} (h : 5 ≤ cv.toInt) (hj : n.toInt < 5) : ¬ (cv < n) := by
  rw [Int32.lt_iff_toInt_lt]; omega
theorem own_n5 {cv : Int32} (n : Int32) (h : 5 ≤ cv.toInt) (hn : n.toInt < 5) : ¬ (n = cv) := fun z => by subst z; omega
theorem tw0 {a0 : Array Value} {Z : State} (hw : ∀ d ∈ tables_1, d.before a0 Z = true) : (Jvm.Cond.classLink "com/example/urnwise/urnwise/sampler/SmallestKeysIsFullPinLaw" (8 : Nat) "com/example/urnwise/urnwise/sampler/SmallestKeys").before a0 Z = true := hw _ (List.mem_of_getElem? (i := 0) rfl)
theorem tw1 {a0 : Array Value} {Z : State} (hw : ∀ d ∈ tables_1, d.before a0 Z = true) : (Jvm.Cond.instantiable "com/example/urnwise/urnwise/sampler/SmallestKeys" (4 : Nat)).before a0 Z = true := hw _ (List.mem_of_getElem? (i := 1) rfl)
theorem tw2 {a0 : Array Value} {Z : State} (hw : ∀ d ∈ tables_1, d.before a0 Z = true) : (Jvm.Cond.initialized "com/example/urnwise/urnwise/sampler/SmallestKeys").before a0 Z = true := hw _ (List.mem_of_getElem? (i := 2) rfl)
theorem tw3 {a0 : Array Value} {Z : State} (hw : ∀ d ∈ tables_1, d.before a0 Z = true) : (Jvm.Cond.methodLink "com/example/urnwise/urnwise/sampler/SmallestKeysIsFullPinLaw" (10 : Nat) ({ cls := "com/example/urnwise/urnwise/sampler/SmallestKeys", name := "<init>", desc := "(I)V" } : Jvm.MethodName)).before a0 Z = true := hw _ (List.mem_of_getElem? (i := 3) rfl)
theorem tw4 {a0 : Array Value} {Z : State} (hw : ∀ d ∈ tables_1, d.before a0 Z = true) : (Jvm.Cond.instanceMethod ({ cls := "com/example/urnwise/urnwise/sampler/SmallestKeys", name := "<init>", desc := "(I)V" } : Jvm.MethodName)).before a0 Z = true := hw _ (List.mem_of_getElem? (i := 4) rfl)
theorem tw5 {a0 : Array Value} {Z : State} (hw : ∀ d ∈ tables_1, d.before a0 Z = true) : (Jvm.Cond.code ({ cls := "com/example/urnwise/urnwise/sampler/SmallestKeys", name := "<init>", desc := "(I)V" } : Jvm.MethodName) prog_15_method_1_code (2 : Nat) (Option.none : Option Jvm.ClassFile.FieldType)).before a0 Z = true := hw _ (List.mem_of_getElem? (i := 5) rfl)
theorem tw6 {a0 : Array Value} {Z : State} (hw : ∀ d ∈ tables_1, d.before a0 Z = true) : (Jvm.Cond.methodLink "com/example/urnwise/urnwise/sampler/SmallestKeys" (1 : Nat) ({ cls := "java/lang/Object", name := "<init>", desc := "()V" } : Jvm.MethodName)).before a0 Z = true := hw _ (List.mem_of_getElem? (i := 6) rfl)
theorem tw7 {a0 : Array Value} {Z : State} (hw : ∀ d ∈ tables_1, d.before a0 Z = true) : (Jvm.Cond.instanceMethod ({ cls := "java/lang/Object", name := "<init>", desc := "()V" } : Jvm.MethodName)).before a0 Z = true := hw _ (List.mem_of_getElem? (i := 7) rfl)
theorem tw8 {a0 : Array Value} {Z : State} (hw : ∀ d ∈ tables_1, d.before a0 Z = true) : (Jvm.Cond.code ({ cls := "java/lang/Object", name := "<init>", desc := "()V" } : Jvm.MethodName) object_method_1_code (1 : Nat) (Option.none : Option Jvm.ClassFile.FieldType)).before a0 Z = true := hw _ (List.mem_of_getElem? (i := 8) rfl)
theorem tw9 {a0 : Array Value} {Z : State} (hw : ∀ d ∈ tables_1, d.before a0 Z = true) : (Jvm.Cond.fieldLink "com/example/urnwise/urnwise/sampler/SmallestKeys" (7 : Nat) "com/example/urnwise/urnwise/sampler/SmallestKeys" "capacity" "I").before a0 Z = true := hw _ (List.mem_of_getElem? (i := 9) rfl)
theorem tw10 {a0 : Array Value} {Z : State} (hw : ∀ d ∈ tables_1, d.before a0 Z = true) : (Jvm.Cond.laysFinal "com/example/urnwise/urnwise/sampler/SmallestKeys" "com/example/urnwise/urnwise/sampler/SmallestKeys" "capacity" "I").before a0 Z = true := hw _ (List.mem_of_getElem? (i := 10) rfl)
theorem tw11 {a0 : Array Value} {Z : State} (hw : ∀ d ∈ tables_1, d.before a0 Z = true) : (Jvm.Cond.methodLink "com/example/urnwise/urnwise/sampler/SmallestKeys" (13 : Nat) ({ cls := "java/lang/Math", name := "min", desc := "(II)I" } : Jvm.MethodName)).before a0 Z = true := hw _ (List.mem_of_getElem? (i := 11) rfl)
theorem tw12 {a0 : Array Value} {Z : State} (hw : ∀ d ∈ tables_1, d.before a0 Z = true) : (Jvm.Cond.static ({ cls := "java/lang/Math", name := "min", desc := "(II)I" } : Jvm.MethodName)).before a0 Z = true := hw _ (List.mem_of_getElem? (i := 12) rfl)
theorem tw13 {a0 : Array Value} {Z : State} (hw : ∀ d ∈ tables_1, d.before a0 Z = true) : (Jvm.Cond.initialized "java/lang/Math").before a0 Z = true := hw _ (List.mem_of_getElem? (i := 13) rfl)
theorem tw14 {a0 : Array Value} {Z : State} (hw : ∀ d ∈ tables_1, d.before a0 Z = true) : (Jvm.Cond.code ({ cls := "java/lang/Math", name := "min", desc := "(II)I" } : Jvm.MethodName) jdk_29_method_69_code (2 : Nat) (Option.some Jvm.ClassFile.FieldType.int)).before a0 Z = true := hw _ (List.mem_of_getElem? (i := 14) rfl)
theorem tw15 {a0 : Array Value} {Z : State} (hw : ∀ d ∈ tables_1, d.before a0 Z = true) : (Jvm.Cond.arrayClass Jvm.ClassFile.FieldType.double).before a0 Z = true := hw _ (List.mem_of_getElem? (i := 15) rfl)
theorem tw16 {a0 : Array Value} {Z : State} (hw : ∀ d ∈ tables_1, d.before a0 Z = true) : (Jvm.Cond.fieldLink "com/example/urnwise/urnwise/sampler/SmallestKeys" (19 : Nat) "com/example/urnwise/urnwise/sampler/SmallestKeys" "keys" "[D").before a0 Z = true := hw _ (List.mem_of_getElem? (i := 16) rfl)
theorem tw17 {a0 : Array Value} {Z : State} (hw : ∀ d ∈ tables_1, d.before a0 Z = true) : (Jvm.Cond.lays "com/example/urnwise/urnwise/sampler/SmallestKeys" "com/example/urnwise/urnwise/sampler/SmallestKeys" "keys" "[D").before a0 Z = true := hw _ (List.mem_of_getElem? (i := 17) rfl)
theorem tw18 {a0 : Array Value} {Z : State} (hw : ∀ d ∈ tables_1, d.before a0 Z = true) : (Jvm.Cond.arrayClass Jvm.ClassFile.FieldType.int).before a0 Z = true := hw _ (List.mem_of_getElem? (i := 18) rfl)
theorem tw19 {a0 : Array Value} {Z : State} (hw : ∀ d ∈ tables_1, d.before a0 Z = true) : (Jvm.Cond.fieldLink "com/example/urnwise/urnwise/sampler/SmallestKeys" (23 : Nat) "com/example/urnwise/urnwise/sampler/SmallestKeys" "indices" "[I").before a0 Z = true := hw _ (List.mem_of_getElem? (i := 19) rfl)
theorem tw20 {a0 : Array Value} {Z : State} (hw : ∀ d ∈ tables_1, d.before a0 Z = true) : (Jvm.Cond.lays "com/example/urnwise/urnwise/sampler/SmallestKeys" "com/example/urnwise/urnwise/sampler/SmallestKeys" "indices" "[I").before a0 Z = true := hw _ (List.mem_of_getElem? (i := 20) rfl)
theorem tw21 {a0 : Array Value} {Z : State} (hw : ∀ d ∈ tables_1, d.before a0 Z = true) : (Jvm.Cond.methodLink "com/example/urnwise/urnwise/sampler/SmallestKeysIsFullPinLaw" (13 : Nat) ({ cls := "com/example/urnwise/urnwise/sampler/SmallestKeys", name := "isFull", desc := "()Z" } : Jvm.MethodName)).before a0 Z = true := hw _ (List.mem_of_getElem? (i := 21) rfl)
theorem tw22 {a0 : Array Value} {Z : State} (hw : ∀ d ∈ tables_1, d.before a0 Z = true) : (Jvm.Cond.declares ({ cls := "com/example/urnwise/urnwise/sampler/SmallestKeys", name := "isFull", desc := "()Z" } : Jvm.MethodName)).before a0 Z = true := hw _ (List.mem_of_getElem? (i := 22) rfl)
theorem tw23 {a0 : Array Value} {Z : State} (hw : ∀ d ∈ tables_1, d.before a0 Z = true) : (Jvm.Cond.instanceMethod ({ cls := "com/example/urnwise/urnwise/sampler/SmallestKeys", name := "isFull", desc := "()Z" } : Jvm.MethodName)).before a0 Z = true := hw _ (List.mem_of_getElem? (i := 23) rfl)
theorem tw24 {a0 : Array Value} {Z : State} (hw : ∀ d ∈ tables_1, d.before a0 Z = true) : (Jvm.Cond.selects "com/example/urnwise/urnwise/sampler/SmallestKeys" ({ cls := "com/example/urnwise/urnwise/sampler/SmallestKeys", name := "isFull", desc := "()Z" } : Jvm.MethodName) ({ cls := "com/example/urnwise/urnwise/sampler/SmallestKeys", name := "isFull", desc := "()Z" } : Jvm.MethodName)).before a0 Z = true := hw _ (List.mem_of_getElem? (i := 24) rfl)
theorem tw25 {a0 : Array Value} {Z : State} (hw : ∀ d ∈ tables_1, d.before a0 Z = true) : (Jvm.Cond.code ({ cls := "com/example/urnwise/urnwise/sampler/SmallestKeys", name := "isFull", desc := "()Z" } : Jvm.MethodName) prog_15_method_4_code (1 : Nat) (Option.some Jvm.ClassFile.FieldType.boolean)).before a0 Z = true := hw _ (List.mem_of_getElem? (i := 25) rfl)
theorem tw26 {a0 : Array Value} {Z : State} (hw : ∀ d ∈ tables_1, d.before a0 Z = true) : (Jvm.Cond.fieldLink "com/example/urnwise/urnwise/sampler/SmallestKeys" (27 : Nat) "com/example/urnwise/urnwise/sampler/SmallestKeys" "size" "I").before a0 Z = true := hw _ (List.mem_of_getElem? (i := 26) rfl)
theorem tw27 {a0 : Array Value} {Z : State} (hw : ∀ d ∈ tables_1, d.before a0 Z = true) : (Jvm.Cond.lays "com/example/urnwise/urnwise/sampler/SmallestKeys" "com/example/urnwise/urnwise/sampler/SmallestKeys" "size" "I").before a0 Z = true := hw _ (List.mem_of_getElem? (i := 27) rfl)
theorem tw28 {a0 : Array Value} {Z : State} (hw : ∀ d ∈ tables_1, d.before a0 Z = true) : (Jvm.Cond.methodLink "com/example/urnwise/urnwise/sampler/SmallestKeysIsFullPinLaw" (21 : Nat) ({ cls := "java/lang/Math", name := "min", desc := "(II)I" } : Jvm.MethodName)).before a0 Z = true := hw _ (List.mem_of_getElem? (i := 28) rfl)
theorem tw29 {a0 : Array Value} {Z : State} (hw : ∀ d ∈ tables_1, d.before a0 Z = true) : (Jvm.Cond.methodLink "com/example/urnwise/urnwise/sampler/SmallestKeysIsFullPinLaw" (27 : Nat) ({ cls := "com/example/urnwise/urnwise/sampler/SmallestKeys", name := "size", desc := "()I" } : Jvm.MethodName)).before a0 Z = true := hw _ (List.mem_of_getElem? (i := 29) rfl)
theorem tw30 {a0 : Array Value} {Z : State} (hw : ∀ d ∈ tables_1, d.before a0 Z = true) : (Jvm.Cond.declares ({ cls := "com/example/urnwise/urnwise/sampler/SmallestKeys", name := "size", desc := "()I" } : Jvm.MethodName)).before a0 Z = true := hw _ (List.mem_of_getElem? (i := 30) rfl)
theorem tw31 {a0 : Array Value} {Z : State} (hw : ∀ d ∈ tables_1, d.before a0 Z = true) : (Jvm.Cond.instanceMethod ({ cls := "com/example/urnwise/urnwise/sampler/SmallestKeys", name := "size", desc := "()I" } : Jvm.MethodName)).before a0 Z = true := hw _ (List.mem_of_getElem? (i := 31) rfl)
theorem tw32 {a0 : Array Value} {Z : State} (hw : ∀ d ∈ tables_1, d.before a0 Z = true) : (Jvm.Cond.selects "com/example/urnwise/urnwise/sampler/SmallestKeys" ({ cls := "com/example/urnwise/urnwise/sampler/SmallestKeys", name := "size", desc := "()I" } : Jvm.MethodName) ({ cls := "com/example/urnwise/urnwise/sampler/SmallestKeys", name := "size", desc := "()I" } : Jvm.MethodName)).before a0 Z = true := hw _ (List.mem_of_getElem? (i := 32) rfl)
theorem tw33 {a0 : Array Value} {Z : State} (hw : ∀ d ∈ tables_1, d.before a0 Z = true) : (Jvm.Cond.code ({ cls := "com/example/urnwise/urnwise/sampler/SmallestKeys", name := "size", desc := "()I" } : Jvm.MethodName) prog_15_method_3_code (1 : Nat) (Option.some Jvm.ClassFile.FieldType.int)).before a0 Z = true := hw _ (List.mem_of_getElem? (i := 33) rfl)
theorem tw34 {a0 : Array Value} {Z : State} (hw : ∀ d ∈ tables_1, d.before a0 Z = true) : (Jvm.Cond.constant "com/example/urnwise/urnwise/sampler/SmallestKeysIsFullPinLaw" (7 : Nat) (2147483647 : Int32)).before a0 Z = true := hw _ (List.mem_of_getElem? (i := 34) rfl)
theorem tw35 {a0 : Array Value} {Z : State} (hw : ∀ d ∈ tables_1, d.before a0 Z = true) : (Jvm.Cond.methodLink "com/example/urnwise/urnwise/sampler/SmallestKeysIsFullPinLaw" (17 : Nat) ({ cls := "com/example/urnwise/urnwise/sampler/SmallestKeys", name := "offer", desc := "(DI)V" } : Jvm.MethodName)).before a0 Z = true := hw _ (List.mem_of_getElem? (i := 35) rfl)
theorem tw36 {a0 : Array Value} {Z : State} (hw : ∀ d ∈ tables_1, d.before a0 Z = true) : (Jvm.Cond.declares ({ cls := "com/example/urnwise/urnwise/sampler/SmallestKeys", name := "offer", desc := "(DI)V" } : Jvm.MethodName)).before a0 Z = true := hw _ (List.mem_of_getElem? (i := 36) rfl)
theorem tw37 {a0 : Array Value} {Z : State} (hw : ∀ d ∈ tables_1, d.before a0 Z = true) : (Jvm.Cond.instanceMethod ({ cls := "com/example/urnwise/urnwise/sampler/SmallestKeys", name := "offer", desc := "(DI)V" } : Jvm.MethodName)).before a0 Z = true := hw _ (List.mem_of_getElem? (i := 37) rfl)
theorem tw38 {a0 : Array Value} {Z : State} (hw : ∀ d ∈ tables_1, d.before a0 Z = true) : (Jvm.Cond.selects "com/example/urnwise/urnwise/sampler/SmallestKeys" ({ cls := "com/example/urnwise/urnwise/sampler/SmallestKeys", name := "offer", desc := "(DI)V" } : Jvm.MethodName) ({ cls := "com/example/urnwise/urnwise/sampler/SmallestKeys", name := "offer", desc := "(DI)V" } : Jvm.MethodName)).before a0 Z = true := hw _ (List.mem_of_getElem? (i := 38) rfl)
theorem tw39 {a0 : Array Value} {Z : State} (hw : ∀ d ∈ tables_1, d.before a0 Z = true) : (Jvm.Cond.code ({ cls := "com/example/urnwise/urnwise/sampler/SmallestKeys", name := "offer", desc := "(DI)V" } : Jvm.MethodName) prog_15_method_2_code (4 : Nat) (Option.none : Option Jvm.ClassFile.FieldType)).before a0 Z = true := hw _ (List.mem_of_getElem? (i := 39) rfl)
theorem tw40 {a0 : Array Value} {Z : State} (hw : ∀ d ∈ tables_1, d.before a0 Z = true) : (Jvm.Cond.methodLink "com/example/urnwise/urnwise/sampler/SmallestKeys" (33 : Nat) ({ cls := "com/example/urnwise/urnwise/sampler/SmallestKeys", name := "siftUp", desc := "(IDI)V" } : Jvm.MethodName)).before a0 Z = true := hw _ (List.mem_of_getElem? (i := 40) rfl)
theorem tw41 {a0 : Array Value} {Z : State} (hw : ∀ d ∈ tables_1, d.before a0 Z = true) : (Jvm.Cond.instanceMethod ({ cls := "com/example/urnwise/urnwise/sampler/SmallestKeys", name := "siftUp", desc := "(IDI)V" } : Jvm.MethodName)).before a0 Z = true := hw _ (List.mem_of_getElem? (i := 41) rfl)
theorem tw42 {a0 : Array Value} {Z : State} (hw : ∀ d ∈ tables_1, d.before a0 Z = true) : (Jvm.Cond.privateMethod ({ cls := "com/example/urnwise/urnwise/sampler/SmallestKeys", name := "siftUp", desc := "(IDI)V" } : Jvm.MethodName)).before a0 Z = true := hw _ (List.mem_of_getElem? (i := 42) rfl)
theorem tw43 {a0 : Array Value} {Z : State} (hw : ∀ d ∈ tables_1, d.before a0 Z = true) : (Jvm.Cond.code ({ cls := "com/example/urnwise/urnwise/sampler/SmallestKeys", name := "siftUp", desc := "(IDI)V" } : Jvm.MethodName) prog_15_method_11_code (6 : Nat) (Option.none : Option Jvm.ClassFile.FieldType)).before a0 Z = true := hw _ (List.mem_of_getElem? (i := 43) rfl)
theorem tw44 {a0 : Array Value} {Z : State} (hw : ∀ d ∈ tables_1, d.before a0 Z = true) : (Jvm.Cond.methodLink "com/example/urnwise/urnwise/sampler/SmallestKeys" (37 : Nat) ({ cls := "com/example/urnwise/urnwise/sampler/SmallestKeys", name := "siftDown", desc := "(IDI)V" } : Jvm.MethodName)).before a0 Z = true := hw _ (List.mem_of_getElem? (i := 44) rfl)
theorem tw45 {a0 : Array Value} {Z : State} (hw : ∀ d ∈ tables_1, d.before a0 Z = true) : (Jvm.Cond.instanceMethod ({ cls := "com/example/urnwise/urnwise/sampler/SmallestKeys", name := "siftDown", desc := "(IDI)V" } : Jvm.MethodName)).before a0 Z = true := hw _ (List.mem_of_getElem? (i := 45) rfl)
theorem tw46 {a0 : Array Value} {Z : State} (hw : ∀ d ∈ tables_1, d.before a0 Z = true) : (Jvm.Cond.privateMethod ({ cls := "com/example/urnwise/urnwise/sampler/SmallestKeys", name := "siftDown", desc := "(IDI)V" } : Jvm.MethodName)).before a0 Z = true := hw _ (List.mem_of_getElem? (i := 46) rfl)
theorem tw47 {a0 : Array Value} {Z : State} (hw : ∀ d ∈ tables_1, d.before a0 Z = true) : (Jvm.Cond.code ({ cls := "com/example/urnwise/urnwise/sampler/SmallestKeys", name := "siftDown", desc := "(IDI)V" } : Jvm.MethodName) prog_15_method_10_code (6 : Nat) (Option.none : Option Jvm.ClassFile.FieldType)).before a0 Z = true := hw _ (List.mem_of_getElem? (i := 47) rfl)
theorem pn_0 : plainName "com/example/urnwise/urnwise/sampler/SmallestKeys" = true := by first | (simp [plainName, overriddenIn]; done) | decide +kernel
theorem pd_0 : parseMethodDescriptor "(IDI)V" = some ⟨[.int, .double, .int], none⟩ := by decide +kernel
theorem pd_1 : parseMethodDescriptor "(II)I" = some ⟨[.int, .int], some .int⟩ := by decide +kernel
theorem pd_2 : parseMethodDescriptor "(I)V" = some ⟨[.int], none⟩ := by decide +kernel
theorem pd_3 : parseMethodDescriptor "()Z" = some ⟨[], some .boolean⟩ := by decide +kernel
theorem pd_4 : parseMethodDescriptor "()I" = some ⟨[], some .int⟩ := by decide +kernel
theorem pd_5 : parseMethodDescriptor "(DI)V" = some ⟨[.double, .int], none⟩ := by decide +kernel
theorem pn_1 : plainName "com/example/urnwise/urnwise/sampler/SmallestKeysIsFullPinLaw" = true := by first | (simp [plainName, overriddenIn]; done) | decide +kernel
theorem ef_min (m : MethodId) (x0 : Int32) (x1 : Int32) : entryFrame m #[(.int x0), (.int x1)] 2 = mkF m 0 #[.val (.int x0), .val (.int x1)] [] := by first | (simp [entryFrame, mkF, argsToLocals, Value.category]; done) | rfl
theorem d_min_0 : decode jdk_29_method_69_code 0 = .ok (.iload_n 0, 1) := by decide +kernel
theorem d_min_1 : decode jdk_29_method_69_code 1 = .ok (.iload_n 1, 1) := by decide +kernel
theorem d_min_2 : decode jdk_29_method_69_code 2 = .ok (.if_icmp .gt 7, 3) := by decide +kernel
theorem d_min_5 : decode jdk_29_method_69_code 5 = .ok (.iload_n 0, 1) := by decide +kernel
theorem d_min_6 : decode jdk_29_method_69_code 6 = .ok (.goto 4, 3) := by decide +kernel
theorem d_min_9 : decode jdk_29_method_69_code 9 = .ok (.iload_n 1, 1) := by decide +kernel
theorem d_min_10 : decode jdk_29_method_69_code 10 = .ok (.ireturn, 1) := by decide +kernel
set_option maxRecDepth 65536 in
set_option maxHeartbeats 4000000 in
theorem m_min (l : Launch) (Z : State) (a0 : Array Value) (hw : ∀ d ∈ tables_1, d.before a0 Z = true) (p0 p1 : Int32) (h0 : Heap)  :
    OMet l (⟨"java/lang/Math", "min", "(II)I"⟩ : MethodName) jdk_29_method_69_code 2 (Option.some FieldType.int) [] ({ frames := 0, cells := 0, slots := 0, locals := 0 } : Room) Z h0 [] #[(.int p0), (.int p1)] (fun v h' => v = some (.int (if p1 < p0 then p1 else p0)) ∧ h0 = h') := by
  refine OMet.of (own := "java/lang/Math") (nm := "min") (Jvm.Free.JP.mathPlain rfl (by decide +kernel)) rfl rfl ?_
  intro p e s m below meth c T0 P0 hby hml hret hnm
  refine Done.step (T' := T0) (g' := (mkF m 0 #[.val (.int p0), .val (.int p1)] [])) (fun t kk => castTop (ef_min m p0 p1) kk) ?_
  refine Done.stepL (pc' := 10) (st' := [(.int (if p1 < p0 then p1 else p0))]) (fun t kk => ?_) ?_
  · show Steps p.tables e below (T0.setTop (mkF m 0 _ [])) t
    refine XS.iloadN P0.here P0.x rfl (hb hby d_min_0) rfl ?_
    show Steps p.tables e below (T0.setTop (mkF m 1 _ [(.int p0)])) t
    refine XS.iloadN P0.here P0.x rfl (hb hby d_min_1) rfl ?_
    show Steps p.tables e below (T0.setTop (mkF m 2 _ [(.int p1), (.int p0)])) t
    suffices kk2 : Steps p.tables e below (T0.setTop (mkF m 10 #[.val (.int p0), .val (.int p1)] [(.int (if p1 < p0 then p1 else p0))])) t by
      by_cases hc1 : p1 < p0
      · skip
        replace kk2 := Eq.mp (congrArg (fun z_ : Int32 => Steps p.tables e below (T0.setTop (mkF m 10 #[.val (.int p0), .val (.int p1)] [(.int z_)])) t) (show (if p1 < p0 then p1 else p0) = p1 from if_pos hc1)) kk2
        show Steps p.tables e below (T0.setTop (mkF m 2 _ [(.int p1), (.int p0)])) t
        refine XS.icmpYes P0.here P0.x rfl (pc0 := 2) (pc' := 9) rfl (hb hby d_min_2) rfl (iiW_gt_t hc1) (by decide) (by decide) ?_
        show Steps p.tables e below (T0.setTop (mkF m 9 _ [])) t
        refine XS.iloadN P0.here P0.x rfl (hb hby d_min_9) rfl ?_
        exact kk2
      · skip
        replace kk2 := Eq.mp (congrArg (fun z_ : Int32 => Steps p.tables e below (T0.setTop (mkF m 10 #[.val (.int p0), .val (.int p1)] [(.int z_)])) t) (show (if p1 < p0 then p1 else p0) = p0 from if_neg hc1)) kk2
        show Steps p.tables e below (T0.setTop (mkF m 2 _ [(.int p1), (.int p0)])) t
        refine XS.icmpNo P0.here P0.x rfl (hb hby d_min_2) rfl (iiW_gt_f hc1) ?_
        show Steps p.tables e below (T0.setTop (mkF m 5 _ [])) t
        refine XS.iloadN P0.here P0.x rfl (hb hby d_min_5) rfl ?_
        show Steps p.tables e below (T0.setTop (mkF m 6 _ [(.int p0)])) t
        refine XS.goto P0.here P0.x rfl (pc0 := 6) (pc' := 10) rfl (hb hby d_min_6) (by decide) (by decide) ?_
        exact kk2
    exact kk
  exact wRetI P0 hret (hb hby d_min_10) ⟨rfl, rfl⟩
theorem ef_up (m : MethodId) (x0 : Addr) (x1 : Int32) (x2 : UInt64) (x3 : Int32) : entryFrame m #[(.ref x0), (.int x1), (.double x2), (.int x3)] 6 = mkF m 0 #[.val (.ref x0), .val (.int x1), .val (.double x2), .second, .val (.int x3), .unset] [] := by first | (simp [entryFrame, mkF, argsToLocals, Value.category]; done) | rfl
theorem d_up_58 : decode prog_15_method_11_code 58 = .ok (.aload_n 0, 1) := by decide +kernel
theorem d_up_59 : decode prog_15_method_11_code 59 = .ok (.getfield 19, 3) := by decide +kernel
theorem d_up_62 : decode prog_15_method_11_code 62 = .ok (.iload_n 1, 1) := by decide +kernel
theorem d_up_63 : decode prog_15_method_11_code 63 = .ok (.dload_n 2, 1) := by decide +kernel
theorem d_up_64 : decode prog_15_method_11_code 64 = .ok (.dastore, 1) := by decide +kernel
theorem d_up_65 : decode prog_15_method_11_code 65 = .ok (.aload_n 0, 1) := by decide +kernel
theorem d_up_66 : decode prog_15_method_11_code 66 = .ok (.getfield 23, 3) := by decide +kernel
theorem d_up_69 : decode prog_15_method_11_code 69 = .ok (.iload_n 1, 1) := by decide +kernel
theorem d_up_70 : decode prog_15_method_11_code 70 = .ok (.iload 4, 2) := by decide +kernel
theorem d_up_72 : decode prog_15_method_11_code 72 = .ok (.iastore, 1) := by decide +kernel
theorem d_up_73 : decode prog_15_method_11_code 73 = .ok (.return_, 1) := by decide +kernel
theorem d_up_0 : decode prog_15_method_11_code 0 = .ok (.iload_n 1, 1) := by decide +kernel
theorem d_up_1 : decode prog_15_method_11_code 1 = .ok (.ifCond .le 57, 3) := by decide +kernel
theorem d_up_4 : decode prog_15_method_11_code 4 = .ok (.iload_n 1, 1) := by decide +kernel
theorem d_up_5 : decode prog_15_method_11_code 5 = .ok (.iconst 1, 1) := by decide +kernel
theorem d_up_6 : decode prog_15_method_11_code 6 = .ok (.isub, 1) := by decide +kernel
theorem d_up_7 : decode prog_15_method_11_code 7 = .ok (.iconst 2, 1) := by decide +kernel
theorem d_up_8 : decode prog_15_method_11_code 8 = .ok (.idiv, 1) := by decide +kernel
theorem os_up_9_18 {y0 : Addr} {y1 : Int32} {y2 : UInt64} {y4 : Int32} {y5 : Slot} {yy : Int32} (h : One y5) : storeLocals #[.val (.ref y0), .val (.int y1), .val (.double y2), .second, .val (.int y4), y5] 5 (.int yy) = some #[.val (.ref y0), .val (.int y1), .val (.double y2), .second, .val (.int y4), .val (.int yy)] := by
  rcases h with rfl | ⟨w, rfl, hw⟩
  · rfl
  · cases w <;> first | rfl | (simp [Value.category] at hw)
theorem d_up_9 : decode prog_15_method_11_code 9 = .ok (.istore 5, 2) := by decide +kernel
theorem d_up_11 : decode prog_15_method_11_code 11 = .ok (.aload_n 0, 1) := by decide +kernel
theorem d_up_12 : decode prog_15_method_11_code 12 = .ok (.getfield 19, 3) := by decide +kernel
theorem d_up_15 : decode prog_15_method_11_code 15 = .ok (.iload 5, 2) := by decide +kernel
theorem d_up_17 : decode prog_15_method_11_code 17 = .ok (.daload, 1) := by decide +kernel
theorem d_up_18 : decode prog_15_method_11_code 18 = .ok (.dload_n 2, 1) := by decide +kernel
theorem d_up_19 : decode prog_15_method_11_code 19 = .ok (.dcmp .l, 1) := by decide +kernel
theorem d_up_20 : decode prog_15_method_11_code 20 = .ok (.ifCond .lt 6, 3) := by decide +kernel
theorem d_up_26 : decode prog_15_method_11_code 26 = .ok (.aload_n 0, 1) := by decide +kernel
theorem d_up_27 : decode prog_15_method_11_code 27 = .ok (.getfield 19, 3) := by decide +kernel
theorem d_up_30 : decode prog_15_method_11_code 30 = .ok (.iload_n 1, 1) := by decide +kernel
theorem d_up_31 : decode prog_15_method_11_code 31 = .ok (.aload_n 0, 1) := by decide +kernel
theorem d_up_32 : decode prog_15_method_11_code 32 = .ok (.getfield 19, 3) := by decide +kernel
theorem d_up_35 : decode prog_15_method_11_code 35 = .ok (.iload 5, 2) := by decide +kernel
theorem d_up_37 : decode prog_15_method_11_code 37 = .ok (.daload, 1) := by decide +kernel
theorem d_up_38 : decode prog_15_method_11_code 38 = .ok (.dastore, 1) := by decide +kernel
theorem d_up_39 : decode prog_15_method_11_code 39 = .ok (.aload_n 0, 1) := by decide +kernel
theorem d_up_40 : decode prog_15_method_11_code 40 = .ok (.getfield 23, 3) := by decide +kernel
theorem d_up_43 : decode prog_15_method_11_code 43 = .ok (.iload_n 1, 1) := by decide +kernel
theorem d_up_44 : decode prog_15_method_11_code 44 = .ok (.aload_n 0, 1) := by decide +kernel
theorem d_up_45 : decode prog_15_method_11_code 45 = .ok (.getfield 23, 3) := by decide +kernel
theorem d_up_48 : decode prog_15_method_11_code 48 = .ok (.iload 5, 2) := by decide +kernel
theorem d_up_50 : decode prog_15_method_11_code 50 = .ok (.iaload, 1) := by decide +kernel
theorem d_up_51 : decode prog_15_method_11_code 51 = .ok (.iastore, 1) := by decide +kernel
theorem d_up_52 : decode prog_15_method_11_code 52 = .ok (.iload 5, 2) := by decide +kernel
theorem d_up_54 : decode prog_15_method_11_code 54 = .ok (.istore_n 1, 1) := by decide +kernel
theorem d_up_55 : decode prog_15_method_11_code 55 = .ok (.goto (-55), 3) := by decide +kernel
theorem d_up_23 : decode prog_15_method_11_code 23 = .ok (.goto 35, 3) := by decide +kernel
set_option maxRecDepth 65536 in
set_option maxHeartbeats 4000000 in
theorem m_up (l : Launch) (Z : State) (a0 : Array Value) (hw : ∀ d ∈ tables_1, d.before a0 Z = true) (a kb ib : Addr) (sv : Int32) (N n : Nat) (kf : Nat → UInt64) (K : Nat → Int) (J : Nat → Int32) (pv0 : Int32) (x : UInt64) (iv : Int32) (p0 : Nat) (kv : Int) (h0 : Heap) (E0 : Exa Z h0 a "com/example/urnwise/urnwise/sampler/SmallestKeys") (Fk : Fld Z h0 a "com/example/urnwise/urnwise/sampler/SmallestKeys" "keys" "[D" (.ref kb)) (Fi : Fld Z h0 a "com/example/urnwise/urnwise/sampler/SmallestKeys" "indices" "[I" (.ref ib)) (Fs : Fld Z h0 a "com/example/urnwise/urnwise/sampler/SmallestKeys" "size" "I" (.int sv)) (Ak : Ar Z h0 kb .double N (fun i => .double (kf i))) (Ai : Ar Z h0 ib .int N (fun i => .int (J i))) (n1 : a ≠ kb) (n2 : a ≠ ib) (n3 : kb ≠ ib) (hN : N ≤ 16) (hsv : sv.toInt = (n : Int)) (dK : ∀ i, i < N → DInt (K i) (kf i)) (dx : DInt kv x) (hp0 : pv0.toInt = (p0 : Int)) (hpN : p0 < N) :
    OMet l (⟨"com/example/urnwise/urnwise/sampler/SmallestKeys", "siftUp", "(IDI)V"⟩ : MethodName) prog_15_method_11_code 6 (Option.none : Option FieldType) [] ({ frames := 0, cells := 0, slots := 0, locals := 0 } : Room) Z h0 [kb, ib] #[(.ref a), (.int pv0), (.double x), (.int iv)] (fun v h' => v = none ∧ ∃ kf' : Nat → UInt64, Ar Z h' kb .double N (fun i => .double (kf' i)) ∧ (∀ i, i < N → DInt ((own_up p0 K J p0 kv iv).1 i) (kf' i)) ∧ Ar Z h' ib .int N (fun i => .int (((own_up p0 K J p0 kv iv).2) i))) := by
  refine OMet.of (own := "com/example/urnwise/urnwise/sampler/SmallestKeys") (nm := "siftUp") (plainFor_of_name pn_0) rfl rfl ?_
  intro p e s m below meth c T0 P0 hby hml hret hnm
  refine Done.step (T' := T0) (g' := (mkF m 0 #[.val (.ref a), .val (.int pv0), .val (.double x), .second, .val (.int iv), .unset] [])) (fun t kk => castTop (ef_up m a pv0 x iv) kk) ?_
  have ltk := Ak.ltN
  have lti := Ai.ltN
  have lta := exaN E0
  have fin : ∀ (ip : Nat) (T : State) (h : Heap) (pv : Int32) (s5 : Slot) (kf' : Nat → UInt64) (K' : Nat → Int) (J' : Nat → Int32), ip < N → pv.toInt = (ip : Int) → Pos p l e ({ frames := 0, cells := 0, slots := 0, locals := 0 } : Room) s m #[(.ref a), (.int pv0), (.double x), (.int iv)] below meth c Z "com/example/urnwise/urnwise/sampler/SmallestKeys" [kb, ib] h0.size T h 0 0 → Fld Z h a "com/example/urnwise/urnwise/sampler/SmallestKeys" "keys" "[D" (.ref kb) → Fld Z h a "com/example/urnwise/urnwise/sampler/SmallestKeys" "indices" "[I" (.ref ib) → Ar Z h kb .double N (fun i => .double (kf' i)) → Ar Z h ib .int N (fun i => .int (J' i)) → (∀ i, i < N → DInt (K' i) (kf' i)) → (oupd K' ip kv, oupd J' ip iv) = own_up p0 K J p0 kv iv → Done p l e ({ frames := 0, cells := 0, slots := 0, locals := 0 } : Room) s m #[(.ref a), (.int pv0), (.double x), (.int iv)] below meth c Z "com/example/urnwise/urnwise/sampler/SmallestKeys" [kb, ib] h0.size (fun v h' => v = none ∧ ∃ kf' : Nat → UInt64, Ar Z h' kb .double N (fun i => .double (kf' i)) ∧ (∀ i, i < N → DInt ((own_up p0 K J p0 kv iv).1 i) (kf' i)) ∧ Ar Z h' ib .int N (fun i => .int (((own_up p0 K J p0 kv iv).2) i))) T (mkF m 58 #[.val (.ref a), .val (.int pv), .val (.double x), .second, .val (.int iv), s5] []) := by
    intro ip T h pv s5 kf' K' J' hp hpv P Fk' Fi' Ak' Ai' dK' heq
    refine Done.stepL (pc' := 59) (st' := [(.ref a)]) (fun t kk => ?_) ?_
    · show Steps p.tables e below (T.setTop (mkF m 58 _ [])) t
      refine XS.aloadN P.here P.x rfl (hb hby d_up_58) rfl rfl ?_
      exact kk
    refine wGet P (host := "") (Or.inl (tw16 hw)) Via.refl Fk' (hb hby d_up_59) rfl (fun T1 P2 => ?_)
    show Done _ _ _ _ _ _ _ _ _ _ _ _ _ _ _ T1 (mkF m 62 _ [(.ref kb)])
    refine Done.stepL (pc' := 64) (st' := [(.double x), (.int pv), (.ref kb)]) (fun t kk => ?_) ?_
    · show Steps p.tables e below (T1.setTop (mkF m 62 _ [(.ref kb)])) t
      refine XS.iloadN P2.here P2.x rfl (hb hby d_up_62) rfl ?_
      show Steps p.tables e below (T1.setTop (mkF m 63 _ [(.int pv), (.ref kb)])) t
      refine XS.dloadN P2.here P2.x rfl (hb hby d_up_63) rfl ?_
      exact kk
    refine wDastore P2 (f := kf') Ak' (j := pv) (i := ip) hpv hp (Or.inl (by simp)) (hb hby d_up_64) rfl (fun T3 h5 P4 W6 A7 => ?_)
    have szh5 : h5.size = h.size := W6.size
    show Done _ _ _ _ _ _ _ _ _ _ _ _ _ _ _ T3 (mkF m 65 _ [])
    refine Done.stepL (pc' := 66) (st' := [(.ref a)]) (fun t kk => ?_) ?_
    · show Steps p.tables e below (T3.setTop (mkF m 65 _ [])) t
      refine XS.aloadN P4.here P4.x rfl (hb hby d_up_65) rfl rfl ?_
      exact kk
    have f8 := (Fi'.other W6 (Or.inl (by first | assumption | exact Ne.symm (by assumption) | exact adr_ne (by omega) | omega)))
    refine wGet P4 (host := "") (Or.inl (tw19 hw)) Via.refl f8 (hb hby d_up_66) rfl (fun T9 P10 => ?_)
    show Done _ _ _ _ _ _ _ _ _ _ _ _ _ _ _ T9 (mkF m 69 _ [(.ref ib)])
    refine Done.stepL (pc' := 72) (st' := [(.int iv), (.int pv), (.ref ib)]) (fun t kk => ?_) ?_
    · show Steps p.tables e below (T9.setTop (mkF m 69 _ [(.ref ib)])) t
      refine XS.iloadN P10.here P10.x rfl (hb hby d_up_69) rfl ?_
      show Steps p.tables e below (T9.setTop (mkF m 70 _ [(.int pv), (.ref ib)])) t
      refine XS.iload P10.here P10.x rfl (hb hby d_up_70) rfl ?_
      exact kk
    have f11 := (Ai'.other W6 (by first | assumption | exact Ne.symm (by assumption) | exact adr_ne (by omega) | omega))
    refine wIastore P10 (f := J') f11 (j := pv) (i := ip) hpv hp (Or.inl (by simp)) (hb hby d_up_72) rfl (fun T12 h14 P13 W15 A16 => ?_)
    have szh14 : h14.size = h5.size := W15.size
    show Done _ _ _ _ _ _ _ _ _ _ _ _ _ _ _ T12 (mkF m 73 _ [])
    have f17 := (A7.other W15 (by first | assumption | exact Ne.symm (by assumption) | exact adr_ne (by omega) | omega))
    exact wRetV P13 hret (hb hby d_up_73) ⟨rfl, _, f17, (fun i hi => by rw [← heq]; exact own_dupd dK' dx i hi), (by rw [← heq]; exact A16)⟩
  have loop : ∀ (r : Nat) (ip : Nat) (T : State) (h : Heap) (pv : Int32) (s5 : Slot) (kf' : Nat → UInt64) (K' : Nat → Int) (J' : Nat → Int32), ip ≤ r → ip < N → pv.toInt = (ip : Int) → One s5 → Pos p l e ({ frames := 0, cells := 0, slots := 0, locals := 0 } : Room) s m #[(.ref a), (.int pv0), (.double x), (.int iv)] below meth c Z "com/example/urnwise/urnwise/sampler/SmallestKeys" [kb, ib] h0.size T h 0 0 → Fld Z h a "com/example/urnwise/urnwise/sampler/SmallestKeys" "keys" "[D" (.ref kb) → Fld Z h a "com/example/urnwise/urnwise/sampler/SmallestKeys" "indices" "[I" (.ref ib) → Fld Z h a "com/example/urnwise/urnwise/sampler/SmallestKeys" "size" "I" (.int sv) → Ar Z h kb .double N (fun i => .double (kf' i)) → Ar Z h ib .int N (fun i => .int (J' i)) → (∀ i, i < N → DInt (K' i) (kf' i)) → own_up r K' J' ip kv iv = own_up p0 K J p0 kv iv → Done p l e ({ frames := 0, cells := 0, slots := 0, locals := 0 } : Room) s m #[(.ref a), (.int pv0), (.double x), (.int iv)] below meth c Z "com/example/urnwise/urnwise/sampler/SmallestKeys" [kb, ib] h0.size (fun v h' => v = none ∧ ∃ kf' : Nat → UInt64, Ar Z h' kb .double N (fun i => .double (kf' i)) ∧ (∀ i, i < N → DInt ((own_up p0 K J p0 kv iv).1 i) (kf' i)) ∧ Ar Z h' ib .int N (fun i => .int (((own_up p0 K J p0 kv iv).2) i))) T (mkF m 0 #[.val (.ref a), .val (.int pv), .val (.double x), .second, .val (.int iv), s5] []) := by
    intro r
    induction r with
    | zero =>
      intro ip T h pv s5 kf' K' J' hr hp hpv h5 P Fk' Fi' Fs' Ak' Ai' dK' heq
      obtain rfl : ip = 0 := by omega
      refine Done.stepL (pc' := 58) (st' := []) (fun t kk => ?_) ?_
      · show Steps p.tables e below (T.setTop (mkF m 0 _ [])) t
        refine XS.iloadN P.here P.x rfl (hb hby d_up_0) rfl ?_
        show Steps p.tables e below (T.setTop (mkF m 1 _ [(.int pv)])) t
        refine XS.ifYes P.here P.x rfl (pc0 := 1) (pc' := 58) rfl (hb hby d_up_1) rfl (i0W_le_t (by rw [own_lt' (i := 0) (by decide) hpv]; omega)) (by decide) (by decide) ?_
        exact kk
      exact fin 0 _ _ _ _ _ _ _ (by omega) hpv P Fk' Fi' Ak' Ai' dK' heq
    | succ r ih =>
      intro ip T h pv s5 kf' K' J' hr hp hpv h5 P Fk' Fi' Fs' Ak' Ai' dK' heq
      refine Done.stepL (pc' := 1) (st' := [(.int pv)]) (fun t kk => ?_) ?_
      · show Steps p.tables e below (T.setTop (mkF m 0 _ [])) t
        refine XS.iloadN P.here P.x rfl (hb hby d_up_0) rfl ?_
        exact kk
      by_cases hc : ¬ ((0 : Int32) < pv)
      · obtain rfl : ip = 0 := own_p0 hpv hc
        refine Done.stepL (pc' := 58) (st' := []) (fun t kk => ?_) ?_
        · show Steps p.tables e below (T.setTop (mkF m 1 _ [(.int pv)])) t
          refine XS.ifYes P.here P.x rfl (pc0 := 1) (pc' := 58) rfl (hb hby d_up_1) rfl (i0W_le_t hc) (by decide) (by decide) ?_
          exact kk
        exact fin 0 _ _ _ _ _ _ _ (by omega) hpv P Fk' Fi' Ak' Ai' dK' heq
      · have hpos := own_p1 hpv hc
        refine Done.step (T' := T) (g' := (mkF m 11 #[.val (.ref a), .val (.int pv), .val (.double x), .second, .val (.int iv), .val (.int ((pv - (1 : Int32)) / (2 : Int32)))] [])) (fun t kk => ?_) ?_
        · show Steps p.tables e below (T.setTop (mkF m 1 _ [(.int pv)])) t
          refine XS.ifNo P.here P.x rfl (hb hby d_up_1) rfl (i0W_le_f (show ¬ (¬ ((0 : Int32) < pv)) from hc)) ?_
          show Steps p.tables e below (T.setTop (mkF m 4 _ [])) t
          refine XS.iloadN P.here P.x rfl (hb hby d_up_4) rfl ?_
          show Steps p.tables e below (T.setTop (mkF m 5 _ [(.int pv)])) t
          refine XS.iconst P.here P.x rfl (hb hby d_up_5) ?_
          show Steps p.tables e below (T.setTop (mkF m 6 _ [(.int (1 : Int32)), (.int pv)])) t
          refine XS.isub P.here P.x rfl (hb hby d_up_6) rfl ?_
          show Steps p.tables e below (T.setTop (mkF m 7 _ [(.int (pv - (1 : Int32)))])) t
          refine XS.iconst P.here P.x rfl (hb hby d_up_7) ?_
          show Steps p.tables e below (T.setTop (mkF m 8 _ [(.int (2 : Int32)), (.int (pv - (1 : Int32)))])) t
          refine XS.idiv P.here P.x rfl (hb hby d_up_8) rfl (by decide) ?_
          show Steps p.tables e below (T.setTop (mkF m 9 _ [(.int ((pv - (1 : Int32)) / (2 : Int32)))])) t
          refine XS.istore P.here P.x rfl (hb hby d_up_9) rfl (l' := #[.val (.ref a), .val (.int pv), .val (.double x), .second, .val (.int iv), .val (.int ((pv - (1 : Int32)) / (2 : Int32)))]) (os_up_9_18 h5) ?_
          exact kk
        generalize g_qv : ((pv - (1 : Int32)) / (2 : Int32)) = qv
        have hqv : qv.toInt = (((ip - 1) / 2 : Nat) : Int) := by rw [← g_qv]; exact own_par hpv hpos
        show Done _ _ _ _ _ _ _ _ _ _ _ _ _ _ _ T (mkF m 11 _ [])
        rw [own_up, if_neg (show ¬ (ip = 0) by omega)] at heq
        refine Done.stepL (pc' := 12) (st' := [(.ref a)]) (fun t kk => ?_) ?_
        · show Steps p.tables e below (T.setTop (mkF m 11 _ [])) t
          refine XS.aloadN P.here P.x rfl (hb hby d_up_11) rfl rfl ?_
          exact kk
        refine wGet P (host := "") (Or.inl (tw16 hw)) Via.refl Fk' (hb hby d_up_12) rfl (fun T18 P19 => ?_)
        show Done _ _ _ _ _ _ _ _ _ _ _ _ _ _ _ T18 (mkF m 15 _ [(.ref kb)])
        refine Done.stepL (pc' := 17) (st' := [(.int qv), (.ref kb)]) (fun t kk => ?_) ?_
        · show Steps p.tables e below (T18.setTop (mkF m 15 _ [(.ref kb)])) t
          refine XS.iload P19.here P19.x rfl (hb hby d_up_15) rfl ?_
          exact kk
        refine wDaload P19 Ak' (j := qv) (i := ((ip - 1) / 2)) hqv (by omega) (v := (.double (kf' ((ip - 1) / 2)))) rfl (hb hby d_up_17) rfl ?_
        show Done _ _ _ _ _ _ _ _ _ _ _ _ _ _ _ T18 (mkF m 18 _ [(.double (kf' ((ip - 1) / 2)))])
        refine Done.stepL (pc' := 20) (st' := [(.int (cmpZ (K' ((ip - 1) / 2)) kv))]) (fun t kk => ?_) ?_
        · show Steps p.tables e below (T18.setTop (mkF m 18 _ [(.double (kf' ((ip - 1) / 2)))])) t
          refine XS.dloadN P19.here P19.x rfl (hb hby d_up_18) rfl ?_
          show Steps p.tables e below (T18.setTop (mkF m 19 _ [(.double x), (.double (kf' ((ip - 1) / 2)))])) t
          refine XS.dcmpS P19.here P19.x rfl (hb hby d_up_19) rfl (dcmpZ (dK' ((ip - 1) / 2) (by omega)) dx) ?_
          exact kk
        by_cases hl : (K' ((ip - 1) / 2)) < kv
        · rw [if_pos hl] at heq
          refine Done.stepL (pc' := 27) (st' := [(.ref a)]) (fun t kk => ?_) ?_
          · show Steps p.tables e below (T18.setTop (mkF m 20 _ [(.int (cmpZ (K' ((ip - 1) / 2)) kv))])) t
            refine XS.ifYes P19.here P19.x rfl (pc0 := 20) (pc' := 26) rfl (hb hby d_up_20) rfl (ciW_lt_t hl) (by decide) (by decide) ?_
            show Steps p.tables e below (T18.setTop (mkF m 26 _ [])) t
            refine XS.aloadN P19.here P19.x rfl (hb hby d_up_26) rfl rfl ?_
            exact kk
          refine wGet P19 (host := "") (Or.inl (tw16 hw)) Via.refl Fk' (hb hby d_up_27) rfl (fun T20 P21 => ?_)
          show Done _ _ _ _ _ _ _ _ _ _ _ _ _ _ _ T20 (mkF m 30 _ [(.ref kb)])
          refine Done.stepL (pc' := 32) (st' := [(.ref a), (.int pv), (.ref kb)]) (fun t kk => ?_) ?_
          · show Steps p.tables e below (T20.setTop (mkF m 30 _ [(.ref kb)])) t
            refine XS.iloadN P21.here P21.x rfl (hb hby d_up_30) rfl ?_
            show Steps p.tables e below (T20.setTop (mkF m 31 _ [(.int pv), (.ref kb)])) t
            refine XS.aloadN P21.here P21.x rfl (hb hby d_up_31) rfl rfl ?_
            exact kk
          refine wGet P21 (host := "") (Or.inl (tw16 hw)) Via.refl Fk' (hb hby d_up_32) rfl (fun T22 P23 => ?_)
          show Done _ _ _ _ _ _ _ _ _ _ _ _ _ _ _ T22 (mkF m 35 _ [(.ref kb), (.int pv), (.ref kb)])
          refine Done.stepL (pc' := 37) (st' := [(.int qv), (.ref kb), (.int pv), (.ref kb)]) (fun t kk => ?_) ?_
          · show Steps p.tables e below (T22.setTop (mkF m 35 _ [(.ref kb), (.int pv), (.ref kb)])) t
            refine XS.iload P23.here P23.x rfl (hb hby d_up_35) rfl ?_
            exact kk
          refine wDaload P23 Ak' (j := qv) (i := ((ip - 1) / 2)) hqv (by omega) (v := (.double (kf' ((ip - 1) / 2)))) rfl (hb hby d_up_37) rfl ?_
          show Done _ _ _ _ _ _ _ _ _ _ _ _ _ _ _ T22 (mkF m 38 _ [(.double (kf' ((ip - 1) / 2))), (.int pv), (.ref kb)])
          refine wDastore P23 (f := kf') Ak' (j := pv) (i := ip) hpv hp (Or.inl (by simp)) (hb hby d_up_38) rfl (fun T24 h26 P25 W27 A28 => ?_)
          have szh26 : h26.size = h.size := W27.size
          show Done _ _ _ _ _ _ _ _ _ _ _ _ _ _ _ T24 (mkF m 39 _ [])
          refine Done.stepL (pc' := 40) (st' := [(.ref a)]) (fun t kk => ?_) ?_
          · show Steps p.tables e below (T24.setTop (mkF m 39 _ [])) t
            refine XS.aloadN P25.here P25.x rfl (hb hby d_up_39) rfl rfl ?_
            exact kk
          have f29 := (Fi'.other W27 (Or.inl (by first | assumption | exact Ne.symm (by assumption) | exact adr_ne (by omega) | omega)))
          refine wGet P25 (host := "") (Or.inl (tw19 hw)) Via.refl f29 (hb hby d_up_40) rfl (fun T30 P31 => ?_)
          show Done _ _ _ _ _ _ _ _ _ _ _ _ _ _ _ T30 (mkF m 43 _ [(.ref ib)])
          refine Done.stepL (pc' := 45) (st' := [(.ref a), (.int pv), (.ref ib)]) (fun t kk => ?_) ?_
          · show Steps p.tables e below (T30.setTop (mkF m 43 _ [(.ref ib)])) t
            refine XS.iloadN P31.here P31.x rfl (hb hby d_up_43) rfl ?_
            show Steps p.tables e below (T30.setTop (mkF m 44 _ [(.int pv), (.ref ib)])) t
            refine XS.aloadN P31.here P31.x rfl (hb hby d_up_44) rfl rfl ?_
            exact kk
          refine wGet P31 (host := "") (Or.inl (tw19 hw)) Via.refl f29 (hb hby d_up_45) rfl (fun T32 P33 => ?_)
          show Done _ _ _ _ _ _ _ _ _ _ _ _ _ _ _ T32 (mkF m 48 _ [(.ref ib), (.int pv), (.ref ib)])
          refine Done.stepL (pc' := 50) (st' := [(.int qv), (.ref ib), (.int pv), (.ref ib)]) (fun t kk => ?_) ?_
          · show Steps p.tables e below (T32.setTop (mkF m 48 _ [(.ref ib), (.int pv), (.ref ib)])) t
            refine XS.iload P33.here P33.x rfl (hb hby d_up_48) rfl ?_
            exact kk
          have f34 := (Ai'.other W27 (by first | assumption | exact Ne.symm (by assumption) | exact adr_ne (by omega) | omega))
          refine wIaload P33 f34 (j := qv) (i := ((ip - 1) / 2)) hqv (by omega) (v := (.int (J' ((ip - 1) / 2)))) rfl (hb hby d_up_50) rfl ?_
          show Done _ _ _ _ _ _ _ _ _ _ _ _ _ _ _ T32 (mkF m 51 _ [(.int (J' ((ip - 1) / 2))), (.int pv), (.ref ib)])
          refine wIastore P33 (f := J') f34 (j := pv) (i := ip) hpv hp (Or.inl (by simp)) (hb hby d_up_51) rfl (fun T35 h37 P36 W38 A39 => ?_)
          have szh37 : h37.size = h26.size := W38.size
          show Done _ _ _ _ _ _ _ _ _ _ _ _ _ _ _ T35 (mkF m 52 _ [])
          refine Done.step (T' := T35) (g' := (mkF m 0 #[.val (.ref a), .val (.int qv), .val (.double x), .second, .val (.int iv), .val (.int qv)] [])) (fun t kk => ?_) ?_
          · show Steps p.tables e below (T35.setTop (mkF m 52 _ [])) t
            refine XS.iload P36.here P36.x rfl (hb hby d_up_52) rfl ?_
            show Steps p.tables e below (T35.setTop (mkF m 54 _ [(.int qv)])) t
            refine XS.istoreN P36.here P36.x rfl (hb hby d_up_54) rfl (l' := #[.val (.ref a), .val (.int qv), .val (.double x), .second, .val (.int iv), .val (.int qv)]) rfl ?_
            show Steps p.tables e below (T35.setTop (mkF m 55 _ [])) t
            refine XS.goto P36.here P36.x rfl (pc0 := 55) (pc' := 0) rfl (hb hby d_up_55) (by decide) (by decide) ?_
            exact kk
          have f40 := ((Fk'.other W27 (Or.inl (by first | assumption | exact Ne.symm (by assumption) | exact adr_ne (by omega) | omega))).other W38 (Or.inl (by first | assumption | exact Ne.symm (by assumption) | exact adr_ne (by omega) | omega)))
          have f41 := (f29.other W38 (Or.inl (by first | assumption | exact Ne.symm (by assumption) | exact adr_ne (by omega) | omega)))
          have f42 := ((Fs'.other W27 (Or.inl (by first | assumption | exact Ne.symm (by assumption) | exact adr_ne (by omega) | omega))).other W38 (Or.inl (by first | assumption | exact Ne.symm (by assumption) | exact adr_ne (by omega) | omega)))
          have f43 := (A28.other W38 (by first | assumption | exact Ne.symm (by assumption) | exact adr_ne (by omega) | omega))
          exact ih ((ip - 1) / 2) _ _ _ _ _ _ _ (by omega) (by omega) hqv (One.val rfl) P36 f40 f41 f42 f43 A39 (own_dupd dK' (dK' ((ip - 1) / 2) (by omega))) heq
        · rw [if_neg hl] at heq
          refine Done.stepL (pc' := 58) (st' := []) (fun t kk => ?_) ?_
          · show Steps p.tables e below (T18.setTop (mkF m 20 _ [(.int (cmpZ (K' ((ip - 1) / 2)) kv))])) t
            refine XS.ifNo P19.here P19.x rfl (hb hby d_up_20) rfl (ciW_lt_f (show ¬ ((K' ((ip - 1) / 2)) < kv) from hl)) ?_
            show Steps p.tables e below (T18.setTop (mkF m 23 _ [])) t
            refine XS.goto P19.here P19.x rfl (pc0 := 23) (pc' := 58) rfl (hb hby d_up_23) (by decide) (by decide) ?_
            exact kk
          exact fin ip _ _ _ _ _ _ _ (by omega) hpv P19 Fk' Fi' Ak' Ai' dK' heq
  show Done _ _ _ _ _ _ _ _ _ _ _ _ _ _ _ T0 (mkF m 0 _ [])
  exact loop p0 p0 _ _ _ _ _ _ _ (Nat.le_refl _) hpN hp0 One.u P0 Fk Fi Fs Ak Ai dK rfl
theorem ef_dn (m : MethodId) (x0 : Addr) (x1 : Int32) (x2 : UInt64) (x3 : Int32) : entryFrame m #[(.ref x0), (.int x1), (.double x2), (.int x3)] 6 = mkF m 0 #[.val (.ref x0), .val (.int x1), .val (.double x2), .second, .val (.int x3), .unset] [] := by first | (simp [entryFrame, mkF, argsToLocals, Value.category]; done) | rfl
theorem d_dn_104 : decode prog_15_method_10_code 104 = .ok (.aload_n 0, 1) := by decide +kernel
theorem d_dn_105 : decode prog_15_method_10_code 105 = .ok (.getfield 19, 3) := by decide +kernel
theorem d_dn_108 : decode prog_15_method_10_code 108 = .ok (.iload_n 1, 1) := by decide +kernel
theorem d_dn_109 : decode prog_15_method_10_code 109 = .ok (.dload_n 2, 1) := by decide +kernel
theorem d_dn_110 : decode prog_15_method_10_code 110 = .ok (.dastore, 1) := by decide +kernel
theorem d_dn_111 : decode prog_15_method_10_code 111 = .ok (.aload_n 0, 1) := by decide +kernel
theorem d_dn_112 : decode prog_15_method_10_code 112 = .ok (.getfield 23, 3) := by decide +kernel
theorem d_dn_115 : decode prog_15_method_10_code 115 = .ok (.iload_n 1, 1) := by decide +kernel
theorem d_dn_116 : decode prog_15_method_10_code 116 = .ok (.iload 4, 2) := by decide +kernel
theorem d_dn_118 : decode prog_15_method_10_code 118 = .ok (.iastore, 1) := by decide +kernel
theorem d_dn_119 : decode prog_15_method_10_code 119 = .ok (.return_, 1) := by decide +kernel
theorem d_dn_0 : decode prog_15_method_10_code 0 = .ok (.iconst 2, 1) := by decide +kernel
theorem d_dn_1 : decode prog_15_method_10_code 1 = .ok (.iload_n 1, 1) := by decide +kernel
theorem d_dn_2 : decode prog_15_method_10_code 2 = .ok (.imul, 1) := by decide +kernel
theorem d_dn_3 : decode prog_15_method_10_code 3 = .ok (.iconst 1, 1) := by decide +kernel
theorem d_dn_4 : decode prog_15_method_10_code 4 = .ok (.iadd, 1) := by decide +kernel
theorem d_dn_5 : decode prog_15_method_10_code 5 = .ok (.istore 5, 2) := by decide +kernel
theorem d_dn_7 : decode prog_15_method_10_code 7 = .ok (.iload 5, 2) := by decide +kernel
theorem d_dn_9 : decode prog_15_method_10_code 9 = .ok (.aload_n 0, 1) := by decide +kernel
theorem d_dn_10 : decode prog_15_method_10_code 10 = .ok (.getfield 27, 3) := by decide +kernel
theorem d_dn_13 : decode prog_15_method_10_code 13 = .ok (.if_icmp .ge 91, 3) := by decide +kernel
theorem d_dn_50 : decode prog_15_method_10_code 50 = .ok (.aload_n 0, 1) := by decide +kernel
theorem d_dn_51 : decode prog_15_method_10_code 51 = .ok (.getfield 19, 3) := by decide +kernel
theorem d_dn_54 : decode prog_15_method_10_code 54 = .ok (.iload 5, 2) := by decide +kernel
theorem d_dn_56 : decode prog_15_method_10_code 56 = .ok (.daload, 1) := by decide +kernel
theorem d_dn_57 : decode prog_15_method_10_code 57 = .ok (.dload_n 2, 1) := by decide +kernel
theorem d_dn_58 : decode prog_15_method_10_code 58 = .ok (.dcmp .g, 1) := by decide +kernel
theorem d_dn_59 : decode prog_15_method_10_code 59 = .ok (.ifCond .gt 6, 3) := by decide +kernel
theorem d_dn_65 : decode prog_15_method_10_code 65 = .ok (.aload_n 0, 1) := by decide +kernel
theorem d_dn_66 : decode prog_15_method_10_code 66 = .ok (.getfield 19, 3) := by decide +kernel
theorem d_dn_69 : decode prog_15_method_10_code 69 = .ok (.iload_n 1, 1) := by decide +kernel
theorem d_dn_70 : decode prog_15_method_10_code 70 = .ok (.aload_n 0, 1) := by decide +kernel
theorem d_dn_71 : decode prog_15_method_10_code 71 = .ok (.getfield 19, 3) := by decide +kernel
theorem d_dn_74 : decode prog_15_method_10_code 74 = .ok (.iload 5, 2) := by decide +kernel
theorem d_dn_76 : decode prog_15_method_10_code 76 = .ok (.daload, 1) := by decide +kernel
theorem d_dn_77 : decode prog_15_method_10_code 77 = .ok (.dastore, 1) := by decide +kernel
theorem d_dn_78 : decode prog_15_method_10_code 78 = .ok (.aload_n 0, 1) := by decide +kernel
theorem d_dn_79 : decode prog_15_method_10_code 79 = .ok (.getfield 23, 3) := by decide +kernel
theorem d_dn_82 : decode prog_15_method_10_code 82 = .ok (.iload_n 1, 1) := by decide +kernel
theorem d_dn_83 : decode prog_15_method_10_code 83 = .ok (.aload_n 0, 1) := by decide +kernel
theorem d_dn_84 : decode prog_15_method_10_code 84 = .ok (.getfield 23, 3) := by decide +kernel
theorem d_dn_87 : decode prog_15_method_10_code 87 = .ok (.iload 5, 2) := by decide +kernel
theorem d_dn_89 : decode prog_15_method_10_code 89 = .ok (.iaload, 1) := by decide +kernel
theorem d_dn_90 : decode prog_15_method_10_code 90 = .ok (.iastore, 1) := by decide +kernel
theorem d_dn_91 : decode prog_15_method_10_code 91 = .ok (.iload 5, 2) := by decide +kernel
theorem d_dn_93 : decode prog_15_method_10_code 93 = .ok (.istore_n 1, 1) := by decide +kernel
theorem d_dn_94 : decode prog_15_method_10_code 94 = .ok (.iconst 2, 1) := by decide +kernel
theorem d_dn_95 : decode prog_15_method_10_code 95 = .ok (.iload_n 1, 1) := by decide +kernel
theorem d_dn_96 : decode prog_15_method_10_code 96 = .ok (.imul, 1) := by decide +kernel
theorem d_dn_97 : decode prog_15_method_10_code 97 = .ok (.iconst 1, 1) := by decide +kernel
theorem d_dn_98 : decode prog_15_method_10_code 98 = .ok (.iadd, 1) := by decide +kernel
theorem d_dn_99 : decode prog_15_method_10_code 99 = .ok (.istore 5, 2) := by decide +kernel
theorem d_dn_101 : decode prog_15_method_10_code 101 = .ok (.goto (-94), 3) := by decide +kernel
theorem d_dn_62 : decode prog_15_method_10_code 62 = .ok (.goto 42, 3) := by decide +kernel
theorem d_dn_16 : decode prog_15_method_10_code 16 = .ok (.iload 5, 2) := by decide +kernel
theorem d_dn_18 : decode prog_15_method_10_code 18 = .ok (.iconst 1, 1) := by decide +kernel
theorem d_dn_19 : decode prog_15_method_10_code 19 = .ok (.iadd, 1) := by decide +kernel
theorem d_dn_20 : decode prog_15_method_10_code 20 = .ok (.aload_n 0, 1) := by decide +kernel
theorem d_dn_21 : decode prog_15_method_10_code 21 = .ok (.getfield 27, 3) := by decide +kernel
theorem d_dn_24 : decode prog_15_method_10_code 24 = .ok (.if_icmp .ge 26, 3) := by decide +kernel
theorem d_dn_27 : decode prog_15_method_10_code 27 = .ok (.aload_n 0, 1) := by decide +kernel
theorem d_dn_28 : decode prog_15_method_10_code 28 = .ok (.getfield 19, 3) := by decide +kernel
theorem d_dn_31 : decode prog_15_method_10_code 31 = .ok (.iload 5, 2) := by decide +kernel
theorem d_dn_33 : decode prog_15_method_10_code 33 = .ok (.iconst 1, 1) := by decide +kernel
theorem d_dn_34 : decode prog_15_method_10_code 34 = .ok (.iadd, 1) := by decide +kernel
theorem d_dn_35 : decode prog_15_method_10_code 35 = .ok (.daload, 1) := by decide +kernel
theorem d_dn_36 : decode prog_15_method_10_code 36 = .ok (.aload_n 0, 1) := by decide +kernel
theorem d_dn_37 : decode prog_15_method_10_code 37 = .ok (.getfield 19, 3) := by decide +kernel
theorem d_dn_40 : decode prog_15_method_10_code 40 = .ok (.iload 5, 2) := by decide +kernel
theorem d_dn_42 : decode prog_15_method_10_code 42 = .ok (.daload, 1) := by decide +kernel
theorem d_dn_43 : decode prog_15_method_10_code 43 = .ok (.dcmp .l, 1) := by decide +kernel
theorem d_dn_44 : decode prog_15_method_10_code 44 = .ok (.ifCond .le 6, 3) := by decide +kernel
theorem d_dn_47 : decode prog_15_method_10_code 47 = .ok (.iinc 5 1, 3) := by decide +kernel
set_option maxRecDepth 65536 in
set_option maxHeartbeats 4000000 in
theorem m_dn (l : Launch) (Z : State) (a0 : Array Value) (hw : ∀ d ∈ tables_1, d.before a0 Z = true) (a kb ib : Addr) (sv : Int32) (N n : Nat) (kf : Nat → UInt64) (K : Nat → Int) (J : Nat → Int32) (pv0 : Int32) (x : UInt64) (iv : Int32) (p0 : Nat) (kv : Int) (h0 : Heap) (E0 : Exa Z h0 a "com/example/urnwise/urnwise/sampler/SmallestKeys") (Fk : Fld Z h0 a "com/example/urnwise/urnwise/sampler/SmallestKeys" "keys" "[D" (.ref kb)) (Fi : Fld Z h0 a "com/example/urnwise/urnwise/sampler/SmallestKeys" "indices" "[I" (.ref ib)) (Fs : Fld Z h0 a "com/example/urnwise/urnwise/sampler/SmallestKeys" "size" "I" (.int sv)) (Ak : Ar Z h0 kb .double N (fun i => .double (kf i))) (Ai : Ar Z h0 ib .int N (fun i => .int (J i))) (n1 : a ≠ kb) (n2 : a ≠ ib) (n3 : kb ≠ ib) (hN : N ≤ 16) (hsv : sv.toInt = (n : Int)) (dK : ∀ i, i < N → DInt (K i) (kf i)) (dx : DInt kv x) (hp0 : pv0.toInt = (p0 : Int)) (hpN : p0 < N) (hnN : n ≤ N) :
    OMet l (⟨"com/example/urnwise/urnwise/sampler/SmallestKeys", "siftDown", "(IDI)V"⟩ : MethodName) prog_15_method_10_code 6 (Option.none : Option FieldType) [] ({ frames := 0, cells := 0, slots := 0, locals := 0 } : Room) Z h0 [kb, ib] #[(.ref a), (.int pv0), (.double x), (.int iv)] (fun v h' => v = none ∧ ∃ kf' : Nat → UInt64, Ar Z h' kb .double N (fun i => .double (kf' i)) ∧ (∀ i, i < N → DInt ((own_dn n n K J p0 kv iv).1 i) (kf' i)) ∧ Ar Z h' ib .int N (fun i => .int (((own_dn n n K J p0 kv iv).2) i))) := by
  refine OMet.of (own := "com/example/urnwise/urnwise/sampler/SmallestKeys") (nm := "siftDown") (plainFor_of_name pn_0) rfl rfl ?_
  intro p e s m below meth c T0 P0 hby hml hret hnm
  refine Done.step (T' := T0) (g' := (mkF m 0 #[.val (.ref a), .val (.int pv0), .val (.double x), .second, .val (.int iv), .unset] [])) (fun t kk => castTop (ef_dn m a pv0 x iv) kk) ?_
  have ltk := Ak.ltN
  have lti := Ai.ltN
  have lta := exaN E0
  have fin : ∀ (ip : Nat) (T : State) (h : Heap) (pv : Int32) (s5 : Slot) (kf' : Nat → UInt64) (K' : Nat → Int) (J' : Nat → Int32), ip < N → pv.toInt = (ip : Int) → Pos p l e ({ frames := 0, cells := 0, slots := 0, locals := 0 } : Room) s m #[(.ref a), (.int pv0), (.double x), (.int iv)] below meth c Z "com/example/urnwise/urnwise/sampler/SmallestKeys" [kb, ib] h0.size T h 0 0 → Fld Z h a "com/example/urnwise/urnwise/sampler/SmallestKeys" "keys" "[D" (.ref kb) → Fld Z h a "com/example/urnwise/urnwise/sampler/SmallestKeys" "indices" "[I" (.ref ib) → Ar Z h kb .double N (fun i => .double (kf' i)) → Ar Z h ib .int N (fun i => .int (J' i)) → (∀ i, i < N → DInt (K' i) (kf' i)) → (oupd K' ip kv, oupd J' ip iv) = own_dn n n K J p0 kv iv → Done p l e ({ frames := 0, cells := 0, slots := 0, locals := 0 } : Room) s m #[(.ref a), (.int pv0), (.double x), (.int iv)] below meth c Z "com/example/urnwise/urnwise/sampler/SmallestKeys" [kb, ib] h0.size (fun v h' => v = none ∧ ∃ kf' : Nat → UInt64, Ar Z h' kb .double N (fun i => .double (kf' i)) ∧ (∀ i, i < N → DInt ((own_dn n n K J p0 kv iv).1 i) (kf' i)) ∧ Ar Z h' ib .int N (fun i => .int (((own_dn n n K J p0 kv iv).2) i))) T (mkF m 104 #[.val (.ref a), .val (.int pv), .val (.double x), .second, .val (.int iv), s5] []) := by
    intro ip T h pv s5 kf' K' J' hp hpv P Fk' Fi' Ak' Ai' dK' heq
    refine Done.stepL (pc' := 105) (st' := [(.ref a)]) (fun t kk => ?_) ?_
    · show Steps p.tables e below (T.setTop (mkF m 104 _ [])) t
      refine XS.aloadN P.here P.x rfl (hb hby d_dn_104) rfl rfl ?_
      exact kk
    refine wGet P (host := "") (Or.inl (tw16 hw)) Via.refl Fk' (hb hby d_dn_105) rfl (fun T1 P2 => ?_)
    show Done _ _ _ _ _ _ _ _ _ _ _ _ _ _ _ T1 (mkF m 108 _ [(.ref kb)])
    refine Done.stepL (pc' := 110) (st' := [(.double x), (.int pv), (.ref kb)]) (fun t kk => ?_) ?_
    · show Steps p.tables e below (T1.setTop (mkF m 108 _ [(.ref kb)])) t
      refine XS.iloadN P2.here P2.x rfl (hb hby d_dn_108) rfl ?_
      show Steps p.tables e below (T1.setTop (mkF m 109 _ [(.int pv), (.ref kb)])) t
      refine XS.dloadN P2.here P2.x rfl (hb hby d_dn_109) rfl ?_
      exact kk
    refine wDastore P2 (f := kf') Ak' (j := pv) (i := ip) hpv hp (Or.inl (by simp)) (hb hby d_dn_110) rfl (fun T3 h5 P4 W6 A7 => ?_)
    have szh5 : h5.size = h.size := W6.size
    show Done _ _ _ _ _ _ _ _ _ _ _ _ _ _ _ T3 (mkF m 111 _ [])
    refine Done.stepL (pc' := 112) (st' := [(.ref a)]) (fun t kk => ?_) ?_
    · show Steps p.tables e below (T3.setTop (mkF m 111 _ [])) t
      refine XS.aloadN P4.here P4.x rfl (hb hby d_dn_111) rfl rfl ?_
      exact kk
    have f8 := (Fi'.other W6 (Or.inl (by first | assumption | exact Ne.symm (by assumption) | exact adr_ne (by omega) | omega)))
    refine wGet P4 (host := "") (Or.inl (tw19 hw)) Via.refl f8 (hb hby d_dn_112) rfl (fun T9 P10 => ?_)
    show Done _ _ _ _ _ _ _ _ _ _ _ _ _ _ _ T9 (mkF m 115 _ [(.ref ib)])
    refine Done.stepL (pc' := 118) (st' := [(.int iv), (.int pv), (.ref ib)]) (fun t kk => ?_) ?_
    · show Steps p.tables e below (T9.setTop (mkF m 115 _ [(.ref ib)])) t
      refine XS.iloadN P10.here P10.x rfl (hb hby d_dn_115) rfl ?_
      show Steps p.tables e below (T9.setTop (mkF m 116 _ [(.int pv), (.ref ib)])) t
      refine XS.iload P10.here P10.x rfl (hb hby d_dn_116) rfl ?_
      exact kk
    have f11 := (Ai'.other W6 (by first | assumption | exact Ne.symm (by assumption) | exact adr_ne (by omega) | omega))
    refine wIastore P10 (f := J') f11 (j := pv) (i := ip) hpv hp (Or.inl (by simp)) (hb hby d_dn_118) rfl (fun T12 h14 P13 W15 A16 => ?_)
    have szh14 : h14.size = h5.size := W15.size
    show Done _ _ _ _ _ _ _ _ _ _ _ _ _ _ _ T12 (mkF m 119 _ [])
    have f17 := (A7.other W15 (by first | assumption | exact Ne.symm (by assumption) | exact adr_ne (by omega) | omega))
    exact wRetV P13 hret (hb hby d_dn_119) ⟨rfl, _, f17, (fun i hi => by rw [← heq]; exact own_dupd dK' dx i hi), (by rw [← heq]; exact A16)⟩
  refine Done.step (T' := T0) (g' := (mkF m 7 #[.val (.ref a), .val (.int pv0), .val (.double x), .second, .val (.int iv), .val (.int (((2 : Int32) * pv0) + (1 : Int32)))] [])) (fun t kk => ?_) ?_
  · show Steps p.tables e below (T0.setTop (mkF m 0 _ [])) t
    refine XS.iconst P0.here P0.x rfl (hb hby d_dn_0) ?_
    show Steps p.tables e below (T0.setTop (mkF m 1 _ [(.int (2 : Int32))])) t
    refine XS.iloadN P0.here P0.x rfl (hb hby d_dn_1) rfl ?_
    show Steps p.tables e below (T0.setTop (mkF m 2 _ [(.int pv0), (.int (2 : Int32))])) t
    refine XS.imul P0.here P0.x rfl (hb hby d_dn_2) rfl ?_
    show Steps p.tables e below (T0.setTop (mkF m 3 _ [(.int ((2 : Int32) * pv0))])) t
    refine XS.iconst P0.here P0.x rfl (hb hby d_dn_3) ?_
    show Steps p.tables e below (T0.setTop (mkF m 4 _ [(.int (1 : Int32)), (.int ((2 : Int32) * pv0))])) t
    refine XS.iadd P0.here P0.x rfl (hb hby d_dn_4) rfl ?_
    show Steps p.tables e below (T0.setTop (mkF m 5 _ [(.int (((2 : Int32) * pv0) + (1 : Int32)))])) t
    refine XS.istore P0.here P0.x rfl (hb hby d_dn_5) rfl (l' := #[.val (.ref a), .val (.int pv0), .val (.double x), .second, .val (.int iv), .val (.int (((2 : Int32) * pv0) + (1 : Int32)))]) rfl ?_
    exact kk
  have loop : ∀ (r : Nat) (ip : Nat) (T : State) (h : Heap) (pv ch : Int32) (kf' : Nat → UInt64) (K' : Nat → Int) (J' : Nat → Int32), n ≤ ip + r → ip < N → pv.toInt = (ip : Int) → ch.toInt = ((2 * ip + 1 : Nat) : Int) → Pos p l e ({ frames := 0, cells := 0, slots := 0, locals := 0 } : Room) s m #[(.ref a), (.int pv0), (.double x), (.int iv)] below meth c Z "com/example/urnwise/urnwise/sampler/SmallestKeys" [kb, ib] h0.size T h 0 0 → Fld Z h a "com/example/urnwise/urnwise/sampler/SmallestKeys" "keys" "[D" (.ref kb) → Fld Z h a "com/example/urnwise/urnwise/sampler/SmallestKeys" "indices" "[I" (.ref ib) → Fld Z h a "com/example/urnwise/urnwise/sampler/SmallestKeys" "size" "I" (.int sv) → Ar Z h kb .double N (fun i => .double (kf' i)) → Ar Z h ib .int N (fun i => .int (J' i)) → (∀ i, i < N → DInt (K' i) (kf' i)) → own_dn r n K' J' ip kv iv = own_dn n n K J p0 kv iv → Done p l e ({ frames := 0, cells := 0, slots := 0, locals := 0 } : Room) s m #[(.ref a), (.int pv0), (.double x), (.int iv)] below meth c Z "com/example/urnwise/urnwise/sampler/SmallestKeys" [kb, ib] h0.size (fun v h' => v = none ∧ ∃ kf' : Nat → UInt64, Ar Z h' kb .double N (fun i => .double (kf' i)) ∧ (∀ i, i < N → DInt ((own_dn n n K J p0 kv iv).1 i) (kf' i)) ∧ Ar Z h' ib .int N (fun i => .int (((own_dn n n K J p0 kv iv).2) i))) T (mkF m 7 #[.val (.ref a), .val (.int pv), .val (.double x), .second, .val (.int iv), .val (.int ch)] []) := by
    intro r
    induction r with
    | zero =>
      intro ip T h pv ch kf' K' J' hr hp hpv hch P Fk' Fi' Fs' Ak' Ai' dK' heq
      refine Done.stepL (pc' := 10) (st' := [(.ref a), (.int ch)]) (fun t kk => ?_) ?_
      · show Steps p.tables e below (T.setTop (mkF m 7 _ [])) t
        refine XS.iload P.here P.x rfl (hb hby d_dn_7) rfl ?_
        show Steps p.tables e below (T.setTop (mkF m 9 _ [(.int ch)])) t
        refine XS.aloadN P.here P.x rfl (hb hby d_dn_9) rfl rfl ?_
        exact kk
      refine wGet P (host := "") (Or.inl (tw26 hw)) Via.refl Fs' (hb hby d_dn_10) rfl (fun T18 P19 => ?_)
      show Done _ _ _ _ _ _ _ _ _ _ _ _ _ _ _ T18 (mkF m 13 _ [(.int sv), (.int ch)])
      refine Done.stepL (pc' := 104) (st' := []) (fun t kk => ?_) ?_
      · show Steps p.tables e below (T18.setTop (mkF m 13 _ [(.int sv), (.int ch)])) t
        refine XS.icmpYes P19.here P19.x rfl (pc0 := 13) (pc' := 104) rfl (hb hby d_dn_13) rfl (iiW_ge_t (by rw [own_lt' hch hsv]; omega)) (by decide) (by decide) ?_
        exact kk
      exact fin ip _ _ _ _ _ _ _ (by omega) hpv P19 Fk' Fi' Ak' Ai' dK' heq
    | succ r ih =>
      intro ip T h pv ch kf' K' J' hr hp hpv hch P Fk' Fi' Fs' Ak' Ai' dK' heq
      rw [own_dn] at heq
      have mid : ∀ (T' : State) (dv : Int32) (d : Nat), dv.toInt = (d : Int) → d < n → ip < d → own_d n K' ip = d → Pos p l e ({ frames := 0, cells := 0, slots := 0, locals := 0 } : Room) s m #[(.ref a), (.int pv0), (.double x), (.int iv)] below meth c Z "com/example/urnwise/urnwise/sampler/SmallestKeys" [kb, ib] h0.size T' h 0 0 → Done p l e ({ frames := 0, cells := 0, slots := 0, locals := 0 } : Room) s m #[(.ref a), (.int pv0), (.double x), (.int iv)] below meth c Z "com/example/urnwise/urnwise/sampler/SmallestKeys" [kb, ib] h0.size (fun v h' => v = none ∧ ∃ kf' : Nat → UInt64, Ar Z h' kb .double N (fun i => .double (kf' i)) ∧ (∀ i, i < N → DInt ((own_dn n n K J p0 kv iv).1 i) (kf' i)) ∧ Ar Z h' ib .int N (fun i => .int (((own_dn n n K J p0 kv iv).2) i))) T' (mkF m 50 #[.val (.ref a), .val (.int pv), .val (.double x), .second, .val (.int iv), .val (.int dv)] []) := by
        intro T' dv d hdv hdn hpd hd P'
        rw [if_pos (show 2 * ip + 1 < n by have : own_d n K' ip = 2 * ip + 1 ∨ own_d n K' ip = 2 * ip + 2 := own_d_or n K' ip; omega), hd] at heq
        refine Done.stepL (pc' := 51) (st' := [(.ref a)]) (fun t kk => ?_) ?_
        · show Steps p.tables e below (T'.setTop (mkF m 50 _ [])) t
          refine XS.aloadN P'.here P'.x rfl (hb hby d_dn_50) rfl rfl ?_
          exact kk
        refine wGet P' (host := "") (Or.inl (tw16 hw)) Via.refl Fk' (hb hby d_dn_51) rfl (fun T20 P21 => ?_)
        show Done _ _ _ _ _ _ _ _ _ _ _ _ _ _ _ T20 (mkF m 54 _ [(.ref kb)])
        refine Done.stepL (pc' := 56) (st' := [(.int dv), (.ref kb)]) (fun t kk => ?_) ?_
        · show Steps p.tables e below (T20.setTop (mkF m 54 _ [(.ref kb)])) t
          refine XS.iload P21.here P21.x rfl (hb hby d_dn_54) rfl ?_
          exact kk
        refine wDaload P21 Ak' (j := dv) (i := d) hdv (by omega) (v := (.double (kf' d))) rfl (hb hby d_dn_56) rfl ?_
        show Done _ _ _ _ _ _ _ _ _ _ _ _ _ _ _ T20 (mkF m 57 _ [(.double (kf' d))])
        refine Done.stepL (pc' := 59) (st' := [(.int (cmpZ (K' d) kv))]) (fun t kk => ?_) ?_
        · show Steps p.tables e below (T20.setTop (mkF m 57 _ [(.double (kf' d))])) t
          refine XS.dloadN P21.here P21.x rfl (hb hby d_dn_57) rfl ?_
          show Steps p.tables e below (T20.setTop (mkF m 58 _ [(.double x), (.double (kf' d))])) t
          refine XS.dcmpS P21.here P21.x rfl (hb hby d_dn_58) rfl (dcmpZ (dK' d (by omega)) dx) ?_
          exact kk
        by_cases hl : kv < (K' d)
        · rw [if_pos hl] at heq
          refine Done.stepL (pc' := 66) (st' := [(.ref a)]) (fun t kk => ?_) ?_
          · show Steps p.tables e below (T20.setTop (mkF m 59 _ [(.int (cmpZ (K' d) kv))])) t
            refine XS.ifYes P21.here P21.x rfl (pc0 := 59) (pc' := 65) rfl (hb hby d_dn_59) rfl (ciW_gt_t hl) (by decide) (by decide) ?_
            show Steps p.tables e below (T20.setTop (mkF m 65 _ [])) t
            refine XS.aloadN P21.here P21.x rfl (hb hby d_dn_65) rfl rfl ?_
            exact kk
          refine wGet P21 (host := "") (Or.inl (tw16 hw)) Via.refl Fk' (hb hby d_dn_66) rfl (fun T22 P23 => ?_)
          show Done _ _ _ _ _ _ _ _ _ _ _ _ _ _ _ T22 (mkF m 69 _ [(.ref kb)])
          refine Done.stepL (pc' := 71) (st' := [(.ref a), (.int pv), (.ref kb)]) (fun t kk => ?_) ?_
          · show Steps p.tables e below (T22.setTop (mkF m 69 _ [(.ref kb)])) t
            refine XS.iloadN P23.here P23.x rfl (hb hby d_dn_69) rfl ?_
            show Steps p.tables e below (T22.setTop (mkF m 70 _ [(.int pv), (.ref kb)])) t
            refine XS.aloadN P23.here P23.x rfl (hb hby d_dn_70) rfl rfl ?_
            exact kk
          refine wGet P23 (host := "") (Or.inl (tw16 hw)) Via.refl Fk' (hb hby d_dn_71) rfl (fun T24 P25 => ?_)
          show Done _ _ _ _ _ _ _ _ _ _ _ _ _ _ _ T24 (mkF m 74 _ [(.ref kb), (.int pv), (.ref kb)])
          refine Done.stepL (pc' := 76) (st' := [(.int dv), (.ref kb), (.int pv), (.ref kb)]) (fun t kk => ?_) ?_
          · show Steps p.tables e below (T24.setTop (mkF m 74 _ [(.ref kb), (.int pv), (.ref kb)])) t
            refine XS.iload P25.here P25.x rfl (hb hby d_dn_74) rfl ?_
            exact kk
          refine wDaload P25 Ak' (j := dv) (i := d) hdv (by omega) (v := (.double (kf' d))) rfl (hb hby d_dn_76) rfl ?_
          show Done _ _ _ _ _ _ _ _ _ _ _ _ _ _ _ T24 (mkF m 77 _ [(.double (kf' d)), (.int pv), (.ref kb)])
          refine wDastore P25 (f := kf') Ak' (j := pv) (i := ip) hpv hp (Or.inl (by simp)) (hb hby d_dn_77) rfl (fun T26 h28 P27 W29 A30 => ?_)
          have szh28 : h28.size = h.size := W29.size
          show Done _ _ _ _ _ _ _ _ _ _ _ _ _ _ _ T26 (mkF m 78 _ [])
          refine Done.stepL (pc' := 79) (st' := [(.ref a)]) (fun t kk => ?_) ?_
          · show Steps p.tables e below (T26.setTop (mkF m 78 _ [])) t
            refine XS.aloadN P27.here P27.x rfl (hb hby d_dn_78) rfl rfl ?_
            exact kk
          have f31 := (Fi'.other W29 (Or.inl (by first | assumption | exact Ne.symm (by assumption) | exact adr_ne (by omega) | omega)))
          refine wGet P27 (host := "") (Or.inl (tw19 hw)) Via.refl f31 (hb hby d_dn_79) rfl (fun T32 P33 => ?_)
          show Done _ _ _ _ _ _ _ _ _ _ _ _ _ _ _ T32 (mkF m 82 _ [(.ref ib)])
          refine Done.stepL (pc' := 84) (st' := [(.ref a), (.int pv), (.ref ib)]) (fun t kk => ?_) ?_
          · show Steps p.tables e below (T32.setTop (mkF m 82 _ [(.ref ib)])) t
            refine XS.iloadN P33.here P33.x rfl (hb hby d_dn_82) rfl ?_
            show Steps p.tables e below (T32.setTop (mkF m 83 _ [(.int pv), (.ref ib)])) t
            refine XS.aloadN P33.here P33.x rfl (hb hby d_dn_83) rfl rfl ?_
            exact kk
          refine wGet P33 (host := "") (Or.inl (tw19 hw)) Via.refl f31 (hb hby d_dn_84) rfl (fun T34 P35 => ?_)
          show Done _ _ _ _ _ _ _ _ _ _ _ _ _ _ _ T34 (mkF m 87 _ [(.ref ib), (.int pv), (.ref ib)])
          refine Done.stepL (pc' := 89) (st' := [(.int dv), (.ref ib), (.int pv), (.ref ib)]) (fun t kk => ?_) ?_
          · show Steps p.tables e below (T34.setTop (mkF m 87 _ [(.ref ib), (.int pv), (.ref ib)])) t
            refine XS.iload P35.here P35.x rfl (hb hby d_dn_87) rfl ?_
            exact kk
          have f36 := (Ai'.other W29 (by first | assumption | exact Ne.symm (by assumption) | exact adr_ne (by omega) | omega))
          refine wIaload P35 f36 (j := dv) (i := d) hdv (by omega) (v := (.int (J' d))) rfl (hb hby d_dn_89) rfl ?_
          show Done _ _ _ _ _ _ _ _ _ _ _ _ _ _ _ T34 (mkF m 90 _ [(.int (J' d)), (.int pv), (.ref ib)])
          refine wIastore P35 (f := J') f36 (j := pv) (i := ip) hpv hp (Or.inl (by simp)) (hb hby d_dn_90) rfl (fun T37 h39 P38 W40 A41 => ?_)
          have szh39 : h39.size = h28.size := W40.size
          show Done _ _ _ _ _ _ _ _ _ _ _ _ _ _ _ T37 (mkF m 91 _ [])
          refine Done.step (T' := T37) (g' := (mkF m 7 #[.val (.ref a), .val (.int dv), .val (.double x), .second, .val (.int iv), .val (.int (((2 : Int32) * dv) + (1 : Int32)))] [])) (fun t kk => ?_) ?_
          · show Steps p.tables e below (T37.setTop (mkF m 91 _ [])) t
            refine XS.iload P38.here P38.x rfl (hb hby d_dn_91) rfl ?_
            show Steps p.tables e below (T37.setTop (mkF m 93 _ [(.int dv)])) t
            refine XS.istoreN P38.here P38.x rfl (hb hby d_dn_93) rfl (l' := #[.val (.ref a), .val (.int dv), .val (.double x), .second, .val (.int iv), .val (.int dv)]) rfl ?_
            show Steps p.tables e below (T37.setTop (mkF m 94 _ [])) t
            refine XS.iconst P38.here P38.x rfl (hb hby d_dn_94) ?_
            show Steps p.tables e below (T37.setTop (mkF m 95 _ [(.int (2 : Int32))])) t
            refine XS.iloadN P38.here P38.x rfl (hb hby d_dn_95) rfl ?_
            show Steps p.tables e below (T37.setTop (mkF m 96 _ [(.int dv), (.int (2 : Int32))])) t
            refine XS.imul P38.here P38.x rfl (hb hby d_dn_96) rfl ?_
            show Steps p.tables e below (T37.setTop (mkF m 97 _ [(.int ((2 : Int32) * dv))])) t
            refine XS.iconst P38.here P38.x rfl (hb hby d_dn_97) ?_
            show Steps p.tables e below (T37.setTop (mkF m 98 _ [(.int (1 : Int32)), (.int ((2 : Int32) * dv))])) t
            refine XS.iadd P38.here P38.x rfl (hb hby d_dn_98) rfl ?_
            show Steps p.tables e below (T37.setTop (mkF m 99 _ [(.int (((2 : Int32) * dv) + (1 : Int32)))])) t
            refine XS.istore P38.here P38.x rfl (hb hby d_dn_99) rfl (l' := #[.val (.ref a), .val (.int dv), .val (.double x), .second, .val (.int iv), .val (.int (((2 : Int32) * dv) + (1 : Int32)))]) rfl ?_
            show Steps p.tables e below (T37.setTop (mkF m 101 _ [])) t
            refine XS.goto P38.here P38.x rfl (pc0 := 101) (pc' := 7) rfl (hb hby d_dn_101) (by decide) (by decide) ?_
            exact kk
          have f42 := ((Fk'.other W29 (Or.inl (by first | assumption | exact Ne.symm (by assumption) | exact adr_ne (by omega) | omega))).other W40 (Or.inl (by first | assumption | exact Ne.symm (by assumption) | exact adr_ne (by omega) | omega)))
          have f43 := (f31.other W40 (Or.inl (by first | assumption | exact Ne.symm (by assumption) | exact adr_ne (by omega) | omega)))
          have f44 := ((Fs'.other W29 (Or.inl (by first | assumption | exact Ne.symm (by assumption) | exact adr_ne (by omega) | omega))).other W40 (Or.inl (by first | assumption | exact Ne.symm (by assumption) | exact adr_ne (by omega) | omega)))
          have f45 := (A30.other W40 (by first | assumption | exact Ne.symm (by assumption) | exact adr_ne (by omega) | omega))
          exact ih d _ _ _ _ _ _ _ (by omega) (by omega) hdv (own_ch hdv (by omega)) P38 f42 f43 f44 f45 A41 (own_dupd dK' (dK' d (by omega))) heq
        · rw [if_neg hl] at heq
          refine Done.stepL (pc' := 104) (st' := []) (fun t kk => ?_) ?_
          · show Steps p.tables e below (T20.setTop (mkF m 59 _ [(.int (cmpZ (K' d) kv))])) t
            refine XS.ifNo P21.here P21.x rfl (hb hby d_dn_59) rfl (ciW_gt_f (show ¬ (kv < (K' d)) from hl)) ?_
            show Steps p.tables e below (T20.setTop (mkF m 62 _ [])) t
            refine XS.goto P21.here P21.x rfl (pc0 := 62) (pc' := 104) rfl (hb hby d_dn_62) (by decide) (by decide) ?_
            exact kk
          exact fin ip _ _ _ _ _ _ _ (by omega) hpv P21 Fk' Fi' Ak' Ai' dK' heq
      refine Done.stepL (pc' := 10) (st' := [(.ref a), (.int ch)]) (fun t kk => ?_) ?_
      · show Steps p.tables e below (T.setTop (mkF m 7 _ [])) t
        refine XS.iload P.here P.x rfl (hb hby d_dn_7) rfl ?_
        show Steps p.tables e below (T.setTop (mkF m 9 _ [(.int ch)])) t
        refine XS.aloadN P.here P.x rfl (hb hby d_dn_9) rfl rfl ?_
        exact kk
      refine wGet P (host := "") (Or.inl (tw26 hw)) Via.refl Fs' (hb hby d_dn_10) rfl (fun T46 P47 => ?_)
      show Done _ _ _ _ _ _ _ _ _ _ _ _ _ _ _ T46 (mkF m 13 _ [(.int sv), (.int ch)])
      by_cases hc : ¬ (ch < sv)
      · rw [if_neg (fun z => hc ((own_lt' hch hsv).mpr z))] at heq
        refine Done.stepL (pc' := 104) (st' := []) (fun t kk => ?_) ?_
        · show Steps p.tables e below (T46.setTop (mkF m 13 _ [(.int sv), (.int ch)])) t
          refine XS.icmpYes P47.here P47.x rfl (pc0 := 13) (pc' := 104) rfl (hb hby d_dn_13) rfl (iiW_ge_t hc) (by decide) (by decide) ?_
          exact kk
        exact fin ip _ _ _ _ _ _ _ (by omega) hpv P47 Fk' Fi' Ak' Ai' dK' heq
      · have hc' : 2 * ip + 1 < n := (own_lt' hch hsv).mp (Decidable.not_not.mp hc)
        refine Done.stepL (pc' := 21) (st' := [(.ref a), (.int (ch + (1 : Int32)))]) (fun t kk => ?_) ?_
        · show Steps p.tables e below (T46.setTop (mkF m 13 _ [(.int sv), (.int ch)])) t
          refine XS.icmpNo P47.here P47.x rfl (hb hby d_dn_13) rfl (iiW_ge_f (show ¬ (¬ (ch < sv)) from hc)) ?_
          show Steps p.tables e below (T46.setTop (mkF m 16 _ [])) t
          refine XS.iload P47.here P47.x rfl (hb hby d_dn_16) rfl ?_
          show Steps p.tables e below (T46.setTop (mkF m 18 _ [(.int ch)])) t
          refine XS.iconst P47.here P47.x rfl (hb hby d_dn_18) ?_
          show Steps p.tables e below (T46.setTop (mkF m 19 _ [(.int (1 : Int32)), (.int ch)])) t
          refine XS.iadd P47.here P47.x rfl (hb hby d_dn_19) rfl ?_
          show Steps p.tables e below (T46.setTop (mkF m 20 _ [(.int (ch + (1 : Int32)))])) t
          refine XS.aloadN P47.here P47.x rfl (hb hby d_dn_20) rfl rfl ?_
          exact kk
        refine wGet P47 (host := "") (Or.inl (tw26 hw)) Via.refl Fs' (hb hby d_dn_21) rfl (fun T48 P49 => ?_)
        show Done _ _ _ _ _ _ _ _ _ _ _ _ _ _ _ T48 (mkF m 24 _ [(.int sv), (.int (ch + (1 : Int32)))])
        by_cases hbb : ¬ ((ch + (1 : Int32)) < sv)
        · have hd2 : ¬ (2 * ip + 2 < n) := fun z => hbb ((own_lt' (own_in hch (by omega)) hsv).mpr z)
          refine Done.stepL (pc' := 50) (st' := []) (fun t kk => ?_) ?_
          · show Steps p.tables e below (T48.setTop (mkF m 24 _ [(.int sv), (.int (ch + (1 : Int32)))])) t
            refine XS.icmpYes P49.here P49.x rfl (pc0 := 24) (pc' := 50) rfl (hb hby d_dn_24) rfl (iiW_ge_t hbb) (by decide) (by decide) ?_
            exact kk
          exact mid _ _ (2 * ip + 1) hch (by omega) (by omega) (if_neg fun z => hd2 z.1) P49
        · have hd2 : 2 * ip + 2 < n := (own_lt' (own_in hch (by omega)) hsv).mp (Decidable.not_not.mp hbb)
          refine Done.stepL (pc' := 28) (st' := [(.ref a)]) (fun t kk => ?_) ?_
          · show Steps p.tables e below (T48.setTop (mkF m 24 _ [(.int sv), (.int (ch + (1 : Int32)))])) t
            refine XS.icmpNo P49.here P49.x rfl (hb hby d_dn_24) rfl (iiW_ge_f (show ¬ (¬ ((ch + (1 : Int32)) < sv)) from hbb)) ?_
            show Steps p.tables e below (T48.setTop (mkF m 27 _ [])) t
            refine XS.aloadN P49.here P49.x rfl (hb hby d_dn_27) rfl rfl ?_
            exact kk
          refine wGet P49 (host := "") (Or.inl (tw16 hw)) Via.refl Fk' (hb hby d_dn_28) rfl (fun T50 P51 => ?_)
          show Done _ _ _ _ _ _ _ _ _ _ _ _ _ _ _ T50 (mkF m 31 _ [(.ref kb)])
          refine Done.stepL (pc' := 35) (st' := [(.int (ch + (1 : Int32))), (.ref kb)]) (fun t kk => ?_) ?_
          · show Steps p.tables e below (T50.setTop (mkF m 31 _ [(.ref kb)])) t
            refine XS.iload P51.here P51.x rfl (hb hby d_dn_31) rfl ?_
            show Steps p.tables e below (T50.setTop (mkF m 33 _ [(.int ch), (.ref kb)])) t
            refine XS.iconst P51.here P51.x rfl (hb hby d_dn_33) ?_
            show Steps p.tables e below (T50.setTop (mkF m 34 _ [(.int (1 : Int32)), (.int ch), (.ref kb)])) t
            refine XS.iadd P51.here P51.x rfl (hb hby d_dn_34) rfl ?_
            exact kk
          refine wDaload P51 Ak' (j := (ch + (1 : Int32))) (i := (2 * ip + 2)) (own_in hch (by omega)) (by omega) (v := (.double (kf' (2 * ip + 2)))) rfl (hb hby d_dn_35) rfl ?_
          show Done _ _ _ _ _ _ _ _ _ _ _ _ _ _ _ T50 (mkF m 36 _ [(.double (kf' (2 * ip + 2)))])
          refine Done.stepL (pc' := 37) (st' := [(.ref a), (.double (kf' (2 * ip + 2)))]) (fun t kk => ?_) ?_
          · show Steps p.tables e below (T50.setTop (mkF m 36 _ [(.double (kf' (2 * ip + 2)))])) t
            refine XS.aloadN P51.here P51.x rfl (hb hby d_dn_36) rfl rfl ?_
            exact kk
          refine wGet P51 (host := "") (Or.inl (tw16 hw)) Via.refl Fk' (hb hby d_dn_37) rfl (fun T52 P53 => ?_)
          show Done _ _ _ _ _ _ _ _ _ _ _ _ _ _ _ T52 (mkF m 40 _ [(.ref kb), (.double (kf' (2 * ip + 2)))])
          refine Done.stepL (pc' := 42) (st' := [(.int ch), (.ref kb), (.double (kf' (2 * ip + 2)))]) (fun t kk => ?_) ?_
          · show Steps p.tables e below (T52.setTop (mkF m 40 _ [(.ref kb), (.double (kf' (2 * ip + 2)))])) t
            refine XS.iload P53.here P53.x rfl (hb hby d_dn_40) rfl ?_
            exact kk
          refine wDaload P53 Ak' (j := ch) (i := (2 * ip + 1)) hch (by omega) (v := (.double (kf' (2 * ip + 1)))) rfl (hb hby d_dn_42) rfl ?_
          show Done _ _ _ _ _ _ _ _ _ _ _ _ _ _ _ T52 (mkF m 43 _ [(.double (kf' (2 * ip + 1))), (.double (kf' (2 * ip + 2)))])
          refine Done.stepL (pc' := 44) (st' := [(.int (cmpZ (K' (2 * ip + 2)) (K' (2 * ip + 1))))]) (fun t kk => ?_) ?_
          · show Steps p.tables e below (T52.setTop (mkF m 43 _ [(.double (kf' (2 * ip + 1))), (.double (kf' (2 * ip + 2)))])) t
            refine XS.dcmpS P53.here P53.x rfl (hb hby d_dn_43) rfl (dcmpZ (dK' (2 * ip + 2) (by omega)) (dK' (2 * ip + 1) (by omega))) ?_
            exact kk
          by_cases hg : ¬ ((K' (2 * ip + 1)) < (K' (2 * ip + 2)))
          · refine Done.stepL (pc' := 50) (st' := []) (fun t kk => ?_) ?_
            · show Steps p.tables e below (T52.setTop (mkF m 44 _ [(.int (cmpZ (K' (2 * ip + 2)) (K' (2 * ip + 1))))])) t
              refine XS.ifYes P53.here P53.x rfl (pc0 := 44) (pc' := 50) rfl (hb hby d_dn_44) rfl (ciW_le_t hg) (by decide) (by decide) ?_
              exact kk
            exact mid _ _ (2 * ip + 1) hch (by omega) (by omega) (if_neg fun z => hg z.2) P53
          · refine Done.step (T' := T52) (g' := (mkF m 50 #[.val (.ref a), .val (.int pv), .val (.double x), .second, .val (.int iv), .val (.int (ch + (1 : Int32)))] [])) (fun t kk => ?_) ?_
            · show Steps p.tables e below (T52.setTop (mkF m 44 _ [(.int (cmpZ (K' (2 * ip + 2)) (K' (2 * ip + 1))))])) t
              refine XS.ifNo P53.here P53.x rfl (hb hby d_dn_44) rfl (ciW_le_f (show ¬ (¬ ((K' (2 * ip + 1)) < (K' (2 * ip + 2)))) from hg)) ?_
              show Steps p.tables e below (T52.setTop (mkF m 47 _ [])) t
              refine XS.iinc P53.here P53.x rfl (hb hby d_dn_47) rfl (l' := #[.val (.ref a), .val (.int pv), .val (.double x), .second, .val (.int iv), .val (.int (ch + (1 : Int32)))]) rfl ?_
              exact kk
            exact mid _ _ (2 * ip + 2) (own_in hch (by omega)) (by omega) (by omega) (if_pos ⟨hd2, Decidable.not_not.mp hg⟩) P53
  exact loop n p0 _ _ _ _ _ _ _ (by omega) hpN hp0 (own_ch hp0 (by omega)) P0 Fk Fi Fs Ak Ai dK rfl
theorem ef_offA (m : MethodId) (x0 : Addr) (x1 : UInt64) (x2 : Int32) : entryFrame m #[(.ref x0), (.double x1), (.int x2)] 4 = mkF m 0 #[.val (.ref x0), .val (.double x1), .second, .val (.int x2)] [] := by first | (simp [entryFrame, mkF, argsToLocals, Value.category]; done) | rfl
theorem d_offA_0 : decode prog_15_method_2_code 0 = .ok (.aload_n 0, 1) := by decide +kernel
theorem d_offA_1 : decode prog_15_method_2_code 1 = .ok (.getfield 27, 3) := by decide +kernel
theorem d_offA_4 : decode prog_15_method_2_code 4 = .ok (.aload_n 0, 1) := by decide +kernel
theorem d_offA_5 : decode prog_15_method_2_code 5 = .ok (.getfield 7, 3) := by decide +kernel
theorem d_offA_8 : decode prog_15_method_2_code 8 = .ok (.if_icmp .ge 42, 3) := by decide +kernel
theorem d_offA_11 : decode prog_15_method_2_code 11 = .ok (.aload_n 0, 1) := by decide +kernel
theorem d_offA_12 : decode prog_15_method_2_code 12 = .ok (.getfield 27, 3) := by decide +kernel
theorem d_offA_15 : decode prog_15_method_2_code 15 = .ok (.aload_n 0, 1) := by decide +kernel
theorem d_offA_16 : decode prog_15_method_2_code 16 = .ok (.getfield 19, 3) := by decide +kernel
theorem d_offA_19 : decode prog_15_method_2_code 19 = .ok (.arraylength, 1) := by decide +kernel
theorem d_offA_20 : decode prog_15_method_2_code 20 = .ok (.if_icmp .ne 7, 3) := by decide +kernel
theorem d_offA_27 : decode prog_15_method_2_code 27 = .ok (.aload_n 0, 1) := by decide +kernel
theorem d_offA_28 : decode prog_15_method_2_code 28 = .ok (.aload_n 0, 1) := by decide +kernel
theorem d_offA_29 : decode prog_15_method_2_code 29 = .ok (.getfield 27, 3) := by decide +kernel
theorem d_offA_32 : decode prog_15_method_2_code 32 = .ok (.dload_n 1, 1) := by decide +kernel
theorem d_offA_33 : decode prog_15_method_2_code 33 = .ok (.iload_n 3, 1) := by decide +kernel
theorem d_offA_34 : decode prog_15_method_2_code 34 = .ok (.invokevirtual 33, 3) := by decide +kernel
theorem d_offA_37 : decode prog_15_method_2_code 37 = .ok (.aload_n 0, 1) := by decide +kernel
theorem d_offA_38 : decode prog_15_method_2_code 38 = .ok (.dup, 1) := by decide +kernel
theorem d_offA_39 : decode prog_15_method_2_code 39 = .ok (.getfield 27, 3) := by decide +kernel
theorem d_offA_42 : decode prog_15_method_2_code 42 = .ok (.iconst 1, 1) := by decide +kernel
theorem d_offA_43 : decode prog_15_method_2_code 43 = .ok (.iadd, 1) := by decide +kernel
theorem d_offA_44 : decode prog_15_method_2_code 44 = .ok (.putfield 27, 3) := by decide +kernel
theorem d_offA_47 : decode prog_15_method_2_code 47 = .ok (.goto 21, 3) := by decide +kernel
theorem d_offA_68 : decode prog_15_method_2_code 68 = .ok (.return_, 1) := by decide +kernel
set_option maxRecDepth 65536 in
set_option maxHeartbeats 4000000 in
theorem m_offA (l : Launch) (Z : State) (a0 : Array Value) (hw : ∀ d ∈ tables_1, d.before a0 Z = true) (a kb ib : Addr) (sv : Int32) (N n : Nat) (kf : Nat → UInt64) (K : Nat → Int) (J : Nat → Int32) (cv : Int32) (x : UInt64) (iv : Int32) (kv : Int) (sv' : Int32) (h0 : Heap) (E0 : Exa Z h0 a "com/example/urnwise/urnwise/sampler/SmallestKeys") (Fk : Fld Z h0 a "com/example/urnwise/urnwise/sampler/SmallestKeys" "keys" "[D" (.ref kb)) (Fi : Fld Z h0 a "com/example/urnwise/urnwise/sampler/SmallestKeys" "indices" "[I" (.ref ib)) (Fs : Fld Z h0 a "com/example/urnwise/urnwise/sampler/SmallestKeys" "size" "I" (.int sv)) (Fc : Fld Z h0 a "com/example/urnwise/urnwise/sampler/SmallestKeys" "capacity" "I" (.int cv)) (Ak : Ar Z h0 kb .double N (fun i => .double (kf i))) (Ai : Ar Z h0 ib .int N (fun i => .int (J i))) (n1 : a ≠ kb) (n2 : a ≠ ib) (n3 : kb ≠ ib) (hN : N ≤ 16) (hsv : sv.toInt = (n : Int)) (dK : ∀ i, i < N → DInt (K i) (kf i)) (dx : DInt kv x) (hlt : sv < cv) (hnN : n < N) (hs1 : sv + (1 : Int32) = sv') :
    OMet l (⟨"com/example/urnwise/urnwise/sampler/SmallestKeys", "offer", "(DI)V"⟩ : MethodName) prog_15_method_2_code 4 (Option.none : Option FieldType) [] ({ frames := 1, cells := 0, slots := 0, locals := 17 } : Room) Z h0 [a, kb, ib] #[(.ref a), (.double x), (.int iv)] (fun v h' => v = none ∧ ∃ kf' : Nat → UInt64, Fld Z h' a "com/example/urnwise/urnwise/sampler/SmallestKeys" "size" "I" (.int sv') ∧ Fld Z h' a "com/example/urnwise/urnwise/sampler/SmallestKeys" "keys" "[D" (.ref kb) ∧ Fld Z h' a "com/example/urnwise/urnwise/sampler/SmallestKeys" "indices" "[I" (.ref ib) ∧ Fld Z h' a "com/example/urnwise/urnwise/sampler/SmallestKeys" "capacity" "I" (.int cv) ∧ Ar Z h' kb .double N (fun i => .double (kf' i)) ∧ (∀ i, i < N → DInt ((own_of n true K J kv iv).1 i) (kf' i)) ∧ Ar Z h' ib .int N (fun i => .int (((own_of n true K J kv iv).2) i))) := by
  refine OMet.of (own := "com/example/urnwise/urnwise/sampler/SmallestKeys") (nm := "offer") (plainFor_of_name pn_0) rfl rfl ?_
  intro p e s m below meth c T0 P0 hby hml hret hnm
  refine Done.step (T' := T0) (g' := (mkF m 0 #[.val (.ref a), .val (.double x), .second, .val (.int iv)] [])) (fun t kk => castTop (ef_offA m a x iv) kk) ?_
  have ltk := Ak.ltN
  have lti := Ai.ltN
  have lta := exaN E0
  refine Done.stepL (pc' := 1) (st' := [(.ref a)]) (fun t kk => ?_) ?_
  · show Steps p.tables e below (T0.setTop (mkF m 0 _ [])) t
    refine XS.aloadN P0.here P0.x rfl (hb hby d_offA_0) rfl rfl ?_
    exact kk
  refine wGet P0 (host := "") (Or.inl (tw26 hw)) Via.refl Fs (hb hby d_offA_1) rfl (fun T1 P2 => ?_)
  show Done _ _ _ _ _ _ _ _ _ _ _ _ _ _ _ T1 (mkF m 4 _ [(.int sv)])
  refine Done.stepL (pc' := 5) (st' := [(.ref a), (.int sv)]) (fun t kk => ?_) ?_
  · show Steps p.tables e below (T1.setTop (mkF m 4 _ [(.int sv)])) t
    refine XS.aloadN P2.here P2.x rfl (hb hby d_offA_4) rfl rfl ?_
    exact kk
  refine wGet P2 (host := "") (Or.inl (tw9 hw)) Via.refl Fc (hb hby d_offA_5) rfl (fun T3 P4 => ?_)
  show Done _ _ _ _ _ _ _ _ _ _ _ _ _ _ _ T3 (mkF m 8 _ [(.int cv), (.int sv)])
  refine Done.stepL (pc' := 12) (st' := [(.ref a)]) (fun t kk => ?_) ?_
  · show Steps p.tables e below (T3.setTop (mkF m 8 _ [(.int cv), (.int sv)])) t
    refine XS.icmpNo P4.here P4.x rfl (hb hby d_offA_8) rfl (iiW_ge_f (not_not_intro hlt)) ?_
    show Steps p.tables e below (T3.setTop (mkF m 11 _ [])) t
    refine XS.aloadN P4.here P4.x rfl (hb hby d_offA_11) rfl rfl ?_
    exact kk
  refine wGet P4 (host := "") (Or.inl (tw26 hw)) Via.refl Fs (hb hby d_offA_12) rfl (fun T5 P6 => ?_)
  show Done _ _ _ _ _ _ _ _ _ _ _ _ _ _ _ T5 (mkF m 15 _ [(.int sv)])
  refine Done.stepL (pc' := 16) (st' := [(.ref a), (.int sv)]) (fun t kk => ?_) ?_
  · show Steps p.tables e below (T5.setTop (mkF m 15 _ [(.int sv)])) t
    refine XS.aloadN P6.here P6.x rfl (hb hby d_offA_15) rfl rfl ?_
    exact kk
  refine wGet P6 (host := "") (Or.inl (tw16 hw)) Via.refl Fk (hb hby d_offA_16) rfl (fun T7 P8 => ?_)
  show Done _ _ _ _ _ _ _ _ _ _ _ _ _ _ _ T7 (mkF m 19 _ [(.ref kb), (.int sv)])
  refine wLen P8 Ak (z := (Int32.ofNat N)) (own_z (by omega)) (hb hby d_offA_19) rfl ?_
  show Done _ _ _ _ _ _ _ _ _ _ _ _ _ _ _ T7 (mkF m 20 _ [(.int (Int32.ofNat N)), (.int sv)])
  refine Done.stepL (pc' := 29) (st' := [(.ref a), (.ref a)]) (fun t kk => ?_) ?_
  · show Steps p.tables e below (T7.setTop (mkF m 20 _ [(.int (Int32.ofNat N)), (.int sv)])) t
    refine XS.icmpYes P8.here P8.x rfl (pc0 := 20) (pc' := 27) rfl (hb hby d_offA_20) rfl (iiW_ne_t (fun z => by have := congrArg Int32.toInt z; rw [hsv, own_z (by omega)] at this; omega)) (by decide) (by decide) ?_
    show Steps p.tables e below (T7.setTop (mkF m 27 _ [])) t
    refine XS.aloadN P8.here P8.x rfl (hb hby d_offA_27) rfl rfl ?_
    show Steps p.tables e below (T7.setTop (mkF m 28 _ [(.ref a)])) t
    refine XS.aloadN P8.here P8.x rfl (hb hby d_offA_28) rfl rfl ?_
    exact kk
  refine wGet P8 (host := "") (Or.inl (tw26 hw)) Via.refl Fs (hb hby d_offA_29) rfl (fun T9 P10 => ?_)
  show Done _ _ _ _ _ _ _ _ _ _ _ _ _ _ _ T9 (mkF m 32 _ [(.int sv), (.ref a)])
  refine Done.stepL (pc' := 34) (st' := [(.int iv), (.double x), (.int sv), (.ref a)]) (fun t kk => ?_) ?_
  · show Steps p.tables e below (T9.setTop (mkF m 32 _ [(.int sv), (.ref a)])) t
    refine XS.dloadN P10.here P10.x rfl (hb hby d_offA_32) rfl ?_
    show Steps p.tables e below (T9.setTop (mkF m 33 _ [(.double x), (.int sv), (.ref a)])) t
    refine XS.iloadN P10.here P10.x rfl (hb hby d_offA_33) rfl ?_
    exact kk
  refine wCallP P10 (m_up l Z a0 hw a kb ib sv N n kf K J sv x iv n kv h0 E0 Fk Fi Fs Ak Ai n1 n2 n3 hN hsv dK dx hsv hnN) (tw40 hw) (tw41 hw) (tw42 hw) (tw1 hw) (tw2 hw) (tw43 hw) (by decide) E0 (by rw [hml]; rfl) (lenOf pd_0 rfl) (argsL := [(.int sv), (.double x), (.int iv)]) (rest := []) rfl rfl (W := 0) (Nat.le_of_eq rfl) (by decide) (by decide) (by decide) (by decide) (allS (Or.inl (by simp)) (allS (Or.inl (by simp)) all0)) (hb hby d_offA_34) rfl (k' := 0) (n' := 0) rfl rfl ?_
  rintro T11 h17 _ P12 K18 ⟨rfl, kf16, A13, dK15, A14⟩
  have szh17 : h0.size ≤ h17.size := K18.1
  show Done _ _ _ _ _ _ _ _ _ _ _ _ _ _ _ T11 (mkF m 37 _ [])
  refine Done.stepL (pc' := 39) (st' := [(.ref a), (.ref a)]) (fun t kk => ?_) ?_
  · show Steps p.tables e below (T11.setTop (mkF m 37 _ [])) t
    refine XS.aloadN P12.here P12.x rfl (hb hby d_offA_37) rfl rfl ?_
    show Steps p.tables e below (T11.setTop (mkF m 38 _ [(.ref a)])) t
    refine XS.dup P12.here P12.x rfl (hb hby d_offA_38) rfl rfl ?_
    exact kk
  have f19 := (Fs.keep K18 (ninS (by first | assumption | exact Ne.symm (by assumption) | exact adr_ne (by omega) | omega) (ninS (by first | assumption | exact Ne.symm (by assumption) | exact adr_ne (by omega) | omega) nin0)))
  refine wGet P12 (host := "") (Or.inl (tw26 hw)) Via.refl f19 (hb hby d_offA_39) rfl (fun T20 P21 => ?_)
  show Done _ _ _ _ _ _ _ _ _ _ _ _ _ _ _ T20 (mkF m 42 _ [(.int sv), (.ref a)])
  refine Done.stepL (pc' := 44) (st' := [(.int (sv + (1 : Int32))), (.ref a)]) (fun t kk => ?_) ?_
  · show Steps p.tables e below (T20.setTop (mkF m 42 _ [(.int sv), (.ref a)])) t
    refine XS.iconst P21.here P21.x rfl (hb hby d_offA_42) ?_
    show Steps p.tables e below (T20.setTop (mkF m 43 _ [(.int (1 : Int32)), (.int sv), (.ref a)])) t
    refine XS.iadd P21.here P21.x rfl (hb hby d_offA_43) rfl ?_
    exact kk
  have f22 := (E0.keep K18)
  refine wPut P21 (host := "") (Or.inl (tw26 hw)) Via.refl f19 f22 (Or.inl (tw27 hw)) (tw1 hw) (ty := .int) (by decide) rfl rfl (Or.inl (by simp)) (hb hby d_offA_44) rfl (fun T23 h25 P24 W26 F27 => ?_)
  have szh25 : h25.size = h17.size := W26.size
  show Done _ _ _ _ _ _ _ _ _ _ _ _ _ _ _ T23 (mkF m 47 _ [])
  refine Done.stepL (pc' := 68) (st' := []) (fun t kk => ?_) ?_
  · show Steps p.tables e below (T23.setTop (mkF m 47 _ [])) t
    refine XS.goto P24.here P24.x rfl (pc0 := 47) (pc' := 68) rfl (hb hby d_offA_47) (by decide) (by decide) ?_
    exact kk
  have f28 := ((Fk.keep K18 (ninS (by first | assumption | exact Ne.symm (by assumption) | exact adr_ne (by omega) | omega) (ninS (by first | assumption | exact Ne.symm (by assumption) | exact adr_ne (by omega) | omega) nin0))).other W26 (Or.inr (slot_ne (Or.inl (tw17 hw)) (Or.inl (tw27 hw)) (by decide) (t := (.array .double)) (t' := .int) (by decide) (by decide))))
  have f29 := ((Fi.keep K18 (ninS (by first | assumption | exact Ne.symm (by assumption) | exact adr_ne (by omega) | omega) (ninS (by first | assumption | exact Ne.symm (by assumption) | exact adr_ne (by omega) | omega) nin0))).other W26 (Or.inr (slot_ne (Or.inl (tw20 hw)) (Or.inl (tw27 hw)) (by decide) (t := (.array .int)) (t' := .int) (by decide) (by decide))))
  have f30 := ((Fc.keep K18 (ninS (by first | assumption | exact Ne.symm (by assumption) | exact adr_ne (by omega) | omega) (ninS (by first | assumption | exact Ne.symm (by assumption) | exact adr_ne (by omega) | omega) nin0))).other W26 (Or.inr (slot_ne (Or.inr (tw10 hw)) (Or.inl (tw27 hw)) (by decide) (t := .int) (t' := .int) (by decide) (by decide))))
  have f31 := (A13.other W26 (by first | assumption | exact Ne.symm (by assumption) | exact adr_ne (by omega) | omega))
  have f32 := (A14.other W26 (by first | assumption | exact Ne.symm (by assumption) | exact adr_ne (by omega) | omega))
  exact wRetV P24 hret (hb hby d_offA_68) ⟨rfl, _, hs1 ▸ F27, f28, f29, f30, f31, dK15, f32⟩
theorem ef_offB (m : MethodId) (x0 : Addr) (x1 : UInt64) (x2 : Int32) : entryFrame m #[(.ref x0), (.double x1), (.int x2)] 4 = mkF m 0 #[.val (.ref x0), .val (.double x1), .second, .val (.int x2)] [] := by first | (simp [entryFrame, mkF, argsToLocals, Value.category]; done) | rfl
theorem d_offB_0 : decode prog_15_method_2_code 0 = .ok (.aload_n 0, 1) := by decide +kernel
theorem d_offB_1 : decode prog_15_method_2_code 1 = .ok (.getfield 27, 3) := by decide +kernel
theorem d_offB_4 : decode prog_15_method_2_code 4 = .ok (.aload_n 0, 1) := by decide +kernel
theorem d_offB_5 : decode prog_15_method_2_code 5 = .ok (.getfield 7, 3) := by decide +kernel
theorem d_offB_8 : decode prog_15_method_2_code 8 = .ok (.if_icmp .ge 42, 3) := by decide +kernel
theorem d_offB_50 : decode prog_15_method_2_code 50 = .ok (.dload_n 1, 1) := by decide +kernel
theorem d_offB_51 : decode prog_15_method_2_code 51 = .ok (.aload_n 0, 1) := by decide +kernel
theorem d_offB_52 : decode prog_15_method_2_code 52 = .ok (.getfield 19, 3) := by decide +kernel
theorem d_offB_55 : decode prog_15_method_2_code 55 = .ok (.iconst 0, 1) := by decide +kernel
theorem d_offB_56 : decode prog_15_method_2_code 56 = .ok (.daload, 1) := by decide +kernel
theorem d_offB_57 : decode prog_15_method_2_code 57 = .ok (.dcmp .g, 1) := by decide +kernel
theorem d_offB_58 : decode prog_15_method_2_code 58 = .ok (.ifCond .ge 10, 3) := by decide +kernel
theorem d_offB_68 : decode prog_15_method_2_code 68 = .ok (.return_, 1) := by decide +kernel
theorem d_offB_61 : decode prog_15_method_2_code 61 = .ok (.aload_n 0, 1) := by decide +kernel
theorem d_offB_62 : decode prog_15_method_2_code 62 = .ok (.iconst 0, 1) := by decide +kernel
theorem d_offB_63 : decode prog_15_method_2_code 63 = .ok (.dload_n 1, 1) := by decide +kernel
theorem d_offB_64 : decode prog_15_method_2_code 64 = .ok (.iload_n 3, 1) := by decide +kernel
theorem d_offB_65 : decode prog_15_method_2_code 65 = .ok (.invokevirtual 37, 3) := by decide +kernel
set_option maxRecDepth 65536 in
set_option maxHeartbeats 4000000 in
theorem m_offB (l : Launch) (Z : State) (a0 : Array Value) (hw : ∀ d ∈ tables_1, d.before a0 Z = true) (a kb ib : Addr) (sv : Int32) (N n : Nat) (kf : Nat → UInt64) (K : Nat → Int) (J : Nat → Int32) (cv : Int32) (x : UInt64) (iv : Int32) (kv : Int) (h0 : Heap) (E0 : Exa Z h0 a "com/example/urnwise/urnwise/sampler/SmallestKeys") (Fk : Fld Z h0 a "com/example/urnwise/urnwise/sampler/SmallestKeys" "keys" "[D" (.ref kb)) (Fi : Fld Z h0 a "com/example/urnwise/urnwise/sampler/SmallestKeys" "indices" "[I" (.ref ib)) (Fs : Fld Z h0 a "com/example/urnwise/urnwise/sampler/SmallestKeys" "size" "I" (.int sv)) (Fc : Fld Z h0 a "com/example/urnwise/urnwise/sampler/SmallestKeys" "capacity" "I" (.int cv)) (Ak : Ar Z h0 kb .double N (fun i => .double (kf i))) (Ai : Ar Z h0 ib .int N (fun i => .int (J i))) (n1 : a ≠ kb) (n2 : a ≠ ib) (n3 : kb ≠ ib) (hN : N ≤ 16) (hsv : sv.toInt = (n : Int)) (dK : ∀ i, i < N → DInt (K i) (kf i)) (dx : DInt kv x) (hge : ¬ (sv < cv)) (h0n : 0 < n) (hnN : n ≤ N) :
    OMet l (⟨"com/example/urnwise/urnwise/sampler/SmallestKeys", "offer", "(DI)V"⟩ : MethodName) prog_15_method_2_code 4 (Option.none : Option FieldType) [] ({ frames := 1, cells := 0, slots := 0, locals := 17 } : Room) Z h0 [kb, ib] #[(.ref a), (.double x), (.int iv)] (fun v h' => v = none ∧ ∃ kf' : Nat → UInt64, Fld Z h' a "com/example/urnwise/urnwise/sampler/SmallestKeys" "size" "I" (.int sv) ∧ Fld Z h' a "com/example/urnwise/urnwise/sampler/SmallestKeys" "keys" "[D" (.ref kb) ∧ Fld Z h' a "com/example/urnwise/urnwise/sampler/SmallestKeys" "indices" "[I" (.ref ib) ∧ Fld Z h' a "com/example/urnwise/urnwise/sampler/SmallestKeys" "capacity" "I" (.int cv) ∧ Ar Z h' kb .double N (fun i => .double (kf' i)) ∧ (∀ i, i < N → DInt ((own_of n false K J kv iv).1 i) (kf' i)) ∧ Ar Z h' ib .int N (fun i => .int (((own_of n false K J kv iv).2) i))) := by
  refine OMet.of (own := "com/example/urnwise/urnwise/sampler/SmallestKeys") (nm := "offer") (plainFor_of_name pn_0) rfl rfl ?_
  intro p e s m below meth c T0 P0 hby hml hret hnm
  refine Done.step (T' := T0) (g' := (mkF m 0 #[.val (.ref a), .val (.double x), .second, .val (.int iv)] [])) (fun t kk => castTop (ef_offB m a x iv) kk) ?_
  have ltk := Ak.ltN
  have lti := Ai.ltN
  have lta := exaN E0
  refine Done.stepL (pc' := 1) (st' := [(.ref a)]) (fun t kk => ?_) ?_
  · show Steps p.tables e below (T0.setTop (mkF m 0 _ [])) t
    refine XS.aloadN P0.here P0.x rfl (hb hby d_offB_0) rfl rfl ?_
    exact kk
  refine wGet P0 (host := "") (Or.inl (tw26 hw)) Via.refl Fs (hb hby d_offB_1) rfl (fun T1 P2 => ?_)
  show Done _ _ _ _ _ _ _ _ _ _ _ _ _ _ _ T1 (mkF m 4 _ [(.int sv)])
  refine Done.stepL (pc' := 5) (st' := [(.ref a), (.int sv)]) (fun t kk => ?_) ?_
  · show Steps p.tables e below (T1.setTop (mkF m 4 _ [(.int sv)])) t
    refine XS.aloadN P2.here P2.x rfl (hb hby d_offB_4) rfl rfl ?_
    exact kk
  refine wGet P2 (host := "") (Or.inl (tw9 hw)) Via.refl Fc (hb hby d_offB_5) rfl (fun T3 P4 => ?_)
  show Done _ _ _ _ _ _ _ _ _ _ _ _ _ _ _ T3 (mkF m 8 _ [(.int cv), (.int sv)])
  refine Done.stepL (pc' := 52) (st' := [(.ref a), (.double x)]) (fun t kk => ?_) ?_
  · show Steps p.tables e below (T3.setTop (mkF m 8 _ [(.int cv), (.int sv)])) t
    refine XS.icmpYes P4.here P4.x rfl (pc0 := 8) (pc' := 50) rfl (hb hby d_offB_8) rfl (iiW_ge_t hge) (by decide) (by decide) ?_
    show Steps p.tables e below (T3.setTop (mkF m 50 _ [])) t
    refine XS.dloadN P4.here P4.x rfl (hb hby d_offB_50) rfl ?_
    show Steps p.tables e below (T3.setTop (mkF m 51 _ [(.double x)])) t
    refine XS.aloadN P4.here P4.x rfl (hb hby d_offB_51) rfl rfl ?_
    exact kk
  refine wGet P4 (host := "") (Or.inl (tw16 hw)) Via.refl Fk (hb hby d_offB_52) rfl (fun T5 P6 => ?_)
  show Done _ _ _ _ _ _ _ _ _ _ _ _ _ _ _ T5 (mkF m 55 _ [(.ref kb), (.double x)])
  refine Done.stepL (pc' := 56) (st' := [(.int (0 : Int32)), (.ref kb), (.double x)]) (fun t kk => ?_) ?_
  · show Steps p.tables e below (T5.setTop (mkF m 55 _ [(.ref kb), (.double x)])) t
    refine XS.iconst P6.here P6.x rfl (hb hby d_offB_55) ?_
    exact kk
  refine wDaload P6 Ak (j := (0 : Int32)) (i := 0) rfl (by omega) (v := (.double (kf 0))) rfl (hb hby d_offB_56) rfl ?_
  show Done _ _ _ _ _ _ _ _ _ _ _ _ _ _ _ T5 (mkF m 57 _ [(.double (kf 0)), (.double x)])
  refine Done.stepL (pc' := 58) (st' := [(.int (cmpZ kv (K 0)))]) (fun t kk => ?_) ?_
  · show Steps p.tables e below (T5.setTop (mkF m 57 _ [(.double (kf 0)), (.double x)])) t
    refine XS.dcmpS P6.here P6.x rfl (hb hby d_offB_57) rfl (dcmpZ dx (dK 0 (by omega))) ?_
    exact kk
  by_cases hk : ¬ (kv < (K 0))
  · refine Done.stepL (pc' := 68) (st' := []) (fun t kk => ?_) ?_
    · show Steps p.tables e below (T5.setTop (mkF m 58 _ [(.int (cmpZ kv (K 0)))])) t
      refine XS.ifYes P6.here P6.x rfl (pc0 := 58) (pc' := 68) rfl (hb hby d_offB_58) rfl (ciW_ge_t hk) (by decide) (by decide) ?_
      exact kk
    exact wRetV P6 hret (hb hby d_offB_68) ⟨rfl, _, Fs, Fk, Fi, Fc, Ak, (fun i hi => by rw [own_of, if_neg (by decide), if_neg hk]; exact dK i hi), (by rw [own_of, if_neg (by decide), if_neg hk]; exact Ai)⟩
  · have hk' := Decidable.not_not.mp hk
    refine Done.stepL (pc' := 65) (st' := [(.int iv), (.double x), (.int (0 : Int32)), (.ref a)]) (fun t kk => ?_) ?_
    · show Steps p.tables e below (T5.setTop (mkF m 58 _ [(.int (cmpZ kv (K 0)))])) t
      refine XS.ifNo P6.here P6.x rfl (hb hby d_offB_58) rfl (ciW_ge_f (show ¬ (¬ (kv < (K 0))) from hk)) ?_
      show Steps p.tables e below (T5.setTop (mkF m 61 _ [])) t
      refine XS.aloadN P6.here P6.x rfl (hb hby d_offB_61) rfl rfl ?_
      show Steps p.tables e below (T5.setTop (mkF m 62 _ [(.ref a)])) t
      refine XS.iconst P6.here P6.x rfl (hb hby d_offB_62) ?_
      show Steps p.tables e below (T5.setTop (mkF m 63 _ [(.int (0 : Int32)), (.ref a)])) t
      refine XS.dloadN P6.here P6.x rfl (hb hby d_offB_63) rfl ?_
      show Steps p.tables e below (T5.setTop (mkF m 64 _ [(.double x), (.int (0 : Int32)), (.ref a)])) t
      refine XS.iloadN P6.here P6.x rfl (hb hby d_offB_64) rfl ?_
      exact kk
    refine wCallP P6 (m_dn l Z a0 hw a kb ib sv N n kf K J (0 : Int32) x iv 0 kv h0 E0 Fk Fi Fs Ak Ai n1 n2 n3 hN hsv dK dx rfl (by omega) hnN) (tw44 hw) (tw45 hw) (tw46 hw) (tw1 hw) (tw2 hw) (tw47 hw) (by decide) E0 (by rw [hml]; rfl) (lenOf pd_0 rfl) (argsL := [(.int (0 : Int32)), (.double x), (.int iv)]) (rest := []) rfl rfl (W := 0) (Nat.le_of_eq rfl) (by decide) (by decide) (by decide) (by decide) (allS (Or.inl (by simp)) (allS (Or.inl (by simp)) all0)) (hb hby d_offB_65) rfl (k' := 0) (n' := 0) rfl rfl ?_
    rintro T7 h13 _ P8 K14 ⟨rfl, kf12, A9, dK11, A10⟩
    have szh13 : h0.size ≤ h13.size := K14.1
    show Done _ _ _ _ _ _ _ _ _ _ _ _ _ _ _ T7 (mkF m 68 _ [])
    have f15 := (Fs.keep K14 (ninS (by first | assumption | exact Ne.symm (by assumption) | exact adr_ne (by omega) | omega) (ninS (by first | assumption | exact Ne.symm (by assumption) | exact adr_ne (by omega) | omega) nin0)))
    have f16 := (Fk.keep K14 (ninS (by first | assumption | exact Ne.symm (by assumption) | exact adr_ne (by omega) | omega) (ninS (by first | assumption | exact Ne.symm (by assumption) | exact adr_ne (by omega) | omega) nin0)))
    have f17 := (Fi.keep K14 (ninS (by first | assumption | exact Ne.symm (by assumption) | exact adr_ne (by omega) | omega) (ninS (by first | assumption | exact Ne.symm (by assumption) | exact adr_ne (by omega) | omega) nin0)))
    have f18 := (Fc.keep K14 (ninS (by first | assumption | exact Ne.symm (by assumption) | exact adr_ne (by omega) | omega) (ninS (by first | assumption | exact Ne.symm (by assumption) | exact adr_ne (by omega) | omega) nin0)))
    exact wRetV P8 hret (hb hby d_offB_68) ⟨rfl, _, f15, f16, f17, f18, A9, (fun i hi => by rw [own_of, if_neg (by decide), if_pos hk']; exact dK11 i hi), (by rw [own_of, if_neg (by decide), if_pos hk']; exact A10)⟩
theorem ef_hpInit (m : MethodId) (x0 : Addr) (x1 : Int32) : entryFrame m #[(.ref x0), (.int x1)] 2 = mkF m 0 #[.val (.ref x0), .val (.int x1)] [] := by first | (simp [entryFrame, mkF, argsToLocals, Value.category]; done) | rfl
theorem d_hpInit_0 : decode prog_15_method_1_code 0 = .ok (.aload_n 0, 1) := by decide +kernel
theorem d_hpInit_1 : decode prog_15_method_1_code 1 = .ok (.invokespecial 1, 3) := by decide +kernel
theorem d_hpInit_4 : decode prog_15_method_1_code 4 = .ok (.aload_n 0, 1) := by decide +kernel
theorem d_hpInit_5 : decode prog_15_method_1_code 5 = .ok (.iload_n 1, 1) := by decide +kernel
theorem d_hpInit_6 : decode prog_15_method_1_code 6 = .ok (.putfield 7, 3) := by decide +kernel
theorem d_hpInit_9 : decode prog_15_method_1_code 9 = .ok (.aload_n 0, 1) := by decide +kernel
theorem d_hpInit_10 : decode prog_15_method_1_code 10 = .ok (.iload_n 1, 1) := by decide +kernel
theorem d_hpInit_11 : decode prog_15_method_1_code 11 = .ok (.bipush 16, 2) := by decide +kernel
theorem d_hpInit_13 : decode prog_15_method_1_code 13 = .ok (.invokestatic 13, 3) := by decide +kernel
theorem d_hpInit_16 : decode prog_15_method_1_code 16 = .ok (.newarray .double, 2) := by decide +kernel
theorem d_hpInit_18 : decode prog_15_method_1_code 18 = .ok (.putfield 19, 3) := by decide +kernel
theorem d_hpInit_21 : decode prog_15_method_1_code 21 = .ok (.aload_n 0, 1) := by decide +kernel
theorem d_hpInit_22 : decode prog_15_method_1_code 22 = .ok (.aload_n 0, 1) := by decide +kernel
theorem d_hpInit_23 : decode prog_15_method_1_code 23 = .ok (.getfield 19, 3) := by decide +kernel
theorem d_hpInit_26 : decode prog_15_method_1_code 26 = .ok (.arraylength, 1) := by decide +kernel
theorem d_hpInit_27 : decode prog_15_method_1_code 27 = .ok (.newarray .int, 2) := by decide +kernel
theorem d_hpInit_29 : decode prog_15_method_1_code 29 = .ok (.putfield 23, 3) := by decide +kernel
theorem d_hpInit_32 : decode prog_15_method_1_code 32 = .ok (.return_, 1) := by decide +kernel
set_option maxRecDepth 65536 in
set_option maxHeartbeats 4000000 in
theorem m_hpInit (l : Launch) (Z : State) (a0 : Array Value) (hw : ∀ d ∈ tables_1, d.before a0 Z = true) (a : Addr) (cv : Int32) (N : Nat) (h0 : Heap) (E0 : Exa Z h0 a "com/example/urnwise/urnwise/sampler/SmallestKeys") (Fc : Fld Z h0 a "com/example/urnwise/urnwise/sampler/SmallestKeys" "capacity" "I" (.int (0 : Int32))) (Fk : Fld Z h0 a "com/example/urnwise/urnwise/sampler/SmallestKeys" "keys" "[D" .null) (Fi : Fld Z h0 a "com/example/urnwise/urnwise/sampler/SmallestKeys" "indices" "[I" .null) (hz : (if (16 : Int32) < cv then (16 : Int32) else cv).toInt = (N : Int)) (hN : N ≤ 16) (Fs : Fld Z h0 a "com/example/urnwise/urnwise/sampler/SmallestKeys" "size" "I" (.int (0 : Int32))) :
    OMet l (⟨"com/example/urnwise/urnwise/sampler/SmallestKeys", "<init>", "(I)V"⟩ : MethodName) prog_15_method_1_code 2 (Option.none : Option FieldType) [] ({ frames := 1, cells := 2, slots := 32, locals := 14 } : Room) Z h0 [a] #[(.ref a), (.int cv)] (fun v h' => v = none ∧ ∃ kb ib : Addr, h0.size ≤ kb ∧ h0.size ≤ ib ∧ kb ≠ ib ∧ kb < h'.size ∧ ib < h'.size ∧ Fld Z h' a "com/example/urnwise/urnwise/sampler/SmallestKeys" "size" "I" (.int (0 : Int32)) ∧ Fld Z h' a "com/example/urnwise/urnwise/sampler/SmallestKeys" "keys" "[D" (.ref kb) ∧ Fld Z h' a "com/example/urnwise/urnwise/sampler/SmallestKeys" "indices" "[I" (.ref ib) ∧ Fld Z h' a "com/example/urnwise/urnwise/sampler/SmallestKeys" "capacity" "I" (.int cv) ∧ Ar Z h' kb .double N (fun i => .double ((fun _ => (0 : UInt64)) i)) ∧ Ar Z h' ib .int N (fun i => .int ((fun _ => (0 : Int32)) i))) := by
  refine OMet.of (own := "com/example/urnwise/urnwise/sampler/SmallestKeys") (nm := "<init>") (plainFor_of_name pn_0) rfl rfl ?_
  intro p e s m below meth c T0 P0 hby hml hret hnm
  refine Done.step (T' := T0) (g' := (mkF m 0 #[.val (.ref a), .val (.int cv)] [])) (fun t kk => castTop (ef_hpInit m a cv) kk) ?_
  have lta := exaN E0
  refine Done.stepL (pc' := 1) (st' := [(.ref a)]) (fun t kk => ?_) ?_
  · show Steps p.tables e below (T0.setTop (mkF m 0 _ [])) t
    refine XS.aloadN P0.here P0.x rfl (hb hby d_hpInit_0) rfl rfl ?_
    exact kk
  refine wInit P0 (tw6 hw) (tw7 hw) (tw8 hw) (by rw [hml]; rfl) (hb hby d_hpInit_1) (by decide) (W := 0) (Nat.le_of_eq rfl) (by decide) rfl (fun T1 P2 => ?_)
  show Done _ _ _ _ _ _ _ _ _ _ _ _ _ _ _ T1 (mkF m 4 _ [])
  refine Done.stepL (pc' := 6) (st' := [(.int cv), (.ref a)]) (fun t kk => ?_) ?_
  · show Steps p.tables e below (T1.setTop (mkF m 4 _ [])) t
    refine XS.aloadN P2.here P2.x rfl (hb hby d_hpInit_4) rfl rfl ?_
    show Steps p.tables e below (T1.setTop (mkF m 5 _ [(.ref a)])) t
    refine XS.iloadN P2.here P2.x rfl (hb hby d_hpInit_5) rfl ?_
    exact kk
  refine wPut P2 (host := "") (Or.inl (tw9 hw)) Via.refl Fc E0 (Or.inr ⟨(tw10 hw), rfl, hnm⟩) (tw1 hw) (ty := .int) (by decide) rfl rfl (Or.inl (by simp)) (hb hby d_hpInit_6) rfl (fun T3 h5 P4 W6 F7 => ?_)
  have szh5 : h5.size = h0.size := W6.size
  show Done _ _ _ _ _ _ _ _ _ _ _ _ _ _ _ T3 (mkF m 9 _ [])
  refine Done.stepL (pc' := 13) (st' := [(.int (16 : Int32)), (.int cv), (.ref a)]) (fun t kk => ?_) ?_
  · show Steps p.tables e below (T3.setTop (mkF m 9 _ [])) t
    refine XS.aloadN P4.here P4.x rfl (hb hby d_hpInit_9) rfl rfl ?_
    show Steps p.tables e below (T3.setTop (mkF m 10 _ [(.ref a)])) t
    refine XS.iloadN P4.here P4.x rfl (hb hby d_hpInit_10) rfl ?_
    show Steps p.tables e below (T3.setTop (mkF m 11 _ [(.int cv), (.ref a)])) t
    refine XS.bipush P4.here P4.x rfl (hb hby d_hpInit_11) ?_
    exact kk
  refine wCallS P4 (m_min l Z a0 hw cv (16 : Int32) h5) (tw11 hw) (tw12 hw) (tw13 hw) (tw14 hw) (by decide) (by rw [hml]; rfl) (lenOf pd_1 rfl) (argsL := [(.int cv), (.int (16 : Int32))]) (rest := [(.ref a)]) rfl rfl (W := 1) (Nat.le_of_eq rfl) (by decide) (by decide) (by decide) (by decide) (by simp) (hb hby d_hpInit_13) rfl (k' := 0) (n' := 0) rfl rfl ?_
  rintro T8 _ _ P9 - ⟨rfl, rfl⟩
  show Done _ _ _ _ _ _ _ _ _ _ _ _ _ _ _ T8 (mkF m 16 _ [(.int (if (16 : Int32) < cv then (16 : Int32) else cv)), (.ref a)])
  refine wNewA (aty := .double) P9 (tw15 hw) (hb hby d_hpInit_16) rfl (N := N) hz (cap := 16) hN (by decide) (by decide) (by decide) (ad := "[D") (by decide) (ty := .double) (dv := (.double (0 : UInt64))) rfl rfl (k' := 1) (n' := 16) rfl rfl (fun T10 h12 b13 g14 lt15 P11 E16 A17 X18 => ?_)
  have ge_b13 : h0.size ≤ b13 := by have := P9.ge; omega
  show Done _ _ _ _ _ _ _ _ _ _ _ _ _ _ _ T10 (mkF m 18 _ [(.ref b13), (.ref a)])
  have f19 := ((Fk.other W6 (Or.inr (slot_ne (Or.inl (tw17 hw)) (Or.inr (tw10 hw)) (by decide) (t := (.array .double)) (t' := .int) (by decide) (by decide)))).ext E16)
  have f20 := ((E0.wr W6).ext E16)
  refine wPut P11 (host := "") (Or.inl (tw16 hw)) Via.refl f19 f20 (Or.inl (tw17 hw)) (tw1 hw) (ty := (.array .double)) (by decide) rfl rfl (Or.inl (by simp)) (hb hby d_hpInit_18) rfl (fun T21 h23 P22 W24 F25 => ?_)
  have szh23 : h23.size = h12.size := W24.size
  show Done _ _ _ _ _ _ _ _ _ _ _ _ _ _ _ T21 (mkF m 21 _ [])
  refine Done.stepL (pc' := 23) (st' := [(.ref a), (.ref a)]) (fun t kk => ?_) ?_
  · show Steps p.tables e below (T21.setTop (mkF m 21 _ [])) t
    refine XS.aloadN P22.here P22.x rfl (hb hby d_hpInit_21) rfl rfl ?_
    show Steps p.tables e below (T21.setTop (mkF m 22 _ [(.ref a)])) t
    refine XS.aloadN P22.here P22.x rfl (hb hby d_hpInit_22) rfl rfl ?_
    exact kk
  refine wGet P22 (host := "") (Or.inl (tw16 hw)) Via.refl F25 (hb hby d_hpInit_23) rfl (fun T26 P27 => ?_)
  show Done _ _ _ _ _ _ _ _ _ _ _ _ _ _ _ T26 (mkF m 26 _ [(.ref b13), (.ref a)])
  have f28 := (A17.other W24 (by first | assumption | exact Ne.symm (by assumption) | exact adr_ne (by omega) | omega))
  refine wLen P27 f28 (z := (if (16 : Int32) < cv then (16 : Int32) else cv)) hz (hb hby d_hpInit_26) rfl ?_
  show Done _ _ _ _ _ _ _ _ _ _ _ _ _ _ _ T26 (mkF m 27 _ [(.int (if (16 : Int32) < cv then (16 : Int32) else cv)), (.ref a)])
  refine wNewA (aty := .int) P27 (tw18 hw) (hb hby d_hpInit_27) rfl (N := N) hz (cap := 16) hN (by decide) (by decide) (by decide) (ad := "[I") (by decide) (ty := .int) (dv := (.int (0 : Int32))) rfl rfl (k' := 2) (n' := 32) rfl rfl (fun T29 h31 b32 g33 lt34 P30 E35 A36 X37 => ?_)
  have ge_b32 : h0.size ≤ b32 := by have := P27.ge; omega
  show Done _ _ _ _ _ _ _ _ _ _ _ _ _ _ _ T29 (mkF m 29 _ [(.ref b32), (.ref a)])
  have f38 := ((((Fi.other W6 (Or.inr (slot_ne (Or.inl (tw20 hw)) (Or.inr (tw10 hw)) (by decide) (t := (.array .int)) (t' := .int) (by decide) (by decide)))).ext E16).other W24 (Or.inr (slot_ne (Or.inl (tw20 hw)) (Or.inl (tw17 hw)) (by decide) (t := (.array .int)) (t' := (.array .double)) (by decide) (by decide)))).ext E35)
  have f39 := ((f20.wr W24).ext E35)
  refine wPut P30 (host := "") (Or.inl (tw19 hw)) Via.refl f38 f39 (Or.inl (tw20 hw)) (tw1 hw) (ty := (.array .int)) (by decide) rfl rfl (Or.inl (by simp)) (hb hby d_hpInit_29) rfl (fun T40 h42 P41 W43 F44 => ?_)
  have szh42 : h42.size = h31.size := W43.size
  show Done _ _ _ _ _ _ _ _ _ _ _ _ _ _ _ T40 (mkF m 32 _ [])
  have f45 := ((f28.ext E35).other W43 (by first | assumption | exact Ne.symm (by assumption) | exact adr_ne (by omega) | omega))
  have f46 := (A36.other W43 (by first | assumption | exact Ne.symm (by assumption) | exact adr_ne (by omega) | omega))
  have f47 := (((((Fs.other W6 (Or.inr (slot_ne (Or.inl (tw27 hw)) (Or.inr (tw10 hw)) (by decide) (t := .int) (t' := .int) (by decide) (by decide)))).ext E16).other W24 (Or.inr (slot_ne (Or.inl (tw27 hw)) (Or.inl (tw17 hw)) (by decide) (t := .int) (t' := (.array .double)) (by decide) (by decide)))).ext E35).other W43 (Or.inr (slot_ne (Or.inl (tw27 hw)) (Or.inl (tw20 hw)) (by decide) (t := .int) (t' := (.array .int)) (by decide) (by decide))))
  have f48 := ((F25.ext E35).other W43 (Or.inr (slot_ne (Or.inl (tw17 hw)) (Or.inl (tw20 hw)) (by decide) (t := (.array .double)) (t' := (.array .int)) (by decide) (by decide))))
  have f49 := ((((F7.ext E16).other W24 (Or.inr (slot_ne (Or.inr (tw10 hw)) (Or.inl (tw17 hw)) (by decide) (t := .int) (t' := (.array .double)) (by decide) (by decide)))).ext E35).other W43 (Or.inr (slot_ne (Or.inr (tw10 hw)) (Or.inl (tw20 hw)) (by decide) (t := .int) (t' := (.array .int)) (by decide) (by decide))))
  exact wRetV P41 hret (hb hby d_hpInit_32) ⟨rfl, b13, b32, ge_b13, ge_b32, (by first | omega | exact adr_ne (by omega)), f45.lt, f46.lt, f47, f48, F44, f49, f45, f46⟩
theorem ef_isFullt (m : MethodId) (x0 : Addr) : entryFrame m #[(.ref x0)] 1 = mkF m 0 #[.val (.ref x0)] [] := by first | (simp [entryFrame, mkF, argsToLocals, Value.category]; done) | rfl
theorem d_isFullt_0 : decode prog_15_method_4_code 0 = .ok (.aload_n 0, 1) := by decide +kernel
theorem d_isFullt_1 : decode prog_15_method_4_code 1 = .ok (.getfield 27, 3) := by decide +kernel
theorem d_isFullt_4 : decode prog_15_method_4_code 4 = .ok (.aload_n 0, 1) := by decide +kernel
theorem d_isFullt_5 : decode prog_15_method_4_code 5 = .ok (.getfield 7, 3) := by decide +kernel
theorem d_isFullt_8 : decode prog_15_method_4_code 8 = .ok (.if_icmp .ne 7, 3) := by decide +kernel
theorem d_isFullt_11 : decode prog_15_method_4_code 11 = .ok (.iconst 1, 1) := by decide +kernel
theorem d_isFullt_12 : decode prog_15_method_4_code 12 = .ok (.goto 4, 3) := by decide +kernel
theorem d_isFullt_16 : decode prog_15_method_4_code 16 = .ok (.ireturn, 1) := by decide +kernel
set_option maxRecDepth 65536 in
set_option maxHeartbeats 4000000 in
theorem m_isFullt (l : Launch) (Z : State) (a0 : Array Value) (hw : ∀ d ∈ tables_1, d.before a0 Z = true) (a : Addr) (sv cv : Int32) (h0 : Heap) (Fs : Fld Z h0 a "com/example/urnwise/urnwise/sampler/SmallestKeys" "size" "I" (.int sv)) (Fc : Fld Z h0 a "com/example/urnwise/urnwise/sampler/SmallestKeys" "capacity" "I" (.int cv)) (hc : sv = cv) :
    OMet l (⟨"com/example/urnwise/urnwise/sampler/SmallestKeys", "isFull", "()Z"⟩ : MethodName) prog_15_method_4_code 1 (Option.some FieldType.boolean) [] ({ frames := 0, cells := 0, slots := 0, locals := 0 } : Room) Z h0 [] #[(.ref a)] (fun v h' => v = some (.int (1 : Int32)) ∧ h0 = h') := by
  refine OMet.of (own := "com/example/urnwise/urnwise/sampler/SmallestKeys") (nm := "isFull") (plainFor_of_name pn_0) rfl rfl ?_
  intro p e s m below meth c T0 P0 hby hml hret hnm
  refine Done.step (T' := T0) (g' := (mkF m 0 #[.val (.ref a)] [])) (fun t kk => castTop (ef_isFullt m a) kk) ?_
  refine Done.stepL (pc' := 1) (st' := [(.ref a)]) (fun t kk => ?_) ?_
  · show Steps p.tables e below (T0.setTop (mkF m 0 _ [])) t
    refine XS.aloadN P0.here P0.x rfl (hb hby d_isFullt_0) rfl rfl ?_
    exact kk
  refine wGet P0 (host := "") (Or.inl (tw26 hw)) Via.refl Fs (hb hby d_isFullt_1) rfl (fun T1 P2 => ?_)
  show Done _ _ _ _ _ _ _ _ _ _ _ _ _ _ _ T1 (mkF m 4 _ [(.int sv)])
  refine Done.stepL (pc' := 5) (st' := [(.ref a), (.int sv)]) (fun t kk => ?_) ?_
  · show Steps p.tables e below (T1.setTop (mkF m 4 _ [(.int sv)])) t
    refine XS.aloadN P2.here P2.x rfl (hb hby d_isFullt_4) rfl rfl ?_
    exact kk
  refine wGet P2 (host := "") (Or.inl (tw9 hw)) Via.refl Fc (hb hby d_isFullt_5) rfl (fun T3 P4 => ?_)
  show Done _ _ _ _ _ _ _ _ _ _ _ _ _ _ _ T3 (mkF m 8 _ [(.int cv), (.int sv)])
  refine Done.stepL (pc' := 16) (st' := [(.int (1 : Int32))]) (fun t kk => ?_) ?_
  · show Steps p.tables e below (T3.setTop (mkF m 8 _ [(.int cv), (.int sv)])) t
    refine XS.icmpNo P4.here P4.x rfl (hb hby d_isFullt_8) rfl (iiW_ne_f (not_not_intro hc)) ?_
    show Steps p.tables e below (T3.setTop (mkF m 11 _ [])) t
    refine XS.iconst P4.here P4.x rfl (hb hby d_isFullt_11) ?_
    show Steps p.tables e below (T3.setTop (mkF m 12 _ [(.int (1 : Int32))])) t
    refine XS.goto P4.here P4.x rfl (pc0 := 12) (pc' := 16) rfl (hb hby d_isFullt_12) (by decide) (by decide) ?_
    exact kk
  exact wRet P4 (t := .boolean) hret (narrow_01 (Or.inr rfl)) (Or.inl ⟨rfl, Or.inr (Or.inl rfl), _, rfl⟩) (hb hby d_isFullt_16) ⟨rfl, rfl⟩
theorem ef_isFullf (m : MethodId) (x0 : Addr) : entryFrame m #[(.ref x0)] 1 = mkF m 0 #[.val (.ref x0)] [] := by first | (simp [entryFrame, mkF, argsToLocals, Value.category]; done) | rfl
theorem d_isFullf_0 : decode prog_15_method_4_code 0 = .ok (.aload_n 0, 1) := by decide +kernel
theorem d_isFullf_1 : decode prog_15_method_4_code 1 = .ok (.getfield 27, 3) := by decide +kernel
theorem d_isFullf_4 : decode prog_15_method_4_code 4 = .ok (.aload_n 0, 1) := by decide +kernel
theorem d_isFullf_5 : decode prog_15_method_4_code 5 = .ok (.getfield 7, 3) := by decide +kernel
theorem d_isFullf_8 : decode prog_15_method_4_code 8 = .ok (.if_icmp .ne 7, 3) := by decide +kernel
theorem d_isFullf_15 : decode prog_15_method_4_code 15 = .ok (.iconst 0, 1) := by decide +kernel
theorem d_isFullf_16 : decode prog_15_method_4_code 16 = .ok (.ireturn, 1) := by decide +kernel
set_option maxRecDepth 65536 in
set_option maxHeartbeats 4000000 in
theorem m_isFullf (l : Launch) (Z : State) (a0 : Array Value) (hw : ∀ d ∈ tables_1, d.before a0 Z = true) (a : Addr) (sv cv : Int32) (h0 : Heap) (Fs : Fld Z h0 a "com/example/urnwise/urnwise/sampler/SmallestKeys" "size" "I" (.int sv)) (Fc : Fld Z h0 a "com/example/urnwise/urnwise/sampler/SmallestKeys" "capacity" "I" (.int cv)) (hc : ¬ (sv = cv)) :
    OMet l (⟨"com/example/urnwise/urnwise/sampler/SmallestKeys", "isFull", "()Z"⟩ : MethodName) prog_15_method_4_code 1 (Option.some FieldType.boolean) [] ({ frames := 0, cells := 0, slots := 0, locals := 0 } : Room) Z h0 [] #[(.ref a)] (fun v h' => v = some (.int (0 : Int32)) ∧ h0 = h') := by
  refine OMet.of (own := "com/example/urnwise/urnwise/sampler/SmallestKeys") (nm := "isFull") (plainFor_of_name pn_0) rfl rfl ?_
  intro p e s m below meth c T0 P0 hby hml hret hnm
  refine Done.step (T' := T0) (g' := (mkF m 0 #[.val (.ref a)] [])) (fun t kk => castTop (ef_isFullf m a) kk) ?_
  refine Done.stepL (pc' := 1) (st' := [(.ref a)]) (fun t kk => ?_) ?_
  · show Steps p.tables e below (T0.setTop (mkF m 0 _ [])) t
    refine XS.aloadN P0.here P0.x rfl (hb hby d_isFullf_0) rfl rfl ?_
    exact kk
  refine wGet P0 (host := "") (Or.inl (tw26 hw)) Via.refl Fs (hb hby d_isFullf_1) rfl (fun T1 P2 => ?_)
  show Done _ _ _ _ _ _ _ _ _ _ _ _ _ _ _ T1 (mkF m 4 _ [(.int sv)])
  refine Done.stepL (pc' := 5) (st' := [(.ref a), (.int sv)]) (fun t kk => ?_) ?_
  · show Steps p.tables e below (T1.setTop (mkF m 4 _ [(.int sv)])) t
    refine XS.aloadN P2.here P2.x rfl (hb hby d_isFullf_4) rfl rfl ?_
    exact kk
  refine wGet P2 (host := "") (Or.inl (tw9 hw)) Via.refl Fc (hb hby d_isFullf_5) rfl (fun T3 P4 => ?_)
  show Done _ _ _ _ _ _ _ _ _ _ _ _ _ _ _ T3 (mkF m 8 _ [(.int cv), (.int sv)])
  refine Done.stepL (pc' := 16) (st' := [(.int (0 : Int32))]) (fun t kk => ?_) ?_
  · show Steps p.tables e below (T3.setTop (mkF m 8 _ [(.int cv), (.int sv)])) t
    refine XS.icmpYes P4.here P4.x rfl (pc0 := 8) (pc' := 15) rfl (hb hby d_isFullf_8) rfl (iiW_ne_t hc) (by decide) (by decide) ?_
    show Steps p.tables e below (T3.setTop (mkF m 15 _ [])) t
    refine XS.iconst P4.here P4.x rfl (hb hby d_isFullf_15) ?_
    exact kk
  exact wRet P4 (t := .boolean) hret (narrow_01 (Or.inl rfl)) (Or.inl ⟨rfl, Or.inr (Or.inl rfl), _, rfl⟩) (hb hby d_isFullf_16) ⟨rfl, rfl⟩
theorem ef_size (m : MethodId) (x0 : Addr) : entryFrame m #[(.ref x0)] 1 = mkF m 0 #[.val (.ref x0)] [] := by first | (simp [entryFrame, mkF, argsToLocals, Value.category]; done) | rfl
theorem d_size_0 : decode prog_15_method_3_code 0 = .ok (.aload_n 0, 1) := by decide +kernel
theorem d_size_1 : decode prog_15_method_3_code 1 = .ok (.getfield 27, 3) := by decide +kernel
theorem d_size_4 : decode prog_15_method_3_code 4 = .ok (.ireturn, 1) := by decide +kernel
set_option maxRecDepth 65536 in
set_option maxHeartbeats 4000000 in
theorem m_size (l : Launch) (Z : State) (a0 : Array Value) (hw : ∀ d ∈ tables_1, d.before a0 Z = true) (a : Addr) (w : Int32) (h0 : Heap) (F0 : Fld Z h0 a "com/example/urnwise/urnwise/sampler/SmallestKeys" "size" "I" (.int w)) :
    OMet l (⟨"com/example/urnwise/urnwise/sampler/SmallestKeys", "size", "()I"⟩ : MethodName) prog_15_method_3_code 1 (Option.some FieldType.int) [] ({ frames := 0, cells := 0, slots := 0, locals := 0 } : Room) Z h0 [] #[(.ref a)] (fun v h' => v = some (.int w) ∧ h0 = h') := by
  refine OMet.of (own := "com/example/urnwise/urnwise/sampler/SmallestKeys") (nm := "size") (plainFor_of_name pn_0) rfl rfl ?_
  intro p e s m below meth c T0 P0 hby hml hret hnm
  refine Done.step (T' := T0) (g' := (mkF m 0 #[.val (.ref a)] [])) (fun t kk => castTop (ef_size m a) kk) ?_
  refine Done.stepL (pc' := 1) (st' := [(.ref a)]) (fun t kk => ?_) ?_
  · show Steps p.tables e below (T0.setTop (mkF m 0 _ [])) t
    refine XS.aloadN P0.here P0.x rfl (hb hby d_size_0) rfl rfl ?_
    exact kk
  refine wGet P0 (host := "") (Or.inl (tw26 hw)) Via.refl F0 (hb hby d_size_1) rfl (fun T1 P2 => ?_)
  show Done _ _ _ _ _ _ _ _ _ _ _ _ _ _ _ T1 (mkF m 4 _ [(.int w)])
  exact wRetI P2 hret (hb hby d_size_4) ⟨rfl, rfl⟩
theorem ef_mint (m : MethodId) (x0 : Int32) (x1 : Int32) : entryFrame m #[(.int x0), (.int x1)] 2 = mkF m 0 #[.val (.int x0), .val (.int x1)] [] := by first | (simp [entryFrame, mkF, argsToLocals, Value.category]; done) | rfl
theorem d_mint_0 : decode jdk_29_method_69_code 0 = .ok (.iload_n 0, 1) := by decide +kernel
theorem d_mint_1 : decode jdk_29_method_69_code 1 = .ok (.iload_n 1, 1) := by decide +kernel
theorem d_mint_2 : decode jdk_29_method_69_code 2 = .ok (.if_icmp .gt 7, 3) := by decide +kernel
theorem d_mint_9 : decode jdk_29_method_69_code 9 = .ok (.iload_n 1, 1) := by decide +kernel
theorem d_mint_10 : decode jdk_29_method_69_code 10 = .ok (.ireturn, 1) := by decide +kernel
set_option maxRecDepth 65536 in
set_option maxHeartbeats 4000000 in
theorem m_mint (l : Launch) (Z : State) (a0 : Array Value) (hw : ∀ d ∈ tables_1, d.before a0 Z = true) (p0 p1 : Int32) (h0 : Heap) (hc : p1 < p0) :
    OMet l (⟨"java/lang/Math", "min", "(II)I"⟩ : MethodName) jdk_29_method_69_code 2 (Option.some FieldType.int) [] ({ frames := 0, cells := 0, slots := 0, locals := 0 } : Room) Z h0 [] #[(.int p0), (.int p1)] (fun v h' => v = some (.int p1) ∧ h0 = h') := by
  refine OMet.of (own := "java/lang/Math") (nm := "min") (Jvm.Free.JP.mathPlain rfl (by decide +kernel)) rfl rfl ?_
  intro p e s m below meth c T0 P0 hby hml hret hnm
  refine Done.step (T' := T0) (g' := (mkF m 0 #[.val (.int p0), .val (.int p1)] [])) (fun t kk => castTop (ef_mint m p0 p1) kk) ?_
  refine Done.stepL (pc' := 10) (st' := [(.int p1)]) (fun t kk => ?_) ?_
  · show Steps p.tables e below (T0.setTop (mkF m 0 _ [])) t
    refine XS.iloadN P0.here P0.x rfl (hb hby d_mint_0) rfl ?_
    show Steps p.tables e below (T0.setTop (mkF m 1 _ [(.int p0)])) t
    refine XS.iloadN P0.here P0.x rfl (hb hby d_mint_1) rfl ?_
    show Steps p.tables e below (T0.setTop (mkF m 2 _ [(.int p1), (.int p0)])) t
    refine XS.icmpYes P0.here P0.x rfl (pc0 := 2) (pc' := 9) rfl (hb hby d_mint_2) rfl (iiW_gt_t hc) (by decide) (by decide) ?_
    show Steps p.tables e below (T0.setTop (mkF m 9 _ [])) t
    refine XS.iloadN P0.here P0.x rfl (hb hby d_mint_9) rfl ?_
    exact kk
  exact wRetI P0 hret (hb hby d_mint_10) ⟨rfl, rfl⟩
theorem ef_minf (m : MethodId) (x0 : Int32) (x1 : Int32) : entryFrame m #[(.int x0), (.int x1)] 2 = mkF m 0 #[.val (.int x0), .val (.int x1)] [] := by first | (simp [entryFrame, mkF, argsToLocals, Value.category]; done) | rfl
theorem d_minf_0 : decode jdk_29_method_69_code 0 = .ok (.iload_n 0, 1) := by decide +kernel
theorem d_minf_1 : decode jdk_29_method_69_code 1 = .ok (.iload_n 1, 1) := by decide +kernel
theorem d_minf_2 : decode jdk_29_method_69_code 2 = .ok (.if_icmp .gt 7, 3) := by decide +kernel
theorem d_minf_5 : decode jdk_29_method_69_code 5 = .ok (.iload_n 0, 1) := by decide +kernel
theorem d_minf_6 : decode jdk_29_method_69_code 6 = .ok (.goto 4, 3) := by decide +kernel
theorem d_minf_10 : decode jdk_29_method_69_code 10 = .ok (.ireturn, 1) := by decide +kernel
set_option maxRecDepth 65536 in
set_option maxHeartbeats 4000000 in
theorem m_minf (l : Launch) (Z : State) (a0 : Array Value) (hw : ∀ d ∈ tables_1, d.before a0 Z = true) (p0 p1 : Int32) (h0 : Heap) (hc : ¬ (p1 < p0)) :
    OMet l (⟨"java/lang/Math", "min", "(II)I"⟩ : MethodName) jdk_29_method_69_code 2 (Option.some FieldType.int) [] ({ frames := 0, cells := 0, slots := 0, locals := 0 } : Room) Z h0 [] #[(.int p0), (.int p1)] (fun v h' => v = some (.int p0) ∧ h0 = h') := by
  refine OMet.of (own := "java/lang/Math") (nm := "min") (Jvm.Free.JP.mathPlain rfl (by decide +kernel)) rfl rfl ?_
  intro p e s m below meth c T0 P0 hby hml hret hnm
  refine Done.step (T' := T0) (g' := (mkF m 0 #[.val (.int p0), .val (.int p1)] [])) (fun t kk => castTop (ef_minf m p0 p1) kk) ?_
  refine Done.stepL (pc' := 10) (st' := [(.int p0)]) (fun t kk => ?_) ?_
  · show Steps p.tables e below (T0.setTop (mkF m 0 _ [])) t
    refine XS.iloadN P0.here P0.x rfl (hb hby d_minf_0) rfl ?_
    show Steps p.tables e below (T0.setTop (mkF m 1 _ [(.int p0)])) t
    refine XS.iloadN P0.here P0.x rfl (hb hby d_minf_1) rfl ?_
    show Steps p.tables e below (T0.setTop (mkF m 2 _ [(.int p1), (.int p0)])) t
    refine XS.icmpNo P0.here P0.x rfl (hb hby d_minf_2) rfl (iiW_gt_f hc) ?_
    show Steps p.tables e below (T0.setTop (mkF m 5 _ [])) t
    refine XS.iloadN P0.here P0.x rfl (hb hby d_minf_5) rfl ?_
    show Steps p.tables e below (T0.setTop (mkF m 6 _ [(.int p0)])) t
    refine XS.goto P0.here P0.x rfl (pc0 := 6) (pc' := 10) rfl (hb hby d_minf_6) (by decide) (by decide) ?_
    exact kk
  exact wRetI P0 hret (hb hby d_minf_10) ⟨rfl, rfl⟩
theorem ef_law (m : MethodId) (x0 : Int32) (x1 : Int32) (x2 : Int32) : entryFrame m #[(.int x0), (.int x1), (.int x2)] maxLocals = mkF m 0 #[.val (.int x0), .val (.int x1), .val (.int x2), .unset, .unset, .unset, .unset, .unset, .unset, .unset] [] := by first | (simp [entryFrame, mkF, argsToLocals, Value.category, maxLocals]; done) | rfl
set_option maxRecDepth 65536 in
set_option maxHeartbeats 4000000 in
theorem m_law (l : Launch) (Z : State) (a0 : Array Value) (hw : ∀ d ∈ tables_1, d.before a0 Z = true) (p0 p1 p2 : Int32) (h0 : Heap)  :
    OMet l x code maxLocals ret tables_1 room_1 Z h0 [] #[(.int p0), (.int p1), (.int p2)] (fun v h' => v = some (.int 1)) := by
  refine OMet.of (own := "com/example/urnwise/urnwise/sampler/SmallestKeysIsFullPinLaw") (nm := "law") (plainFor_of_name pn_1) rfl rfl ?_
  intro p e s m below meth c T0 P0 hby hml hret hnm
  refine Done.step (T' := T0) (g' := (mkF m 0 #[.val (.int p0), .val (.int p1), .val (.int p2), .unset, .unset, .unset, .unset, .unset, .unset, .unset] [])) (fun t kk => castTop (ef_law m p0 p1 p2) kk) ?_
  refine Done.step (T' := T0) (g' := (mkF m 18 #[.val (.int p0), .val (.int p1), .val (.int p2), .val (.int (if (p0 &&& (8 : Int32)) = (0 : Int32) then (p0 &&& (7 : Int32)) else ((p0.toUInt32 >>> ((1 : Int32) &&& 31).toUInt32).toInt32))), .unset, .unset, .unset, .unset, .unset, .unset] [])) (fun t kk => ?_) ?_
  · show Steps p.tables e below (T0.setTop (mkF m 0 _ [])) t
    refine XS.iloadN P0.here P0.x rfl (hb hby at_0) rfl ?_
    show Steps p.tables e below (T0.setTop (mkF m 1 _ [(.int p0)])) t
    refine XS.bipush P0.here P0.x rfl (hb hby at_1) ?_
    show Steps p.tables e below (T0.setTop (mkF m 3 _ [(.int (8 : Int32)), (.int p0)])) t
    refine XS.iand P0.here P0.x rfl (hb hby at_3) rfl ?_
    show Steps p.tables e below (T0.setTop (mkF m 4 _ [(.int (p0 &&& (8 : Int32)))])) t
    suffices kk2 : Steps p.tables e below (T0.setTop (mkF m 17 #[.val (.int p0), .val (.int p1), .val (.int p2), .unset, .unset, .unset, .unset, .unset, .unset, .unset] [(.int (if (p0 &&& (8 : Int32)) = (0 : Int32) then (p0 &&& (7 : Int32)) else ((p0.toUInt32 >>> ((1 : Int32) &&& 31).toUInt32).toInt32)))])) t by
      by_cases hc1 : (p0 &&& (8 : Int32)) = (0 : Int32)
      · skip
        replace kk2 := Eq.mp (congrArg (fun z_ : Int32 => Steps p.tables e below (T0.setTop (mkF m 17 #[.val (.int p0), .val (.int p1), .val (.int p2), .unset, .unset, .unset, .unset, .unset, .unset, .unset] [(.int z_)])) t) (show (if (p0 &&& (8 : Int32)) = (0 : Int32) then (p0 &&& (7 : Int32)) else ((p0.toUInt32 >>> ((1 : Int32) &&& 31).toUInt32).toInt32)) = (p0 &&& (7 : Int32)) from if_pos hc1)) kk2
        show Steps p.tables e below (T0.setTop (mkF m 4 _ [(.int (p0 &&& (8 : Int32)))])) t
        refine XS.ifYes P0.here P0.x rfl (pc0 := 4) (pc' := 13) rfl (hb hby at_4) rfl (i0W_eq_t hc1) (by decide) (by decide) ?_
        show Steps p.tables e below (T0.setTop (mkF m 13 _ [])) t
        refine XS.iloadN P0.here P0.x rfl (hb hby at_13) rfl ?_
        show Steps p.tables e below (T0.setTop (mkF m 14 _ [(.int p0)])) t
        refine XS.bipush P0.here P0.x rfl (hb hby at_14) ?_
        show Steps p.tables e below (T0.setTop (mkF m 16 _ [(.int (7 : Int32)), (.int p0)])) t
        refine XS.iand P0.here P0.x rfl (hb hby at_16) rfl ?_
        exact kk2
      · skip
        replace kk2 := Eq.mp (congrArg (fun z_ : Int32 => Steps p.tables e below (T0.setTop (mkF m 17 #[.val (.int p0), .val (.int p1), .val (.int p2), .unset, .unset, .unset, .unset, .unset, .unset, .unset] [(.int z_)])) t) (show (if (p0 &&& (8 : Int32)) = (0 : Int32) then (p0 &&& (7 : Int32)) else ((p0.toUInt32 >>> ((1 : Int32) &&& 31).toUInt32).toInt32)) = ((p0.toUInt32 >>> ((1 : Int32) &&& 31).toUInt32).toInt32) from if_neg hc1)) kk2
        show Steps p.tables e below (T0.setTop (mkF m 4 _ [(.int (p0 &&& (8 : Int32)))])) t
        refine XS.ifNo P0.here P0.x rfl (hb hby at_4) rfl (i0W_eq_f hc1) ?_
        show Steps p.tables e below (T0.setTop (mkF m 7 _ [])) t
        refine XS.iloadN P0.here P0.x rfl (hb hby at_7) rfl ?_
        show Steps p.tables e below (T0.setTop (mkF m 8 _ [(.int p0)])) t
        refine XS.iconst P0.here P0.x rfl (hb hby at_8) ?_
        show Steps p.tables e below (T0.setTop (mkF m 9 _ [(.int (1 : Int32)), (.int p0)])) t
        refine XS.iushr P0.here P0.x rfl (hb hby at_9) rfl ?_
        show Steps p.tables e below (T0.setTop (mkF m 10 _ [(.int ((p0.toUInt32 >>> ((1 : Int32) &&& 31).toUInt32).toInt32))])) t
        refine XS.goto P0.here P0.x rfl (pc0 := 10) (pc' := 17) rfl (hb hby at_10) (by decide) (by decide) ?_
        exact kk2
    show Steps p.tables e below (T0.setTop (mkF m 17 _ [(.int (if (p0 &&& (8 : Int32)) = (0 : Int32) then (p0 &&& (7 : Int32)) else ((p0.toUInt32 >>> ((1 : Int32) &&& 31).toUInt32).toInt32)))])) t
    refine XS.istoreN P0.here P0.x rfl (hb hby at_17) rfl (l' := #[.val (.int p0), .val (.int p1), .val (.int p2), .val (.int (if (p0 &&& (8 : Int32)) = (0 : Int32) then (p0 &&& (7 : Int32)) else ((p0.toUInt32 >>> ((1 : Int32) &&& 31).toUInt32).toInt32))), .unset, .unset, .unset, .unset, .unset, .unset]) rfl ?_
    exact kk
  generalize g_cv : (if (p0 &&& (8 : Int32)) = (0 : Int32) then (p0 &&& (7 : Int32)) else ((p0.toUInt32 >>> ((1 : Int32) &&& 31).toUInt32).toInt32)) = cv
  have hcv : 0 ≤ cv.toInt := by rw [← g_cv]; exact own_cv p0
  show Done _ _ _ _ _ _ _ _ _ _ _ _ _ _ _ T0 (mkF m 18 _ [])
  refine Done.step (T' := T0) (g' := (mkF m 34 #[.val (.int p0), .val (.int p1), .val (.int p2), .val (.int cv), .val (.int (if cv = (0 : Int32) then (0 : Int32) else ((p1 &&& (2147483647 : Int32)) - ((p1 &&& (2147483647 : Int32)) / (5 : Int32)) * (5 : Int32)))), .unset, .unset, .unset, .unset, .unset] [])) (fun t kk => ?_) ?_
  · show Steps p.tables e below (T0.setTop (mkF m 18 _ [])) t
    refine XS.iloadN P0.here P0.x rfl (hb hby at_18) rfl ?_
    show Steps p.tables e below (T0.setTop (mkF m 19 _ [(.int cv)])) t
    suffices kk4 : Steps p.tables e below (T0.setTop (mkF m 32 #[.val (.int p0), .val (.int p1), .val (.int p2), .val (.int cv), .unset, .unset, .unset, .unset, .unset, .unset] [(.int (if cv = (0 : Int32) then (0 : Int32) else ((p1 &&& (2147483647 : Int32)) - ((p1 &&& (2147483647 : Int32)) / (5 : Int32)) * (5 : Int32))))])) t by
      by_cases hc3 : cv = (0 : Int32)
      · skip
        replace kk4 := Eq.mp (congrArg (fun z_ : Int32 => Steps p.tables e below (T0.setTop (mkF m 32 #[.val (.int p0), .val (.int p1), .val (.int p2), .val (.int cv), .unset, .unset, .unset, .unset, .unset, .unset] [(.int z_)])) t) (show (if cv = (0 : Int32) then (0 : Int32) else ((p1 &&& (2147483647 : Int32)) - ((p1 &&& (2147483647 : Int32)) / (5 : Int32)) * (5 : Int32))) = (0 : Int32) from if_pos hc3)) kk4
        show Steps p.tables e below (T0.setTop (mkF m 19 _ [(.int cv)])) t
        refine XS.ifNo P0.here P0.x rfl (hb hby at_19) rfl (i0W_ne_f (not_not_intro hc3)) ?_
        show Steps p.tables e below (T0.setTop (mkF m 22 _ [])) t
        refine XS.iconst P0.here P0.x rfl (hb hby at_22) ?_
        show Steps p.tables e below (T0.setTop (mkF m 23 _ [(.int (0 : Int32))])) t
        refine XS.goto P0.here P0.x rfl (pc0 := 23) (pc' := 32) rfl (hb hby at_23) (by decide) (by decide) ?_
        exact kk4
      · skip
        replace kk4 := Eq.mp (congrArg (fun z_ : Int32 => Steps p.tables e below (T0.setTop (mkF m 32 #[.val (.int p0), .val (.int p1), .val (.int p2), .val (.int cv), .unset, .unset, .unset, .unset, .unset, .unset] [(.int z_)])) t) (show (if cv = (0 : Int32) then (0 : Int32) else ((p1 &&& (2147483647 : Int32)) - ((p1 &&& (2147483647 : Int32)) / (5 : Int32)) * (5 : Int32))) = ((p1 &&& (2147483647 : Int32)) - ((p1 &&& (2147483647 : Int32)) / (5 : Int32)) * (5 : Int32)) from if_neg hc3)) kk4
        show Steps p.tables e below (T0.setTop (mkF m 19 _ [(.int cv)])) t
        refine XS.ifYes P0.here P0.x rfl (pc0 := 19) (pc' := 26) rfl (hb hby at_19) rfl (i0W_ne_t hc3) (by decide) (by decide) ?_
        show Steps p.tables e below (T0.setTop (mkF m 26 _ [])) t
        refine XS.iloadN P0.here P0.x rfl (hb hby at_26) rfl ?_
        show Steps p.tables e below (T0.setTop (mkF m 27 _ [(.int p1)])) t
        refine pLdcI P0 (tw34 hw) (hb hby at_27) rfl ?_
        show Steps p.tables e below (T0.setTop (mkF m 29 _ [(.int (2147483647 : Int32)), (.int p1)])) t
        refine XS.iand P0.here P0.x rfl (hb hby at_29) rfl ?_
        show Steps p.tables e below (T0.setTop (mkF m 30 _ [(.int (p1 &&& (2147483647 : Int32)))])) t
        refine XS.iconst P0.here P0.x rfl (hb hby at_30) ?_
        show Steps p.tables e below (T0.setTop (mkF m 31 _ [(.int (5 : Int32)), (.int (p1 &&& (2147483647 : Int32)))])) t
        refine XS.irem P0.here P0.x rfl (hb hby at_31) rfl (by decide) ?_
        exact kk4
    show Steps p.tables e below (T0.setTop (mkF m 32 _ [(.int (if cv = (0 : Int32) then (0 : Int32) else ((p1 &&& (2147483647 : Int32)) - ((p1 &&& (2147483647 : Int32)) / (5 : Int32)) * (5 : Int32))))])) t
    refine XS.istore P0.here P0.x rfl (hb hby at_32) rfl (l' := #[.val (.int p0), .val (.int p1), .val (.int p2), .val (.int cv), .val (.int (if cv = (0 : Int32) then (0 : Int32) else ((p1 &&& (2147483647 : Int32)) - ((p1 &&& (2147483647 : Int32)) / (5 : Int32)) * (5 : Int32)))), .unset, .unset, .unset, .unset, .unset]) rfl ?_
    exact kk
  generalize g_nv : (if cv = (0 : Int32) then (0 : Int32) else ((p1 &&& (2147483647 : Int32)) - ((p1 &&& (2147483647 : Int32)) / (5 : Int32)) * (5 : Int32))) = nv
  have hnv : nv = 0 ∨ (¬ (cv = 0) ∧ (nv = 1 ∨ nv = 2 ∨ nv = 3 ∨ nv = 4)) := by rw [← g_nv]; exact own_nv _ p1
  show Done _ _ _ _ _ _ _ _ _ _ _ _ _ _ _ T0 (mkF m 34 _ [])
  have hcc := own_cc hcv
  rcases hcc with rfl | rfl | rfl | rfl | rfl | hc5
  · obtain rfl : nv = 0 := by rcases hnv with h | h; exact h; exact absurd rfl h.1
    show Done _ _ _ _ _ _ _ _ _ _ _ _ _ _ _ T0 (mkF m 34 _ [])
    refine wNew P0 (tw0 hw) (tw1 hw) (tw2 hw) (hb hby at_34) rfl (by decide) (by decide) (k' := 1) (n' := 4) rfl rfl (fun T5 h7 b8 g9 lt10 P6 E11 X12 D13 => ?_)
    have ge_b8 : h0.size ≤ b8 := by have := P0.ge; omega
    have F14 : Fld Z h7 b8 "com/example/urnwise/urnwise/sampler/SmallestKeys" "capacity" "I" (.int (0 : Int32)) := D13 (Or.inr (tw10 hw)) (ty := .int) (by decide)
    have F15 : Fld Z h7 b8 "com/example/urnwise/urnwise/sampler/SmallestKeys" "keys" "[D" .null := D13 (Or.inl (tw17 hw)) (ty := (.array .double)) (by decide)
    have F16 : Fld Z h7 b8 "com/example/urnwise/urnwise/sampler/SmallestKeys" "indices" "[I" .null := D13 (Or.inl (tw20 hw)) (ty := (.array .int)) (by decide)
    have F17 : Fld Z h7 b8 "com/example/urnwise/urnwise/sampler/SmallestKeys" "size" "I" (.int (0 : Int32)) := D13 (Or.inl (tw27 hw)) (ty := .int) (by decide)
    show Done _ _ _ _ _ _ _ _ _ _ _ _ _ _ _ T5 (mkF m 37 _ [(.ref b8)])
    refine Done.stepL (pc' := 39) (st' := [(.int (0 : Int32)), (.ref b8), (.ref b8)]) (fun t kk => ?_) ?_
    · show Steps p.tables e below (T5.setTop (mkF m 37 _ [(.ref b8)])) t
      refine XS.dup P6.here P6.x rfl (hb hby at_37) rfl rfl ?_
      show Steps p.tables e below (T5.setTop (mkF m 38 _ [(.ref b8), (.ref b8)])) t
      refine XS.iloadN P6.here P6.x rfl (hb hby at_38) rfl ?_
      exact kk
    refine wCallI P6 (m_hpInit l Z a0 hw b8 (0 : Int32) 0 h7 X12 F14 F15 F16 (by decide) (by decide) F17) rfl (tw3 hw) (tw4 hw) (tw2 hw) (tw5 hw) (by decide) (a := b8) (by rw [hml]; rfl) (lenOf pd_2 rfl) (argsL := [(.int (0 : Int32))]) (rest := [(.ref b8)]) rfl rfl (W := 1) (Nat.le_of_eq rfl) (by decide) (by decide) (by decide) (by decide) (allS (Or.inr ge_b8) all0) (hb hby at_39) rfl (k' := 3) (n' := 36) rfl rfl ?_
    rintro T18 h33 _ P19 K34 ⟨rfl, b20, b21, q22, q23, q24, q25, q26, F27, F28, F29, F30, A31, A32⟩
    have szh33 : h7.size ≤ h33.size := K34.1
    have ge_b20 : h0.size ≤ b20 := by have := q22; have := P6.ge; omega
    have ge_b21 : h0.size ≤ b21 := by have := q23; have := P6.ge; omega
    have dK0 : ∀ i, i < 0 → DInt ((fun _ => (0 : Int)) i) ((fun _ => (0 : UInt64)) i) := fun i _ => dint_c0
    show Done _ _ _ _ _ _ _ _ _ _ _ _ _ _ _ T18 (mkF m 42 _ [(.ref b8)])
    refine Done.step (T' := T18) (g' := (mkF m 46 #[.val (.int p0), .val (.int p1), .val (.int p2), .val (.int (0 : Int32)), .val (.int (0 : Int32)), .val (.ref b8), .unset, .unset, .unset, .unset] [(.ref b8)])) (fun t kk => ?_) ?_
    · show Steps p.tables e below (T18.setTop (mkF m 42 _ [(.ref b8)])) t
      refine XS.astore P19.here P19.x rfl (hb hby at_42) rfl rfl (l' := #[.val (.int p0), .val (.int p1), .val (.int p2), .val (.int (0 : Int32)), .val (.int (0 : Int32)), .val (.ref b8), .unset, .unset, .unset, .unset]) rfl ?_
      show Steps p.tables e below (T18.setTop (mkF m 44 _ [])) t
      refine XS.aload P19.here P19.x rfl (hb hby at_44) rfl rfl ?_
      exact kk
    have f37 := (X12.keep K34)
    refine wCallV P19 (m_isFullt l Z a0 hw b8 (0 : Int32) (0 : Int32) h33 F27 F30 (by decide)) (tw21 hw) (tw22 hw) (tw24 hw) (tw24 hw) (tw23 hw) (tw2 hw) (tw25 hw) (by decide) f37 (by rw [hml]; rfl) (lenOf pd_3 rfl) (argsL := []) (rest := []) rfl rfl (W := 0) (Nat.le_of_eq rfl) (by decide) (by decide) (by decide) (by decide) (by simp) (hb hby at_46) rfl (k' := 3) (n' := 36) rfl rfl ?_
    rintro T35 _ _ P36 - ⟨rfl, rfl⟩
    show Done _ _ _ _ _ _ _ _ _ _ _ _ _ _ _ T35 (mkF m 49 _ [(.int (1 : Int32))])
    refine Done.step (T' := T35) (g' := (mkF m 152 #[.val (.int p0), .val (.int p1), .val (.int p2), .val (.int (0 : Int32)), .val (.int (0 : Int32)), .val (.ref b8), .val (.int (1 : Int32)), .unset, .unset, .unset] [(.int (0 : Int32)), (.int (0 : Int32))])) (fun t kk => ?_) ?_
    · show Steps p.tables e below (T35.setTop (mkF m 49 _ [(.int (1 : Int32))])) t
      refine XS.iloadN P36.here P36.x rfl (hb hby at_49) rfl ?_
      show Steps p.tables e below (T35.setTop (mkF m 50 _ [(.int (0 : Int32)), (.int (1 : Int32))])) t
      refine XS.ifNo P36.here P36.x rfl (hb hby at_50) rfl (i0W_ne_f (by decide)) ?_
      show Steps p.tables e below (T35.setTop (mkF m 53 _ [(.int (1 : Int32))])) t
      refine XS.iconst P36.here P36.x rfl (hb hby at_53) ?_
      show Steps p.tables e below (T35.setTop (mkF m 54 _ [(.int (1 : Int32)), (.int (1 : Int32))])) t
      refine XS.goto P36.here P36.x rfl (pc0 := 54) (pc' := 58) rfl (hb hby at_54) (by decide) (by decide) ?_
      show Steps p.tables e below (T35.setTop (mkF m 58 _ [(.int (1 : Int32)), (.int (1 : Int32))])) t
      refine XS.icmpNo P36.here P36.x rfl (hb hby at_58) rfl (iiW_ne_f (by decide)) ?_
      show Steps p.tables e below (T35.setTop (mkF m 61 _ [])) t
      refine XS.iconst P36.here P36.x rfl (hb hby at_61) ?_
      show Steps p.tables e below (T35.setTop (mkF m 62 _ [(.int (1 : Int32))])) t
      refine XS.goto P36.here P36.x rfl (pc0 := 62) (pc' := 66) rfl (hb hby at_62) (by decide) (by decide) ?_
      show Steps p.tables e below (T35.setTop (mkF m 66 _ [(.int (1 : Int32))])) t
      refine XS.istore P36.here P36.x rfl (hb hby at_66) rfl (l' := #[.val (.int p0), .val (.int p1), .val (.int p2), .val (.int (0 : Int32)), .val (.int (0 : Int32)), .val (.ref b8), .val (.int (1 : Int32)), .unset, .unset, .unset]) rfl ?_
      show Steps p.tables e below (T35.setTop (mkF m 68 _ [])) t
      refine XS.iload P36.here P36.x rfl (hb hby at_68) rfl ?_
      show Steps p.tables e below (T35.setTop (mkF m 70 _ [(.int (0 : Int32))])) t
      refine XS.iconst P36.here P36.x rfl (hb hby at_70) ?_
      show Steps p.tables e below (T35.setTop (mkF m 71 _ [(.int (1 : Int32)), (.int (0 : Int32))])) t
      refine XS.icmpYes P36.here P36.x rfl (pc0 := 71) (pc' := 86) rfl (hb hby at_71) rfl (iiW_lt_t (by decide)) (by decide) (by decide) ?_
      show Steps p.tables e below (T35.setTop (mkF m 86 _ [])) t
      refine XS.iload P36.here P36.x rfl (hb hby at_86) rfl ?_
      show Steps p.tables e below (T35.setTop (mkF m 88 _ [(.int (0 : Int32))])) t
      refine XS.iconst P36.here P36.x rfl (hb hby at_88) ?_
      show Steps p.tables e below (T35.setTop (mkF m 89 _ [(.int (2 : Int32)), (.int (0 : Int32))])) t
      refine XS.icmpYes P36.here P36.x rfl (pc0 := 89) (pc' := 107) rfl (hb hby at_89) rfl (iiW_lt_t (by decide)) (by decide) (by decide) ?_
      show Steps p.tables e below (T35.setTop (mkF m 107 _ [])) t
      refine XS.iload P36.here P36.x rfl (hb hby at_107) rfl ?_
      show Steps p.tables e below (T35.setTop (mkF m 109 _ [(.int (0 : Int32))])) t
      refine XS.iconst P36.here P36.x rfl (hb hby at_109) ?_
      show Steps p.tables e below (T35.setTop (mkF m 110 _ [(.int (3 : Int32)), (.int (0 : Int32))])) t
      refine XS.icmpYes P36.here P36.x rfl (pc0 := 110) (pc' := 128) rfl (hb hby at_110) rfl (iiW_lt_t (by decide)) (by decide) (by decide) ?_
      show Steps p.tables e below (T35.setTop (mkF m 128 _ [])) t
      refine XS.iload P36.here P36.x rfl (hb hby at_128) rfl ?_
      show Steps p.tables e below (T35.setTop (mkF m 130 _ [(.int (0 : Int32))])) t
      refine XS.iconst P36.here P36.x rfl (hb hby at_130) ?_
      show Steps p.tables e below (T35.setTop (mkF m 131 _ [(.int (4 : Int32)), (.int (0 : Int32))])) t
      refine XS.icmpYes P36.here P36.x rfl (pc0 := 131) (pc' := 149) rfl (hb hby at_131) rfl (iiW_lt_t (by decide)) (by decide) (by decide) ?_
      show Steps p.tables e below (T35.setTop (mkF m 149 _ [])) t
      refine XS.iload P36.here P36.x rfl (hb hby at_149) rfl ?_
      show Steps p.tables e below (T35.setTop (mkF m 151 _ [(.int (0 : Int32))])) t
      refine XS.iloadN P36.here P36.x rfl (hb hby at_151) rfl ?_
      exact kk
    refine wCallS P36 (m_minf l Z a0 hw (0 : Int32) (0 : Int32) h33 (by decide)) (tw28 hw) (tw12 hw) (tw13 hw) (tw14 hw) (by decide) (by rw [hml]; rfl) (lenOf pd_1 rfl) (argsL := [(.int (0 : Int32)), (.int (0 : Int32))]) (rest := []) rfl rfl (W := 0) (Nat.le_of_eq rfl) (by decide) (by decide) (by decide) (by decide) (by simp) (hb hby at_152) rfl (k' := 3) (n' := 36) rfl rfl ?_
    rintro T38 _ _ P39 - ⟨rfl, rfl⟩
    show Done _ _ _ _ _ _ _ _ _ _ _ _ _ _ _ T38 (mkF m 155 _ [(.int (0 : Int32))])
    refine Done.step (T' := T38) (g' := (mkF m 159 #[.val (.int p0), .val (.int p1), .val (.int p2), .val (.int (0 : Int32)), .val (.int (0 : Int32)), .val (.ref b8), .val (.int (1 : Int32)), .val (.int (0 : Int32)), .unset, .unset] [(.ref b8)])) (fun t kk => ?_) ?_
    · show Steps p.tables e below (T38.setTop (mkF m 155 _ [(.int (0 : Int32))])) t
      refine XS.istore P39.here P39.x rfl (hb hby at_155) rfl (l' := #[.val (.int p0), .val (.int p1), .val (.int p2), .val (.int (0 : Int32)), .val (.int (0 : Int32)), .val (.ref b8), .val (.int (1 : Int32)), .val (.int (0 : Int32)), .unset, .unset]) rfl ?_
      show Steps p.tables e below (T38.setTop (mkF m 157 _ [])) t
      refine XS.aload P39.here P39.x rfl (hb hby at_157) rfl rfl ?_
      exact kk
    refine wCallV P39 (m_size l Z a0 hw b8 (0 : Int32) h33 F27) (tw29 hw) (tw30 hw) (tw32 hw) (tw32 hw) (tw31 hw) (tw2 hw) (tw33 hw) (by decide) f37 (by rw [hml]; rfl) (lenOf pd_4 rfl) (argsL := []) (rest := []) rfl rfl (W := 0) (Nat.le_of_eq rfl) (by decide) (by decide) (by decide) (by decide) (by simp) (hb hby at_159) rfl (k' := 3) (n' := 36) rfl rfl ?_
    rintro T40 _ _ P41 - ⟨rfl, rfl⟩
    show Done _ _ _ _ _ _ _ _ _ _ _ _ _ _ _ T40 (mkF m 162 _ [(.int (0 : Int32))])
    refine Done.step (T' := T40) (g' := (mkF m 176 #[.val (.int p0), .val (.int p1), .val (.int p2), .val (.int (0 : Int32)), .val (.int (0 : Int32)), .val (.ref b8), .val (.int (1 : Int32)), .val (.int (0 : Int32)), .val (.int (1 : Int32)), .unset] [(.ref b8)])) (fun t kk => ?_) ?_
    · show Steps p.tables e below (T40.setTop (mkF m 162 _ [(.int (0 : Int32))])) t
      refine XS.iload P41.here P41.x rfl (hb hby at_162) rfl ?_
      show Steps p.tables e below (T40.setTop (mkF m 164 _ [(.int (0 : Int32)), (.int (0 : Int32))])) t
      refine XS.icmpNo P41.here P41.x rfl (hb hby at_164) rfl (iiW_ne_f (by decide)) ?_
      show Steps p.tables e below (T40.setTop (mkF m 167 _ [])) t
      refine XS.iconst P41.here P41.x rfl (hb hby at_167) ?_
      show Steps p.tables e below (T40.setTop (mkF m 168 _ [(.int (1 : Int32))])) t
      refine XS.goto P41.here P41.x rfl (pc0 := 168) (pc' := 172) rfl (hb hby at_168) (by decide) (by decide) ?_
      show Steps p.tables e below (T40.setTop (mkF m 172 _ [(.int (1 : Int32))])) t
      refine XS.istore P41.here P41.x rfl (hb hby at_172) rfl (l' := #[.val (.int p0), .val (.int p1), .val (.int p2), .val (.int (0 : Int32)), .val (.int (0 : Int32)), .val (.ref b8), .val (.int (1 : Int32)), .val (.int (0 : Int32)), .val (.int (1 : Int32)), .unset]) rfl ?_
      show Steps p.tables e below (T40.setTop (mkF m 174 _ [])) t
      refine XS.aload P41.here P41.x rfl (hb hby at_174) rfl rfl ?_
      exact kk
    refine wCallV P41 (m_isFullt l Z a0 hw b8 (0 : Int32) (0 : Int32) h33 F27 F30 (by decide)) (tw21 hw) (tw22 hw) (tw24 hw) (tw24 hw) (tw23 hw) (tw2 hw) (tw25 hw) (by decide) f37 (by rw [hml]; rfl) (lenOf pd_3 rfl) (argsL := []) (rest := []) rfl rfl (W := 0) (Nat.le_of_eq rfl) (by decide) (by decide) (by decide) (by decide) (by simp) (hb hby at_176) rfl (k' := 3) (n' := 36) rfl rfl ?_
    rintro T42 _ _ P43 - ⟨rfl, rfl⟩
    show Done _ _ _ _ _ _ _ _ _ _ _ _ _ _ _ T42 (mkF m 179 _ [(.int (1 : Int32))])
    refine Done.step (T' := T42) (g' := (mkF m 220 #[.val (.int p0), .val (.int p1), .val (.int p2), .val (.int (0 : Int32)), .val (.int (0 : Int32)), .val (.ref b8), .val (.int (1 : Int32)), .val (.int (0 : Int32)), .val (.int (1 : Int32)), .val (.int (1 : Int32))] [(.int (1 : Int32))])) (fun t kk => ?_) ?_
    · show Steps p.tables e below (T42.setTop (mkF m 179 _ [(.int (1 : Int32))])) t
      refine XS.iload P43.here P43.x rfl (hb hby at_179) rfl ?_
      show Steps p.tables e below (T42.setTop (mkF m 181 _ [(.int (0 : Int32)), (.int (1 : Int32))])) t
      refine XS.iloadN P43.here P43.x rfl (hb hby at_181) rfl ?_
      show Steps p.tables e below (T42.setTop (mkF m 182 _ [(.int (0 : Int32)), (.int (0 : Int32)), (.int (1 : Int32))])) t
      refine XS.icmpNo P43.here P43.x rfl (hb hby at_182) rfl (iiW_ne_f (by decide)) ?_
      show Steps p.tables e below (T42.setTop (mkF m 185 _ [(.int (1 : Int32))])) t
      refine XS.iconst P43.here P43.x rfl (hb hby at_185) ?_
      show Steps p.tables e below (T42.setTop (mkF m 186 _ [(.int (1 : Int32)), (.int (1 : Int32))])) t
      refine XS.goto P43.here P43.x rfl (pc0 := 186) (pc' := 190) rfl (hb hby at_186) (by decide) (by decide) ?_
      show Steps p.tables e below (T42.setTop (mkF m 190 _ [(.int (1 : Int32)), (.int (1 : Int32))])) t
      refine XS.icmpNo P43.here P43.x rfl (hb hby at_190) rfl (iiW_ne_f (by decide)) ?_
      show Steps p.tables e below (T42.setTop (mkF m 193 _ [])) t
      refine XS.iconst P43.here P43.x rfl (hb hby at_193) ?_
      show Steps p.tables e below (T42.setTop (mkF m 194 _ [(.int (1 : Int32))])) t
      refine XS.goto P43.here P43.x rfl (pc0 := 194) (pc' := 198) rfl (hb hby at_194) (by decide) (by decide) ?_
      show Steps p.tables e below (T42.setTop (mkF m 198 _ [(.int (1 : Int32))])) t
      refine XS.istore P43.here P43.x rfl (hb hby at_198) rfl (l' := #[.val (.int p0), .val (.int p1), .val (.int p2), .val (.int (0 : Int32)), .val (.int (0 : Int32)), .val (.ref b8), .val (.int (1 : Int32)), .val (.int (0 : Int32)), .val (.int (1 : Int32)), .val (.int (1 : Int32))]) rfl ?_
      show Steps p.tables e below (T42.setTop (mkF m 200 _ [])) t
      refine XS.iload P43.here P43.x rfl (hb hby at_200) rfl ?_
      show Steps p.tables e below (T42.setTop (mkF m 202 _ [(.int (1 : Int32))])) t
      refine XS.ifNo P43.here P43.x rfl (hb hby at_202) rfl (i0W_eq_f (by decide)) ?_
      show Steps p.tables e below (T42.setTop (mkF m 205 _ [])) t
      refine XS.iload P43.here P43.x rfl (hb hby at_205) rfl ?_
      show Steps p.tables e below (T42.setTop (mkF m 207 _ [(.int (1 : Int32))])) t
      refine XS.ifNo P43.here P43.x rfl (hb hby at_207) rfl (i0W_eq_f (by decide)) ?_
      show Steps p.tables e below (T42.setTop (mkF m 210 _ [])) t
      refine XS.iload P43.here P43.x rfl (hb hby at_210) rfl ?_
      show Steps p.tables e below (T42.setTop (mkF m 212 _ [(.int (1 : Int32))])) t
      refine XS.ifNo P43.here P43.x rfl (hb hby at_212) rfl (i0W_eq_f (by decide)) ?_
      show Steps p.tables e below (T42.setTop (mkF m 215 _ [])) t
      refine XS.iconst P43.here P43.x rfl (hb hby at_215) ?_
      show Steps p.tables e below (T42.setTop (mkF m 216 _ [(.int (1 : Int32))])) t
      refine XS.goto P43.here P43.x rfl (pc0 := 216) (pc' := 220) rfl (hb hby at_216) (by decide) (by decide) ?_
      exact kk
    exact wRet P43 (t := .boolean) hret (narrow_01 (Or.inr rfl)) (Or.inl ⟨rfl, Or.inr (Or.inl rfl), _, rfl⟩) (hb hby at_220) rfl
  · rcases hnv with rfl | ⟨-, rfl | rfl | rfl | rfl⟩
    · show Done _ _ _ _ _ _ _ _ _ _ _ _ _ _ _ T0 (mkF m 34 _ [])
      refine wNew P0 (tw0 hw) (tw1 hw) (tw2 hw) (hb hby at_34) rfl (by decide) (by decide) (k' := 1) (n' := 4) rfl rfl (fun T44 h46 b47 g48 lt49 P45 E50 X51 D52 => ?_)
      have ge_b47 : h0.size ≤ b47 := by have := P0.ge; omega
      have F53 : Fld Z h46 b47 "com/example/urnwise/urnwise/sampler/SmallestKeys" "capacity" "I" (.int (0 : Int32)) := D52 (Or.inr (tw10 hw)) (ty := .int) (by decide)
      have F54 : Fld Z h46 b47 "com/example/urnwise/urnwise/sampler/SmallestKeys" "keys" "[D" .null := D52 (Or.inl (tw17 hw)) (ty := (.array .double)) (by decide)
      have F55 : Fld Z h46 b47 "com/example/urnwise/urnwise/sampler/SmallestKeys" "indices" "[I" .null := D52 (Or.inl (tw20 hw)) (ty := (.array .int)) (by decide)
      have F56 : Fld Z h46 b47 "com/example/urnwise/urnwise/sampler/SmallestKeys" "size" "I" (.int (0 : Int32)) := D52 (Or.inl (tw27 hw)) (ty := .int) (by decide)
      show Done _ _ _ _ _ _ _ _ _ _ _ _ _ _ _ T44 (mkF m 37 _ [(.ref b47)])
      refine Done.stepL (pc' := 39) (st' := [(.int (1 : Int32)), (.ref b47), (.ref b47)]) (fun t kk => ?_) ?_
      · show Steps p.tables e below (T44.setTop (mkF m 37 _ [(.ref b47)])) t
        refine XS.dup P45.here P45.x rfl (hb hby at_37) rfl rfl ?_
        show Steps p.tables e below (T44.setTop (mkF m 38 _ [(.ref b47), (.ref b47)])) t
        refine XS.iloadN P45.here P45.x rfl (hb hby at_38) rfl ?_
        exact kk
      refine wCallI P45 (m_hpInit l Z a0 hw b47 (1 : Int32) 1 h46 X51 F53 F54 F55 (by decide) (by decide) F56) rfl (tw3 hw) (tw4 hw) (tw2 hw) (tw5 hw) (by decide) (a := b47) (by rw [hml]; rfl) (lenOf pd_2 rfl) (argsL := [(.int (1 : Int32))]) (rest := [(.ref b47)]) rfl rfl (W := 1) (Nat.le_of_eq rfl) (by decide) (by decide) (by decide) (by decide) (allS (Or.inr ge_b47) all0) (hb hby at_39) rfl (k' := 3) (n' := 36) rfl rfl ?_
      rintro T57 h72 _ P58 K73 ⟨rfl, b59, b60, q61, q62, q63, q64, q65, F66, F67, F68, F69, A70, A71⟩
      have szh72 : h46.size ≤ h72.size := K73.1
      have ge_b59 : h0.size ≤ b59 := by have := q61; have := P45.ge; omega
      have ge_b60 : h0.size ≤ b60 := by have := q62; have := P45.ge; omega
      have dK0 : ∀ i, i < 1 → DInt ((fun _ => (0 : Int)) i) ((fun _ => (0 : UInt64)) i) := fun i _ => dint_c0
      show Done _ _ _ _ _ _ _ _ _ _ _ _ _ _ _ T57 (mkF m 42 _ [(.ref b47)])
      refine Done.step (T' := T57) (g' := (mkF m 46 #[.val (.int p0), .val (.int p1), .val (.int p2), .val (.int (1 : Int32)), .val (.int (0 : Int32)), .val (.ref b47), .unset, .unset, .unset, .unset] [(.ref b47)])) (fun t kk => ?_) ?_
      · show Steps p.tables e below (T57.setTop (mkF m 42 _ [(.ref b47)])) t
        refine XS.astore P58.here P58.x rfl (hb hby at_42) rfl rfl (l' := #[.val (.int p0), .val (.int p1), .val (.int p2), .val (.int (1 : Int32)), .val (.int (0 : Int32)), .val (.ref b47), .unset, .unset, .unset, .unset]) rfl ?_
        show Steps p.tables e below (T57.setTop (mkF m 44 _ [])) t
        refine XS.aload P58.here P58.x rfl (hb hby at_44) rfl rfl ?_
        exact kk
      have f76 := (X51.keep K73)
      refine wCallV P58 (m_isFullf l Z a0 hw b47 (0 : Int32) (1 : Int32) h72 F66 F69 (by decide)) (tw21 hw) (tw22 hw) (tw24 hw) (tw24 hw) (tw23 hw) (tw2 hw) (tw25 hw) (by decide) f76 (by rw [hml]; rfl) (lenOf pd_3 rfl) (argsL := []) (rest := []) rfl rfl (W := 0) (Nat.le_of_eq rfl) (by decide) (by decide) (by decide) (by decide) (by simp) (hb hby at_46) rfl (k' := 3) (n' := 36) rfl rfl ?_
      rintro T74 _ _ P75 - ⟨rfl, rfl⟩
      show Done _ _ _ _ _ _ _ _ _ _ _ _ _ _ _ T74 (mkF m 49 _ [(.int (0 : Int32))])
      refine Done.step (T' := T74) (g' := (mkF m 152 #[.val (.int p0), .val (.int p1), .val (.int p2), .val (.int (1 : Int32)), .val (.int (0 : Int32)), .val (.ref b47), .val (.int (1 : Int32)), .unset, .unset, .unset] [(.int (1 : Int32)), (.int (0 : Int32))])) (fun t kk => ?_) ?_
      · show Steps p.tables e below (T74.setTop (mkF m 49 _ [(.int (0 : Int32))])) t
        refine XS.iloadN P75.here P75.x rfl (hb hby at_49) rfl ?_
        show Steps p.tables e below (T74.setTop (mkF m 50 _ [(.int (1 : Int32)), (.int (0 : Int32))])) t
        refine XS.ifYes P75.here P75.x rfl (pc0 := 50) (pc' := 57) rfl (hb hby at_50) rfl (i0W_ne_t (by decide)) (by decide) (by decide) ?_
        show Steps p.tables e below (T74.setTop (mkF m 57 _ [(.int (0 : Int32))])) t
        refine XS.iconst P75.here P75.x rfl (hb hby at_57) ?_
        show Steps p.tables e below (T74.setTop (mkF m 58 _ [(.int (0 : Int32)), (.int (0 : Int32))])) t
        refine XS.icmpNo P75.here P75.x rfl (hb hby at_58) rfl (iiW_ne_f (by decide)) ?_
        show Steps p.tables e below (T74.setTop (mkF m 61 _ [])) t
        refine XS.iconst P75.here P75.x rfl (hb hby at_61) ?_
        show Steps p.tables e below (T74.setTop (mkF m 62 _ [(.int (1 : Int32))])) t
        refine XS.goto P75.here P75.x rfl (pc0 := 62) (pc' := 66) rfl (hb hby at_62) (by decide) (by decide) ?_
        show Steps p.tables e below (T74.setTop (mkF m 66 _ [(.int (1 : Int32))])) t
        refine XS.istore P75.here P75.x rfl (hb hby at_66) rfl (l' := #[.val (.int p0), .val (.int p1), .val (.int p2), .val (.int (1 : Int32)), .val (.int (0 : Int32)), .val (.ref b47), .val (.int (1 : Int32)), .unset, .unset, .unset]) rfl ?_
        show Steps p.tables e below (T74.setTop (mkF m 68 _ [])) t
        refine XS.iload P75.here P75.x rfl (hb hby at_68) rfl ?_
        show Steps p.tables e below (T74.setTop (mkF m 70 _ [(.int (0 : Int32))])) t
        refine XS.iconst P75.here P75.x rfl (hb hby at_70) ?_
        show Steps p.tables e below (T74.setTop (mkF m 71 _ [(.int (1 : Int32)), (.int (0 : Int32))])) t
        refine XS.icmpYes P75.here P75.x rfl (pc0 := 71) (pc' := 86) rfl (hb hby at_71) rfl (iiW_lt_t (by decide)) (by decide) (by decide) ?_
        show Steps p.tables e below (T74.setTop (mkF m 86 _ [])) t
        refine XS.iload P75.here P75.x rfl (hb hby at_86) rfl ?_
        show Steps p.tables e below (T74.setTop (mkF m 88 _ [(.int (0 : Int32))])) t
        refine XS.iconst P75.here P75.x rfl (hb hby at_88) ?_
        show Steps p.tables e below (T74.setTop (mkF m 89 _ [(.int (2 : Int32)), (.int (0 : Int32))])) t
        refine XS.icmpYes P75.here P75.x rfl (pc0 := 89) (pc' := 107) rfl (hb hby at_89) rfl (iiW_lt_t (by decide)) (by decide) (by decide) ?_
        show Steps p.tables e below (T74.setTop (mkF m 107 _ [])) t
        refine XS.iload P75.here P75.x rfl (hb hby at_107) rfl ?_
        show Steps p.tables e below (T74.setTop (mkF m 109 _ [(.int (0 : Int32))])) t
        refine XS.iconst P75.here P75.x rfl (hb hby at_109) ?_
        show Steps p.tables e below (T74.setTop (mkF m 110 _ [(.int (3 : Int32)), (.int (0 : Int32))])) t
        refine XS.icmpYes P75.here P75.x rfl (pc0 := 110) (pc' := 128) rfl (hb hby at_110) rfl (iiW_lt_t (by decide)) (by decide) (by decide) ?_
        show Steps p.tables e below (T74.setTop (mkF m 128 _ [])) t
        refine XS.iload P75.here P75.x rfl (hb hby at_128) rfl ?_
        show Steps p.tables e below (T74.setTop (mkF m 130 _ [(.int (0 : Int32))])) t
        refine XS.iconst P75.here P75.x rfl (hb hby at_130) ?_
        show Steps p.tables e below (T74.setTop (mkF m 131 _ [(.int (4 : Int32)), (.int (0 : Int32))])) t
        refine XS.icmpYes P75.here P75.x rfl (pc0 := 131) (pc' := 149) rfl (hb hby at_131) rfl (iiW_lt_t (by decide)) (by decide) (by decide) ?_
        show Steps p.tables e below (T74.setTop (mkF m 149 _ [])) t
        refine XS.iload P75.here P75.x rfl (hb hby at_149) rfl ?_
        show Steps p.tables e below (T74.setTop (mkF m 151 _ [(.int (0 : Int32))])) t
        refine XS.iloadN P75.here P75.x rfl (hb hby at_151) rfl ?_
        exact kk
      refine wCallS P75 (m_minf l Z a0 hw (0 : Int32) (1 : Int32) h72 (by decide)) (tw28 hw) (tw12 hw) (tw13 hw) (tw14 hw) (by decide) (by rw [hml]; rfl) (lenOf pd_1 rfl) (argsL := [(.int (0 : Int32)), (.int (1 : Int32))]) (rest := []) rfl rfl (W := 0) (Nat.le_of_eq rfl) (by decide) (by decide) (by decide) (by decide) (by simp) (hb hby at_152) rfl (k' := 3) (n' := 36) rfl rfl ?_
      rintro T77 _ _ P78 - ⟨rfl, rfl⟩
      show Done _ _ _ _ _ _ _ _ _ _ _ _ _ _ _ T77 (mkF m 155 _ [(.int (0 : Int32))])
      refine Done.step (T' := T77) (g' := (mkF m 159 #[.val (.int p0), .val (.int p1), .val (.int p2), .val (.int (1 : Int32)), .val (.int (0 : Int32)), .val (.ref b47), .val (.int (1 : Int32)), .val (.int (0 : Int32)), .unset, .unset] [(.ref b47)])) (fun t kk => ?_) ?_
      · show Steps p.tables e below (T77.setTop (mkF m 155 _ [(.int (0 : Int32))])) t
        refine XS.istore P78.here P78.x rfl (hb hby at_155) rfl (l' := #[.val (.int p0), .val (.int p1), .val (.int p2), .val (.int (1 : Int32)), .val (.int (0 : Int32)), .val (.ref b47), .val (.int (1 : Int32)), .val (.int (0 : Int32)), .unset, .unset]) rfl ?_
        show Steps p.tables e below (T77.setTop (mkF m 157 _ [])) t
        refine XS.aload P78.here P78.x rfl (hb hby at_157) rfl rfl ?_
        exact kk
      refine wCallV P78 (m_size l Z a0 hw b47 (0 : Int32) h72 F66) (tw29 hw) (tw30 hw) (tw32 hw) (tw32 hw) (tw31 hw) (tw2 hw) (tw33 hw) (by decide) f76 (by rw [hml]; rfl) (lenOf pd_4 rfl) (argsL := []) (rest := []) rfl rfl (W := 0) (Nat.le_of_eq rfl) (by decide) (by decide) (by decide) (by decide) (by simp) (hb hby at_159) rfl (k' := 3) (n' := 36) rfl rfl ?_
      rintro T79 _ _ P80 - ⟨rfl, rfl⟩
      show Done _ _ _ _ _ _ _ _ _ _ _ _ _ _ _ T79 (mkF m 162 _ [(.int (0 : Int32))])
      refine Done.step (T' := T79) (g' := (mkF m 176 #[.val (.int p0), .val (.int p1), .val (.int p2), .val (.int (1 : Int32)), .val (.int (0 : Int32)), .val (.ref b47), .val (.int (1 : Int32)), .val (.int (0 : Int32)), .val (.int (1 : Int32)), .unset] [(.ref b47)])) (fun t kk => ?_) ?_
      · show Steps p.tables e below (T79.setTop (mkF m 162 _ [(.int (0 : Int32))])) t
        refine XS.iload P80.here P80.x rfl (hb hby at_162) rfl ?_
        show Steps p.tables e below (T79.setTop (mkF m 164 _ [(.int (0 : Int32)), (.int (0 : Int32))])) t
        refine XS.icmpNo P80.here P80.x rfl (hb hby at_164) rfl (iiW_ne_f (by decide)) ?_
        show Steps p.tables e below (T79.setTop (mkF m 167 _ [])) t
        refine XS.iconst P80.here P80.x rfl (hb hby at_167) ?_
        show Steps p.tables e below (T79.setTop (mkF m 168 _ [(.int (1 : Int32))])) t
        refine XS.goto P80.here P80.x rfl (pc0 := 168) (pc' := 172) rfl (hb hby at_168) (by decide) (by decide) ?_
        show Steps p.tables e below (T79.setTop (mkF m 172 _ [(.int (1 : Int32))])) t
        refine XS.istore P80.here P80.x rfl (hb hby at_172) rfl (l' := #[.val (.int p0), .val (.int p1), .val (.int p2), .val (.int (1 : Int32)), .val (.int (0 : Int32)), .val (.ref b47), .val (.int (1 : Int32)), .val (.int (0 : Int32)), .val (.int (1 : Int32)), .unset]) rfl ?_
        show Steps p.tables e below (T79.setTop (mkF m 174 _ [])) t
        refine XS.aload P80.here P80.x rfl (hb hby at_174) rfl rfl ?_
        exact kk
      refine wCallV P80 (m_isFullf l Z a0 hw b47 (0 : Int32) (1 : Int32) h72 F66 F69 (by decide)) (tw21 hw) (tw22 hw) (tw24 hw) (tw24 hw) (tw23 hw) (tw2 hw) (tw25 hw) (by decide) f76 (by rw [hml]; rfl) (lenOf pd_3 rfl) (argsL := []) (rest := []) rfl rfl (W := 0) (Nat.le_of_eq rfl) (by decide) (by decide) (by decide) (by decide) (by simp) (hb hby at_176) rfl (k' := 3) (n' := 36) rfl rfl ?_
      rintro T81 _ _ P82 - ⟨rfl, rfl⟩
      show Done _ _ _ _ _ _ _ _ _ _ _ _ _ _ _ T81 (mkF m 179 _ [(.int (0 : Int32))])
      refine Done.step (T' := T81) (g' := (mkF m 220 #[.val (.int p0), .val (.int p1), .val (.int p2), .val (.int (1 : Int32)), .val (.int (0 : Int32)), .val (.ref b47), .val (.int (1 : Int32)), .val (.int (0 : Int32)), .val (.int (1 : Int32)), .val (.int (1 : Int32))] [(.int (1 : Int32))])) (fun t kk => ?_) ?_
      · show Steps p.tables e below (T81.setTop (mkF m 179 _ [(.int (0 : Int32))])) t
        refine XS.iload P82.here P82.x rfl (hb hby at_179) rfl ?_
        show Steps p.tables e below (T81.setTop (mkF m 181 _ [(.int (0 : Int32)), (.int (0 : Int32))])) t
        refine XS.iloadN P82.here P82.x rfl (hb hby at_181) rfl ?_
        show Steps p.tables e below (T81.setTop (mkF m 182 _ [(.int (1 : Int32)), (.int (0 : Int32)), (.int (0 : Int32))])) t
        refine XS.icmpYes P82.here P82.x rfl (pc0 := 182) (pc' := 189) rfl (hb hby at_182) rfl (iiW_ne_t (by decide)) (by decide) (by decide) ?_
        show Steps p.tables e below (T81.setTop (mkF m 189 _ [(.int (0 : Int32))])) t
        refine XS.iconst P82.here P82.x rfl (hb hby at_189) ?_
        show Steps p.tables e below (T81.setTop (mkF m 190 _ [(.int (0 : Int32)), (.int (0 : Int32))])) t
        refine XS.icmpNo P82.here P82.x rfl (hb hby at_190) rfl (iiW_ne_f (by decide)) ?_
        show Steps p.tables e below (T81.setTop (mkF m 193 _ [])) t
        refine XS.iconst P82.here P82.x rfl (hb hby at_193) ?_
        show Steps p.tables e below (T81.setTop (mkF m 194 _ [(.int (1 : Int32))])) t
        refine XS.goto P82.here P82.x rfl (pc0 := 194) (pc' := 198) rfl (hb hby at_194) (by decide) (by decide) ?_
        show Steps p.tables e below (T81.setTop (mkF m 198 _ [(.int (1 : Int32))])) t
        refine XS.istore P82.here P82.x rfl (hb hby at_198) rfl (l' := #[.val (.int p0), .val (.int p1), .val (.int p2), .val (.int (1 : Int32)), .val (.int (0 : Int32)), .val (.ref b47), .val (.int (1 : Int32)), .val (.int (0 : Int32)), .val (.int (1 : Int32)), .val (.int (1 : Int32))]) rfl ?_
        show Steps p.tables e below (T81.setTop (mkF m 200 _ [])) t
        refine XS.iload P82.here P82.x rfl (hb hby at_200) rfl ?_
        show Steps p.tables e below (T81.setTop (mkF m 202 _ [(.int (1 : Int32))])) t
        refine XS.ifNo P82.here P82.x rfl (hb hby at_202) rfl (i0W_eq_f (by decide)) ?_
        show Steps p.tables e below (T81.setTop (mkF m 205 _ [])) t
        refine XS.iload P82.here P82.x rfl (hb hby at_205) rfl ?_
        show Steps p.tables e below (T81.setTop (mkF m 207 _ [(.int (1 : Int32))])) t
        refine XS.ifNo P82.here P82.x rfl (hb hby at_207) rfl (i0W_eq_f (by decide)) ?_
        show Steps p.tables e below (T81.setTop (mkF m 210 _ [])) t
        refine XS.iload P82.here P82.x rfl (hb hby at_210) rfl ?_
        show Steps p.tables e below (T81.setTop (mkF m 212 _ [(.int (1 : Int32))])) t
        refine XS.ifNo P82.here P82.x rfl (hb hby at_212) rfl (i0W_eq_f (by decide)) ?_
        show Steps p.tables e below (T81.setTop (mkF m 215 _ [])) t
        refine XS.iconst P82.here P82.x rfl (hb hby at_215) ?_
        show Steps p.tables e below (T81.setTop (mkF m 216 _ [(.int (1 : Int32))])) t
        refine XS.goto P82.here P82.x rfl (pc0 := 216) (pc' := 220) rfl (hb hby at_216) (by decide) (by decide) ?_
        exact kk
      exact wRet P82 (t := .boolean) hret (narrow_01 (Or.inr rfl)) (Or.inl ⟨rfl, Or.inr (Or.inl rfl), _, rfl⟩) (hb hby at_220) rfl
    · show Done _ _ _ _ _ _ _ _ _ _ _ _ _ _ _ T0 (mkF m 34 _ [])
      refine wNew P0 (tw0 hw) (tw1 hw) (tw2 hw) (hb hby at_34) rfl (by decide) (by decide) (k' := 1) (n' := 4) rfl rfl (fun T83 h85 b86 g87 lt88 P84 E89 X90 D91 => ?_)
      have ge_b86 : h0.size ≤ b86 := by have := P0.ge; omega
      have F92 : Fld Z h85 b86 "com/example/urnwise/urnwise/sampler/SmallestKeys" "capacity" "I" (.int (0 : Int32)) := D91 (Or.inr (tw10 hw)) (ty := .int) (by decide)
      have F93 : Fld Z h85 b86 "com/example/urnwise/urnwise/sampler/SmallestKeys" "keys" "[D" .null := D91 (Or.inl (tw17 hw)) (ty := (.array .double)) (by decide)
      have F94 : Fld Z h85 b86 "com/example/urnwise/urnwise/sampler/SmallestKeys" "indices" "[I" .null := D91 (Or.inl (tw20 hw)) (ty := (.array .int)) (by decide)
      have F95 : Fld Z h85 b86 "com/example/urnwise/urnwise/sampler/SmallestKeys" "size" "I" (.int (0 : Int32)) := D91 (Or.inl (tw27 hw)) (ty := .int) (by decide)
      show Done _ _ _ _ _ _ _ _ _ _ _ _ _ _ _ T83 (mkF m 37 _ [(.ref b86)])
      refine Done.stepL (pc' := 39) (st' := [(.int (1 : Int32)), (.ref b86), (.ref b86)]) (fun t kk => ?_) ?_
      · show Steps p.tables e below (T83.setTop (mkF m 37 _ [(.ref b86)])) t
        refine XS.dup P84.here P84.x rfl (hb hby at_37) rfl rfl ?_
        show Steps p.tables e below (T83.setTop (mkF m 38 _ [(.ref b86), (.ref b86)])) t
        refine XS.iloadN P84.here P84.x rfl (hb hby at_38) rfl ?_
        exact kk
      refine wCallI P84 (m_hpInit l Z a0 hw b86 (1 : Int32) 1 h85 X90 F92 F93 F94 (by decide) (by decide) F95) rfl (tw3 hw) (tw4 hw) (tw2 hw) (tw5 hw) (by decide) (a := b86) (by rw [hml]; rfl) (lenOf pd_2 rfl) (argsL := [(.int (1 : Int32))]) (rest := [(.ref b86)]) rfl rfl (W := 1) (Nat.le_of_eq rfl) (by decide) (by decide) (by decide) (by decide) (allS (Or.inr ge_b86) all0) (hb hby at_39) rfl (k' := 3) (n' := 36) rfl rfl ?_
      rintro T96 h111 _ P97 K112 ⟨rfl, b98, b99, q100, q101, q102, q103, q104, F105, F106, F107, F108, A109, A110⟩
      have szh111 : h85.size ≤ h111.size := K112.1
      have ge_b98 : h0.size ≤ b98 := by have := q100; have := P84.ge; omega
      have ge_b99 : h0.size ≤ b99 := by have := q101; have := P84.ge; omega
      have dK0 : ∀ i, i < 1 → DInt ((fun _ => (0 : Int)) i) ((fun _ => (0 : UInt64)) i) := fun i _ => dint_c0
      show Done _ _ _ _ _ _ _ _ _ _ _ _ _ _ _ T96 (mkF m 42 _ [(.ref b86)])
      refine Done.step (T' := T96) (g' := (mkF m 46 #[.val (.int p0), .val (.int p1), .val (.int p2), .val (.int (1 : Int32)), .val (.int (1 : Int32)), .val (.ref b86), .unset, .unset, .unset, .unset] [(.ref b86)])) (fun t kk => ?_) ?_
      · show Steps p.tables e below (T96.setTop (mkF m 42 _ [(.ref b86)])) t
        refine XS.astore P97.here P97.x rfl (hb hby at_42) rfl rfl (l' := #[.val (.int p0), .val (.int p1), .val (.int p2), .val (.int (1 : Int32)), .val (.int (1 : Int32)), .val (.ref b86), .unset, .unset, .unset, .unset]) rfl ?_
        show Steps p.tables e below (T96.setTop (mkF m 44 _ [])) t
        refine XS.aload P97.here P97.x rfl (hb hby at_44) rfl rfl ?_
        exact kk
      have f115 := (X90.keep K112)
      refine wCallV P97 (m_isFullf l Z a0 hw b86 (0 : Int32) (1 : Int32) h111 F105 F108 (by decide)) (tw21 hw) (tw22 hw) (tw24 hw) (tw24 hw) (tw23 hw) (tw2 hw) (tw25 hw) (by decide) f115 (by rw [hml]; rfl) (lenOf pd_3 rfl) (argsL := []) (rest := []) rfl rfl (W := 0) (Nat.le_of_eq rfl) (by decide) (by decide) (by decide) (by decide) (by simp) (hb hby at_46) rfl (k' := 3) (n' := 36) rfl rfl ?_
      rintro T113 _ _ P114 - ⟨rfl, rfl⟩
      show Done _ _ _ _ _ _ _ _ _ _ _ _ _ _ _ T113 (mkF m 49 _ [(.int (0 : Int32))])
      refine Done.step (T' := T113) (g' := (mkF m 83 #[.val (.int p0), .val (.int p1), .val (.int p2), .val (.int (1 : Int32)), .val (.int (1 : Int32)), .val (.ref b86), .val (.int (1 : Int32)), .unset, .unset, .unset] [(.int (0 : Int32)), (.double (FP.i2d (p2 &&& (255 : Int32)))), (.ref b86)])) (fun t kk => ?_) ?_
      · show Steps p.tables e below (T113.setTop (mkF m 49 _ [(.int (0 : Int32))])) t
        refine XS.iloadN P114.here P114.x rfl (hb hby at_49) rfl ?_
        show Steps p.tables e below (T113.setTop (mkF m 50 _ [(.int (1 : Int32)), (.int (0 : Int32))])) t
        refine XS.ifYes P114.here P114.x rfl (pc0 := 50) (pc' := 57) rfl (hb hby at_50) rfl (i0W_ne_t (by decide)) (by decide) (by decide) ?_
        show Steps p.tables e below (T113.setTop (mkF m 57 _ [(.int (0 : Int32))])) t
        refine XS.iconst P114.here P114.x rfl (hb hby at_57) ?_
        show Steps p.tables e below (T113.setTop (mkF m 58 _ [(.int (0 : Int32)), (.int (0 : Int32))])) t
        refine XS.icmpNo P114.here P114.x rfl (hb hby at_58) rfl (iiW_ne_f (by decide)) ?_
        show Steps p.tables e below (T113.setTop (mkF m 61 _ [])) t
        refine XS.iconst P114.here P114.x rfl (hb hby at_61) ?_
        show Steps p.tables e below (T113.setTop (mkF m 62 _ [(.int (1 : Int32))])) t
        refine XS.goto P114.here P114.x rfl (pc0 := 62) (pc' := 66) rfl (hb hby at_62) (by decide) (by decide) ?_
        show Steps p.tables e below (T113.setTop (mkF m 66 _ [(.int (1 : Int32))])) t
        refine XS.istore P114.here P114.x rfl (hb hby at_66) rfl (l' := #[.val (.int p0), .val (.int p1), .val (.int p2), .val (.int (1 : Int32)), .val (.int (1 : Int32)), .val (.ref b86), .val (.int (1 : Int32)), .unset, .unset, .unset]) rfl ?_
        show Steps p.tables e below (T113.setTop (mkF m 68 _ [])) t
        refine XS.iload P114.here P114.x rfl (hb hby at_68) rfl ?_
        show Steps p.tables e below (T113.setTop (mkF m 70 _ [(.int (1 : Int32))])) t
        refine XS.iconst P114.here P114.x rfl (hb hby at_70) ?_
        show Steps p.tables e below (T113.setTop (mkF m 71 _ [(.int (1 : Int32)), (.int (1 : Int32))])) t
        refine XS.icmpNo P114.here P114.x rfl (hb hby at_71) rfl (iiW_lt_f (by decide)) ?_
        show Steps p.tables e below (T113.setTop (mkF m 74 _ [])) t
        refine XS.aload P114.here P114.x rfl (hb hby at_74) rfl rfl ?_
        show Steps p.tables e below (T113.setTop (mkF m 76 _ [(.ref b86)])) t
        refine XS.iloadN P114.here P114.x rfl (hb hby at_76) rfl ?_
        show Steps p.tables e below (T113.setTop (mkF m 77 _ [(.int p2), (.ref b86)])) t
        refine XS.sipush P114.here P114.x rfl (hb hby at_77) ?_
        show Steps p.tables e below (T113.setTop (mkF m 80 _ [(.int (255 : Int32)), (.int p2), (.ref b86)])) t
        refine XS.iand P114.here P114.x rfl (hb hby at_80) rfl ?_
        show Steps p.tables e below (T113.setTop (mkF m 81 _ [(.int (p2 &&& (255 : Int32))), (.ref b86)])) t
        refine XS.i2dS P114.here P114.x rfl (hb hby at_81) rfl rfl ?_
        show Steps p.tables e below (T113.setTop (mkF m 82 _ [(.double (FP.i2d (p2 &&& (255 : Int32)))), (.ref b86)])) t
        refine XS.iconst P114.here P114.x rfl (hb hby at_82) ?_
        exact kk
      refine wCallV P114 (m_offA l Z a0 hw b86 b98 b99 (0 : Int32) 1 0 (fun _ => (0 : UInt64)) (fun _ => (0 : Int)) (fun _ => (0 : Int32)) (1 : Int32) (FP.i2d (p2 &&& (255 : Int32))) (0 : Int32) (p2 &&& (255 : Int32)).toInt (1 : Int32) h111 f115 F106 F107 F105 F108 A109 A110 (by first | assumption | exact Ne.symm (by assumption) | exact adr_ne (by omega)) (by first | assumption | exact Ne.symm (by assumption) | exact adr_ne (by omega)) q102 (by decide) rfl dK0 (i2d_int (p2 &&& (255 : Int32))) (by decide) (by omega) (by decide)) (tw35 hw) (tw36 hw) (tw38 hw) (tw38 hw) (tw37 hw) (tw2 hw) (tw39 hw) (by decide) f115 (by rw [hml]; rfl) (lenOf pd_5 rfl) (argsL := [(.double (FP.i2d (p2 &&& (255 : Int32)))), (.int (0 : Int32))]) (rest := []) rfl rfl (W := 0) (Nat.le_of_eq rfl) (by decide) (by decide) (by decide) (by decide) (allS (Or.inr ge_b86) (allS (Or.inr ge_b98) (allS (Or.inr ge_b99) all0))) (hb hby at_83) rfl (k' := 3) (n' := 36) rfl rfl ?_
      rintro T116 h126 _ P117 K127 ⟨rfl, kf125, F118, F119, F120, F121, A122, dK124, A123⟩
      have szh126 : h111.size ≤ h126.size := K127.1
      generalize gK1 : (own_of 0 true (fun _ => (0 : Int)) (fun _ => (0 : Int32)) (p2 &&& (255 : Int32)).toInt (0 : Int32)).1 = K1 at dK124
      generalize gJ1 : (own_of 0 true (fun _ => (0 : Int)) (fun _ => (0 : Int32)) (p2 &&& (255 : Int32)).toInt (0 : Int32)).2 = J1 at A123
      show Done _ _ _ _ _ _ _ _ _ _ _ _ _ _ _ T116 (mkF m 86 _ [])
      refine Done.stepL (pc' := 152) (st' := [(.int (1 : Int32)), (.int (1 : Int32))]) (fun t kk => ?_) ?_
      · show Steps p.tables e below (T116.setTop (mkF m 86 _ [])) t
        refine XS.iload P117.here P117.x rfl (hb hby at_86) rfl ?_
        show Steps p.tables e below (T116.setTop (mkF m 88 _ [(.int (1 : Int32))])) t
        refine XS.iconst P117.here P117.x rfl (hb hby at_88) ?_
        show Steps p.tables e below (T116.setTop (mkF m 89 _ [(.int (2 : Int32)), (.int (1 : Int32))])) t
        refine XS.icmpYes P117.here P117.x rfl (pc0 := 89) (pc' := 107) rfl (hb hby at_89) rfl (iiW_lt_t (by decide)) (by decide) (by decide) ?_
        show Steps p.tables e below (T116.setTop (mkF m 107 _ [])) t
        refine XS.iload P117.here P117.x rfl (hb hby at_107) rfl ?_
        show Steps p.tables e below (T116.setTop (mkF m 109 _ [(.int (1 : Int32))])) t
        refine XS.iconst P117.here P117.x rfl (hb hby at_109) ?_
        show Steps p.tables e below (T116.setTop (mkF m 110 _ [(.int (3 : Int32)), (.int (1 : Int32))])) t
        refine XS.icmpYes P117.here P117.x rfl (pc0 := 110) (pc' := 128) rfl (hb hby at_110) rfl (iiW_lt_t (by decide)) (by decide) (by decide) ?_
        show Steps p.tables e below (T116.setTop (mkF m 128 _ [])) t
        refine XS.iload P117.here P117.x rfl (hb hby at_128) rfl ?_
        show Steps p.tables e below (T116.setTop (mkF m 130 _ [(.int (1 : Int32))])) t
        refine XS.iconst P117.here P117.x rfl (hb hby at_130) ?_
        show Steps p.tables e below (T116.setTop (mkF m 131 _ [(.int (4 : Int32)), (.int (1 : Int32))])) t
        refine XS.icmpYes P117.here P117.x rfl (pc0 := 131) (pc' := 149) rfl (hb hby at_131) rfl (iiW_lt_t (by decide)) (by decide) (by decide) ?_
        show Steps p.tables e below (T116.setTop (mkF m 149 _ [])) t
        refine XS.iload P117.here P117.x rfl (hb hby at_149) rfl ?_
        show Steps p.tables e below (T116.setTop (mkF m 151 _ [(.int (1 : Int32))])) t
        refine XS.iloadN P117.here P117.x rfl (hb hby at_151) rfl ?_
        exact kk
      refine wCallS P117 (m_minf l Z a0 hw (1 : Int32) (1 : Int32) h126 (by decide)) (tw28 hw) (tw12 hw) (tw13 hw) (tw14 hw) (by decide) (by rw [hml]; rfl) (lenOf pd_1 rfl) (argsL := [(.int (1 : Int32)), (.int (1 : Int32))]) (rest := []) rfl rfl (W := 0) (Nat.le_of_eq rfl) (by decide) (by decide) (by decide) (by decide) (by simp) (hb hby at_152) rfl (k' := 3) (n' := 36) rfl rfl ?_
      rintro T128 _ _ P129 - ⟨rfl, rfl⟩
      show Done _ _ _ _ _ _ _ _ _ _ _ _ _ _ _ T128 (mkF m 155 _ [(.int (1 : Int32))])
      refine Done.step (T' := T128) (g' := (mkF m 159 #[.val (.int p0), .val (.int p1), .val (.int p2), .val (.int (1 : Int32)), .val (.int (1 : Int32)), .val (.ref b86), .val (.int (1 : Int32)), .val (.int (1 : Int32)), .unset, .unset] [(.ref b86)])) (fun t kk => ?_) ?_
      · show Steps p.tables e below (T128.setTop (mkF m 155 _ [(.int (1 : Int32))])) t
        refine XS.istore P129.here P129.x rfl (hb hby at_155) rfl (l' := #[.val (.int p0), .val (.int p1), .val (.int p2), .val (.int (1 : Int32)), .val (.int (1 : Int32)), .val (.ref b86), .val (.int (1 : Int32)), .val (.int (1 : Int32)), .unset, .unset]) rfl ?_
        show Steps p.tables e below (T128.setTop (mkF m 157 _ [])) t
        refine XS.aload P129.here P129.x rfl (hb hby at_157) rfl rfl ?_
        exact kk
      have f132 := (f115.keep K127)
      refine wCallV P129 (m_size l Z a0 hw b86 (1 : Int32) h126 F118) (tw29 hw) (tw30 hw) (tw32 hw) (tw32 hw) (tw31 hw) (tw2 hw) (tw33 hw) (by decide) f132 (by rw [hml]; rfl) (lenOf pd_4 rfl) (argsL := []) (rest := []) rfl rfl (W := 0) (Nat.le_of_eq rfl) (by decide) (by decide) (by decide) (by decide) (by simp) (hb hby at_159) rfl (k' := 3) (n' := 36) rfl rfl ?_
      rintro T130 _ _ P131 - ⟨rfl, rfl⟩
      show Done _ _ _ _ _ _ _ _ _ _ _ _ _ _ _ T130 (mkF m 162 _ [(.int (1 : Int32))])
      refine Done.step (T' := T130) (g' := (mkF m 176 #[.val (.int p0), .val (.int p1), .val (.int p2), .val (.int (1 : Int32)), .val (.int (1 : Int32)), .val (.ref b86), .val (.int (1 : Int32)), .val (.int (1 : Int32)), .val (.int (1 : Int32)), .unset] [(.ref b86)])) (fun t kk => ?_) ?_
      · show Steps p.tables e below (T130.setTop (mkF m 162 _ [(.int (1 : Int32))])) t
        refine XS.iload P131.here P131.x rfl (hb hby at_162) rfl ?_
        show Steps p.tables e below (T130.setTop (mkF m 164 _ [(.int (1 : Int32)), (.int (1 : Int32))])) t
        refine XS.icmpNo P131.here P131.x rfl (hb hby at_164) rfl (iiW_ne_f (by decide)) ?_
        show Steps p.tables e below (T130.setTop (mkF m 167 _ [])) t
        refine XS.iconst P131.here P131.x rfl (hb hby at_167) ?_
        show Steps p.tables e below (T130.setTop (mkF m 168 _ [(.int (1 : Int32))])) t
        refine XS.goto P131.here P131.x rfl (pc0 := 168) (pc' := 172) rfl (hb hby at_168) (by decide) (by decide) ?_
        show Steps p.tables e below (T130.setTop (mkF m 172 _ [(.int (1 : Int32))])) t
        refine XS.istore P131.here P131.x rfl (hb hby at_172) rfl (l' := #[.val (.int p0), .val (.int p1), .val (.int p2), .val (.int (1 : Int32)), .val (.int (1 : Int32)), .val (.ref b86), .val (.int (1 : Int32)), .val (.int (1 : Int32)), .val (.int (1 : Int32)), .unset]) rfl ?_
        show Steps p.tables e below (T130.setTop (mkF m 174 _ [])) t
        refine XS.aload P131.here P131.x rfl (hb hby at_174) rfl rfl ?_
        exact kk
      refine wCallV P131 (m_isFullt l Z a0 hw b86 (1 : Int32) (1 : Int32) h126 F118 F121 (by decide)) (tw21 hw) (tw22 hw) (tw24 hw) (tw24 hw) (tw23 hw) (tw2 hw) (tw25 hw) (by decide) f132 (by rw [hml]; rfl) (lenOf pd_3 rfl) (argsL := []) (rest := []) rfl rfl (W := 0) (Nat.le_of_eq rfl) (by decide) (by decide) (by decide) (by decide) (by simp) (hb hby at_176) rfl (k' := 3) (n' := 36) rfl rfl ?_
      rintro T133 _ _ P134 - ⟨rfl, rfl⟩
      show Done _ _ _ _ _ _ _ _ _ _ _ _ _ _ _ T133 (mkF m 179 _ [(.int (1 : Int32))])
      refine Done.step (T' := T133) (g' := (mkF m 220 #[.val (.int p0), .val (.int p1), .val (.int p2), .val (.int (1 : Int32)), .val (.int (1 : Int32)), .val (.ref b86), .val (.int (1 : Int32)), .val (.int (1 : Int32)), .val (.int (1 : Int32)), .val (.int (1 : Int32))] [(.int (1 : Int32))])) (fun t kk => ?_) ?_
      · show Steps p.tables e below (T133.setTop (mkF m 179 _ [(.int (1 : Int32))])) t
        refine XS.iload P134.here P134.x rfl (hb hby at_179) rfl ?_
        show Steps p.tables e below (T133.setTop (mkF m 181 _ [(.int (1 : Int32)), (.int (1 : Int32))])) t
        refine XS.iloadN P134.here P134.x rfl (hb hby at_181) rfl ?_
        show Steps p.tables e below (T133.setTop (mkF m 182 _ [(.int (1 : Int32)), (.int (1 : Int32)), (.int (1 : Int32))])) t
        refine XS.icmpNo P134.here P134.x rfl (hb hby at_182) rfl (iiW_ne_f (by decide)) ?_
        show Steps p.tables e below (T133.setTop (mkF m 185 _ [(.int (1 : Int32))])) t
        refine XS.iconst P134.here P134.x rfl (hb hby at_185) ?_
        show Steps p.tables e below (T133.setTop (mkF m 186 _ [(.int (1 : Int32)), (.int (1 : Int32))])) t
        refine XS.goto P134.here P134.x rfl (pc0 := 186) (pc' := 190) rfl (hb hby at_186) (by decide) (by decide) ?_
        show Steps p.tables e below (T133.setTop (mkF m 190 _ [(.int (1 : Int32)), (.int (1 : Int32))])) t
        refine XS.icmpNo P134.here P134.x rfl (hb hby at_190) rfl (iiW_ne_f (by decide)) ?_
        show Steps p.tables e below (T133.setTop (mkF m 193 _ [])) t
        refine XS.iconst P134.here P134.x rfl (hb hby at_193) ?_
        show Steps p.tables e below (T133.setTop (mkF m 194 _ [(.int (1 : Int32))])) t
        refine XS.goto P134.here P134.x rfl (pc0 := 194) (pc' := 198) rfl (hb hby at_194) (by decide) (by decide) ?_
        show Steps p.tables e below (T133.setTop (mkF m 198 _ [(.int (1 : Int32))])) t
        refine XS.istore P134.here P134.x rfl (hb hby at_198) rfl (l' := #[.val (.int p0), .val (.int p1), .val (.int p2), .val (.int (1 : Int32)), .val (.int (1 : Int32)), .val (.ref b86), .val (.int (1 : Int32)), .val (.int (1 : Int32)), .val (.int (1 : Int32)), .val (.int (1 : Int32))]) rfl ?_
        show Steps p.tables e below (T133.setTop (mkF m 200 _ [])) t
        refine XS.iload P134.here P134.x rfl (hb hby at_200) rfl ?_
        show Steps p.tables e below (T133.setTop (mkF m 202 _ [(.int (1 : Int32))])) t
        refine XS.ifNo P134.here P134.x rfl (hb hby at_202) rfl (i0W_eq_f (by decide)) ?_
        show Steps p.tables e below (T133.setTop (mkF m 205 _ [])) t
        refine XS.iload P134.here P134.x rfl (hb hby at_205) rfl ?_
        show Steps p.tables e below (T133.setTop (mkF m 207 _ [(.int (1 : Int32))])) t
        refine XS.ifNo P134.here P134.x rfl (hb hby at_207) rfl (i0W_eq_f (by decide)) ?_
        show Steps p.tables e below (T133.setTop (mkF m 210 _ [])) t
        refine XS.iload P134.here P134.x rfl (hb hby at_210) rfl ?_
        show Steps p.tables e below (T133.setTop (mkF m 212 _ [(.int (1 : Int32))])) t
        refine XS.ifNo P134.here P134.x rfl (hb hby at_212) rfl (i0W_eq_f (by decide)) ?_
        show Steps p.tables e below (T133.setTop (mkF m 215 _ [])) t
        refine XS.iconst P134.here P134.x rfl (hb hby at_215) ?_
        show Steps p.tables e below (T133.setTop (mkF m 216 _ [(.int (1 : Int32))])) t
        refine XS.goto P134.here P134.x rfl (pc0 := 216) (pc' := 220) rfl (hb hby at_216) (by decide) (by decide) ?_
        exact kk
      exact wRet P134 (t := .boolean) hret (narrow_01 (Or.inr rfl)) (Or.inl ⟨rfl, Or.inr (Or.inl rfl), _, rfl⟩) (hb hby at_220) rfl
    · show Done _ _ _ _ _ _ _ _ _ _ _ _ _ _ _ T0 (mkF m 34 _ [])
      refine wNew P0 (tw0 hw) (tw1 hw) (tw2 hw) (hb hby at_34) rfl (by decide) (by decide) (k' := 1) (n' := 4) rfl rfl (fun T135 h137 b138 g139 lt140 P136 E141 X142 D143 => ?_)
      have ge_b138 : h0.size ≤ b138 := by have := P0.ge; omega
      have F144 : Fld Z h137 b138 "com/example/urnwise/urnwise/sampler/SmallestKeys" "capacity" "I" (.int (0 : Int32)) := D143 (Or.inr (tw10 hw)) (ty := .int) (by decide)
      have F145 : Fld Z h137 b138 "com/example/urnwise/urnwise/sampler/SmallestKeys" "keys" "[D" .null := D143 (Or.inl (tw17 hw)) (ty := (.array .double)) (by decide)
      have F146 : Fld Z h137 b138 "com/example/urnwise/urnwise/sampler/SmallestKeys" "indices" "[I" .null := D143 (Or.inl (tw20 hw)) (ty := (.array .int)) (by decide)
      have F147 : Fld Z h137 b138 "com/example/urnwise/urnwise/sampler/SmallestKeys" "size" "I" (.int (0 : Int32)) := D143 (Or.inl (tw27 hw)) (ty := .int) (by decide)
      show Done _ _ _ _ _ _ _ _ _ _ _ _ _ _ _ T135 (mkF m 37 _ [(.ref b138)])
      refine Done.stepL (pc' := 39) (st' := [(.int (1 : Int32)), (.ref b138), (.ref b138)]) (fun t kk => ?_) ?_
      · show Steps p.tables e below (T135.setTop (mkF m 37 _ [(.ref b138)])) t
        refine XS.dup P136.here P136.x rfl (hb hby at_37) rfl rfl ?_
        show Steps p.tables e below (T135.setTop (mkF m 38 _ [(.ref b138), (.ref b138)])) t
        refine XS.iloadN P136.here P136.x rfl (hb hby at_38) rfl ?_
        exact kk
      refine wCallI P136 (m_hpInit l Z a0 hw b138 (1 : Int32) 1 h137 X142 F144 F145 F146 (by decide) (by decide) F147) rfl (tw3 hw) (tw4 hw) (tw2 hw) (tw5 hw) (by decide) (a := b138) (by rw [hml]; rfl) (lenOf pd_2 rfl) (argsL := [(.int (1 : Int32))]) (rest := [(.ref b138)]) rfl rfl (W := 1) (Nat.le_of_eq rfl) (by decide) (by decide) (by decide) (by decide) (allS (Or.inr ge_b138) all0) (hb hby at_39) rfl (k' := 3) (n' := 36) rfl rfl ?_
      rintro T148 h163 _ P149 K164 ⟨rfl, b150, b151, q152, q153, q154, q155, q156, F157, F158, F159, F160, A161, A162⟩
      have szh163 : h137.size ≤ h163.size := K164.1
      have ge_b150 : h0.size ≤ b150 := by have := q152; have := P136.ge; omega
      have ge_b151 : h0.size ≤ b151 := by have := q153; have := P136.ge; omega
      have dK0 : ∀ i, i < 1 → DInt ((fun _ => (0 : Int)) i) ((fun _ => (0 : UInt64)) i) := fun i _ => dint_c0
      show Done _ _ _ _ _ _ _ _ _ _ _ _ _ _ _ T148 (mkF m 42 _ [(.ref b138)])
      refine Done.step (T' := T148) (g' := (mkF m 46 #[.val (.int p0), .val (.int p1), .val (.int p2), .val (.int (1 : Int32)), .val (.int (2 : Int32)), .val (.ref b138), .unset, .unset, .unset, .unset] [(.ref b138)])) (fun t kk => ?_) ?_
      · show Steps p.tables e below (T148.setTop (mkF m 42 _ [(.ref b138)])) t
        refine XS.astore P149.here P149.x rfl (hb hby at_42) rfl rfl (l' := #[.val (.int p0), .val (.int p1), .val (.int p2), .val (.int (1 : Int32)), .val (.int (2 : Int32)), .val (.ref b138), .unset, .unset, .unset, .unset]) rfl ?_
        show Steps p.tables e below (T148.setTop (mkF m 44 _ [])) t
        refine XS.aload P149.here P149.x rfl (hb hby at_44) rfl rfl ?_
        exact kk
      have f167 := (X142.keep K164)
      refine wCallV P149 (m_isFullf l Z a0 hw b138 (0 : Int32) (1 : Int32) h163 F157 F160 (by decide)) (tw21 hw) (tw22 hw) (tw24 hw) (tw24 hw) (tw23 hw) (tw2 hw) (tw25 hw) (by decide) f167 (by rw [hml]; rfl) (lenOf pd_3 rfl) (argsL := []) (rest := []) rfl rfl (W := 0) (Nat.le_of_eq rfl) (by decide) (by decide) (by decide) (by decide) (by simp) (hb hby at_46) rfl (k' := 3) (n' := 36) rfl rfl ?_
      rintro T165 _ _ P166 - ⟨rfl, rfl⟩
      show Done _ _ _ _ _ _ _ _ _ _ _ _ _ _ _ T165 (mkF m 49 _ [(.int (0 : Int32))])
      refine Done.step (T' := T165) (g' := (mkF m 83 #[.val (.int p0), .val (.int p1), .val (.int p2), .val (.int (1 : Int32)), .val (.int (2 : Int32)), .val (.ref b138), .val (.int (1 : Int32)), .unset, .unset, .unset] [(.int (0 : Int32)), (.double (FP.i2d (p2 &&& (255 : Int32)))), (.ref b138)])) (fun t kk => ?_) ?_
      · show Steps p.tables e below (T165.setTop (mkF m 49 _ [(.int (0 : Int32))])) t
        refine XS.iloadN P166.here P166.x rfl (hb hby at_49) rfl ?_
        show Steps p.tables e below (T165.setTop (mkF m 50 _ [(.int (1 : Int32)), (.int (0 : Int32))])) t
        refine XS.ifYes P166.here P166.x rfl (pc0 := 50) (pc' := 57) rfl (hb hby at_50) rfl (i0W_ne_t (by decide)) (by decide) (by decide) ?_
        show Steps p.tables e below (T165.setTop (mkF m 57 _ [(.int (0 : Int32))])) t
        refine XS.iconst P166.here P166.x rfl (hb hby at_57) ?_
        show Steps p.tables e below (T165.setTop (mkF m 58 _ [(.int (0 : Int32)), (.int (0 : Int32))])) t
        refine XS.icmpNo P166.here P166.x rfl (hb hby at_58) rfl (iiW_ne_f (by decide)) ?_
        show Steps p.tables e below (T165.setTop (mkF m 61 _ [])) t
        refine XS.iconst P166.here P166.x rfl (hb hby at_61) ?_
        show Steps p.tables e below (T165.setTop (mkF m 62 _ [(.int (1 : Int32))])) t
        refine XS.goto P166.here P166.x rfl (pc0 := 62) (pc' := 66) rfl (hb hby at_62) (by decide) (by decide) ?_
        show Steps p.tables e below (T165.setTop (mkF m 66 _ [(.int (1 : Int32))])) t
        refine XS.istore P166.here P166.x rfl (hb hby at_66) rfl (l' := #[.val (.int p0), .val (.int p1), .val (.int p2), .val (.int (1 : Int32)), .val (.int (2 : Int32)), .val (.ref b138), .val (.int (1 : Int32)), .unset, .unset, .unset]) rfl ?_
        show Steps p.tables e below (T165.setTop (mkF m 68 _ [])) t
        refine XS.iload P166.here P166.x rfl (hb hby at_68) rfl ?_
        show Steps p.tables e below (T165.setTop (mkF m 70 _ [(.int (2 : Int32))])) t
        refine XS.iconst P166.here P166.x rfl (hb hby at_70) ?_
        show Steps p.tables e below (T165.setTop (mkF m 71 _ [(.int (1 : Int32)), (.int (2 : Int32))])) t
        refine XS.icmpNo P166.here P166.x rfl (hb hby at_71) rfl (iiW_lt_f (by decide)) ?_
        show Steps p.tables e below (T165.setTop (mkF m 74 _ [])) t
        refine XS.aload P166.here P166.x rfl (hb hby at_74) rfl rfl ?_
        show Steps p.tables e below (T165.setTop (mkF m 76 _ [(.ref b138)])) t
        refine XS.iloadN P166.here P166.x rfl (hb hby at_76) rfl ?_
        show Steps p.tables e below (T165.setTop (mkF m 77 _ [(.int p2), (.ref b138)])) t
        refine XS.sipush P166.here P166.x rfl (hb hby at_77) ?_
        show Steps p.tables e below (T165.setTop (mkF m 80 _ [(.int (255 : Int32)), (.int p2), (.ref b138)])) t
        refine XS.iand P166.here P166.x rfl (hb hby at_80) rfl ?_
        show Steps p.tables e below (T165.setTop (mkF m 81 _ [(.int (p2 &&& (255 : Int32))), (.ref b138)])) t
        refine XS.i2dS P166.here P166.x rfl (hb hby at_81) rfl rfl ?_
        show Steps p.tables e below (T165.setTop (mkF m 82 _ [(.double (FP.i2d (p2 &&& (255 : Int32)))), (.ref b138)])) t
        refine XS.iconst P166.here P166.x rfl (hb hby at_82) ?_
        exact kk
      refine wCallV P166 (m_offA l Z a0 hw b138 b150 b151 (0 : Int32) 1 0 (fun _ => (0 : UInt64)) (fun _ => (0 : Int)) (fun _ => (0 : Int32)) (1 : Int32) (FP.i2d (p2 &&& (255 : Int32))) (0 : Int32) (p2 &&& (255 : Int32)).toInt (1 : Int32) h163 f167 F158 F159 F157 F160 A161 A162 (by first | assumption | exact Ne.symm (by assumption) | exact adr_ne (by omega)) (by first | assumption | exact Ne.symm (by assumption) | exact adr_ne (by omega)) q154 (by decide) rfl dK0 (i2d_int (p2 &&& (255 : Int32))) (by decide) (by omega) (by decide)) (tw35 hw) (tw36 hw) (tw38 hw) (tw38 hw) (tw37 hw) (tw2 hw) (tw39 hw) (by decide) f167 (by rw [hml]; rfl) (lenOf pd_5 rfl) (argsL := [(.double (FP.i2d (p2 &&& (255 : Int32)))), (.int (0 : Int32))]) (rest := []) rfl rfl (W := 0) (Nat.le_of_eq rfl) (by decide) (by decide) (by decide) (by decide) (allS (Or.inr ge_b138) (allS (Or.inr ge_b150) (allS (Or.inr ge_b151) all0))) (hb hby at_83) rfl (k' := 3) (n' := 36) rfl rfl ?_
      rintro T168 h178 _ P169 K179 ⟨rfl, kf177, F170, F171, F172, F173, A174, dK176, A175⟩
      have szh178 : h163.size ≤ h178.size := K179.1
      generalize gK1 : (own_of 0 true (fun _ => (0 : Int)) (fun _ => (0 : Int32)) (p2 &&& (255 : Int32)).toInt (0 : Int32)).1 = K1 at dK176
      generalize gJ1 : (own_of 0 true (fun _ => (0 : Int)) (fun _ => (0 : Int32)) (p2 &&& (255 : Int32)).toInt (0 : Int32)).2 = J1 at A175
      show Done _ _ _ _ _ _ _ _ _ _ _ _ _ _ _ T168 (mkF m 86 _ [])
      refine Done.stepL (pc' := 104) (st' := [(.int (1 : Int32)), (.double (FP.i2d (((p2.toUInt32 >>> ((8 : Int32) &&& 31).toUInt32).toInt32) &&& (255 : Int32)))), (.ref b138)]) (fun t kk => ?_) ?_
      · show Steps p.tables e below (T168.setTop (mkF m 86 _ [])) t
        refine XS.iload P169.here P169.x rfl (hb hby at_86) rfl ?_
        show Steps p.tables e below (T168.setTop (mkF m 88 _ [(.int (2 : Int32))])) t
        refine XS.iconst P169.here P169.x rfl (hb hby at_88) ?_
        show Steps p.tables e below (T168.setTop (mkF m 89 _ [(.int (2 : Int32)), (.int (2 : Int32))])) t
        refine XS.icmpNo P169.here P169.x rfl (hb hby at_89) rfl (iiW_lt_f (by decide)) ?_
        show Steps p.tables e below (T168.setTop (mkF m 92 _ [])) t
        refine XS.aload P169.here P169.x rfl (hb hby at_92) rfl rfl ?_
        show Steps p.tables e below (T168.setTop (mkF m 94 _ [(.ref b138)])) t
        refine XS.iloadN P169.here P169.x rfl (hb hby at_94) rfl ?_
        show Steps p.tables e below (T168.setTop (mkF m 95 _ [(.int p2), (.ref b138)])) t
        refine XS.bipush P169.here P169.x rfl (hb hby at_95) ?_
        show Steps p.tables e below (T168.setTop (mkF m 97 _ [(.int (8 : Int32)), (.int p2), (.ref b138)])) t
        refine XS.iushr P169.here P169.x rfl (hb hby at_97) rfl ?_
        show Steps p.tables e below (T168.setTop (mkF m 98 _ [(.int ((p2.toUInt32 >>> ((8 : Int32) &&& 31).toUInt32).toInt32)), (.ref b138)])) t
        refine XS.sipush P169.here P169.x rfl (hb hby at_98) ?_
        show Steps p.tables e below (T168.setTop (mkF m 101 _ [(.int (255 : Int32)), (.int ((p2.toUInt32 >>> ((8 : Int32) &&& 31).toUInt32).toInt32)), (.ref b138)])) t
        refine XS.iand P169.here P169.x rfl (hb hby at_101) rfl ?_
        show Steps p.tables e below (T168.setTop (mkF m 102 _ [(.int (((p2.toUInt32 >>> ((8 : Int32) &&& 31).toUInt32).toInt32) &&& (255 : Int32))), (.ref b138)])) t
        refine XS.i2dS P169.here P169.x rfl (hb hby at_102) rfl rfl ?_
        show Steps p.tables e below (T168.setTop (mkF m 103 _ [(.double (FP.i2d (((p2.toUInt32 >>> ((8 : Int32) &&& 31).toUInt32).toInt32) &&& (255 : Int32)))), (.ref b138)])) t
        refine XS.iconst P169.here P169.x rfl (hb hby at_103) ?_
        exact kk
      have f190 := (f167.keep K179)
      refine wCallV P169 (m_offB l Z a0 hw b138 b150 b151 (1 : Int32) 1 1 kf177 K1 J1 (1 : Int32) (FP.i2d (((p2.toUInt32 >>> ((8 : Int32) &&& 31).toUInt32).toInt32) &&& (255 : Int32))) (1 : Int32) (((p2.toUInt32 >>> ((8 : Int32) &&& 31).toUInt32).toInt32) &&& (255 : Int32)).toInt h178 f190 F171 F172 F170 F173 A174 A175 (by first | assumption | exact Ne.symm (by assumption) | exact adr_ne (by omega)) (by first | assumption | exact Ne.symm (by assumption) | exact adr_ne (by omega)) q154 (by decide) rfl dK176 (i2d_int (((p2.toUInt32 >>> ((8 : Int32) &&& 31).toUInt32).toInt32) &&& (255 : Int32))) (by decide) (by omega) (by omega)) (tw35 hw) (tw36 hw) (tw38 hw) (tw38 hw) (tw37 hw) (tw2 hw) (tw39 hw) (by decide) f190 (by rw [hml]; rfl) (lenOf pd_5 rfl) (argsL := [(.double (FP.i2d (((p2.toUInt32 >>> ((8 : Int32) &&& 31).toUInt32).toInt32) &&& (255 : Int32)))), (.int (1 : Int32))]) (rest := []) rfl rfl (W := 0) (Nat.le_of_eq rfl) (by decide) (by decide) (by decide) (by decide) (allS (Or.inr ge_b150) (allS (Or.inr ge_b151) all0)) (hb hby at_104) rfl (k' := 3) (n' := 36) rfl rfl ?_
      rintro T180 h191 _ P181 K192 ⟨rfl, kf189, F182, F183, F184, F185, A186, dK188, A187⟩
      have szh191 : h178.size ≤ h191.size := K192.1
      generalize gK2 : (own_of 1 false K1 J1 (((p2.toUInt32 >>> ((8 : Int32) &&& 31).toUInt32).toInt32) &&& (255 : Int32)).toInt (1 : Int32)).1 = K2 at dK188
      generalize gJ2 : (own_of 1 false K1 J1 (((p2.toUInt32 >>> ((8 : Int32) &&& 31).toUInt32).toInt32) &&& (255 : Int32)).toInt (1 : Int32)).2 = J2 at A187
      show Done _ _ _ _ _ _ _ _ _ _ _ _ _ _ _ T180 (mkF m 107 _ [])
      refine Done.stepL (pc' := 152) (st' := [(.int (1 : Int32)), (.int (2 : Int32))]) (fun t kk => ?_) ?_
      · show Steps p.tables e below (T180.setTop (mkF m 107 _ [])) t
        refine XS.iload P181.here P181.x rfl (hb hby at_107) rfl ?_
        show Steps p.tables e below (T180.setTop (mkF m 109 _ [(.int (2 : Int32))])) t
        refine XS.iconst P181.here P181.x rfl (hb hby at_109) ?_
        show Steps p.tables e below (T180.setTop (mkF m 110 _ [(.int (3 : Int32)), (.int (2 : Int32))])) t
        refine XS.icmpYes P181.here P181.x rfl (pc0 := 110) (pc' := 128) rfl (hb hby at_110) rfl (iiW_lt_t (by decide)) (by decide) (by decide) ?_
        show Steps p.tables e below (T180.setTop (mkF m 128 _ [])) t
        refine XS.iload P181.here P181.x rfl (hb hby at_128) rfl ?_
        show Steps p.tables e below (T180.setTop (mkF m 130 _ [(.int (2 : Int32))])) t
        refine XS.iconst P181.here P181.x rfl (hb hby at_130) ?_
        show Steps p.tables e below (T180.setTop (mkF m 131 _ [(.int (4 : Int32)), (.int (2 : Int32))])) t
        refine XS.icmpYes P181.here P181.x rfl (pc0 := 131) (pc' := 149) rfl (hb hby at_131) rfl (iiW_lt_t (by decide)) (by decide) (by decide) ?_
        show Steps p.tables e below (T180.setTop (mkF m 149 _ [])) t
        refine XS.iload P181.here P181.x rfl (hb hby at_149) rfl ?_
        show Steps p.tables e below (T180.setTop (mkF m 151 _ [(.int (2 : Int32))])) t
        refine XS.iloadN P181.here P181.x rfl (hb hby at_151) rfl ?_
        exact kk
      refine wCallS P181 (m_mint l Z a0 hw (2 : Int32) (1 : Int32) h191 (by decide)) (tw28 hw) (tw12 hw) (tw13 hw) (tw14 hw) (by decide) (by rw [hml]; rfl) (lenOf pd_1 rfl) (argsL := [(.int (2 : Int32)), (.int (1 : Int32))]) (rest := []) rfl rfl (W := 0) (Nat.le_of_eq rfl) (by decide) (by decide) (by decide) (by decide) (by simp) (hb hby at_152) rfl (k' := 3) (n' := 36) rfl rfl ?_
      rintro T193 _ _ P194 - ⟨rfl, rfl⟩
      show Done _ _ _ _ _ _ _ _ _ _ _ _ _ _ _ T193 (mkF m 155 _ [(.int (1 : Int32))])
      refine Done.step (T' := T193) (g' := (mkF m 159 #[.val (.int p0), .val (.int p1), .val (.int p2), .val (.int (1 : Int32)), .val (.int (2 : Int32)), .val (.ref b138), .val (.int (1 : Int32)), .val (.int (1 : Int32)), .unset, .unset] [(.ref b138)])) (fun t kk => ?_) ?_
      · show Steps p.tables e below (T193.setTop (mkF m 155 _ [(.int (1 : Int32))])) t
        refine XS.istore P194.here P194.x rfl (hb hby at_155) rfl (l' := #[.val (.int p0), .val (.int p1), .val (.int p2), .val (.int (1 : Int32)), .val (.int (2 : Int32)), .val (.ref b138), .val (.int (1 : Int32)), .val (.int (1 : Int32)), .unset, .unset]) rfl ?_
        show Steps p.tables e below (T193.setTop (mkF m 157 _ [])) t
        refine XS.aload P194.here P194.x rfl (hb hby at_157) rfl rfl ?_
        exact kk
      have f197 := (f190.keep K192)
      refine wCallV P194 (m_size l Z a0 hw b138 (1 : Int32) h191 F182) (tw29 hw) (tw30 hw) (tw32 hw) (tw32 hw) (tw31 hw) (tw2 hw) (tw33 hw) (by decide) f197 (by rw [hml]; rfl) (lenOf pd_4 rfl) (argsL := []) (rest := []) rfl rfl (W := 0) (Nat.le_of_eq rfl) (by decide) (by decide) (by decide) (by decide) (by simp) (hb hby at_159) rfl (k' := 3) (n' := 36) rfl rfl ?_
      rintro T195 _ _ P196 - ⟨rfl, rfl⟩
      show Done _ _ _ _ _ _ _ _ _ _ _ _ _ _ _ T195 (mkF m 162 _ [(.int (1 : Int32))])
      refine Done.step (T' := T195) (g' := (mkF m 176 #[.val (.int p0), .val (.int p1), .val (.int p2), .val (.int (1 : Int32)), .val (.int (2 : Int32)), .val (.ref b138), .val (.int (1 : Int32)), .val (.int (1 : Int32)), .val (.int (1 : Int32)), .unset] [(.ref b138)])) (fun t kk => ?_) ?_
      · show Steps p.tables e below (T195.setTop (mkF m 162 _ [(.int (1 : Int32))])) t
        refine XS.iload P196.here P196.x rfl (hb hby at_162) rfl ?_
        show Steps p.tables e below (T195.setTop (mkF m 164 _ [(.int (1 : Int32)), (.int (1 : Int32))])) t
        refine XS.icmpNo P196.here P196.x rfl (hb hby at_164) rfl (iiW_ne_f (by decide)) ?_
        show Steps p.tables e below (T195.setTop (mkF m 167 _ [])) t
        refine XS.iconst P196.here P196.x rfl (hb hby at_167) ?_
        show Steps p.tables e below (T195.setTop (mkF m 168 _ [(.int (1 : Int32))])) t
        refine XS.goto P196.here P196.x rfl (pc0 := 168) (pc' := 172) rfl (hb hby at_168) (by decide) (by decide) ?_
        show Steps p.tables e below (T195.setTop (mkF m 172 _ [(.int (1 : Int32))])) t
        refine XS.istore P196.here P196.x rfl (hb hby at_172) rfl (l' := #[.val (.int p0), .val (.int p1), .val (.int p2), .val (.int (1 : Int32)), .val (.int (2 : Int32)), .val (.ref b138), .val (.int (1 : Int32)), .val (.int (1 : Int32)), .val (.int (1 : Int32)), .unset]) rfl ?_
        show Steps p.tables e below (T195.setTop (mkF m 174 _ [])) t
        refine XS.aload P196.here P196.x rfl (hb hby at_174) rfl rfl ?_
        exact kk
      refine wCallV P196 (m_isFullt l Z a0 hw b138 (1 : Int32) (1 : Int32) h191 F182 F185 (by decide)) (tw21 hw) (tw22 hw) (tw24 hw) (tw24 hw) (tw23 hw) (tw2 hw) (tw25 hw) (by decide) f197 (by rw [hml]; rfl) (lenOf pd_3 rfl) (argsL := []) (rest := []) rfl rfl (W := 0) (Nat.le_of_eq rfl) (by decide) (by decide) (by decide) (by decide) (by simp) (hb hby at_176) rfl (k' := 3) (n' := 36) rfl rfl ?_
      rintro T198 _ _ P199 - ⟨rfl, rfl⟩
      show Done _ _ _ _ _ _ _ _ _ _ _ _ _ _ _ T198 (mkF m 179 _ [(.int (1 : Int32))])
      refine Done.step (T' := T198) (g' := (mkF m 220 #[.val (.int p0), .val (.int p1), .val (.int p2), .val (.int (1 : Int32)), .val (.int (2 : Int32)), .val (.ref b138), .val (.int (1 : Int32)), .val (.int (1 : Int32)), .val (.int (1 : Int32)), .val (.int (1 : Int32))] [(.int (1 : Int32))])) (fun t kk => ?_) ?_
      · show Steps p.tables e below (T198.setTop (mkF m 179 _ [(.int (1 : Int32))])) t
        refine XS.iload P199.here P199.x rfl (hb hby at_179) rfl ?_
        show Steps p.tables e below (T198.setTop (mkF m 181 _ [(.int (1 : Int32)), (.int (1 : Int32))])) t
        refine XS.iloadN P199.here P199.x rfl (hb hby at_181) rfl ?_
        show Steps p.tables e below (T198.setTop (mkF m 182 _ [(.int (1 : Int32)), (.int (1 : Int32)), (.int (1 : Int32))])) t
        refine XS.icmpNo P199.here P199.x rfl (hb hby at_182) rfl (iiW_ne_f (by decide)) ?_
        show Steps p.tables e below (T198.setTop (mkF m 185 _ [(.int (1 : Int32))])) t
        refine XS.iconst P199.here P199.x rfl (hb hby at_185) ?_
        show Steps p.tables e below (T198.setTop (mkF m 186 _ [(.int (1 : Int32)), (.int (1 : Int32))])) t
        refine XS.goto P199.here P199.x rfl (pc0 := 186) (pc' := 190) rfl (hb hby at_186) (by decide) (by decide) ?_
        show Steps p.tables e below (T198.setTop (mkF m 190 _ [(.int (1 : Int32)), (.int (1 : Int32))])) t
        refine XS.icmpNo P199.here P199.x rfl (hb hby at_190) rfl (iiW_ne_f (by decide)) ?_
        show Steps p.tables e below (T198.setTop (mkF m 193 _ [])) t
        refine XS.iconst P199.here P199.x rfl (hb hby at_193) ?_
        show Steps p.tables e below (T198.setTop (mkF m 194 _ [(.int (1 : Int32))])) t
        refine XS.goto P199.here P199.x rfl (pc0 := 194) (pc' := 198) rfl (hb hby at_194) (by decide) (by decide) ?_
        show Steps p.tables e below (T198.setTop (mkF m 198 _ [(.int (1 : Int32))])) t
        refine XS.istore P199.here P199.x rfl (hb hby at_198) rfl (l' := #[.val (.int p0), .val (.int p1), .val (.int p2), .val (.int (1 : Int32)), .val (.int (2 : Int32)), .val (.ref b138), .val (.int (1 : Int32)), .val (.int (1 : Int32)), .val (.int (1 : Int32)), .val (.int (1 : Int32))]) rfl ?_
        show Steps p.tables e below (T198.setTop (mkF m 200 _ [])) t
        refine XS.iload P199.here P199.x rfl (hb hby at_200) rfl ?_
        show Steps p.tables e below (T198.setTop (mkF m 202 _ [(.int (1 : Int32))])) t
        refine XS.ifNo P199.here P199.x rfl (hb hby at_202) rfl (i0W_eq_f (by decide)) ?_
        show Steps p.tables e below (T198.setTop (mkF m 205 _ [])) t
        refine XS.iload P199.here P199.x rfl (hb hby at_205) rfl ?_
        show Steps p.tables e below (T198.setTop (mkF m 207 _ [(.int (1 : Int32))])) t
        refine XS.ifNo P199.here P199.x rfl (hb hby at_207) rfl (i0W_eq_f (by decide)) ?_
        show Steps p.tables e below (T198.setTop (mkF m 210 _ [])) t
        refine XS.iload P199.here P199.x rfl (hb hby at_210) rfl ?_
        show Steps p.tables e below (T198.setTop (mkF m 212 _ [(.int (1 : Int32))])) t
        refine XS.ifNo P199.here P199.x rfl (hb hby at_212) rfl (i0W_eq_f (by decide)) ?_
        show Steps p.tables e below (T198.setTop (mkF m 215 _ [])) t
        refine XS.iconst P199.here P199.x rfl (hb hby at_215) ?_
        show Steps p.tables e below (T198.setTop (mkF m 216 _ [(.int (1 : Int32))])) t
        refine XS.goto P199.here P199.x rfl (pc0 := 216) (pc' := 220) rfl (hb hby at_216) (by decide) (by decide) ?_
        exact kk
      exact wRet P199 (t := .boolean) hret (narrow_01 (Or.inr rfl)) (Or.inl ⟨rfl, Or.inr (Or.inl rfl), _, rfl⟩) (hb hby at_220) rfl
    · show Done _ _ _ _ _ _ _ _ _ _ _ _ _ _ _ T0 (mkF m 34 _ [])
      refine wNew P0 (tw0 hw) (tw1 hw) (tw2 hw) (hb hby at_34) rfl (by decide) (by decide) (k' := 1) (n' := 4) rfl rfl (fun T200 h202 b203 g204 lt205 P201 E206 X207 D208 => ?_)
      have ge_b203 : h0.size ≤ b203 := by have := P0.ge; omega
      have F209 : Fld Z h202 b203 "com/example/urnwise/urnwise/sampler/SmallestKeys" "capacity" "I" (.int (0 : Int32)) := D208 (Or.inr (tw10 hw)) (ty := .int) (by decide)
      have F210 : Fld Z h202 b203 "com/example/urnwise/urnwise/sampler/SmallestKeys" "keys" "[D" .null := D208 (Or.inl (tw17 hw)) (ty := (.array .double)) (by decide)
      have F211 : Fld Z h202 b203 "com/example/urnwise/urnwise/sampler/SmallestKeys" "indices" "[I" .null := D208 (Or.inl (tw20 hw)) (ty := (.array .int)) (by decide)
      have F212 : Fld Z h202 b203 "com/example/urnwise/urnwise/sampler/SmallestKeys" "size" "I" (.int (0 : Int32)) := D208 (Or.inl (tw27 hw)) (ty := .int) (by decide)
      show Done _ _ _ _ _ _ _ _ _ _ _ _ _ _ _ T200 (mkF m 37 _ [(.ref b203)])
      refine Done.stepL (pc' := 39) (st' := [(.int (1 : Int32)), (.ref b203), (.ref b203)]) (fun t kk => ?_) ?_
      · show Steps p.tables e below (T200.setTop (mkF m 37 _ [(.ref b203)])) t
        refine XS.dup P201.here P201.x rfl (hb hby at_37) rfl rfl ?_
        show Steps p.tables e below (T200.setTop (mkF m 38 _ [(.ref b203), (.ref b203)])) t
        refine XS.iloadN P201.here P201.x rfl (hb hby at_38) rfl ?_
        exact kk
      refine wCallI P201 (m_hpInit l Z a0 hw b203 (1 : Int32) 1 h202 X207 F209 F210 F211 (by decide) (by decide) F212) rfl (tw3 hw) (tw4 hw) (tw2 hw) (tw5 hw) (by decide) (a := b203) (by rw [hml]; rfl) (lenOf pd_2 rfl) (argsL := [(.int (1 : Int32))]) (rest := [(.ref b203)]) rfl rfl (W := 1) (Nat.le_of_eq rfl) (by decide) (by decide) (by decide) (by decide) (allS (Or.inr ge_b203) all0) (hb hby at_39) rfl (k' := 3) (n' := 36) rfl rfl ?_
      rintro T213 h228 _ P214 K229 ⟨rfl, b215, b216, q217, q218, q219, q220, q221, F222, F223, F224, F225, A226, A227⟩
      have szh228 : h202.size ≤ h228.size := K229.1
      have ge_b215 : h0.size ≤ b215 := by have := q217; have := P201.ge; omega
      have ge_b216 : h0.size ≤ b216 := by have := q218; have := P201.ge; omega
      have dK0 : ∀ i, i < 1 → DInt ((fun _ => (0 : Int)) i) ((fun _ => (0 : UInt64)) i) := fun i _ => dint_c0
      show Done _ _ _ _ _ _ _ _ _ _ _ _ _ _ _ T213 (mkF m 42 _ [(.ref b203)])
      refine Done.step (T' := T213) (g' := (mkF m 46 #[.val (.int p0), .val (.int p1), .val (.int p2), .val (.int (1 : Int32)), .val (.int (3 : Int32)), .val (.ref b203), .unset, .unset, .unset, .unset] [(.ref b203)])) (fun t kk => ?_) ?_
      · show Steps p.tables e below (T213.setTop (mkF m 42 _ [(.ref b203)])) t
        refine XS.astore P214.here P214.x rfl (hb hby at_42) rfl rfl (l' := #[.val (.int p0), .val (.int p1), .val (.int p2), .val (.int (1 : Int32)), .val (.int (3 : Int32)), .val (.ref b203), .unset, .unset, .unset, .unset]) rfl ?_
        show Steps p.tables e below (T213.setTop (mkF m 44 _ [])) t
        refine XS.aload P214.here P214.x rfl (hb hby at_44) rfl rfl ?_
        exact kk
      have f232 := (X207.keep K229)
      refine wCallV P214 (m_isFullf l Z a0 hw b203 (0 : Int32) (1 : Int32) h228 F222 F225 (by decide)) (tw21 hw) (tw22 hw) (tw24 hw) (tw24 hw) (tw23 hw) (tw2 hw) (tw25 hw) (by decide) f232 (by rw [hml]; rfl) (lenOf pd_3 rfl) (argsL := []) (rest := []) rfl rfl (W := 0) (Nat.le_of_eq rfl) (by decide) (by decide) (by decide) (by decide) (by simp) (hb hby at_46) rfl (k' := 3) (n' := 36) rfl rfl ?_
      rintro T230 _ _ P231 - ⟨rfl, rfl⟩
      show Done _ _ _ _ _ _ _ _ _ _ _ _ _ _ _ T230 (mkF m 49 _ [(.int (0 : Int32))])
      refine Done.step (T' := T230) (g' := (mkF m 83 #[.val (.int p0), .val (.int p1), .val (.int p2), .val (.int (1 : Int32)), .val (.int (3 : Int32)), .val (.ref b203), .val (.int (1 : Int32)), .unset, .unset, .unset] [(.int (0 : Int32)), (.double (FP.i2d (p2 &&& (255 : Int32)))), (.ref b203)])) (fun t kk => ?_) ?_
      · show Steps p.tables e below (T230.setTop (mkF m 49 _ [(.int (0 : Int32))])) t
        refine XS.iloadN P231.here P231.x rfl (hb hby at_49) rfl ?_
        show Steps p.tables e below (T230.setTop (mkF m 50 _ [(.int (1 : Int32)), (.int (0 : Int32))])) t
        refine XS.ifYes P231.here P231.x rfl (pc0 := 50) (pc' := 57) rfl (hb hby at_50) rfl (i0W_ne_t (by decide)) (by decide) (by decide) ?_
        show Steps p.tables e below (T230.setTop (mkF m 57 _ [(.int (0 : Int32))])) t
        refine XS.iconst P231.here P231.x rfl (hb hby at_57) ?_
        show Steps p.tables e below (T230.setTop (mkF m 58 _ [(.int (0 : Int32)), (.int (0 : Int32))])) t
        refine XS.icmpNo P231.here P231.x rfl (hb hby at_58) rfl (iiW_ne_f (by decide)) ?_
        show Steps p.tables e below (T230.setTop (mkF m 61 _ [])) t
        refine XS.iconst P231.here P231.x rfl (hb hby at_61) ?_
        show Steps p.tables e below (T230.setTop (mkF m 62 _ [(.int (1 : Int32))])) t
        refine XS.goto P231.here P231.x rfl (pc0 := 62) (pc' := 66) rfl (hb hby at_62) (by decide) (by decide) ?_
        show Steps p.tables e below (T230.setTop (mkF m 66 _ [(.int (1 : Int32))])) t
        refine XS.istore P231.here P231.x rfl (hb hby at_66) rfl (l' := #[.val (.int p0), .val (.int p1), .val (.int p2), .val (.int (1 : Int32)), .val (.int (3 : Int32)), .val (.ref b203), .val (.int (1 : Int32)), .unset, .unset, .unset]) rfl ?_
        show Steps p.tables e below (T230.setTop (mkF m 68 _ [])) t
        refine XS.iload P231.here P231.x rfl (hb hby at_68) rfl ?_
        show Steps p.tables e below (T230.setTop (mkF m 70 _ [(.int (3 : Int32))])) t
        refine XS.iconst P231.here P231.x rfl (hb hby at_70) ?_
        show Steps p.tables e below (T230.setTop (mkF m 71 _ [(.int (1 : Int32)), (.int (3 : Int32))])) t
        refine XS.icmpNo P231.here P231.x rfl (hb hby at_71) rfl (iiW_lt_f (by decide)) ?_
        show Steps p.tables e below (T230.setTop (mkF m 74 _ [])) t
        refine XS.aload P231.here P231.x rfl (hb hby at_74) rfl rfl ?_
        show Steps p.tables e below (T230.setTop (mkF m 76 _ [(.ref b203)])) t
        refine XS.iloadN P231.here P231.x rfl (hb hby at_76) rfl ?_
        show Steps p.tables e below (T230.setTop (mkF m 77 _ [(.int p2), (.ref b203)])) t
        refine XS.sipush P231.here P231.x rfl (hb hby at_77) ?_
        show Steps p.tables e below (T230.setTop (mkF m 80 _ [(.int (255 : Int32)), (.int p2), (.ref b203)])) t
        refine XS.iand P231.here P231.x rfl (hb hby at_80) rfl ?_
        show Steps p.tables e below (T230.setTop (mkF m 81 _ [(.int (p2 &&& (255 : Int32))), (.ref b203)])) t
        refine XS.i2dS P231.here P231.x rfl (hb hby at_81) rfl rfl ?_
        show Steps p.tables e below (T230.setTop (mkF m 82 _ [(.double (FP.i2d (p2 &&& (255 : Int32)))), (.ref b203)])) t
        refine XS.iconst P231.here P231.x rfl (hb hby at_82) ?_
        exact kk
      refine wCallV P231 (m_offA l Z a0 hw b203 b215 b216 (0 : Int32) 1 0 (fun _ => (0 : UInt64)) (fun _ => (0 : Int)) (fun _ => (0 : Int32)) (1 : Int32) (FP.i2d (p2 &&& (255 : Int32))) (0 : Int32) (p2 &&& (255 : Int32)).toInt (1 : Int32) h228 f232 F223 F224 F222 F225 A226 A227 (by first | assumption | exact Ne.symm (by assumption) | exact adr_ne (by omega)) (by first | assumption | exact Ne.symm (by assumption) | exact adr_ne (by omega)) q219 (by decide) rfl dK0 (i2d_int (p2 &&& (255 : Int32))) (by decide) (by omega) (by decide)) (tw35 hw) (tw36 hw) (tw38 hw) (tw38 hw) (tw37 hw) (tw2 hw) (tw39 hw) (by decide) f232 (by rw [hml]; rfl) (lenOf pd_5 rfl) (argsL := [(.double (FP.i2d (p2 &&& (255 : Int32)))), (.int (0 : Int32))]) (rest := []) rfl rfl (W := 0) (Nat.le_of_eq rfl) (by decide) (by decide) (by decide) (by decide) (allS (Or.inr ge_b203) (allS (Or.inr ge_b215) (allS (Or.inr ge_b216) all0))) (hb hby at_83) rfl (k' := 3) (n' := 36) rfl rfl ?_
      rintro T233 h243 _ P234 K244 ⟨rfl, kf242, F235, F236, F237, F238, A239, dK241, A240⟩
      have szh243 : h228.size ≤ h243.size := K244.1
      generalize gK1 : (own_of 0 true (fun _ => (0 : Int)) (fun _ => (0 : Int32)) (p2 &&& (255 : Int32)).toInt (0 : Int32)).1 = K1 at dK241
      generalize gJ1 : (own_of 0 true (fun _ => (0 : Int)) (fun _ => (0 : Int32)) (p2 &&& (255 : Int32)).toInt (0 : Int32)).2 = J1 at A240
      show Done _ _ _ _ _ _ _ _ _ _ _ _ _ _ _ T233 (mkF m 86 _ [])
      refine Done.stepL (pc' := 104) (st' := [(.int (1 : Int32)), (.double (FP.i2d (((p2.toUInt32 >>> ((8 : Int32) &&& 31).toUInt32).toInt32) &&& (255 : Int32)))), (.ref b203)]) (fun t kk => ?_) ?_
      · show Steps p.tables e below (T233.setTop (mkF m 86 _ [])) t
        refine XS.iload P234.here P234.x rfl (hb hby at_86) rfl ?_
        show Steps p.tables e below (T233.setTop (mkF m 88 _ [(.int (3 : Int32))])) t
        refine XS.iconst P234.here P234.x rfl (hb hby at_88) ?_
        show Steps p.tables e below (T233.setTop (mkF m 89 _ [(.int (2 : Int32)), (.int (3 : Int32))])) t
        refine XS.icmpNo P234.here P234.x rfl (hb hby at_89) rfl (iiW_lt_f (by decide)) ?_
        show Steps p.tables e below (T233.setTop (mkF m 92 _ [])) t
        refine XS.aload P234.here P234.x rfl (hb hby at_92) rfl rfl ?_
        show Steps p.tables e below (T233.setTop (mkF m 94 _ [(.ref b203)])) t
        refine XS.iloadN P234.here P234.x rfl (hb hby at_94) rfl ?_
        show Steps p.tables e below (T233.setTop (mkF m 95 _ [(.int p2), (.ref b203)])) t
        refine XS.bipush P234.here P234.x rfl (hb hby at_95) ?_
        show Steps p.tables e below (T233.setTop (mkF m 97 _ [(.int (8 : Int32)), (.int p2), (.ref b203)])) t
        refine XS.iushr P234.here P234.x rfl (hb hby at_97) rfl ?_
        show Steps p.tables e below (T233.setTop (mkF m 98 _ [(.int ((p2.toUInt32 >>> ((8 : Int32) &&& 31).toUInt32).toInt32)), (.ref b203)])) t
        refine XS.sipush P234.here P234.x rfl (hb hby at_98) ?_
        show Steps p.tables e below (T233.setTop (mkF m 101 _ [(.int (255 : Int32)), (.int ((p2.toUInt32 >>> ((8 : Int32) &&& 31).toUInt32).toInt32)), (.ref b203)])) t
        refine XS.iand P234.here P234.x rfl (hb hby at_101) rfl ?_
        show Steps p.tables e below (T233.setTop (mkF m 102 _ [(.int (((p2.toUInt32 >>> ((8 : Int32) &&& 31).toUInt32).toInt32) &&& (255 : Int32))), (.ref b203)])) t
        refine XS.i2dS P234.here P234.x rfl (hb hby at_102) rfl rfl ?_
        show Steps p.tables e below (T233.setTop (mkF m 103 _ [(.double (FP.i2d (((p2.toUInt32 >>> ((8 : Int32) &&& 31).toUInt32).toInt32) &&& (255 : Int32)))), (.ref b203)])) t
        refine XS.iconst P234.here P234.x rfl (hb hby at_103) ?_
        exact kk
      have f255 := (f232.keep K244)
      refine wCallV P234 (m_offB l Z a0 hw b203 b215 b216 (1 : Int32) 1 1 kf242 K1 J1 (1 : Int32) (FP.i2d (((p2.toUInt32 >>> ((8 : Int32) &&& 31).toUInt32).toInt32) &&& (255 : Int32))) (1 : Int32) (((p2.toUInt32 >>> ((8 : Int32) &&& 31).toUInt32).toInt32) &&& (255 : Int32)).toInt h243 f255 F236 F237 F235 F238 A239 A240 (by first | assumption | exact Ne.symm (by assumption) | exact adr_ne (by omega)) (by first | assumption | exact Ne.symm (by assumption) | exact adr_ne (by omega)) q219 (by decide) rfl dK241 (i2d_int (((p2.toUInt32 >>> ((8 : Int32) &&& 31).toUInt32).toInt32) &&& (255 : Int32))) (by decide) (by omega) (by omega)) (tw35 hw) (tw36 hw) (tw38 hw) (tw38 hw) (tw37 hw) (tw2 hw) (tw39 hw) (by decide) f255 (by rw [hml]; rfl) (lenOf pd_5 rfl) (argsL := [(.double (FP.i2d (((p2.toUInt32 >>> ((8 : Int32) &&& 31).toUInt32).toInt32) &&& (255 : Int32)))), (.int (1 : Int32))]) (rest := []) rfl rfl (W := 0) (Nat.le_of_eq rfl) (by decide) (by decide) (by decide) (by decide) (allS (Or.inr ge_b215) (allS (Or.inr ge_b216) all0)) (hb hby at_104) rfl (k' := 3) (n' := 36) rfl rfl ?_
      rintro T245 h256 _ P246 K257 ⟨rfl, kf254, F247, F248, F249, F250, A251, dK253, A252⟩
      have szh256 : h243.size ≤ h256.size := K257.1
      generalize gK2 : (own_of 1 false K1 J1 (((p2.toUInt32 >>> ((8 : Int32) &&& 31).toUInt32).toInt32) &&& (255 : Int32)).toInt (1 : Int32)).1 = K2 at dK253
      generalize gJ2 : (own_of 1 false K1 J1 (((p2.toUInt32 >>> ((8 : Int32) &&& 31).toUInt32).toInt32) &&& (255 : Int32)).toInt (1 : Int32)).2 = J2 at A252
      show Done _ _ _ _ _ _ _ _ _ _ _ _ _ _ _ T245 (mkF m 107 _ [])
      refine Done.stepL (pc' := 125) (st' := [(.int (2 : Int32)), (.double (FP.i2d (((p2.toUInt32 >>> ((16 : Int32) &&& 31).toUInt32).toInt32) &&& (255 : Int32)))), (.ref b203)]) (fun t kk => ?_) ?_
      · show Steps p.tables e below (T245.setTop (mkF m 107 _ [])) t
        refine XS.iload P246.here P246.x rfl (hb hby at_107) rfl ?_
        show Steps p.tables e below (T245.setTop (mkF m 109 _ [(.int (3 : Int32))])) t
        refine XS.iconst P246.here P246.x rfl (hb hby at_109) ?_
        show Steps p.tables e below (T245.setTop (mkF m 110 _ [(.int (3 : Int32)), (.int (3 : Int32))])) t
        refine XS.icmpNo P246.here P246.x rfl (hb hby at_110) rfl (iiW_lt_f (by decide)) ?_
        show Steps p.tables e below (T245.setTop (mkF m 113 _ [])) t
        refine XS.aload P246.here P246.x rfl (hb hby at_113) rfl rfl ?_
        show Steps p.tables e below (T245.setTop (mkF m 115 _ [(.ref b203)])) t
        refine XS.iloadN P246.here P246.x rfl (hb hby at_115) rfl ?_
        show Steps p.tables e below (T245.setTop (mkF m 116 _ [(.int p2), (.ref b203)])) t
        refine XS.bipush P246.here P246.x rfl (hb hby at_116) ?_
        show Steps p.tables e below (T245.setTop (mkF m 118 _ [(.int (16 : Int32)), (.int p2), (.ref b203)])) t
        refine XS.iushr P246.here P246.x rfl (hb hby at_118) rfl ?_
        show Steps p.tables e below (T245.setTop (mkF m 119 _ [(.int ((p2.toUInt32 >>> ((16 : Int32) &&& 31).toUInt32).toInt32)), (.ref b203)])) t
        refine XS.sipush P246.here P246.x rfl (hb hby at_119) ?_
        show Steps p.tables e below (T245.setTop (mkF m 122 _ [(.int (255 : Int32)), (.int ((p2.toUInt32 >>> ((16 : Int32) &&& 31).toUInt32).toInt32)), (.ref b203)])) t
        refine XS.iand P246.here P246.x rfl (hb hby at_122) rfl ?_
        show Steps p.tables e below (T245.setTop (mkF m 123 _ [(.int (((p2.toUInt32 >>> ((16 : Int32) &&& 31).toUInt32).toInt32) &&& (255 : Int32))), (.ref b203)])) t
        refine XS.i2dS P246.here P246.x rfl (hb hby at_123) rfl rfl ?_
        show Steps p.tables e below (T245.setTop (mkF m 124 _ [(.double (FP.i2d (((p2.toUInt32 >>> ((16 : Int32) &&& 31).toUInt32).toInt32) &&& (255 : Int32)))), (.ref b203)])) t
        refine XS.iconst P246.here P246.x rfl (hb hby at_124) ?_
        exact kk
      have f268 := (f255.keep K257)
      refine wCallV P246 (m_offB l Z a0 hw b203 b215 b216 (1 : Int32) 1 1 kf254 K2 J2 (1 : Int32) (FP.i2d (((p2.toUInt32 >>> ((16 : Int32) &&& 31).toUInt32).toInt32) &&& (255 : Int32))) (2 : Int32) (((p2.toUInt32 >>> ((16 : Int32) &&& 31).toUInt32).toInt32) &&& (255 : Int32)).toInt h256 f268 F248 F249 F247 F250 A251 A252 (by first | assumption | exact Ne.symm (by assumption) | exact adr_ne (by omega)) (by first | assumption | exact Ne.symm (by assumption) | exact adr_ne (by omega)) q219 (by decide) rfl dK253 (i2d_int (((p2.toUInt32 >>> ((16 : Int32) &&& 31).toUInt32).toInt32) &&& (255 : Int32))) (by decide) (by omega) (by omega)) (tw35 hw) (tw36 hw) (tw38 hw) (tw38 hw) (tw37 hw) (tw2 hw) (tw39 hw) (by decide) f268 (by rw [hml]; rfl) (lenOf pd_5 rfl) (argsL := [(.double (FP.i2d (((p2.toUInt32 >>> ((16 : Int32) &&& 31).toUInt32).toInt32) &&& (255 : Int32)))), (.int (2 : Int32))]) (rest := []) rfl rfl (W := 0) (Nat.le_of_eq rfl) (by decide) (by decide) (by decide) (by decide) (allS (Or.inr ge_b215) (allS (Or.inr ge_b216) all0)) (hb hby at_125) rfl (k' := 3) (n' := 36) rfl rfl ?_
      rintro T258 h269 _ P259 K270 ⟨rfl, kf267, F260, F261, F262, F263, A264, dK266, A265⟩
      have szh269 : h256.size ≤ h269.size := K270.1
      generalize gK3 : (own_of 1 false K2 J2 (((p2.toUInt32 >>> ((16 : Int32) &&& 31).toUInt32).toInt32) &&& (255 : Int32)).toInt (2 : Int32)).1 = K3 at dK266
      generalize gJ3 : (own_of 1 false K2 J2 (((p2.toUInt32 >>> ((16 : Int32) &&& 31).toUInt32).toInt32) &&& (255 : Int32)).toInt (2 : Int32)).2 = J3 at A265
      show Done _ _ _ _ _ _ _ _ _ _ _ _ _ _ _ T258 (mkF m 128 _ [])
      refine Done.stepL (pc' := 152) (st' := [(.int (1 : Int32)), (.int (3 : Int32))]) (fun t kk => ?_) ?_
      · show Steps p.tables e below (T258.setTop (mkF m 128 _ [])) t
        refine XS.iload P259.here P259.x rfl (hb hby at_128) rfl ?_
        show Steps p.tables e below (T258.setTop (mkF m 130 _ [(.int (3 : Int32))])) t
        refine XS.iconst P259.here P259.x rfl (hb hby at_130) ?_
        show Steps p.tables e below (T258.setTop (mkF m 131 _ [(.int (4 : Int32)), (.int (3 : Int32))])) t
        refine XS.icmpYes P259.here P259.x rfl (pc0 := 131) (pc' := 149) rfl (hb hby at_131) rfl (iiW_lt_t (by decide)) (by decide) (by decide) ?_
        show Steps p.tables e below (T258.setTop (mkF m 149 _ [])) t
        refine XS.iload P259.here P259.x rfl (hb hby at_149) rfl ?_
        show Steps p.tables e below (T258.setTop (mkF m 151 _ [(.int (3 : Int32))])) t
        refine XS.iloadN P259.here P259.x rfl (hb hby at_151) rfl ?_
        exact kk
      refine wCallS P259 (m_mint l Z a0 hw (3 : Int32) (1 : Int32) h269 (by decide)) (tw28 hw) (tw12 hw) (tw13 hw) (tw14 hw) (by decide) (by rw [hml]; rfl) (lenOf pd_1 rfl) (argsL := [(.int (3 : Int32)), (.int (1 : Int32))]) (rest := []) rfl rfl (W := 0) (Nat.le_of_eq rfl) (by decide) (by decide) (by decide) (by decide) (by simp) (hb hby at_152) rfl (k' := 3) (n' := 36) rfl rfl ?_
      rintro T271 _ _ P272 - ⟨rfl, rfl⟩
      show Done _ _ _ _ _ _ _ _ _ _ _ _ _ _ _ T271 (mkF m 155 _ [(.int (1 : Int32))])
      refine Done.step (T' := T271) (g' := (mkF m 159 #[.val (.int p0), .val (.int p1), .val (.int p2), .val (.int (1 : Int32)), .val (.int (3 : Int32)), .val (.ref b203), .val (.int (1 : Int32)), .val (.int (1 : Int32)), .unset, .unset] [(.ref b203)])) (fun t kk => ?_) ?_
      · show Steps p.tables e below (T271.setTop (mkF m 155 _ [(.int (1 : Int32))])) t
        refine XS.istore P272.here P272.x rfl (hb hby at_155) rfl (l' := #[.val (.int p0), .val (.int p1), .val (.int p2), .val (.int (1 : Int32)), .val (.int (3 : Int32)), .val (.ref b203), .val (.int (1 : Int32)), .val (.int (1 : Int32)), .unset, .unset]) rfl ?_
        show Steps p.tables e below (T271.setTop (mkF m 157 _ [])) t
        refine XS.aload P272.here P272.x rfl (hb hby at_157) rfl rfl ?_
        exact kk
      have f275 := (f268.keep K270)
      refine wCallV P272 (m_size l Z a0 hw b203 (1 : Int32) h269 F260) (tw29 hw) (tw30 hw) (tw32 hw) (tw32 hw) (tw31 hw) (tw2 hw) (tw33 hw) (by decide) f275 (by rw [hml]; rfl) (lenOf pd_4 rfl) (argsL := []) (rest := []) rfl rfl (W := 0) (Nat.le_of_eq rfl) (by decide) (by decide) (by decide) (by decide) (by simp) (hb hby at_159) rfl (k' := 3) (n' := 36) rfl rfl ?_
      rintro T273 _ _ P274 - ⟨rfl, rfl⟩
      show Done _ _ _ _ _ _ _ _ _ _ _ _ _ _ _ T273 (mkF m 162 _ [(.int (1 : Int32))])
      refine Done.step (T' := T273) (g' := (mkF m 176 #[.val (.int p0), .val (.int p1), .val (.int p2), .val (.int (1 : Int32)), .val (.int (3 : Int32)), .val (.ref b203), .val (.int (1 : Int32)), .val (.int (1 : Int32)), .val (.int (1 : Int32)), .unset] [(.ref b203)])) (fun t kk => ?_) ?_
      · show Steps p.tables e below (T273.setTop (mkF m 162 _ [(.int (1 : Int32))])) t
        refine XS.iload P274.here P274.x rfl (hb hby at_162) rfl ?_
        show Steps p.tables e below (T273.setTop (mkF m 164 _ [(.int (1 : Int32)), (.int (1 : Int32))])) t
        refine XS.icmpNo P274.here P274.x rfl (hb hby at_164) rfl (iiW_ne_f (by decide)) ?_
        show Steps p.tables e below (T273.setTop (mkF m 167 _ [])) t
        refine XS.iconst P274.here P274.x rfl (hb hby at_167) ?_
        show Steps p.tables e below (T273.setTop (mkF m 168 _ [(.int (1 : Int32))])) t
        refine XS.goto P274.here P274.x rfl (pc0 := 168) (pc' := 172) rfl (hb hby at_168) (by decide) (by decide) ?_
        show Steps p.tables e below (T273.setTop (mkF m 172 _ [(.int (1 : Int32))])) t
        refine XS.istore P274.here P274.x rfl (hb hby at_172) rfl (l' := #[.val (.int p0), .val (.int p1), .val (.int p2), .val (.int (1 : Int32)), .val (.int (3 : Int32)), .val (.ref b203), .val (.int (1 : Int32)), .val (.int (1 : Int32)), .val (.int (1 : Int32)), .unset]) rfl ?_
        show Steps p.tables e below (T273.setTop (mkF m 174 _ [])) t
        refine XS.aload P274.here P274.x rfl (hb hby at_174) rfl rfl ?_
        exact kk
      refine wCallV P274 (m_isFullt l Z a0 hw b203 (1 : Int32) (1 : Int32) h269 F260 F263 (by decide)) (tw21 hw) (tw22 hw) (tw24 hw) (tw24 hw) (tw23 hw) (tw2 hw) (tw25 hw) (by decide) f275 (by rw [hml]; rfl) (lenOf pd_3 rfl) (argsL := []) (rest := []) rfl rfl (W := 0) (Nat.le_of_eq rfl) (by decide) (by decide) (by decide) (by decide) (by simp) (hb hby at_176) rfl (k' := 3) (n' := 36) rfl rfl ?_
      rintro T276 _ _ P277 - ⟨rfl, rfl⟩
      show Done _ _ _ _ _ _ _ _ _ _ _ _ _ _ _ T276 (mkF m 179 _ [(.int (1 : Int32))])
      refine Done.step (T' := T276) (g' := (mkF m 220 #[.val (.int p0), .val (.int p1), .val (.int p2), .val (.int (1 : Int32)), .val (.int (3 : Int32)), .val (.ref b203), .val (.int (1 : Int32)), .val (.int (1 : Int32)), .val (.int (1 : Int32)), .val (.int (1 : Int32))] [(.int (1 : Int32))])) (fun t kk => ?_) ?_
      · show Steps p.tables e below (T276.setTop (mkF m 179 _ [(.int (1 : Int32))])) t
        refine XS.iload P277.here P277.x rfl (hb hby at_179) rfl ?_
        show Steps p.tables e below (T276.setTop (mkF m 181 _ [(.int (1 : Int32)), (.int (1 : Int32))])) t
        refine XS.iloadN P277.here P277.x rfl (hb hby at_181) rfl ?_
        show Steps p.tables e below (T276.setTop (mkF m 182 _ [(.int (1 : Int32)), (.int (1 : Int32)), (.int (1 : Int32))])) t
        refine XS.icmpNo P277.here P277.x rfl (hb hby at_182) rfl (iiW_ne_f (by decide)) ?_
        show Steps p.tables e below (T276.setTop (mkF m 185 _ [(.int (1 : Int32))])) t
        refine XS.iconst P277.here P277.x rfl (hb hby at_185) ?_
        show Steps p.tables e below (T276.setTop (mkF m 186 _ [(.int (1 : Int32)), (.int (1 : Int32))])) t
        refine XS.goto P277.here P277.x rfl (pc0 := 186) (pc' := 190) rfl (hb hby at_186) (by decide) (by decide) ?_
        show Steps p.tables e below (T276.setTop (mkF m 190 _ [(.int (1 : Int32)), (.int (1 : Int32))])) t
        refine XS.icmpNo P277.here P277.x rfl (hb hby at_190) rfl (iiW_ne_f (by decide)) ?_
        show Steps p.tables e below (T276.setTop (mkF m 193 _ [])) t
        refine XS.iconst P277.here P277.x rfl (hb hby at_193) ?_
        show Steps p.tables e below (T276.setTop (mkF m 194 _ [(.int (1 : Int32))])) t
        refine XS.goto P277.here P277.x rfl (pc0 := 194) (pc' := 198) rfl (hb hby at_194) (by decide) (by decide) ?_
        show Steps p.tables e below (T276.setTop (mkF m 198 _ [(.int (1 : Int32))])) t
        refine XS.istore P277.here P277.x rfl (hb hby at_198) rfl (l' := #[.val (.int p0), .val (.int p1), .val (.int p2), .val (.int (1 : Int32)), .val (.int (3 : Int32)), .val (.ref b203), .val (.int (1 : Int32)), .val (.int (1 : Int32)), .val (.int (1 : Int32)), .val (.int (1 : Int32))]) rfl ?_
        show Steps p.tables e below (T276.setTop (mkF m 200 _ [])) t
        refine XS.iload P277.here P277.x rfl (hb hby at_200) rfl ?_
        show Steps p.tables e below (T276.setTop (mkF m 202 _ [(.int (1 : Int32))])) t
        refine XS.ifNo P277.here P277.x rfl (hb hby at_202) rfl (i0W_eq_f (by decide)) ?_
        show Steps p.tables e below (T276.setTop (mkF m 205 _ [])) t
        refine XS.iload P277.here P277.x rfl (hb hby at_205) rfl ?_
        show Steps p.tables e below (T276.setTop (mkF m 207 _ [(.int (1 : Int32))])) t
        refine XS.ifNo P277.here P277.x rfl (hb hby at_207) rfl (i0W_eq_f (by decide)) ?_
        show Steps p.tables e below (T276.setTop (mkF m 210 _ [])) t
        refine XS.iload P277.here P277.x rfl (hb hby at_210) rfl ?_
        show Steps p.tables e below (T276.setTop (mkF m 212 _ [(.int (1 : Int32))])) t
        refine XS.ifNo P277.here P277.x rfl (hb hby at_212) rfl (i0W_eq_f (by decide)) ?_
        show Steps p.tables e below (T276.setTop (mkF m 215 _ [])) t
        refine XS.iconst P277.here P277.x rfl (hb hby at_215) ?_
        show Steps p.tables e below (T276.setTop (mkF m 216 _ [(.int (1 : Int32))])) t
        refine XS.goto P277.here P277.x rfl (pc0 := 216) (pc' := 220) rfl (hb hby at_216) (by decide) (by decide) ?_
        exact kk
      exact wRet P277 (t := .boolean) hret (narrow_01 (Or.inr rfl)) (Or.inl ⟨rfl, Or.inr (Or.inl rfl), _, rfl⟩) (hb hby at_220) rfl
    · show Done _ _ _ _ _ _ _ _ _ _ _ _ _ _ _ T0 (mkF m 34 _ [])
      refine wNew P0 (tw0 hw) (tw1 hw) (tw2 hw) (hb hby at_34) rfl (by decide) (by decide) (k' := 1) (n' := 4) rfl rfl (fun T278 h280 b281 g282 lt283 P279 E284 X285 D286 => ?_)
      have ge_b281 : h0.size ≤ b281 := by have := P0.ge; omega
      have F287 : Fld Z h280 b281 "com/example/urnwise/urnwise/sampler/SmallestKeys" "capacity" "I" (.int (0 : Int32)) := D286 (Or.inr (tw10 hw)) (ty := .int) (by decide)
      have F288 : Fld Z h280 b281 "com/example/urnwise/urnwise/sampler/SmallestKeys" "keys" "[D" .null := D286 (Or.inl (tw17 hw)) (ty := (.array .double)) (by decide)
      have F289 : Fld Z h280 b281 "com/example/urnwise/urnwise/sampler/SmallestKeys" "indices" "[I" .null := D286 (Or.inl (tw20 hw)) (ty := (.array .int)) (by decide)
      have F290 : Fld Z h280 b281 "com/example/urnwise/urnwise/sampler/SmallestKeys" "size" "I" (.int (0 : Int32)) := D286 (Or.inl (tw27 hw)) (ty := .int) (by decide)
      show Done _ _ _ _ _ _ _ _ _ _ _ _ _ _ _ T278 (mkF m 37 _ [(.ref b281)])
      refine Done.stepL (pc' := 39) (st' := [(.int (1 : Int32)), (.ref b281), (.ref b281)]) (fun t kk => ?_) ?_
      · show Steps p.tables e below (T278.setTop (mkF m 37 _ [(.ref b281)])) t
        refine XS.dup P279.here P279.x rfl (hb hby at_37) rfl rfl ?_
        show Steps p.tables e below (T278.setTop (mkF m 38 _ [(.ref b281), (.ref b281)])) t
        refine XS.iloadN P279.here P279.x rfl (hb hby at_38) rfl ?_
        exact kk
      refine wCallI P279 (m_hpInit l Z a0 hw b281 (1 : Int32) 1 h280 X285 F287 F288 F289 (by decide) (by decide) F290) rfl (tw3 hw) (tw4 hw) (tw2 hw) (tw5 hw) (by decide) (a := b281) (by rw [hml]; rfl) (lenOf pd_2 rfl) (argsL := [(.int (1 : Int32))]) (rest := [(.ref b281)]) rfl rfl (W := 1) (Nat.le_of_eq rfl) (by decide) (by decide) (by decide) (by decide) (allS (Or.inr ge_b281) all0) (hb hby at_39) rfl (k' := 3) (n' := 36) rfl rfl ?_
      rintro T291 h306 _ P292 K307 ⟨rfl, b293, b294, q295, q296, q297, q298, q299, F300, F301, F302, F303, A304, A305⟩
      have szh306 : h280.size ≤ h306.size := K307.1
      have ge_b293 : h0.size ≤ b293 := by have := q295; have := P279.ge; omega
      have ge_b294 : h0.size ≤ b294 := by have := q296; have := P279.ge; omega
      have dK0 : ∀ i, i < 1 → DInt ((fun _ => (0 : Int)) i) ((fun _ => (0 : UInt64)) i) := fun i _ => dint_c0
      show Done _ _ _ _ _ _ _ _ _ _ _ _ _ _ _ T291 (mkF m 42 _ [(.ref b281)])
      refine Done.step (T' := T291) (g' := (mkF m 46 #[.val (.int p0), .val (.int p1), .val (.int p2), .val (.int (1 : Int32)), .val (.int (4 : Int32)), .val (.ref b281), .unset, .unset, .unset, .unset] [(.ref b281)])) (fun t kk => ?_) ?_
      · show Steps p.tables e below (T291.setTop (mkF m 42 _ [(.ref b281)])) t
        refine XS.astore P292.here P292.x rfl (hb hby at_42) rfl rfl (l' := #[.val (.int p0), .val (.int p1), .val (.int p2), .val (.int (1 : Int32)), .val (.int (4 : Int32)), .val (.ref b281), .unset, .unset, .unset, .unset]) rfl ?_
        show Steps p.tables e below (T291.setTop (mkF m 44 _ [])) t
        refine XS.aload P292.here P292.x rfl (hb hby at_44) rfl rfl ?_
        exact kk
      have f310 := (X285.keep K307)
      refine wCallV P292 (m_isFullf l Z a0 hw b281 (0 : Int32) (1 : Int32) h306 F300 F303 (by decide)) (tw21 hw) (tw22 hw) (tw24 hw) (tw24 hw) (tw23 hw) (tw2 hw) (tw25 hw) (by decide) f310 (by rw [hml]; rfl) (lenOf pd_3 rfl) (argsL := []) (rest := []) rfl rfl (W := 0) (Nat.le_of_eq rfl) (by decide) (by decide) (by decide) (by decide) (by simp) (hb hby at_46) rfl (k' := 3) (n' := 36) rfl rfl ?_
      rintro T308 _ _ P309 - ⟨rfl, rfl⟩
      show Done _ _ _ _ _ _ _ _ _ _ _ _ _ _ _ T308 (mkF m 49 _ [(.int (0 : Int32))])
      refine Done.step (T' := T308) (g' := (mkF m 83 #[.val (.int p0), .val (.int p1), .val (.int p2), .val (.int (1 : Int32)), .val (.int (4 : Int32)), .val (.ref b281), .val (.int (1 : Int32)), .unset, .unset, .unset] [(.int (0 : Int32)), (.double (FP.i2d (p2 &&& (255 : Int32)))), (.ref b281)])) (fun t kk => ?_) ?_
      · show Steps p.tables e below (T308.setTop (mkF m 49 _ [(.int (0 : Int32))])) t
        refine XS.iloadN P309.here P309.x rfl (hb hby at_49) rfl ?_
        show Steps p.tables e below (T308.setTop (mkF m 50 _ [(.int (1 : Int32)), (.int (0 : Int32))])) t
        refine XS.ifYes P309.here P309.x rfl (pc0 := 50) (pc' := 57) rfl (hb hby at_50) rfl (i0W_ne_t (by decide)) (by decide) (by decide) ?_
        show Steps p.tables e below (T308.setTop (mkF m 57 _ [(.int (0 : Int32))])) t
        refine XS.iconst P309.here P309.x rfl (hb hby at_57) ?_
        show Steps p.tables e below (T308.setTop (mkF m 58 _ [(.int (0 : Int32)), (.int (0 : Int32))])) t
        refine XS.icmpNo P309.here P309.x rfl (hb hby at_58) rfl (iiW_ne_f (by decide)) ?_
        show Steps p.tables e below (T308.setTop (mkF m 61 _ [])) t
        refine XS.iconst P309.here P309.x rfl (hb hby at_61) ?_
        show Steps p.tables e below (T308.setTop (mkF m 62 _ [(.int (1 : Int32))])) t
        refine XS.goto P309.here P309.x rfl (pc0 := 62) (pc' := 66) rfl (hb hby at_62) (by decide) (by decide) ?_
        show Steps p.tables e below (T308.setTop (mkF m 66 _ [(.int (1 : Int32))])) t
        refine XS.istore P309.here P309.x rfl (hb hby at_66) rfl (l' := #[.val (.int p0), .val (.int p1), .val (.int p2), .val (.int (1 : Int32)), .val (.int (4 : Int32)), .val (.ref b281), .val (.int (1 : Int32)), .unset, .unset, .unset]) rfl ?_
        show Steps p.tables e below (T308.setTop (mkF m 68 _ [])) t
        refine XS.iload P309.here P309.x rfl (hb hby at_68) rfl ?_
        show Steps p.tables e below (T308.setTop (mkF m 70 _ [(.int (4 : Int32))])) t
        refine XS.iconst P309.here P309.x rfl (hb hby at_70) ?_
        show Steps p.tables e below (T308.setTop (mkF m 71 _ [(.int (1 : Int32)), (.int (4 : Int32))])) t
        refine XS.icmpNo P309.here P309.x rfl (hb hby at_71) rfl (iiW_lt_f (by decide)) ?_
        show Steps p.tables e below (T308.setTop (mkF m 74 _ [])) t
        refine XS.aload P309.here P309.x rfl (hb hby at_74) rfl rfl ?_
        show Steps p.tables e below (T308.setTop (mkF m 76 _ [(.ref b281)])) t
        refine XS.iloadN P309.here P309.x rfl (hb hby at_76) rfl ?_
        show Steps p.tables e below (T308.setTop (mkF m 77 _ [(.int p2), (.ref b281)])) t
        refine XS.sipush P309.here P309.x rfl (hb hby at_77) ?_
        show Steps p.tables e below (T308.setTop (mkF m 80 _ [(.int (255 : Int32)), (.int p2), (.ref b281)])) t
        refine XS.iand P309.here P309.x rfl (hb hby at_80) rfl ?_
        show Steps p.tables e below (T308.setTop (mkF m 81 _ [(.int (p2 &&& (255 : Int32))), (.ref b281)])) t
        refine XS.i2dS P309.here P309.x rfl (hb hby at_81) rfl rfl ?_
        show Steps p.tables e below (T308.setTop (mkF m 82 _ [(.double (FP.i2d (p2 &&& (255 : Int32)))), (.ref b281)])) t
        refine XS.iconst P309.here P309.x rfl (hb hby at_82) ?_
        exact kk
      refine wCallV P309 (m_offA l Z a0 hw b281 b293 b294 (0 : Int32) 1 0 (fun _ => (0 : UInt64)) (fun _ => (0 : Int)) (fun _ => (0 : Int32)) (1 : Int32) (FP.i2d (p2 &&& (255 : Int32))) (0 : Int32) (p2 &&& (255 : Int32)).toInt (1 : Int32) h306 f310 F301 F302 F300 F303 A304 A305 (by first | assumption | exact Ne.symm (by assumption) | exact adr_ne (by omega)) (by first | assumption | exact Ne.symm (by assumption) | exact adr_ne (by omega)) q297 (by decide) rfl dK0 (i2d_int (p2 &&& (255 : Int32))) (by decide) (by omega) (by decide)) (tw35 hw) (tw36 hw) (tw38 hw) (tw38 hw) (tw37 hw) (tw2 hw) (tw39 hw) (by decide) f310 (by rw [hml]; rfl) (lenOf pd_5 rfl) (argsL := [(.double (FP.i2d (p2 &&& (255 : Int32)))), (.int (0 : Int32))]) (rest := []) rfl rfl (W := 0) (Nat.le_of_eq rfl) (by decide) (by decide) (by decide) (by decide) (allS (Or.inr ge_b281) (allS (Or.inr ge_b293) (allS (Or.inr ge_b294) all0))) (hb hby at_83) rfl (k' := 3) (n' := 36) rfl rfl ?_
      rintro T311 h321 _ P312 K322 ⟨rfl, kf320, F313, F314, F315, F316, A317, dK319, A318⟩
      have szh321 : h306.size ≤ h321.size := K322.1
      generalize gK1 : (own_of 0 true (fun _ => (0 : Int)) (fun _ => (0 : Int32)) (p2 &&& (255 : Int32)).toInt (0 : Int32)).1 = K1 at dK319
      generalize gJ1 : (own_of 0 true (fun _ => (0 : Int)) (fun _ => (0 : Int32)) (p2 &&& (255 : Int32)).toInt (0 : Int32)).2 = J1 at A318
      show Done _ _ _ _ _ _ _ _ _ _ _ _ _ _ _ T311 (mkF m 86 _ [])
      refine Done.stepL (pc' := 104) (st' := [(.int (1 : Int32)), (.double (FP.i2d (((p2.toUInt32 >>> ((8 : Int32) &&& 31).toUInt32).toInt32) &&& (255 : Int32)))), (.ref b281)]) (fun t kk => ?_) ?_
      · show Steps p.tables e below (T311.setTop (mkF m 86 _ [])) t
        refine XS.iload P312.here P312.x rfl (hb hby at_86) rfl ?_
        show Steps p.tables e below (T311.setTop (mkF m 88 _ [(.int (4 : Int32))])) t
        refine XS.iconst P312.here P312.x rfl (hb hby at_88) ?_
        show Steps p.tables e below (T311.setTop (mkF m 89 _ [(.int (2 : Int32)), (.int (4 : Int32))])) t
        refine XS.icmpNo P312.here P312.x rfl (hb hby at_89) rfl (iiW_lt_f (by decide)) ?_
        show Steps p.tables e below (T311.setTop (mkF m 92 _ [])) t
        refine XS.aload P312.here P312.x rfl (hb hby at_92) rfl rfl ?_
        show Steps p.tables e below (T311.setTop (mkF m 94 _ [(.ref b281)])) t
        refine XS.iloadN P312.here P312.x rfl (hb hby at_94) rfl ?_
        show Steps p.tables e below (T311.setTop (mkF m 95 _ [(.int p2), (.ref b281)])) t
        refine XS.bipush P312.here P312.x rfl (hb hby at_95) ?_
        show Steps p.tables e below (T311.setTop (mkF m 97 _ [(.int (8 : Int32)), (.int p2), (.ref b281)])) t
        refine XS.iushr P312.here P312.x rfl (hb hby at_97) rfl ?_
        show Steps p.tables e below (T311.setTop (mkF m 98 _ [(.int ((p2.toUInt32 >>> ((8 : Int32) &&& 31).toUInt32).toInt32)), (.ref b281)])) t
        refine XS.sipush P312.here P312.x rfl (hb hby at_98) ?_
        show Steps p.tables e below (T311.setTop (mkF m 101 _ [(.int (255 : Int32)), (.int ((p2.toUInt32 >>> ((8 : Int32) &&& 31).toUInt32).toInt32)), (.ref b281)])) t
        refine XS.iand P312.here P312.x rfl (hb hby at_101) rfl ?_
        show Steps p.tables e below (T311.setTop (mkF m 102 _ [(.int (((p2.toUInt32 >>> ((8 : Int32) &&& 31).toUInt32).toInt32) &&& (255 : Int32))), (.ref b281)])) t
        refine XS.i2dS P312.here P312.x rfl (hb hby at_102) rfl rfl ?_
        show Steps p.tables e below (T311.setTop (mkF m 103 _ [(.double (FP.i2d (((p2.toUInt32 >>> ((8 : Int32) &&& 31).toUInt32).toInt32) &&& (255 : Int32)))), (.ref b281)])) t
        refine XS.iconst P312.here P312.x rfl (hb hby at_103) ?_
        exact kk
      have f333 := (f310.keep K322)
      refine wCallV P312 (m_offB l Z a0 hw b281 b293 b294 (1 : Int32) 1 1 kf320 K1 J1 (1 : Int32) (FP.i2d (((p2.toUInt32 >>> ((8 : Int32) &&& 31).toUInt32).toInt32) &&& (255 : Int32))) (1 : Int32) (((p2.toUInt32 >>> ((8 : Int32) &&& 31).toUInt32).toInt32) &&& (255 : Int32)).toInt h321 f333 F314 F315 F313 F316 A317 A318 (by first | assumption | exact Ne.symm (by assumption) | exact adr_ne (by omega)) (by first | assumption | exact Ne.symm (by assumption) | exact adr_ne (by omega)) q297 (by decide) rfl dK319 (i2d_int (((p2.toUInt32 >>> ((8 : Int32) &&& 31).toUInt32).toInt32) &&& (255 : Int32))) (by decide) (by omega) (by omega)) (tw35 hw) (tw36 hw) (tw38 hw) (tw38 hw) (tw37 hw) (tw2 hw) (tw39 hw) (by decide) f333 (by rw [hml]; rfl) (lenOf pd_5 rfl) (argsL := [(.double (FP.i2d (((p2.toUInt32 >>> ((8 : Int32) &&& 31).toUInt32).toInt32) &&& (255 : Int32)))), (.int (1 : Int32))]) (rest := []) rfl rfl (W := 0) (Nat.le_of_eq rfl) (by decide) (by decide) (by decide) (by decide) (allS (Or.inr ge_b293) (allS (Or.inr ge_b294) all0)) (hb hby at_104) rfl (k' := 3) (n' := 36) rfl rfl ?_
      rintro T323 h334 _ P324 K335 ⟨rfl, kf332, F325, F326, F327, F328, A329, dK331, A330⟩
      have szh334 : h321.size ≤ h334.size := K335.1
      generalize gK2 : (own_of 1 false K1 J1 (((p2.toUInt32 >>> ((8 : Int32) &&& 31).toUInt32).toInt32) &&& (255 : Int32)).toInt (1 : Int32)).1 = K2 at dK331
      generalize gJ2 : (own_of 1 false K1 J1 (((p2.toUInt32 >>> ((8 : Int32) &&& 31).toUInt32).toInt32) &&& (255 : Int32)).toInt (1 : Int32)).2 = J2 at A330
      show Done _ _ _ _ _ _ _ _ _ _ _ _ _ _ _ T323 (mkF m 107 _ [])
      refine Done.stepL (pc' := 125) (st' := [(.int (2 : Int32)), (.double (FP.i2d (((p2.toUInt32 >>> ((16 : Int32) &&& 31).toUInt32).toInt32) &&& (255 : Int32)))), (.ref b281)]) (fun t kk => ?_) ?_
      · show Steps p.tables e below (T323.setTop (mkF m 107 _ [])) t
        refine XS.iload P324.here P324.x rfl (hb hby at_107) rfl ?_
        show Steps p.tables e below (T323.setTop (mkF m 109 _ [(.int (4 : Int32))])) t
        refine XS.iconst P324.here P324.x rfl (hb hby at_109) ?_
        show Steps p.tables e below (T323.setTop (mkF m 110 _ [(.int (3 : Int32)), (.int (4 : Int32))])) t
        refine XS.icmpNo P324.here P324.x rfl (hb hby at_110) rfl (iiW_lt_f (by decide)) ?_
        show Steps p.tables e below (T323.setTop (mkF m 113 _ [])) t
        refine XS.aload P324.here P324.x rfl (hb hby at_113) rfl rfl ?_
        show Steps p.tables e below (T323.setTop (mkF m 115 _ [(.ref b281)])) t
        refine XS.iloadN P324.here P324.x rfl (hb hby at_115) rfl ?_
        show Steps p.tables e below (T323.setTop (mkF m 116 _ [(.int p2), (.ref b281)])) t
        refine XS.bipush P324.here P324.x rfl (hb hby at_116) ?_
        show Steps p.tables e below (T323.setTop (mkF m 118 _ [(.int (16 : Int32)), (.int p2), (.ref b281)])) t
        refine XS.iushr P324.here P324.x rfl (hb hby at_118) rfl ?_
        show Steps p.tables e below (T323.setTop (mkF m 119 _ [(.int ((p2.toUInt32 >>> ((16 : Int32) &&& 31).toUInt32).toInt32)), (.ref b281)])) t
        refine XS.sipush P324.here P324.x rfl (hb hby at_119) ?_
        show Steps p.tables e below (T323.setTop (mkF m 122 _ [(.int (255 : Int32)), (.int ((p2.toUInt32 >>> ((16 : Int32) &&& 31).toUInt32).toInt32)), (.ref b281)])) t
        refine XS.iand P324.here P324.x rfl (hb hby at_122) rfl ?_
        show Steps p.tables e below (T323.setTop (mkF m 123 _ [(.int (((p2.toUInt32 >>> ((16 : Int32) &&& 31).toUInt32).toInt32) &&& (255 : Int32))), (.ref b281)])) t
        refine XS.i2dS P324.here P324.x rfl (hb hby at_123) rfl rfl ?_
        show Steps p.tables e below (T323.setTop (mkF m 124 _ [(.double (FP.i2d (((p2.toUInt32 >>> ((16 : Int32) &&& 31).toUInt32).toInt32) &&& (255 : Int32)))), (.ref b281)])) t
        refine XS.iconst P324.here P324.x rfl (hb hby at_124) ?_
        exact kk
      have f346 := (f333.keep K335)
      refine wCallV P324 (m_offB l Z a0 hw b281 b293 b294 (1 : Int32) 1 1 kf332 K2 J2 (1 : Int32) (FP.i2d (((p2.toUInt32 >>> ((16 : Int32) &&& 31).toUInt32).toInt32) &&& (255 : Int32))) (2 : Int32) (((p2.toUInt32 >>> ((16 : Int32) &&& 31).toUInt32).toInt32) &&& (255 : Int32)).toInt h334 f346 F326 F327 F325 F328 A329 A330 (by first | assumption | exact Ne.symm (by assumption) | exact adr_ne (by omega)) (by first | assumption | exact Ne.symm (by assumption) | exact adr_ne (by omega)) q297 (by decide) rfl dK331 (i2d_int (((p2.toUInt32 >>> ((16 : Int32) &&& 31).toUInt32).toInt32) &&& (255 : Int32))) (by decide) (by omega) (by omega)) (tw35 hw) (tw36 hw) (tw38 hw) (tw38 hw) (tw37 hw) (tw2 hw) (tw39 hw) (by decide) f346 (by rw [hml]; rfl) (lenOf pd_5 rfl) (argsL := [(.double (FP.i2d (((p2.toUInt32 >>> ((16 : Int32) &&& 31).toUInt32).toInt32) &&& (255 : Int32)))), (.int (2 : Int32))]) (rest := []) rfl rfl (W := 0) (Nat.le_of_eq rfl) (by decide) (by decide) (by decide) (by decide) (allS (Or.inr ge_b293) (allS (Or.inr ge_b294) all0)) (hb hby at_125) rfl (k' := 3) (n' := 36) rfl rfl ?_
      rintro T336 h347 _ P337 K348 ⟨rfl, kf345, F338, F339, F340, F341, A342, dK344, A343⟩
      have szh347 : h334.size ≤ h347.size := K348.1
      generalize gK3 : (own_of 1 false K2 J2 (((p2.toUInt32 >>> ((16 : Int32) &&& 31).toUInt32).toInt32) &&& (255 : Int32)).toInt (2 : Int32)).1 = K3 at dK344
      generalize gJ3 : (own_of 1 false K2 J2 (((p2.toUInt32 >>> ((16 : Int32) &&& 31).toUInt32).toInt32) &&& (255 : Int32)).toInt (2 : Int32)).2 = J3 at A343
      show Done _ _ _ _ _ _ _ _ _ _ _ _ _ _ _ T336 (mkF m 128 _ [])
      refine Done.stepL (pc' := 146) (st' := [(.int (3 : Int32)), (.double (FP.i2d (((p2.toUInt32 >>> ((24 : Int32) &&& 31).toUInt32).toInt32) &&& (255 : Int32)))), (.ref b281)]) (fun t kk => ?_) ?_
      · show Steps p.tables e below (T336.setTop (mkF m 128 _ [])) t
        refine XS.iload P337.here P337.x rfl (hb hby at_128) rfl ?_
        show Steps p.tables e below (T336.setTop (mkF m 130 _ [(.int (4 : Int32))])) t
        refine XS.iconst P337.here P337.x rfl (hb hby at_130) ?_
        show Steps p.tables e below (T336.setTop (mkF m 131 _ [(.int (4 : Int32)), (.int (4 : Int32))])) t
        refine XS.icmpNo P337.here P337.x rfl (hb hby at_131) rfl (iiW_lt_f (by decide)) ?_
        show Steps p.tables e below (T336.setTop (mkF m 134 _ [])) t
        refine XS.aload P337.here P337.x rfl (hb hby at_134) rfl rfl ?_
        show Steps p.tables e below (T336.setTop (mkF m 136 _ [(.ref b281)])) t
        refine XS.iloadN P337.here P337.x rfl (hb hby at_136) rfl ?_
        show Steps p.tables e below (T336.setTop (mkF m 137 _ [(.int p2), (.ref b281)])) t
        refine XS.bipush P337.here P337.x rfl (hb hby at_137) ?_
        show Steps p.tables e below (T336.setTop (mkF m 139 _ [(.int (24 : Int32)), (.int p2), (.ref b281)])) t
        refine XS.iushr P337.here P337.x rfl (hb hby at_139) rfl ?_
        show Steps p.tables e below (T336.setTop (mkF m 140 _ [(.int ((p2.toUInt32 >>> ((24 : Int32) &&& 31).toUInt32).toInt32)), (.ref b281)])) t
        refine XS.sipush P337.here P337.x rfl (hb hby at_140) ?_
        show Steps p.tables e below (T336.setTop (mkF m 143 _ [(.int (255 : Int32)), (.int ((p2.toUInt32 >>> ((24 : Int32) &&& 31).toUInt32).toInt32)), (.ref b281)])) t
        refine XS.iand P337.here P337.x rfl (hb hby at_143) rfl ?_
        show Steps p.tables e below (T336.setTop (mkF m 144 _ [(.int (((p2.toUInt32 >>> ((24 : Int32) &&& 31).toUInt32).toInt32) &&& (255 : Int32))), (.ref b281)])) t
        refine XS.i2dS P337.here P337.x rfl (hb hby at_144) rfl rfl ?_
        show Steps p.tables e below (T336.setTop (mkF m 145 _ [(.double (FP.i2d (((p2.toUInt32 >>> ((24 : Int32) &&& 31).toUInt32).toInt32) &&& (255 : Int32)))), (.ref b281)])) t
        refine XS.iconst P337.here P337.x rfl (hb hby at_145) ?_
        exact kk
      have f359 := (f346.keep K348)
      refine wCallV P337 (m_offB l Z a0 hw b281 b293 b294 (1 : Int32) 1 1 kf345 K3 J3 (1 : Int32) (FP.i2d (((p2.toUInt32 >>> ((24 : Int32) &&& 31).toUInt32).toInt32) &&& (255 : Int32))) (3 : Int32) (((p2.toUInt32 >>> ((24 : Int32) &&& 31).toUInt32).toInt32) &&& (255 : Int32)).toInt h347 f359 F339 F340 F338 F341 A342 A343 (by first | assumption | exact Ne.symm (by assumption) | exact adr_ne (by omega)) (by first | assumption | exact Ne.symm (by assumption) | exact adr_ne (by omega)) q297 (by decide) rfl dK344 (i2d_int (((p2.toUInt32 >>> ((24 : Int32) &&& 31).toUInt32).toInt32) &&& (255 : Int32))) (by decide) (by omega) (by omega)) (tw35 hw) (tw36 hw) (tw38 hw) (tw38 hw) (tw37 hw) (tw2 hw) (tw39 hw) (by decide) f359 (by rw [hml]; rfl) (lenOf pd_5 rfl) (argsL := [(.double (FP.i2d (((p2.toUInt32 >>> ((24 : Int32) &&& 31).toUInt32).toInt32) &&& (255 : Int32)))), (.int (3 : Int32))]) (rest := []) rfl rfl (W := 0) (Nat.le_of_eq rfl) (by decide) (by decide) (by decide) (by decide) (allS (Or.inr ge_b293) (allS (Or.inr ge_b294) all0)) (hb hby at_146) rfl (k' := 3) (n' := 36) rfl rfl ?_
      rintro T349 h360 _ P350 K361 ⟨rfl, kf358, F351, F352, F353, F354, A355, dK357, A356⟩
      have szh360 : h347.size ≤ h360.size := K361.1
      generalize gK4 : (own_of 1 false K3 J3 (((p2.toUInt32 >>> ((24 : Int32) &&& 31).toUInt32).toInt32) &&& (255 : Int32)).toInt (3 : Int32)).1 = K4 at dK357
      generalize gJ4 : (own_of 1 false K3 J3 (((p2.toUInt32 >>> ((24 : Int32) &&& 31).toUInt32).toInt32) &&& (255 : Int32)).toInt (3 : Int32)).2 = J4 at A356
      show Done _ _ _ _ _ _ _ _ _ _ _ _ _ _ _ T349 (mkF m 149 _ [])
      refine Done.stepL (pc' := 152) (st' := [(.int (1 : Int32)), (.int (4 : Int32))]) (fun t kk => ?_) ?_
      · show Steps p.tables e below (T349.setTop (mkF m 149 _ [])) t
        refine XS.iload P350.here P350.x rfl (hb hby at_149) rfl ?_
        show Steps p.tables e below (T349.setTop (mkF m 151 _ [(.int (4 : Int32))])) t
        refine XS.iloadN P350.here P350.x rfl (hb hby at_151) rfl ?_
        exact kk
      refine wCallS P350 (m_mint l Z a0 hw (4 : Int32) (1 : Int32) h360 (by decide)) (tw28 hw) (tw12 hw) (tw13 hw) (tw14 hw) (by decide) (by rw [hml]; rfl) (lenOf pd_1 rfl) (argsL := [(.int (4 : Int32)), (.int (1 : Int32))]) (rest := []) rfl rfl (W := 0) (Nat.le_of_eq rfl) (by decide) (by decide) (by decide) (by decide) (by simp) (hb hby at_152) rfl (k' := 3) (n' := 36) rfl rfl ?_
      rintro T362 _ _ P363 - ⟨rfl, rfl⟩
      show Done _ _ _ _ _ _ _ _ _ _ _ _ _ _ _ T362 (mkF m 155 _ [(.int (1 : Int32))])
      refine Done.step (T' := T362) (g' := (mkF m 159 #[.val (.int p0), .val (.int p1), .val (.int p2), .val (.int (1 : Int32)), .val (.int (4 : Int32)), .val (.ref b281), .val (.int (1 : Int32)), .val (.int (1 : Int32)), .unset, .unset] [(.ref b281)])) (fun t kk => ?_) ?_
      · show Steps p.tables e below (T362.setTop (mkF m 155 _ [(.int (1 : Int32))])) t
        refine XS.istore P363.here P363.x rfl (hb hby at_155) rfl (l' := #[.val (.int p0), .val (.int p1), .val (.int p2), .val (.int (1 : Int32)), .val (.int (4 : Int32)), .val (.ref b281), .val (.int (1 : Int32)), .val (.int (1 : Int32)), .unset, .unset]) rfl ?_
        show Steps p.tables e below (T362.setTop (mkF m 157 _ [])) t
        refine XS.aload P363.here P363.x rfl (hb hby at_157) rfl rfl ?_
        exact kk
      have f366 := (f359.keep K361)
      refine wCallV P363 (m_size l Z a0 hw b281 (1 : Int32) h360 F351) (tw29 hw) (tw30 hw) (tw32 hw) (tw32 hw) (tw31 hw) (tw2 hw) (tw33 hw) (by decide) f366 (by rw [hml]; rfl) (lenOf pd_4 rfl) (argsL := []) (rest := []) rfl rfl (W := 0) (Nat.le_of_eq rfl) (by decide) (by decide) (by decide) (by decide) (by simp) (hb hby at_159) rfl (k' := 3) (n' := 36) rfl rfl ?_
      rintro T364 _ _ P365 - ⟨rfl, rfl⟩
      show Done _ _ _ _ _ _ _ _ _ _ _ _ _ _ _ T364 (mkF m 162 _ [(.int (1 : Int32))])
      refine Done.step (T' := T364) (g' := (mkF m 176 #[.val (.int p0), .val (.int p1), .val (.int p2), .val (.int (1 : Int32)), .val (.int (4 : Int32)), .val (.ref b281), .val (.int (1 : Int32)), .val (.int (1 : Int32)), .val (.int (1 : Int32)), .unset] [(.ref b281)])) (fun t kk => ?_) ?_
      · show Steps p.tables e below (T364.setTop (mkF m 162 _ [(.int (1 : Int32))])) t
        refine XS.iload P365.here P365.x rfl (hb hby at_162) rfl ?_
        show Steps p.tables e below (T364.setTop (mkF m 164 _ [(.int (1 : Int32)), (.int (1 : Int32))])) t
        refine XS.icmpNo P365.here P365.x rfl (hb hby at_164) rfl (iiW_ne_f (by decide)) ?_
        show Steps p.tables e below (T364.setTop (mkF m 167 _ [])) t
        refine XS.iconst P365.here P365.x rfl (hb hby at_167) ?_
        show Steps p.tables e below (T364.setTop (mkF m 168 _ [(.int (1 : Int32))])) t
        refine XS.goto P365.here P365.x rfl (pc0 := 168) (pc' := 172) rfl (hb hby at_168) (by decide) (by decide) ?_
        show Steps p.tables e below (T364.setTop (mkF m 172 _ [(.int (1 : Int32))])) t
        refine XS.istore P365.here P365.x rfl (hb hby at_172) rfl (l' := #[.val (.int p0), .val (.int p1), .val (.int p2), .val (.int (1 : Int32)), .val (.int (4 : Int32)), .val (.ref b281), .val (.int (1 : Int32)), .val (.int (1 : Int32)), .val (.int (1 : Int32)), .unset]) rfl ?_
        show Steps p.tables e below (T364.setTop (mkF m 174 _ [])) t
        refine XS.aload P365.here P365.x rfl (hb hby at_174) rfl rfl ?_
        exact kk
      refine wCallV P365 (m_isFullt l Z a0 hw b281 (1 : Int32) (1 : Int32) h360 F351 F354 (by decide)) (tw21 hw) (tw22 hw) (tw24 hw) (tw24 hw) (tw23 hw) (tw2 hw) (tw25 hw) (by decide) f366 (by rw [hml]; rfl) (lenOf pd_3 rfl) (argsL := []) (rest := []) rfl rfl (W := 0) (Nat.le_of_eq rfl) (by decide) (by decide) (by decide) (by decide) (by simp) (hb hby at_176) rfl (k' := 3) (n' := 36) rfl rfl ?_
      rintro T367 _ _ P368 - ⟨rfl, rfl⟩
      show Done _ _ _ _ _ _ _ _ _ _ _ _ _ _ _ T367 (mkF m 179 _ [(.int (1 : Int32))])
      refine Done.step (T' := T367) (g' := (mkF m 220 #[.val (.int p0), .val (.int p1), .val (.int p2), .val (.int (1 : Int32)), .val (.int (4 : Int32)), .val (.ref b281), .val (.int (1 : Int32)), .val (.int (1 : Int32)), .val (.int (1 : Int32)), .val (.int (1 : Int32))] [(.int (1 : Int32))])) (fun t kk => ?_) ?_
      · show Steps p.tables e below (T367.setTop (mkF m 179 _ [(.int (1 : Int32))])) t
        refine XS.iload P368.here P368.x rfl (hb hby at_179) rfl ?_
        show Steps p.tables e below (T367.setTop (mkF m 181 _ [(.int (1 : Int32)), (.int (1 : Int32))])) t
        refine XS.iloadN P368.here P368.x rfl (hb hby at_181) rfl ?_
        show Steps p.tables e below (T367.setTop (mkF m 182 _ [(.int (1 : Int32)), (.int (1 : Int32)), (.int (1 : Int32))])) t
        refine XS.icmpNo P368.here P368.x rfl (hb hby at_182) rfl (iiW_ne_f (by decide)) ?_
        show Steps p.tables e below (T367.setTop (mkF m 185 _ [(.int (1 : Int32))])) t
        refine XS.iconst P368.here P368.x rfl (hb hby at_185) ?_
        show Steps p.tables e below (T367.setTop (mkF m 186 _ [(.int (1 : Int32)), (.int (1 : Int32))])) t
        refine XS.goto P368.here P368.x rfl (pc0 := 186) (pc' := 190) rfl (hb hby at_186) (by decide) (by decide) ?_
        show Steps p.tables e below (T367.setTop (mkF m 190 _ [(.int (1 : Int32)), (.int (1 : Int32))])) t
        refine XS.icmpNo P368.here P368.x rfl (hb hby at_190) rfl (iiW_ne_f (by decide)) ?_
        show Steps p.tables e below (T367.setTop (mkF m 193 _ [])) t
        refine XS.iconst P368.here P368.x rfl (hb hby at_193) ?_
        show Steps p.tables e below (T367.setTop (mkF m 194 _ [(.int (1 : Int32))])) t
        refine XS.goto P368.here P368.x rfl (pc0 := 194) (pc' := 198) rfl (hb hby at_194) (by decide) (by decide) ?_
        show Steps p.tables e below (T367.setTop (mkF m 198 _ [(.int (1 : Int32))])) t
        refine XS.istore P368.here P368.x rfl (hb hby at_198) rfl (l' := #[.val (.int p0), .val (.int p1), .val (.int p2), .val (.int (1 : Int32)), .val (.int (4 : Int32)), .val (.ref b281), .val (.int (1 : Int32)), .val (.int (1 : Int32)), .val (.int (1 : Int32)), .val (.int (1 : Int32))]) rfl ?_
        show Steps p.tables e below (T367.setTop (mkF m 200 _ [])) t
        refine XS.iload P368.here P368.x rfl (hb hby at_200) rfl ?_
        show Steps p.tables e below (T367.setTop (mkF m 202 _ [(.int (1 : Int32))])) t
        refine XS.ifNo P368.here P368.x rfl (hb hby at_202) rfl (i0W_eq_f (by decide)) ?_
        show Steps p.tables e below (T367.setTop (mkF m 205 _ [])) t
        refine XS.iload P368.here P368.x rfl (hb hby at_205) rfl ?_
        show Steps p.tables e below (T367.setTop (mkF m 207 _ [(.int (1 : Int32))])) t
        refine XS.ifNo P368.here P368.x rfl (hb hby at_207) rfl (i0W_eq_f (by decide)) ?_
        show Steps p.tables e below (T367.setTop (mkF m 210 _ [])) t
        refine XS.iload P368.here P368.x rfl (hb hby at_210) rfl ?_
        show Steps p.tables e below (T367.setTop (mkF m 212 _ [(.int (1 : Int32))])) t
        refine XS.ifNo P368.here P368.x rfl (hb hby at_212) rfl (i0W_eq_f (by decide)) ?_
        show Steps p.tables e below (T367.setTop (mkF m 215 _ [])) t
        refine XS.iconst P368.here P368.x rfl (hb hby at_215) ?_
        show Steps p.tables e below (T367.setTop (mkF m 216 _ [(.int (1 : Int32))])) t
        refine XS.goto P368.here P368.x rfl (pc0 := 216) (pc' := 220) rfl (hb hby at_216) (by decide) (by decide) ?_
        exact kk
      exact wRet P368 (t := .boolean) hret (narrow_01 (Or.inr rfl)) (Or.inl ⟨rfl, Or.inr (Or.inl rfl), _, rfl⟩) (hb hby at_220) rfl
  · rcases hnv with rfl | ⟨-, rfl | rfl | rfl | rfl⟩
    · show Done _ _ _ _ _ _ _ _ _ _ _ _ _ _ _ T0 (mkF m 34 _ [])
      refine wNew P0 (tw0 hw) (tw1 hw) (tw2 hw) (hb hby at_34) rfl (by decide) (by decide) (k' := 1) (n' := 4) rfl rfl (fun T369 h371 b372 g373 lt374 P370 E375 X376 D377 => ?_)
      have ge_b372 : h0.size ≤ b372 := by have := P0.ge; omega
      have F378 : Fld Z h371 b372 "com/example/urnwise/urnwise/sampler/SmallestKeys" "capacity" "I" (.int (0 : Int32)) := D377 (Or.inr (tw10 hw)) (ty := .int) (by decide)
      have F379 : Fld Z h371 b372 "com/example/urnwise/urnwise/sampler/SmallestKeys" "keys" "[D" .null := D377 (Or.inl (tw17 hw)) (ty := (.array .double)) (by decide)
      have F380 : Fld Z h371 b372 "com/example/urnwise/urnwise/sampler/SmallestKeys" "indices" "[I" .null := D377 (Or.inl (tw20 hw)) (ty := (.array .int)) (by decide)
      have F381 : Fld Z h371 b372 "com/example/urnwise/urnwise/sampler/SmallestKeys" "size" "I" (.int (0 : Int32)) := D377 (Or.inl (tw27 hw)) (ty := .int) (by decide)
      show Done _ _ _ _ _ _ _ _ _ _ _ _ _ _ _ T369 (mkF m 37 _ [(.ref b372)])
      refine Done.stepL (pc' := 39) (st' := [(.int (2 : Int32)), (.ref b372), (.ref b372)]) (fun t kk => ?_) ?_
      · show Steps p.tables e below (T369.setTop (mkF m 37 _ [(.ref b372)])) t
        refine XS.dup P370.here P370.x rfl (hb hby at_37) rfl rfl ?_
        show Steps p.tables e below (T369.setTop (mkF m 38 _ [(.ref b372), (.ref b372)])) t
        refine XS.iloadN P370.here P370.x rfl (hb hby at_38) rfl ?_
        exact kk
      refine wCallI P370 (m_hpInit l Z a0 hw b372 (2 : Int32) 2 h371 X376 F378 F379 F380 (by decide) (by decide) F381) rfl (tw3 hw) (tw4 hw) (tw2 hw) (tw5 hw) (by decide) (a := b372) (by rw [hml]; rfl) (lenOf pd_2 rfl) (argsL := [(.int (2 : Int32))]) (rest := [(.ref b372)]) rfl rfl (W := 1) (Nat.le_of_eq rfl) (by decide) (by decide) (by decide) (by decide) (allS (Or.inr ge_b372) all0) (hb hby at_39) rfl (k' := 3) (n' := 36) rfl rfl ?_
      rintro T382 h397 _ P383 K398 ⟨rfl, b384, b385, q386, q387, q388, q389, q390, F391, F392, F393, F394, A395, A396⟩
      have szh397 : h371.size ≤ h397.size := K398.1
      have ge_b384 : h0.size ≤ b384 := by have := q386; have := P370.ge; omega
      have ge_b385 : h0.size ≤ b385 := by have := q387; have := P370.ge; omega
      have dK0 : ∀ i, i < 2 → DInt ((fun _ => (0 : Int)) i) ((fun _ => (0 : UInt64)) i) := fun i _ => dint_c0
      show Done _ _ _ _ _ _ _ _ _ _ _ _ _ _ _ T382 (mkF m 42 _ [(.ref b372)])
      refine Done.step (T' := T382) (g' := (mkF m 46 #[.val (.int p0), .val (.int p1), .val (.int p2), .val (.int (2 : Int32)), .val (.int (0 : Int32)), .val (.ref b372), .unset, .unset, .unset, .unset] [(.ref b372)])) (fun t kk => ?_) ?_
      · show Steps p.tables e below (T382.setTop (mkF m 42 _ [(.ref b372)])) t
        refine XS.astore P383.here P383.x rfl (hb hby at_42) rfl rfl (l' := #[.val (.int p0), .val (.int p1), .val (.int p2), .val (.int (2 : Int32)), .val (.int (0 : Int32)), .val (.ref b372), .unset, .unset, .unset, .unset]) rfl ?_
        show Steps p.tables e below (T382.setTop (mkF m 44 _ [])) t
        refine XS.aload P383.here P383.x rfl (hb hby at_44) rfl rfl ?_
        exact kk
      have f401 := (X376.keep K398)
      refine wCallV P383 (m_isFullf l Z a0 hw b372 (0 : Int32) (2 : Int32) h397 F391 F394 (by decide)) (tw21 hw) (tw22 hw) (tw24 hw) (tw24 hw) (tw23 hw) (tw2 hw) (tw25 hw) (by decide) f401 (by rw [hml]; rfl) (lenOf pd_3 rfl) (argsL := []) (rest := []) rfl rfl (W := 0) (Nat.le_of_eq rfl) (by decide) (by decide) (by decide) (by decide) (by simp) (hb hby at_46) rfl (k' := 3) (n' := 36) rfl rfl ?_
      rintro T399 _ _ P400 - ⟨rfl, rfl⟩
      show Done _ _ _ _ _ _ _ _ _ _ _ _ _ _ _ T399 (mkF m 49 _ [(.int (0 : Int32))])
      refine Done.step (T' := T399) (g' := (mkF m 152 #[.val (.int p0), .val (.int p1), .val (.int p2), .val (.int (2 : Int32)), .val (.int (0 : Int32)), .val (.ref b372), .val (.int (1 : Int32)), .unset, .unset, .unset] [(.int (2 : Int32)), (.int (0 : Int32))])) (fun t kk => ?_) ?_
      · show Steps p.tables e below (T399.setTop (mkF m 49 _ [(.int (0 : Int32))])) t
        refine XS.iloadN P400.here P400.x rfl (hb hby at_49) rfl ?_
        show Steps p.tables e below (T399.setTop (mkF m 50 _ [(.int (2 : Int32)), (.int (0 : Int32))])) t
        refine XS.ifYes P400.here P400.x rfl (pc0 := 50) (pc' := 57) rfl (hb hby at_50) rfl (i0W_ne_t (by decide)) (by decide) (by decide) ?_
        show Steps p.tables e below (T399.setTop (mkF m 57 _ [(.int (0 : Int32))])) t
        refine XS.iconst P400.here P400.x rfl (hb hby at_57) ?_
        show Steps p.tables e below (T399.setTop (mkF m 58 _ [(.int (0 : Int32)), (.int (0 : Int32))])) t
        refine XS.icmpNo P400.here P400.x rfl (hb hby at_58) rfl (iiW_ne_f (by decide)) ?_
        show Steps p.tables e below (T399.setTop (mkF m 61 _ [])) t
        refine XS.iconst P400.here P400.x rfl (hb hby at_61) ?_
        show Steps p.tables e below (T399.setTop (mkF m 62 _ [(.int (1 : Int32))])) t
        refine XS.goto P400.here P400.x rfl (pc0 := 62) (pc' := 66) rfl (hb hby at_62) (by decide) (by decide) ?_
        show Steps p.tables e below (T399.setTop (mkF m 66 _ [(.int (1 : Int32))])) t
        refine XS.istore P400.here P400.x rfl (hb hby at_66) rfl (l' := #[.val (.int p0), .val (.int p1), .val (.int p2), .val (.int (2 : Int32)), .val (.int (0 : Int32)), .val (.ref b372), .val (.int (1 : Int32)), .unset, .unset, .unset]) rfl ?_
        show Steps p.tables e below (T399.setTop (mkF m 68 _ [])) t
        refine XS.iload P400.here P400.x rfl (hb hby at_68) rfl ?_
        show Steps p.tables e below (T399.setTop (mkF m 70 _ [(.int (0 : Int32))])) t
        refine XS.iconst P400.here P400.x rfl (hb hby at_70) ?_
        show Steps p.tables e below (T399.setTop (mkF m 71 _ [(.int (1 : Int32)), (.int (0 : Int32))])) t
        refine XS.icmpYes P400.here P400.x rfl (pc0 := 71) (pc' := 86) rfl (hb hby at_71) rfl (iiW_lt_t (by decide)) (by decide) (by decide) ?_
        show Steps p.tables e below (T399.setTop (mkF m 86 _ [])) t
        refine XS.iload P400.here P400.x rfl (hb hby at_86) rfl ?_
        show Steps p.tables e below (T399.setTop (mkF m 88 _ [(.int (0 : Int32))])) t
        refine XS.iconst P400.here P400.x rfl (hb hby at_88) ?_
        show Steps p.tables e below (T399.setTop (mkF m 89 _ [(.int (2 : Int32)), (.int (0 : Int32))])) t
        refine XS.icmpYes P400.here P400.x rfl (pc0 := 89) (pc' := 107) rfl (hb hby at_89) rfl (iiW_lt_t (by decide)) (by decide) (by decide) ?_
        show Steps p.tables e below (T399.setTop (mkF m 107 _ [])) t
        refine XS.iload P400.here P400.x rfl (hb hby at_107) rfl ?_
        show Steps p.tables e below (T399.setTop (mkF m 109 _ [(.int (0 : Int32))])) t
        refine XS.iconst P400.here P400.x rfl (hb hby at_109) ?_
        show Steps p.tables e below (T399.setTop (mkF m 110 _ [(.int (3 : Int32)), (.int (0 : Int32))])) t
        refine XS.icmpYes P400.here P400.x rfl (pc0 := 110) (pc' := 128) rfl (hb hby at_110) rfl (iiW_lt_t (by decide)) (by decide) (by decide) ?_
        show Steps p.tables e below (T399.setTop (mkF m 128 _ [])) t
        refine XS.iload P400.here P400.x rfl (hb hby at_128) rfl ?_
        show Steps p.tables e below (T399.setTop (mkF m 130 _ [(.int (0 : Int32))])) t
        refine XS.iconst P400.here P400.x rfl (hb hby at_130) ?_
        show Steps p.tables e below (T399.setTop (mkF m 131 _ [(.int (4 : Int32)), (.int (0 : Int32))])) t
        refine XS.icmpYes P400.here P400.x rfl (pc0 := 131) (pc' := 149) rfl (hb hby at_131) rfl (iiW_lt_t (by decide)) (by decide) (by decide) ?_
        show Steps p.tables e below (T399.setTop (mkF m 149 _ [])) t
        refine XS.iload P400.here P400.x rfl (hb hby at_149) rfl ?_
        show Steps p.tables e below (T399.setTop (mkF m 151 _ [(.int (0 : Int32))])) t
        refine XS.iloadN P400.here P400.x rfl (hb hby at_151) rfl ?_
        exact kk
      refine wCallS P400 (m_minf l Z a0 hw (0 : Int32) (2 : Int32) h397 (by decide)) (tw28 hw) (tw12 hw) (tw13 hw) (tw14 hw) (by decide) (by rw [hml]; rfl) (lenOf pd_1 rfl) (argsL := [(.int (0 : Int32)), (.int (2 : Int32))]) (rest := []) rfl rfl (W := 0) (Nat.le_of_eq rfl) (by decide) (by decide) (by decide) (by decide) (by simp) (hb hby at_152) rfl (k' := 3) (n' := 36) rfl rfl ?_
      rintro T402 _ _ P403 - ⟨rfl, rfl⟩
      show Done _ _ _ _ _ _ _ _ _ _ _ _ _ _ _ T402 (mkF m 155 _ [(.int (0 : Int32))])
      refine Done.step (T' := T402) (g' := (mkF m 159 #[.val (.int p0), .val (.int p1), .val (.int p2), .val (.int (2 : Int32)), .val (.int (0 : Int32)), .val (.ref b372), .val (.int (1 : Int32)), .val (.int (0 : Int32)), .unset, .unset] [(.ref b372)])) (fun t kk => ?_) ?_
      · show Steps p.tables e below (T402.setTop (mkF m 155 _ [(.int (0 : Int32))])) t
        refine XS.istore P403.here P403.x rfl (hb hby at_155) rfl (l' := #[.val (.int p0), .val (.int p1), .val (.int p2), .val (.int (2 : Int32)), .val (.int (0 : Int32)), .val (.ref b372), .val (.int (1 : Int32)), .val (.int (0 : Int32)), .unset, .unset]) rfl ?_
        show Steps p.tables e below (T402.setTop (mkF m 157 _ [])) t
        refine XS.aload P403.here P403.x rfl (hb hby at_157) rfl rfl ?_
        exact kk
      refine wCallV P403 (m_size l Z a0 hw b372 (0 : Int32) h397 F391) (tw29 hw) (tw30 hw) (tw32 hw) (tw32 hw) (tw31 hw) (tw2 hw) (tw33 hw) (by decide) f401 (by rw [hml]; rfl) (lenOf pd_4 rfl) (argsL := []) (rest := []) rfl rfl (W := 0) (Nat.le_of_eq rfl) (by decide) (by decide) (by decide) (by decide) (by simp) (hb hby at_159) rfl (k' := 3) (n' := 36) rfl rfl ?_
      rintro T404 _ _ P405 - ⟨rfl, rfl⟩
      show Done _ _ _ _ _ _ _ _ _ _ _ _ _ _ _ T404 (mkF m 162 _ [(.int (0 : Int32))])
      refine Done.step (T' := T404) (g' := (mkF m 176 #[.val (.int p0), .val (.int p1), .val (.int p2), .val (.int (2 : Int32)), .val (.int (0 : Int32)), .val (.ref b372), .val (.int (1 : Int32)), .val (.int (0 : Int32)), .val (.int (1 : Int32)), .unset] [(.ref b372)])) (fun t kk => ?_) ?_
      · show Steps p.tables e below (T404.setTop (mkF m 162 _ [(.int (0 : Int32))])) t
        refine XS.iload P405.here P405.x rfl (hb hby at_162) rfl ?_
        show Steps p.tables e below (T404.setTop (mkF m 164 _ [(.int (0 : Int32)), (.int (0 : Int32))])) t
        refine XS.icmpNo P405.here P405.x rfl (hb hby at_164) rfl (iiW_ne_f (by decide)) ?_
        show Steps p.tables e below (T404.setTop (mkF m 167 _ [])) t
        refine XS.iconst P405.here P405.x rfl (hb hby at_167) ?_
        show Steps p.tables e below (T404.setTop (mkF m 168 _ [(.int (1 : Int32))])) t
        refine XS.goto P405.here P405.x rfl (pc0 := 168) (pc' := 172) rfl (hb hby at_168) (by decide) (by decide) ?_
        show Steps p.tables e below (T404.setTop (mkF m 172 _ [(.int (1 : Int32))])) t
        refine XS.istore P405.here P405.x rfl (hb hby at_172) rfl (l' := #[.val (.int p0), .val (.int p1), .val (.int p2), .val (.int (2 : Int32)), .val (.int (0 : Int32)), .val (.ref b372), .val (.int (1 : Int32)), .val (.int (0 : Int32)), .val (.int (1 : Int32)), .unset]) rfl ?_
        show Steps p.tables e below (T404.setTop (mkF m 174 _ [])) t
        refine XS.aload P405.here P405.x rfl (hb hby at_174) rfl rfl ?_
        exact kk
      refine wCallV P405 (m_isFullf l Z a0 hw b372 (0 : Int32) (2 : Int32) h397 F391 F394 (by decide)) (tw21 hw) (tw22 hw) (tw24 hw) (tw24 hw) (tw23 hw) (tw2 hw) (tw25 hw) (by decide) f401 (by rw [hml]; rfl) (lenOf pd_3 rfl) (argsL := []) (rest := []) rfl rfl (W := 0) (Nat.le_of_eq rfl) (by decide) (by decide) (by decide) (by decide) (by simp) (hb hby at_176) rfl (k' := 3) (n' := 36) rfl rfl ?_
      rintro T406 _ _ P407 - ⟨rfl, rfl⟩
      show Done _ _ _ _ _ _ _ _ _ _ _ _ _ _ _ T406 (mkF m 179 _ [(.int (0 : Int32))])
      refine Done.step (T' := T406) (g' := (mkF m 220 #[.val (.int p0), .val (.int p1), .val (.int p2), .val (.int (2 : Int32)), .val (.int (0 : Int32)), .val (.ref b372), .val (.int (1 : Int32)), .val (.int (0 : Int32)), .val (.int (1 : Int32)), .val (.int (1 : Int32))] [(.int (1 : Int32))])) (fun t kk => ?_) ?_
      · show Steps p.tables e below (T406.setTop (mkF m 179 _ [(.int (0 : Int32))])) t
        refine XS.iload P407.here P407.x rfl (hb hby at_179) rfl ?_
        show Steps p.tables e below (T406.setTop (mkF m 181 _ [(.int (0 : Int32)), (.int (0 : Int32))])) t
        refine XS.iloadN P407.here P407.x rfl (hb hby at_181) rfl ?_
        show Steps p.tables e below (T406.setTop (mkF m 182 _ [(.int (2 : Int32)), (.int (0 : Int32)), (.int (0 : Int32))])) t
        refine XS.icmpYes P407.here P407.x rfl (pc0 := 182) (pc' := 189) rfl (hb hby at_182) rfl (iiW_ne_t (by decide)) (by decide) (by decide) ?_
        show Steps p.tables e below (T406.setTop (mkF m 189 _ [(.int (0 : Int32))])) t
        refine XS.iconst P407.here P407.x rfl (hb hby at_189) ?_
        show Steps p.tables e below (T406.setTop (mkF m 190 _ [(.int (0 : Int32)), (.int (0 : Int32))])) t
        refine XS.icmpNo P407.here P407.x rfl (hb hby at_190) rfl (iiW_ne_f (by decide)) ?_
        show Steps p.tables e below (T406.setTop (mkF m 193 _ [])) t
        refine XS.iconst P407.here P407.x rfl (hb hby at_193) ?_
        show Steps p.tables e below (T406.setTop (mkF m 194 _ [(.int (1 : Int32))])) t
        refine XS.goto P407.here P407.x rfl (pc0 := 194) (pc' := 198) rfl (hb hby at_194) (by decide) (by decide) ?_
        show Steps p.tables e below (T406.setTop (mkF m 198 _ [(.int (1 : Int32))])) t
        refine XS.istore P407.here P407.x rfl (hb hby at_198) rfl (l' := #[.val (.int p0), .val (.int p1), .val (.int p2), .val (.int (2 : Int32)), .val (.int (0 : Int32)), .val (.ref b372), .val (.int (1 : Int32)), .val (.int (0 : Int32)), .val (.int (1 : Int32)), .val (.int (1 : Int32))]) rfl ?_
        show Steps p.tables e below (T406.setTop (mkF m 200 _ [])) t
        refine XS.iload P407.here P407.x rfl (hb hby at_200) rfl ?_
        show Steps p.tables e below (T406.setTop (mkF m 202 _ [(.int (1 : Int32))])) t
        refine XS.ifNo P407.here P407.x rfl (hb hby at_202) rfl (i0W_eq_f (by decide)) ?_
        show Steps p.tables e below (T406.setTop (mkF m 205 _ [])) t
        refine XS.iload P407.here P407.x rfl (hb hby at_205) rfl ?_
        show Steps p.tables e below (T406.setTop (mkF m 207 _ [(.int (1 : Int32))])) t
        refine XS.ifNo P407.here P407.x rfl (hb hby at_207) rfl (i0W_eq_f (by decide)) ?_
        show Steps p.tables e below (T406.setTop (mkF m 210 _ [])) t
        refine XS.iload P407.here P407.x rfl (hb hby at_210) rfl ?_
        show Steps p.tables e below (T406.setTop (mkF m 212 _ [(.int (1 : Int32))])) t
        refine XS.ifNo P407.here P407.x rfl (hb hby at_212) rfl (i0W_eq_f (by decide)) ?_
        show Steps p.tables e below (T406.setTop (mkF m 215 _ [])) t
        refine XS.iconst P407.here P407.x rfl (hb hby at_215) ?_
        show Steps p.tables e below (T406.setTop (mkF m 216 _ [(.int (1 : Int32))])) t
        refine XS.goto P407.here P407.x rfl (pc0 := 216) (pc' := 220) rfl (hb hby at_216) (by decide) (by decide) ?_
        exact kk
      exact wRet P407 (t := .boolean) hret (narrow_01 (Or.inr rfl)) (Or.inl ⟨rfl, Or.inr (Or.inl rfl), _, rfl⟩) (hb hby at_220) rfl
    · show Done _ _ _ _ _ _ _ _ _ _ _ _ _ _ _ T0 (mkF m 34 _ [])
      refine wNew P0 (tw0 hw) (tw1 hw) (tw2 hw) (hb hby at_34) rfl (by decide) (by decide) (k' := 1) (n' := 4) rfl rfl (fun T408 h410 b411 g412 lt413 P409 E414 X415 D416 => ?_)
      have ge_b411 : h0.size ≤ b411 := by have := P0.ge; omega
      have F417 : Fld Z h410 b411 "com/example/urnwise/urnwise/sampler/SmallestKeys" "capacity" "I" (.int (0 : Int32)) := D416 (Or.inr (tw10 hw)) (ty := .int) (by decide)
      have F418 : Fld Z h410 b411 "com/example/urnwise/urnwise/sampler/SmallestKeys" "keys" "[D" .null := D416 (Or.inl (tw17 hw)) (ty := (.array .double)) (by decide)
      have F419 : Fld Z h410 b411 "com/example/urnwise/urnwise/sampler/SmallestKeys" "indices" "[I" .null := D416 (Or.inl (tw20 hw)) (ty := (.array .int)) (by decide)
      have F420 : Fld Z h410 b411 "com/example/urnwise/urnwise/sampler/SmallestKeys" "size" "I" (.int (0 : Int32)) := D416 (Or.inl (tw27 hw)) (ty := .int) (by decide)
      show Done _ _ _ _ _ _ _ _ _ _ _ _ _ _ _ T408 (mkF m 37 _ [(.ref b411)])
      refine Done.stepL (pc' := 39) (st' := [(.int (2 : Int32)), (.ref b411), (.ref b411)]) (fun t kk => ?_) ?_
      · show Steps p.tables e below (T408.setTop (mkF m 37 _ [(.ref b411)])) t
        refine XS.dup P409.here P409.x rfl (hb hby at_37) rfl rfl ?_
        show Steps p.tables e below (T408.setTop (mkF m 38 _ [(.ref b411), (.ref b411)])) t
        refine XS.iloadN P409.here P409.x rfl (hb hby at_38) rfl ?_
        exact kk
      refine wCallI P409 (m_hpInit l Z a0 hw b411 (2 : Int32) 2 h410 X415 F417 F418 F419 (by decide) (by decide) F420) rfl (tw3 hw) (tw4 hw) (tw2 hw) (tw5 hw) (by decide) (a := b411) (by rw [hml]; rfl) (lenOf pd_2 rfl) (argsL := [(.int (2 : Int32))]) (rest := [(.ref b411)]) rfl rfl (W := 1) (Nat.le_of_eq rfl) (by decide) (by decide) (by decide) (by decide) (allS (Or.inr ge_b411) all0) (hb hby at_39) rfl (k' := 3) (n' := 36) rfl rfl ?_
      rintro T421 h436 _ P422 K437 ⟨rfl, b423, b424, q425, q426, q427, q428, q429, F430, F431, F432, F433, A434, A435⟩
      have szh436 : h410.size ≤ h436.size := K437.1
      have ge_b423 : h0.size ≤ b423 := by have := q425; have := P409.ge; omega
      have ge_b424 : h0.size ≤ b424 := by have := q426; have := P409.ge; omega
      have dK0 : ∀ i, i < 2 → DInt ((fun _ => (0 : Int)) i) ((fun _ => (0 : UInt64)) i) := fun i _ => dint_c0
      show Done _ _ _ _ _ _ _ _ _ _ _ _ _ _ _ T421 (mkF m 42 _ [(.ref b411)])
      refine Done.step (T' := T421) (g' := (mkF m 46 #[.val (.int p0), .val (.int p1), .val (.int p2), .val (.int (2 : Int32)), .val (.int (1 : Int32)), .val (.ref b411), .unset, .unset, .unset, .unset] [(.ref b411)])) (fun t kk => ?_) ?_
      · show Steps p.tables e below (T421.setTop (mkF m 42 _ [(.ref b411)])) t
        refine XS.astore P422.here P422.x rfl (hb hby at_42) rfl rfl (l' := #[.val (.int p0), .val (.int p1), .val (.int p2), .val (.int (2 : Int32)), .val (.int (1 : Int32)), .val (.ref b411), .unset, .unset, .unset, .unset]) rfl ?_
        show Steps p.tables e below (T421.setTop (mkF m 44 _ [])) t
        refine XS.aload P422.here P422.x rfl (hb hby at_44) rfl rfl ?_
        exact kk
      have f440 := (X415.keep K437)
      refine wCallV P422 (m_isFullf l Z a0 hw b411 (0 : Int32) (2 : Int32) h436 F430 F433 (by decide)) (tw21 hw) (tw22 hw) (tw24 hw) (tw24 hw) (tw23 hw) (tw2 hw) (tw25 hw) (by decide) f440 (by rw [hml]; rfl) (lenOf pd_3 rfl) (argsL := []) (rest := []) rfl rfl (W := 0) (Nat.le_of_eq rfl) (by decide) (by decide) (by decide) (by decide) (by simp) (hb hby at_46) rfl (k' := 3) (n' := 36) rfl rfl ?_
      rintro T438 _ _ P439 - ⟨rfl, rfl⟩
      show Done _ _ _ _ _ _ _ _ _ _ _ _ _ _ _ T438 (mkF m 49 _ [(.int (0 : Int32))])
      refine Done.step (T' := T438) (g' := (mkF m 83 #[.val (.int p0), .val (.int p1), .val (.int p2), .val (.int (2 : Int32)), .val (.int (1 : Int32)), .val (.ref b411), .val (.int (1 : Int32)), .unset, .unset, .unset] [(.int (0 : Int32)), (.double (FP.i2d (p2 &&& (255 : Int32)))), (.ref b411)])) (fun t kk => ?_) ?_
      · show Steps p.tables e below (T438.setTop (mkF m 49 _ [(.int (0 : Int32))])) t
        refine XS.iloadN P439.here P439.x rfl (hb hby at_49) rfl ?_
        show Steps p.tables e below (T438.setTop (mkF m 50 _ [(.int (2 : Int32)), (.int (0 : Int32))])) t
        refine XS.ifYes P439.here P439.x rfl (pc0 := 50) (pc' := 57) rfl (hb hby at_50) rfl (i0W_ne_t (by decide)) (by decide) (by decide) ?_
        show Steps p.tables e below (T438.setTop (mkF m 57 _ [(.int (0 : Int32))])) t
        refine XS.iconst P439.here P439.x rfl (hb hby at_57) ?_
        show Steps p.tables e below (T438.setTop (mkF m 58 _ [(.int (0 : Int32)), (.int (0 : Int32))])) t
        refine XS.icmpNo P439.here P439.x rfl (hb hby at_58) rfl (iiW_ne_f (by decide)) ?_
        show Steps p.tables e below (T438.setTop (mkF m 61 _ [])) t
        refine XS.iconst P439.here P439.x rfl (hb hby at_61) ?_
        show Steps p.tables e below (T438.setTop (mkF m 62 _ [(.int (1 : Int32))])) t
        refine XS.goto P439.here P439.x rfl (pc0 := 62) (pc' := 66) rfl (hb hby at_62) (by decide) (by decide) ?_
        show Steps p.tables e below (T438.setTop (mkF m 66 _ [(.int (1 : Int32))])) t
        refine XS.istore P439.here P439.x rfl (hb hby at_66) rfl (l' := #[.val (.int p0), .val (.int p1), .val (.int p2), .val (.int (2 : Int32)), .val (.int (1 : Int32)), .val (.ref b411), .val (.int (1 : Int32)), .unset, .unset, .unset]) rfl ?_
        show Steps p.tables e below (T438.setTop (mkF m 68 _ [])) t
        refine XS.iload P439.here P439.x rfl (hb hby at_68) rfl ?_
        show Steps p.tables e below (T438.setTop (mkF m 70 _ [(.int (1 : Int32))])) t
        refine XS.iconst P439.here P439.x rfl (hb hby at_70) ?_
        show Steps p.tables e below (T438.setTop (mkF m 71 _ [(.int (1 : Int32)), (.int (1 : Int32))])) t
        refine XS.icmpNo P439.here P439.x rfl (hb hby at_71) rfl (iiW_lt_f (by decide)) ?_
        show Steps p.tables e below (T438.setTop (mkF m 74 _ [])) t
        refine XS.aload P439.here P439.x rfl (hb hby at_74) rfl rfl ?_
        show Steps p.tables e below (T438.setTop (mkF m 76 _ [(.ref b411)])) t
        refine XS.iloadN P439.here P439.x rfl (hb hby at_76) rfl ?_
        show Steps p.tables e below (T438.setTop (mkF m 77 _ [(.int p2), (.ref b411)])) t
        refine XS.sipush P439.here P439.x rfl (hb hby at_77) ?_
        show Steps p.tables e below (T438.setTop (mkF m 80 _ [(.int (255 : Int32)), (.int p2), (.ref b411)])) t
        refine XS.iand P439.here P439.x rfl (hb hby at_80) rfl ?_
        show Steps p.tables e below (T438.setTop (mkF m 81 _ [(.int (p2 &&& (255 : Int32))), (.ref b411)])) t
        refine XS.i2dS P439.here P439.x rfl (hb hby at_81) rfl rfl ?_
        show Steps p.tables e below (T438.setTop (mkF m 82 _ [(.double (FP.i2d (p2 &&& (255 : Int32)))), (.ref b411)])) t
        refine XS.iconst P439.here P439.x rfl (hb hby at_82) ?_
        exact kk
      refine wCallV P439 (m_offA l Z a0 hw b411 b423 b424 (0 : Int32) 2 0 (fun _ => (0 : UInt64)) (fun _ => (0 : Int)) (fun _ => (0 : Int32)) (2 : Int32) (FP.i2d (p2 &&& (255 : Int32))) (0 : Int32) (p2 &&& (255 : Int32)).toInt (1 : Int32) h436 f440 F431 F432 F430 F433 A434 A435 (by first | assumption | exact Ne.symm (by assumption) | exact adr_ne (by omega)) (by first | assumption | exact Ne.symm (by assumption) | exact adr_ne (by omega)) q427 (by decide) rfl dK0 (i2d_int (p2 &&& (255 : Int32))) (by decide) (by omega) (by decide)) (tw35 hw) (tw36 hw) (tw38 hw) (tw38 hw) (tw37 hw) (tw2 hw) (tw39 hw) (by decide) f440 (by rw [hml]; rfl) (lenOf pd_5 rfl) (argsL := [(.double (FP.i2d (p2 &&& (255 : Int32)))), (.int (0 : Int32))]) (rest := []) rfl rfl (W := 0) (Nat.le_of_eq rfl) (by decide) (by decide) (by decide) (by decide) (allS (Or.inr ge_b411) (allS (Or.inr ge_b423) (allS (Or.inr ge_b424) all0))) (hb hby at_83) rfl (k' := 3) (n' := 36) rfl rfl ?_
      rintro T441 h451 _ P442 K452 ⟨rfl, kf450, F443, F444, F445, F446, A447, dK449, A448⟩
      have szh451 : h436.size ≤ h451.size := K452.1
      generalize gK1 : (own_of 0 true (fun _ => (0 : Int)) (fun _ => (0 : Int32)) (p2 &&& (255 : Int32)).toInt (0 : Int32)).1 = K1 at dK449
      generalize gJ1 : (own_of 0 true (fun _ => (0 : Int)) (fun _ => (0 : Int32)) (p2 &&& (255 : Int32)).toInt (0 : Int32)).2 = J1 at A448
      show Done _ _ _ _ _ _ _ _ _ _ _ _ _ _ _ T441 (mkF m 86 _ [])
      refine Done.stepL (pc' := 152) (st' := [(.int (2 : Int32)), (.int (1 : Int32))]) (fun t kk => ?_) ?_
      · show Steps p.tables e below (T441.setTop (mkF m 86 _ [])) t
        refine XS.iload P442.here P442.x rfl (hb hby at_86) rfl ?_
        show Steps p.tables e below (T441.setTop (mkF m 88 _ [(.int (1 : Int32))])) t
        refine XS.iconst P442.here P442.x rfl (hb hby at_88) ?_
        show Steps p.tables e below (T441.setTop (mkF m 89 _ [(.int (2 : Int32)), (.int (1 : Int32))])) t
        refine XS.icmpYes P442.here P442.x rfl (pc0 := 89) (pc' := 107) rfl (hb hby at_89) rfl (iiW_lt_t (by decide)) (by decide) (by decide) ?_
        show Steps p.tables e below (T441.setTop (mkF m 107 _ [])) t
        refine XS.iload P442.here P442.x rfl (hb hby at_107) rfl ?_
        show Steps p.tables e below (T441.setTop (mkF m 109 _ [(.int (1 : Int32))])) t
        refine XS.iconst P442.here P442.x rfl (hb hby at_109) ?_
        show Steps p.tables e below (T441.setTop (mkF m 110 _ [(.int (3 : Int32)), (.int (1 : Int32))])) t
        refine XS.icmpYes P442.here P442.x rfl (pc0 := 110) (pc' := 128) rfl (hb hby at_110) rfl (iiW_lt_t (by decide)) (by decide) (by decide) ?_
        show Steps p.tables e below (T441.setTop (mkF m 128 _ [])) t
        refine XS.iload P442.here P442.x rfl (hb hby at_128) rfl ?_
        show Steps p.tables e below (T441.setTop (mkF m 130 _ [(.int (1 : Int32))])) t
        refine XS.iconst P442.here P442.x rfl (hb hby at_130) ?_
        show Steps p.tables e below (T441.setTop (mkF m 131 _ [(.int (4 : Int32)), (.int (1 : Int32))])) t
        refine XS.icmpYes P442.here P442.x rfl (pc0 := 131) (pc' := 149) rfl (hb hby at_131) rfl (iiW_lt_t (by decide)) (by decide) (by decide) ?_
        show Steps p.tables e below (T441.setTop (mkF m 149 _ [])) t
        refine XS.iload P442.here P442.x rfl (hb hby at_149) rfl ?_
        show Steps p.tables e below (T441.setTop (mkF m 151 _ [(.int (1 : Int32))])) t
        refine XS.iloadN P442.here P442.x rfl (hb hby at_151) rfl ?_
        exact kk
      refine wCallS P442 (m_minf l Z a0 hw (1 : Int32) (2 : Int32) h451 (by decide)) (tw28 hw) (tw12 hw) (tw13 hw) (tw14 hw) (by decide) (by rw [hml]; rfl) (lenOf pd_1 rfl) (argsL := [(.int (1 : Int32)), (.int (2 : Int32))]) (rest := []) rfl rfl (W := 0) (Nat.le_of_eq rfl) (by decide) (by decide) (by decide) (by decide) (by simp) (hb hby at_152) rfl (k' := 3) (n' := 36) rfl rfl ?_
      rintro T453 _ _ P454 - ⟨rfl, rfl⟩
      show Done _ _ _ _ _ _ _ _ _ _ _ _ _ _ _ T453 (mkF m 155 _ [(.int (1 : Int32))])
      refine Done.step (T' := T453) (g' := (mkF m 159 #[.val (.int p0), .val (.int p1), .val (.int p2), .val (.int (2 : Int32)), .val (.int (1 : Int32)), .val (.ref b411), .val (.int (1 : Int32)), .val (.int (1 : Int32)), .unset, .unset] [(.ref b411)])) (fun t kk => ?_) ?_
      · show Steps p.tables e below (T453.setTop (mkF m 155 _ [(.int (1 : Int32))])) t
        refine XS.istore P454.here P454.x rfl (hb hby at_155) rfl (l' := #[.val (.int p0), .val (.int p1), .val (.int p2), .val (.int (2 : Int32)), .val (.int (1 : Int32)), .val (.ref b411), .val (.int (1 : Int32)), .val (.int (1 : Int32)), .unset, .unset]) rfl ?_
        show Steps p.tables e below (T453.setTop (mkF m 157 _ [])) t
        refine XS.aload P454.here P454.x rfl (hb hby at_157) rfl rfl ?_
        exact kk
      have f457 := (f440.keep K452)
      refine wCallV P454 (m_size l Z a0 hw b411 (1 : Int32) h451 F443) (tw29 hw) (tw30 hw) (tw32 hw) (tw32 hw) (tw31 hw) (tw2 hw) (tw33 hw) (by decide) f457 (by rw [hml]; rfl) (lenOf pd_4 rfl) (argsL := []) (rest := []) rfl rfl (W := 0) (Nat.le_of_eq rfl) (by decide) (by decide) (by decide) (by decide) (by simp) (hb hby at_159) rfl (k' := 3) (n' := 36) rfl rfl ?_
      rintro T455 _ _ P456 - ⟨rfl, rfl⟩
      show Done _ _ _ _ _ _ _ _ _ _ _ _ _ _ _ T455 (mkF m 162 _ [(.int (1 : Int32))])
      refine Done.step (T' := T455) (g' := (mkF m 176 #[.val (.int p0), .val (.int p1), .val (.int p2), .val (.int (2 : Int32)), .val (.int (1 : Int32)), .val (.ref b411), .val (.int (1 : Int32)), .val (.int (1 : Int32)), .val (.int (1 : Int32)), .unset] [(.ref b411)])) (fun t kk => ?_) ?_
      · show Steps p.tables e below (T455.setTop (mkF m 162 _ [(.int (1 : Int32))])) t
        refine XS.iload P456.here P456.x rfl (hb hby at_162) rfl ?_
        show Steps p.tables e below (T455.setTop (mkF m 164 _ [(.int (1 : Int32)), (.int (1 : Int32))])) t
        refine XS.icmpNo P456.here P456.x rfl (hb hby at_164) rfl (iiW_ne_f (by decide)) ?_
        show Steps p.tables e below (T455.setTop (mkF m 167 _ [])) t
        refine XS.iconst P456.here P456.x rfl (hb hby at_167) ?_
        show Steps p.tables e below (T455.setTop (mkF m 168 _ [(.int (1 : Int32))])) t
        refine XS.goto P456.here P456.x rfl (pc0 := 168) (pc' := 172) rfl (hb hby at_168) (by decide) (by decide) ?_
        show Steps p.tables e below (T455.setTop (mkF m 172 _ [(.int (1 : Int32))])) t
        refine XS.istore P456.here P456.x rfl (hb hby at_172) rfl (l' := #[.val (.int p0), .val (.int p1), .val (.int p2), .val (.int (2 : Int32)), .val (.int (1 : Int32)), .val (.ref b411), .val (.int (1 : Int32)), .val (.int (1 : Int32)), .val (.int (1 : Int32)), .unset]) rfl ?_
        show Steps p.tables e below (T455.setTop (mkF m 174 _ [])) t
        refine XS.aload P456.here P456.x rfl (hb hby at_174) rfl rfl ?_
        exact kk
      refine wCallV P456 (m_isFullf l Z a0 hw b411 (1 : Int32) (2 : Int32) h451 F443 F446 (by decide)) (tw21 hw) (tw22 hw) (tw24 hw) (tw24 hw) (tw23 hw) (tw2 hw) (tw25 hw) (by decide) f457 (by rw [hml]; rfl) (lenOf pd_3 rfl) (argsL := []) (rest := []) rfl rfl (W := 0) (Nat.le_of_eq rfl) (by decide) (by decide) (by decide) (by decide) (by simp) (hb hby at_176) rfl (k' := 3) (n' := 36) rfl rfl ?_
      rintro T458 _ _ P459 - ⟨rfl, rfl⟩
      show Done _ _ _ _ _ _ _ _ _ _ _ _ _ _ _ T458 (mkF m 179 _ [(.int (0 : Int32))])
      refine Done.step (T' := T458) (g' := (mkF m 220 #[.val (.int p0), .val (.int p1), .val (.int p2), .val (.int (2 : Int32)), .val (.int (1 : Int32)), .val (.ref b411), .val (.int (1 : Int32)), .val (.int (1 : Int32)), .val (.int (1 : Int32)), .val (.int (1 : Int32))] [(.int (1 : Int32))])) (fun t kk => ?_) ?_
      · show Steps p.tables e below (T458.setTop (mkF m 179 _ [(.int (0 : Int32))])) t
        refine XS.iload P459.here P459.x rfl (hb hby at_179) rfl ?_
        show Steps p.tables e below (T458.setTop (mkF m 181 _ [(.int (1 : Int32)), (.int (0 : Int32))])) t
        refine XS.iloadN P459.here P459.x rfl (hb hby at_181) rfl ?_
        show Steps p.tables e below (T458.setTop (mkF m 182 _ [(.int (2 : Int32)), (.int (1 : Int32)), (.int (0 : Int32))])) t
        refine XS.icmpYes P459.here P459.x rfl (pc0 := 182) (pc' := 189) rfl (hb hby at_182) rfl (iiW_ne_t (by decide)) (by decide) (by decide) ?_
        show Steps p.tables e below (T458.setTop (mkF m 189 _ [(.int (0 : Int32))])) t
        refine XS.iconst P459.here P459.x rfl (hb hby at_189) ?_
        show Steps p.tables e below (T458.setTop (mkF m 190 _ [(.int (0 : Int32)), (.int (0 : Int32))])) t
        refine XS.icmpNo P459.here P459.x rfl (hb hby at_190) rfl (iiW_ne_f (by decide)) ?_
        show Steps p.tables e below (T458.setTop (mkF m 193 _ [])) t
        refine XS.iconst P459.here P459.x rfl (hb hby at_193) ?_
        show Steps p.tables e below (T458.setTop (mkF m 194 _ [(.int (1 : Int32))])) t
        refine XS.goto P459.here P459.x rfl (pc0 := 194) (pc' := 198) rfl (hb hby at_194) (by decide) (by decide) ?_
        show Steps p.tables e below (T458.setTop (mkF m 198 _ [(.int (1 : Int32))])) t
        refine XS.istore P459.here P459.x rfl (hb hby at_198) rfl (l' := #[.val (.int p0), .val (.int p1), .val (.int p2), .val (.int (2 : Int32)), .val (.int (1 : Int32)), .val (.ref b411), .val (.int (1 : Int32)), .val (.int (1 : Int32)), .val (.int (1 : Int32)), .val (.int (1 : Int32))]) rfl ?_
        show Steps p.tables e below (T458.setTop (mkF m 200 _ [])) t
        refine XS.iload P459.here P459.x rfl (hb hby at_200) rfl ?_
        show Steps p.tables e below (T458.setTop (mkF m 202 _ [(.int (1 : Int32))])) t
        refine XS.ifNo P459.here P459.x rfl (hb hby at_202) rfl (i0W_eq_f (by decide)) ?_
        show Steps p.tables e below (T458.setTop (mkF m 205 _ [])) t
        refine XS.iload P459.here P459.x rfl (hb hby at_205) rfl ?_
        show Steps p.tables e below (T458.setTop (mkF m 207 _ [(.int (1 : Int32))])) t
        refine XS.ifNo P459.here P459.x rfl (hb hby at_207) rfl (i0W_eq_f (by decide)) ?_
        show Steps p.tables e below (T458.setTop (mkF m 210 _ [])) t
        refine XS.iload P459.here P459.x rfl (hb hby at_210) rfl ?_
        show Steps p.tables e below (T458.setTop (mkF m 212 _ [(.int (1 : Int32))])) t
        refine XS.ifNo P459.here P459.x rfl (hb hby at_212) rfl (i0W_eq_f (by decide)) ?_
        show Steps p.tables e below (T458.setTop (mkF m 215 _ [])) t
        refine XS.iconst P459.here P459.x rfl (hb hby at_215) ?_
        show Steps p.tables e below (T458.setTop (mkF m 216 _ [(.int (1 : Int32))])) t
        refine XS.goto P459.here P459.x rfl (pc0 := 216) (pc' := 220) rfl (hb hby at_216) (by decide) (by decide) ?_
        exact kk
      exact wRet P459 (t := .boolean) hret (narrow_01 (Or.inr rfl)) (Or.inl ⟨rfl, Or.inr (Or.inl rfl), _, rfl⟩) (hb hby at_220) rfl
    · show Done _ _ _ _ _ _ _ _ _ _ _ _ _ _ _ T0 (mkF m 34 _ [])
      refine wNew P0 (tw0 hw) (tw1 hw) (tw2 hw) (hb hby at_34) rfl (by decide) (by decide) (k' := 1) (n' := 4) rfl rfl (fun T460 h462 b463 g464 lt465 P461 E466 X467 D468 => ?_)
      have ge_b463 : h0.size ≤ b463 := by have := P0.ge; omega
      have F469 : Fld Z h462 b463 "com/example/urnwise/urnwise/sampler/SmallestKeys" "capacity" "I" (.int (0 : Int32)) := D468 (Or.inr (tw10 hw)) (ty := .int) (by decide)
      have F470 : Fld Z h462 b463 "com/example/urnwise/urnwise/sampler/SmallestKeys" "keys" "[D" .null := D468 (Or.inl (tw17 hw)) (ty := (.array .double)) (by decide)
      have F471 : Fld Z h462 b463 "com/example/urnwise/urnwise/sampler/SmallestKeys" "indices" "[I" .null := D468 (Or.inl (tw20 hw)) (ty := (.array .int)) (by decide)
      have F472 : Fld Z h462 b463 "com/example/urnwise/urnwise/sampler/SmallestKeys" "size" "I" (.int (0 : Int32)) := D468 (Or.inl (tw27 hw)) (ty := .int) (by decide)
      show Done _ _ _ _ _ _ _ _ _ _ _ _ _ _ _ T460 (mkF m 37 _ [(.ref b463)])
      refine Done.stepL (pc' := 39) (st' := [(.int (2 : Int32)), (.ref b463), (.ref b463)]) (fun t kk => ?_) ?_
      · show Steps p.tables e below (T460.setTop (mkF m 37 _ [(.ref b463)])) t
        refine XS.dup P461.here P461.x rfl (hb hby at_37) rfl rfl ?_
        show Steps p.tables e below (T460.setTop (mkF m 38 _ [(.ref b463), (.ref b463)])) t
        refine XS.iloadN P461.here P461.x rfl (hb hby at_38) rfl ?_
        exact kk
      refine wCallI P461 (m_hpInit l Z a0 hw b463 (2 : Int32) 2 h462 X467 F469 F470 F471 (by decide) (by decide) F472) rfl (tw3 hw) (tw4 hw) (tw2 hw) (tw5 hw) (by decide) (a := b463) (by rw [hml]; rfl) (lenOf pd_2 rfl) (argsL := [(.int (2 : Int32))]) (rest := [(.ref b463)]) rfl rfl (W := 1) (Nat.le_of_eq rfl) (by decide) (by decide) (by decide) (by decide) (allS (Or.inr ge_b463) all0) (hb hby at_39) rfl (k' := 3) (n' := 36) rfl rfl ?_
      rintro T473 h488 _ P474 K489 ⟨rfl, b475, b476, q477, q478, q479, q480, q481, F482, F483, F484, F485, A486, A487⟩
      have szh488 : h462.size ≤ h488.size := K489.1
      have ge_b475 : h0.size ≤ b475 := by have := q477; have := P461.ge; omega
      have ge_b476 : h0.size ≤ b476 := by have := q478; have := P461.ge; omega
      have dK0 : ∀ i, i < 2 → DInt ((fun _ => (0 : Int)) i) ((fun _ => (0 : UInt64)) i) := fun i _ => dint_c0
      show Done _ _ _ _ _ _ _ _ _ _ _ _ _ _ _ T473 (mkF m 42 _ [(.ref b463)])
      refine Done.step (T' := T473) (g' := (mkF m 46 #[.val (.int p0), .val (.int p1), .val (.int p2), .val (.int (2 : Int32)), .val (.int (2 : Int32)), .val (.ref b463), .unset, .unset, .unset, .unset] [(.ref b463)])) (fun t kk => ?_) ?_
      · show Steps p.tables e below (T473.setTop (mkF m 42 _ [(.ref b463)])) t
        refine XS.astore P474.here P474.x rfl (hb hby at_42) rfl rfl (l' := #[.val (.int p0), .val (.int p1), .val (.int p2), .val (.int (2 : Int32)), .val (.int (2 : Int32)), .val (.ref b463), .unset, .unset, .unset, .unset]) rfl ?_
        show Steps p.tables e below (T473.setTop (mkF m 44 _ [])) t
        refine XS.aload P474.here P474.x rfl (hb hby at_44) rfl rfl ?_
        exact kk
      have f492 := (X467.keep K489)
      refine wCallV P474 (m_isFullf l Z a0 hw b463 (0 : Int32) (2 : Int32) h488 F482 F485 (by decide)) (tw21 hw) (tw22 hw) (tw24 hw) (tw24 hw) (tw23 hw) (tw2 hw) (tw25 hw) (by decide) f492 (by rw [hml]; rfl) (lenOf pd_3 rfl) (argsL := []) (rest := []) rfl rfl (W := 0) (Nat.le_of_eq rfl) (by decide) (by decide) (by decide) (by decide) (by simp) (hb hby at_46) rfl (k' := 3) (n' := 36) rfl rfl ?_
      rintro T490 _ _ P491 - ⟨rfl, rfl⟩
      show Done _ _ _ _ _ _ _ _ _ _ _ _ _ _ _ T490 (mkF m 49 _ [(.int (0 : Int32))])
      refine Done.step (T' := T490) (g' := (mkF m 83 #[.val (.int p0), .val (.int p1), .val (.int p2), .val (.int (2 : Int32)), .val (.int (2 : Int32)), .val (.ref b463), .val (.int (1 : Int32)), .unset, .unset, .unset] [(.int (0 : Int32)), (.double (FP.i2d (p2 &&& (255 : Int32)))), (.ref b463)])) (fun t kk => ?_) ?_
      · show Steps p.tables e below (T490.setTop (mkF m 49 _ [(.int (0 : Int32))])) t
        refine XS.iloadN P491.here P491.x rfl (hb hby at_49) rfl ?_
        show Steps p.tables e below (T490.setTop (mkF m 50 _ [(.int (2 : Int32)), (.int (0 : Int32))])) t
        refine XS.ifYes P491.here P491.x rfl (pc0 := 50) (pc' := 57) rfl (hb hby at_50) rfl (i0W_ne_t (by decide)) (by decide) (by decide) ?_
        show Steps p.tables e below (T490.setTop (mkF m 57 _ [(.int (0 : Int32))])) t
        refine XS.iconst P491.here P491.x rfl (hb hby at_57) ?_
        show Steps p.tables e below (T490.setTop (mkF m 58 _ [(.int (0 : Int32)), (.int (0 : Int32))])) t
        refine XS.icmpNo P491.here P491.x rfl (hb hby at_58) rfl (iiW_ne_f (by decide)) ?_
        show Steps p.tables e below (T490.setTop (mkF m 61 _ [])) t
        refine XS.iconst P491.here P491.x rfl (hb hby at_61) ?_
        show Steps p.tables e below (T490.setTop (mkF m 62 _ [(.int (1 : Int32))])) t
        refine XS.goto P491.here P491.x rfl (pc0 := 62) (pc' := 66) rfl (hb hby at_62) (by decide) (by decide) ?_
        show Steps p.tables e below (T490.setTop (mkF m 66 _ [(.int (1 : Int32))])) t
        refine XS.istore P491.here P491.x rfl (hb hby at_66) rfl (l' := #[.val (.int p0), .val (.int p1), .val (.int p2), .val (.int (2 : Int32)), .val (.int (2 : Int32)), .val (.ref b463), .val (.int (1 : Int32)), .unset, .unset, .unset]) rfl ?_
        show Steps p.tables e below (T490.setTop (mkF m 68 _ [])) t
        refine XS.iload P491.here P491.x rfl (hb hby at_68) rfl ?_
        show Steps p.tables e below (T490.setTop (mkF m 70 _ [(.int (2 : Int32))])) t
        refine XS.iconst P491.here P491.x rfl (hb hby at_70) ?_
        show Steps p.tables e below (T490.setTop (mkF m 71 _ [(.int (1 : Int32)), (.int (2 : Int32))])) t
        refine XS.icmpNo P491.here P491.x rfl (hb hby at_71) rfl (iiW_lt_f (by decide)) ?_
        show Steps p.tables e below (T490.setTop (mkF m 74 _ [])) t
        refine XS.aload P491.here P491.x rfl (hb hby at_74) rfl rfl ?_
        show Steps p.tables e below (T490.setTop (mkF m 76 _ [(.ref b463)])) t
        refine XS.iloadN P491.here P491.x rfl (hb hby at_76) rfl ?_
        show Steps p.tables e below (T490.setTop (mkF m 77 _ [(.int p2), (.ref b463)])) t
        refine XS.sipush P491.here P491.x rfl (hb hby at_77) ?_
        show Steps p.tables e below (T490.setTop (mkF m 80 _ [(.int (255 : Int32)), (.int p2), (.ref b463)])) t
        refine XS.iand P491.here P491.x rfl (hb hby at_80) rfl ?_
        show Steps p.tables e below (T490.setTop (mkF m 81 _ [(.int (p2 &&& (255 : Int32))), (.ref b463)])) t
        refine XS.i2dS P491.here P491.x rfl (hb hby at_81) rfl rfl ?_
        show Steps p.tables e below (T490.setTop (mkF m 82 _ [(.double (FP.i2d (p2 &&& (255 : Int32)))), (.ref b463)])) t
        refine XS.iconst P491.here P491.x rfl (hb hby at_82) ?_
        exact kk
      refine wCallV P491 (m_offA l Z a0 hw b463 b475 b476 (0 : Int32) 2 0 (fun _ => (0 : UInt64)) (fun _ => (0 : Int)) (fun _ => (0 : Int32)) (2 : Int32) (FP.i2d (p2 &&& (255 : Int32))) (0 : Int32) (p2 &&& (255 : Int32)).toInt (1 : Int32) h488 f492 F483 F484 F482 F485 A486 A487 (by first | assumption | exact Ne.symm (by assumption) | exact adr_ne (by omega)) (by first | assumption | exact Ne.symm (by assumption) | exact adr_ne (by omega)) q479 (by decide) rfl dK0 (i2d_int (p2 &&& (255 : Int32))) (by decide) (by omega) (by decide)) (tw35 hw) (tw36 hw) (tw38 hw) (tw38 hw) (tw37 hw) (tw2 hw) (tw39 hw) (by decide) f492 (by rw [hml]; rfl) (lenOf pd_5 rfl) (argsL := [(.double (FP.i2d (p2 &&& (255 : Int32)))), (.int (0 : Int32))]) (rest := []) rfl rfl (W := 0) (Nat.le_of_eq rfl) (by decide) (by decide) (by decide) (by decide) (allS (Or.inr ge_b463) (allS (Or.inr ge_b475) (allS (Or.inr ge_b476) all0))) (hb hby at_83) rfl (k' := 3) (n' := 36) rfl rfl ?_
      rintro T493 h503 _ P494 K504 ⟨rfl, kf502, F495, F496, F497, F498, A499, dK501, A500⟩
      have szh503 : h488.size ≤ h503.size := K504.1
      generalize gK1 : (own_of 0 true (fun _ => (0 : Int)) (fun _ => (0 : Int32)) (p2 &&& (255 : Int32)).toInt (0 : Int32)).1 = K1 at dK501
      generalize gJ1 : (own_of 0 true (fun _ => (0 : Int)) (fun _ => (0 : Int32)) (p2 &&& (255 : Int32)).toInt (0 : Int32)).2 = J1 at A500
      show Done _ _ _ _ _ _ _ _ _ _ _ _ _ _ _ T493 (mkF m 86 _ [])
      refine Done.stepL (pc' := 104) (st' := [(.int (1 : Int32)), (.double (FP.i2d (((p2.toUInt32 >>> ((8 : Int32) &&& 31).toUInt32).toInt32) &&& (255 : Int32)))), (.ref b463)]) (fun t kk => ?_) ?_
      · show Steps p.tables e below (T493.setTop (mkF m 86 _ [])) t
        refine XS.iload P494.here P494.x rfl (hb hby at_86) rfl ?_
        show Steps p.tables e below (T493.setTop (mkF m 88 _ [(.int (2 : Int32))])) t
        refine XS.iconst P494.here P494.x rfl (hb hby at_88) ?_
        show Steps p.tables e below (T493.setTop (mkF m 89 _ [(.int (2 : Int32)), (.int (2 : Int32))])) t
        refine XS.icmpNo P494.here P494.x rfl (hb hby at_89) rfl (iiW_lt_f (by decide)) ?_
        show Steps p.tables e below (T493.setTop (mkF m 92 _ [])) t
        refine XS.aload P494.here P494.x rfl (hb hby at_92) rfl rfl ?_
        show Steps p.tables e below (T493.setTop (mkF m 94 _ [(.ref b463)])) t
        refine XS.iloadN P494.here P494.x rfl (hb hby at_94) rfl ?_
        show Steps p.tables e below (T493.setTop (mkF m 95 _ [(.int p2), (.ref b463)])) t
        refine XS.bipush P494.here P494.x rfl (hb hby at_95) ?_
        show Steps p.tables e below (T493.setTop (mkF m 97 _ [(.int (8 : Int32)), (.int p2), (.ref b463)])) t
        refine XS.iushr P494.here P494.x rfl (hb hby at_97) rfl ?_
        show Steps p.tables e below (T493.setTop (mkF m 98 _ [(.int ((p2.toUInt32 >>> ((8 : Int32) &&& 31).toUInt32).toInt32)), (.ref b463)])) t
        refine XS.sipush P494.here P494.x rfl (hb hby at_98) ?_
        show Steps p.tables e below (T493.setTop (mkF m 101 _ [(.int (255 : Int32)), (.int ((p2.toUInt32 >>> ((8 : Int32) &&& 31).toUInt32).toInt32)), (.ref b463)])) t
        refine XS.iand P494.here P494.x rfl (hb hby at_101) rfl ?_
        show Steps p.tables e below (T493.setTop (mkF m 102 _ [(.int (((p2.toUInt32 >>> ((8 : Int32) &&& 31).toUInt32).toInt32) &&& (255 : Int32))), (.ref b463)])) t
        refine XS.i2dS P494.here P494.x rfl (hb hby at_102) rfl rfl ?_
        show Steps p.tables e below (T493.setTop (mkF m 103 _ [(.double (FP.i2d (((p2.toUInt32 >>> ((8 : Int32) &&& 31).toUInt32).toInt32) &&& (255 : Int32)))), (.ref b463)])) t
        refine XS.iconst P494.here P494.x rfl (hb hby at_103) ?_
        exact kk
      have f515 := (f492.keep K504)
      refine wCallV P494 (m_offA l Z a0 hw b463 b475 b476 (1 : Int32) 2 1 kf502 K1 J1 (2 : Int32) (FP.i2d (((p2.toUInt32 >>> ((8 : Int32) &&& 31).toUInt32).toInt32) &&& (255 : Int32))) (1 : Int32) (((p2.toUInt32 >>> ((8 : Int32) &&& 31).toUInt32).toInt32) &&& (255 : Int32)).toInt (2 : Int32) h503 f515 F496 F497 F495 F498 A499 A500 (by first | assumption | exact Ne.symm (by assumption) | exact adr_ne (by omega)) (by first | assumption | exact Ne.symm (by assumption) | exact adr_ne (by omega)) q479 (by decide) rfl dK501 (i2d_int (((p2.toUInt32 >>> ((8 : Int32) &&& 31).toUInt32).toInt32) &&& (255 : Int32))) (by decide) (by omega) (by decide)) (tw35 hw) (tw36 hw) (tw38 hw) (tw38 hw) (tw37 hw) (tw2 hw) (tw39 hw) (by decide) f515 (by rw [hml]; rfl) (lenOf pd_5 rfl) (argsL := [(.double (FP.i2d (((p2.toUInt32 >>> ((8 : Int32) &&& 31).toUInt32).toInt32) &&& (255 : Int32)))), (.int (1 : Int32))]) (rest := []) rfl rfl (W := 0) (Nat.le_of_eq rfl) (by decide) (by decide) (by decide) (by decide) (allS (Or.inr ge_b463) (allS (Or.inr ge_b475) (allS (Or.inr ge_b476) all0))) (hb hby at_104) rfl (k' := 3) (n' := 36) rfl rfl ?_
      rintro T505 h516 _ P506 K517 ⟨rfl, kf514, F507, F508, F509, F510, A511, dK513, A512⟩
      have szh516 : h503.size ≤ h516.size := K517.1
      generalize gK2 : (own_of 1 true K1 J1 (((p2.toUInt32 >>> ((8 : Int32) &&& 31).toUInt32).toInt32) &&& (255 : Int32)).toInt (1 : Int32)).1 = K2 at dK513
      generalize gJ2 : (own_of 1 true K1 J1 (((p2.toUInt32 >>> ((8 : Int32) &&& 31).toUInt32).toInt32) &&& (255 : Int32)).toInt (1 : Int32)).2 = J2 at A512
      show Done _ _ _ _ _ _ _ _ _ _ _ _ _ _ _ T505 (mkF m 107 _ [])
      refine Done.stepL (pc' := 152) (st' := [(.int (2 : Int32)), (.int (2 : Int32))]) (fun t kk => ?_) ?_
      · show Steps p.tables e below (T505.setTop (mkF m 107 _ [])) t
        refine XS.iload P506.here P506.x rfl (hb hby at_107) rfl ?_
        show Steps p.tables e below (T505.setTop (mkF m 109 _ [(.int (2 : Int32))])) t
        refine XS.iconst P506.here P506.x rfl (hb hby at_109) ?_
        show Steps p.tables e below (T505.setTop (mkF m 110 _ [(.int (3 : Int32)), (.int (2 : Int32))])) t
        refine XS.icmpYes P506.here P506.x rfl (pc0 := 110) (pc' := 128) rfl (hb hby at_110) rfl (iiW_lt_t (by decide)) (by decide) (by decide) ?_
        show Steps p.tables e below (T505.setTop (mkF m 128 _ [])) t
        refine XS.iload P506.here P506.x rfl (hb hby at_128) rfl ?_
        show Steps p.tables e below (T505.setTop (mkF m 130 _ [(.int (2 : Int32))])) t
        refine XS.iconst P506.here P506.x rfl (hb hby at_130) ?_
        show Steps p.tables e below (T505.setTop (mkF m 131 _ [(.int (4 : Int32)), (.int (2 : Int32))])) t
        refine XS.icmpYes P506.here P506.x rfl (pc0 := 131) (pc' := 149) rfl (hb hby at_131) rfl (iiW_lt_t (by decide)) (by decide) (by decide) ?_
        show Steps p.tables e below (T505.setTop (mkF m 149 _ [])) t
        refine XS.iload P506.here P506.x rfl (hb hby at_149) rfl ?_
        show Steps p.tables e below (T505.setTop (mkF m 151 _ [(.int (2 : Int32))])) t
        refine XS.iloadN P506.here P506.x rfl (hb hby at_151) rfl ?_
        exact kk
      refine wCallS P506 (m_minf l Z a0 hw (2 : Int32) (2 : Int32) h516 (by decide)) (tw28 hw) (tw12 hw) (tw13 hw) (tw14 hw) (by decide) (by rw [hml]; rfl) (lenOf pd_1 rfl) (argsL := [(.int (2 : Int32)), (.int (2 : Int32))]) (rest := []) rfl rfl (W := 0) (Nat.le_of_eq rfl) (by decide) (by decide) (by decide) (by decide) (by simp) (hb hby at_152) rfl (k' := 3) (n' := 36) rfl rfl ?_
      rintro T518 _ _ P519 - ⟨rfl, rfl⟩
      show Done _ _ _ _ _ _ _ _ _ _ _ _ _ _ _ T518 (mkF m 155 _ [(.int (2 : Int32))])
      refine Done.step (T' := T518) (g' := (mkF m 159 #[.val (.int p0), .val (.int p1), .val (.int p2), .val (.int (2 : Int32)), .val (.int (2 : Int32)), .val (.ref b463), .val (.int (1 : Int32)), .val (.int (2 : Int32)), .unset, .unset] [(.ref b463)])) (fun t kk => ?_) ?_
      · show Steps p.tables e below (T518.setTop (mkF m 155 _ [(.int (2 : Int32))])) t
        refine XS.istore P519.here P519.x rfl (hb hby at_155) rfl (l' := #[.val (.int p0), .val (.int p1), .val (.int p2), .val (.int (2 : Int32)), .val (.int (2 : Int32)), .val (.ref b463), .val (.int (1 : Int32)), .val (.int (2 : Int32)), .unset, .unset]) rfl ?_
        show Steps p.tables e below (T518.setTop (mkF m 157 _ [])) t
        refine XS.aload P519.here P519.x rfl (hb hby at_157) rfl rfl ?_
        exact kk
      have f522 := (f515.keep K517)
      refine wCallV P519 (m_size l Z a0 hw b463 (2 : Int32) h516 F507) (tw29 hw) (tw30 hw) (tw32 hw) (tw32 hw) (tw31 hw) (tw2 hw) (tw33 hw) (by decide) f522 (by rw [hml]; rfl) (lenOf pd_4 rfl) (argsL := []) (rest := []) rfl rfl (W := 0) (Nat.le_of_eq rfl) (by decide) (by decide) (by decide) (by decide) (by simp) (hb hby at_159) rfl (k' := 3) (n' := 36) rfl rfl ?_
      rintro T520 _ _ P521 - ⟨rfl, rfl⟩
      show Done _ _ _ _ _ _ _ _ _ _ _ _ _ _ _ T520 (mkF m 162 _ [(.int (2 : Int32))])
      refine Done.step (T' := T520) (g' := (mkF m 176 #[.val (.int p0), .val (.int p1), .val (.int p2), .val (.int (2 : Int32)), .val (.int (2 : Int32)), .val (.ref b463), .val (.int (1 : Int32)), .val (.int (2 : Int32)), .val (.int (1 : Int32)), .unset] [(.ref b463)])) (fun t kk => ?_) ?_
      · show Steps p.tables e below (T520.setTop (mkF m 162 _ [(.int (2 : Int32))])) t
        refine XS.iload P521.here P521.x rfl (hb hby at_162) rfl ?_
        show Steps p.tables e below (T520.setTop (mkF m 164 _ [(.int (2 : Int32)), (.int (2 : Int32))])) t
        refine XS.icmpNo P521.here P521.x rfl (hb hby at_164) rfl (iiW_ne_f (by decide)) ?_
        show Steps p.tables e below (T520.setTop (mkF m 167 _ [])) t
        refine XS.iconst P521.here P521.x rfl (hb hby at_167) ?_
        show Steps p.tables e below (T520.setTop (mkF m 168 _ [(.int (1 : Int32))])) t
        refine XS.goto P521.here P521.x rfl (pc0 := 168) (pc' := 172) rfl (hb hby at_168) (by decide) (by decide) ?_
        show Steps p.tables e below (T520.setTop (mkF m 172 _ [(.int (1 : Int32))])) t
        refine XS.istore P521.here P521.x rfl (hb hby at_172) rfl (l' := #[.val (.int p0), .val (.int p1), .val (.int p2), .val (.int (2 : Int32)), .val (.int (2 : Int32)), .val (.ref b463), .val (.int (1 : Int32)), .val (.int (2 : Int32)), .val (.int (1 : Int32)), .unset]) rfl ?_
        show Steps p.tables e below (T520.setTop (mkF m 174 _ [])) t
        refine XS.aload P521.here P521.x rfl (hb hby at_174) rfl rfl ?_
        exact kk
      refine wCallV P521 (m_isFullt l Z a0 hw b463 (2 : Int32) (2 : Int32) h516 F507 F510 (by decide)) (tw21 hw) (tw22 hw) (tw24 hw) (tw24 hw) (tw23 hw) (tw2 hw) (tw25 hw) (by decide) f522 (by rw [hml]; rfl) (lenOf pd_3 rfl) (argsL := []) (rest := []) rfl rfl (W := 0) (Nat.le_of_eq rfl) (by decide) (by decide) (by decide) (by decide) (by simp) (hb hby at_176) rfl (k' := 3) (n' := 36) rfl rfl ?_
      rintro T523 _ _ P524 - ⟨rfl, rfl⟩
      show Done _ _ _ _ _ _ _ _ _ _ _ _ _ _ _ T523 (mkF m 179 _ [(.int (1 : Int32))])
      refine Done.step (T' := T523) (g' := (mkF m 220 #[.val (.int p0), .val (.int p1), .val (.int p2), .val (.int (2 : Int32)), .val (.int (2 : Int32)), .val (.ref b463), .val (.int (1 : Int32)), .val (.int (2 : Int32)), .val (.int (1 : Int32)), .val (.int (1 : Int32))] [(.int (1 : Int32))])) (fun t kk => ?_) ?_
      · show Steps p.tables e below (T523.setTop (mkF m 179 _ [(.int (1 : Int32))])) t
        refine XS.iload P524.here P524.x rfl (hb hby at_179) rfl ?_
        show Steps p.tables e below (T523.setTop (mkF m 181 _ [(.int (2 : Int32)), (.int (1 : Int32))])) t
        refine XS.iloadN P524.here P524.x rfl (hb hby at_181) rfl ?_
        show Steps p.tables e below (T523.setTop (mkF m 182 _ [(.int (2 : Int32)), (.int (2 : Int32)), (.int (1 : Int32))])) t
        refine XS.icmpNo P524.here P524.x rfl (hb hby at_182) rfl (iiW_ne_f (by decide)) ?_
        show Steps p.tables e below (T523.setTop (mkF m 185 _ [(.int (1 : Int32))])) t
        refine XS.iconst P524.here P524.x rfl (hb hby at_185) ?_
        show Steps p.tables e below (T523.setTop (mkF m 186 _ [(.int (1 : Int32)), (.int (1 : Int32))])) t
        refine XS.goto P524.here P524.x rfl (pc0 := 186) (pc' := 190) rfl (hb hby at_186) (by decide) (by decide) ?_
        show Steps p.tables e below (T523.setTop (mkF m 190 _ [(.int (1 : Int32)), (.int (1 : Int32))])) t
        refine XS.icmpNo P524.here P524.x rfl (hb hby at_190) rfl (iiW_ne_f (by decide)) ?_
        show Steps p.tables e below (T523.setTop (mkF m 193 _ [])) t
        refine XS.iconst P524.here P524.x rfl (hb hby at_193) ?_
        show Steps p.tables e below (T523.setTop (mkF m 194 _ [(.int (1 : Int32))])) t
        refine XS.goto P524.here P524.x rfl (pc0 := 194) (pc' := 198) rfl (hb hby at_194) (by decide) (by decide) ?_
        show Steps p.tables e below (T523.setTop (mkF m 198 _ [(.int (1 : Int32))])) t
        refine XS.istore P524.here P524.x rfl (hb hby at_198) rfl (l' := #[.val (.int p0), .val (.int p1), .val (.int p2), .val (.int (2 : Int32)), .val (.int (2 : Int32)), .val (.ref b463), .val (.int (1 : Int32)), .val (.int (2 : Int32)), .val (.int (1 : Int32)), .val (.int (1 : Int32))]) rfl ?_
        show Steps p.tables e below (T523.setTop (mkF m 200 _ [])) t
        refine XS.iload P524.here P524.x rfl (hb hby at_200) rfl ?_
        show Steps p.tables e below (T523.setTop (mkF m 202 _ [(.int (1 : Int32))])) t
        refine XS.ifNo P524.here P524.x rfl (hb hby at_202) rfl (i0W_eq_f (by decide)) ?_
        show Steps p.tables e below (T523.setTop (mkF m 205 _ [])) t
        refine XS.iload P524.here P524.x rfl (hb hby at_205) rfl ?_
        show Steps p.tables e below (T523.setTop (mkF m 207 _ [(.int (1 : Int32))])) t
        refine XS.ifNo P524.here P524.x rfl (hb hby at_207) rfl (i0W_eq_f (by decide)) ?_
        show Steps p.tables e below (T523.setTop (mkF m 210 _ [])) t
        refine XS.iload P524.here P524.x rfl (hb hby at_210) rfl ?_
        show Steps p.tables e below (T523.setTop (mkF m 212 _ [(.int (1 : Int32))])) t
        refine XS.ifNo P524.here P524.x rfl (hb hby at_212) rfl (i0W_eq_f (by decide)) ?_
        show Steps p.tables e below (T523.setTop (mkF m 215 _ [])) t
        refine XS.iconst P524.here P524.x rfl (hb hby at_215) ?_
        show Steps p.tables e below (T523.setTop (mkF m 216 _ [(.int (1 : Int32))])) t
        refine XS.goto P524.here P524.x rfl (pc0 := 216) (pc' := 220) rfl (hb hby at_216) (by decide) (by decide) ?_
        exact kk
      exact wRet P524 (t := .boolean) hret (narrow_01 (Or.inr rfl)) (Or.inl ⟨rfl, Or.inr (Or.inl rfl), _, rfl⟩) (hb hby at_220) rfl
    · show Done _ _ _ _ _ _ _ _ _ _ _ _ _ _ _ T0 (mkF m 34 _ [])
      refine wNew P0 (tw0 hw) (tw1 hw) (tw2 hw) (hb hby at_34) rfl (by decide) (by decide) (k' := 1) (n' := 4) rfl rfl (fun T525 h527 b528 g529 lt530 P526 E531 X532 D533 => ?_)
      have ge_b528 : h0.size ≤ b528 := by have := P0.ge; omega
      have F534 : Fld Z h527 b528 "com/example/urnwise/urnwise/sampler/SmallestKeys" "capacity" "I" (.int (0 : Int32)) := D533 (Or.inr (tw10 hw)) (ty := .int) (by decide)
      have F535 : Fld Z h527 b528 "com/example/urnwise/urnwise/sampler/SmallestKeys" "keys" "[D" .null := D533 (Or.inl (tw17 hw)) (ty := (.array .double)) (by decide)
      have F536 : Fld Z h527 b528 "com/example/urnwise/urnwise/sampler/SmallestKeys" "indices" "[I" .null := D533 (Or.inl (tw20 hw)) (ty := (.array .int)) (by decide)
      have F537 : Fld Z h527 b528 "com/example/urnwise/urnwise/sampler/SmallestKeys" "size" "I" (.int (0 : Int32)) := D533 (Or.inl (tw27 hw)) (ty := .int) (by decide)
      show Done _ _ _ _ _ _ _ _ _ _ _ _ _ _ _ T525 (mkF m 37 _ [(.ref b528)])
      refine Done.stepL (pc' := 39) (st' := [(.int (2 : Int32)), (.ref b528), (.ref b528)]) (fun t kk => ?_) ?_
      · show Steps p.tables e below (T525.setTop (mkF m 37 _ [(.ref b528)])) t
        refine XS.dup P526.here P526.x rfl (hb hby at_37) rfl rfl ?_
        show Steps p.tables e below (T525.setTop (mkF m 38 _ [(.ref b528), (.ref b528)])) t
        refine XS.iloadN P526.here P526.x rfl (hb hby at_38) rfl ?_
        exact kk
      refine wCallI P526 (m_hpInit l Z a0 hw b528 (2 : Int32) 2 h527 X532 F534 F535 F536 (by decide) (by decide) F537) rfl (tw3 hw) (tw4 hw) (tw2 hw) (tw5 hw) (by decide) (a := b528) (by rw [hml]; rfl) (lenOf pd_2 rfl) (argsL := [(.int (2 : Int32))]) (rest := [(.ref b528)]) rfl rfl (W := 1) (Nat.le_of_eq rfl) (by decide) (by decide) (by decide) (by decide) (allS (Or.inr ge_b528) all0) (hb hby at_39) rfl (k' := 3) (n' := 36) rfl rfl ?_
      rintro T538 h553 _ P539 K554 ⟨rfl, b540, b541, q542, q543, q544, q545, q546, F547, F548, F549, F550, A551, A552⟩
      have szh553 : h527.size ≤ h553.size := K554.1
      have ge_b540 : h0.size ≤ b540 := by have := q542; have := P526.ge; omega
      have ge_b541 : h0.size ≤ b541 := by have := q543; have := P526.ge; omega
      have dK0 : ∀ i, i < 2 → DInt ((fun _ => (0 : Int)) i) ((fun _ => (0 : UInt64)) i) := fun i _ => dint_c0
      show Done _ _ _ _ _ _ _ _ _ _ _ _ _ _ _ T538 (mkF m 42 _ [(.ref b528)])
      refine Done.step (T' := T538) (g' := (mkF m 46 #[.val (.int p0), .val (.int p1), .val (.int p2), .val (.int (2 : Int32)), .val (.int (3 : Int32)), .val (.ref b528), .unset, .unset, .unset, .unset] [(.ref b528)])) (fun t kk => ?_) ?_
      · show Steps p.tables e below (T538.setTop (mkF m 42 _ [(.ref b528)])) t
        refine XS.astore P539.here P539.x rfl (hb hby at_42) rfl rfl (l' := #[.val (.int p0), .val (.int p1), .val (.int p2), .val (.int (2 : Int32)), .val (.int (3 : Int32)), .val (.ref b528), .unset, .unset, .unset, .unset]) rfl ?_
        show Steps p.tables e below (T538.setTop (mkF m 44 _ [])) t
        refine XS.aload P539.here P539.x rfl (hb hby at_44) rfl rfl ?_
        exact kk
      have f557 := (X532.keep K554)
      refine wCallV P539 (m_isFullf l Z a0 hw b528 (0 : Int32) (2 : Int32) h553 F547 F550 (by decide)) (tw21 hw) (tw22 hw) (tw24 hw) (tw24 hw) (tw23 hw) (tw2 hw) (tw25 hw) (by decide) f557 (by rw [hml]; rfl) (lenOf pd_3 rfl) (argsL := []) (rest := []) rfl rfl (W := 0) (Nat.le_of_eq rfl) (by decide) (by decide) (by decide) (by decide) (by simp) (hb hby at_46) rfl (k' := 3) (n' := 36) rfl rfl ?_
      rintro T555 _ _ P556 - ⟨rfl, rfl⟩
      show Done _ _ _ _ _ _ _ _ _ _ _ _ _ _ _ T555 (mkF m 49 _ [(.int (0 : Int32))])
      refine Done.step (T' := T555) (g' := (mkF m 83 #[.val (.int p0), .val (.int p1), .val (.int p2), .val (.int (2 : Int32)), .val (.int (3 : Int32)), .val (.ref b528), .val (.int (1 : Int32)), .unset, .unset, .unset] [(.int (0 : Int32)), (.double (FP.i2d (p2 &&& (255 : Int32)))), (.ref b528)])) (fun t kk => ?_) ?_
      · show Steps p.tables e below (T555.setTop (mkF m 49 _ [(.int (0 : Int32))])) t
        refine XS.iloadN P556.here P556.x rfl (hb hby at_49) rfl ?_
        show Steps p.tables e below (T555.setTop (mkF m 50 _ [(.int (2 : Int32)), (.int (0 : Int32))])) t
        refine XS.ifYes P556.here P556.x rfl (pc0 := 50) (pc' := 57) rfl (hb hby at_50) rfl (i0W_ne_t (by decide)) (by decide) (by decide) ?_
        show Steps p.tables e below (T555.setTop (mkF m 57 _ [(.int (0 : Int32))])) t
        refine XS.iconst P556.here P556.x rfl (hb hby at_57) ?_
        show Steps p.tables e below (T555.setTop (mkF m 58 _ [(.int (0 : Int32)), (.int (0 : Int32))])) t
        refine XS.icmpNo P556.here P556.x rfl (hb hby at_58) rfl (iiW_ne_f (by decide)) ?_
        show Steps p.tables e below (T555.setTop (mkF m 61 _ [])) t
        refine XS.iconst P556.here P556.x rfl (hb hby at_61) ?_
        show Steps p.tables e below (T555.setTop (mkF m 62 _ [(.int (1 : Int32))])) t
        refine XS.goto P556.here P556.x rfl (pc0 := 62) (pc' := 66) rfl (hb hby at_62) (by decide) (by decide) ?_
        show Steps p.tables e below (T555.setTop (mkF m 66 _ [(.int (1 : Int32))])) t
        refine XS.istore P556.here P556.x rfl (hb hby at_66) rfl (l' := #[.val (.int p0), .val (.int p1), .val (.int p2), .val (.int (2 : Int32)), .val (.int (3 : Int32)), .val (.ref b528), .val (.int (1 : Int32)), .unset, .unset, .unset]) rfl ?_
        show Steps p.tables e below (T555.setTop (mkF m 68 _ [])) t
        refine XS.iload P556.here P556.x rfl (hb hby at_68) rfl ?_
        show Steps p.tables e below (T555.setTop (mkF m 70 _ [(.int (3 : Int32))])) t
        refine XS.iconst P556.here P556.x rfl (hb hby at_70) ?_
        show Steps p.tables e below (T555.setTop (mkF m 71 _ [(.int (1 : Int32)), (.int (3 : Int32))])) t
        refine XS.icmpNo P556.here P556.x rfl (hb hby at_71) rfl (iiW_lt_f (by decide)) ?_
        show Steps p.tables e below (T555.setTop (mkF m 74 _ [])) t
        refine XS.aload P556.here P556.x rfl (hb hby at_74) rfl rfl ?_
        show Steps p.tables e below (T555.setTop (mkF m 76 _ [(.ref b528)])) t
        refine XS.iloadN P556.here P556.x rfl (hb hby at_76) rfl ?_
        show Steps p.tables e below (T555.setTop (mkF m 77 _ [(.int p2), (.ref b528)])) t
        refine XS.sipush P556.here P556.x rfl (hb hby at_77) ?_
        show Steps p.tables e below (T555.setTop (mkF m 80 _ [(.int (255 : Int32)), (.int p2), (.ref b528)])) t
        refine XS.iand P556.here P556.x rfl (hb hby at_80) rfl ?_
        show Steps p.tables e below (T555.setTop (mkF m 81 _ [(.int (p2 &&& (255 : Int32))), (.ref b528)])) t
        refine XS.i2dS P556.here P556.x rfl (hb hby at_81) rfl rfl ?_
        show Steps p.tables e below (T555.setTop (mkF m 82 _ [(.double (FP.i2d (p2 &&& (255 : Int32)))), (.ref b528)])) t
        refine XS.iconst P556.here P556.x rfl (hb hby at_82) ?_
        exact kk
      refine wCallV P556 (m_offA l Z a0 hw b528 b540 b541 (0 : Int32) 2 0 (fun _ => (0 : UInt64)) (fun _ => (0 : Int)) (fun _ => (0 : Int32)) (2 : Int32) (FP.i2d (p2 &&& (255 : Int32))) (0 : Int32) (p2 &&& (255 : Int32)).toInt (1 : Int32) h553 f557 F548 F549 F547 F550 A551 A552 (by first | assumption | exact Ne.symm (by assumption) | exact adr_ne (by omega)) (by first | assumption | exact Ne.symm (by assumption) | exact adr_ne (by omega)) q544 (by decide) rfl dK0 (i2d_int (p2 &&& (255 : Int32))) (by decide) (by omega) (by decide)) (tw35 hw) (tw36 hw) (tw38 hw) (tw38 hw) (tw37 hw) (tw2 hw) (tw39 hw) (by decide) f557 (by rw [hml]; rfl) (lenOf pd_5 rfl) (argsL := [(.double (FP.i2d (p2 &&& (255 : Int32)))), (.int (0 : Int32))]) (rest := []) rfl rfl (W := 0) (Nat.le_of_eq rfl) (by decide) (by decide) (by decide) (by decide) (allS (Or.inr ge_b528) (allS (Or.inr ge_b540) (allS (Or.inr ge_b541) all0))) (hb hby at_83) rfl (k' := 3) (n' := 36) rfl rfl ?_
      rintro T558 h568 _ P559 K569 ⟨rfl, kf567, F560, F561, F562, F563, A564, dK566, A565⟩
      have szh568 : h553.size ≤ h568.size := K569.1
      generalize gK1 : (own_of 0 true (fun _ => (0 : Int)) (fun _ => (0 : Int32)) (p2 &&& (255 : Int32)).toInt (0 : Int32)).1 = K1 at dK566
      generalize gJ1 : (own_of 0 true (fun _ => (0 : Int)) (fun _ => (0 : Int32)) (p2 &&& (255 : Int32)).toInt (0 : Int32)).2 = J1 at A565
      show Done _ _ _ _ _ _ _ _ _ _ _ _ _ _ _ T558 (mkF m 86 _ [])
      refine Done.stepL (pc' := 104) (st' := [(.int (1 : Int32)), (.double (FP.i2d (((p2.toUInt32 >>> ((8 : Int32) &&& 31).toUInt32).toInt32) &&& (255 : Int32)))), (.ref b528)]) (fun t kk => ?_) ?_
      · show Steps p.tables e below (T558.setTop (mkF m 86 _ [])) t
        refine XS.iload P559.here P559.x rfl (hb hby at_86) rfl ?_
        show Steps p.tables e below (T558.setTop (mkF m 88 _ [(.int (3 : Int32))])) t
        refine XS.iconst P559.here P559.x rfl (hb hby at_88) ?_
        show Steps p.tables e below (T558.setTop (mkF m 89 _ [(.int (2 : Int32)), (.int (3 : Int32))])) t
        refine XS.icmpNo P559.here P559.x rfl (hb hby at_89) rfl (iiW_lt_f (by decide)) ?_
        show Steps p.tables e below (T558.setTop (mkF m 92 _ [])) t
        refine XS.aload P559.here P559.x rfl (hb hby at_92) rfl rfl ?_
        show Steps p.tables e below (T558.setTop (mkF m 94 _ [(.ref b528)])) t
        refine XS.iloadN P559.here P559.x rfl (hb hby at_94) rfl ?_
        show Steps p.tables e below (T558.setTop (mkF m 95 _ [(.int p2), (.ref b528)])) t
        refine XS.bipush P559.here P559.x rfl (hb hby at_95) ?_
        show Steps p.tables e below (T558.setTop (mkF m 97 _ [(.int (8 : Int32)), (.int p2), (.ref b528)])) t
        refine XS.iushr P559.here P559.x rfl (hb hby at_97) rfl ?_
        show Steps p.tables e below (T558.setTop (mkF m 98 _ [(.int ((p2.toUInt32 >>> ((8 : Int32) &&& 31).toUInt32).toInt32)), (.ref b528)])) t
        refine XS.sipush P559.here P559.x rfl (hb hby at_98) ?_
        show Steps p.tables e below (T558.setTop (mkF m 101 _ [(.int (255 : Int32)), (.int ((p2.toUInt32 >>> ((8 : Int32) &&& 31).toUInt32).toInt32)), (.ref b528)])) t
        refine XS.iand P559.here P559.x rfl (hb hby at_101) rfl ?_
        show Steps p.tables e below (T558.setTop (mkF m 102 _ [(.int (((p2.toUInt32 >>> ((8 : Int32) &&& 31).toUInt32).toInt32) &&& (255 : Int32))), (.ref b528)])) t
        refine XS.i2dS P559.here P559.x rfl (hb hby at_102) rfl rfl ?_
        show Steps p.tables e below (T558.setTop (mkF m 103 _ [(.double (FP.i2d (((p2.toUInt32 >>> ((8 : Int32) &&& 31).toUInt32).toInt32) &&& (255 : Int32)))), (.ref b528)])) t
        refine XS.iconst P559.here P559.x rfl (hb hby at_103) ?_
        exact kk
      have f580 := (f557.keep K569)
      refine wCallV P559 (m_offA l Z a0 hw b528 b540 b541 (1 : Int32) 2 1 kf567 K1 J1 (2 : Int32) (FP.i2d (((p2.toUInt32 >>> ((8 : Int32) &&& 31).toUInt32).toInt32) &&& (255 : Int32))) (1 : Int32) (((p2.toUInt32 >>> ((8 : Int32) &&& 31).toUInt32).toInt32) &&& (255 : Int32)).toInt (2 : Int32) h568 f580 F561 F562 F560 F563 A564 A565 (by first | assumption | exact Ne.symm (by assumption) | exact adr_ne (by omega)) (by first | assumption | exact Ne.symm (by assumption) | exact adr_ne (by omega)) q544 (by decide) rfl dK566 (i2d_int (((p2.toUInt32 >>> ((8 : Int32) &&& 31).toUInt32).toInt32) &&& (255 : Int32))) (by decide) (by omega) (by decide)) (tw35 hw) (tw36 hw) (tw38 hw) (tw38 hw) (tw37 hw) (tw2 hw) (tw39 hw) (by decide) f580 (by rw [hml]; rfl) (lenOf pd_5 rfl) (argsL := [(.double (FP.i2d (((p2.toUInt32 >>> ((8 : Int32) &&& 31).toUInt32).toInt32) &&& (255 : Int32)))), (.int (1 : Int32))]) (rest := []) rfl rfl (W := 0) (Nat.le_of_eq rfl) (by decide) (by decide) (by decide) (by decide) (allS (Or.inr ge_b528) (allS (Or.inr ge_b540) (allS (Or.inr ge_b541) all0))) (hb hby at_104) rfl (k' := 3) (n' := 36) rfl rfl ?_
      rintro T570 h581 _ P571 K582 ⟨rfl, kf579, F572, F573, F574, F575, A576, dK578, A577⟩
      have szh581 : h568.size ≤ h581.size := K582.1
      generalize gK2 : (own_of 1 true K1 J1 (((p2.toUInt32 >>> ((8 : Int32) &&& 31).toUInt32).toInt32) &&& (255 : Int32)).toInt (1 : Int32)).1 = K2 at dK578
      generalize gJ2 : (own_of 1 true K1 J1 (((p2.toUInt32 >>> ((8 : Int32) &&& 31).toUInt32).toInt32) &&& (255 : Int32)).toInt (1 : Int32)).2 = J2 at A577
      show Done _ _ _ _ _ _ _ _ _ _ _ _ _ _ _ T570 (mkF m 107 _ [])
      refine Done.stepL (pc' := 125) (st' := [(.int (2 : Int32)), (.double (FP.i2d (((p2.toUInt32 >>> ((16 : Int32) &&& 31).toUInt32).toInt32) &&& (255 : Int32)))), (.ref b528)]) (fun t kk => ?_) ?_
      · show Steps p.tables e below (T570.setTop (mkF m 107 _ [])) t
        refine XS.iload P571.here P571.x rfl (hb hby at_107) rfl ?_
        show Steps p.tables e below (T570.setTop (mkF m 109 _ [(.int (3 : Int32))])) t
        refine XS.iconst P571.here P571.x rfl (hb hby at_109) ?_
        show Steps p.tables e below (T570.setTop (mkF m 110 _ [(.int (3 : Int32)), (.int (3 : Int32))])) t
        refine XS.icmpNo P571.here P571.x rfl (hb hby at_110) rfl (iiW_lt_f (by decide)) ?_
        show Steps p.tables e below (T570.setTop (mkF m 113 _ [])) t
        refine XS.aload P571.here P571.x rfl (hb hby at_113) rfl rfl ?_
        show Steps p.tables e below (T570.setTop (mkF m 115 _ [(.ref b528)])) t
        refine XS.iloadN P571.here P571.x rfl (hb hby at_115) rfl ?_
        show Steps p.tables e below (T570.setTop (mkF m 116 _ [(.int p2), (.ref b528)])) t
        refine XS.bipush P571.here P571.x rfl (hb hby at_116) ?_
        show Steps p.tables e below (T570.setTop (mkF m 118 _ [(.int (16 : Int32)), (.int p2), (.ref b528)])) t
        refine XS.iushr P571.here P571.x rfl (hb hby at_118) rfl ?_
        show Steps p.tables e below (T570.setTop (mkF m 119 _ [(.int ((p2.toUInt32 >>> ((16 : Int32) &&& 31).toUInt32).toInt32)), (.ref b528)])) t
        refine XS.sipush P571.here P571.x rfl (hb hby at_119) ?_
        show Steps p.tables e below (T570.setTop (mkF m 122 _ [(.int (255 : Int32)), (.int ((p2.toUInt32 >>> ((16 : Int32) &&& 31).toUInt32).toInt32)), (.ref b528)])) t
        refine XS.iand P571.here P571.x rfl (hb hby at_122) rfl ?_
        show Steps p.tables e below (T570.setTop (mkF m 123 _ [(.int (((p2.toUInt32 >>> ((16 : Int32) &&& 31).toUInt32).toInt32) &&& (255 : Int32))), (.ref b528)])) t
        refine XS.i2dS P571.here P571.x rfl (hb hby at_123) rfl rfl ?_
        show Steps p.tables e below (T570.setTop (mkF m 124 _ [(.double (FP.i2d (((p2.toUInt32 >>> ((16 : Int32) &&& 31).toUInt32).toInt32) &&& (255 : Int32)))), (.ref b528)])) t
        refine XS.iconst P571.here P571.x rfl (hb hby at_124) ?_
        exact kk
      have f593 := (f580.keep K582)
      refine wCallV P571 (m_offB l Z a0 hw b528 b540 b541 (2 : Int32) 2 2 kf579 K2 J2 (2 : Int32) (FP.i2d (((p2.toUInt32 >>> ((16 : Int32) &&& 31).toUInt32).toInt32) &&& (255 : Int32))) (2 : Int32) (((p2.toUInt32 >>> ((16 : Int32) &&& 31).toUInt32).toInt32) &&& (255 : Int32)).toInt h581 f593 F573 F574 F572 F575 A576 A577 (by first | assumption | exact Ne.symm (by assumption) | exact adr_ne (by omega)) (by first | assumption | exact Ne.symm (by assumption) | exact adr_ne (by omega)) q544 (by decide) rfl dK578 (i2d_int (((p2.toUInt32 >>> ((16 : Int32) &&& 31).toUInt32).toInt32) &&& (255 : Int32))) (by decide) (by omega) (by omega)) (tw35 hw) (tw36 hw) (tw38 hw) (tw38 hw) (tw37 hw) (tw2 hw) (tw39 hw) (by decide) f593 (by rw [hml]; rfl) (lenOf pd_5 rfl) (argsL := [(.double (FP.i2d (((p2.toUInt32 >>> ((16 : Int32) &&& 31).toUInt32).toInt32) &&& (255 : Int32)))), (.int (2 : Int32))]) (rest := []) rfl rfl (W := 0) (Nat.le_of_eq rfl) (by decide) (by decide) (by decide) (by decide) (allS (Or.inr ge_b540) (allS (Or.inr ge_b541) all0)) (hb hby at_125) rfl (k' := 3) (n' := 36) rfl rfl ?_
      rintro T583 h594 _ P584 K595 ⟨rfl, kf592, F585, F586, F587, F588, A589, dK591, A590⟩
      have szh594 : h581.size ≤ h594.size := K595.1
      generalize gK3 : (own_of 2 false K2 J2 (((p2.toUInt32 >>> ((16 : Int32) &&& 31).toUInt32).toInt32) &&& (255 : Int32)).toInt (2 : Int32)).1 = K3 at dK591
      generalize gJ3 : (own_of 2 false K2 J2 (((p2.toUInt32 >>> ((16 : Int32) &&& 31).toUInt32).toInt32) &&& (255 : Int32)).toInt (2 : Int32)).2 = J3 at A590
      show Done _ _ _ _ _ _ _ _ _ _ _ _ _ _ _ T583 (mkF m 128 _ [])
      refine Done.stepL (pc' := 152) (st' := [(.int (2 : Int32)), (.int (3 : Int32))]) (fun t kk => ?_) ?_
      · show Steps p.tables e below (T583.setTop (mkF m 128 _ [])) t
        refine XS.iload P584.here P584.x rfl (hb hby at_128) rfl ?_
        show Steps p.tables e below (T583.setTop (mkF m 130 _ [(.int (3 : Int32))])) t
        refine XS.iconst P584.here P584.x rfl (hb hby at_130) ?_
        show Steps p.tables e below (T583.setTop (mkF m 131 _ [(.int (4 : Int32)), (.int (3 : Int32))])) t
        refine XS.icmpYes P584.here P584.x rfl (pc0 := 131) (pc' := 149) rfl (hb hby at_131) rfl (iiW_lt_t (by decide)) (by decide) (by decide) ?_
        show Steps p.tables e below (T583.setTop (mkF m 149 _ [])) t
        refine XS.iload P584.here P584.x rfl (hb hby at_149) rfl ?_
        show Steps p.tables e below (T583.setTop (mkF m 151 _ [(.int (3 : Int32))])) t
        refine XS.iloadN P584.here P584.x rfl (hb hby at_151) rfl ?_
        exact kk
      refine wCallS P584 (m_mint l Z a0 hw (3 : Int32) (2 : Int32) h594 (by decide)) (tw28 hw) (tw12 hw) (tw13 hw) (tw14 hw) (by decide) (by rw [hml]; rfl) (lenOf pd_1 rfl) (argsL := [(.int (3 : Int32)), (.int (2 : Int32))]) (rest := []) rfl rfl (W := 0) (Nat.le_of_eq rfl) (by decide) (by decide) (by decide) (by decide) (by simp) (hb hby at_152) rfl (k' := 3) (n' := 36) rfl rfl ?_
      rintro T596 _ _ P597 - ⟨rfl, rfl⟩
      show Done _ _ _ _ _ _ _ _ _ _ _ _ _ _ _ T596 (mkF m 155 _ [(.int (2 : Int32))])
      refine Done.step (T' := T596) (g' := (mkF m 159 #[.val (.int p0), .val (.int p1), .val (.int p2), .val (.int (2 : Int32)), .val (.int (3 : Int32)), .val (.ref b528), .val (.int (1 : Int32)), .val (.int (2 : Int32)), .unset, .unset] [(.ref b528)])) (fun t kk => ?_) ?_
      · show Steps p.tables e below (T596.setTop (mkF m 155 _ [(.int (2 : Int32))])) t
        refine XS.istore P597.here P597.x rfl (hb hby at_155) rfl (l' := #[.val (.int p0), .val (.int p1), .val (.int p2), .val (.int (2 : Int32)), .val (.int (3 : Int32)), .val (.ref b528), .val (.int (1 : Int32)), .val (.int (2 : Int32)), .unset, .unset]) rfl ?_
        show Steps p.tables e below (T596.setTop (mkF m 157 _ [])) t
        refine XS.aload P597.here P597.x rfl (hb hby at_157) rfl rfl ?_
        exact kk
      have f600 := (f593.keep K595)
      refine wCallV P597 (m_size l Z a0 hw b528 (2 : Int32) h594 F585) (tw29 hw) (tw30 hw) (tw32 hw) (tw32 hw) (tw31 hw) (tw2 hw) (tw33 hw) (by decide) f600 (by rw [hml]; rfl) (lenOf pd_4 rfl) (argsL := []) (rest := []) rfl rfl (W := 0) (Nat.le_of_eq rfl) (by decide) (by decide) (by decide) (by decide) (by simp) (hb hby at_159) rfl (k' := 3) (n' := 36) rfl rfl ?_
      rintro T598 _ _ P599 - ⟨rfl, rfl⟩
      show Done _ _ _ _ _ _ _ _ _ _ _ _ _ _ _ T598 (mkF m 162 _ [(.int (2 : Int32))])
      refine Done.step (T' := T598) (g' := (mkF m 176 #[.val (.int p0), .val (.int p1), .val (.int p2), .val (.int (2 : Int32)), .val (.int (3 : Int32)), .val (.ref b528), .val (.int (1 : Int32)), .val (.int (2 : Int32)), .val (.int (1 : Int32)), .unset] [(.ref b528)])) (fun t kk => ?_) ?_
      · show Steps p.tables e below (T598.setTop (mkF m 162 _ [(.int (2 : Int32))])) t
        refine XS.iload P599.here P599.x rfl (hb hby at_162) rfl ?_
        show Steps p.tables e below (T598.setTop (mkF m 164 _ [(.int (2 : Int32)), (.int (2 : Int32))])) t
        refine XS.icmpNo P599.here P599.x rfl (hb hby at_164) rfl (iiW_ne_f (by decide)) ?_
        show Steps p.tables e below (T598.setTop (mkF m 167 _ [])) t
        refine XS.iconst P599.here P599.x rfl (hb hby at_167) ?_
        show Steps p.tables e below (T598.setTop (mkF m 168 _ [(.int (1 : Int32))])) t
        refine XS.goto P599.here P599.x rfl (pc0 := 168) (pc' := 172) rfl (hb hby at_168) (by decide) (by decide) ?_
        show Steps p.tables e below (T598.setTop (mkF m 172 _ [(.int (1 : Int32))])) t
        refine XS.istore P599.here P599.x rfl (hb hby at_172) rfl (l' := #[.val (.int p0), .val (.int p1), .val (.int p2), .val (.int (2 : Int32)), .val (.int (3 : Int32)), .val (.ref b528), .val (.int (1 : Int32)), .val (.int (2 : Int32)), .val (.int (1 : Int32)), .unset]) rfl ?_
        show Steps p.tables e below (T598.setTop (mkF m 174 _ [])) t
        refine XS.aload P599.here P599.x rfl (hb hby at_174) rfl rfl ?_
        exact kk
      refine wCallV P599 (m_isFullt l Z a0 hw b528 (2 : Int32) (2 : Int32) h594 F585 F588 (by decide)) (tw21 hw) (tw22 hw) (tw24 hw) (tw24 hw) (tw23 hw) (tw2 hw) (tw25 hw) (by decide) f600 (by rw [hml]; rfl) (lenOf pd_3 rfl) (argsL := []) (rest := []) rfl rfl (W := 0) (Nat.le_of_eq rfl) (by decide) (by decide) (by decide) (by decide) (by simp) (hb hby at_176) rfl (k' := 3) (n' := 36) rfl rfl ?_
      rintro T601 _ _ P602 - ⟨rfl, rfl⟩
      show Done _ _ _ _ _ _ _ _ _ _ _ _ _ _ _ T601 (mkF m 179 _ [(.int (1 : Int32))])
      refine Done.step (T' := T601) (g' := (mkF m 220 #[.val (.int p0), .val (.int p1), .val (.int p2), .val (.int (2 : Int32)), .val (.int (3 : Int32)), .val (.ref b528), .val (.int (1 : Int32)), .val (.int (2 : Int32)), .val (.int (1 : Int32)), .val (.int (1 : Int32))] [(.int (1 : Int32))])) (fun t kk => ?_) ?_
      · show Steps p.tables e below (T601.setTop (mkF m 179 _ [(.int (1 : Int32))])) t
        refine XS.iload P602.here P602.x rfl (hb hby at_179) rfl ?_
        show Steps p.tables e below (T601.setTop (mkF m 181 _ [(.int (2 : Int32)), (.int (1 : Int32))])) t
        refine XS.iloadN P602.here P602.x rfl (hb hby at_181) rfl ?_
        show Steps p.tables e below (T601.setTop (mkF m 182 _ [(.int (2 : Int32)), (.int (2 : Int32)), (.int (1 : Int32))])) t
        refine XS.icmpNo P602.here P602.x rfl (hb hby at_182) rfl (iiW_ne_f (by decide)) ?_
        show Steps p.tables e below (T601.setTop (mkF m 185 _ [(.int (1 : Int32))])) t
        refine XS.iconst P602.here P602.x rfl (hb hby at_185) ?_
        show Steps p.tables e below (T601.setTop (mkF m 186 _ [(.int (1 : Int32)), (.int (1 : Int32))])) t
        refine XS.goto P602.here P602.x rfl (pc0 := 186) (pc' := 190) rfl (hb hby at_186) (by decide) (by decide) ?_
        show Steps p.tables e below (T601.setTop (mkF m 190 _ [(.int (1 : Int32)), (.int (1 : Int32))])) t
        refine XS.icmpNo P602.here P602.x rfl (hb hby at_190) rfl (iiW_ne_f (by decide)) ?_
        show Steps p.tables e below (T601.setTop (mkF m 193 _ [])) t
        refine XS.iconst P602.here P602.x rfl (hb hby at_193) ?_
        show Steps p.tables e below (T601.setTop (mkF m 194 _ [(.int (1 : Int32))])) t
        refine XS.goto P602.here P602.x rfl (pc0 := 194) (pc' := 198) rfl (hb hby at_194) (by decide) (by decide) ?_
        show Steps p.tables e below (T601.setTop (mkF m 198 _ [(.int (1 : Int32))])) t
        refine XS.istore P602.here P602.x rfl (hb hby at_198) rfl (l' := #[.val (.int p0), .val (.int p1), .val (.int p2), .val (.int (2 : Int32)), .val (.int (3 : Int32)), .val (.ref b528), .val (.int (1 : Int32)), .val (.int (2 : Int32)), .val (.int (1 : Int32)), .val (.int (1 : Int32))]) rfl ?_
        show Steps p.tables e below (T601.setTop (mkF m 200 _ [])) t
        refine XS.iload P602.here P602.x rfl (hb hby at_200) rfl ?_
        show Steps p.tables e below (T601.setTop (mkF m 202 _ [(.int (1 : Int32))])) t
        refine XS.ifNo P602.here P602.x rfl (hb hby at_202) rfl (i0W_eq_f (by decide)) ?_
        show Steps p.tables e below (T601.setTop (mkF m 205 _ [])) t
        refine XS.iload P602.here P602.x rfl (hb hby at_205) rfl ?_
        show Steps p.tables e below (T601.setTop (mkF m 207 _ [(.int (1 : Int32))])) t
        refine XS.ifNo P602.here P602.x rfl (hb hby at_207) rfl (i0W_eq_f (by decide)) ?_
        show Steps p.tables e below (T601.setTop (mkF m 210 _ [])) t
        refine XS.iload P602.here P602.x rfl (hb hby at_210) rfl ?_
        show Steps p.tables e below (T601.setTop (mkF m 212 _ [(.int (1 : Int32))])) t
        refine XS.ifNo P602.here P602.x rfl (hb hby at_212) rfl (i0W_eq_f (by decide)) ?_
        show Steps p.tables e below (T601.setTop (mkF m 215 _ [])) t
        refine XS.iconst P602.here P602.x rfl (hb hby at_215) ?_
        show Steps p.tables e below (T601.setTop (mkF m 216 _ [(.int (1 : Int32))])) t
        refine XS.goto P602.here P602.x rfl (pc0 := 216) (pc' := 220) rfl (hb hby at_216) (by decide) (by decide) ?_
        exact kk
      exact wRet P602 (t := .boolean) hret (narrow_01 (Or.inr rfl)) (Or.inl ⟨rfl, Or.inr (Or.inl rfl), _, rfl⟩) (hb hby at_220) rfl
    · show Done _ _ _ _ _ _ _ _ _ _ _ _ _ _ _ T0 (mkF m 34 _ [])
      refine wNew P0 (tw0 hw) (tw1 hw) (tw2 hw) (hb hby at_34) rfl (by decide) (by decide) (k' := 1) (n' := 4) rfl rfl (fun T603 h605 b606 g607 lt608 P604 E609 X610 D611 => ?_)
      have ge_b606 : h0.size ≤ b606 := by have := P0.ge; omega
      have F612 : Fld Z h605 b606 "com/example/urnwise/urnwise/sampler/SmallestKeys" "capacity" "I" (.int (0 : Int32)) := D611 (Or.inr (tw10 hw)) (ty := .int) (by decide)
      have F613 : Fld Z h605 b606 "com/example/urnwise/urnwise/sampler/SmallestKeys" "keys" "[D" .null := D611 (Or.inl (tw17 hw)) (ty := (.array .double)) (by decide)
      have F614 : Fld Z h605 b606 "com/example/urnwise/urnwise/sampler/SmallestKeys" "indices" "[I" .null := D611 (Or.inl (tw20 hw)) (ty := (.array .int)) (by decide)
      have F615 : Fld Z h605 b606 "com/example/urnwise/urnwise/sampler/SmallestKeys" "size" "I" (.int (0 : Int32)) := D611 (Or.inl (tw27 hw)) (ty := .int) (by decide)
      show Done _ _ _ _ _ _ _ _ _ _ _ _ _ _ _ T603 (mkF m 37 _ [(.ref b606)])
      refine Done.stepL (pc' := 39) (st' := [(.int (2 : Int32)), (.ref b606), (.ref b606)]) (fun t kk => ?_) ?_
      · show Steps p.tables e below (T603.setTop (mkF m 37 _ [(.ref b606)])) t
        refine XS.dup P604.here P604.x rfl (hb hby at_37) rfl rfl ?_
        show Steps p.tables e below (T603.setTop (mkF m 38 _ [(.ref b606), (.ref b606)])) t
        refine XS.iloadN P604.here P604.x rfl (hb hby at_38) rfl ?_
        exact kk
      refine wCallI P604 (m_hpInit l Z a0 hw b606 (2 : Int32) 2 h605 X610 F612 F613 F614 (by decide) (by decide) F615) rfl (tw3 hw) (tw4 hw) (tw2 hw) (tw5 hw) (by decide) (a := b606) (by rw [hml]; rfl) (lenOf pd_2 rfl) (argsL := [(.int (2 : Int32))]) (rest := [(.ref b606)]) rfl rfl (W := 1) (Nat.le_of_eq rfl) (by decide) (by decide) (by decide) (by decide) (allS (Or.inr ge_b606) all0) (hb hby at_39) rfl (k' := 3) (n' := 36) rfl rfl ?_
      rintro T616 h631 _ P617 K632 ⟨rfl, b618, b619, q620, q621, q622, q623, q624, F625, F626, F627, F628, A629, A630⟩
      have szh631 : h605.size ≤ h631.size := K632.1
      have ge_b618 : h0.size ≤ b618 := by have := q620; have := P604.ge; omega
      have ge_b619 : h0.size ≤ b619 := by have := q621; have := P604.ge; omega
      have dK0 : ∀ i, i < 2 → DInt ((fun _ => (0 : Int)) i) ((fun _ => (0 : UInt64)) i) := fun i _ => dint_c0
      show Done _ _ _ _ _ _ _ _ _ _ _ _ _ _ _ T616 (mkF m 42 _ [(.ref b606)])
      refine Done.step (T' := T616) (g' := (mkF m 46 #[.val (.int p0), .val (.int p1), .val (.int p2), .val (.int (2 : Int32)), .val (.int (4 : Int32)), .val (.ref b606), .unset, .unset, .unset, .unset] [(.ref b606)])) (fun t kk => ?_) ?_
      · show Steps p.tables e below (T616.setTop (mkF m 42 _ [(.ref b606)])) t
        refine XS.astore P617.here P617.x rfl (hb hby at_42) rfl rfl (l' := #[.val (.int p0), .val (.int p1), .val (.int p2), .val (.int (2 : Int32)), .val (.int (4 : Int32)), .val (.ref b606), .unset, .unset, .unset, .unset]) rfl ?_
        show Steps p.tables e below (T616.setTop (mkF m 44 _ [])) t
        refine XS.aload P617.here P617.x rfl (hb hby at_44) rfl rfl ?_
        exact kk
      have f635 := (X610.keep K632)
      refine wCallV P617 (m_isFullf l Z a0 hw b606 (0 : Int32) (2 : Int32) h631 F625 F628 (by decide)) (tw21 hw) (tw22 hw) (tw24 hw) (tw24 hw) (tw23 hw) (tw2 hw) (tw25 hw) (by decide) f635 (by rw [hml]; rfl) (lenOf pd_3 rfl) (argsL := []) (rest := []) rfl rfl (W := 0) (Nat.le_of_eq rfl) (by decide) (by decide) (by decide) (by decide) (by simp) (hb hby at_46) rfl (k' := 3) (n' := 36) rfl rfl ?_
      rintro T633 _ _ P634 - ⟨rfl, rfl⟩
      show Done _ _ _ _ _ _ _ _ _ _ _ _ _ _ _ T633 (mkF m 49 _ [(.int (0 : Int32))])
      refine Done.step (T' := T633) (g' := (mkF m 83 #[.val (.int p0), .val (.int p1), .val (.int p2), .val (.int (2 : Int32)), .val (.int (4 : Int32)), .val (.ref b606), .val (.int (1 : Int32)), .unset, .unset, .unset] [(.int (0 : Int32)), (.double (FP.i2d (p2 &&& (255 : Int32)))), (.ref b606)])) (fun t kk => ?_) ?_
      · show Steps p.tables e below (T633.setTop (mkF m 49 _ [(.int (0 : Int32))])) t
        refine XS.iloadN P634.here P634.x rfl (hb hby at_49) rfl ?_
        show Steps p.tables e below (T633.setTop (mkF m 50 _ [(.int (2 : Int32)), (.int (0 : Int32))])) t
        refine XS.ifYes P634.here P634.x rfl (pc0 := 50) (pc' := 57) rfl (hb hby at_50) rfl (i0W_ne_t (by decide)) (by decide) (by decide) ?_
        show Steps p.tables e below (T633.setTop (mkF m 57 _ [(.int (0 : Int32))])) t
        refine XS.iconst P634.here P634.x rfl (hb hby at_57) ?_
        show Steps p.tables e below (T633.setTop (mkF m 58 _ [(.int (0 : Int32)), (.int (0 : Int32))])) t
        refine XS.icmpNo P634.here P634.x rfl (hb hby at_58) rfl (iiW_ne_f (by decide)) ?_
        show Steps p.tables e below (T633.setTop (mkF m 61 _ [])) t
        refine XS.iconst P634.here P634.x rfl (hb hby at_61) ?_
        show Steps p.tables e below (T633.setTop (mkF m 62 _ [(.int (1 : Int32))])) t
        refine XS.goto P634.here P634.x rfl (pc0 := 62) (pc' := 66) rfl (hb hby at_62) (by decide) (by decide) ?_
        show Steps p.tables e below (T633.setTop (mkF m 66 _ [(.int (1 : Int32))])) t
        refine XS.istore P634.here P634.x rfl (hb hby at_66) rfl (l' := #[.val (.int p0), .val (.int p1), .val (.int p2), .val (.int (2 : Int32)), .val (.int (4 : Int32)), .val (.ref b606), .val (.int (1 : Int32)), .unset, .unset, .unset]) rfl ?_
        show Steps p.tables e below (T633.setTop (mkF m 68 _ [])) t
        refine XS.iload P634.here P634.x rfl (hb hby at_68) rfl ?_
        show Steps p.tables e below (T633.setTop (mkF m 70 _ [(.int (4 : Int32))])) t
        refine XS.iconst P634.here P634.x rfl (hb hby at_70) ?_
        show Steps p.tables e below (T633.setTop (mkF m 71 _ [(.int (1 : Int32)), (.int (4 : Int32))])) t
        refine XS.icmpNo P634.here P634.x rfl (hb hby at_71) rfl (iiW_lt_f (by decide)) ?_
        show Steps p.tables e below (T633.setTop (mkF m 74 _ [])) t
        refine XS.aload P634.here P634.x rfl (hb hby at_74) rfl rfl ?_
        show Steps p.tables e below (T633.setTop (mkF m 76 _ [(.ref b606)])) t
        refine XS.iloadN P634.here P634.x rfl (hb hby at_76) rfl ?_
        show Steps p.tables e below (T633.setTop (mkF m 77 _ [(.int p2), (.ref b606)])) t
        refine XS.sipush P634.here P634.x rfl (hb hby at_77) ?_
        show Steps p.tables e below (T633.setTop (mkF m 80 _ [(.int (255 : Int32)), (.int p2), (.ref b606)])) t
        refine XS.iand P634.here P634.x rfl (hb hby at_80) rfl ?_
        show Steps p.tables e below (T633.setTop (mkF m 81 _ [(.int (p2 &&& (255 : Int32))), (.ref b606)])) t
        refine XS.i2dS P634.here P634.x rfl (hb hby at_81) rfl rfl ?_
        show Steps p.tables e below (T633.setTop (mkF m 82 _ [(.double (FP.i2d (p2 &&& (255 : Int32)))), (.ref b606)])) t
        refine XS.iconst P634.here P634.x rfl (hb hby at_82) ?_
        exact kk
      refine wCallV P634 (m_offA l Z a0 hw b606 b618 b619 (0 : Int32) 2 0 (fun _ => (0 : UInt64)) (fun _ => (0 : Int)) (fun _ => (0 : Int32)) (2 : Int32) (FP.i2d (p2 &&& (255 : Int32))) (0 : Int32) (p2 &&& (255 : Int32)).toInt (1 : Int32) h631 f635 F626 F627 F625 F628 A629 A630 (by first | assumption | exact Ne.symm (by assumption) | exact adr_ne (by omega)) (by first | assumption | exact Ne.symm (by assumption) | exact adr_ne (by omega)) q622 (by decide) rfl dK0 (i2d_int (p2 &&& (255 : Int32))) (by decide) (by omega) (by decide)) (tw35 hw) (tw36 hw) (tw38 hw) (tw38 hw) (tw37 hw) (tw2 hw) (tw39 hw) (by decide) f635 (by rw [hml]; rfl) (lenOf pd_5 rfl) (argsL := [(.double (FP.i2d (p2 &&& (255 : Int32)))), (.int (0 : Int32))]) (rest := []) rfl rfl (W := 0) (Nat.le_of_eq rfl) (by decide) (by decide) (by decide) (by decide) (allS (Or.inr ge_b606) (allS (Or.inr ge_b618) (allS (Or.inr ge_b619) all0))) (hb hby at_83) rfl (k' := 3) (n' := 36) rfl rfl ?_
      rintro T636 h646 _ P637 K647 ⟨rfl, kf645, F638, F639, F640, F641, A642, dK644, A643⟩
      have szh646 : h631.size ≤ h646.size := K647.1
      generalize gK1 : (own_of 0 true (fun _ => (0 : Int)) (fun _ => (0 : Int32)) (p2 &&& (255 : Int32)).toInt (0 : Int32)).1 = K1 at dK644
      generalize gJ1 : (own_of 0 true (fun _ => (0 : Int)) (fun _ => (0 : Int32)) (p2 &&& (255 : Int32)).toInt (0 : Int32)).2 = J1 at A643
      show Done _ _ _ _ _ _ _ _ _ _ _ _ _ _ _ T636 (mkF m 86 _ [])
      refine Done.stepL (pc' := 104) (st' := [(.int (1 : Int32)), (.double (FP.i2d (((p2.toUInt32 >>> ((8 : Int32) &&& 31).toUInt32).toInt32) &&& (255 : Int32)))), (.ref b606)]) (fun t kk => ?_) ?_
      · show Steps p.tables e below (T636.setTop (mkF m 86 _ [])) t
        refine XS.iload P637.here P637.x rfl (hb hby at_86) rfl ?_
        show Steps p.tables e below (T636.setTop (mkF m 88 _ [(.int (4 : Int32))])) t
        refine XS.iconst P637.here P637.x rfl (hb hby at_88) ?_
        show Steps p.tables e below (T636.setTop (mkF m 89 _ [(.int (2 : Int32)), (.int (4 : Int32))])) t
        refine XS.icmpNo P637.here P637.x rfl (hb hby at_89) rfl (iiW_lt_f (by decide)) ?_
        show Steps p.tables e below (T636.setTop (mkF m 92 _ [])) t
        refine XS.aload P637.here P637.x rfl (hb hby at_92) rfl rfl ?_
        show Steps p.tables e below (T636.setTop (mkF m 94 _ [(.ref b606)])) t
        refine XS.iloadN P637.here P637.x rfl (hb hby at_94) rfl ?_
        show Steps p.tables e below (T636.setTop (mkF m 95 _ [(.int p2), (.ref b606)])) t
        refine XS.bipush P637.here P637.x rfl (hb hby at_95) ?_
        show Steps p.tables e below (T636.setTop (mkF m 97 _ [(.int (8 : Int32)), (.int p2), (.ref b606)])) t
        refine XS.iushr P637.here P637.x rfl (hb hby at_97) rfl ?_
        show Steps p.tables e below (T636.setTop (mkF m 98 _ [(.int ((p2.toUInt32 >>> ((8 : Int32) &&& 31).toUInt32).toInt32)), (.ref b606)])) t
        refine XS.sipush P637.here P637.x rfl (hb hby at_98) ?_
        show Steps p.tables e below (T636.setTop (mkF m 101 _ [(.int (255 : Int32)), (.int ((p2.toUInt32 >>> ((8 : Int32) &&& 31).toUInt32).toInt32)), (.ref b606)])) t
        refine XS.iand P637.here P637.x rfl (hb hby at_101) rfl ?_
        show Steps p.tables e below (T636.setTop (mkF m 102 _ [(.int (((p2.toUInt32 >>> ((8 : Int32) &&& 31).toUInt32).toInt32) &&& (255 : Int32))), (.ref b606)])) t
        refine XS.i2dS P637.here P637.x rfl (hb hby at_102) rfl rfl ?_
        show Steps p.tables e below (T636.setTop (mkF m 103 _ [(.double (FP.i2d (((p2.toUInt32 >>> ((8 : Int32) &&& 31).toUInt32).toInt32) &&& (255 : Int32)))), (.ref b606)])) t
        refine XS.iconst P637.here P637.x rfl (hb hby at_103) ?_
        exact kk
      have f658 := (f635.keep K647)
      refine wCallV P637 (m_offA l Z a0 hw b606 b618 b619 (1 : Int32) 2 1 kf645 K1 J1 (2 : Int32) (FP.i2d (((p2.toUInt32 >>> ((8 : Int32) &&& 31).toUInt32).toInt32) &&& (255 : Int32))) (1 : Int32) (((p2.toUInt32 >>> ((8 : Int32) &&& 31).toUInt32).toInt32) &&& (255 : Int32)).toInt (2 : Int32) h646 f658 F639 F640 F638 F641 A642 A643 (by first | assumption | exact Ne.symm (by assumption) | exact adr_ne (by omega)) (by first | assumption | exact Ne.symm (by assumption) | exact adr_ne (by omega)) q622 (by decide) rfl dK644 (i2d_int (((p2.toUInt32 >>> ((8 : Int32) &&& 31).toUInt32).toInt32) &&& (255 : Int32))) (by decide) (by omega) (by decide)) (tw35 hw) (tw36 hw) (tw38 hw) (tw38 hw) (tw37 hw) (tw2 hw) (tw39 hw) (by decide) f658 (by rw [hml]; rfl) (lenOf pd_5 rfl) (argsL := [(.double (FP.i2d (((p2.toUInt32 >>> ((8 : Int32) &&& 31).toUInt32).toInt32) &&& (255 : Int32)))), (.int (1 : Int32))]) (rest := []) rfl rfl (W := 0) (Nat.le_of_eq rfl) (by decide) (by decide) (by decide) (by decide) (allS (Or.inr ge_b606) (allS (Or.inr ge_b618) (allS (Or.inr ge_b619) all0))) (hb hby at_104) rfl (k' := 3) (n' := 36) rfl rfl ?_
      rintro T648 h659 _ P649 K660 ⟨rfl, kf657, F650, F651, F652, F653, A654, dK656, A655⟩
      have szh659 : h646.size ≤ h659.size := K660.1
      generalize gK2 : (own_of 1 true K1 J1 (((p2.toUInt32 >>> ((8 : Int32) &&& 31).toUInt32).toInt32) &&& (255 : Int32)).toInt (1 : Int32)).1 = K2 at dK656
      generalize gJ2 : (own_of 1 true K1 J1 (((p2.toUInt32 >>> ((8 : Int32) &&& 31).toUInt32).toInt32) &&& (255 : Int32)).toInt (1 : Int32)).2 = J2 at A655
      show Done _ _ _ _ _ _ _ _ _ _ _ _ _ _ _ T648 (mkF m 107 _ [])
      refine Done.stepL (pc' := 125) (st' := [(.int (2 : Int32)), (.double (FP.i2d (((p2.toUInt32 >>> ((16 : Int32) &&& 31).toUInt32).toInt32) &&& (255 : Int32)))), (.ref b606)]) (fun t kk => ?_) ?_
      · show Steps p.tables e below (T648.setTop (mkF m 107 _ [])) t
        refine XS.iload P649.here P649.x rfl (hb hby at_107) rfl ?_
        show Steps p.tables e below (T648.setTop (mkF m 109 _ [(.int (4 : Int32))])) t
        refine XS.iconst P649.here P649.x rfl (hb hby at_109) ?_
        show Steps p.tables e below (T648.setTop (mkF m 110 _ [(.int (3 : Int32)), (.int (4 : Int32))])) t
        refine XS.icmpNo P649.here P649.x rfl (hb hby at_110) rfl (iiW_lt_f (by decide)) ?_
        show Steps p.tables e below (T648.setTop (mkF m 113 _ [])) t
        refine XS.aload P649.here P649.x rfl (hb hby at_113) rfl rfl ?_
        show Steps p.tables e below (T648.setTop (mkF m 115 _ [(.ref b606)])) t
        refine XS.iloadN P649.here P649.x rfl (hb hby at_115) rfl ?_
        show Steps p.tables e below (T648.setTop (mkF m 116 _ [(.int p2), (.ref b606)])) t
        refine XS.bipush P649.here P649.x rfl (hb hby at_116) ?_
        show Steps p.tables e below (T648.setTop (mkF m 118 _ [(.int (16 : Int32)), (.int p2), (.ref b606)])) t
        refine XS.iushr P649.here P649.x rfl (hb hby at_118) rfl ?_
        show Steps p.tables e below (T648.setTop (mkF m 119 _ [(.int ((p2.toUInt32 >>> ((16 : Int32) &&& 31).toUInt32).toInt32)), (.ref b606)])) t
        refine XS.sipush P649.here P649.x rfl (hb hby at_119) ?_
        show Steps p.tables e below (T648.setTop (mkF m 122 _ [(.int (255 : Int32)), (.int ((p2.toUInt32 >>> ((16 : Int32) &&& 31).toUInt32).toInt32)), (.ref b606)])) t
        refine XS.iand P649.here P649.x rfl (hb hby at_122) rfl ?_
        show Steps p.tables e below (T648.setTop (mkF m 123 _ [(.int (((p2.toUInt32 >>> ((16 : Int32) &&& 31).toUInt32).toInt32) &&& (255 : Int32))), (.ref b606)])) t
        refine XS.i2dS P649.here P649.x rfl (hb hby at_123) rfl rfl ?_
        show Steps p.tables e below (T648.setTop (mkF m 124 _ [(.double (FP.i2d (((p2.toUInt32 >>> ((16 : Int32) &&& 31).toUInt32).toInt32) &&& (255 : Int32)))), (.ref b606)])) t
        refine XS.iconst P649.here P649.x rfl (hb hby at_124) ?_
        exact kk
      have f671 := (f658.keep K660)
      refine wCallV P649 (m_offB l Z a0 hw b606 b618 b619 (2 : Int32) 2 2 kf657 K2 J2 (2 : Int32) (FP.i2d (((p2.toUInt32 >>> ((16 : Int32) &&& 31).toUInt32).toInt32) &&& (255 : Int32))) (2 : Int32) (((p2.toUInt32 >>> ((16 : Int32) &&& 31).toUInt32).toInt32) &&& (255 : Int32)).toInt h659 f671 F651 F652 F650 F653 A654 A655 (by first | assumption | exact Ne.symm (by assumption) | exact adr_ne (by omega)) (by first | assumption | exact Ne.symm (by assumption) | exact adr_ne (by omega)) q622 (by decide) rfl dK656 (i2d_int (((p2.toUInt32 >>> ((16 : Int32) &&& 31).toUInt32).toInt32) &&& (255 : Int32))) (by decide) (by omega) (by omega)) (tw35 hw) (tw36 hw) (tw38 hw) (tw38 hw) (tw37 hw) (tw2 hw) (tw39 hw) (by decide) f671 (by rw [hml]; rfl) (lenOf pd_5 rfl) (argsL := [(.double (FP.i2d (((p2.toUInt32 >>> ((16 : Int32) &&& 31).toUInt32).toInt32) &&& (255 : Int32)))), (.int (2 : Int32))]) (rest := []) rfl rfl (W := 0) (Nat.le_of_eq rfl) (by decide) (by decide) (by decide) (by decide) (allS (Or.inr ge_b618) (allS (Or.inr ge_b619) all0)) (hb hby at_125) rfl (k' := 3) (n' := 36) rfl rfl ?_
      rintro T661 h672 _ P662 K673 ⟨rfl, kf670, F663, F664, F665, F666, A667, dK669, A668⟩
      have szh672 : h659.size ≤ h672.size := K673.1
      generalize gK3 : (own_of 2 false K2 J2 (((p2.toUInt32 >>> ((16 : Int32) &&& 31).toUInt32).toInt32) &&& (255 : Int32)).toInt (2 : Int32)).1 = K3 at dK669
      generalize gJ3 : (own_of 2 false K2 J2 (((p2.toUInt32 >>> ((16 : Int32) &&& 31).toUInt32).toInt32) &&& (255 : Int32)).toInt (2 : Int32)).2 = J3 at A668
      show Done _ _ _ _ _ _ _ _ _ _ _ _ _ _ _ T661 (mkF m 128 _ [])
      refine Done.stepL (pc' := 146) (st' := [(.int (3 : Int32)), (.double (FP.i2d (((p2.toUInt32 >>> ((24 : Int32) &&& 31).toUInt32).toInt32) &&& (255 : Int32)))), (.ref b606)]) (fun t kk => ?_) ?_
      · show Steps p.tables e below (T661.setTop (mkF m 128 _ [])) t
        refine XS.iload P662.here P662.x rfl (hb hby at_128) rfl ?_
        show Steps p.tables e below (T661.setTop (mkF m 130 _ [(.int (4 : Int32))])) t
        refine XS.iconst P662.here P662.x rfl (hb hby at_130) ?_
        show Steps p.tables e below (T661.setTop (mkF m 131 _ [(.int (4 : Int32)), (.int (4 : Int32))])) t
        refine XS.icmpNo P662.here P662.x rfl (hb hby at_131) rfl (iiW_lt_f (by decide)) ?_
        show Steps p.tables e below (T661.setTop (mkF m 134 _ [])) t
        refine XS.aload P662.here P662.x rfl (hb hby at_134) rfl rfl ?_
        show Steps p.tables e below (T661.setTop (mkF m 136 _ [(.ref b606)])) t
        refine XS.iloadN P662.here P662.x rfl (hb hby at_136) rfl ?_
        show Steps p.tables e below (T661.setTop (mkF m 137 _ [(.int p2), (.ref b606)])) t
        refine XS.bipush P662.here P662.x rfl (hb hby at_137) ?_
        show Steps p.tables e below (T661.setTop (mkF m 139 _ [(.int (24 : Int32)), (.int p2), (.ref b606)])) t
        refine XS.iushr P662.here P662.x rfl (hb hby at_139) rfl ?_
        show Steps p.tables e below (T661.setTop (mkF m 140 _ [(.int ((p2.toUInt32 >>> ((24 : Int32) &&& 31).toUInt32).toInt32)), (.ref b606)])) t
        refine XS.sipush P662.here P662.x rfl (hb hby at_140) ?_
        show Steps p.tables e below (T661.setTop (mkF m 143 _ [(.int (255 : Int32)), (.int ((p2.toUInt32 >>> ((24 : Int32) &&& 31).toUInt32).toInt32)), (.ref b606)])) t
        refine XS.iand P662.here P662.x rfl (hb hby at_143) rfl ?_
        show Steps p.tables e below (T661.setTop (mkF m 144 _ [(.int (((p2.toUInt32 >>> ((24 : Int32) &&& 31).toUInt32).toInt32) &&& (255 : Int32))), (.ref b606)])) t
        refine XS.i2dS P662.here P662.x rfl (hb hby at_144) rfl rfl ?_
        show Steps p.tables e below (T661.setTop (mkF m 145 _ [(.double (FP.i2d (((p2.toUInt32 >>> ((24 : Int32) &&& 31).toUInt32).toInt32) &&& (255 : Int32)))), (.ref b606)])) t
        refine XS.iconst P662.here P662.x rfl (hb hby at_145) ?_
        exact kk
      have f684 := (f671.keep K673)
      refine wCallV P662 (m_offB l Z a0 hw b606 b618 b619 (2 : Int32) 2 2 kf670 K3 J3 (2 : Int32) (FP.i2d (((p2.toUInt32 >>> ((24 : Int32) &&& 31).toUInt32).toInt32) &&& (255 : Int32))) (3 : Int32) (((p2.toUInt32 >>> ((24 : Int32) &&& 31).toUInt32).toInt32) &&& (255 : Int32)).toInt h672 f684 F664 F665 F663 F666 A667 A668 (by first | assumption | exact Ne.symm (by assumption) | exact adr_ne (by omega)) (by first | assumption | exact Ne.symm (by assumption) | exact adr_ne (by omega)) q622 (by decide) rfl dK669 (i2d_int (((p2.toUInt32 >>> ((24 : Int32) &&& 31).toUInt32).toInt32) &&& (255 : Int32))) (by decide) (by omega) (by omega)) (tw35 hw) (tw36 hw) (tw38 hw) (tw38 hw) (tw37 hw) (tw2 hw) (tw39 hw) (by decide) f684 (by rw [hml]; rfl) (lenOf pd_5 rfl) (argsL := [(.double (FP.i2d (((p2.toUInt32 >>> ((24 : Int32) &&& 31).toUInt32).toInt32) &&& (255 : Int32)))), (.int (3 : Int32))]) (rest := []) rfl rfl (W := 0) (Nat.le_of_eq rfl) (by decide) (by decide) (by decide) (by decide) (allS (Or.inr ge_b618) (allS (Or.inr ge_b619) all0)) (hb hby at_146) rfl (k' := 3) (n' := 36) rfl rfl ?_
      rintro T674 h685 _ P675 K686 ⟨rfl, kf683, F676, F677, F678, F679, A680, dK682, A681⟩
      have szh685 : h672.size ≤ h685.size := K686.1
      generalize gK4 : (own_of 2 false K3 J3 (((p2.toUInt32 >>> ((24 : Int32) &&& 31).toUInt32).toInt32) &&& (255 : Int32)).toInt (3 : Int32)).1 = K4 at dK682
      generalize gJ4 : (own_of 2 false K3 J3 (((p2.toUInt32 >>> ((24 : Int32) &&& 31).toUInt32).toInt32) &&& (255 : Int32)).toInt (3 : Int32)).2 = J4 at A681
      show Done _ _ _ _ _ _ _ _ _ _ _ _ _ _ _ T674 (mkF m 149 _ [])
      refine Done.stepL (pc' := 152) (st' := [(.int (2 : Int32)), (.int (4 : Int32))]) (fun t kk => ?_) ?_
      · show Steps p.tables e below (T674.setTop (mkF m 149 _ [])) t
        refine XS.iload P675.here P675.x rfl (hb hby at_149) rfl ?_
        show Steps p.tables e below (T674.setTop (mkF m 151 _ [(.int (4 : Int32))])) t
        refine XS.iloadN P675.here P675.x rfl (hb hby at_151) rfl ?_
        exact kk
      refine wCallS P675 (m_mint l Z a0 hw (4 : Int32) (2 : Int32) h685 (by decide)) (tw28 hw) (tw12 hw) (tw13 hw) (tw14 hw) (by decide) (by rw [hml]; rfl) (lenOf pd_1 rfl) (argsL := [(.int (4 : Int32)), (.int (2 : Int32))]) (rest := []) rfl rfl (W := 0) (Nat.le_of_eq rfl) (by decide) (by decide) (by decide) (by decide) (by simp) (hb hby at_152) rfl (k' := 3) (n' := 36) rfl rfl ?_
      rintro T687 _ _ P688 - ⟨rfl, rfl⟩
      show Done _ _ _ _ _ _ _ _ _ _ _ _ _ _ _ T687 (mkF m 155 _ [(.int (2 : Int32))])
      refine Done.step (T' := T687) (g' := (mkF m 159 #[.val (.int p0), .val (.int p1), .val (.int p2), .val (.int (2 : Int32)), .val (.int (4 : Int32)), .val (.ref b606), .val (.int (1 : Int32)), .val (.int (2 : Int32)), .unset, .unset] [(.ref b606)])) (fun t kk => ?_) ?_
      · show Steps p.tables e below (T687.setTop (mkF m 155 _ [(.int (2 : Int32))])) t
        refine XS.istore P688.here P688.x rfl (hb hby at_155) rfl (l' := #[.val (.int p0), .val (.int p1), .val (.int p2), .val (.int (2 : Int32)), .val (.int (4 : Int32)), .val (.ref b606), .val (.int (1 : Int32)), .val (.int (2 : Int32)), .unset, .unset]) rfl ?_
        show Steps p.tables e below (T687.setTop (mkF m 157 _ [])) t
        refine XS.aload P688.here P688.x rfl (hb hby at_157) rfl rfl ?_
        exact kk
      have f691 := (f684.keep K686)
      refine wCallV P688 (m_size l Z a0 hw b606 (2 : Int32) h685 F676) (tw29 hw) (tw30 hw) (tw32 hw) (tw32 hw) (tw31 hw) (tw2 hw) (tw33 hw) (by decide) f691 (by rw [hml]; rfl) (lenOf pd_4 rfl) (argsL := []) (rest := []) rfl rfl (W := 0) (Nat.le_of_eq rfl) (by decide) (by decide) (by decide) (by decide) (by simp) (hb hby at_159) rfl (k' := 3) (n' := 36) rfl rfl ?_
      rintro T689 _ _ P690 - ⟨rfl, rfl⟩
      show Done _ _ _ _ _ _ _ _ _ _ _ _ _ _ _ T689 (mkF m 162 _ [(.int (2 : Int32))])
      refine Done.step (T' := T689) (g' := (mkF m 176 #[.val (.int p0), .val (.int p1), .val (.int p2), .val (.int (2 : Int32)), .val (.int (4 : Int32)), .val (.ref b606), .val (.int (1 : Int32)), .val (.int (2 : Int32)), .val (.int (1 : Int32)), .unset] [(.ref b606)])) (fun t kk => ?_) ?_
      · show Steps p.tables e below (T689.setTop (mkF m 162 _ [(.int (2 : Int32))])) t
        refine XS.iload P690.here P690.x rfl (hb hby at_162) rfl ?_
        show Steps p.tables e below (T689.setTop (mkF m 164 _ [(.int (2 : Int32)), (.int (2 : Int32))])) t
        refine XS.icmpNo P690.here P690.x rfl (hb hby at_164) rfl (iiW_ne_f (by decide)) ?_
        show Steps p.tables e below (T689.setTop (mkF m 167 _ [])) t
        refine XS.iconst P690.here P690.x rfl (hb hby at_167) ?_
        show Steps p.tables e below (T689.setTop (mkF m 168 _ [(.int (1 : Int32))])) t
        refine XS.goto P690.here P690.x rfl (pc0 := 168) (pc' := 172) rfl (hb hby at_168) (by decide) (by decide) ?_
        show Steps p.tables e below (T689.setTop (mkF m 172 _ [(.int (1 : Int32))])) t
        refine XS.istore P690.here P690.x rfl (hb hby at_172) rfl (l' := #[.val (.int p0), .val (.int p1), .val (.int p2), .val (.int (2 : Int32)), .val (.int (4 : Int32)), .val (.ref b606), .val (.int (1 : Int32)), .val (.int (2 : Int32)), .val (.int (1 : Int32)), .unset]) rfl ?_
        show Steps p.tables e below (T689.setTop (mkF m 174 _ [])) t
        refine XS.aload P690.here P690.x rfl (hb hby at_174) rfl rfl ?_
        exact kk
      refine wCallV P690 (m_isFullt l Z a0 hw b606 (2 : Int32) (2 : Int32) h685 F676 F679 (by decide)) (tw21 hw) (tw22 hw) (tw24 hw) (tw24 hw) (tw23 hw) (tw2 hw) (tw25 hw) (by decide) f691 (by rw [hml]; rfl) (lenOf pd_3 rfl) (argsL := []) (rest := []) rfl rfl (W := 0) (Nat.le_of_eq rfl) (by decide) (by decide) (by decide) (by decide) (by simp) (hb hby at_176) rfl (k' := 3) (n' := 36) rfl rfl ?_
      rintro T692 _ _ P693 - ⟨rfl, rfl⟩
      show Done _ _ _ _ _ _ _ _ _ _ _ _ _ _ _ T692 (mkF m 179 _ [(.int (1 : Int32))])
      refine Done.step (T' := T692) (g' := (mkF m 220 #[.val (.int p0), .val (.int p1), .val (.int p2), .val (.int (2 : Int32)), .val (.int (4 : Int32)), .val (.ref b606), .val (.int (1 : Int32)), .val (.int (2 : Int32)), .val (.int (1 : Int32)), .val (.int (1 : Int32))] [(.int (1 : Int32))])) (fun t kk => ?_) ?_
      · show Steps p.tables e below (T692.setTop (mkF m 179 _ [(.int (1 : Int32))])) t
        refine XS.iload P693.here P693.x rfl (hb hby at_179) rfl ?_
        show Steps p.tables e below (T692.setTop (mkF m 181 _ [(.int (2 : Int32)), (.int (1 : Int32))])) t
        refine XS.iloadN P693.here P693.x rfl (hb hby at_181) rfl ?_
        show Steps p.tables e below (T692.setTop (mkF m 182 _ [(.int (2 : Int32)), (.int (2 : Int32)), (.int (1 : Int32))])) t
        refine XS.icmpNo P693.here P693.x rfl (hb hby at_182) rfl (iiW_ne_f (by decide)) ?_
        show Steps p.tables e below (T692.setTop (mkF m 185 _ [(.int (1 : Int32))])) t
        refine XS.iconst P693.here P693.x rfl (hb hby at_185) ?_
        show Steps p.tables e below (T692.setTop (mkF m 186 _ [(.int (1 : Int32)), (.int (1 : Int32))])) t
        refine XS.goto P693.here P693.x rfl (pc0 := 186) (pc' := 190) rfl (hb hby at_186) (by decide) (by decide) ?_
        show Steps p.tables e below (T692.setTop (mkF m 190 _ [(.int (1 : Int32)), (.int (1 : Int32))])) t
        refine XS.icmpNo P693.here P693.x rfl (hb hby at_190) rfl (iiW_ne_f (by decide)) ?_
        show Steps p.tables e below (T692.setTop (mkF m 193 _ [])) t
        refine XS.iconst P693.here P693.x rfl (hb hby at_193) ?_
        show Steps p.tables e below (T692.setTop (mkF m 194 _ [(.int (1 : Int32))])) t
        refine XS.goto P693.here P693.x rfl (pc0 := 194) (pc' := 198) rfl (hb hby at_194) (by decide) (by decide) ?_
        show Steps p.tables e below (T692.setTop (mkF m 198 _ [(.int (1 : Int32))])) t
        refine XS.istore P693.here P693.x rfl (hb hby at_198) rfl (l' := #[.val (.int p0), .val (.int p1), .val (.int p2), .val (.int (2 : Int32)), .val (.int (4 : Int32)), .val (.ref b606), .val (.int (1 : Int32)), .val (.int (2 : Int32)), .val (.int (1 : Int32)), .val (.int (1 : Int32))]) rfl ?_
        show Steps p.tables e below (T692.setTop (mkF m 200 _ [])) t
        refine XS.iload P693.here P693.x rfl (hb hby at_200) rfl ?_
        show Steps p.tables e below (T692.setTop (mkF m 202 _ [(.int (1 : Int32))])) t
        refine XS.ifNo P693.here P693.x rfl (hb hby at_202) rfl (i0W_eq_f (by decide)) ?_
        show Steps p.tables e below (T692.setTop (mkF m 205 _ [])) t
        refine XS.iload P693.here P693.x rfl (hb hby at_205) rfl ?_
        show Steps p.tables e below (T692.setTop (mkF m 207 _ [(.int (1 : Int32))])) t
        refine XS.ifNo P693.here P693.x rfl (hb hby at_207) rfl (i0W_eq_f (by decide)) ?_
        show Steps p.tables e below (T692.setTop (mkF m 210 _ [])) t
        refine XS.iload P693.here P693.x rfl (hb hby at_210) rfl ?_
        show Steps p.tables e below (T692.setTop (mkF m 212 _ [(.int (1 : Int32))])) t
        refine XS.ifNo P693.here P693.x rfl (hb hby at_212) rfl (i0W_eq_f (by decide)) ?_
        show Steps p.tables e below (T692.setTop (mkF m 215 _ [])) t
        refine XS.iconst P693.here P693.x rfl (hb hby at_215) ?_
        show Steps p.tables e below (T692.setTop (mkF m 216 _ [(.int (1 : Int32))])) t
        refine XS.goto P693.here P693.x rfl (pc0 := 216) (pc' := 220) rfl (hb hby at_216) (by decide) (by decide) ?_
        exact kk
      exact wRet P693 (t := .boolean) hret (narrow_01 (Or.inr rfl)) (Or.inl ⟨rfl, Or.inr (Or.inl rfl), _, rfl⟩) (hb hby at_220) rfl
  · rcases hnv with rfl | ⟨-, rfl | rfl | rfl | rfl⟩
    · show Done _ _ _ _ _ _ _ _ _ _ _ _ _ _ _ T0 (mkF m 34 _ [])
      refine wNew P0 (tw0 hw) (tw1 hw) (tw2 hw) (hb hby at_34) rfl (by decide) (by decide) (k' := 1) (n' := 4) rfl rfl (fun T694 h696 b697 g698 lt699 P695 E700 X701 D702 => ?_)
      have ge_b697 : h0.size ≤ b697 := by have := P0.ge; omega
      have F703 : Fld Z h696 b697 "com/example/urnwise/urnwise/sampler/SmallestKeys" "capacity" "I" (.int (0 : Int32)) := D702 (Or.inr (tw10 hw)) (ty := .int) (by decide)
      have F704 : Fld Z h696 b697 "com/example/urnwise/urnwise/sampler/SmallestKeys" "keys" "[D" .null := D702 (Or.inl (tw17 hw)) (ty := (.array .double)) (by decide)
      have F705 : Fld Z h696 b697 "com/example/urnwise/urnwise/sampler/SmallestKeys" "indices" "[I" .null := D702 (Or.inl (tw20 hw)) (ty := (.array .int)) (by decide)
      have F706 : Fld Z h696 b697 "com/example/urnwise/urnwise/sampler/SmallestKeys" "size" "I" (.int (0 : Int32)) := D702 (Or.inl (tw27 hw)) (ty := .int) (by decide)
      show Done _ _ _ _ _ _ _ _ _ _ _ _ _ _ _ T694 (mkF m 37 _ [(.ref b697)])
      refine Done.stepL (pc' := 39) (st' := [(.int (3 : Int32)), (.ref b697), (.ref b697)]) (fun t kk => ?_) ?_
      · show Steps p.tables e below (T694.setTop (mkF m 37 _ [(.ref b697)])) t
        refine XS.dup P695.here P695.x rfl (hb hby at_37) rfl rfl ?_
        show Steps p.tables e below (T694.setTop (mkF m 38 _ [(.ref b697), (.ref b697)])) t
        refine XS.iloadN P695.here P695.x rfl (hb hby at_38) rfl ?_
        exact kk
      refine wCallI P695 (m_hpInit l Z a0 hw b697 (3 : Int32) 3 h696 X701 F703 F704 F705 (by decide) (by decide) F706) rfl (tw3 hw) (tw4 hw) (tw2 hw) (tw5 hw) (by decide) (a := b697) (by rw [hml]; rfl) (lenOf pd_2 rfl) (argsL := [(.int (3 : Int32))]) (rest := [(.ref b697)]) rfl rfl (W := 1) (Nat.le_of_eq rfl) (by decide) (by decide) (by decide) (by decide) (allS (Or.inr ge_b697) all0) (hb hby at_39) rfl (k' := 3) (n' := 36) rfl rfl ?_
      rintro T707 h722 _ P708 K723 ⟨rfl, b709, b710, q711, q712, q713, q714, q715, F716, F717, F718, F719, A720, A721⟩
      have szh722 : h696.size ≤ h722.size := K723.1
      have ge_b709 : h0.size ≤ b709 := by have := q711; have := P695.ge; omega
      have ge_b710 : h0.size ≤ b710 := by have := q712; have := P695.ge; omega
      have dK0 : ∀ i, i < 3 → DInt ((fun _ => (0 : Int)) i) ((fun _ => (0 : UInt64)) i) := fun i _ => dint_c0
      show Done _ _ _ _ _ _ _ _ _ _ _ _ _ _ _ T707 (mkF m 42 _ [(.ref b697)])
      refine Done.step (T' := T707) (g' := (mkF m 46 #[.val (.int p0), .val (.int p1), .val (.int p2), .val (.int (3 : Int32)), .val (.int (0 : Int32)), .val (.ref b697), .unset, .unset, .unset, .unset] [(.ref b697)])) (fun t kk => ?_) ?_
      · show Steps p.tables e below (T707.setTop (mkF m 42 _ [(.ref b697)])) t
        refine XS.astore P708.here P708.x rfl (hb hby at_42) rfl rfl (l' := #[.val (.int p0), .val (.int p1), .val (.int p2), .val (.int (3 : Int32)), .val (.int (0 : Int32)), .val (.ref b697), .unset, .unset, .unset, .unset]) rfl ?_
        show Steps p.tables e below (T707.setTop (mkF m 44 _ [])) t
        refine XS.aload P708.here P708.x rfl (hb hby at_44) rfl rfl ?_
        exact kk
      have f726 := (X701.keep K723)
      refine wCallV P708 (m_isFullf l Z a0 hw b697 (0 : Int32) (3 : Int32) h722 F716 F719 (by decide)) (tw21 hw) (tw22 hw) (tw24 hw) (tw24 hw) (tw23 hw) (tw2 hw) (tw25 hw) (by decide) f726 (by rw [hml]; rfl) (lenOf pd_3 rfl) (argsL := []) (rest := []) rfl rfl (W := 0) (Nat.le_of_eq rfl) (by decide) (by decide) (by decide) (by decide) (by simp) (hb hby at_46) rfl (k' := 3) (n' := 36) rfl rfl ?_
      rintro T724 _ _ P725 - ⟨rfl, rfl⟩
      show Done _ _ _ _ _ _ _ _ _ _ _ _ _ _ _ T724 (mkF m 49 _ [(.int (0 : Int32))])
      refine Done.step (T' := T724) (g' := (mkF m 152 #[.val (.int p0), .val (.int p1), .val (.int p2), .val (.int (3 : Int32)), .val (.int (0 : Int32)), .val (.ref b697), .val (.int (1 : Int32)), .unset, .unset, .unset] [(.int (3 : Int32)), (.int (0 : Int32))])) (fun t kk => ?_) ?_
      · show Steps p.tables e below (T724.setTop (mkF m 49 _ [(.int (0 : Int32))])) t
        refine XS.iloadN P725.here P725.x rfl (hb hby at_49) rfl ?_
        show Steps p.tables e below (T724.setTop (mkF m 50 _ [(.int (3 : Int32)), (.int (0 : Int32))])) t
        refine XS.ifYes P725.here P725.x rfl (pc0 := 50) (pc' := 57) rfl (hb hby at_50) rfl (i0W_ne_t (by decide)) (by decide) (by decide) ?_
        show Steps p.tables e below (T724.setTop (mkF m 57 _ [(.int (0 : Int32))])) t
        refine XS.iconst P725.here P725.x rfl (hb hby at_57) ?_
        show Steps p.tables e below (T724.setTop (mkF m 58 _ [(.int (0 : Int32)), (.int (0 : Int32))])) t
        refine XS.icmpNo P725.here P725.x rfl (hb hby at_58) rfl (iiW_ne_f (by decide)) ?_
        show Steps p.tables e below (T724.setTop (mkF m 61 _ [])) t
        refine XS.iconst P725.here P725.x rfl (hb hby at_61) ?_
        show Steps p.tables e below (T724.setTop (mkF m 62 _ [(.int (1 : Int32))])) t
        refine XS.goto P725.here P725.x rfl (pc0 := 62) (pc' := 66) rfl (hb hby at_62) (by decide) (by decide) ?_
        show Steps p.tables e below (T724.setTop (mkF m 66 _ [(.int (1 : Int32))])) t
        refine XS.istore P725.here P725.x rfl (hb hby at_66) rfl (l' := #[.val (.int p0), .val (.int p1), .val (.int p2), .val (.int (3 : Int32)), .val (.int (0 : Int32)), .val (.ref b697), .val (.int (1 : Int32)), .unset, .unset, .unset]) rfl ?_
        show Steps p.tables e below (T724.setTop (mkF m 68 _ [])) t
        refine XS.iload P725.here P725.x rfl (hb hby at_68) rfl ?_
        show Steps p.tables e below (T724.setTop (mkF m 70 _ [(.int (0 : Int32))])) t
        refine XS.iconst P725.here P725.x rfl (hb hby at_70) ?_
        show Steps p.tables e below (T724.setTop (mkF m 71 _ [(.int (1 : Int32)), (.int (0 : Int32))])) t
        refine XS.icmpYes P725.here P725.x rfl (pc0 := 71) (pc' := 86) rfl (hb hby at_71) rfl (iiW_lt_t (by decide)) (by decide) (by decide) ?_
        show Steps p.tables e below (T724.setTop (mkF m 86 _ [])) t
        refine XS.iload P725.here P725.x rfl (hb hby at_86) rfl ?_
        show Steps p.tables e below (T724.setTop (mkF m 88 _ [(.int (0 : Int32))])) t
        refine XS.iconst P725.here P725.x rfl (hb hby at_88) ?_
        show Steps p.tables e below (T724.setTop (mkF m 89 _ [(.int (2 : Int32)), (.int (0 : Int32))])) t
        refine XS.icmpYes P725.here P725.x rfl (pc0 := 89) (pc' := 107) rfl (hb hby at_89) rfl (iiW_lt_t (by decide)) (by decide) (by decide) ?_
        show Steps p.tables e below (T724.setTop (mkF m 107 _ [])) t
        refine XS.iload P725.here P725.x rfl (hb hby at_107) rfl ?_
        show Steps p.tables e below (T724.setTop (mkF m 109 _ [(.int (0 : Int32))])) t
        refine XS.iconst P725.here P725.x rfl (hb hby at_109) ?_
        show Steps p.tables e below (T724.setTop (mkF m 110 _ [(.int (3 : Int32)), (.int (0 : Int32))])) t
        refine XS.icmpYes P725.here P725.x rfl (pc0 := 110) (pc' := 128) rfl (hb hby at_110) rfl (iiW_lt_t (by decide)) (by decide) (by decide) ?_
        show Steps p.tables e below (T724.setTop (mkF m 128 _ [])) t
        refine XS.iload P725.here P725.x rfl (hb hby at_128) rfl ?_
        show Steps p.tables e below (T724.setTop (mkF m 130 _ [(.int (0 : Int32))])) t
        refine XS.iconst P725.here P725.x rfl (hb hby at_130) ?_
        show Steps p.tables e below (T724.setTop (mkF m 131 _ [(.int (4 : Int32)), (.int (0 : Int32))])) t
        refine XS.icmpYes P725.here P725.x rfl (pc0 := 131) (pc' := 149) rfl (hb hby at_131) rfl (iiW_lt_t (by decide)) (by decide) (by decide) ?_
        show Steps p.tables e below (T724.setTop (mkF m 149 _ [])) t
        refine XS.iload P725.here P725.x rfl (hb hby at_149) rfl ?_
        show Steps p.tables e below (T724.setTop (mkF m 151 _ [(.int (0 : Int32))])) t
        refine XS.iloadN P725.here P725.x rfl (hb hby at_151) rfl ?_
        exact kk
      refine wCallS P725 (m_minf l Z a0 hw (0 : Int32) (3 : Int32) h722 (by decide)) (tw28 hw) (tw12 hw) (tw13 hw) (tw14 hw) (by decide) (by rw [hml]; rfl) (lenOf pd_1 rfl) (argsL := [(.int (0 : Int32)), (.int (3 : Int32))]) (rest := []) rfl rfl (W := 0) (Nat.le_of_eq rfl) (by decide) (by decide) (by decide) (by decide) (by simp) (hb hby at_152) rfl (k' := 3) (n' := 36) rfl rfl ?_
      rintro T727 _ _ P728 - ⟨rfl, rfl⟩
      show Done _ _ _ _ _ _ _ _ _ _ _ _ _ _ _ T727 (mkF m 155 _ [(.int (0 : Int32))])
      refine Done.step (T' := T727) (g' := (mkF m 159 #[.val (.int p0), .val (.int p1), .val (.int p2), .val (.int (3 : Int32)), .val (.int (0 : Int32)), .val (.ref b697), .val (.int (1 : Int32)), .val (.int (0 : Int32)), .unset, .unset] [(.ref b697)])) (fun t kk => ?_) ?_
      · show Steps p.tables e below (T727.setTop (mkF m 155 _ [(.int (0 : Int32))])) t
        refine XS.istore P728.here P728.x rfl (hb hby at_155) rfl (l' := #[.val (.int p0), .val (.int p1), .val (.int p2), .val (.int (3 : Int32)), .val (.int (0 : Int32)), .val (.ref b697), .val (.int (1 : Int32)), .val (.int (0 : Int32)), .unset, .unset]) rfl ?_
        show Steps p.tables e below (T727.setTop (mkF m 157 _ [])) t
        refine XS.aload P728.here P728.x rfl (hb hby at_157) rfl rfl ?_
        exact kk
      refine wCallV P728 (m_size l Z a0 hw b697 (0 : Int32) h722 F716) (tw29 hw) (tw30 hw) (tw32 hw) (tw32 hw) (tw31 hw) (tw2 hw) (tw33 hw) (by decide) f726 (by rw [hml]; rfl) (lenOf pd_4 rfl) (argsL := []) (rest := []) rfl rfl (W := 0) (Nat.le_of_eq rfl) (by decide) (by decide) (by decide) (by decide) (by simp) (hb hby at_159) rfl (k' := 3) (n' := 36) rfl rfl ?_
      rintro T729 _ _ P730 - ⟨rfl, rfl⟩
      show Done _ _ _ _ _ _ _ _ _ _ _ _ _ _ _ T729 (mkF m 162 _ [(.int (0 : Int32))])
      refine Done.step (T' := T729) (g' := (mkF m 176 #[.val (.int p0), .val (.int p1), .val (.int p2), .val (.int (3 : Int32)), .val (.int (0 : Int32)), .val (.ref b697), .val (.int (1 : Int32)), .val (.int (0 : Int32)), .val (.int (1 : Int32)), .unset] [(.ref b697)])) (fun t kk => ?_) ?_
      · show Steps p.tables e below (T729.setTop (mkF m 162 _ [(.int (0 : Int32))])) t
        refine XS.iload P730.here P730.x rfl (hb hby at_162) rfl ?_
        show Steps p.tables e below (T729.setTop (mkF m 164 _ [(.int (0 : Int32)), (.int (0 : Int32))])) t
        refine XS.icmpNo P730.here P730.x rfl (hb hby at_164) rfl (iiW_ne_f (by decide)) ?_
        show Steps p.tables e below (T729.setTop (mkF m 167 _ [])) t
        refine XS.iconst P730.here P730.x rfl (hb hby at_167) ?_
        show Steps p.tables e below (T729.setTop (mkF m 168 _ [(.int (1 : Int32))])) t
        refine XS.goto P730.here P730.x rfl (pc0 := 168) (pc' := 172) rfl (hb hby at_168) (by decide) (by decide) ?_
        show Steps p.tables e below (T729.setTop (mkF m 172 _ [(.int (1 : Int32))])) t
        refine XS.istore P730.here P730.x rfl (hb hby at_172) rfl (l' := #[.val (.int p0), .val (.int p1), .val (.int p2), .val (.int (3 : Int32)), .val (.int (0 : Int32)), .val (.ref b697), .val (.int (1 : Int32)), .val (.int (0 : Int32)), .val (.int (1 : Int32)), .unset]) rfl ?_
        show Steps p.tables e below (T729.setTop (mkF m 174 _ [])) t
        refine XS.aload P730.here P730.x rfl (hb hby at_174) rfl rfl ?_
        exact kk
      refine wCallV P730 (m_isFullf l Z a0 hw b697 (0 : Int32) (3 : Int32) h722 F716 F719 (by decide)) (tw21 hw) (tw22 hw) (tw24 hw) (tw24 hw) (tw23 hw) (tw2 hw) (tw25 hw) (by decide) f726 (by rw [hml]; rfl) (lenOf pd_3 rfl) (argsL := []) (rest := []) rfl rfl (W := 0) (Nat.le_of_eq rfl) (by decide) (by decide) (by decide) (by decide) (by simp) (hb hby at_176) rfl (k' := 3) (n' := 36) rfl rfl ?_
      rintro T731 _ _ P732 - ⟨rfl, rfl⟩
      show Done _ _ _ _ _ _ _ _ _ _ _ _ _ _ _ T731 (mkF m 179 _ [(.int (0 : Int32))])
      refine Done.step (T' := T731) (g' := (mkF m 220 #[.val (.int p0), .val (.int p1), .val (.int p2), .val (.int (3 : Int32)), .val (.int (0 : Int32)), .val (.ref b697), .val (.int (1 : Int32)), .val (.int (0 : Int32)), .val (.int (1 : Int32)), .val (.int (1 : Int32))] [(.int (1 : Int32))])) (fun t kk => ?_) ?_
      · show Steps p.tables e below (T731.setTop (mkF m 179 _ [(.int (0 : Int32))])) t
        refine XS.iload P732.here P732.x rfl (hb hby at_179) rfl ?_
        show Steps p.tables e below (T731.setTop (mkF m 181 _ [(.int (0 : Int32)), (.int (0 : Int32))])) t
        refine XS.iloadN P732.here P732.x rfl (hb hby at_181) rfl ?_
        show Steps p.tables e below (T731.setTop (mkF m 182 _ [(.int (3 : Int32)), (.int (0 : Int32)), (.int (0 : Int32))])) t
        refine XS.icmpYes P732.here P732.x rfl (pc0 := 182) (pc' := 189) rfl (hb hby at_182) rfl (iiW_ne_t (by decide)) (by decide) (by decide) ?_
        show Steps p.tables e below (T731.setTop (mkF m 189 _ [(.int (0 : Int32))])) t
        refine XS.iconst P732.here P732.x rfl (hb hby at_189) ?_
        show Steps p.tables e below (T731.setTop (mkF m 190 _ [(.int (0 : Int32)), (.int (0 : Int32))])) t
        refine XS.icmpNo P732.here P732.x rfl (hb hby at_190) rfl (iiW_ne_f (by decide)) ?_
        show Steps p.tables e below (T731.setTop (mkF m 193 _ [])) t
        refine XS.iconst P732.here P732.x rfl (hb hby at_193) ?_
        show Steps p.tables e below (T731.setTop (mkF m 194 _ [(.int (1 : Int32))])) t
        refine XS.goto P732.here P732.x rfl (pc0 := 194) (pc' := 198) rfl (hb hby at_194) (by decide) (by decide) ?_
        show Steps p.tables e below (T731.setTop (mkF m 198 _ [(.int (1 : Int32))])) t
        refine XS.istore P732.here P732.x rfl (hb hby at_198) rfl (l' := #[.val (.int p0), .val (.int p1), .val (.int p2), .val (.int (3 : Int32)), .val (.int (0 : Int32)), .val (.ref b697), .val (.int (1 : Int32)), .val (.int (0 : Int32)), .val (.int (1 : Int32)), .val (.int (1 : Int32))]) rfl ?_
        show Steps p.tables e below (T731.setTop (mkF m 200 _ [])) t
        refine XS.iload P732.here P732.x rfl (hb hby at_200) rfl ?_
        show Steps p.tables e below (T731.setTop (mkF m 202 _ [(.int (1 : Int32))])) t
        refine XS.ifNo P732.here P732.x rfl (hb hby at_202) rfl (i0W_eq_f (by decide)) ?_
        show Steps p.tables e below (T731.setTop (mkF m 205 _ [])) t
        refine XS.iload P732.here P732.x rfl (hb hby at_205) rfl ?_
        show Steps p.tables e below (T731.setTop (mkF m 207 _ [(.int (1 : Int32))])) t
        refine XS.ifNo P732.here P732.x rfl (hb hby at_207) rfl (i0W_eq_f (by decide)) ?_
        show Steps p.tables e below (T731.setTop (mkF m 210 _ [])) t
        refine XS.iload P732.here P732.x rfl (hb hby at_210) rfl ?_
        show Steps p.tables e below (T731.setTop (mkF m 212 _ [(.int (1 : Int32))])) t
        refine XS.ifNo P732.here P732.x rfl (hb hby at_212) rfl (i0W_eq_f (by decide)) ?_
        show Steps p.tables e below (T731.setTop (mkF m 215 _ [])) t
        refine XS.iconst P732.here P732.x rfl (hb hby at_215) ?_
        show Steps p.tables e below (T731.setTop (mkF m 216 _ [(.int (1 : Int32))])) t
        refine XS.goto P732.here P732.x rfl (pc0 := 216) (pc' := 220) rfl (hb hby at_216) (by decide) (by decide) ?_
        exact kk
      exact wRet P732 (t := .boolean) hret (narrow_01 (Or.inr rfl)) (Or.inl ⟨rfl, Or.inr (Or.inl rfl), _, rfl⟩) (hb hby at_220) rfl
    · show Done _ _ _ _ _ _ _ _ _ _ _ _ _ _ _ T0 (mkF m 34 _ [])
      refine wNew P0 (tw0 hw) (tw1 hw) (tw2 hw) (hb hby at_34) rfl (by decide) (by decide) (k' := 1) (n' := 4) rfl rfl (fun T733 h735 b736 g737 lt738 P734 E739 X740 D741 => ?_)
      have ge_b736 : h0.size ≤ b736 := by have := P0.ge; omega
      have F742 : Fld Z h735 b736 "com/example/urnwise/urnwise/sampler/SmallestKeys" "capacity" "I" (.int (0 : Int32)) := D741 (Or.inr (tw10 hw)) (ty := .int) (by decide)
      have F743 : Fld Z h735 b736 "com/example/urnwise/urnwise/sampler/SmallestKeys" "keys" "[D" .null := D741 (Or.inl (tw17 hw)) (ty := (.array .double)) (by decide)
      have F744 : Fld Z h735 b736 "com/example/urnwise/urnwise/sampler/SmallestKeys" "indices" "[I" .null := D741 (Or.inl (tw20 hw)) (ty := (.array .int)) (by decide)
      have F745 : Fld Z h735 b736 "com/example/urnwise/urnwise/sampler/SmallestKeys" "size" "I" (.int (0 : Int32)) := D741 (Or.inl (tw27 hw)) (ty := .int) (by decide)
      show Done _ _ _ _ _ _ _ _ _ _ _ _ _ _ _ T733 (mkF m 37 _ [(.ref b736)])
      refine Done.stepL (pc' := 39) (st' := [(.int (3 : Int32)), (.ref b736), (.ref b736)]) (fun t kk => ?_) ?_
      · show Steps p.tables e below (T733.setTop (mkF m 37 _ [(.ref b736)])) t
        refine XS.dup P734.here P734.x rfl (hb hby at_37) rfl rfl ?_
        show Steps p.tables e below (T733.setTop (mkF m 38 _ [(.ref b736), (.ref b736)])) t
        refine XS.iloadN P734.here P734.x rfl (hb hby at_38) rfl ?_
        exact kk
      refine wCallI P734 (m_hpInit l Z a0 hw b736 (3 : Int32) 3 h735 X740 F742 F743 F744 (by decide) (by decide) F745) rfl (tw3 hw) (tw4 hw) (tw2 hw) (tw5 hw) (by decide) (a := b736) (by rw [hml]; rfl) (lenOf pd_2 rfl) (argsL := [(.int (3 : Int32))]) (rest := [(.ref b736)]) rfl rfl (W := 1) (Nat.le_of_eq rfl) (by decide) (by decide) (by decide) (by decide) (allS (Or.inr ge_b736) all0) (hb hby at_39) rfl (k' := 3) (n' := 36) rfl rfl ?_
      rintro T746 h761 _ P747 K762 ⟨rfl, b748, b749, q750, q751, q752, q753, q754, F755, F756, F757, F758, A759, A760⟩
      have szh761 : h735.size ≤ h761.size := K762.1
      have ge_b748 : h0.size ≤ b748 := by have := q750; have := P734.ge; omega
      have ge_b749 : h0.size ≤ b749 := by have := q751; have := P734.ge; omega
      have dK0 : ∀ i, i < 3 → DInt ((fun _ => (0 : Int)) i) ((fun _ => (0 : UInt64)) i) := fun i _ => dint_c0
      show Done _ _ _ _ _ _ _ _ _ _ _ _ _ _ _ T746 (mkF m 42 _ [(.ref b736)])
      refine Done.step (T' := T746) (g' := (mkF m 46 #[.val (.int p0), .val (.int p1), .val (.int p2), .val (.int (3 : Int32)), .val (.int (1 : Int32)), .val (.ref b736), .unset, .unset, .unset, .unset] [(.ref b736)])) (fun t kk => ?_) ?_
      · show Steps p.tables e below (T746.setTop (mkF m 42 _ [(.ref b736)])) t
        refine XS.astore P747.here P747.x rfl (hb hby at_42) rfl rfl (l' := #[.val (.int p0), .val (.int p1), .val (.int p2), .val (.int (3 : Int32)), .val (.int (1 : Int32)), .val (.ref b736), .unset, .unset, .unset, .unset]) rfl ?_
        show Steps p.tables e below (T746.setTop (mkF m 44 _ [])) t
        refine XS.aload P747.here P747.x rfl (hb hby at_44) rfl rfl ?_
        exact kk
      have f765 := (X740.keep K762)
      refine wCallV P747 (m_isFullf l Z a0 hw b736 (0 : Int32) (3 : Int32) h761 F755 F758 (by decide)) (tw21 hw) (tw22 hw) (tw24 hw) (tw24 hw) (tw23 hw) (tw2 hw) (tw25 hw) (by decide) f765 (by rw [hml]; rfl) (lenOf pd_3 rfl) (argsL := []) (rest := []) rfl rfl (W := 0) (Nat.le_of_eq rfl) (by decide) (by decide) (by decide) (by decide) (by simp) (hb hby at_46) rfl (k' := 3) (n' := 36) rfl rfl ?_
      rintro T763 _ _ P764 - ⟨rfl, rfl⟩
      show Done _ _ _ _ _ _ _ _ _ _ _ _ _ _ _ T763 (mkF m 49 _ [(.int (0 : Int32))])
      refine Done.step (T' := T763) (g' := (mkF m 83 #[.val (.int p0), .val (.int p1), .val (.int p2), .val (.int (3 : Int32)), .val (.int (1 : Int32)), .val (.ref b736), .val (.int (1 : Int32)), .unset, .unset, .unset] [(.int (0 : Int32)), (.double (FP.i2d (p2 &&& (255 : Int32)))), (.ref b736)])) (fun t kk => ?_) ?_
      · show Steps p.tables e below (T763.setTop (mkF m 49 _ [(.int (0 : Int32))])) t
        refine XS.iloadN P764.here P764.x rfl (hb hby at_49) rfl ?_
        show Steps p.tables e below (T763.setTop (mkF m 50 _ [(.int (3 : Int32)), (.int (0 : Int32))])) t
        refine XS.ifYes P764.here P764.x rfl (pc0 := 50) (pc' := 57) rfl (hb hby at_50) rfl (i0W_ne_t (by decide)) (by decide) (by decide) ?_
        show Steps p.tables e below (T763.setTop (mkF m 57 _ [(.int (0 : Int32))])) t
        refine XS.iconst P764.here P764.x rfl (hb hby at_57) ?_
        show Steps p.tables e below (T763.setTop (mkF m 58 _ [(.int (0 : Int32)), (.int (0 : Int32))])) t
        refine XS.icmpNo P764.here P764.x rfl (hb hby at_58) rfl (iiW_ne_f (by decide)) ?_
        show Steps p.tables e below (T763.setTop (mkF m 61 _ [])) t
        refine XS.iconst P764.here P764.x rfl (hb hby at_61) ?_
        show Steps p.tables e below (T763.setTop (mkF m 62 _ [(.int (1 : Int32))])) t
        refine XS.goto P764.here P764.x rfl (pc0 := 62) (pc' := 66) rfl (hb hby at_62) (by decide) (by decide) ?_
        show Steps p.tables e below (T763.setTop (mkF m 66 _ [(.int (1 : Int32))])) t
        refine XS.istore P764.here P764.x rfl (hb hby at_66) rfl (l' := #[.val (.int p0), .val (.int p1), .val (.int p2), .val (.int (3 : Int32)), .val (.int (1 : Int32)), .val (.ref b736), .val (.int (1 : Int32)), .unset, .unset, .unset]) rfl ?_
        show Steps p.tables e below (T763.setTop (mkF m 68 _ [])) t
        refine XS.iload P764.here P764.x rfl (hb hby at_68) rfl ?_
        show Steps p.tables e below (T763.setTop (mkF m 70 _ [(.int (1 : Int32))])) t
        refine XS.iconst P764.here P764.x rfl (hb hby at_70) ?_
        show Steps p.tables e below (T763.setTop (mkF m 71 _ [(.int (1 : Int32)), (.int (1 : Int32))])) t
        refine XS.icmpNo P764.here P764.x rfl (hb hby at_71) rfl (iiW_lt_f (by decide)) ?_
        show Steps p.tables e below (T763.setTop (mkF m 74 _ [])) t
        refine XS.aload P764.here P764.x rfl (hb hby at_74) rfl rfl ?_
        show Steps p.tables e below (T763.setTop (mkF m 76 _ [(.ref b736)])) t
        refine XS.iloadN P764.here P764.x rfl (hb hby at_76) rfl ?_
        show Steps p.tables e below (T763.setTop (mkF m 77 _ [(.int p2), (.ref b736)])) t
        refine XS.sipush P764.here P764.x rfl (hb hby at_77) ?_
        show Steps p.tables e below (T763.setTop (mkF m 80 _ [(.int (255 : Int32)), (.int p2), (.ref b736)])) t
        refine XS.iand P764.here P764.x rfl (hb hby at_80) rfl ?_
        show Steps p.tables e below (T763.setTop (mkF m 81 _ [(.int (p2 &&& (255 : Int32))), (.ref b736)])) t
        refine XS.i2dS P764.here P764.x rfl (hb hby at_81) rfl rfl ?_
        show Steps p.tables e below (T763.setTop (mkF m 82 _ [(.double (FP.i2d (p2 &&& (255 : Int32)))), (.ref b736)])) t
        refine XS.iconst P764.here P764.x rfl (hb hby at_82) ?_
        exact kk
      refine wCallV P764 (m_offA l Z a0 hw b736 b748 b749 (0 : Int32) 3 0 (fun _ => (0 : UInt64)) (fun _ => (0 : Int)) (fun _ => (0 : Int32)) (3 : Int32) (FP.i2d (p2 &&& (255 : Int32))) (0 : Int32) (p2 &&& (255 : Int32)).toInt (1 : Int32) h761 f765 F756 F757 F755 F758 A759 A760 (by first | assumption | exact Ne.symm (by assumption) | exact adr_ne (by omega)) (by first | assumption | exact Ne.symm (by assumption) | exact adr_ne (by omega)) q752 (by decide) rfl dK0 (i2d_int (p2 &&& (255 : Int32))) (by decide) (by omega) (by decide)) (tw35 hw) (tw36 hw) (tw38 hw) (tw38 hw) (tw37 hw) (tw2 hw) (tw39 hw) (by decide) f765 (by rw [hml]; rfl) (lenOf pd_5 rfl) (argsL := [(.double (FP.i2d (p2 &&& (255 : Int32)))), (.int (0 : Int32))]) (rest := []) rfl rfl (W := 0) (Nat.le_of_eq rfl) (by decide) (by decide) (by decide) (by decide) (allS (Or.inr ge_b736) (allS (Or.inr ge_b748) (allS (Or.inr ge_b749) all0))) (hb hby at_83) rfl (k' := 3) (n' := 36) rfl rfl ?_
      rintro T766 h776 _ P767 K777 ⟨rfl, kf775, F768, F769, F770, F771, A772, dK774, A773⟩
      have szh776 : h761.size ≤ h776.size := K777.1
      generalize gK1 : (own_of 0 true (fun _ => (0 : Int)) (fun _ => (0 : Int32)) (p2 &&& (255 : Int32)).toInt (0 : Int32)).1 = K1 at dK774
      generalize gJ1 : (own_of 0 true (fun _ => (0 : Int)) (fun _ => (0 : Int32)) (p2 &&& (255 : Int32)).toInt (0 : Int32)).2 = J1 at A773
      show Done _ _ _ _ _ _ _ _ _ _ _ _ _ _ _ T766 (mkF m 86 _ [])
      refine Done.stepL (pc' := 152) (st' := [(.int (3 : Int32)), (.int (1 : Int32))]) (fun t kk => ?_) ?_
      · show Steps p.tables e below (T766.setTop (mkF m 86 _ [])) t
        refine XS.iload P767.here P767.x rfl (hb hby at_86) rfl ?_
        show Steps p.tables e below (T766.setTop (mkF m 88 _ [(.int (1 : Int32))])) t
        refine XS.iconst P767.here P767.x rfl (hb hby at_88) ?_
        show Steps p.tables e below (T766.setTop (mkF m 89 _ [(.int (2 : Int32)), (.int (1 : Int32))])) t
        refine XS.icmpYes P767.here P767.x rfl (pc0 := 89) (pc' := 107) rfl (hb hby at_89) rfl (iiW_lt_t (by decide)) (by decide) (by decide) ?_
        show Steps p.tables e below (T766.setTop (mkF m 107 _ [])) t
        refine XS.iload P767.here P767.x rfl (hb hby at_107) rfl ?_
        show Steps p.tables e below (T766.setTop (mkF m 109 _ [(.int (1 : Int32))])) t
        refine XS.iconst P767.here P767.x rfl (hb hby at_109) ?_
        show Steps p.tables e below (T766.setTop (mkF m 110 _ [(.int (3 : Int32)), (.int (1 : Int32))])) t
        refine XS.icmpYes P767.here P767.x rfl (pc0 := 110) (pc' := 128) rfl (hb hby at_110) rfl (iiW_lt_t (by decide)) (by decide) (by decide) ?_
        show Steps p.tables e below (T766.setTop (mkF m 128 _ [])) t
        refine XS.iload P767.here P767.x rfl (hb hby at_128) rfl ?_
        show Steps p.tables e below (T766.setTop (mkF m 130 _ [(.int (1 : Int32))])) t
        refine XS.iconst P767.here P767.x rfl (hb hby at_130) ?_
        show Steps p.tables e below (T766.setTop (mkF m 131 _ [(.int (4 : Int32)), (.int (1 : Int32))])) t
        refine XS.icmpYes P767.here P767.x rfl (pc0 := 131) (pc' := 149) rfl (hb hby at_131) rfl (iiW_lt_t (by decide)) (by decide) (by decide) ?_
        show Steps p.tables e below (T766.setTop (mkF m 149 _ [])) t
        refine XS.iload P767.here P767.x rfl (hb hby at_149) rfl ?_
        show Steps p.tables e below (T766.setTop (mkF m 151 _ [(.int (1 : Int32))])) t
        refine XS.iloadN P767.here P767.x rfl (hb hby at_151) rfl ?_
        exact kk
      refine wCallS P767 (m_minf l Z a0 hw (1 : Int32) (3 : Int32) h776 (by decide)) (tw28 hw) (tw12 hw) (tw13 hw) (tw14 hw) (by decide) (by rw [hml]; rfl) (lenOf pd_1 rfl) (argsL := [(.int (1 : Int32)), (.int (3 : Int32))]) (rest := []) rfl rfl (W := 0) (Nat.le_of_eq rfl) (by decide) (by decide) (by decide) (by decide) (by simp) (hb hby at_152) rfl (k' := 3) (n' := 36) rfl rfl ?_
      rintro T778 _ _ P779 - ⟨rfl, rfl⟩
      show Done _ _ _ _ _ _ _ _ _ _ _ _ _ _ _ T778 (mkF m 155 _ [(.int (1 : Int32))])
      refine Done.step (T' := T778) (g' := (mkF m 159 #[.val (.int p0), .val (.int p1), .val (.int p2), .val (.int (3 : Int32)), .val (.int (1 : Int32)), .val (.ref b736), .val (.int (1 : Int32)), .val (.int (1 : Int32)), .unset, .unset] [(.ref b736)])) (fun t kk => ?_) ?_
      · show Steps p.tables e below (T778.setTop (mkF m 155 _ [(.int (1 : Int32))])) t
        refine XS.istore P779.here P779.x rfl (hb hby at_155) rfl (l' := #[.val (.int p0), .val (.int p1), .val (.int p2), .val (.int (3 : Int32)), .val (.int (1 : Int32)), .val (.ref b736), .val (.int (1 : Int32)), .val (.int (1 : Int32)), .unset, .unset]) rfl ?_
        show Steps p.tables e below (T778.setTop (mkF m 157 _ [])) t
        refine XS.aload P779.here P779.x rfl (hb hby at_157) rfl rfl ?_
        exact kk
      have f782 := (f765.keep K777)
      refine wCallV P779 (m_size l Z a0 hw b736 (1 : Int32) h776 F768) (tw29 hw) (tw30 hw) (tw32 hw) (tw32 hw) (tw31 hw) (tw2 hw) (tw33 hw) (by decide) f782 (by rw [hml]; rfl) (lenOf pd_4 rfl) (argsL := []) (rest := []) rfl rfl (W := 0) (Nat.le_of_eq rfl) (by decide) (by decide) (by decide) (by decide) (by simp) (hb hby at_159) rfl (k' := 3) (n' := 36) rfl rfl ?_
      rintro T780 _ _ P781 - ⟨rfl, rfl⟩
      show Done _ _ _ _ _ _ _ _ _ _ _ _ _ _ _ T780 (mkF m 162 _ [(.int (1 : Int32))])
      refine Done.step (T' := T780) (g' := (mkF m 176 #[.val (.int p0), .val (.int p1), .val (.int p2), .val (.int (3 : Int32)), .val (.int (1 : Int32)), .val (.ref b736), .val (.int (1 : Int32)), .val (.int (1 : Int32)), .val (.int (1 : Int32)), .unset] [(.ref b736)])) (fun t kk => ?_) ?_
      · show Steps p.tables e below (T780.setTop (mkF m 162 _ [(.int (1 : Int32))])) t
        refine XS.iload P781.here P781.x rfl (hb hby at_162) rfl ?_
        show Steps p.tables e below (T780.setTop (mkF m 164 _ [(.int (1 : Int32)), (.int (1 : Int32))])) t
        refine XS.icmpNo P781.here P781.x rfl (hb hby at_164) rfl (iiW_ne_f (by decide)) ?_
        show Steps p.tables e below (T780.setTop (mkF m 167 _ [])) t
        refine XS.iconst P781.here P781.x rfl (hb hby at_167) ?_
        show Steps p.tables e below (T780.setTop (mkF m 168 _ [(.int (1 : Int32))])) t
        refine XS.goto P781.here P781.x rfl (pc0 := 168) (pc' := 172) rfl (hb hby at_168) (by decide) (by decide) ?_
        show Steps p.tables e below (T780.setTop (mkF m 172 _ [(.int (1 : Int32))])) t
        refine XS.istore P781.here P781.x rfl (hb hby at_172) rfl (l' := #[.val (.int p0), .val (.int p1), .val (.int p2), .val (.int (3 : Int32)), .val (.int (1 : Int32)), .val (.ref b736), .val (.int (1 : Int32)), .val (.int (1 : Int32)), .val (.int (1 : Int32)), .unset]) rfl ?_
        show Steps p.tables e below (T780.setTop (mkF m 174 _ [])) t
        refine XS.aload P781.here P781.x rfl (hb hby at_174) rfl rfl ?_
        exact kk
      refine wCallV P781 (m_isFullf l Z a0 hw b736 (1 : Int32) (3 : Int32) h776 F768 F771 (by decide)) (tw21 hw) (tw22 hw) (tw24 hw) (tw24 hw) (tw23 hw) (tw2 hw) (tw25 hw) (by decide) f782 (by rw [hml]; rfl) (lenOf pd_3 rfl) (argsL := []) (rest := []) rfl rfl (W := 0) (Nat.le_of_eq rfl) (by decide) (by decide) (by decide) (by decide) (by simp) (hb hby at_176) rfl (k' := 3) (n' := 36) rfl rfl ?_
      rintro T783 _ _ P784 - ⟨rfl, rfl⟩
      show Done _ _ _ _ _ _ _ _ _ _ _ _ _ _ _ T783 (mkF m 179 _ [(.int (0 : Int32))])
      refine Done.step (T' := T783) (g' := (mkF m 220 #[.val (.int p0), .val (.int p1), .val (.int p2), .val (.int (3 : Int32)), .val (.int (1 : Int32)), .val (.ref b736), .val (.int (1 : Int32)), .val (.int (1 : Int32)), .val (.int (1 : Int32)), .val (.int (1 : Int32))] [(.int (1 : Int32))])) (fun t kk => ?_) ?_
      · show Steps p.tables e below (T783.setTop (mkF m 179 _ [(.int (0 : Int32))])) t
        refine XS.iload P784.here P784.x rfl (hb hby at_179) rfl ?_
        show Steps p.tables e below (T783.setTop (mkF m 181 _ [(.int (1 : Int32)), (.int (0 : Int32))])) t
        refine XS.iloadN P784.here P784.x rfl (hb hby at_181) rfl ?_
        show Steps p.tables e below (T783.setTop (mkF m 182 _ [(.int (3 : Int32)), (.int (1 : Int32)), (.int (0 : Int32))])) t
        refine XS.icmpYes P784.here P784.x rfl (pc0 := 182) (pc' := 189) rfl (hb hby at_182) rfl (iiW_ne_t (by decide)) (by decide) (by decide) ?_
        show Steps p.tables e below (T783.setTop (mkF m 189 _ [(.int (0 : Int32))])) t
        refine XS.iconst P784.here P784.x rfl (hb hby at_189) ?_
        show Steps p.tables e below (T783.setTop (mkF m 190 _ [(.int (0 : Int32)), (.int (0 : Int32))])) t
        refine XS.icmpNo P784.here P784.x rfl (hb hby at_190) rfl (iiW_ne_f (by decide)) ?_
        show Steps p.tables e below (T783.setTop (mkF m 193 _ [])) t
        refine XS.iconst P784.here P784.x rfl (hb hby at_193) ?_
        show Steps p.tables e below (T783.setTop (mkF m 194 _ [(.int (1 : Int32))])) t
        refine XS.goto P784.here P784.x rfl (pc0 := 194) (pc' := 198) rfl (hb hby at_194) (by decide) (by decide) ?_
        show Steps p.tables e below (T783.setTop (mkF m 198 _ [(.int (1 : Int32))])) t
        refine XS.istore P784.here P784.x rfl (hb hby at_198) rfl (l' := #[.val (.int p0), .val (.int p1), .val (.int p2), .val (.int (3 : Int32)), .val (.int (1 : Int32)), .val (.ref b736), .val (.int (1 : Int32)), .val (.int (1 : Int32)), .val (.int (1 : Int32)), .val (.int (1 : Int32))]) rfl ?_
        show Steps p.tables e below (T783.setTop (mkF m 200 _ [])) t
        refine XS.iload P784.here P784.x rfl (hb hby at_200) rfl ?_
        show Steps p.tables e below (T783.setTop (mkF m 202 _ [(.int (1 : Int32))])) t
        refine XS.ifNo P784.here P784.x rfl (hb hby at_202) rfl (i0W_eq_f (by decide)) ?_
        show Steps p.tables e below (T783.setTop (mkF m 205 _ [])) t
        refine XS.iload P784.here P784.x rfl (hb hby at_205) rfl ?_
        show Steps p.tables e below (T783.setTop (mkF m 207 _ [(.int (1 : Int32))])) t
        refine XS.ifNo P784.here P784.x rfl (hb hby at_207) rfl (i0W_eq_f (by decide)) ?_
        show Steps p.tables e below (T783.setTop (mkF m 210 _ [])) t
        refine XS.iload P784.here P784.x rfl (hb hby at_210) rfl ?_
        show Steps p.tables e below (T783.setTop (mkF m 212 _ [(.int (1 : Int32))])) t
        refine XS.ifNo P784.here P784.x rfl (hb hby at_212) rfl (i0W_eq_f (by decide)) ?_
        show Steps p.tables e below (T783.setTop (mkF m 215 _ [])) t
        refine XS.iconst P784.here P784.x rfl (hb hby at_215) ?_
        show Steps p.tables e below (T783.setTop (mkF m 216 _ [(.int (1 : Int32))])) t
        refine XS.goto P784.here P784.x rfl (pc0 := 216) (pc' := 220) rfl (hb hby at_216) (by decide) (by decide) ?_
        exact kk
      exact wRet P784 (t := .boolean) hret (narrow_01 (Or.inr rfl)) (Or.inl ⟨rfl, Or.inr (Or.inl rfl), _, rfl⟩) (hb hby at_220) rfl
    · show Done _ _ _ _ _ _ _ _ _ _ _ _ _ _ _ T0 (mkF m 34 _ [])
      refine wNew P0 (tw0 hw) (tw1 hw) (tw2 hw) (hb hby at_34) rfl (by decide) (by decide) (k' := 1) (n' := 4) rfl rfl (fun T785 h787 b788 g789 lt790 P786 E791 X792 D793 => ?_)
      have ge_b788 : h0.size ≤ b788 := by have := P0.ge; omega
      have F794 : Fld Z h787 b788 "com/example/urnwise/urnwise/sampler/SmallestKeys" "capacity" "I" (.int (0 : Int32)) := D793 (Or.inr (tw10 hw)) (ty := .int) (by decide)
      have F795 : Fld Z h787 b788 "com/example/urnwise/urnwise/sampler/SmallestKeys" "keys" "[D" .null := D793 (Or.inl (tw17 hw)) (ty := (.array .double)) (by decide)
      have F796 : Fld Z h787 b788 "com/example/urnwise/urnwise/sampler/SmallestKeys" "indices" "[I" .null := D793 (Or.inl (tw20 hw)) (ty := (.array .int)) (by decide)
      have F797 : Fld Z h787 b788 "com/example/urnwise/urnwise/sampler/SmallestKeys" "size" "I" (.int (0 : Int32)) := D793 (Or.inl (tw27 hw)) (ty := .int) (by decide)
      show Done _ _ _ _ _ _ _ _ _ _ _ _ _ _ _ T785 (mkF m 37 _ [(.ref b788)])
      refine Done.stepL (pc' := 39) (st' := [(.int (3 : Int32)), (.ref b788), (.ref b788)]) (fun t kk => ?_) ?_
      · show Steps p.tables e below (T785.setTop (mkF m 37 _ [(.ref b788)])) t
        refine XS.dup P786.here P786.x rfl (hb hby at_37) rfl rfl ?_
        show Steps p.tables e below (T785.setTop (mkF m 38 _ [(.ref b788), (.ref b788)])) t
        refine XS.iloadN P786.here P786.x rfl (hb hby at_38) rfl ?_
        exact kk
      refine wCallI P786 (m_hpInit l Z a0 hw b788 (3 : Int32) 3 h787 X792 F794 F795 F796 (by decide) (by decide) F797) rfl (tw3 hw) (tw4 hw) (tw2 hw) (tw5 hw) (by decide) (a := b788) (by rw [hml]; rfl) (lenOf pd_2 rfl) (argsL := [(.int (3 : Int32))]) (rest := [(.ref b788)]) rfl rfl (W := 1) (Nat.le_of_eq rfl) (by decide) (by decide) (by decide) (by decide) (allS (Or.inr ge_b788) all0) (hb hby at_39) rfl (k' := 3) (n' := 36) rfl rfl ?_
      rintro T798 h813 _ P799 K814 ⟨rfl, b800, b801, q802, q803, q804, q805, q806, F807, F808, F809, F810, A811, A812⟩
      have szh813 : h787.size ≤ h813.size := K814.1
      have ge_b800 : h0.size ≤ b800 := by have := q802; have := P786.ge; omega
      have ge_b801 : h0.size ≤ b801 := by have := q803; have := P786.ge; omega
      have dK0 : ∀ i, i < 3 → DInt ((fun _ => (0 : Int)) i) ((fun _ => (0 : UInt64)) i) := fun i _ => dint_c0
      show Done _ _ _ _ _ _ _ _ _ _ _ _ _ _ _ T798 (mkF m 42 _ [(.ref b788)])
      refine Done.step (T' := T798) (g' := (mkF m 46 #[.val (.int p0), .val (.int p1), .val (.int p2), .val (.int (3 : Int32)), .val (.int (2 : Int32)), .val (.ref b788), .unset, .unset, .unset, .unset] [(.ref b788)])) (fun t kk => ?_) ?_
      · show Steps p.tables e below (T798.setTop (mkF m 42 _ [(.ref b788)])) t
        refine XS.astore P799.here P799.x rfl (hb hby at_42) rfl rfl (l' := #[.val (.int p0), .val (.int p1), .val (.int p2), .val (.int (3 : Int32)), .val (.int (2 : Int32)), .val (.ref b788), .unset, .unset, .unset, .unset]) rfl ?_
        show Steps p.tables e below (T798.setTop (mkF m 44 _ [])) t
        refine XS.aload P799.here P799.x rfl (hb hby at_44) rfl rfl ?_
        exact kk
      have f817 := (X792.keep K814)
      refine wCallV P799 (m_isFullf l Z a0 hw b788 (0 : Int32) (3 : Int32) h813 F807 F810 (by decide)) (tw21 hw) (tw22 hw) (tw24 hw) (tw24 hw) (tw23 hw) (tw2 hw) (tw25 hw) (by decide) f817 (by rw [hml]; rfl) (lenOf pd_3 rfl) (argsL := []) (rest := []) rfl rfl (W := 0) (Nat.le_of_eq rfl) (by decide) (by decide) (by decide) (by decide) (by simp) (hb hby at_46) rfl (k' := 3) (n' := 36) rfl rfl ?_
      rintro T815 _ _ P816 - ⟨rfl, rfl⟩
      show Done _ _ _ _ _ _ _ _ _ _ _ _ _ _ _ T815 (mkF m 49 _ [(.int (0 : Int32))])
      refine Done.step (T' := T815) (g' := (mkF m 83 #[.val (.int p0), .val (.int p1), .val (.int p2), .val (.int (3 : Int32)), .val (.int (2 : Int32)), .val (.ref b788), .val (.int (1 : Int32)), .unset, .unset, .unset] [(.int (0 : Int32)), (.double (FP.i2d (p2 &&& (255 : Int32)))), (.ref b788)])) (fun t kk => ?_) ?_
      · show Steps p.tables e below (T815.setTop (mkF m 49 _ [(.int (0 : Int32))])) t
        refine XS.iloadN P816.here P816.x rfl (hb hby at_49) rfl ?_
        show Steps p.tables e below (T815.setTop (mkF m 50 _ [(.int (3 : Int32)), (.int (0 : Int32))])) t
        refine XS.ifYes P816.here P816.x rfl (pc0 := 50) (pc' := 57) rfl (hb hby at_50) rfl (i0W_ne_t (by decide)) (by decide) (by decide) ?_
        show Steps p.tables e below (T815.setTop (mkF m 57 _ [(.int (0 : Int32))])) t
        refine XS.iconst P816.here P816.x rfl (hb hby at_57) ?_
        show Steps p.tables e below (T815.setTop (mkF m 58 _ [(.int (0 : Int32)), (.int (0 : Int32))])) t
        refine XS.icmpNo P816.here P816.x rfl (hb hby at_58) rfl (iiW_ne_f (by decide)) ?_
        show Steps p.tables e below (T815.setTop (mkF m 61 _ [])) t
        refine XS.iconst P816.here P816.x rfl (hb hby at_61) ?_
        show Steps p.tables e below (T815.setTop (mkF m 62 _ [(.int (1 : Int32))])) t
        refine XS.goto P816.here P816.x rfl (pc0 := 62) (pc' := 66) rfl (hb hby at_62) (by decide) (by decide) ?_
        show Steps p.tables e below (T815.setTop (mkF m 66 _ [(.int (1 : Int32))])) t
        refine XS.istore P816.here P816.x rfl (hb hby at_66) rfl (l' := #[.val (.int p0), .val (.int p1), .val (.int p2), .val (.int (3 : Int32)), .val (.int (2 : Int32)), .val (.ref b788), .val (.int (1 : Int32)), .unset, .unset, .unset]) rfl ?_
        show Steps p.tables e below (T815.setTop (mkF m 68 _ [])) t
        refine XS.iload P816.here P816.x rfl (hb hby at_68) rfl ?_
        show Steps p.tables e below (T815.setTop (mkF m 70 _ [(.int (2 : Int32))])) t
        refine XS.iconst P816.here P816.x rfl (hb hby at_70) ?_
        show Steps p.tables e below (T815.setTop (mkF m 71 _ [(.int (1 : Int32)), (.int (2 : Int32))])) t
        refine XS.icmpNo P816.here P816.x rfl (hb hby at_71) rfl (iiW_lt_f (by decide)) ?_
        show Steps p.tables e below (T815.setTop (mkF m 74 _ [])) t
        refine XS.aload P816.here P816.x rfl (hb hby at_74) rfl rfl ?_
        show Steps p.tables e below (T815.setTop (mkF m 76 _ [(.ref b788)])) t
        refine XS.iloadN P816.here P816.x rfl (hb hby at_76) rfl ?_
        show Steps p.tables e below (T815.setTop (mkF m 77 _ [(.int p2), (.ref b788)])) t
        refine XS.sipush P816.here P816.x rfl (hb hby at_77) ?_
        show Steps p.tables e below (T815.setTop (mkF m 80 _ [(.int (255 : Int32)), (.int p2), (.ref b788)])) t
        refine XS.iand P816.here P816.x rfl (hb hby at_80) rfl ?_
        show Steps p.tables e below (T815.setTop (mkF m 81 _ [(.int (p2 &&& (255 : Int32))), (.ref b788)])) t
        refine XS.i2dS P816.here P816.x rfl (hb hby at_81) rfl rfl ?_
        show Steps p.tables e below (T815.setTop (mkF m 82 _ [(.double (FP.i2d (p2 &&& (255 : Int32)))), (.ref b788)])) t
        refine XS.iconst P816.here P816.x rfl (hb hby at_82) ?_
        exact kk
      refine wCallV P816 (m_offA l Z a0 hw b788 b800 b801 (0 : Int32) 3 0 (fun _ => (0 : UInt64)) (fun _ => (0 : Int)) (fun _ => (0 : Int32)) (3 : Int32) (FP.i2d (p2 &&& (255 : Int32))) (0 : Int32) (p2 &&& (255 : Int32)).toInt (1 : Int32) h813 f817 F808 F809 F807 F810 A811 A812 (by first | assumption | exact Ne.symm (by assumption) | exact adr_ne (by omega)) (by first | assumption | exact Ne.symm (by assumption) | exact adr_ne (by omega)) q804 (by decide) rfl dK0 (i2d_int (p2 &&& (255 : Int32))) (by decide) (by omega) (by decide)) (tw35 hw) (tw36 hw) (tw38 hw) (tw38 hw) (tw37 hw) (tw2 hw) (tw39 hw) (by decide) f817 (by rw [hml]; rfl) (lenOf pd_5 rfl) (argsL := [(.double (FP.i2d (p2 &&& (255 : Int32)))), (.int (0 : Int32))]) (rest := []) rfl rfl (W := 0) (Nat.le_of_eq rfl) (by decide) (by decide) (by decide) (by decide) (allS (Or.inr ge_b788) (allS (Or.inr ge_b800) (allS (Or.inr ge_b801) all0))) (hb hby at_83) rfl (k' := 3) (n' := 36) rfl rfl ?_
      rintro T818 h828 _ P819 K829 ⟨rfl, kf827, F820, F821, F822, F823, A824, dK826, A825⟩
      have szh828 : h813.size ≤ h828.size := K829.1
      generalize gK1 : (own_of 0 true (fun _ => (0 : Int)) (fun _ => (0 : Int32)) (p2 &&& (255 : Int32)).toInt (0 : Int32)).1 = K1 at dK826
      generalize gJ1 : (own_of 0 true (fun _ => (0 : Int)) (fun _ => (0 : Int32)) (p2 &&& (255 : Int32)).toInt (0 : Int32)).2 = J1 at A825
      show Done _ _ _ _ _ _ _ _ _ _ _ _ _ _ _ T818 (mkF m 86 _ [])
      refine Done.stepL (pc' := 104) (st' := [(.int (1 : Int32)), (.double (FP.i2d (((p2.toUInt32 >>> ((8 : Int32) &&& 31).toUInt32).toInt32) &&& (255 : Int32)))), (.ref b788)]) (fun t kk => ?_) ?_
      · show Steps p.tables e below (T818.setTop (mkF m 86 _ [])) t
        refine XS.iload P819.here P819.x rfl (hb hby at_86) rfl ?_
        show Steps p.tables e below (T818.setTop (mkF m 88 _ [(.int (2 : Int32))])) t
        refine XS.iconst P819.here P819.x rfl (hb hby at_88) ?_
        show Steps p.tables e below (T818.setTop (mkF m 89 _ [(.int (2 : Int32)), (.int (2 : Int32))])) t
        refine XS.icmpNo P819.here P819.x rfl (hb hby at_89) rfl (iiW_lt_f (by decide)) ?_
        show Steps p.tables e below (T818.setTop (mkF m 92 _ [])) t
        refine XS.aload P819.here P819.x rfl (hb hby at_92) rfl rfl ?_
        show Steps p.tables e below (T818.setTop (mkF m 94 _ [(.ref b788)])) t
        refine XS.iloadN P819.here P819.x rfl (hb hby at_94) rfl ?_
        show Steps p.tables e below (T818.setTop (mkF m 95 _ [(.int p2), (.ref b788)])) t
        refine XS.bipush P819.here P819.x rfl (hb hby at_95) ?_
        show Steps p.tables e below (T818.setTop (mkF m 97 _ [(.int (8 : Int32)), (.int p2), (.ref b788)])) t
        refine XS.iushr P819.here P819.x rfl (hb hby at_97) rfl ?_
        show Steps p.tables e below (T818.setTop (mkF m 98 _ [(.int ((p2.toUInt32 >>> ((8 : Int32) &&& 31).toUInt32).toInt32)), (.ref b788)])) t
        refine XS.sipush P819.here P819.x rfl (hb hby at_98) ?_
        show Steps p.tables e below (T818.setTop (mkF m 101 _ [(.int (255 : Int32)), (.int ((p2.toUInt32 >>> ((8 : Int32) &&& 31).toUInt32).toInt32)), (.ref b788)])) t
        refine XS.iand P819.here P819.x rfl (hb hby at_101) rfl ?_
        show Steps p.tables e below (T818.setTop (mkF m 102 _ [(.int (((p2.toUInt32 >>> ((8 : Int32) &&& 31).toUInt32).toInt32) &&& (255 : Int32))), (.ref b788)])) t
        refine XS.i2dS P819.here P819.x rfl (hb hby at_102) rfl rfl ?_
        show Steps p.tables e below (T818.setTop (mkF m 103 _ [(.double (FP.i2d (((p2.toUInt32 >>> ((8 : Int32) &&& 31).toUInt32).toInt32) &&& (255 : Int32)))), (.ref b788)])) t
        refine XS.iconst P819.here P819.x rfl (hb hby at_103) ?_
        exact kk
      have f840 := (f817.keep K829)
      refine wCallV P819 (m_offA l Z a0 hw b788 b800 b801 (1 : Int32) 3 1 kf827 K1 J1 (3 : Int32) (FP.i2d (((p2.toUInt32 >>> ((8 : Int32) &&& 31).toUInt32).toInt32) &&& (255 : Int32))) (1 : Int32) (((p2.toUInt32 >>> ((8 : Int32) &&& 31).toUInt32).toInt32) &&& (255 : Int32)).toInt (2 : Int32) h828 f840 F821 F822 F820 F823 A824 A825 (by first | assumption | exact Ne.symm (by assumption) | exact adr_ne (by omega)) (by first | assumption | exact Ne.symm (by assumption) | exact adr_ne (by omega)) q804 (by decide) rfl dK826 (i2d_int (((p2.toUInt32 >>> ((8 : Int32) &&& 31).toUInt32).toInt32) &&& (255 : Int32))) (by decide) (by omega) (by decide)) (tw35 hw) (tw36 hw) (tw38 hw) (tw38 hw) (tw37 hw) (tw2 hw) (tw39 hw) (by decide) f840 (by rw [hml]; rfl) (lenOf pd_5 rfl) (argsL := [(.double (FP.i2d (((p2.toUInt32 >>> ((8 : Int32) &&& 31).toUInt32).toInt32) &&& (255 : Int32)))), (.int (1 : Int32))]) (rest := []) rfl rfl (W := 0) (Nat.le_of_eq rfl) (by decide) (by decide) (by decide) (by decide) (allS (Or.inr ge_b788) (allS (Or.inr ge_b800) (allS (Or.inr ge_b801) all0))) (hb hby at_104) rfl (k' := 3) (n' := 36) rfl rfl ?_
      rintro T830 h841 _ P831 K842 ⟨rfl, kf839, F832, F833, F834, F835, A836, dK838, A837⟩
      have szh841 : h828.size ≤ h841.size := K842.1
      generalize gK2 : (own_of 1 true K1 J1 (((p2.toUInt32 >>> ((8 : Int32) &&& 31).toUInt32).toInt32) &&& (255 : Int32)).toInt (1 : Int32)).1 = K2 at dK838
      generalize gJ2 : (own_of 1 true K1 J1 (((p2.toUInt32 >>> ((8 : Int32) &&& 31).toUInt32).toInt32) &&& (255 : Int32)).toInt (1 : Int32)).2 = J2 at A837
      show Done _ _ _ _ _ _ _ _ _ _ _ _ _ _ _ T830 (mkF m 107 _ [])
      refine Done.stepL (pc' := 152) (st' := [(.int (3 : Int32)), (.int (2 : Int32))]) (fun t kk => ?_) ?_
      · show Steps p.tables e below (T830.setTop (mkF m 107 _ [])) t
        refine XS.iload P831.here P831.x rfl (hb hby at_107) rfl ?_
        show Steps p.tables e below (T830.setTop (mkF m 109 _ [(.int (2 : Int32))])) t
        refine XS.iconst P831.here P831.x rfl (hb hby at_109) ?_
        show Steps p.tables e below (T830.setTop (mkF m 110 _ [(.int (3 : Int32)), (.int (2 : Int32))])) t
        refine XS.icmpYes P831.here P831.x rfl (pc0 := 110) (pc' := 128) rfl (hb hby at_110) rfl (iiW_lt_t (by decide)) (by decide) (by decide) ?_
        show Steps p.tables e below (T830.setTop (mkF m 128 _ [])) t
        refine XS.iload P831.here P831.x rfl (hb hby at_128) rfl ?_
        show Steps p.tables e below (T830.setTop (mkF m 130 _ [(.int (2 : Int32))])) t
        refine XS.iconst P831.here P831.x rfl (hb hby at_130) ?_
        show Steps p.tables e below (T830.setTop (mkF m 131 _ [(.int (4 : Int32)), (.int (2 : Int32))])) t
        refine XS.icmpYes P831.here P831.x rfl (pc0 := 131) (pc' := 149) rfl (hb hby at_131) rfl (iiW_lt_t (by decide)) (by decide) (by decide) ?_
        show Steps p.tables e below (T830.setTop (mkF m 149 _ [])) t
        refine XS.iload P831.here P831.x rfl (hb hby at_149) rfl ?_
        show Steps p.tables e below (T830.setTop (mkF m 151 _ [(.int (2 : Int32))])) t
        refine XS.iloadN P831.here P831.x rfl (hb hby at_151) rfl ?_
        exact kk
      refine wCallS P831 (m_minf l Z a0 hw (2 : Int32) (3 : Int32) h841 (by decide)) (tw28 hw) (tw12 hw) (tw13 hw) (tw14 hw) (by decide) (by rw [hml]; rfl) (lenOf pd_1 rfl) (argsL := [(.int (2 : Int32)), (.int (3 : Int32))]) (rest := []) rfl rfl (W := 0) (Nat.le_of_eq rfl) (by decide) (by decide) (by decide) (by decide) (by simp) (hb hby at_152) rfl (k' := 3) (n' := 36) rfl rfl ?_
      rintro T843 _ _ P844 - ⟨rfl, rfl⟩
      show Done _ _ _ _ _ _ _ _ _ _ _ _ _ _ _ T843 (mkF m 155 _ [(.int (2 : Int32))])
      refine Done.step (T' := T843) (g' := (mkF m 159 #[.val (.int p0), .val (.int p1), .val (.int p2), .val (.int (3 : Int32)), .val (.int (2 : Int32)), .val (.ref b788), .val (.int (1 : Int32)), .val (.int (2 : Int32)), .unset, .unset] [(.ref b788)])) (fun t kk => ?_) ?_
      · show Steps p.tables e below (T843.setTop (mkF m 155 _ [(.int (2 : Int32))])) t
        refine XS.istore P844.here P844.x rfl (hb hby at_155) rfl (l' := #[.val (.int p0), .val (.int p1), .val (.int p2), .val (.int (3 : Int32)), .val (.int (2 : Int32)), .val (.ref b788), .val (.int (1 : Int32)), .val (.int (2 : Int32)), .unset, .unset]) rfl ?_
        show Steps p.tables e below (T843.setTop (mkF m 157 _ [])) t
        refine XS.aload P844.here P844.x rfl (hb hby at_157) rfl rfl ?_
        exact kk
      have f847 := (f840.keep K842)
      refine wCallV P844 (m_size l Z a0 hw b788 (2 : Int32) h841 F832) (tw29 hw) (tw30 hw) (tw32 hw) (tw32 hw) (tw31 hw) (tw2 hw) (tw33 hw) (by decide) f847 (by rw [hml]; rfl) (lenOf pd_4 rfl) (argsL := []) (rest := []) rfl rfl (W := 0) (Nat.le_of_eq rfl) (by decide) (by decide) (by decide) (by decide) (by simp) (hb hby at_159) rfl (k' := 3) (n' := 36) rfl rfl ?_
      rintro T845 _ _ P846 - ⟨rfl, rfl⟩
      show Done _ _ _ _ _ _ _ _ _ _ _ _ _ _ _ T845 (mkF m 162 _ [(.int (2 : Int32))])
      refine Done.step (T' := T845) (g' := (mkF m 176 #[.val (.int p0), .val (.int p1), .val (.int p2), .val (.int (3 : Int32)), .val (.int (2 : Int32)), .val (.ref b788), .val (.int (1 : Int32)), .val (.int (2 : Int32)), .val (.int (1 : Int32)), .unset] [(.ref b788)])) (fun t kk => ?_) ?_
      · show Steps p.tables e below (T845.setTop (mkF m 162 _ [(.int (2 : Int32))])) t
        refine XS.iload P846.here P846.x rfl (hb hby at_162) rfl ?_
        show Steps p.tables e below (T845.setTop (mkF m 164 _ [(.int (2 : Int32)), (.int (2 : Int32))])) t
        refine XS.icmpNo P846.here P846.x rfl (hb hby at_164) rfl (iiW_ne_f (by decide)) ?_
        show Steps p.tables e below (T845.setTop (mkF m 167 _ [])) t
        refine XS.iconst P846.here P846.x rfl (hb hby at_167) ?_
        show Steps p.tables e below (T845.setTop (mkF m 168 _ [(.int (1 : Int32))])) t
        refine XS.goto P846.here P846.x rfl (pc0 := 168) (pc' := 172) rfl (hb hby at_168) (by decide) (by decide) ?_
        show Steps p.tables e below (T845.setTop (mkF m 172 _ [(.int (1 : Int32))])) t
        refine XS.istore P846.here P846.x rfl (hb hby at_172) rfl (l' := #[.val (.int p0), .val (.int p1), .val (.int p2), .val (.int (3 : Int32)), .val (.int (2 : Int32)), .val (.ref b788), .val (.int (1 : Int32)), .val (.int (2 : Int32)), .val (.int (1 : Int32)), .unset]) rfl ?_
        show Steps p.tables e below (T845.setTop (mkF m 174 _ [])) t
        refine XS.aload P846.here P846.x rfl (hb hby at_174) rfl rfl ?_
        exact kk
      refine wCallV P846 (m_isFullf l Z a0 hw b788 (2 : Int32) (3 : Int32) h841 F832 F835 (by decide)) (tw21 hw) (tw22 hw) (tw24 hw) (tw24 hw) (tw23 hw) (tw2 hw) (tw25 hw) (by decide) f847 (by rw [hml]; rfl) (lenOf pd_3 rfl) (argsL := []) (rest := []) rfl rfl (W := 0) (Nat.le_of_eq rfl) (by decide) (by decide) (by decide) (by decide) (by simp) (hb hby at_176) rfl (k' := 3) (n' := 36) rfl rfl ?_
      rintro T848 _ _ P849 - ⟨rfl, rfl⟩
      show Done _ _ _ _ _ _ _ _ _ _ _ _ _ _ _ T848 (mkF m 179 _ [(.int (0 : Int32))])
      refine Done.step (T' := T848) (g' := (mkF m 220 #[.val (.int p0), .val (.int p1), .val (.int p2), .val (.int (3 : Int32)), .val (.int (2 : Int32)), .val (.ref b788), .val (.int (1 : Int32)), .val (.int (2 : Int32)), .val (.int (1 : Int32)), .val (.int (1 : Int32))] [(.int (1 : Int32))])) (fun t kk => ?_) ?_
      · show Steps p.tables e below (T848.setTop (mkF m 179 _ [(.int (0 : Int32))])) t
        refine XS.iload P849.here P849.x rfl (hb hby at_179) rfl ?_
        show Steps p.tables e below (T848.setTop (mkF m 181 _ [(.int (2 : Int32)), (.int (0 : Int32))])) t
        refine XS.iloadN P849.here P849.x rfl (hb hby at_181) rfl ?_
        show Steps p.tables e below (T848.setTop (mkF m 182 _ [(.int (3 : Int32)), (.int (2 : Int32)), (.int (0 : Int32))])) t
        refine XS.icmpYes P849.here P849.x rfl (pc0 := 182) (pc' := 189) rfl (hb hby at_182) rfl (iiW_ne_t (by decide)) (by decide) (by decide) ?_
        show Steps p.tables e below (T848.setTop (mkF m 189 _ [(.int (0 : Int32))])) t
        refine XS.iconst P849.here P849.x rfl (hb hby at_189) ?_
        show Steps p.tables e below (T848.setTop (mkF m 190 _ [(.int (0 : Int32)), (.int (0 : Int32))])) t
        refine XS.icmpNo P849.here P849.x rfl (hb hby at_190) rfl (iiW_ne_f (by decide)) ?_
        show Steps p.tables e below (T848.setTop (mkF m 193 _ [])) t
        refine XS.iconst P849.here P849.x rfl (hb hby at_193) ?_
        show Steps p.tables e below (T848.setTop (mkF m 194 _ [(.int (1 : Int32))])) t
        refine XS.goto P849.here P849.x rfl (pc0 := 194) (pc' := 198) rfl (hb hby at_194) (by decide) (by decide) ?_
        show Steps p.tables e below (T848.setTop (mkF m 198 _ [(.int (1 : Int32))])) t
        refine XS.istore P849.here P849.x rfl (hb hby at_198) rfl (l' := #[.val (.int p0), .val (.int p1), .val (.int p2), .val (.int (3 : Int32)), .val (.int (2 : Int32)), .val (.ref b788), .val (.int (1 : Int32)), .val (.int (2 : Int32)), .val (.int (1 : Int32)), .val (.int (1 : Int32))]) rfl ?_
        show Steps p.tables e below (T848.setTop (mkF m 200 _ [])) t
        refine XS.iload P849.here P849.x rfl (hb hby at_200) rfl ?_
        show Steps p.tables e below (T848.setTop (mkF m 202 _ [(.int (1 : Int32))])) t
        refine XS.ifNo P849.here P849.x rfl (hb hby at_202) rfl (i0W_eq_f (by decide)) ?_
        show Steps p.tables e below (T848.setTop (mkF m 205 _ [])) t
        refine XS.iload P849.here P849.x rfl (hb hby at_205) rfl ?_
        show Steps p.tables e below (T848.setTop (mkF m 207 _ [(.int (1 : Int32))])) t
        refine XS.ifNo P849.here P849.x rfl (hb hby at_207) rfl (i0W_eq_f (by decide)) ?_
        show Steps p.tables e below (T848.setTop (mkF m 210 _ [])) t
        refine XS.iload P849.here P849.x rfl (hb hby at_210) rfl ?_
        show Steps p.tables e below (T848.setTop (mkF m 212 _ [(.int (1 : Int32))])) t
        refine XS.ifNo P849.here P849.x rfl (hb hby at_212) rfl (i0W_eq_f (by decide)) ?_
        show Steps p.tables e below (T848.setTop (mkF m 215 _ [])) t
        refine XS.iconst P849.here P849.x rfl (hb hby at_215) ?_
        show Steps p.tables e below (T848.setTop (mkF m 216 _ [(.int (1 : Int32))])) t
        refine XS.goto P849.here P849.x rfl (pc0 := 216) (pc' := 220) rfl (hb hby at_216) (by decide) (by decide) ?_
        exact kk
      exact wRet P849 (t := .boolean) hret (narrow_01 (Or.inr rfl)) (Or.inl ⟨rfl, Or.inr (Or.inl rfl), _, rfl⟩) (hb hby at_220) rfl
    · show Done _ _ _ _ _ _ _ _ _ _ _ _ _ _ _ T0 (mkF m 34 _ [])
      refine wNew P0 (tw0 hw) (tw1 hw) (tw2 hw) (hb hby at_34) rfl (by decide) (by decide) (k' := 1) (n' := 4) rfl rfl (fun T850 h852 b853 g854 lt855 P851 E856 X857 D858 => ?_)
      have ge_b853 : h0.size ≤ b853 := by have := P0.ge; omega
      have F859 : Fld Z h852 b853 "com/example/urnwise/urnwise/sampler/SmallestKeys" "capacity" "I" (.int (0 : Int32)) := D858 (Or.inr (tw10 hw)) (ty := .int) (by decide)
      have F860 : Fld Z h852 b853 "com/example/urnwise/urnwise/sampler/SmallestKeys" "keys" "[D" .null := D858 (Or.inl (tw17 hw)) (ty := (.array .double)) (by decide)
      have F861 : Fld Z h852 b853 "com/example/urnwise/urnwise/sampler/SmallestKeys" "indices" "[I" .null := D858 (Or.inl (tw20 hw)) (ty := (.array .int)) (by decide)
      have F862 : Fld Z h852 b853 "com/example/urnwise/urnwise/sampler/SmallestKeys" "size" "I" (.int (0 : Int32)) := D858 (Or.inl (tw27 hw)) (ty := .int) (by decide)
      show Done _ _ _ _ _ _ _ _ _ _ _ _ _ _ _ T850 (mkF m 37 _ [(.ref b853)])
      refine Done.stepL (pc' := 39) (st' := [(.int (3 : Int32)), (.ref b853), (.ref b853)]) (fun t kk => ?_) ?_
      · show Steps p.tables e below (T850.setTop (mkF m 37 _ [(.ref b853)])) t
        refine XS.dup P851.here P851.x rfl (hb hby at_37) rfl rfl ?_
        show Steps p.tables e below (T850.setTop (mkF m 38 _ [(.ref b853), (.ref b853)])) t
        refine XS.iloadN P851.here P851.x rfl (hb hby at_38) rfl ?_
        exact kk
      refine wCallI P851 (m_hpInit l Z a0 hw b853 (3 : Int32) 3 h852 X857 F859 F860 F861 (by decide) (by decide) F862) rfl (tw3 hw) (tw4 hw) (tw2 hw) (tw5 hw) (by decide) (a := b853) (by rw [hml]; rfl) (lenOf pd_2 rfl) (argsL := [(.int (3 : Int32))]) (rest := [(.ref b853)]) rfl rfl (W := 1) (Nat.le_of_eq rfl) (by decide) (by decide) (by decide) (by decide) (allS (Or.inr ge_b853) all0) (hb hby at_39) rfl (k' := 3) (n' := 36) rfl rfl ?_
      rintro T863 h878 _ P864 K879 ⟨rfl, b865, b866, q867, q868, q869, q870, q871, F872, F873, F874, F875, A876, A877⟩
      have szh878 : h852.size ≤ h878.size := K879.1
      have ge_b865 : h0.size ≤ b865 := by have := q867; have := P851.ge; omega
      have ge_b866 : h0.size ≤ b866 := by have := q868; have := P851.ge; omega
      have dK0 : ∀ i, i < 3 → DInt ((fun _ => (0 : Int)) i) ((fun _ => (0 : UInt64)) i) := fun i _ => dint_c0
      show Done _ _ _ _ _ _ _ _ _ _ _ _ _ _ _ T863 (mkF m 42 _ [(.ref b853)])
      refine Done.step (T' := T863) (g' := (mkF m 46 #[.val (.int p0), .val (.int p1), .val (.int p2), .val (.int (3 : Int32)), .val (.int (3 : Int32)), .val (.ref b853), .unset, .unset, .unset, .unset] [(.ref b853)])) (fun t kk => ?_) ?_
      · show Steps p.tables e below (T863.setTop (mkF m 42 _ [(.ref b853)])) t
        refine XS.astore P864.here P864.x rfl (hb hby at_42) rfl rfl (l' := #[.val (.int p0), .val (.int p1), .val (.int p2), .val (.int (3 : Int32)), .val (.int (3 : Int32)), .val (.ref b853), .unset, .unset, .unset, .unset]) rfl ?_
        show Steps p.tables e below (T863.setTop (mkF m 44 _ [])) t
        refine XS.aload P864.here P864.x rfl (hb hby at_44) rfl rfl ?_
        exact kk
      have f882 := (X857.keep K879)
      refine wCallV P864 (m_isFullf l Z a0 hw b853 (0 : Int32) (3 : Int32) h878 F872 F875 (by decide)) (tw21 hw) (tw22 hw) (tw24 hw) (tw24 hw) (tw23 hw) (tw2 hw) (tw25 hw) (by decide) f882 (by rw [hml]; rfl) (lenOf pd_3 rfl) (argsL := []) (rest := []) rfl rfl (W := 0) (Nat.le_of_eq rfl) (by decide) (by decide) (by decide) (by decide) (by simp) (hb hby at_46) rfl (k' := 3) (n' := 36) rfl rfl ?_
      rintro T880 _ _ P881 - ⟨rfl, rfl⟩
      show Done _ _ _ _ _ _ _ _ _ _ _ _ _ _ _ T880 (mkF m 49 _ [(.int (0 : Int32))])
      refine Done.step (T' := T880) (g' := (mkF m 83 #[.val (.int p0), .val (.int p1), .val (.int p2), .val (.int (3 : Int32)), .val (.int (3 : Int32)), .val (.ref b853), .val (.int (1 : Int32)), .unset, .unset, .unset] [(.int (0 : Int32)), (.double (FP.i2d (p2 &&& (255 : Int32)))), (.ref b853)])) (fun t kk => ?_) ?_
      · show Steps p.tables e below (T880.setTop (mkF m 49 _ [(.int (0 : Int32))])) t
        refine XS.iloadN P881.here P881.x rfl (hb hby at_49) rfl ?_
        show Steps p.tables e below (T880.setTop (mkF m 50 _ [(.int (3 : Int32)), (.int (0 : Int32))])) t
        refine XS.ifYes P881.here P881.x rfl (pc0 := 50) (pc' := 57) rfl (hb hby at_50) rfl (i0W_ne_t (by decide)) (by decide) (by decide) ?_
        show Steps p.tables e below (T880.setTop (mkF m 57 _ [(.int (0 : Int32))])) t
        refine XS.iconst P881.here P881.x rfl (hb hby at_57) ?_
        show Steps p.tables e below (T880.setTop (mkF m 58 _ [(.int (0 : Int32)), (.int (0 : Int32))])) t
        refine XS.icmpNo P881.here P881.x rfl (hb hby at_58) rfl (iiW_ne_f (by decide)) ?_
        show Steps p.tables e below (T880.setTop (mkF m 61 _ [])) t
        refine XS.iconst P881.here P881.x rfl (hb hby at_61) ?_
        show Steps p.tables e below (T880.setTop (mkF m 62 _ [(.int (1 : Int32))])) t
        refine XS.goto P881.here P881.x rfl (pc0 := 62) (pc' := 66) rfl (hb hby at_62) (by decide) (by decide) ?_
        show Steps p.tables e below (T880.setTop (mkF m 66 _ [(.int (1 : Int32))])) t
        refine XS.istore P881.here P881.x rfl (hb hby at_66) rfl (l' := #[.val (.int p0), .val (.int p1), .val (.int p2), .val (.int (3 : Int32)), .val (.int (3 : Int32)), .val (.ref b853), .val (.int (1 : Int32)), .unset, .unset, .unset]) rfl ?_
        show Steps p.tables e below (T880.setTop (mkF m 68 _ [])) t
        refine XS.iload P881.here P881.x rfl (hb hby at_68) rfl ?_
        show Steps p.tables e below (T880.setTop (mkF m 70 _ [(.int (3 : Int32))])) t
        refine XS.iconst P881.here P881.x rfl (hb hby at_70) ?_
        show Steps p.tables e below (T880.setTop (mkF m 71 _ [(.int (1 : Int32)), (.int (3 : Int32))])) t
        refine XS.icmpNo P881.here P881.x rfl (hb hby at_71) rfl (iiW_lt_f (by decide)) ?_
        show Steps p.tables e below (T880.setTop (mkF m 74 _ [])) t
        refine XS.aload P881.here P881.x rfl (hb hby at_74) rfl rfl ?_
        show Steps p.tables e below (T880.setTop (mkF m 76 _ [(.ref b853)])) t
        refine XS.iloadN P881.here P881.x rfl (hb hby at_76) rfl ?_
        show Steps p.tables e below (T880.setTop (mkF m 77 _ [(.int p2), (.ref b853)])) t
        refine XS.sipush P881.here P881.x rfl (hb hby at_77) ?_
        show Steps p.tables e below (T880.setTop (mkF m 80 _ [(.int (255 : Int32)), (.int p2), (.ref b853)])) t
        refine XS.iand P881.here P881.x rfl (hb hby at_80) rfl ?_
        show Steps p.tables e below (T880.setTop (mkF m 81 _ [(.int (p2 &&& (255 : Int32))), (.ref b853)])) t
        refine XS.i2dS P881.here P881.x rfl (hb hby at_81) rfl rfl ?_
        show Steps p.tables e below (T880.setTop (mkF m 82 _ [(.double (FP.i2d (p2 &&& (255 : Int32)))), (.ref b853)])) t
        refine XS.iconst P881.here P881.x rfl (hb hby at_82) ?_
        exact kk
      refine wCallV P881 (m_offA l Z a0 hw b853 b865 b866 (0 : Int32) 3 0 (fun _ => (0 : UInt64)) (fun _ => (0 : Int)) (fun _ => (0 : Int32)) (3 : Int32) (FP.i2d (p2 &&& (255 : Int32))) (0 : Int32) (p2 &&& (255 : Int32)).toInt (1 : Int32) h878 f882 F873 F874 F872 F875 A876 A877 (by first | assumption | exact Ne.symm (by assumption) | exact adr_ne (by omega)) (by first | assumption | exact Ne.symm (by assumption) | exact adr_ne (by omega)) q869 (by decide) rfl dK0 (i2d_int (p2 &&& (255 : Int32))) (by decide) (by omega) (by decide)) (tw35 hw) (tw36 hw) (tw38 hw) (tw38 hw) (tw37 hw) (tw2 hw) (tw39 hw) (by decide) f882 (by rw [hml]; rfl) (lenOf pd_5 rfl) (argsL := [(.double (FP.i2d (p2 &&& (255 : Int32)))), (.int (0 : Int32))]) (rest := []) rfl rfl (W := 0) (Nat.le_of_eq rfl) (by decide) (by decide) (by decide) (by decide) (allS (Or.inr ge_b853) (allS (Or.inr ge_b865) (allS (Or.inr ge_b866) all0))) (hb hby at_83) rfl (k' := 3) (n' := 36) rfl rfl ?_
      rintro T883 h893 _ P884 K894 ⟨rfl, kf892, F885, F886, F887, F888, A889, dK891, A890⟩
      have szh893 : h878.size ≤ h893.size := K894.1
      generalize gK1 : (own_of 0 true (fun _ => (0 : Int)) (fun _ => (0 : Int32)) (p2 &&& (255 : Int32)).toInt (0 : Int32)).1 = K1 at dK891
      generalize gJ1 : (own_of 0 true (fun _ => (0 : Int)) (fun _ => (0 : Int32)) (p2 &&& (255 : Int32)).toInt (0 : Int32)).2 = J1 at A890
      show Done _ _ _ _ _ _ _ _ _ _ _ _ _ _ _ T883 (mkF m 86 _ [])
      refine Done.stepL (pc' := 104) (st' := [(.int (1 : Int32)), (.double (FP.i2d (((p2.toUInt32 >>> ((8 : Int32) &&& 31).toUInt32).toInt32) &&& (255 : Int32)))), (.ref b853)]) (fun t kk => ?_) ?_
      · show Steps p.tables e below (T883.setTop (mkF m 86 _ [])) t
        refine XS.iload P884.here P884.x rfl (hb hby at_86) rfl ?_
        show Steps p.tables e below (T883.setTop (mkF m 88 _ [(.int (3 : Int32))])) t
        refine XS.iconst P884.here P884.x rfl (hb hby at_88) ?_
        show Steps p.tables e below (T883.setTop (mkF m 89 _ [(.int (2 : Int32)), (.int (3 : Int32))])) t
        refine XS.icmpNo P884.here P884.x rfl (hb hby at_89) rfl (iiW_lt_f (by decide)) ?_
        show Steps p.tables e below (T883.setTop (mkF m 92 _ [])) t
        refine XS.aload P884.here P884.x rfl (hb hby at_92) rfl rfl ?_
        show Steps p.tables e below (T883.setTop (mkF m 94 _ [(.ref b853)])) t
        refine XS.iloadN P884.here P884.x rfl (hb hby at_94) rfl ?_
        show Steps p.tables e below (T883.setTop (mkF m 95 _ [(.int p2), (.ref b853)])) t
        refine XS.bipush P884.here P884.x rfl (hb hby at_95) ?_
        show Steps p.tables e below (T883.setTop (mkF m 97 _ [(.int (8 : Int32)), (.int p2), (.ref b853)])) t
        refine XS.iushr P884.here P884.x rfl (hb hby at_97) rfl ?_
        show Steps p.tables e below (T883.setTop (mkF m 98 _ [(.int ((p2.toUInt32 >>> ((8 : Int32) &&& 31).toUInt32).toInt32)), (.ref b853)])) t
        refine XS.sipush P884.here P884.x rfl (hb hby at_98) ?_
        show Steps p.tables e below (T883.setTop (mkF m 101 _ [(.int (255 : Int32)), (.int ((p2.toUInt32 >>> ((8 : Int32) &&& 31).toUInt32).toInt32)), (.ref b853)])) t
        refine XS.iand P884.here P884.x rfl (hb hby at_101) rfl ?_
        show Steps p.tables e below (T883.setTop (mkF m 102 _ [(.int (((p2.toUInt32 >>> ((8 : Int32) &&& 31).toUInt32).toInt32) &&& (255 : Int32))), (.ref b853)])) t
        refine XS.i2dS P884.here P884.x rfl (hb hby at_102) rfl rfl ?_
        show Steps p.tables e below (T883.setTop (mkF m 103 _ [(.double (FP.i2d (((p2.toUInt32 >>> ((8 : Int32) &&& 31).toUInt32).toInt32) &&& (255 : Int32)))), (.ref b853)])) t
        refine XS.iconst P884.here P884.x rfl (hb hby at_103) ?_
        exact kk
      have f905 := (f882.keep K894)
      refine wCallV P884 (m_offA l Z a0 hw b853 b865 b866 (1 : Int32) 3 1 kf892 K1 J1 (3 : Int32) (FP.i2d (((p2.toUInt32 >>> ((8 : Int32) &&& 31).toUInt32).toInt32) &&& (255 : Int32))) (1 : Int32) (((p2.toUInt32 >>> ((8 : Int32) &&& 31).toUInt32).toInt32) &&& (255 : Int32)).toInt (2 : Int32) h893 f905 F886 F887 F885 F888 A889 A890 (by first | assumption | exact Ne.symm (by assumption) | exact adr_ne (by omega)) (by first | assumption | exact Ne.symm (by assumption) | exact adr_ne (by omega)) q869 (by decide) rfl dK891 (i2d_int (((p2.toUInt32 >>> ((8 : Int32) &&& 31).toUInt32).toInt32) &&& (255 : Int32))) (by decide) (by omega) (by decide)) (tw35 hw) (tw36 hw) (tw38 hw) (tw38 hw) (tw37 hw) (tw2 hw) (tw39 hw) (by decide) f905 (by rw [hml]; rfl) (lenOf pd_5 rfl) (argsL := [(.double (FP.i2d (((p2.toUInt32 >>> ((8 : Int32) &&& 31).toUInt32).toInt32) &&& (255 : Int32)))), (.int (1 : Int32))]) (rest := []) rfl rfl (W := 0) (Nat.le_of_eq rfl) (by decide) (by decide) (by decide) (by decide) (allS (Or.inr ge_b853) (allS (Or.inr ge_b865) (allS (Or.inr ge_b866) all0))) (hb hby at_104) rfl (k' := 3) (n' := 36) rfl rfl ?_
      rintro T895 h906 _ P896 K907 ⟨rfl, kf904, F897, F898, F899, F900, A901, dK903, A902⟩
      have szh906 : h893.size ≤ h906.size := K907.1
      generalize gK2 : (own_of 1 true K1 J1 (((p2.toUInt32 >>> ((8 : Int32) &&& 31).toUInt32).toInt32) &&& (255 : Int32)).toInt (1 : Int32)).1 = K2 at dK903
      generalize gJ2 : (own_of 1 true K1 J1 (((p2.toUInt32 >>> ((8 : Int32) &&& 31).toUInt32).toInt32) &&& (255 : Int32)).toInt (1 : Int32)).2 = J2 at A902
      show Done _ _ _ _ _ _ _ _ _ _ _ _ _ _ _ T895 (mkF m 107 _ [])
      refine Done.stepL (pc' := 125) (st' := [(.int (2 : Int32)), (.double (FP.i2d (((p2.toUInt32 >>> ((16 : Int32) &&& 31).toUInt32).toInt32) &&& (255 : Int32)))), (.ref b853)]) (fun t kk => ?_) ?_
      · show Steps p.tables e below (T895.setTop (mkF m 107 _ [])) t
        refine XS.iload P896.here P896.x rfl (hb hby at_107) rfl ?_
        show Steps p.tables e below (T895.setTop (mkF m 109 _ [(.int (3 : Int32))])) t
        refine XS.iconst P896.here P896.x rfl (hb hby at_109) ?_
        show Steps p.tables e below (T895.setTop (mkF m 110 _ [(.int (3 : Int32)), (.int (3 : Int32))])) t
        refine XS.icmpNo P896.here P896.x rfl (hb hby at_110) rfl (iiW_lt_f (by decide)) ?_
        show Steps p.tables e below (T895.setTop (mkF m 113 _ [])) t
        refine XS.aload P896.here P896.x rfl (hb hby at_113) rfl rfl ?_
        show Steps p.tables e below (T895.setTop (mkF m 115 _ [(.ref b853)])) t
        refine XS.iloadN P896.here P896.x rfl (hb hby at_115) rfl ?_
        show Steps p.tables e below (T895.setTop (mkF m 116 _ [(.int p2), (.ref b853)])) t
        refine XS.bipush P896.here P896.x rfl (hb hby at_116) ?_
        show Steps p.tables e below (T895.setTop (mkF m 118 _ [(.int (16 : Int32)), (.int p2), (.ref b853)])) t
        refine XS.iushr P896.here P896.x rfl (hb hby at_118) rfl ?_
        show Steps p.tables e below (T895.setTop (mkF m 119 _ [(.int ((p2.toUInt32 >>> ((16 : Int32) &&& 31).toUInt32).toInt32)), (.ref b853)])) t
        refine XS.sipush P896.here P896.x rfl (hb hby at_119) ?_
        show Steps p.tables e below (T895.setTop (mkF m 122 _ [(.int (255 : Int32)), (.int ((p2.toUInt32 >>> ((16 : Int32) &&& 31).toUInt32).toInt32)), (.ref b853)])) t
        refine XS.iand P896.here P896.x rfl (hb hby at_122) rfl ?_
        show Steps p.tables e below (T895.setTop (mkF m 123 _ [(.int (((p2.toUInt32 >>> ((16 : Int32) &&& 31).toUInt32).toInt32) &&& (255 : Int32))), (.ref b853)])) t
        refine XS.i2dS P896.here P896.x rfl (hb hby at_123) rfl rfl ?_
        show Steps p.tables e below (T895.setTop (mkF m 124 _ [(.double (FP.i2d (((p2.toUInt32 >>> ((16 : Int32) &&& 31).toUInt32).toInt32) &&& (255 : Int32)))), (.ref b853)])) t
        refine XS.iconst P896.here P896.x rfl (hb hby at_124) ?_
        exact kk
      have f918 := (f905.keep K907)
      refine wCallV P896 (m_offA l Z a0 hw b853 b865 b866 (2 : Int32) 3 2 kf904 K2 J2 (3 : Int32) (FP.i2d (((p2.toUInt32 >>> ((16 : Int32) &&& 31).toUInt32).toInt32) &&& (255 : Int32))) (2 : Int32) (((p2.toUInt32 >>> ((16 : Int32) &&& 31).toUInt32).toInt32) &&& (255 : Int32)).toInt (3 : Int32) h906 f918 F898 F899 F897 F900 A901 A902 (by first | assumption | exact Ne.symm (by assumption) | exact adr_ne (by omega)) (by first | assumption | exact Ne.symm (by assumption) | exact adr_ne (by omega)) q869 (by decide) rfl dK903 (i2d_int (((p2.toUInt32 >>> ((16 : Int32) &&& 31).toUInt32).toInt32) &&& (255 : Int32))) (by decide) (by omega) (by decide)) (tw35 hw) (tw36 hw) (tw38 hw) (tw38 hw) (tw37 hw) (tw2 hw) (tw39 hw) (by decide) f918 (by rw [hml]; rfl) (lenOf pd_5 rfl) (argsL := [(.double (FP.i2d (((p2.toUInt32 >>> ((16 : Int32) &&& 31).toUInt32).toInt32) &&& (255 : Int32)))), (.int (2 : Int32))]) (rest := []) rfl rfl (W := 0) (Nat.le_of_eq rfl) (by decide) (by decide) (by decide) (by decide) (allS (Or.inr ge_b853) (allS (Or.inr ge_b865) (allS (Or.inr ge_b866) all0))) (hb hby at_125) rfl (k' := 3) (n' := 36) rfl rfl ?_
      rintro T908 h919 _ P909 K920 ⟨rfl, kf917, F910, F911, F912, F913, A914, dK916, A915⟩
      have szh919 : h906.size ≤ h919.size := K920.1
      generalize gK3 : (own_of 2 true K2 J2 (((p2.toUInt32 >>> ((16 : Int32) &&& 31).toUInt32).toInt32) &&& (255 : Int32)).toInt (2 : Int32)).1 = K3 at dK916
      generalize gJ3 : (own_of 2 true K2 J2 (((p2.toUInt32 >>> ((16 : Int32) &&& 31).toUInt32).toInt32) &&& (255 : Int32)).toInt (2 : Int32)).2 = J3 at A915
      show Done _ _ _ _ _ _ _ _ _ _ _ _ _ _ _ T908 (mkF m 128 _ [])
      refine Done.stepL (pc' := 152) (st' := [(.int (3 : Int32)), (.int (3 : Int32))]) (fun t kk => ?_) ?_
      · show Steps p.tables e below (T908.setTop (mkF m 128 _ [])) t
        refine XS.iload P909.here P909.x rfl (hb hby at_128) rfl ?_
        show Steps p.tables e below (T908.setTop (mkF m 130 _ [(.int (3 : Int32))])) t
        refine XS.iconst P909.here P909.x rfl (hb hby at_130) ?_
        show Steps p.tables e below (T908.setTop (mkF m 131 _ [(.int (4 : Int32)), (.int (3 : Int32))])) t
        refine XS.icmpYes P909.here P909.x rfl (pc0 := 131) (pc' := 149) rfl (hb hby at_131) rfl (iiW_lt_t (by decide)) (by decide) (by decide) ?_
        show Steps p.tables e below (T908.setTop (mkF m 149 _ [])) t
        refine XS.iload P909.here P909.x rfl (hb hby at_149) rfl ?_
        show Steps p.tables e below (T908.setTop (mkF m 151 _ [(.int (3 : Int32))])) t
        refine XS.iloadN P909.here P909.x rfl (hb hby at_151) rfl ?_
        exact kk
      refine wCallS P909 (m_minf l Z a0 hw (3 : Int32) (3 : Int32) h919 (by decide)) (tw28 hw) (tw12 hw) (tw13 hw) (tw14 hw) (by decide) (by rw [hml]; rfl) (lenOf pd_1 rfl) (argsL := [(.int (3 : Int32)), (.int (3 : Int32))]) (rest := []) rfl rfl (W := 0) (Nat.le_of_eq rfl) (by decide) (by decide) (by decide) (by decide) (by simp) (hb hby at_152) rfl (k' := 3) (n' := 36) rfl rfl ?_
      rintro T921 _ _ P922 - ⟨rfl, rfl⟩
      show Done _ _ _ _ _ _ _ _ _ _ _ _ _ _ _ T921 (mkF m 155 _ [(.int (3 : Int32))])
      refine Done.step (T' := T921) (g' := (mkF m 159 #[.val (.int p0), .val (.int p1), .val (.int p2), .val (.int (3 : Int32)), .val (.int (3 : Int32)), .val (.ref b853), .val (.int (1 : Int32)), .val (.int (3 : Int32)), .unset, .unset] [(.ref b853)])) (fun t kk => ?_) ?_
      · show Steps p.tables e below (T921.setTop (mkF m 155 _ [(.int (3 : Int32))])) t
        refine XS.istore P922.here P922.x rfl (hb hby at_155) rfl (l' := #[.val (.int p0), .val (.int p1), .val (.int p2), .val (.int (3 : Int32)), .val (.int (3 : Int32)), .val (.ref b853), .val (.int (1 : Int32)), .val (.int (3 : Int32)), .unset, .unset]) rfl ?_
        show Steps p.tables e below (T921.setTop (mkF m 157 _ [])) t
        refine XS.aload P922.here P922.x rfl (hb hby at_157) rfl rfl ?_
        exact kk
      have f925 := (f918.keep K920)
      refine wCallV P922 (m_size l Z a0 hw b853 (3 : Int32) h919 F910) (tw29 hw) (tw30 hw) (tw32 hw) (tw32 hw) (tw31 hw) (tw2 hw) (tw33 hw) (by decide) f925 (by rw [hml]; rfl) (lenOf pd_4 rfl) (argsL := []) (rest := []) rfl rfl (W := 0) (Nat.le_of_eq rfl) (by decide) (by decide) (by decide) (by decide) (by simp) (hb hby at_159) rfl (k' := 3) (n' := 36) rfl rfl ?_
      rintro T923 _ _ P924 - ⟨rfl, rfl⟩
      show Done _ _ _ _ _ _ _ _ _ _ _ _ _ _ _ T923 (mkF m 162 _ [(.int (3 : Int32))])
      refine Done.step (T' := T923) (g' := (mkF m 176 #[.val (.int p0), .val (.int p1), .val (.int p2), .val (.int (3 : Int32)), .val (.int (3 : Int32)), .val (.ref b853), .val (.int (1 : Int32)), .val (.int (3 : Int32)), .val (.int (1 : Int32)), .unset] [(.ref b853)])) (fun t kk => ?_) ?_
      · show Steps p.tables e below (T923.setTop (mkF m 162 _ [(.int (3 : Int32))])) t
        refine XS.iload P924.here P924.x rfl (hb hby at_162) rfl ?_
        show Steps p.tables e below (T923.setTop (mkF m 164 _ [(.int (3 : Int32)), (.int (3 : Int32))])) t
        refine XS.icmpNo P924.here P924.x rfl (hb hby at_164) rfl (iiW_ne_f (by decide)) ?_
        show Steps p.tables e below (T923.setTop (mkF m 167 _ [])) t
        refine XS.iconst P924.here P924.x rfl (hb hby at_167) ?_
        show Steps p.tables e below (T923.setTop (mkF m 168 _ [(.int (1 : Int32))])) t
        refine XS.goto P924.here P924.x rfl (pc0 := 168) (pc' := 172) rfl (hb hby at_168) (by decide) (by decide) ?_
        show Steps p.tables e below (T923.setTop (mkF m 172 _ [(.int (1 : Int32))])) t
        refine XS.istore P924.here P924.x rfl (hb hby at_172) rfl (l' := #[.val (.int p0), .val (.int p1), .val (.int p2), .val (.int (3 : Int32)), .val (.int (3 : Int32)), .val (.ref b853), .val (.int (1 : Int32)), .val (.int (3 : Int32)), .val (.int (1 : Int32)), .unset]) rfl ?_
        show Steps p.tables e below (T923.setTop (mkF m 174 _ [])) t
        refine XS.aload P924.here P924.x rfl (hb hby at_174) rfl rfl ?_
        exact kk
      refine wCallV P924 (m_isFullt l Z a0 hw b853 (3 : Int32) (3 : Int32) h919 F910 F913 (by decide)) (tw21 hw) (tw22 hw) (tw24 hw) (tw24 hw) (tw23 hw) (tw2 hw) (tw25 hw) (by decide) f925 (by rw [hml]; rfl) (lenOf pd_3 rfl) (argsL := []) (rest := []) rfl rfl (W := 0) (Nat.le_of_eq rfl) (by decide) (by decide) (by decide) (by decide) (by simp) (hb hby at_176) rfl (k' := 3) (n' := 36) rfl rfl ?_
      rintro T926 _ _ P927 - ⟨rfl, rfl⟩
      show Done _ _ _ _ _ _ _ _ _ _ _ _ _ _ _ T926 (mkF m 179 _ [(.int (1 : Int32))])
      refine Done.step (T' := T926) (g' := (mkF m 220 #[.val (.int p0), .val (.int p1), .val (.int p2), .val (.int (3 : Int32)), .val (.int (3 : Int32)), .val (.ref b853), .val (.int (1 : Int32)), .val (.int (3 : Int32)), .val (.int (1 : Int32)), .val (.int (1 : Int32))] [(.int (1 : Int32))])) (fun t kk => ?_) ?_
      · show Steps p.tables e below (T926.setTop (mkF m 179 _ [(.int (1 : Int32))])) t
        refine XS.iload P927.here P927.x rfl (hb hby at_179) rfl ?_
        show Steps p.tables e below (T926.setTop (mkF m 181 _ [(.int (3 : Int32)), (.int (1 : Int32))])) t
        refine XS.iloadN P927.here P927.x rfl (hb hby at_181) rfl ?_
        show Steps p.tables e below (T926.setTop (mkF m 182 _ [(.int (3 : Int32)), (.int (3 : Int32)), (.int (1 : Int32))])) t
        refine XS.icmpNo P927.here P927.x rfl (hb hby at_182) rfl (iiW_ne_f (by decide)) ?_
        show Steps p.tables e below (T926.setTop (mkF m 185 _ [(.int (1 : Int32))])) t
        refine XS.iconst P927.here P927.x rfl (hb hby at_185) ?_
        show Steps p.tables e below (T926.setTop (mkF m 186 _ [(.int (1 : Int32)), (.int (1 : Int32))])) t
        refine XS.goto P927.here P927.x rfl (pc0 := 186) (pc' := 190) rfl (hb hby at_186) (by decide) (by decide) ?_
        show Steps p.tables e below (T926.setTop (mkF m 190 _ [(.int (1 : Int32)), (.int (1 : Int32))])) t
        refine XS.icmpNo P927.here P927.x rfl (hb hby at_190) rfl (iiW_ne_f (by decide)) ?_
        show Steps p.tables e below (T926.setTop (mkF m 193 _ [])) t
        refine XS.iconst P927.here P927.x rfl (hb hby at_193) ?_
        show Steps p.tables e below (T926.setTop (mkF m 194 _ [(.int (1 : Int32))])) t
        refine XS.goto P927.here P927.x rfl (pc0 := 194) (pc' := 198) rfl (hb hby at_194) (by decide) (by decide) ?_
        show Steps p.tables e below (T926.setTop (mkF m 198 _ [(.int (1 : Int32))])) t
        refine XS.istore P927.here P927.x rfl (hb hby at_198) rfl (l' := #[.val (.int p0), .val (.int p1), .val (.int p2), .val (.int (3 : Int32)), .val (.int (3 : Int32)), .val (.ref b853), .val (.int (1 : Int32)), .val (.int (3 : Int32)), .val (.int (1 : Int32)), .val (.int (1 : Int32))]) rfl ?_
        show Steps p.tables e below (T926.setTop (mkF m 200 _ [])) t
        refine XS.iload P927.here P927.x rfl (hb hby at_200) rfl ?_
        show Steps p.tables e below (T926.setTop (mkF m 202 _ [(.int (1 : Int32))])) t
        refine XS.ifNo P927.here P927.x rfl (hb hby at_202) rfl (i0W_eq_f (by decide)) ?_
        show Steps p.tables e below (T926.setTop (mkF m 205 _ [])) t
        refine XS.iload P927.here P927.x rfl (hb hby at_205) rfl ?_
        show Steps p.tables e below (T926.setTop (mkF m 207 _ [(.int (1 : Int32))])) t
        refine XS.ifNo P927.here P927.x rfl (hb hby at_207) rfl (i0W_eq_f (by decide)) ?_
        show Steps p.tables e below (T926.setTop (mkF m 210 _ [])) t
        refine XS.iload P927.here P927.x rfl (hb hby at_210) rfl ?_
        show Steps p.tables e below (T926.setTop (mkF m 212 _ [(.int (1 : Int32))])) t
        refine XS.ifNo P927.here P927.x rfl (hb hby at_212) rfl (i0W_eq_f (by decide)) ?_
        show Steps p.tables e below (T926.setTop (mkF m 215 _ [])) t
        refine XS.iconst P927.here P927.x rfl (hb hby at_215) ?_
        show Steps p.tables e below (T926.setTop (mkF m 216 _ [(.int (1 : Int32))])) t
        refine XS.goto P927.here P927.x rfl (pc0 := 216) (pc' := 220) rfl (hb hby at_216) (by decide) (by decide) ?_
        exact kk
      exact wRet P927 (t := .boolean) hret (narrow_01 (Or.inr rfl)) (Or.inl ⟨rfl, Or.inr (Or.inl rfl), _, rfl⟩) (hb hby at_220) rfl
    · show Done _ _ _ _ _ _ _ _ _ _ _ _ _ _ _ T0 (mkF m 34 _ [])
      refine wNew P0 (tw0 hw) (tw1 hw) (tw2 hw) (hb hby at_34) rfl (by decide) (by decide) (k' := 1) (n' := 4) rfl rfl (fun T928 h930 b931 g932 lt933 P929 E934 X935 D936 => ?_)
      have ge_b931 : h0.size ≤ b931 := by have := P0.ge; omega
      have F937 : Fld Z h930 b931 "com/example/urnwise/urnwise/sampler/SmallestKeys" "capacity" "I" (.int (0 : Int32)) := D936 (Or.inr (tw10 hw)) (ty := .int) (by decide)
      have F938 : Fld Z h930 b931 "com/example/urnwise/urnwise/sampler/SmallestKeys" "keys" "[D" .null := D936 (Or.inl (tw17 hw)) (ty := (.array .double)) (by decide)
      have F939 : Fld Z h930 b931 "com/example/urnwise/urnwise/sampler/SmallestKeys" "indices" "[I" .null := D936 (Or.inl (tw20 hw)) (ty := (.array .int)) (by decide)
      have F940 : Fld Z h930 b931 "com/example/urnwise/urnwise/sampler/SmallestKeys" "size" "I" (.int (0 : Int32)) := D936 (Or.inl (tw27 hw)) (ty := .int) (by decide)
      show Done _ _ _ _ _ _ _ _ _ _ _ _ _ _ _ T928 (mkF m 37 _ [(.ref b931)])
      refine Done.stepL (pc' := 39) (st' := [(.int (3 : Int32)), (.ref b931), (.ref b931)]) (fun t kk => ?_) ?_
      · show Steps p.tables e below (T928.setTop (mkF m 37 _ [(.ref b931)])) t
        refine XS.dup P929.here P929.x rfl (hb hby at_37) rfl rfl ?_
        show Steps p.tables e below (T928.setTop (mkF m 38 _ [(.ref b931), (.ref b931)])) t
        refine XS.iloadN P929.here P929.x rfl (hb hby at_38) rfl ?_
        exact kk
      refine wCallI P929 (m_hpInit l Z a0 hw b931 (3 : Int32) 3 h930 X935 F937 F938 F939 (by decide) (by decide) F940) rfl (tw3 hw) (tw4 hw) (tw2 hw) (tw5 hw) (by decide) (a := b931) (by rw [hml]; rfl) (lenOf pd_2 rfl) (argsL := [(.int (3 : Int32))]) (rest := [(.ref b931)]) rfl rfl (W := 1) (Nat.le_of_eq rfl) (by decide) (by decide) (by decide) (by decide) (allS (Or.inr ge_b931) all0) (hb hby at_39) rfl (k' := 3) (n' := 36) rfl rfl ?_
      rintro T941 h956 _ P942 K957 ⟨rfl, b943, b944, q945, q946, q947, q948, q949, F950, F951, F952, F953, A954, A955⟩
      have szh956 : h930.size ≤ h956.size := K957.1
      have ge_b943 : h0.size ≤ b943 := by have := q945; have := P929.ge; omega
      have ge_b944 : h0.size ≤ b944 := by have := q946; have := P929.ge; omega
      have dK0 : ∀ i, i < 3 → DInt ((fun _ => (0 : Int)) i) ((fun _ => (0 : UInt64)) i) := fun i _ => dint_c0
      show Done _ _ _ _ _ _ _ _ _ _ _ _ _ _ _ T941 (mkF m 42 _ [(.ref b931)])
      refine Done.step (T' := T941) (g' := (mkF m 46 #[.val (.int p0), .val (.int p1), .val (.int p2), .val (.int (3 : Int32)), .val (.int (4 : Int32)), .val (.ref b931), .unset, .unset, .unset, .unset] [(.ref b931)])) (fun t kk => ?_) ?_
      · show Steps p.tables e below (T941.setTop (mkF m 42 _ [(.ref b931)])) t
        refine XS.astore P942.here P942.x rfl (hb hby at_42) rfl rfl (l' := #[.val (.int p0), .val (.int p1), .val (.int p2), .val (.int (3 : Int32)), .val (.int (4 : Int32)), .val (.ref b931), .unset, .unset, .unset, .unset]) rfl ?_
        show Steps p.tables e below (T941.setTop (mkF m 44 _ [])) t
        refine XS.aload P942.here P942.x rfl (hb hby at_44) rfl rfl ?_
        exact kk
      have f960 := (X935.keep K957)
      refine wCallV P942 (m_isFullf l Z a0 hw b931 (0 : Int32) (3 : Int32) h956 F950 F953 (by decide)) (tw21 hw) (tw22 hw) (tw24 hw) (tw24 hw) (tw23 hw) (tw2 hw) (tw25 hw) (by decide) f960 (by rw [hml]; rfl) (lenOf pd_3 rfl) (argsL := []) (rest := []) rfl rfl (W := 0) (Nat.le_of_eq rfl) (by decide) (by decide) (by decide) (by decide) (by simp) (hb hby at_46) rfl (k' := 3) (n' := 36) rfl rfl ?_
      rintro T958 _ _ P959 - ⟨rfl, rfl⟩
      show Done _ _ _ _ _ _ _ _ _ _ _ _ _ _ _ T958 (mkF m 49 _ [(.int (0 : Int32))])
      refine Done.step (T' := T958) (g' := (mkF m 83 #[.val (.int p0), .val (.int p1), .val (.int p2), .val (.int (3 : Int32)), .val (.int (4 : Int32)), .val (.ref b931), .val (.int (1 : Int32)), .unset, .unset, .unset] [(.int (0 : Int32)), (.double (FP.i2d (p2 &&& (255 : Int32)))), (.ref b931)])) (fun t kk => ?_) ?_
      · show Steps p.tables e below (T958.setTop (mkF m 49 _ [(.int (0 : Int32))])) t
        refine XS.iloadN P959.here P959.x rfl (hb hby at_49) rfl ?_
        show Steps p.tables e below (T958.setTop (mkF m 50 _ [(.int (3 : Int32)), (.int (0 : Int32))])) t
        refine XS.ifYes P959.here P959.x rfl (pc0 := 50) (pc' := 57) rfl (hb hby at_50) rfl (i0W_ne_t (by decide)) (by decide) (by decide) ?_
        show Steps p.tables e below (T958.setTop (mkF m 57 _ [(.int (0 : Int32))])) t
        refine XS.iconst P959.here P959.x rfl (hb hby at_57) ?_
        show Steps p.tables e below (T958.setTop (mkF m 58 _ [(.int (0 : Int32)), (.int (0 : Int32))])) t
        refine XS.icmpNo P959.here P959.x rfl (hb hby at_58) rfl (iiW_ne_f (by decide)) ?_
        show Steps p.tables e below (T958.setTop (mkF m 61 _ [])) t
        refine XS.iconst P959.here P959.x rfl (hb hby at_61) ?_
        show Steps p.tables e below (T958.setTop (mkF m 62 _ [(.int (1 : Int32))])) t
        refine XS.goto P959.here P959.x rfl (pc0 := 62) (pc' := 66) rfl (hb hby at_62) (by decide) (by decide) ?_
        show Steps p.tables e below (T958.setTop (mkF m 66 _ [(.int (1 : Int32))])) t
        refine XS.istore P959.here P959.x rfl (hb hby at_66) rfl (l' := #[.val (.int p0), .val (.int p1), .val (.int p2), .val (.int (3 : Int32)), .val (.int (4 : Int32)), .val (.ref b931), .val (.int (1 : Int32)), .unset, .unset, .unset]) rfl ?_
        show Steps p.tables e below (T958.setTop (mkF m 68 _ [])) t
        refine XS.iload P959.here P959.x rfl (hb hby at_68) rfl ?_
        show Steps p.tables e below (T958.setTop (mkF m 70 _ [(.int (4 : Int32))])) t
        refine XS.iconst P959.here P959.x rfl (hb hby at_70) ?_
        show Steps p.tables e below (T958.setTop (mkF m 71 _ [(.int (1 : Int32)), (.int (4 : Int32))])) t
        refine XS.icmpNo P959.here P959.x rfl (hb hby at_71) rfl (iiW_lt_f (by decide)) ?_
        show Steps p.tables e below (T958.setTop (mkF m 74 _ [])) t
        refine XS.aload P959.here P959.x rfl (hb hby at_74) rfl rfl ?_
        show Steps p.tables e below (T958.setTop (mkF m 76 _ [(.ref b931)])) t
        refine XS.iloadN P959.here P959.x rfl (hb hby at_76) rfl ?_
        show Steps p.tables e below (T958.setTop (mkF m 77 _ [(.int p2), (.ref b931)])) t
        refine XS.sipush P959.here P959.x rfl (hb hby at_77) ?_
        show Steps p.tables e below (T958.setTop (mkF m 80 _ [(.int (255 : Int32)), (.int p2), (.ref b931)])) t
        refine XS.iand P959.here P959.x rfl (hb hby at_80) rfl ?_
        show Steps p.tables e below (T958.setTop (mkF m 81 _ [(.int (p2 &&& (255 : Int32))), (.ref b931)])) t
        refine XS.i2dS P959.here P959.x rfl (hb hby at_81) rfl rfl ?_
        show Steps p.tables e below (T958.setTop (mkF m 82 _ [(.double (FP.i2d (p2 &&& (255 : Int32)))), (.ref b931)])) t
        refine XS.iconst P959.here P959.x rfl (hb hby at_82) ?_
        exact kk
      refine wCallV P959 (m_offA l Z a0 hw b931 b943 b944 (0 : Int32) 3 0 (fun _ => (0 : UInt64)) (fun _ => (0 : Int)) (fun _ => (0 : Int32)) (3 : Int32) (FP.i2d (p2 &&& (255 : Int32))) (0 : Int32) (p2 &&& (255 : Int32)).toInt (1 : Int32) h956 f960 F951 F952 F950 F953 A954 A955 (by first | assumption | exact Ne.symm (by assumption) | exact adr_ne (by omega)) (by first | assumption | exact Ne.symm (by assumption) | exact adr_ne (by omega)) q947 (by decide) rfl dK0 (i2d_int (p2 &&& (255 : Int32))) (by decide) (by omega) (by decide)) (tw35 hw) (tw36 hw) (tw38 hw) (tw38 hw) (tw37 hw) (tw2 hw) (tw39 hw) (by decide) f960 (by rw [hml]; rfl) (lenOf pd_5 rfl) (argsL := [(.double (FP.i2d (p2 &&& (255 : Int32)))), (.int (0 : Int32))]) (rest := []) rfl rfl (W := 0) (Nat.le_of_eq rfl) (by decide) (by decide) (by decide) (by decide) (allS (Or.inr ge_b931) (allS (Or.inr ge_b943) (allS (Or.inr ge_b944) all0))) (hb hby at_83) rfl (k' := 3) (n' := 36) rfl rfl ?_
      rintro T961 h971 _ P962 K972 ⟨rfl, kf970, F963, F964, F965, F966, A967, dK969, A968⟩
      have szh971 : h956.size ≤ h971.size := K972.1
      generalize gK1 : (own_of 0 true (fun _ => (0 : Int)) (fun _ => (0 : Int32)) (p2 &&& (255 : Int32)).toInt (0 : Int32)).1 = K1 at dK969
      generalize gJ1 : (own_of 0 true (fun _ => (0 : Int)) (fun _ => (0 : Int32)) (p2 &&& (255 : Int32)).toInt (0 : Int32)).2 = J1 at A968
      show Done _ _ _ _ _ _ _ _ _ _ _ _ _ _ _ T961 (mkF m 86 _ [])
      refine Done.stepL (pc' := 104) (st' := [(.int (1 : Int32)), (.double (FP.i2d (((p2.toUInt32 >>> ((8 : Int32) &&& 31).toUInt32).toInt32) &&& (255 : Int32)))), (.ref b931)]) (fun t kk => ?_) ?_
      · show Steps p.tables e below (T961.setTop (mkF m 86 _ [])) t
        refine XS.iload P962.here P962.x rfl (hb hby at_86) rfl ?_
        show Steps p.tables e below (T961.setTop (mkF m 88 _ [(.int (4 : Int32))])) t
        refine XS.iconst P962.here P962.x rfl (hb hby at_88) ?_
        show Steps p.tables e below (T961.setTop (mkF m 89 _ [(.int (2 : Int32)), (.int (4 : Int32))])) t
        refine XS.icmpNo P962.here P962.x rfl (hb hby at_89) rfl (iiW_lt_f (by decide)) ?_
        show Steps p.tables e below (T961.setTop (mkF m 92 _ [])) t
        refine XS.aload P962.here P962.x rfl (hb hby at_92) rfl rfl ?_
        show Steps p.tables e below (T961.setTop (mkF m 94 _ [(.ref b931)])) t
        refine XS.iloadN P962.here P962.x rfl (hb hby at_94) rfl ?_
        show Steps p.tables e below (T961.setTop (mkF m 95 _ [(.int p2), (.ref b931)])) t
        refine XS.bipush P962.here P962.x rfl (hb hby at_95) ?_
        show Steps p.tables e below (T961.setTop (mkF m 97 _ [(.int (8 : Int32)), (.int p2), (.ref b931)])) t
        refine XS.iushr P962.here P962.x rfl (hb hby at_97) rfl ?_
        show Steps p.tables e below (T961.setTop (mkF m 98 _ [(.int ((p2.toUInt32 >>> ((8 : Int32) &&& 31).toUInt32).toInt32)), (.ref b931)])) t
        refine XS.sipush P962.here P962.x rfl (hb hby at_98) ?_
        show Steps p.tables e below (T961.setTop (mkF m 101 _ [(.int (255 : Int32)), (.int ((p2.toUInt32 >>> ((8 : Int32) &&& 31).toUInt32).toInt32)), (.ref b931)])) t
        refine XS.iand P962.here P962.x rfl (hb hby at_101) rfl ?_
        show Steps p.tables e below (T961.setTop (mkF m 102 _ [(.int (((p2.toUInt32 >>> ((8 : Int32) &&& 31).toUInt32).toInt32) &&& (255 : Int32))), (.ref b931)])) t
        refine XS.i2dS P962.here P962.x rfl (hb hby at_102) rfl rfl ?_
        show Steps p.tables e below (T961.setTop (mkF m 103 _ [(.double (FP.i2d (((p2.toUInt32 >>> ((8 : Int32) &&& 31).toUInt32).toInt32) &&& (255 : Int32)))), (.ref b931)])) t
        refine XS.iconst P962.here P962.x rfl (hb hby at_103) ?_
        exact kk
      have f983 := (f960.keep K972)
      refine wCallV P962 (m_offA l Z a0 hw b931 b943 b944 (1 : Int32) 3 1 kf970 K1 J1 (3 : Int32) (FP.i2d (((p2.toUInt32 >>> ((8 : Int32) &&& 31).toUInt32).toInt32) &&& (255 : Int32))) (1 : Int32) (((p2.toUInt32 >>> ((8 : Int32) &&& 31).toUInt32).toInt32) &&& (255 : Int32)).toInt (2 : Int32) h971 f983 F964 F965 F963 F966 A967 A968 (by first | assumption | exact Ne.symm (by assumption) | exact adr_ne (by omega)) (by first | assumption | exact Ne.symm (by assumption) | exact adr_ne (by omega)) q947 (by decide) rfl dK969 (i2d_int (((p2.toUInt32 >>> ((8 : Int32) &&& 31).toUInt32).toInt32) &&& (255 : Int32))) (by decide) (by omega) (by decide)) (tw35 hw) (tw36 hw) (tw38 hw) (tw38 hw) (tw37 hw) (tw2 hw) (tw39 hw) (by decide) f983 (by rw [hml]; rfl) (lenOf pd_5 rfl) (argsL := [(.double (FP.i2d (((p2.toUInt32 >>> ((8 : Int32) &&& 31).toUInt32).toInt32) &&& (255 : Int32)))), (.int (1 : Int32))]) (rest := []) rfl rfl (W := 0) (Nat.le_of_eq rfl) (by decide) (by decide) (by decide) (by decide) (allS (Or.inr ge_b931) (allS (Or.inr ge_b943) (allS (Or.inr ge_b944) all0))) (hb hby at_104) rfl (k' := 3) (n' := 36) rfl rfl ?_
      rintro T973 h984 _ P974 K985 ⟨rfl, kf982, F975, F976, F977, F978, A979, dK981, A980⟩
      have szh984 : h971.size ≤ h984.size := K985.1
      generalize gK2 : (own_of 1 true K1 J1 (((p2.toUInt32 >>> ((8 : Int32) &&& 31).toUInt32).toInt32) &&& (255 : Int32)).toInt (1 : Int32)).1 = K2 at dK981
      generalize gJ2 : (own_of 1 true K1 J1 (((p2.toUInt32 >>> ((8 : Int32) &&& 31).toUInt32).toInt32) &&& (255 : Int32)).toInt (1 : Int32)).2 = J2 at A980
      show Done _ _ _ _ _ _ _ _ _ _ _ _ _ _ _ T973 (mkF m 107 _ [])
      refine Done.stepL (pc' := 125) (st' := [(.int (2 : Int32)), (.double (FP.i2d (((p2.toUInt32 >>> ((16 : Int32) &&& 31).toUInt32).toInt32) &&& (255 : Int32)))), (.ref b931)]) (fun t kk => ?_) ?_
      · show Steps p.tables e below (T973.setTop (mkF m 107 _ [])) t
        refine XS.iload P974.here P974.x rfl (hb hby at_107) rfl ?_
        show Steps p.tables e below (T973.setTop (mkF m 109 _ [(.int (4 : Int32))])) t
        refine XS.iconst P974.here P974.x rfl (hb hby at_109) ?_
        show Steps p.tables e below (T973.setTop (mkF m 110 _ [(.int (3 : Int32)), (.int (4 : Int32))])) t
        refine XS.icmpNo P974.here P974.x rfl (hb hby at_110) rfl (iiW_lt_f (by decide)) ?_
        show Steps p.tables e below (T973.setTop (mkF m 113 _ [])) t
        refine XS.aload P974.here P974.x rfl (hb hby at_113) rfl rfl ?_
        show Steps p.tables e below (T973.setTop (mkF m 115 _ [(.ref b931)])) t
        refine XS.iloadN P974.here P974.x rfl (hb hby at_115) rfl ?_
        show Steps p.tables e below (T973.setTop (mkF m 116 _ [(.int p2), (.ref b931)])) t
        refine XS.bipush P974.here P974.x rfl (hb hby at_116) ?_
        show Steps p.tables e below (T973.setTop (mkF m 118 _ [(.int (16 : Int32)), (.int p2), (.ref b931)])) t
        refine XS.iushr P974.here P974.x rfl (hb hby at_118) rfl ?_
        show Steps p.tables e below (T973.setTop (mkF m 119 _ [(.int ((p2.toUInt32 >>> ((16 : Int32) &&& 31).toUInt32).toInt32)), (.ref b931)])) t
        refine XS.sipush P974.here P974.x rfl (hb hby at_119) ?_
        show Steps p.tables e below (T973.setTop (mkF m 122 _ [(.int (255 : Int32)), (.int ((p2.toUInt32 >>> ((16 : Int32) &&& 31).toUInt32).toInt32)), (.ref b931)])) t
        refine XS.iand P974.here P974.x rfl (hb hby at_122) rfl ?_
        show Steps p.tables e below (T973.setTop (mkF m 123 _ [(.int (((p2.toUInt32 >>> ((16 : Int32) &&& 31).toUInt32).toInt32) &&& (255 : Int32))), (.ref b931)])) t
        refine XS.i2dS P974.here P974.x rfl (hb hby at_123) rfl rfl ?_
        show Steps p.tables e below (T973.setTop (mkF m 124 _ [(.double (FP.i2d (((p2.toUInt32 >>> ((16 : Int32) &&& 31).toUInt32).toInt32) &&& (255 : Int32)))), (.ref b931)])) t
        refine XS.iconst P974.here P974.x rfl (hb hby at_124) ?_
        exact kk
      have f996 := (f983.keep K985)
      refine wCallV P974 (m_offA l Z a0 hw b931 b943 b944 (2 : Int32) 3 2 kf982 K2 J2 (3 : Int32) (FP.i2d (((p2.toUInt32 >>> ((16 : Int32) &&& 31).toUInt32).toInt32) &&& (255 : Int32))) (2 : Int32) (((p2.toUInt32 >>> ((16 : Int32) &&& 31).toUInt32).toInt32) &&& (255 : Int32)).toInt (3 : Int32) h984 f996 F976 F977 F975 F978 A979 A980 (by first | assumption | exact Ne.symm (by assumption) | exact adr_ne (by omega)) (by first | assumption | exact Ne.symm (by assumption) | exact adr_ne (by omega)) q947 (by decide) rfl dK981 (i2d_int (((p2.toUInt32 >>> ((16 : Int32) &&& 31).toUInt32).toInt32) &&& (255 : Int32))) (by decide) (by omega) (by decide)) (tw35 hw) (tw36 hw) (tw38 hw) (tw38 hw) (tw37 hw) (tw2 hw) (tw39 hw) (by decide) f996 (by rw [hml]; rfl) (lenOf pd_5 rfl) (argsL := [(.double (FP.i2d (((p2.toUInt32 >>> ((16 : Int32) &&& 31).toUInt32).toInt32) &&& (255 : Int32)))), (.int (2 : Int32))]) (rest := []) rfl rfl (W := 0) (Nat.le_of_eq rfl) (by decide) (by decide) (by decide) (by decide) (allS (Or.inr ge_b931) (allS (Or.inr ge_b943) (allS (Or.inr ge_b944) all0))) (hb hby at_125) rfl (k' := 3) (n' := 36) rfl rfl ?_
      rintro T986 h997 _ P987 K998 ⟨rfl, kf995, F988, F989, F990, F991, A992, dK994, A993⟩
      have szh997 : h984.size ≤ h997.size := K998.1
      generalize gK3 : (own_of 2 true K2 J2 (((p2.toUInt32 >>> ((16 : Int32) &&& 31).toUInt32).toInt32) &&& (255 : Int32)).toInt (2 : Int32)).1 = K3 at dK994
      generalize gJ3 : (own_of 2 true K2 J2 (((p2.toUInt32 >>> ((16 : Int32) &&& 31).toUInt32).toInt32) &&& (255 : Int32)).toInt (2 : Int32)).2 = J3 at A993
      show Done _ _ _ _ _ _ _ _ _ _ _ _ _ _ _ T986 (mkF m 128 _ [])
      refine Done.stepL (pc' := 146) (st' := [(.int (3 : Int32)), (.double (FP.i2d (((p2.toUInt32 >>> ((24 : Int32) &&& 31).toUInt32).toInt32) &&& (255 : Int32)))), (.ref b931)]) (fun t kk => ?_) ?_
      · show Steps p.tables e below (T986.setTop (mkF m 128 _ [])) t
        refine XS.iload P987.here P987.x rfl (hb hby at_128) rfl ?_
        show Steps p.tables e below (T986.setTop (mkF m 130 _ [(.int (4 : Int32))])) t
        refine XS.iconst P987.here P987.x rfl (hb hby at_130) ?_
        show Steps p.tables e below (T986.setTop (mkF m 131 _ [(.int (4 : Int32)), (.int (4 : Int32))])) t
        refine XS.icmpNo P987.here P987.x rfl (hb hby at_131) rfl (iiW_lt_f (by decide)) ?_
        show Steps p.tables e below (T986.setTop (mkF m 134 _ [])) t
        refine XS.aload P987.here P987.x rfl (hb hby at_134) rfl rfl ?_
        show Steps p.tables e below (T986.setTop (mkF m 136 _ [(.ref b931)])) t
        refine XS.iloadN P987.here P987.x rfl (hb hby at_136) rfl ?_
        show Steps p.tables e below (T986.setTop (mkF m 137 _ [(.int p2), (.ref b931)])) t
        refine XS.bipush P987.here P987.x rfl (hb hby at_137) ?_
        show Steps p.tables e below (T986.setTop (mkF m 139 _ [(.int (24 : Int32)), (.int p2), (.ref b931)])) t
        refine XS.iushr P987.here P987.x rfl (hb hby at_139) rfl ?_
        show Steps p.tables e below (T986.setTop (mkF m 140 _ [(.int ((p2.toUInt32 >>> ((24 : Int32) &&& 31).toUInt32).toInt32)), (.ref b931)])) t
        refine XS.sipush P987.here P987.x rfl (hb hby at_140) ?_
        show Steps p.tables e below (T986.setTop (mkF m 143 _ [(.int (255 : Int32)), (.int ((p2.toUInt32 >>> ((24 : Int32) &&& 31).toUInt32).toInt32)), (.ref b931)])) t
        refine XS.iand P987.here P987.x rfl (hb hby at_143) rfl ?_
        show Steps p.tables e below (T986.setTop (mkF m 144 _ [(.int (((p2.toUInt32 >>> ((24 : Int32) &&& 31).toUInt32).toInt32) &&& (255 : Int32))), (.ref b931)])) t
        refine XS.i2dS P987.here P987.x rfl (hb hby at_144) rfl rfl ?_
        show Steps p.tables e below (T986.setTop (mkF m 145 _ [(.double (FP.i2d (((p2.toUInt32 >>> ((24 : Int32) &&& 31).toUInt32).toInt32) &&& (255 : Int32)))), (.ref b931)])) t
        refine XS.iconst P987.here P987.x rfl (hb hby at_145) ?_
        exact kk
      have f1009 := (f996.keep K998)
      refine wCallV P987 (m_offB l Z a0 hw b931 b943 b944 (3 : Int32) 3 3 kf995 K3 J3 (3 : Int32) (FP.i2d (((p2.toUInt32 >>> ((24 : Int32) &&& 31).toUInt32).toInt32) &&& (255 : Int32))) (3 : Int32) (((p2.toUInt32 >>> ((24 : Int32) &&& 31).toUInt32).toInt32) &&& (255 : Int32)).toInt h997 f1009 F989 F990 F988 F991 A992 A993 (by first | assumption | exact Ne.symm (by assumption) | exact adr_ne (by omega)) (by first | assumption | exact Ne.symm (by assumption) | exact adr_ne (by omega)) q947 (by decide) rfl dK994 (i2d_int (((p2.toUInt32 >>> ((24 : Int32) &&& 31).toUInt32).toInt32) &&& (255 : Int32))) (by decide) (by omega) (by omega)) (tw35 hw) (tw36 hw) (tw38 hw) (tw38 hw) (tw37 hw) (tw2 hw) (tw39 hw) (by decide) f1009 (by rw [hml]; rfl) (lenOf pd_5 rfl) (argsL := [(.double (FP.i2d (((p2.toUInt32 >>> ((24 : Int32) &&& 31).toUInt32).toInt32) &&& (255 : Int32)))), (.int (3 : Int32))]) (rest := []) rfl rfl (W := 0) (Nat.le_of_eq rfl) (by decide) (by decide) (by decide) (by decide) (allS (Or.inr ge_b943) (allS (Or.inr ge_b944) all0)) (hb hby at_146) rfl (k' := 3) (n' := 36) rfl rfl ?_
      rintro T999 h1010 _ P1000 K1011 ⟨rfl, kf1008, F1001, F1002, F1003, F1004, A1005, dK1007, A1006⟩
      have szh1010 : h997.size ≤ h1010.size := K1011.1
      generalize gK4 : (own_of 3 false K3 J3 (((p2.toUInt32 >>> ((24 : Int32) &&& 31).toUInt32).toInt32) &&& (255 : Int32)).toInt (3 : Int32)).1 = K4 at dK1007
      generalize gJ4 : (own_of 3 false K3 J3 (((p2.toUInt32 >>> ((24 : Int32) &&& 31).toUInt32).toInt32) &&& (255 : Int32)).toInt (3 : Int32)).2 = J4 at A1006
      show Done _ _ _ _ _ _ _ _ _ _ _ _ _ _ _ T999 (mkF m 149 _ [])
      refine Done.stepL (pc' := 152) (st' := [(.int (3 : Int32)), (.int (4 : Int32))]) (fun t kk => ?_) ?_
      · show Steps p.tables e below (T999.setTop (mkF m 149 _ [])) t
        refine XS.iload P1000.here P1000.x rfl (hb hby at_149) rfl ?_
        show Steps p.tables e below (T999.setTop (mkF m 151 _ [(.int (4 : Int32))])) t
        refine XS.iloadN P1000.here P1000.x rfl (hb hby at_151) rfl ?_
        exact kk
      refine wCallS P1000 (m_mint l Z a0 hw (4 : Int32) (3 : Int32) h1010 (by decide)) (tw28 hw) (tw12 hw) (tw13 hw) (tw14 hw) (by decide) (by rw [hml]; rfl) (lenOf pd_1 rfl) (argsL := [(.int (4 : Int32)), (.int (3 : Int32))]) (rest := []) rfl rfl (W := 0) (Nat.le_of_eq rfl) (by decide) (by decide) (by decide) (by decide) (by simp) (hb hby at_152) rfl (k' := 3) (n' := 36) rfl rfl ?_
      rintro T1012 _ _ P1013 - ⟨rfl, rfl⟩
      show Done _ _ _ _ _ _ _ _ _ _ _ _ _ _ _ T1012 (mkF m 155 _ [(.int (3 : Int32))])
      refine Done.step (T' := T1012) (g' := (mkF m 159 #[.val (.int p0), .val (.int p1), .val (.int p2), .val (.int (3 : Int32)), .val (.int (4 : Int32)), .val (.ref b931), .val (.int (1 : Int32)), .val (.int (3 : Int32)), .unset, .unset] [(.ref b931)])) (fun t kk => ?_) ?_
      · show Steps p.tables e below (T1012.setTop (mkF m 155 _ [(.int (3 : Int32))])) t
        refine XS.istore P1013.here P1013.x rfl (hb hby at_155) rfl (l' := #[.val (.int p0), .val (.int p1), .val (.int p2), .val (.int (3 : Int32)), .val (.int (4 : Int32)), .val (.ref b931), .val (.int (1 : Int32)), .val (.int (3 : Int32)), .unset, .unset]) rfl ?_
        show Steps p.tables e below (T1012.setTop (mkF m 157 _ [])) t
        refine XS.aload P1013.here P1013.x rfl (hb hby at_157) rfl rfl ?_
        exact kk
      have f1016 := (f1009.keep K1011)
      refine wCallV P1013 (m_size l Z a0 hw b931 (3 : Int32) h1010 F1001) (tw29 hw) (tw30 hw) (tw32 hw) (tw32 hw) (tw31 hw) (tw2 hw) (tw33 hw) (by decide) f1016 (by rw [hml]; rfl) (lenOf pd_4 rfl) (argsL := []) (rest := []) rfl rfl (W := 0) (Nat.le_of_eq rfl) (by decide) (by decide) (by decide) (by decide) (by simp) (hb hby at_159) rfl (k' := 3) (n' := 36) rfl rfl ?_
      rintro T1014 _ _ P1015 - ⟨rfl, rfl⟩
      show Done _ _ _ _ _ _ _ _ _ _ _ _ _ _ _ T1014 (mkF m 162 _ [(.int (3 : Int32))])
      refine Done.step (T' := T1014) (g' := (mkF m 176 #[.val (.int p0), .val (.int p1), .val (.int p2), .val (.int (3 : Int32)), .val (.int (4 : Int32)), .val (.ref b931), .val (.int (1 : Int32)), .val (.int (3 : Int32)), .val (.int (1 : Int32)), .unset] [(.ref b931)])) (fun t kk => ?_) ?_
      · show Steps p.tables e below (T1014.setTop (mkF m 162 _ [(.int (3 : Int32))])) t
        refine XS.iload P1015.here P1015.x rfl (hb hby at_162) rfl ?_
        show Steps p.tables e below (T1014.setTop (mkF m 164 _ [(.int (3 : Int32)), (.int (3 : Int32))])) t
        refine XS.icmpNo P1015.here P1015.x rfl (hb hby at_164) rfl (iiW_ne_f (by decide)) ?_
        show Steps p.tables e below (T1014.setTop (mkF m 167 _ [])) t
        refine XS.iconst P1015.here P1015.x rfl (hb hby at_167) ?_
        show Steps p.tables e below (T1014.setTop (mkF m 168 _ [(.int (1 : Int32))])) t
        refine XS.goto P1015.here P1015.x rfl (pc0 := 168) (pc' := 172) rfl (hb hby at_168) (by decide) (by decide) ?_
        show Steps p.tables e below (T1014.setTop (mkF m 172 _ [(.int (1 : Int32))])) t
        refine XS.istore P1015.here P1015.x rfl (hb hby at_172) rfl (l' := #[.val (.int p0), .val (.int p1), .val (.int p2), .val (.int (3 : Int32)), .val (.int (4 : Int32)), .val (.ref b931), .val (.int (1 : Int32)), .val (.int (3 : Int32)), .val (.int (1 : Int32)), .unset]) rfl ?_
        show Steps p.tables e below (T1014.setTop (mkF m 174 _ [])) t
        refine XS.aload P1015.here P1015.x rfl (hb hby at_174) rfl rfl ?_
        exact kk
      refine wCallV P1015 (m_isFullt l Z a0 hw b931 (3 : Int32) (3 : Int32) h1010 F1001 F1004 (by decide)) (tw21 hw) (tw22 hw) (tw24 hw) (tw24 hw) (tw23 hw) (tw2 hw) (tw25 hw) (by decide) f1016 (by rw [hml]; rfl) (lenOf pd_3 rfl) (argsL := []) (rest := []) rfl rfl (W := 0) (Nat.le_of_eq rfl) (by decide) (by decide) (by decide) (by decide) (by simp) (hb hby at_176) rfl (k' := 3) (n' := 36) rfl rfl ?_
      rintro T1017 _ _ P1018 - ⟨rfl, rfl⟩
      show Done _ _ _ _ _ _ _ _ _ _ _ _ _ _ _ T1017 (mkF m 179 _ [(.int (1 : Int32))])
      refine Done.step (T' := T1017) (g' := (mkF m 220 #[.val (.int p0), .val (.int p1), .val (.int p2), .val (.int (3 : Int32)), .val (.int (4 : Int32)), .val (.ref b931), .val (.int (1 : Int32)), .val (.int (3 : Int32)), .val (.int (1 : Int32)), .val (.int (1 : Int32))] [(.int (1 : Int32))])) (fun t kk => ?_) ?_
      · show Steps p.tables e below (T1017.setTop (mkF m 179 _ [(.int (1 : Int32))])) t
        refine XS.iload P1018.here P1018.x rfl (hb hby at_179) rfl ?_
        show Steps p.tables e below (T1017.setTop (mkF m 181 _ [(.int (3 : Int32)), (.int (1 : Int32))])) t
        refine XS.iloadN P1018.here P1018.x rfl (hb hby at_181) rfl ?_
        show Steps p.tables e below (T1017.setTop (mkF m 182 _ [(.int (3 : Int32)), (.int (3 : Int32)), (.int (1 : Int32))])) t
        refine XS.icmpNo P1018.here P1018.x rfl (hb hby at_182) rfl (iiW_ne_f (by decide)) ?_
        show Steps p.tables e below (T1017.setTop (mkF m 185 _ [(.int (1 : Int32))])) t
        refine XS.iconst P1018.here P1018.x rfl (hb hby at_185) ?_
        show Steps p.tables e below (T1017.setTop (mkF m 186 _ [(.int (1 : Int32)), (.int (1 : Int32))])) t
        refine XS.goto P1018.here P1018.x rfl (pc0 := 186) (pc' := 190) rfl (hb hby at_186) (by decide) (by decide) ?_
        show Steps p.tables e below (T1017.setTop (mkF m 190 _ [(.int (1 : Int32)), (.int (1 : Int32))])) t
        refine XS.icmpNo P1018.here P1018.x rfl (hb hby at_190) rfl (iiW_ne_f (by decide)) ?_
        show Steps p.tables e below (T1017.setTop (mkF m 193 _ [])) t
        refine XS.iconst P1018.here P1018.x rfl (hb hby at_193) ?_
        show Steps p.tables e below (T1017.setTop (mkF m 194 _ [(.int (1 : Int32))])) t
        refine XS.goto P1018.here P1018.x rfl (pc0 := 194) (pc' := 198) rfl (hb hby at_194) (by decide) (by decide) ?_
        show Steps p.tables e below (T1017.setTop (mkF m 198 _ [(.int (1 : Int32))])) t
        refine XS.istore P1018.here P1018.x rfl (hb hby at_198) rfl (l' := #[.val (.int p0), .val (.int p1), .val (.int p2), .val (.int (3 : Int32)), .val (.int (4 : Int32)), .val (.ref b931), .val (.int (1 : Int32)), .val (.int (3 : Int32)), .val (.int (1 : Int32)), .val (.int (1 : Int32))]) rfl ?_
        show Steps p.tables e below (T1017.setTop (mkF m 200 _ [])) t
        refine XS.iload P1018.here P1018.x rfl (hb hby at_200) rfl ?_
        show Steps p.tables e below (T1017.setTop (mkF m 202 _ [(.int (1 : Int32))])) t
        refine XS.ifNo P1018.here P1018.x rfl (hb hby at_202) rfl (i0W_eq_f (by decide)) ?_
        show Steps p.tables e below (T1017.setTop (mkF m 205 _ [])) t
        refine XS.iload P1018.here P1018.x rfl (hb hby at_205) rfl ?_
        show Steps p.tables e below (T1017.setTop (mkF m 207 _ [(.int (1 : Int32))])) t
        refine XS.ifNo P1018.here P1018.x rfl (hb hby at_207) rfl (i0W_eq_f (by decide)) ?_
        show Steps p.tables e below (T1017.setTop (mkF m 210 _ [])) t
        refine XS.iload P1018.here P1018.x rfl (hb hby at_210) rfl ?_
        show Steps p.tables e below (T1017.setTop (mkF m 212 _ [(.int (1 : Int32))])) t
        refine XS.ifNo P1018.here P1018.x rfl (hb hby at_212) rfl (i0W_eq_f (by decide)) ?_
        show Steps p.tables e below (T1017.setTop (mkF m 215 _ [])) t
        refine XS.iconst P1018.here P1018.x rfl (hb hby at_215) ?_
        show Steps p.tables e below (T1017.setTop (mkF m 216 _ [(.int (1 : Int32))])) t
        refine XS.goto P1018.here P1018.x rfl (pc0 := 216) (pc' := 220) rfl (hb hby at_216) (by decide) (by decide) ?_
        exact kk
      exact wRet P1018 (t := .boolean) hret (narrow_01 (Or.inr rfl)) (Or.inl ⟨rfl, Or.inr (Or.inl rfl), _, rfl⟩) (hb hby at_220) rfl
  · rcases hnv with rfl | ⟨-, rfl | rfl | rfl | rfl⟩
    · show Done _ _ _ _ _ _ _ _ _ _ _ _ _ _ _ T0 (mkF m 34 _ [])
      refine wNew P0 (tw0 hw) (tw1 hw) (tw2 hw) (hb hby at_34) rfl (by decide) (by decide) (k' := 1) (n' := 4) rfl rfl (fun T1019 h1021 b1022 g1023 lt1024 P1020 E1025 X1026 D1027 => ?_)
      have ge_b1022 : h0.size ≤ b1022 := by have := P0.ge; omega
      have F1028 : Fld Z h1021 b1022 "com/example/urnwise/urnwise/sampler/SmallestKeys" "capacity" "I" (.int (0 : Int32)) := D1027 (Or.inr (tw10 hw)) (ty := .int) (by decide)
      have F1029 : Fld Z h1021 b1022 "com/example/urnwise/urnwise/sampler/SmallestKeys" "keys" "[D" .null := D1027 (Or.inl (tw17 hw)) (ty := (.array .double)) (by decide)
      have F1030 : Fld Z h1021 b1022 "com/example/urnwise/urnwise/sampler/SmallestKeys" "indices" "[I" .null := D1027 (Or.inl (tw20 hw)) (ty := (.array .int)) (by decide)
      have F1031 : Fld Z h1021 b1022 "com/example/urnwise/urnwise/sampler/SmallestKeys" "size" "I" (.int (0 : Int32)) := D1027 (Or.inl (tw27 hw)) (ty := .int) (by decide)
      show Done _ _ _ _ _ _ _ _ _ _ _ _ _ _ _ T1019 (mkF m 37 _ [(.ref b1022)])
      refine Done.stepL (pc' := 39) (st' := [(.int (4 : Int32)), (.ref b1022), (.ref b1022)]) (fun t kk => ?_) ?_
      · show Steps p.tables e below (T1019.setTop (mkF m 37 _ [(.ref b1022)])) t
        refine XS.dup P1020.here P1020.x rfl (hb hby at_37) rfl rfl ?_
        show Steps p.tables e below (T1019.setTop (mkF m 38 _ [(.ref b1022), (.ref b1022)])) t
        refine XS.iloadN P1020.here P1020.x rfl (hb hby at_38) rfl ?_
        exact kk
      refine wCallI P1020 (m_hpInit l Z a0 hw b1022 (4 : Int32) 4 h1021 X1026 F1028 F1029 F1030 (by decide) (by decide) F1031) rfl (tw3 hw) (tw4 hw) (tw2 hw) (tw5 hw) (by decide) (a := b1022) (by rw [hml]; rfl) (lenOf pd_2 rfl) (argsL := [(.int (4 : Int32))]) (rest := [(.ref b1022)]) rfl rfl (W := 1) (Nat.le_of_eq rfl) (by decide) (by decide) (by decide) (by decide) (allS (Or.inr ge_b1022) all0) (hb hby at_39) rfl (k' := 3) (n' := 36) rfl rfl ?_
      rintro T1032 h1047 _ P1033 K1048 ⟨rfl, b1034, b1035, q1036, q1037, q1038, q1039, q1040, F1041, F1042, F1043, F1044, A1045, A1046⟩
      have szh1047 : h1021.size ≤ h1047.size := K1048.1
      have ge_b1034 : h0.size ≤ b1034 := by have := q1036; have := P1020.ge; omega
      have ge_b1035 : h0.size ≤ b1035 := by have := q1037; have := P1020.ge; omega
      have dK0 : ∀ i, i < 4 → DInt ((fun _ => (0 : Int)) i) ((fun _ => (0 : UInt64)) i) := fun i _ => dint_c0
      show Done _ _ _ _ _ _ _ _ _ _ _ _ _ _ _ T1032 (mkF m 42 _ [(.ref b1022)])
      refine Done.step (T' := T1032) (g' := (mkF m 46 #[.val (.int p0), .val (.int p1), .val (.int p2), .val (.int (4 : Int32)), .val (.int (0 : Int32)), .val (.ref b1022), .unset, .unset, .unset, .unset] [(.ref b1022)])) (fun t kk => ?_) ?_
      · show Steps p.tables e below (T1032.setTop (mkF m 42 _ [(.ref b1022)])) t
        refine XS.astore P1033.here P1033.x rfl (hb hby at_42) rfl rfl (l' := #[.val (.int p0), .val (.int p1), .val (.int p2), .val (.int (4 : Int32)), .val (.int (0 : Int32)), .val (.ref b1022), .unset, .unset, .unset, .unset]) rfl ?_
        show Steps p.tables e below (T1032.setTop (mkF m 44 _ [])) t
        refine XS.aload P1033.here P1033.x rfl (hb hby at_44) rfl rfl ?_
        exact kk
      have f1051 := (X1026.keep K1048)
      refine wCallV P1033 (m_isFullf l Z a0 hw b1022 (0 : Int32) (4 : Int32) h1047 F1041 F1044 (by decide)) (tw21 hw) (tw22 hw) (tw24 hw) (tw24 hw) (tw23 hw) (tw2 hw) (tw25 hw) (by decide) f1051 (by rw [hml]; rfl) (lenOf pd_3 rfl) (argsL := []) (rest := []) rfl rfl (W := 0) (Nat.le_of_eq rfl) (by decide) (by decide) (by decide) (by decide) (by simp) (hb hby at_46) rfl (k' := 3) (n' := 36) rfl rfl ?_
      rintro T1049 _ _ P1050 - ⟨rfl, rfl⟩
      show Done _ _ _ _ _ _ _ _ _ _ _ _ _ _ _ T1049 (mkF m 49 _ [(.int (0 : Int32))])
      refine Done.step (T' := T1049) (g' := (mkF m 152 #[.val (.int p0), .val (.int p1), .val (.int p2), .val (.int (4 : Int32)), .val (.int (0 : Int32)), .val (.ref b1022), .val (.int (1 : Int32)), .unset, .unset, .unset] [(.int (4 : Int32)), (.int (0 : Int32))])) (fun t kk => ?_) ?_
      · show Steps p.tables e below (T1049.setTop (mkF m 49 _ [(.int (0 : Int32))])) t
        refine XS.iloadN P1050.here P1050.x rfl (hb hby at_49) rfl ?_
        show Steps p.tables e below (T1049.setTop (mkF m 50 _ [(.int (4 : Int32)), (.int (0 : Int32))])) t
        refine XS.ifYes P1050.here P1050.x rfl (pc0 := 50) (pc' := 57) rfl (hb hby at_50) rfl (i0W_ne_t (by decide)) (by decide) (by decide) ?_
        show Steps p.tables e below (T1049.setTop (mkF m 57 _ [(.int (0 : Int32))])) t
        refine XS.iconst P1050.here P1050.x rfl (hb hby at_57) ?_
        show Steps p.tables e below (T1049.setTop (mkF m 58 _ [(.int (0 : Int32)), (.int (0 : Int32))])) t
        refine XS.icmpNo P1050.here P1050.x rfl (hb hby at_58) rfl (iiW_ne_f (by decide)) ?_
        show Steps p.tables e below (T1049.setTop (mkF m 61 _ [])) t
        refine XS.iconst P1050.here P1050.x rfl (hb hby at_61) ?_
        show Steps p.tables e below (T1049.setTop (mkF m 62 _ [(.int (1 : Int32))])) t
        refine XS.goto P1050.here P1050.x rfl (pc0 := 62) (pc' := 66) rfl (hb hby at_62) (by decide) (by decide) ?_
        show Steps p.tables e below (T1049.setTop (mkF m 66 _ [(.int (1 : Int32))])) t
        refine XS.istore P1050.here P1050.x rfl (hb hby at_66) rfl (l' := #[.val (.int p0), .val (.int p1), .val (.int p2), .val (.int (4 : Int32)), .val (.int (0 : Int32)), .val (.ref b1022), .val (.int (1 : Int32)), .unset, .unset, .unset]) rfl ?_
        show Steps p.tables e below (T1049.setTop (mkF m 68 _ [])) t
        refine XS.iload P1050.here P1050.x rfl (hb hby at_68) rfl ?_
        show Steps p.tables e below (T1049.setTop (mkF m 70 _ [(.int (0 : Int32))])) t
        refine XS.iconst P1050.here P1050.x rfl (hb hby at_70) ?_
        show Steps p.tables e below (T1049.setTop (mkF m 71 _ [(.int (1 : Int32)), (.int (0 : Int32))])) t
        refine XS.icmpYes P1050.here P1050.x rfl (pc0 := 71) (pc' := 86) rfl (hb hby at_71) rfl (iiW_lt_t (by decide)) (by decide) (by decide) ?_
        show Steps p.tables e below (T1049.setTop (mkF m 86 _ [])) t
        refine XS.iload P1050.here P1050.x rfl (hb hby at_86) rfl ?_
        show Steps p.tables e below (T1049.setTop (mkF m 88 _ [(.int (0 : Int32))])) t
        refine XS.iconst P1050.here P1050.x rfl (hb hby at_88) ?_
        show Steps p.tables e below (T1049.setTop (mkF m 89 _ [(.int (2 : Int32)), (.int (0 : Int32))])) t
        refine XS.icmpYes P1050.here P1050.x rfl (pc0 := 89) (pc' := 107) rfl (hb hby at_89) rfl (iiW_lt_t (by decide)) (by decide) (by decide) ?_
        show Steps p.tables e below (T1049.setTop (mkF m 107 _ [])) t
        refine XS.iload P1050.here P1050.x rfl (hb hby at_107) rfl ?_
        show Steps p.tables e below (T1049.setTop (mkF m 109 _ [(.int (0 : Int32))])) t
        refine XS.iconst P1050.here P1050.x rfl (hb hby at_109) ?_
        show Steps p.tables e below (T1049.setTop (mkF m 110 _ [(.int (3 : Int32)), (.int (0 : Int32))])) t
        refine XS.icmpYes P1050.here P1050.x rfl (pc0 := 110) (pc' := 128) rfl (hb hby at_110) rfl (iiW_lt_t (by decide)) (by decide) (by decide) ?_
        show Steps p.tables e below (T1049.setTop (mkF m 128 _ [])) t
        refine XS.iload P1050.here P1050.x rfl (hb hby at_128) rfl ?_
        show Steps p.tables e below (T1049.setTop (mkF m 130 _ [(.int (0 : Int32))])) t
        refine XS.iconst P1050.here P1050.x rfl (hb hby at_130) ?_
        show Steps p.tables e below (T1049.setTop (mkF m 131 _ [(.int (4 : Int32)), (.int (0 : Int32))])) t
        refine XS.icmpYes P1050.here P1050.x rfl (pc0 := 131) (pc' := 149) rfl (hb hby at_131) rfl (iiW_lt_t (by decide)) (by decide) (by decide) ?_
        show Steps p.tables e below (T1049.setTop (mkF m 149 _ [])) t
        refine XS.iload P1050.here P1050.x rfl (hb hby at_149) rfl ?_
        show Steps p.tables e below (T1049.setTop (mkF m 151 _ [(.int (0 : Int32))])) t
        refine XS.iloadN P1050.here P1050.x rfl (hb hby at_151) rfl ?_
        exact kk
      refine wCallS P1050 (m_minf l Z a0 hw (0 : Int32) (4 : Int32) h1047 (by decide)) (tw28 hw) (tw12 hw) (tw13 hw) (tw14 hw) (by decide) (by rw [hml]; rfl) (lenOf pd_1 rfl) (argsL := [(.int (0 : Int32)), (.int (4 : Int32))]) (rest := []) rfl rfl (W := 0) (Nat.le_of_eq rfl) (by decide) (by decide) (by decide) (by decide) (by simp) (hb hby at_152) rfl (k' := 3) (n' := 36) rfl rfl ?_
      rintro T1052 _ _ P1053 - ⟨rfl, rfl⟩
      show Done _ _ _ _ _ _ _ _ _ _ _ _ _ _ _ T1052 (mkF m 155 _ [(.int (0 : Int32))])
      refine Done.step (T' := T1052) (g' := (mkF m 159 #[.val (.int p0), .val (.int p1), .val (.int p2), .val (.int (4 : Int32)), .val (.int (0 : Int32)), .val (.ref b1022), .val (.int (1 : Int32)), .val (.int (0 : Int32)), .unset, .unset] [(.ref b1022)])) (fun t kk => ?_) ?_
      · show Steps p.tables e below (T1052.setTop (mkF m 155 _ [(.int (0 : Int32))])) t
        refine XS.istore P1053.here P1053.x rfl (hb hby at_155) rfl (l' := #[.val (.int p0), .val (.int p1), .val (.int p2), .val (.int (4 : Int32)), .val (.int (0 : Int32)), .val (.ref b1022), .val (.int (1 : Int32)), .val (.int (0 : Int32)), .unset, .unset]) rfl ?_
        show Steps p.tables e below (T1052.setTop (mkF m 157 _ [])) t
        refine XS.aload P1053.here P1053.x rfl (hb hby at_157) rfl rfl ?_
        exact kk
      refine wCallV P1053 (m_size l Z a0 hw b1022 (0 : Int32) h1047 F1041) (tw29 hw) (tw30 hw) (tw32 hw) (tw32 hw) (tw31 hw) (tw2 hw) (tw33 hw) (by decide) f1051 (by rw [hml]; rfl) (lenOf pd_4 rfl) (argsL := []) (rest := []) rfl rfl (W := 0) (Nat.le_of_eq rfl) (by decide) (by decide) (by decide) (by decide) (by simp) (hb hby at_159) rfl (k' := 3) (n' := 36) rfl rfl ?_
      rintro T1054 _ _ P1055 - ⟨rfl, rfl⟩
      show Done _ _ _ _ _ _ _ _ _ _ _ _ _ _ _ T1054 (mkF m 162 _ [(.int (0 : Int32))])
      refine Done.step (T' := T1054) (g' := (mkF m 176 #[.val (.int p0), .val (.int p1), .val (.int p2), .val (.int (4 : Int32)), .val (.int (0 : Int32)), .val (.ref b1022), .val (.int (1 : Int32)), .val (.int (0 : Int32)), .val (.int (1 : Int32)), .unset] [(.ref b1022)])) (fun t kk => ?_) ?_
      · show Steps p.tables e below (T1054.setTop (mkF m 162 _ [(.int (0 : Int32))])) t
        refine XS.iload P1055.here P1055.x rfl (hb hby at_162) rfl ?_
        show Steps p.tables e below (T1054.setTop (mkF m 164 _ [(.int (0 : Int32)), (.int (0 : Int32))])) t
        refine XS.icmpNo P1055.here P1055.x rfl (hb hby at_164) rfl (iiW_ne_f (by decide)) ?_
        show Steps p.tables e below (T1054.setTop (mkF m 167 _ [])) t
        refine XS.iconst P1055.here P1055.x rfl (hb hby at_167) ?_
        show Steps p.tables e below (T1054.setTop (mkF m 168 _ [(.int (1 : Int32))])) t
        refine XS.goto P1055.here P1055.x rfl (pc0 := 168) (pc' := 172) rfl (hb hby at_168) (by decide) (by decide) ?_
        show Steps p.tables e below (T1054.setTop (mkF m 172 _ [(.int (1 : Int32))])) t
        refine XS.istore P1055.here P1055.x rfl (hb hby at_172) rfl (l' := #[.val (.int p0), .val (.int p1), .val (.int p2), .val (.int (4 : Int32)), .val (.int (0 : Int32)), .val (.ref b1022), .val (.int (1 : Int32)), .val (.int (0 : Int32)), .val (.int (1 : Int32)), .unset]) rfl ?_
        show Steps p.tables e below (T1054.setTop (mkF m 174 _ [])) t
        refine XS.aload P1055.here P1055.x rfl (hb hby at_174) rfl rfl ?_
        exact kk
      refine wCallV P1055 (m_isFullf l Z a0 hw b1022 (0 : Int32) (4 : Int32) h1047 F1041 F1044 (by decide)) (tw21 hw) (tw22 hw) (tw24 hw) (tw24 hw) (tw23 hw) (tw2 hw) (tw25 hw) (by decide) f1051 (by rw [hml]; rfl) (lenOf pd_3 rfl) (argsL := []) (rest := []) rfl rfl (W := 0) (Nat.le_of_eq rfl) (by decide) (by decide) (by decide) (by decide) (by simp) (hb hby at_176) rfl (k' := 3) (n' := 36) rfl rfl ?_
      rintro T1056 _ _ P1057 - ⟨rfl, rfl⟩
      show Done _ _ _ _ _ _ _ _ _ _ _ _ _ _ _ T1056 (mkF m 179 _ [(.int (0 : Int32))])
      refine Done.step (T' := T1056) (g' := (mkF m 220 #[.val (.int p0), .val (.int p1), .val (.int p2), .val (.int (4 : Int32)), .val (.int (0 : Int32)), .val (.ref b1022), .val (.int (1 : Int32)), .val (.int (0 : Int32)), .val (.int (1 : Int32)), .val (.int (1 : Int32))] [(.int (1 : Int32))])) (fun t kk => ?_) ?_
      · show Steps p.tables e below (T1056.setTop (mkF m 179 _ [(.int (0 : Int32))])) t
        refine XS.iload P1057.here P1057.x rfl (hb hby at_179) rfl ?_
        show Steps p.tables e below (T1056.setTop (mkF m 181 _ [(.int (0 : Int32)), (.int (0 : Int32))])) t
        refine XS.iloadN P1057.here P1057.x rfl (hb hby at_181) rfl ?_
        show Steps p.tables e below (T1056.setTop (mkF m 182 _ [(.int (4 : Int32)), (.int (0 : Int32)), (.int (0 : Int32))])) t
        refine XS.icmpYes P1057.here P1057.x rfl (pc0 := 182) (pc' := 189) rfl (hb hby at_182) rfl (iiW_ne_t (by decide)) (by decide) (by decide) ?_
        show Steps p.tables e below (T1056.setTop (mkF m 189 _ [(.int (0 : Int32))])) t
        refine XS.iconst P1057.here P1057.x rfl (hb hby at_189) ?_
        show Steps p.tables e below (T1056.setTop (mkF m 190 _ [(.int (0 : Int32)), (.int (0 : Int32))])) t
        refine XS.icmpNo P1057.here P1057.x rfl (hb hby at_190) rfl (iiW_ne_f (by decide)) ?_
        show Steps p.tables e below (T1056.setTop (mkF m 193 _ [])) t
        refine XS.iconst P1057.here P1057.x rfl (hb hby at_193) ?_
        show Steps p.tables e below (T1056.setTop (mkF m 194 _ [(.int (1 : Int32))])) t
        refine XS.goto P1057.here P1057.x rfl (pc0 := 194) (pc' := 198) rfl (hb hby at_194) (by decide) (by decide) ?_
        show Steps p.tables e below (T1056.setTop (mkF m 198 _ [(.int (1 : Int32))])) t
        refine XS.istore P1057.here P1057.x rfl (hb hby at_198) rfl (l' := #[.val (.int p0), .val (.int p1), .val (.int p2), .val (.int (4 : Int32)), .val (.int (0 : Int32)), .val (.ref b1022), .val (.int (1 : Int32)), .val (.int (0 : Int32)), .val (.int (1 : Int32)), .val (.int (1 : Int32))]) rfl ?_
        show Steps p.tables e below (T1056.setTop (mkF m 200 _ [])) t
        refine XS.iload P1057.here P1057.x rfl (hb hby at_200) rfl ?_
        show Steps p.tables e below (T1056.setTop (mkF m 202 _ [(.int (1 : Int32))])) t
        refine XS.ifNo P1057.here P1057.x rfl (hb hby at_202) rfl (i0W_eq_f (by decide)) ?_
        show Steps p.tables e below (T1056.setTop (mkF m 205 _ [])) t
        refine XS.iload P1057.here P1057.x rfl (hb hby at_205) rfl ?_
        show Steps p.tables e below (T1056.setTop (mkF m 207 _ [(.int (1 : Int32))])) t
        refine XS.ifNo P1057.here P1057.x rfl (hb hby at_207) rfl (i0W_eq_f (by decide)) ?_
        show Steps p.tables e below (T1056.setTop (mkF m 210 _ [])) t
        refine XS.iload P1057.here P1057.x rfl (hb hby at_210) rfl ?_
        show Steps p.tables e below (T1056.setTop (mkF m 212 _ [(.int (1 : Int32))])) t
        refine XS.ifNo P1057.here P1057.x rfl (hb hby at_212) rfl (i0W_eq_f (by decide)) ?_
        show Steps p.tables e below (T1056.setTop (mkF m 215 _ [])) t
        refine XS.iconst P1057.here P1057.x rfl (hb hby at_215) ?_
        show Steps p.tables e below (T1056.setTop (mkF m 216 _ [(.int (1 : Int32))])) t
        refine XS.goto P1057.here P1057.x rfl (pc0 := 216) (pc' := 220) rfl (hb hby at_216) (by decide) (by decide) ?_
        exact kk
      exact wRet P1057 (t := .boolean) hret (narrow_01 (Or.inr rfl)) (Or.inl ⟨rfl, Or.inr (Or.inl rfl), _, rfl⟩) (hb hby at_220) rfl
    · show Done _ _ _ _ _ _ _ _ _ _ _ _ _ _ _ T0 (mkF m 34 _ [])
      refine wNew P0 (tw0 hw) (tw1 hw) (tw2 hw) (hb hby at_34) rfl (by decide) (by decide) (k' := 1) (n' := 4) rfl rfl (fun T1058 h1060 b1061 g1062 lt1063 P1059 E1064 X1065 D1066 => ?_)
      have ge_b1061 : h0.size ≤ b1061 := by have := P0.ge; omega
      have F1067 : Fld Z h1060 b1061 "com/example/urnwise/urnwise/sampler/SmallestKeys" "capacity" "I" (.int (0 : Int32)) := D1066 (Or.inr (tw10 hw)) (ty := .int) (by decide)
      have F1068 : Fld Z h1060 b1061 "com/example/urnwise/urnwise/sampler/SmallestKeys" "keys" "[D" .null := D1066 (Or.inl (tw17 hw)) (ty := (.array .double)) (by decide)
      have F1069 : Fld Z h1060 b1061 "com/example/urnwise/urnwise/sampler/SmallestKeys" "indices" "[I" .null := D1066 (Or.inl (tw20 hw)) (ty := (.array .int)) (by decide)
      have F1070 : Fld Z h1060 b1061 "com/example/urnwise/urnwise/sampler/SmallestKeys" "size" "I" (.int (0 : Int32)) := D1066 (Or.inl (tw27 hw)) (ty := .int) (by decide)
      show Done _ _ _ _ _ _ _ _ _ _ _ _ _ _ _ T1058 (mkF m 37 _ [(.ref b1061)])
      refine Done.stepL (pc' := 39) (st' := [(.int (4 : Int32)), (.ref b1061), (.ref b1061)]) (fun t kk => ?_) ?_
      · show Steps p.tables e below (T1058.setTop (mkF m 37 _ [(.ref b1061)])) t
        refine XS.dup P1059.here P1059.x rfl (hb hby at_37) rfl rfl ?_
        show Steps p.tables e below (T1058.setTop (mkF m 38 _ [(.ref b1061), (.ref b1061)])) t
        refine XS.iloadN P1059.here P1059.x rfl (hb hby at_38) rfl ?_
        exact kk
      refine wCallI P1059 (m_hpInit l Z a0 hw b1061 (4 : Int32) 4 h1060 X1065 F1067 F1068 F1069 (by decide) (by decide) F1070) rfl (tw3 hw) (tw4 hw) (tw2 hw) (tw5 hw) (by decide) (a := b1061) (by rw [hml]; rfl) (lenOf pd_2 rfl) (argsL := [(.int (4 : Int32))]) (rest := [(.ref b1061)]) rfl rfl (W := 1) (Nat.le_of_eq rfl) (by decide) (by decide) (by decide) (by decide) (allS (Or.inr ge_b1061) all0) (hb hby at_39) rfl (k' := 3) (n' := 36) rfl rfl ?_
      rintro T1071 h1086 _ P1072 K1087 ⟨rfl, b1073, b1074, q1075, q1076, q1077, q1078, q1079, F1080, F1081, F1082, F1083, A1084, A1085⟩
      have szh1086 : h1060.size ≤ h1086.size := K1087.1
      have ge_b1073 : h0.size ≤ b1073 := by have := q1075; have := P1059.ge; omega
      have ge_b1074 : h0.size ≤ b1074 := by have := q1076; have := P1059.ge; omega
      have dK0 : ∀ i, i < 4 → DInt ((fun _ => (0 : Int)) i) ((fun _ => (0 : UInt64)) i) := fun i _ => dint_c0
      show Done _ _ _ _ _ _ _ _ _ _ _ _ _ _ _ T1071 (mkF m 42 _ [(.ref b1061)])
      refine Done.step (T' := T1071) (g' := (mkF m 46 #[.val (.int p0), .val (.int p1), .val (.int p2), .val (.int (4 : Int32)), .val (.int (1 : Int32)), .val (.ref b1061), .unset, .unset, .unset, .unset] [(.ref b1061)])) (fun t kk => ?_) ?_
      · show Steps p.tables e below (T1071.setTop (mkF m 42 _ [(.ref b1061)])) t
        refine XS.astore P1072.here P1072.x rfl (hb hby at_42) rfl rfl (l' := #[.val (.int p0), .val (.int p1), .val (.int p2), .val (.int (4 : Int32)), .val (.int (1 : Int32)), .val (.ref b1061), .unset, .unset, .unset, .unset]) rfl ?_
        show Steps p.tables e below (T1071.setTop (mkF m 44 _ [])) t
        refine XS.aload P1072.here P1072.x rfl (hb hby at_44) rfl rfl ?_
        exact kk
      have f1090 := (X1065.keep K1087)
      refine wCallV P1072 (m_isFullf l Z a0 hw b1061 (0 : Int32) (4 : Int32) h1086 F1080 F1083 (by decide)) (tw21 hw) (tw22 hw) (tw24 hw) (tw24 hw) (tw23 hw) (tw2 hw) (tw25 hw) (by decide) f1090 (by rw [hml]; rfl) (lenOf pd_3 rfl) (argsL := []) (rest := []) rfl rfl (W := 0) (Nat.le_of_eq rfl) (by decide) (by decide) (by decide) (by decide) (by simp) (hb hby at_46) rfl (k' := 3) (n' := 36) rfl rfl ?_
      rintro T1088 _ _ P1089 - ⟨rfl, rfl⟩
      show Done _ _ _ _ _ _ _ _ _ _ _ _ _ _ _ T1088 (mkF m 49 _ [(.int (0 : Int32))])
      refine Done.step (T' := T1088) (g' := (mkF m 83 #[.val (.int p0), .val (.int p1), .val (.int p2), .val (.int (4 : Int32)), .val (.int (1 : Int32)), .val (.ref b1061), .val (.int (1 : Int32)), .unset, .unset, .unset] [(.int (0 : Int32)), (.double (FP.i2d (p2 &&& (255 : Int32)))), (.ref b1061)])) (fun t kk => ?_) ?_
      · show Steps p.tables e below (T1088.setTop (mkF m 49 _ [(.int (0 : Int32))])) t
        refine XS.iloadN P1089.here P1089.x rfl (hb hby at_49) rfl ?_
        show Steps p.tables e below (T1088.setTop (mkF m 50 _ [(.int (4 : Int32)), (.int (0 : Int32))])) t
        refine XS.ifYes P1089.here P1089.x rfl (pc0 := 50) (pc' := 57) rfl (hb hby at_50) rfl (i0W_ne_t (by decide)) (by decide) (by decide) ?_
        show Steps p.tables e below (T1088.setTop (mkF m 57 _ [(.int (0 : Int32))])) t
        refine XS.iconst P1089.here P1089.x rfl (hb hby at_57) ?_
        show Steps p.tables e below (T1088.setTop (mkF m 58 _ [(.int (0 : Int32)), (.int (0 : Int32))])) t
        refine XS.icmpNo P1089.here P1089.x rfl (hb hby at_58) rfl (iiW_ne_f (by decide)) ?_
        show Steps p.tables e below (T1088.setTop (mkF m 61 _ [])) t
        refine XS.iconst P1089.here P1089.x rfl (hb hby at_61) ?_
        show Steps p.tables e below (T1088.setTop (mkF m 62 _ [(.int (1 : Int32))])) t
        refine XS.goto P1089.here P1089.x rfl (pc0 := 62) (pc' := 66) rfl (hb hby at_62) (by decide) (by decide) ?_
        show Steps p.tables e below (T1088.setTop (mkF m 66 _ [(.int (1 : Int32))])) t
        refine XS.istore P1089.here P1089.x rfl (hb hby at_66) rfl (l' := #[.val (.int p0), .val (.int p1), .val (.int p2), .val (.int (4 : Int32)), .val (.int (1 : Int32)), .val (.ref b1061), .val (.int (1 : Int32)), .unset, .unset, .unset]) rfl ?_
        show Steps p.tables e below (T1088.setTop (mkF m 68 _ [])) t
        refine XS.iload P1089.here P1089.x rfl (hb hby at_68) rfl ?_
        show Steps p.tables e below (T1088.setTop (mkF m 70 _ [(.int (1 : Int32))])) t
        refine XS.iconst P1089.here P1089.x rfl (hb hby at_70) ?_
        show Steps p.tables e below (T1088.setTop (mkF m 71 _ [(.int (1 : Int32)), (.int (1 : Int32))])) t
        refine XS.icmpNo P1089.here P1089.x rfl (hb hby at_71) rfl (iiW_lt_f (by decide)) ?_
        show Steps p.tables e below (T1088.setTop (mkF m 74 _ [])) t
        refine XS.aload P1089.here P1089.x rfl (hb hby at_74) rfl rfl ?_
        show Steps p.tables e below (T1088.setTop (mkF m 76 _ [(.ref b1061)])) t
        refine XS.iloadN P1089.here P1089.x rfl (hb hby at_76) rfl ?_
        show Steps p.tables e below (T1088.setTop (mkF m 77 _ [(.int p2), (.ref b1061)])) t
        refine XS.sipush P1089.here P1089.x rfl (hb hby at_77) ?_
        show Steps p.tables e below (T1088.setTop (mkF m 80 _ [(.int (255 : Int32)), (.int p2), (.ref b1061)])) t
        refine XS.iand P1089.here P1089.x rfl (hb hby at_80) rfl ?_
        show Steps p.tables e below (T1088.setTop (mkF m 81 _ [(.int (p2 &&& (255 : Int32))), (.ref b1061)])) t
        refine XS.i2dS P1089.here P1089.x rfl (hb hby at_81) rfl rfl ?_
        show Steps p.tables e below (T1088.setTop (mkF m 82 _ [(.double (FP.i2d (p2 &&& (255 : Int32)))), (.ref b1061)])) t
        refine XS.iconst P1089.here P1089.x rfl (hb hby at_82) ?_
        exact kk
      refine wCallV P1089 (m_offA l Z a0 hw b1061 b1073 b1074 (0 : Int32) 4 0 (fun _ => (0 : UInt64)) (fun _ => (0 : Int)) (fun _ => (0 : Int32)) (4 : Int32) (FP.i2d (p2 &&& (255 : Int32))) (0 : Int32) (p2 &&& (255 : Int32)).toInt (1 : Int32) h1086 f1090 F1081 F1082 F1080 F1083 A1084 A1085 (by first | assumption | exact Ne.symm (by assumption) | exact adr_ne (by omega)) (by first | assumption | exact Ne.symm (by assumption) | exact adr_ne (by omega)) q1077 (by decide) rfl dK0 (i2d_int (p2 &&& (255 : Int32))) (by decide) (by omega) (by decide)) (tw35 hw) (tw36 hw) (tw38 hw) (tw38 hw) (tw37 hw) (tw2 hw) (tw39 hw) (by decide) f1090 (by rw [hml]; rfl) (lenOf pd_5 rfl) (argsL := [(.double (FP.i2d (p2 &&& (255 : Int32)))), (.int (0 : Int32))]) (rest := []) rfl rfl (W := 0) (Nat.le_of_eq rfl) (by decide) (by decide) (by decide) (by decide) (allS (Or.inr ge_b1061) (allS (Or.inr ge_b1073) (allS (Or.inr ge_b1074) all0))) (hb hby at_83) rfl (k' := 3) (n' := 36) rfl rfl ?_
      rintro T1091 h1101 _ P1092 K1102 ⟨rfl, kf1100, F1093, F1094, F1095, F1096, A1097, dK1099, A1098⟩
      have szh1101 : h1086.size ≤ h1101.size := K1102.1
      generalize gK1 : (own_of 0 true (fun _ => (0 : Int)) (fun _ => (0 : Int32)) (p2 &&& (255 : Int32)).toInt (0 : Int32)).1 = K1 at dK1099
      generalize gJ1 : (own_of 0 true (fun _ => (0 : Int)) (fun _ => (0 : Int32)) (p2 &&& (255 : Int32)).toInt (0 : Int32)).2 = J1 at A1098
      show Done _ _ _ _ _ _ _ _ _ _ _ _ _ _ _ T1091 (mkF m 86 _ [])
      refine Done.stepL (pc' := 152) (st' := [(.int (4 : Int32)), (.int (1 : Int32))]) (fun t kk => ?_) ?_
      · show Steps p.tables e below (T1091.setTop (mkF m 86 _ [])) t
        refine XS.iload P1092.here P1092.x rfl (hb hby at_86) rfl ?_
        show Steps p.tables e below (T1091.setTop (mkF m 88 _ [(.int (1 : Int32))])) t
        refine XS.iconst P1092.here P1092.x rfl (hb hby at_88) ?_
        show Steps p.tables e below (T1091.setTop (mkF m 89 _ [(.int (2 : Int32)), (.int (1 : Int32))])) t
        refine XS.icmpYes P1092.here P1092.x rfl (pc0 := 89) (pc' := 107) rfl (hb hby at_89) rfl (iiW_lt_t (by decide)) (by decide) (by decide) ?_
        show Steps p.tables e below (T1091.setTop (mkF m 107 _ [])) t
        refine XS.iload P1092.here P1092.x rfl (hb hby at_107) rfl ?_
        show Steps p.tables e below (T1091.setTop (mkF m 109 _ [(.int (1 : Int32))])) t
        refine XS.iconst P1092.here P1092.x rfl (hb hby at_109) ?_
        show Steps p.tables e below (T1091.setTop (mkF m 110 _ [(.int (3 : Int32)), (.int (1 : Int32))])) t
        refine XS.icmpYes P1092.here P1092.x rfl (pc0 := 110) (pc' := 128) rfl (hb hby at_110) rfl (iiW_lt_t (by decide)) (by decide) (by decide) ?_
        show Steps p.tables e below (T1091.setTop (mkF m 128 _ [])) t
        refine XS.iload P1092.here P1092.x rfl (hb hby at_128) rfl ?_
        show Steps p.tables e below (T1091.setTop (mkF m 130 _ [(.int (1 : Int32))])) t
        refine XS.iconst P1092.here P1092.x rfl (hb hby at_130) ?_
        show Steps p.tables e below (T1091.setTop (mkF m 131 _ [(.int (4 : Int32)), (.int (1 : Int32))])) t
        refine XS.icmpYes P1092.here P1092.x rfl (pc0 := 131) (pc' := 149) rfl (hb hby at_131) rfl (iiW_lt_t (by decide)) (by decide) (by decide) ?_
        show Steps p.tables e below (T1091.setTop (mkF m 149 _ [])) t
        refine XS.iload P1092.here P1092.x rfl (hb hby at_149) rfl ?_
        show Steps p.tables e below (T1091.setTop (mkF m 151 _ [(.int (1 : Int32))])) t
        refine XS.iloadN P1092.here P1092.x rfl (hb hby at_151) rfl ?_
        exact kk
      refine wCallS P1092 (m_minf l Z a0 hw (1 : Int32) (4 : Int32) h1101 (by decide)) (tw28 hw) (tw12 hw) (tw13 hw) (tw14 hw) (by decide) (by rw [hml]; rfl) (lenOf pd_1 rfl) (argsL := [(.int (1 : Int32)), (.int (4 : Int32))]) (rest := []) rfl rfl (W := 0) (Nat.le_of_eq rfl) (by decide) (by decide) (by decide) (by decide) (by simp) (hb hby at_152) rfl (k' := 3) (n' := 36) rfl rfl ?_
      rintro T1103 _ _ P1104 - ⟨rfl, rfl⟩
      show Done _ _ _ _ _ _ _ _ _ _ _ _ _ _ _ T1103 (mkF m 155 _ [(.int (1 : Int32))])
      refine Done.step (T' := T1103) (g' := (mkF m 159 #[.val (.int p0), .val (.int p1), .val (.int p2), .val (.int (4 : Int32)), .val (.int (1 : Int32)), .val (.ref b1061), .val (.int (1 : Int32)), .val (.int (1 : Int32)), .unset, .unset] [(.ref b1061)])) (fun t kk => ?_) ?_
      · show Steps p.tables e below (T1103.setTop (mkF m 155 _ [(.int (1 : Int32))])) t
        refine XS.istore P1104.here P1104.x rfl (hb hby at_155) rfl (l' := #[.val (.int p0), .val (.int p1), .val (.int p2), .val (.int (4 : Int32)), .val (.int (1 : Int32)), .val (.ref b1061), .val (.int (1 : Int32)), .val (.int (1 : Int32)), .unset, .unset]) rfl ?_
        show Steps p.tables e below (T1103.setTop (mkF m 157 _ [])) t
        refine XS.aload P1104.here P1104.x rfl (hb hby at_157) rfl rfl ?_
        exact kk
      have f1107 := (f1090.keep K1102)
      refine wCallV P1104 (m_size l Z a0 hw b1061 (1 : Int32) h1101 F1093) (tw29 hw) (tw30 hw) (tw32 hw) (tw32 hw) (tw31 hw) (tw2 hw) (tw33 hw) (by decide) f1107 (by rw [hml]; rfl) (lenOf pd_4 rfl) (argsL := []) (rest := []) rfl rfl (W := 0) (Nat.le_of_eq rfl) (by decide) (by decide) (by decide) (by decide) (by simp) (hb hby at_159) rfl (k' := 3) (n' := 36) rfl rfl ?_
      rintro T1105 _ _ P1106 - ⟨rfl, rfl⟩
      show Done _ _ _ _ _ _ _ _ _ _ _ _ _ _ _ T1105 (mkF m 162 _ [(.int (1 : Int32))])
      refine Done.step (T' := T1105) (g' := (mkF m 176 #[.val (.int p0), .val (.int p1), .val (.int p2), .val (.int (4 : Int32)), .val (.int (1 : Int32)), .val (.ref b1061), .val (.int (1 : Int32)), .val (.int (1 : Int32)), .val (.int (1 : Int32)), .unset] [(.ref b1061)])) (fun t kk => ?_) ?_
      · show Steps p.tables e below (T1105.setTop (mkF m 162 _ [(.int (1 : Int32))])) t
        refine XS.iload P1106.here P1106.x rfl (hb hby at_162) rfl ?_
        show Steps p.tables e below (T1105.setTop (mkF m 164 _ [(.int (1 : Int32)), (.int (1 : Int32))])) t
        refine XS.icmpNo P1106.here P1106.x rfl (hb hby at_164) rfl (iiW_ne_f (by decide)) ?_
        show Steps p.tables e below (T1105.setTop (mkF m 167 _ [])) t
        refine XS.iconst P1106.here P1106.x rfl (hb hby at_167) ?_
        show Steps p.tables e below (T1105.setTop (mkF m 168 _ [(.int (1 : Int32))])) t
        refine XS.goto P1106.here P1106.x rfl (pc0 := 168) (pc' := 172) rfl (hb hby at_168) (by decide) (by decide) ?_
        show Steps p.tables e below (T1105.setTop (mkF m 172 _ [(.int (1 : Int32))])) t
        refine XS.istore P1106.here P1106.x rfl (hb hby at_172) rfl (l' := #[.val (.int p0), .val (.int p1), .val (.int p2), .val (.int (4 : Int32)), .val (.int (1 : Int32)), .val (.ref b1061), .val (.int (1 : Int32)), .val (.int (1 : Int32)), .val (.int (1 : Int32)), .unset]) rfl ?_
        show Steps p.tables e below (T1105.setTop (mkF m 174 _ [])) t
        refine XS.aload P1106.here P1106.x rfl (hb hby at_174) rfl rfl ?_
        exact kk
      refine wCallV P1106 (m_isFullf l Z a0 hw b1061 (1 : Int32) (4 : Int32) h1101 F1093 F1096 (by decide)) (tw21 hw) (tw22 hw) (tw24 hw) (tw24 hw) (tw23 hw) (tw2 hw) (tw25 hw) (by decide) f1107 (by rw [hml]; rfl) (lenOf pd_3 rfl) (argsL := []) (rest := []) rfl rfl (W := 0) (Nat.le_of_eq rfl) (by decide) (by decide) (by decide) (by decide) (by simp) (hb hby at_176) rfl (k' := 3) (n' := 36) rfl rfl ?_
      rintro T1108 _ _ P1109 - ⟨rfl, rfl⟩
      show Done _ _ _ _ _ _ _ _ _ _ _ _ _ _ _ T1108 (mkF m 179 _ [(.int (0 : Int32))])
      refine Done.step (T' := T1108) (g' := (mkF m 220 #[.val (.int p0), .val (.int p1), .val (.int p2), .val (.int (4 : Int32)), .val (.int (1 : Int32)), .val (.ref b1061), .val (.int (1 : Int32)), .val (.int (1 : Int32)), .val (.int (1 : Int32)), .val (.int (1 : Int32))] [(.int (1 : Int32))])) (fun t kk => ?_) ?_
      · show Steps p.tables e below (T1108.setTop (mkF m 179 _ [(.int (0 : Int32))])) t
        refine XS.iload P1109.here P1109.x rfl (hb hby at_179) rfl ?_
        show Steps p.tables e below (T1108.setTop (mkF m 181 _ [(.int (1 : Int32)), (.int (0 : Int32))])) t
        refine XS.iloadN P1109.here P1109.x rfl (hb hby at_181) rfl ?_
        show Steps p.tables e below (T1108.setTop (mkF m 182 _ [(.int (4 : Int32)), (.int (1 : Int32)), (.int (0 : Int32))])) t
        refine XS.icmpYes P1109.here P1109.x rfl (pc0 := 182) (pc' := 189) rfl (hb hby at_182) rfl (iiW_ne_t (by decide)) (by decide) (by decide) ?_
        show Steps p.tables e below (T1108.setTop (mkF m 189 _ [(.int (0 : Int32))])) t
        refine XS.iconst P1109.here P1109.x rfl (hb hby at_189) ?_
        show Steps p.tables e below (T1108.setTop (mkF m 190 _ [(.int (0 : Int32)), (.int (0 : Int32))])) t
        refine XS.icmpNo P1109.here P1109.x rfl (hb hby at_190) rfl (iiW_ne_f (by decide)) ?_
        show Steps p.tables e below (T1108.setTop (mkF m 193 _ [])) t
        refine XS.iconst P1109.here P1109.x rfl (hb hby at_193) ?_
        show Steps p.tables e below (T1108.setTop (mkF m 194 _ [(.int (1 : Int32))])) t
        refine XS.goto P1109.here P1109.x rfl (pc0 := 194) (pc' := 198) rfl (hb hby at_194) (by decide) (by decide) ?_
        show Steps p.tables e below (T1108.setTop (mkF m 198 _ [(.int (1 : Int32))])) t
        refine XS.istore P1109.here P1109.x rfl (hb hby at_198) rfl (l' := #[.val (.int p0), .val (.int p1), .val (.int p2), .val (.int (4 : Int32)), .val (.int (1 : Int32)), .val (.ref b1061), .val (.int (1 : Int32)), .val (.int (1 : Int32)), .val (.int (1 : Int32)), .val (.int (1 : Int32))]) rfl ?_
        show Steps p.tables e below (T1108.setTop (mkF m 200 _ [])) t
        refine XS.iload P1109.here P1109.x rfl (hb hby at_200) rfl ?_
        show Steps p.tables e below (T1108.setTop (mkF m 202 _ [(.int (1 : Int32))])) t
        refine XS.ifNo P1109.here P1109.x rfl (hb hby at_202) rfl (i0W_eq_f (by decide)) ?_
        show Steps p.tables e below (T1108.setTop (mkF m 205 _ [])) t
        refine XS.iload P1109.here P1109.x rfl (hb hby at_205) rfl ?_
        show Steps p.tables e below (T1108.setTop (mkF m 207 _ [(.int (1 : Int32))])) t
        refine XS.ifNo P1109.here P1109.x rfl (hb hby at_207) rfl (i0W_eq_f (by decide)) ?_
        show Steps p.tables e below (T1108.setTop (mkF m 210 _ [])) t
        refine XS.iload P1109.here P1109.x rfl (hb hby at_210) rfl ?_
        show Steps p.tables e below (T1108.setTop (mkF m 212 _ [(.int (1 : Int32))])) t
        refine XS.ifNo P1109.here P1109.x rfl (hb hby at_212) rfl (i0W_eq_f (by decide)) ?_
        show Steps p.tables e below (T1108.setTop (mkF m 215 _ [])) t
        refine XS.iconst P1109.here P1109.x rfl (hb hby at_215) ?_
        show Steps p.tables e below (T1108.setTop (mkF m 216 _ [(.int (1 : Int32))])) t
        refine XS.goto P1109.here P1109.x rfl (pc0 := 216) (pc' := 220) rfl (hb hby at_216) (by decide) (by decide) ?_
        exact kk
      exact wRet P1109 (t := .boolean) hret (narrow_01 (Or.inr rfl)) (Or.inl ⟨rfl, Or.inr (Or.inl rfl), _, rfl⟩) (hb hby at_220) rfl
    · show Done _ _ _ _ _ _ _ _ _ _ _ _ _ _ _ T0 (mkF m 34 _ [])
      refine wNew P0 (tw0 hw) (tw1 hw) (tw2 hw) (hb hby at_34) rfl (by decide) (by decide) (k' := 1) (n' := 4) rfl rfl (fun T1110 h1112 b1113 g1114 lt1115 P1111 E1116 X1117 D1118 => ?_)
      have ge_b1113 : h0.size ≤ b1113 := by have := P0.ge; omega
      have F1119 : Fld Z h1112 b1113 "com/example/urnwise/urnwise/sampler/SmallestKeys" "capacity" "I" (.int (0 : Int32)) := D1118 (Or.inr (tw10 hw)) (ty := .int) (by decide)
      have F1120 : Fld Z h1112 b1113 "com/example/urnwise/urnwise/sampler/SmallestKeys" "keys" "[D" .null := D1118 (Or.inl (tw17 hw)) (ty := (.array .double)) (by decide)
      have F1121 : Fld Z h1112 b1113 "com/example/urnwise/urnwise/sampler/SmallestKeys" "indices" "[I" .null := D1118 (Or.inl (tw20 hw)) (ty := (.array .int)) (by decide)
      have F1122 : Fld Z h1112 b1113 "com/example/urnwise/urnwise/sampler/SmallestKeys" "size" "I" (.int (0 : Int32)) := D1118 (Or.inl (tw27 hw)) (ty := .int) (by decide)
      show Done _ _ _ _ _ _ _ _ _ _ _ _ _ _ _ T1110 (mkF m 37 _ [(.ref b1113)])
      refine Done.stepL (pc' := 39) (st' := [(.int (4 : Int32)), (.ref b1113), (.ref b1113)]) (fun t kk => ?_) ?_
      · show Steps p.tables e below (T1110.setTop (mkF m 37 _ [(.ref b1113)])) t
        refine XS.dup P1111.here P1111.x rfl (hb hby at_37) rfl rfl ?_
        show Steps p.tables e below (T1110.setTop (mkF m 38 _ [(.ref b1113), (.ref b1113)])) t
        refine XS.iloadN P1111.here P1111.x rfl (hb hby at_38) rfl ?_
        exact kk
      refine wCallI P1111 (m_hpInit l Z a0 hw b1113 (4 : Int32) 4 h1112 X1117 F1119 F1120 F1121 (by decide) (by decide) F1122) rfl (tw3 hw) (tw4 hw) (tw2 hw) (tw5 hw) (by decide) (a := b1113) (by rw [hml]; rfl) (lenOf pd_2 rfl) (argsL := [(.int (4 : Int32))]) (rest := [(.ref b1113)]) rfl rfl (W := 1) (Nat.le_of_eq rfl) (by decide) (by decide) (by decide) (by decide) (allS (Or.inr ge_b1113) all0) (hb hby at_39) rfl (k' := 3) (n' := 36) rfl rfl ?_
      rintro T1123 h1138 _ P1124 K1139 ⟨rfl, b1125, b1126, q1127, q1128, q1129, q1130, q1131, F1132, F1133, F1134, F1135, A1136, A1137⟩
      have szh1138 : h1112.size ≤ h1138.size := K1139.1
      have ge_b1125 : h0.size ≤ b1125 := by have := q1127; have := P1111.ge; omega
      have ge_b1126 : h0.size ≤ b1126 := by have := q1128; have := P1111.ge; omega
      have dK0 : ∀ i, i < 4 → DInt ((fun _ => (0 : Int)) i) ((fun _ => (0 : UInt64)) i) := fun i _ => dint_c0
      show Done _ _ _ _ _ _ _ _ _ _ _ _ _ _ _ T1123 (mkF m 42 _ [(.ref b1113)])
      refine Done.step (T' := T1123) (g' := (mkF m 46 #[.val (.int p0), .val (.int p1), .val (.int p2), .val (.int (4 : Int32)), .val (.int (2 : Int32)), .val (.ref b1113), .unset, .unset, .unset, .unset] [(.ref b1113)])) (fun t kk => ?_) ?_
      · show Steps p.tables e below (T1123.setTop (mkF m 42 _ [(.ref b1113)])) t
        refine XS.astore P1124.here P1124.x rfl (hb hby at_42) rfl rfl (l' := #[.val (.int p0), .val (.int p1), .val (.int p2), .val (.int (4 : Int32)), .val (.int (2 : Int32)), .val (.ref b1113), .unset, .unset, .unset, .unset]) rfl ?_
        show Steps p.tables e below (T1123.setTop (mkF m 44 _ [])) t
        refine XS.aload P1124.here P1124.x rfl (hb hby at_44) rfl rfl ?_
        exact kk
      have f1142 := (X1117.keep K1139)
      refine wCallV P1124 (m_isFullf l Z a0 hw b1113 (0 : Int32) (4 : Int32) h1138 F1132 F1135 (by decide)) (tw21 hw) (tw22 hw) (tw24 hw) (tw24 hw) (tw23 hw) (tw2 hw) (tw25 hw) (by decide) f1142 (by rw [hml]; rfl) (lenOf pd_3 rfl) (argsL := []) (rest := []) rfl rfl (W := 0) (Nat.le_of_eq rfl) (by decide) (by decide) (by decide) (by decide) (by simp) (hb hby at_46) rfl (k' := 3) (n' := 36) rfl rfl ?_
      rintro T1140 _ _ P1141 - ⟨rfl, rfl⟩
      show Done _ _ _ _ _ _ _ _ _ _ _ _ _ _ _ T1140 (mkF m 49 _ [(.int (0 : Int32))])
      refine Done.step (T' := T1140) (g' := (mkF m 83 #[.val (.int p0), .val (.int p1), .val (.int p2), .val (.int (4 : Int32)), .val (.int (2 : Int32)), .val (.ref b1113), .val (.int (1 : Int32)), .unset, .unset, .unset] [(.int (0 : Int32)), (.double (FP.i2d (p2 &&& (255 : Int32)))), (.ref b1113)])) (fun t kk => ?_) ?_
      · show Steps p.tables e below (T1140.setTop (mkF m 49 _ [(.int (0 : Int32))])) t
        refine XS.iloadN P1141.here P1141.x rfl (hb hby at_49) rfl ?_
        show Steps p.tables e below (T1140.setTop (mkF m 50 _ [(.int (4 : Int32)), (.int (0 : Int32))])) t
        refine XS.ifYes P1141.here P1141.x rfl (pc0 := 50) (pc' := 57) rfl (hb hby at_50) rfl (i0W_ne_t (by decide)) (by decide) (by decide) ?_
        show Steps p.tables e below (T1140.setTop (mkF m 57 _ [(.int (0 : Int32))])) t
        refine XS.iconst P1141.here P1141.x rfl (hb hby at_57) ?_
        show Steps p.tables e below (T1140.setTop (mkF m 58 _ [(.int (0 : Int32)), (.int (0 : Int32))])) t
        refine XS.icmpNo P1141.here P1141.x rfl (hb hby at_58) rfl (iiW_ne_f (by decide)) ?_
        show Steps p.tables e below (T1140.setTop (mkF m 61 _ [])) t
        refine XS.iconst P1141.here P1141.x rfl (hb hby at_61) ?_
        show Steps p.tables e below (T1140.setTop (mkF m 62 _ [(.int (1 : Int32))])) t
        refine XS.goto P1141.here P1141.x rfl (pc0 := 62) (pc' := 66) rfl (hb hby at_62) (by decide) (by decide) ?_
        show Steps p.tables e below (T1140.setTop (mkF m 66 _ [(.int (1 : Int32))])) t
        refine XS.istore P1141.here P1141.x rfl (hb hby at_66) rfl (l' := #[.val (.int p0), .val (.int p1), .val (.int p2), .val (.int (4 : Int32)), .val (.int (2 : Int32)), .val (.ref b1113), .val (.int (1 : Int32)), .unset, .unset, .unset]) rfl ?_
        show Steps p.tables e below (T1140.setTop (mkF m 68 _ [])) t
        refine XS.iload P1141.here P1141.x rfl (hb hby at_68) rfl ?_
        show Steps p.tables e below (T1140.setTop (mkF m 70 _ [(.int (2 : Int32))])) t
        refine XS.iconst P1141.here P1141.x rfl (hb hby at_70) ?_
        show Steps p.tables e below (T1140.setTop (mkF m 71 _ [(.int (1 : Int32)), (.int (2 : Int32))])) t
        refine XS.icmpNo P1141.here P1141.x rfl (hb hby at_71) rfl (iiW_lt_f (by decide)) ?_
        show Steps p.tables e below (T1140.setTop (mkF m 74 _ [])) t
        refine XS.aload P1141.here P1141.x rfl (hb hby at_74) rfl rfl ?_
        show Steps p.tables e below (T1140.setTop (mkF m 76 _ [(.ref b1113)])) t
        refine XS.iloadN P1141.here P1141.x rfl (hb hby at_76) rfl ?_
        show Steps p.tables e below (T1140.setTop (mkF m 77 _ [(.int p2), (.ref b1113)])) t
        refine XS.sipush P1141.here P1141.x rfl (hb hby at_77) ?_
        show Steps p.tables e below (T1140.setTop (mkF m 80 _ [(.int (255 : Int32)), (.int p2), (.ref b1113)])) t
        refine XS.iand P1141.here P1141.x rfl (hb hby at_80) rfl ?_
        show Steps p.tables e below (T1140.setTop (mkF m 81 _ [(.int (p2 &&& (255 : Int32))), (.ref b1113)])) t
        refine XS.i2dS P1141.here P1141.x rfl (hb hby at_81) rfl rfl ?_
        show Steps p.tables e below (T1140.setTop (mkF m 82 _ [(.double (FP.i2d (p2 &&& (255 : Int32)))), (.ref b1113)])) t
        refine XS.iconst P1141.here P1141.x rfl (hb hby at_82) ?_
        exact kk
      refine wCallV P1141 (m_offA l Z a0 hw b1113 b1125 b1126 (0 : Int32) 4 0 (fun _ => (0 : UInt64)) (fun _ => (0 : Int)) (fun _ => (0 : Int32)) (4 : Int32) (FP.i2d (p2 &&& (255 : Int32))) (0 : Int32) (p2 &&& (255 : Int32)).toInt (1 : Int32) h1138 f1142 F1133 F1134 F1132 F1135 A1136 A1137 (by first | assumption | exact Ne.symm (by assumption) | exact adr_ne (by omega)) (by first | assumption | exact Ne.symm (by assumption) | exact adr_ne (by omega)) q1129 (by decide) rfl dK0 (i2d_int (p2 &&& (255 : Int32))) (by decide) (by omega) (by decide)) (tw35 hw) (tw36 hw) (tw38 hw) (tw38 hw) (tw37 hw) (tw2 hw) (tw39 hw) (by decide) f1142 (by rw [hml]; rfl) (lenOf pd_5 rfl) (argsL := [(.double (FP.i2d (p2 &&& (255 : Int32)))), (.int (0 : Int32))]) (rest := []) rfl rfl (W := 0) (Nat.le_of_eq rfl) (by decide) (by decide) (by decide) (by decide) (allS (Or.inr ge_b1113) (allS (Or.inr ge_b1125) (allS (Or.inr ge_b1126) all0))) (hb hby at_83) rfl (k' := 3) (n' := 36) rfl rfl ?_
      rintro T1143 h1153 _ P1144 K1154 ⟨rfl, kf1152, F1145, F1146, F1147, F1148, A1149, dK1151, A1150⟩
      have szh1153 : h1138.size ≤ h1153.size := K1154.1
      generalize gK1 : (own_of 0 true (fun _ => (0 : Int)) (fun _ => (0 : Int32)) (p2 &&& (255 : Int32)).toInt (0 : Int32)).1 = K1 at dK1151
      generalize gJ1 : (own_of 0 true (fun _ => (0 : Int)) (fun _ => (0 : Int32)) (p2 &&& (255 : Int32)).toInt (0 : Int32)).2 = J1 at A1150
      show Done _ _ _ _ _ _ _ _ _ _ _ _ _ _ _ T1143 (mkF m 86 _ [])
      refine Done.stepL (pc' := 104) (st' := [(.int (1 : Int32)), (.double (FP.i2d (((p2.toUInt32 >>> ((8 : Int32) &&& 31).toUInt32).toInt32) &&& (255 : Int32)))), (.ref b1113)]) (fun t kk => ?_) ?_
      · show Steps p.tables e below (T1143.setTop (mkF m 86 _ [])) t
        refine XS.iload P1144.here P1144.x rfl (hb hby at_86) rfl ?_
        show Steps p.tables e below (T1143.setTop (mkF m 88 _ [(.int (2 : Int32))])) t
        refine XS.iconst P1144.here P1144.x rfl (hb hby at_88) ?_
        show Steps p.tables e below (T1143.setTop (mkF m 89 _ [(.int (2 : Int32)), (.int (2 : Int32))])) t
        refine XS.icmpNo P1144.here P1144.x rfl (hb hby at_89) rfl (iiW_lt_f (by decide)) ?_
        show Steps p.tables e below (T1143.setTop (mkF m 92 _ [])) t
        refine XS.aload P1144.here P1144.x rfl (hb hby at_92) rfl rfl ?_
        show Steps p.tables e below (T1143.setTop (mkF m 94 _ [(.ref b1113)])) t
        refine XS.iloadN P1144.here P1144.x rfl (hb hby at_94) rfl ?_
        show Steps p.tables e below (T1143.setTop (mkF m 95 _ [(.int p2), (.ref b1113)])) t
        refine XS.bipush P1144.here P1144.x rfl (hb hby at_95) ?_
        show Steps p.tables e below (T1143.setTop (mkF m 97 _ [(.int (8 : Int32)), (.int p2), (.ref b1113)])) t
        refine XS.iushr P1144.here P1144.x rfl (hb hby at_97) rfl ?_
        show Steps p.tables e below (T1143.setTop (mkF m 98 _ [(.int ((p2.toUInt32 >>> ((8 : Int32) &&& 31).toUInt32).toInt32)), (.ref b1113)])) t
        refine XS.sipush P1144.here P1144.x rfl (hb hby at_98) ?_
        show Steps p.tables e below (T1143.setTop (mkF m 101 _ [(.int (255 : Int32)), (.int ((p2.toUInt32 >>> ((8 : Int32) &&& 31).toUInt32).toInt32)), (.ref b1113)])) t
        refine XS.iand P1144.here P1144.x rfl (hb hby at_101) rfl ?_
        show Steps p.tables e below (T1143.setTop (mkF m 102 _ [(.int (((p2.toUInt32 >>> ((8 : Int32) &&& 31).toUInt32).toInt32) &&& (255 : Int32))), (.ref b1113)])) t
        refine XS.i2dS P1144.here P1144.x rfl (hb hby at_102) rfl rfl ?_
        show Steps p.tables e below (T1143.setTop (mkF m 103 _ [(.double (FP.i2d (((p2.toUInt32 >>> ((8 : Int32) &&& 31).toUInt32).toInt32) &&& (255 : Int32)))), (.ref b1113)])) t
        refine XS.iconst P1144.here P1144.x rfl (hb hby at_103) ?_
        exact kk
      have f1165 := (f1142.keep K1154)
      refine wCallV P1144 (m_offA l Z a0 hw b1113 b1125 b1126 (1 : Int32) 4 1 kf1152 K1 J1 (4 : Int32) (FP.i2d (((p2.toUInt32 >>> ((8 : Int32) &&& 31).toUInt32).toInt32) &&& (255 : Int32))) (1 : Int32) (((p2.toUInt32 >>> ((8 : Int32) &&& 31).toUInt32).toInt32) &&& (255 : Int32)).toInt (2 : Int32) h1153 f1165 F1146 F1147 F1145 F1148 A1149 A1150 (by first | assumption | exact Ne.symm (by assumption) | exact adr_ne (by omega)) (by first | assumption | exact Ne.symm (by assumption) | exact adr_ne (by omega)) q1129 (by decide) rfl dK1151 (i2d_int (((p2.toUInt32 >>> ((8 : Int32) &&& 31).toUInt32).toInt32) &&& (255 : Int32))) (by decide) (by omega) (by decide)) (tw35 hw) (tw36 hw) (tw38 hw) (tw38 hw) (tw37 hw) (tw2 hw) (tw39 hw) (by decide) f1165 (by rw [hml]; rfl) (lenOf pd_5 rfl) (argsL := [(.double (FP.i2d (((p2.toUInt32 >>> ((8 : Int32) &&& 31).toUInt32).toInt32) &&& (255 : Int32)))), (.int (1 : Int32))]) (rest := []) rfl rfl (W := 0) (Nat.le_of_eq rfl) (by decide) (by decide) (by decide) (by decide) (allS (Or.inr ge_b1113) (allS (Or.inr ge_b1125) (allS (Or.inr ge_b1126) all0))) (hb hby at_104) rfl (k' := 3) (n' := 36) rfl rfl ?_
      rintro T1155 h1166 _ P1156 K1167 ⟨rfl, kf1164, F1157, F1158, F1159, F1160, A1161, dK1163, A1162⟩
      have szh1166 : h1153.size ≤ h1166.size := K1167.1
      generalize gK2 : (own_of 1 true K1 J1 (((p2.toUInt32 >>> ((8 : Int32) &&& 31).toUInt32).toInt32) &&& (255 : Int32)).toInt (1 : Int32)).1 = K2 at dK1163
      generalize gJ2 : (own_of 1 true K1 J1 (((p2.toUInt32 >>> ((8 : Int32) &&& 31).toUInt32).toInt32) &&& (255 : Int32)).toInt (1 : Int32)).2 = J2 at A1162
      show Done _ _ _ _ _ _ _ _ _ _ _ _ _ _ _ T1155 (mkF m 107 _ [])
      refine Done.stepL (pc' := 152) (st' := [(.int (4 : Int32)), (.int (2 : Int32))]) (fun t kk => ?_) ?_
      · show Steps p.tables e below (T1155.setTop (mkF m 107 _ [])) t
        refine XS.iload P1156.here P1156.x rfl (hb hby at_107) rfl ?_
        show Steps p.tables e below (T1155.setTop (mkF m 109 _ [(.int (2 : Int32))])) t
        refine XS.iconst P1156.here P1156.x rfl (hb hby at_109) ?_
        show Steps p.tables e below (T1155.setTop (mkF m 110 _ [(.int (3 : Int32)), (.int (2 : Int32))])) t
        refine XS.icmpYes P1156.here P1156.x rfl (pc0 := 110) (pc' := 128) rfl (hb hby at_110) rfl (iiW_lt_t (by decide)) (by decide) (by decide) ?_
        show Steps p.tables e below (T1155.setTop (mkF m 128 _ [])) t
        refine XS.iload P1156.here P1156.x rfl (hb hby at_128) rfl ?_
        show Steps p.tables e below (T1155.setTop (mkF m 130 _ [(.int (2 : Int32))])) t
        refine XS.iconst P1156.here P1156.x rfl (hb hby at_130) ?_
        show Steps p.tables e below (T1155.setTop (mkF m 131 _ [(.int (4 : Int32)), (.int (2 : Int32))])) t
        refine XS.icmpYes P1156.here P1156.x rfl (pc0 := 131) (pc' := 149) rfl (hb hby at_131) rfl (iiW_lt_t (by decide)) (by decide) (by decide) ?_
        show Steps p.tables e below (T1155.setTop (mkF m 149 _ [])) t
        refine XS.iload P1156.here P1156.x rfl (hb hby at_149) rfl ?_
        show Steps p.tables e below (T1155.setTop (mkF m 151 _ [(.int (2 : Int32))])) t
        refine XS.iloadN P1156.here P1156.x rfl (hb hby at_151) rfl ?_
        exact kk
      refine wCallS P1156 (m_minf l Z a0 hw (2 : Int32) (4 : Int32) h1166 (by decide)) (tw28 hw) (tw12 hw) (tw13 hw) (tw14 hw) (by decide) (by rw [hml]; rfl) (lenOf pd_1 rfl) (argsL := [(.int (2 : Int32)), (.int (4 : Int32))]) (rest := []) rfl rfl (W := 0) (Nat.le_of_eq rfl) (by decide) (by decide) (by decide) (by decide) (by simp) (hb hby at_152) rfl (k' := 3) (n' := 36) rfl rfl ?_
      rintro T1168 _ _ P1169 - ⟨rfl, rfl⟩
      show Done _ _ _ _ _ _ _ _ _ _ _ _ _ _ _ T1168 (mkF m 155 _ [(.int (2 : Int32))])
      refine Done.step (T' := T1168) (g' := (mkF m 159 #[.val (.int p0), .val (.int p1), .val (.int p2), .val (.int (4 : Int32)), .val (.int (2 : Int32)), .val (.ref b1113), .val (.int (1 : Int32)), .val (.int (2 : Int32)), .unset, .unset] [(.ref b1113)])) (fun t kk => ?_) ?_
      · show Steps p.tables e below (T1168.setTop (mkF m 155 _ [(.int (2 : Int32))])) t
        refine XS.istore P1169.here P1169.x rfl (hb hby at_155) rfl (l' := #[.val (.int p0), .val (.int p1), .val (.int p2), .val (.int (4 : Int32)), .val (.int (2 : Int32)), .val (.ref b1113), .val (.int (1 : Int32)), .val (.int (2 : Int32)), .unset, .unset]) rfl ?_
        show Steps p.tables e below (T1168.setTop (mkF m 157 _ [])) t
        refine XS.aload P1169.here P1169.x rfl (hb hby at_157) rfl rfl ?_
        exact kk
      have f1172 := (f1165.keep K1167)
      refine wCallV P1169 (m_size l Z a0 hw b1113 (2 : Int32) h1166 F1157) (tw29 hw) (tw30 hw) (tw32 hw) (tw32 hw) (tw31 hw) (tw2 hw) (tw33 hw) (by decide) f1172 (by rw [hml]; rfl) (lenOf pd_4 rfl) (argsL := []) (rest := []) rfl rfl (W := 0) (Nat.le_of_eq rfl) (by decide) (by decide) (by decide) (by decide) (by simp) (hb hby at_159) rfl (k' := 3) (n' := 36) rfl rfl ?_
      rintro T1170 _ _ P1171 - ⟨rfl, rfl⟩
      show Done _ _ _ _ _ _ _ _ _ _ _ _ _ _ _ T1170 (mkF m 162 _ [(.int (2 : Int32))])
      refine Done.step (T' := T1170) (g' := (mkF m 176 #[.val (.int p0), .val (.int p1), .val (.int p2), .val (.int (4 : Int32)), .val (.int (2 : Int32)), .val (.ref b1113), .val (.int (1 : Int32)), .val (.int (2 : Int32)), .val (.int (1 : Int32)), .unset] [(.ref b1113)])) (fun t kk => ?_) ?_
      · show Steps p.tables e below (T1170.setTop (mkF m 162 _ [(.int (2 : Int32))])) t
        refine XS.iload P1171.here P1171.x rfl (hb hby at_162) rfl ?_
        show Steps p.tables e below (T1170.setTop (mkF m 164 _ [(.int (2 : Int32)), (.int (2 : Int32))])) t
        refine XS.icmpNo P1171.here P1171.x rfl (hb hby at_164) rfl (iiW_ne_f (by decide)) ?_
        show Steps p.tables e below (T1170.setTop (mkF m 167 _ [])) t
        refine XS.iconst P1171.here P1171.x rfl (hb hby at_167) ?_
        show Steps p.tables e below (T1170.setTop (mkF m 168 _ [(.int (1 : Int32))])) t
        refine XS.goto P1171.here P1171.x rfl (pc0 := 168) (pc' := 172) rfl (hb hby at_168) (by decide) (by decide) ?_
        show Steps p.tables e below (T1170.setTop (mkF m 172 _ [(.int (1 : Int32))])) t
        refine XS.istore P1171.here P1171.x rfl (hb hby at_172) rfl (l' := #[.val (.int p0), .val (.int p1), .val (.int p2), .val (.int (4 : Int32)), .val (.int (2 : Int32)), .val (.ref b1113), .val (.int (1 : Int32)), .val (.int (2 : Int32)), .val (.int (1 : Int32)), .unset]) rfl ?_
        show Steps p.tables e below (T1170.setTop (mkF m 174 _ [])) t
        refine XS.aload P1171.here P1171.x rfl (hb hby at_174) rfl rfl ?_
        exact kk
      refine wCallV P1171 (m_isFullf l Z a0 hw b1113 (2 : Int32) (4 : Int32) h1166 F1157 F1160 (by decide)) (tw21 hw) (tw22 hw) (tw24 hw) (tw24 hw) (tw23 hw) (tw2 hw) (tw25 hw) (by decide) f1172 (by rw [hml]; rfl) (lenOf pd_3 rfl) (argsL := []) (rest := []) rfl rfl (W := 0) (Nat.le_of_eq rfl) (by decide) (by decide) (by decide) (by decide) (by simp) (hb hby at_176) rfl (k' := 3) (n' := 36) rfl rfl ?_
      rintro T1173 _ _ P1174 - ⟨rfl, rfl⟩
      show Done _ _ _ _ _ _ _ _ _ _ _ _ _ _ _ T1173 (mkF m 179 _ [(.int (0 : Int32))])
      refine Done.step (T' := T1173) (g' := (mkF m 220 #[.val (.int p0), .val (.int p1), .val (.int p2), .val (.int (4 : Int32)), .val (.int (2 : Int32)), .val (.ref b1113), .val (.int (1 : Int32)), .val (.int (2 : Int32)), .val (.int (1 : Int32)), .val (.int (1 : Int32))] [(.int (1 : Int32))])) (fun t kk => ?_) ?_
      · show Steps p.tables e below (T1173.setTop (mkF m 179 _ [(.int (0 : Int32))])) t
        refine XS.iload P1174.here P1174.x rfl (hb hby at_179) rfl ?_
        show Steps p.tables e below (T1173.setTop (mkF m 181 _ [(.int (2 : Int32)), (.int (0 : Int32))])) t
        refine XS.iloadN P1174.here P1174.x rfl (hb hby at_181) rfl ?_
        show Steps p.tables e below (T1173.setTop (mkF m 182 _ [(.int (4 : Int32)), (.int (2 : Int32)), (.int (0 : Int32))])) t
        refine XS.icmpYes P1174.here P1174.x rfl (pc0 := 182) (pc' := 189) rfl (hb hby at_182) rfl (iiW_ne_t (by decide)) (by decide) (by decide) ?_
        show Steps p.tables e below (T1173.setTop (mkF m 189 _ [(.int (0 : Int32))])) t
        refine XS.iconst P1174.here P1174.x rfl (hb hby at_189) ?_
        show Steps p.tables e below (T1173.setTop (mkF m 190 _ [(.int (0 : Int32)), (.int (0 : Int32))])) t
        refine XS.icmpNo P1174.here P1174.x rfl (hb hby at_190) rfl (iiW_ne_f (by decide)) ?_
        show Steps p.tables e below (T1173.setTop (mkF m 193 _ [])) t
        refine XS.iconst P1174.here P1174.x rfl (hb hby at_193) ?_
        show Steps p.tables e below (T1173.setTop (mkF m 194 _ [(.int (1 : Int32))])) t
        refine XS.goto P1174.here P1174.x rfl (pc0 := 194) (pc' := 198) rfl (hb hby at_194) (by decide) (by decide) ?_
        show Steps p.tables e below (T1173.setTop (mkF m 198 _ [(.int (1 : Int32))])) t
        refine XS.istore P1174.here P1174.x rfl (hb hby at_198) rfl (l' := #[.val (.int p0), .val (.int p1), .val (.int p2), .val (.int (4 : Int32)), .val (.int (2 : Int32)), .val (.ref b1113), .val (.int (1 : Int32)), .val (.int (2 : Int32)), .val (.int (1 : Int32)), .val (.int (1 : Int32))]) rfl ?_
        show Steps p.tables e below (T1173.setTop (mkF m 200 _ [])) t
        refine XS.iload P1174.here P1174.x rfl (hb hby at_200) rfl ?_
        show Steps p.tables e below (T1173.setTop (mkF m 202 _ [(.int (1 : Int32))])) t
        refine XS.ifNo P1174.here P1174.x rfl (hb hby at_202) rfl (i0W_eq_f (by decide)) ?_
        show Steps p.tables e below (T1173.setTop (mkF m 205 _ [])) t
        refine XS.iload P1174.here P1174.x rfl (hb hby at_205) rfl ?_
        show Steps p.tables e below (T1173.setTop (mkF m 207 _ [(.int (1 : Int32))])) t
        refine XS.ifNo P1174.here P1174.x rfl (hb hby at_207) rfl (i0W_eq_f (by decide)) ?_
        show Steps p.tables e below (T1173.setTop (mkF m 210 _ [])) t
        refine XS.iload P1174.here P1174.x rfl (hb hby at_210) rfl ?_
        show Steps p.tables e below (T1173.setTop (mkF m 212 _ [(.int (1 : Int32))])) t
        refine XS.ifNo P1174.here P1174.x rfl (hb hby at_212) rfl (i0W_eq_f (by decide)) ?_
        show Steps p.tables e below (T1173.setTop (mkF m 215 _ [])) t
        refine XS.iconst P1174.here P1174.x rfl (hb hby at_215) ?_
        show Steps p.tables e below (T1173.setTop (mkF m 216 _ [(.int (1 : Int32))])) t
        refine XS.goto P1174.here P1174.x rfl (pc0 := 216) (pc' := 220) rfl (hb hby at_216) (by decide) (by decide) ?_
        exact kk
      exact wRet P1174 (t := .boolean) hret (narrow_01 (Or.inr rfl)) (Or.inl ⟨rfl, Or.inr (Or.inl rfl), _, rfl⟩) (hb hby at_220) rfl
    · show Done _ _ _ _ _ _ _ _ _ _ _ _ _ _ _ T0 (mkF m 34 _ [])
      refine wNew P0 (tw0 hw) (tw1 hw) (tw2 hw) (hb hby at_34) rfl (by decide) (by decide) (k' := 1) (n' := 4) rfl rfl (fun T1175 h1177 b1178 g1179 lt1180 P1176 E1181 X1182 D1183 => ?_)
      have ge_b1178 : h0.size ≤ b1178 := by have := P0.ge; omega
      have F1184 : Fld Z h1177 b1178 "com/example/urnwise/urnwise/sampler/SmallestKeys" "capacity" "I" (.int (0 : Int32)) := D1183 (Or.inr (tw10 hw)) (ty := .int) (by decide)
      have F1185 : Fld Z h1177 b1178 "com/example/urnwise/urnwise/sampler/SmallestKeys" "keys" "[D" .null := D1183 (Or.inl (tw17 hw)) (ty := (.array .double)) (by decide)
      have F1186 : Fld Z h1177 b1178 "com/example/urnwise/urnwise/sampler/SmallestKeys" "indices" "[I" .null := D1183 (Or.inl (tw20 hw)) (ty := (.array .int)) (by decide)
      have F1187 : Fld Z h1177 b1178 "com/example/urnwise/urnwise/sampler/SmallestKeys" "size" "I" (.int (0 : Int32)) := D1183 (Or.inl (tw27 hw)) (ty := .int) (by decide)
      show Done _ _ _ _ _ _ _ _ _ _ _ _ _ _ _ T1175 (mkF m 37 _ [(.ref b1178)])
      refine Done.stepL (pc' := 39) (st' := [(.int (4 : Int32)), (.ref b1178), (.ref b1178)]) (fun t kk => ?_) ?_
      · show Steps p.tables e below (T1175.setTop (mkF m 37 _ [(.ref b1178)])) t
        refine XS.dup P1176.here P1176.x rfl (hb hby at_37) rfl rfl ?_
        show Steps p.tables e below (T1175.setTop (mkF m 38 _ [(.ref b1178), (.ref b1178)])) t
        refine XS.iloadN P1176.here P1176.x rfl (hb hby at_38) rfl ?_
        exact kk
      refine wCallI P1176 (m_hpInit l Z a0 hw b1178 (4 : Int32) 4 h1177 X1182 F1184 F1185 F1186 (by decide) (by decide) F1187) rfl (tw3 hw) (tw4 hw) (tw2 hw) (tw5 hw) (by decide) (a := b1178) (by rw [hml]; rfl) (lenOf pd_2 rfl) (argsL := [(.int (4 : Int32))]) (rest := [(.ref b1178)]) rfl rfl (W := 1) (Nat.le_of_eq rfl) (by decide) (by decide) (by decide) (by decide) (allS (Or.inr ge_b1178) all0) (hb hby at_39) rfl (k' := 3) (n' := 36) rfl rfl ?_
      rintro T1188 h1203 _ P1189 K1204 ⟨rfl, b1190, b1191, q1192, q1193, q1194, q1195, q1196, F1197, F1198, F1199, F1200, A1201, A1202⟩
      have szh1203 : h1177.size ≤ h1203.size := K1204.1
      have ge_b1190 : h0.size ≤ b1190 := by have := q1192; have := P1176.ge; omega
      have ge_b1191 : h0.size ≤ b1191 := by have := q1193; have := P1176.ge; omega
      have dK0 : ∀ i, i < 4 → DInt ((fun _ => (0 : Int)) i) ((fun _ => (0 : UInt64)) i) := fun i _ => dint_c0
      show Done _ _ _ _ _ _ _ _ _ _ _ _ _ _ _ T1188 (mkF m 42 _ [(.ref b1178)])
      refine Done.step (T' := T1188) (g' := (mkF m 46 #[.val (.int p0), .val (.int p1), .val (.int p2), .val (.int (4 : Int32)), .val (.int (3 : Int32)), .val (.ref b1178), .unset, .unset, .unset, .unset] [(.ref b1178)])) (fun t kk => ?_) ?_
      · show Steps p.tables e below (T1188.setTop (mkF m 42 _ [(.ref b1178)])) t
        refine XS.astore P1189.here P1189.x rfl (hb hby at_42) rfl rfl (l' := #[.val (.int p0), .val (.int p1), .val (.int p2), .val (.int (4 : Int32)), .val (.int (3 : Int32)), .val (.ref b1178), .unset, .unset, .unset, .unset]) rfl ?_
        show Steps p.tables e below (T1188.setTop (mkF m 44 _ [])) t
        refine XS.aload P1189.here P1189.x rfl (hb hby at_44) rfl rfl ?_
        exact kk
      have f1207 := (X1182.keep K1204)
      refine wCallV P1189 (m_isFullf l Z a0 hw b1178 (0 : Int32) (4 : Int32) h1203 F1197 F1200 (by decide)) (tw21 hw) (tw22 hw) (tw24 hw) (tw24 hw) (tw23 hw) (tw2 hw) (tw25 hw) (by decide) f1207 (by rw [hml]; rfl) (lenOf pd_3 rfl) (argsL := []) (rest := []) rfl rfl (W := 0) (Nat.le_of_eq rfl) (by decide) (by decide) (by decide) (by decide) (by simp) (hb hby at_46) rfl (k' := 3) (n' := 36) rfl rfl ?_
      rintro T1205 _ _ P1206 - ⟨rfl, rfl⟩
      show Done _ _ _ _ _ _ _ _ _ _ _ _ _ _ _ T1205 (mkF m 49 _ [(.int (0 : Int32))])
      refine Done.step (T' := T1205) (g' := (mkF m 83 #[.val (.int p0), .val (.int p1), .val (.int p2), .val (.int (4 : Int32)), .val (.int (3 : Int32)), .val (.ref b1178), .val (.int (1 : Int32)), .unset, .unset, .unset] [(.int (0 : Int32)), (.double (FP.i2d (p2 &&& (255 : Int32)))), (.ref b1178)])) (fun t kk => ?_) ?_
      · show Steps p.tables e below (T1205.setTop (mkF m 49 _ [(.int (0 : Int32))])) t
        refine XS.iloadN P1206.here P1206.x rfl (hb hby at_49) rfl ?_
        show Steps p.tables e below (T1205.setTop (mkF m 50 _ [(.int (4 : Int32)), (.int (0 : Int32))])) t
        refine XS.ifYes P1206.here P1206.x rfl (pc0 := 50) (pc' := 57) rfl (hb hby at_50) rfl (i0W_ne_t (by decide)) (by decide) (by decide) ?_
        show Steps p.tables e below (T1205.setTop (mkF m 57 _ [(.int (0 : Int32))])) t
        refine XS.iconst P1206.here P1206.x rfl (hb hby at_57) ?_
        show Steps p.tables e below (T1205.setTop (mkF m 58 _ [(.int (0 : Int32)), (.int (0 : Int32))])) t
        refine XS.icmpNo P1206.here P1206.x rfl (hb hby at_58) rfl (iiW_ne_f (by decide)) ?_
        show Steps p.tables e below (T1205.setTop (mkF m 61 _ [])) t
        refine XS.iconst P1206.here P1206.x rfl (hb hby at_61) ?_
        show Steps p.tables e below (T1205.setTop (mkF m 62 _ [(.int (1 : Int32))])) t
        refine XS.goto P1206.here P1206.x rfl (pc0 := 62) (pc' := 66) rfl (hb hby at_62) (by decide) (by decide) ?_
        show Steps p.tables e below (T1205.setTop (mkF m 66 _ [(.int (1 : Int32))])) t
        refine XS.istore P1206.here P1206.x rfl (hb hby at_66) rfl (l' := #[.val (.int p0), .val (.int p1), .val (.int p2), .val (.int (4 : Int32)), .val (.int (3 : Int32)), .val (.ref b1178), .val (.int (1 : Int32)), .unset, .unset, .unset]) rfl ?_
        show Steps p.tables e below (T1205.setTop (mkF m 68 _ [])) t
        refine XS.iload P1206.here P1206.x rfl (hb hby at_68) rfl ?_
        show Steps p.tables e below (T1205.setTop (mkF m 70 _ [(.int (3 : Int32))])) t
        refine XS.iconst P1206.here P1206.x rfl (hb hby at_70) ?_
        show Steps p.tables e below (T1205.setTop (mkF m 71 _ [(.int (1 : Int32)), (.int (3 : Int32))])) t
        refine XS.icmpNo P1206.here P1206.x rfl (hb hby at_71) rfl (iiW_lt_f (by decide)) ?_
        show Steps p.tables e below (T1205.setTop (mkF m 74 _ [])) t
        refine XS.aload P1206.here P1206.x rfl (hb hby at_74) rfl rfl ?_
        show Steps p.tables e below (T1205.setTop (mkF m 76 _ [(.ref b1178)])) t
        refine XS.iloadN P1206.here P1206.x rfl (hb hby at_76) rfl ?_
        show Steps p.tables e below (T1205.setTop (mkF m 77 _ [(.int p2), (.ref b1178)])) t
        refine XS.sipush P1206.here P1206.x rfl (hb hby at_77) ?_
        show Steps p.tables e below (T1205.setTop (mkF m 80 _ [(.int (255 : Int32)), (.int p2), (.ref b1178)])) t
        refine XS.iand P1206.here P1206.x rfl (hb hby at_80) rfl ?_
        show Steps p.tables e below (T1205.setTop (mkF m 81 _ [(.int (p2 &&& (255 : Int32))), (.ref b1178)])) t
        refine XS.i2dS P1206.here P1206.x rfl (hb hby at_81) rfl rfl ?_
        show Steps p.tables e below (T1205.setTop (mkF m 82 _ [(.double (FP.i2d (p2 &&& (255 : Int32)))), (.ref b1178)])) t
        refine XS.iconst P1206.here P1206.x rfl (hb hby at_82) ?_
        exact kk
      refine wCallV P1206 (m_offA l Z a0 hw b1178 b1190 b1191 (0 : Int32) 4 0 (fun _ => (0 : UInt64)) (fun _ => (0 : Int)) (fun _ => (0 : Int32)) (4 : Int32) (FP.i2d (p2 &&& (255 : Int32))) (0 : Int32) (p2 &&& (255 : Int32)).toInt (1 : Int32) h1203 f1207 F1198 F1199 F1197 F1200 A1201 A1202 (by first | assumption | exact Ne.symm (by assumption) | exact adr_ne (by omega)) (by first | assumption | exact Ne.symm (by assumption) | exact adr_ne (by omega)) q1194 (by decide) rfl dK0 (i2d_int (p2 &&& (255 : Int32))) (by decide) (by omega) (by decide)) (tw35 hw) (tw36 hw) (tw38 hw) (tw38 hw) (tw37 hw) (tw2 hw) (tw39 hw) (by decide) f1207 (by rw [hml]; rfl) (lenOf pd_5 rfl) (argsL := [(.double (FP.i2d (p2 &&& (255 : Int32)))), (.int (0 : Int32))]) (rest := []) rfl rfl (W := 0) (Nat.le_of_eq rfl) (by decide) (by decide) (by decide) (by decide) (allS (Or.inr ge_b1178) (allS (Or.inr ge_b1190) (allS (Or.inr ge_b1191) all0))) (hb hby at_83) rfl (k' := 3) (n' := 36) rfl rfl ?_
      rintro T1208 h1218 _ P1209 K1219 ⟨rfl, kf1217, F1210, F1211, F1212, F1213, A1214, dK1216, A1215⟩
      have szh1218 : h1203.size ≤ h1218.size := K1219.1
      generalize gK1 : (own_of 0 true (fun _ => (0 : Int)) (fun _ => (0 : Int32)) (p2 &&& (255 : Int32)).toInt (0 : Int32)).1 = K1 at dK1216
      generalize gJ1 : (own_of 0 true (fun _ => (0 : Int)) (fun _ => (0 : Int32)) (p2 &&& (255 : Int32)).toInt (0 : Int32)).2 = J1 at A1215
      show Done _ _ _ _ _ _ _ _ _ _ _ _ _ _ _ T1208 (mkF m 86 _ [])
      refine Done.stepL (pc' := 104) (st' := [(.int (1 : Int32)), (.double (FP.i2d (((p2.toUInt32 >>> ((8 : Int32) &&& 31).toUInt32).toInt32) &&& (255 : Int32)))), (.ref b1178)]) (fun t kk => ?_) ?_
      · show Steps p.tables e below (T1208.setTop (mkF m 86 _ [])) t
        refine XS.iload P1209.here P1209.x rfl (hb hby at_86) rfl ?_
        show Steps p.tables e below (T1208.setTop (mkF m 88 _ [(.int (3 : Int32))])) t
        refine XS.iconst P1209.here P1209.x rfl (hb hby at_88) ?_
        show Steps p.tables e below (T1208.setTop (mkF m 89 _ [(.int (2 : Int32)), (.int (3 : Int32))])) t
        refine XS.icmpNo P1209.here P1209.x rfl (hb hby at_89) rfl (iiW_lt_f (by decide)) ?_
        show Steps p.tables e below (T1208.setTop (mkF m 92 _ [])) t
        refine XS.aload P1209.here P1209.x rfl (hb hby at_92) rfl rfl ?_
        show Steps p.tables e below (T1208.setTop (mkF m 94 _ [(.ref b1178)])) t
        refine XS.iloadN P1209.here P1209.x rfl (hb hby at_94) rfl ?_
        show Steps p.tables e below (T1208.setTop (mkF m 95 _ [(.int p2), (.ref b1178)])) t
        refine XS.bipush P1209.here P1209.x rfl (hb hby at_95) ?_
        show Steps p.tables e below (T1208.setTop (mkF m 97 _ [(.int (8 : Int32)), (.int p2), (.ref b1178)])) t
        refine XS.iushr P1209.here P1209.x rfl (hb hby at_97) rfl ?_
        show Steps p.tables e below (T1208.setTop (mkF m 98 _ [(.int ((p2.toUInt32 >>> ((8 : Int32) &&& 31).toUInt32).toInt32)), (.ref b1178)])) t
        refine XS.sipush P1209.here P1209.x rfl (hb hby at_98) ?_
        show Steps p.tables e below (T1208.setTop (mkF m 101 _ [(.int (255 : Int32)), (.int ((p2.toUInt32 >>> ((8 : Int32) &&& 31).toUInt32).toInt32)), (.ref b1178)])) t
        refine XS.iand P1209.here P1209.x rfl (hb hby at_101) rfl ?_
        show Steps p.tables e below (T1208.setTop (mkF m 102 _ [(.int (((p2.toUInt32 >>> ((8 : Int32) &&& 31).toUInt32).toInt32) &&& (255 : Int32))), (.ref b1178)])) t
        refine XS.i2dS P1209.here P1209.x rfl (hb hby at_102) rfl rfl ?_
        show Steps p.tables e below (T1208.setTop (mkF m 103 _ [(.double (FP.i2d (((p2.toUInt32 >>> ((8 : Int32) &&& 31).toUInt32).toInt32) &&& (255 : Int32)))), (.ref b1178)])) t
        refine XS.iconst P1209.here P1209.x rfl (hb hby at_103) ?_
        exact kk
      have f1230 := (f1207.keep K1219)
      refine wCallV P1209 (m_offA l Z a0 hw b1178 b1190 b1191 (1 : Int32) 4 1 kf1217 K1 J1 (4 : Int32) (FP.i2d (((p2.toUInt32 >>> ((8 : Int32) &&& 31).toUInt32).toInt32) &&& (255 : Int32))) (1 : Int32) (((p2.toUInt32 >>> ((8 : Int32) &&& 31).toUInt32).toInt32) &&& (255 : Int32)).toInt (2 : Int32) h1218 f1230 F1211 F1212 F1210 F1213 A1214 A1215 (by first | assumption | exact Ne.symm (by assumption) | exact adr_ne (by omega)) (by first | assumption | exact Ne.symm (by assumption) | exact adr_ne (by omega)) q1194 (by decide) rfl dK1216 (i2d_int (((p2.toUInt32 >>> ((8 : Int32) &&& 31).toUInt32).toInt32) &&& (255 : Int32))) (by decide) (by omega) (by decide)) (tw35 hw) (tw36 hw) (tw38 hw) (tw38 hw) (tw37 hw) (tw2 hw) (tw39 hw) (by decide) f1230 (by rw [hml]; rfl) (lenOf pd_5 rfl) (argsL := [(.double (FP.i2d (((p2.toUInt32 >>> ((8 : Int32) &&& 31).toUInt32).toInt32) &&& (255 : Int32)))), (.int (1 : Int32))]) (rest := []) rfl rfl (W := 0) (Nat.le_of_eq rfl) (by decide) (by decide) (by decide) (by decide) (allS (Or.inr ge_b1178) (allS (Or.inr ge_b1190) (allS (Or.inr ge_b1191) all0))) (hb hby at_104) rfl (k' := 3) (n' := 36) rfl rfl ?_
      rintro T1220 h1231 _ P1221 K1232 ⟨rfl, kf1229, F1222, F1223, F1224, F1225, A1226, dK1228, A1227⟩
      have szh1231 : h1218.size ≤ h1231.size := K1232.1
      generalize gK2 : (own_of 1 true K1 J1 (((p2.toUInt32 >>> ((8 : Int32) &&& 31).toUInt32).toInt32) &&& (255 : Int32)).toInt (1 : Int32)).1 = K2 at dK1228
      generalize gJ2 : (own_of 1 true K1 J1 (((p2.toUInt32 >>> ((8 : Int32) &&& 31).toUInt32).toInt32) &&& (255 : Int32)).toInt (1 : Int32)).2 = J2 at A1227
      show Done _ _ _ _ _ _ _ _ _ _ _ _ _ _ _ T1220 (mkF m 107 _ [])
      refine Done.stepL (pc' := 125) (st' := [(.int (2 : Int32)), (.double (FP.i2d (((p2.toUInt32 >>> ((16 : Int32) &&& 31).toUInt32).toInt32) &&& (255 : Int32)))), (.ref b1178)]) (fun t kk => ?_) ?_
      · show Steps p.tables e below (T1220.setTop (mkF m 107 _ [])) t
        refine XS.iload P1221.here P1221.x rfl (hb hby at_107) rfl ?_
        show Steps p.tables e below (T1220.setTop (mkF m 109 _ [(.int (3 : Int32))])) t
        refine XS.iconst P1221.here P1221.x rfl (hb hby at_109) ?_
        show Steps p.tables e below (T1220.setTop (mkF m 110 _ [(.int (3 : Int32)), (.int (3 : Int32))])) t
        refine XS.icmpNo P1221.here P1221.x rfl (hb hby at_110) rfl (iiW_lt_f (by decide)) ?_
        show Steps p.tables e below (T1220.setTop (mkF m 113 _ [])) t
        refine XS.aload P1221.here P1221.x rfl (hb hby at_113) rfl rfl ?_
        show Steps p.tables e below (T1220.setTop (mkF m 115 _ [(.ref b1178)])) t
        refine XS.iloadN P1221.here P1221.x rfl (hb hby at_115) rfl ?_
        show Steps p.tables e below (T1220.setTop (mkF m 116 _ [(.int p2), (.ref b1178)])) t
        refine XS.bipush P1221.here P1221.x rfl (hb hby at_116) ?_
        show Steps p.tables e below (T1220.setTop (mkF m 118 _ [(.int (16 : Int32)), (.int p2), (.ref b1178)])) t
        refine XS.iushr P1221.here P1221.x rfl (hb hby at_118) rfl ?_
        show Steps p.tables e below (T1220.setTop (mkF m 119 _ [(.int ((p2.toUInt32 >>> ((16 : Int32) &&& 31).toUInt32).toInt32)), (.ref b1178)])) t
        refine XS.sipush P1221.here P1221.x rfl (hb hby at_119) ?_
        show Steps p.tables e below (T1220.setTop (mkF m 122 _ [(.int (255 : Int32)), (.int ((p2.toUInt32 >>> ((16 : Int32) &&& 31).toUInt32).toInt32)), (.ref b1178)])) t
        refine XS.iand P1221.here P1221.x rfl (hb hby at_122) rfl ?_
        show Steps p.tables e below (T1220.setTop (mkF m 123 _ [(.int (((p2.toUInt32 >>> ((16 : Int32) &&& 31).toUInt32).toInt32) &&& (255 : Int32))), (.ref b1178)])) t
        refine XS.i2dS P1221.here P1221.x rfl (hb hby at_123) rfl rfl ?_
        show Steps p.tables e below (T1220.setTop (mkF m 124 _ [(.double (FP.i2d (((p2.toUInt32 >>> ((16 : Int32) &&& 31).toUInt32).toInt32) &&& (255 : Int32)))), (.ref b1178)])) t
        refine XS.iconst P1221.here P1221.x rfl (hb hby at_124) ?_
        exact kk
      have f1243 := (f1230.keep K1232)
      refine wCallV P1221 (m_offA l Z a0 hw b1178 b1190 b1191 (2 : Int32) 4 2 kf1229 K2 J2 (4 : Int32) (FP.i2d (((p2.toUInt32 >>> ((16 : Int32) &&& 31).toUInt32).toInt32) &&& (255 : Int32))) (2 : Int32) (((p2.toUInt32 >>> ((16 : Int32) &&& 31).toUInt32).toInt32) &&& (255 : Int32)).toInt (3 : Int32) h1231 f1243 F1223 F1224 F1222 F1225 A1226 A1227 (by first | assumption | exact Ne.symm (by assumption) | exact adr_ne (by omega)) (by first | assumption | exact Ne.symm (by assumption) | exact adr_ne (by omega)) q1194 (by decide) rfl dK1228 (i2d_int (((p2.toUInt32 >>> ((16 : Int32) &&& 31).toUInt32).toInt32) &&& (255 : Int32))) (by decide) (by omega) (by decide)) (tw35 hw) (tw36 hw) (tw38 hw) (tw38 hw) (tw37 hw) (tw2 hw) (tw39 hw) (by decide) f1243 (by rw [hml]; rfl) (lenOf pd_5 rfl) (argsL := [(.double (FP.i2d (((p2.toUInt32 >>> ((16 : Int32) &&& 31).toUInt32).toInt32) &&& (255 : Int32)))), (.int (2 : Int32))]) (rest := []) rfl rfl (W := 0) (Nat.le_of_eq rfl) (by decide) (by decide) (by decide) (by decide) (allS (Or.inr ge_b1178) (allS (Or.inr ge_b1190) (allS (Or.inr ge_b1191) all0))) (hb hby at_125) rfl (k' := 3) (n' := 36) rfl rfl ?_
      rintro T1233 h1244 _ P1234 K1245 ⟨rfl, kf1242, F1235, F1236, F1237, F1238, A1239, dK1241, A1240⟩
      have szh1244 : h1231.size ≤ h1244.size := K1245.1
      generalize gK3 : (own_of 2 true K2 J2 (((p2.toUInt32 >>> ((16 : Int32) &&& 31).toUInt32).toInt32) &&& (255 : Int32)).toInt (2 : Int32)).1 = K3 at dK1241
      generalize gJ3 : (own_of 2 true K2 J2 (((p2.toUInt32 >>> ((16 : Int32) &&& 31).toUInt32).toInt32) &&& (255 : Int32)).toInt (2 : Int32)).2 = J3 at A1240
      show Done _ _ _ _ _ _ _ _ _ _ _ _ _ _ _ T1233 (mkF m 128 _ [])
      refine Done.stepL (pc' := 152) (st' := [(.int (4 : Int32)), (.int (3 : Int32))]) (fun t kk => ?_) ?_
      · show Steps p.tables e below (T1233.setTop (mkF m 128 _ [])) t
        refine XS.iload P1234.here P1234.x rfl (hb hby at_128) rfl ?_
        show Steps p.tables e below (T1233.setTop (mkF m 130 _ [(.int (3 : Int32))])) t
        refine XS.iconst P1234.here P1234.x rfl (hb hby at_130) ?_
        show Steps p.tables e below (T1233.setTop (mkF m 131 _ [(.int (4 : Int32)), (.int (3 : Int32))])) t
        refine XS.icmpYes P1234.here P1234.x rfl (pc0 := 131) (pc' := 149) rfl (hb hby at_131) rfl (iiW_lt_t (by decide)) (by decide) (by decide) ?_
        show Steps p.tables e below (T1233.setTop (mkF m 149 _ [])) t
        refine XS.iload P1234.here P1234.x rfl (hb hby at_149) rfl ?_
        show Steps p.tables e below (T1233.setTop (mkF m 151 _ [(.int (3 : Int32))])) t
        refine XS.iloadN P1234.here P1234.x rfl (hb hby at_151) rfl ?_
        exact kk
      refine wCallS P1234 (m_minf l Z a0 hw (3 : Int32) (4 : Int32) h1244 (by decide)) (tw28 hw) (tw12 hw) (tw13 hw) (tw14 hw) (by decide) (by rw [hml]; rfl) (lenOf pd_1 rfl) (argsL := [(.int (3 : Int32)), (.int (4 : Int32))]) (rest := []) rfl rfl (W := 0) (Nat.le_of_eq rfl) (by decide) (by decide) (by decide) (by decide) (by simp) (hb hby at_152) rfl (k' := 3) (n' := 36) rfl rfl ?_
      rintro T1246 _ _ P1247 - ⟨rfl, rfl⟩
      show Done _ _ _ _ _ _ _ _ _ _ _ _ _ _ _ T1246 (mkF m 155 _ [(.int (3 : Int32))])
      refine Done.step (T' := T1246) (g' := (mkF m 159 #[.val (.int p0), .val (.int p1), .val (.int p2), .val (.int (4 : Int32)), .val (.int (3 : Int32)), .val (.ref b1178), .val (.int (1 : Int32)), .val (.int (3 : Int32)), .unset, .unset] [(.ref b1178)])) (fun t kk => ?_) ?_
      · show Steps p.tables e below (T1246.setTop (mkF m 155 _ [(.int (3 : Int32))])) t
        refine XS.istore P1247.here P1247.x rfl (hb hby at_155) rfl (l' := #[.val (.int p0), .val (.int p1), .val (.int p2), .val (.int (4 : Int32)), .val (.int (3 : Int32)), .val (.ref b1178), .val (.int (1 : Int32)), .val (.int (3 : Int32)), .unset, .unset]) rfl ?_
        show Steps p.tables e below (T1246.setTop (mkF m 157 _ [])) t
        refine XS.aload P1247.here P1247.x rfl (hb hby at_157) rfl rfl ?_
        exact kk
      have f1250 := (f1243.keep K1245)
      refine wCallV P1247 (m_size l Z a0 hw b1178 (3 : Int32) h1244 F1235) (tw29 hw) (tw30 hw) (tw32 hw) (tw32 hw) (tw31 hw) (tw2 hw) (tw33 hw) (by decide) f1250 (by rw [hml]; rfl) (lenOf pd_4 rfl) (argsL := []) (rest := []) rfl rfl (W := 0) (Nat.le_of_eq rfl) (by decide) (by decide) (by decide) (by decide) (by simp) (hb hby at_159) rfl (k' := 3) (n' := 36) rfl rfl ?_
      rintro T1248 _ _ P1249 - ⟨rfl, rfl⟩
      show Done _ _ _ _ _ _ _ _ _ _ _ _ _ _ _ T1248 (mkF m 162 _ [(.int (3 : Int32))])
      refine Done.step (T' := T1248) (g' := (mkF m 176 #[.val (.int p0), .val (.int p1), .val (.int p2), .val (.int (4 : Int32)), .val (.int (3 : Int32)), .val (.ref b1178), .val (.int (1 : Int32)), .val (.int (3 : Int32)), .val (.int (1 : Int32)), .unset] [(.ref b1178)])) (fun t kk => ?_) ?_
      · show Steps p.tables e below (T1248.setTop (mkF m 162 _ [(.int (3 : Int32))])) t
        refine XS.iload P1249.here P1249.x rfl (hb hby at_162) rfl ?_
        show Steps p.tables e below (T1248.setTop (mkF m 164 _ [(.int (3 : Int32)), (.int (3 : Int32))])) t
        refine XS.icmpNo P1249.here P1249.x rfl (hb hby at_164) rfl (iiW_ne_f (by decide)) ?_
        show Steps p.tables e below (T1248.setTop (mkF m 167 _ [])) t
        refine XS.iconst P1249.here P1249.x rfl (hb hby at_167) ?_
        show Steps p.tables e below (T1248.setTop (mkF m 168 _ [(.int (1 : Int32))])) t
        refine XS.goto P1249.here P1249.x rfl (pc0 := 168) (pc' := 172) rfl (hb hby at_168) (by decide) (by decide) ?_
        show Steps p.tables e below (T1248.setTop (mkF m 172 _ [(.int (1 : Int32))])) t
        refine XS.istore P1249.here P1249.x rfl (hb hby at_172) rfl (l' := #[.val (.int p0), .val (.int p1), .val (.int p2), .val (.int (4 : Int32)), .val (.int (3 : Int32)), .val (.ref b1178), .val (.int (1 : Int32)), .val (.int (3 : Int32)), .val (.int (1 : Int32)), .unset]) rfl ?_
        show Steps p.tables e below (T1248.setTop (mkF m 174 _ [])) t
        refine XS.aload P1249.here P1249.x rfl (hb hby at_174) rfl rfl ?_
        exact kk
      refine wCallV P1249 (m_isFullf l Z a0 hw b1178 (3 : Int32) (4 : Int32) h1244 F1235 F1238 (by decide)) (tw21 hw) (tw22 hw) (tw24 hw) (tw24 hw) (tw23 hw) (tw2 hw) (tw25 hw) (by decide) f1250 (by rw [hml]; rfl) (lenOf pd_3 rfl) (argsL := []) (rest := []) rfl rfl (W := 0) (Nat.le_of_eq rfl) (by decide) (by decide) (by decide) (by decide) (by simp) (hb hby at_176) rfl (k' := 3) (n' := 36) rfl rfl ?_
      rintro T1251 _ _ P1252 - ⟨rfl, rfl⟩
      show Done _ _ _ _ _ _ _ _ _ _ _ _ _ _ _ T1251 (mkF m 179 _ [(.int (0 : Int32))])
      refine Done.step (T' := T1251) (g' := (mkF m 220 #[.val (.int p0), .val (.int p1), .val (.int p2), .val (.int (4 : Int32)), .val (.int (3 : Int32)), .val (.ref b1178), .val (.int (1 : Int32)), .val (.int (3 : Int32)), .val (.int (1 : Int32)), .val (.int (1 : Int32))] [(.int (1 : Int32))])) (fun t kk => ?_) ?_
      · show Steps p.tables e below (T1251.setTop (mkF m 179 _ [(.int (0 : Int32))])) t
        refine XS.iload P1252.here P1252.x rfl (hb hby at_179) rfl ?_
        show Steps p.tables e below (T1251.setTop (mkF m 181 _ [(.int (3 : Int32)), (.int (0 : Int32))])) t
        refine XS.iloadN P1252.here P1252.x rfl (hb hby at_181) rfl ?_
        show Steps p.tables e below (T1251.setTop (mkF m 182 _ [(.int (4 : Int32)), (.int (3 : Int32)), (.int (0 : Int32))])) t
        refine XS.icmpYes P1252.here P1252.x rfl (pc0 := 182) (pc' := 189) rfl (hb hby at_182) rfl (iiW_ne_t (by decide)) (by decide) (by decide) ?_
        show Steps p.tables e below (T1251.setTop (mkF m 189 _ [(.int (0 : Int32))])) t
        refine XS.iconst P1252.here P1252.x rfl (hb hby at_189) ?_
        show Steps p.tables e below (T1251.setTop (mkF m 190 _ [(.int (0 : Int32)), (.int (0 : Int32))])) t
        refine XS.icmpNo P1252.here P1252.x rfl (hb hby at_190) rfl (iiW_ne_f (by decide)) ?_
        show Steps p.tables e below (T1251.setTop (mkF m 193 _ [])) t
        refine XS.iconst P1252.here P1252.x rfl (hb hby at_193) ?_
        show Steps p.tables e below (T1251.setTop (mkF m 194 _ [(.int (1 : Int32))])) t
        refine XS.goto P1252.here P1252.x rfl (pc0 := 194) (pc' := 198) rfl (hb hby at_194) (by decide) (by decide) ?_
        show Steps p.tables e below (T1251.setTop (mkF m 198 _ [(.int (1 : Int32))])) t
        refine XS.istore P1252.here P1252.x rfl (hb hby at_198) rfl (l' := #[.val (.int p0), .val (.int p1), .val (.int p2), .val (.int (4 : Int32)), .val (.int (3 : Int32)), .val (.ref b1178), .val (.int (1 : Int32)), .val (.int (3 : Int32)), .val (.int (1 : Int32)), .val (.int (1 : Int32))]) rfl ?_
        show Steps p.tables e below (T1251.setTop (mkF m 200 _ [])) t
        refine XS.iload P1252.here P1252.x rfl (hb hby at_200) rfl ?_
        show Steps p.tables e below (T1251.setTop (mkF m 202 _ [(.int (1 : Int32))])) t
        refine XS.ifNo P1252.here P1252.x rfl (hb hby at_202) rfl (i0W_eq_f (by decide)) ?_
        show Steps p.tables e below (T1251.setTop (mkF m 205 _ [])) t
        refine XS.iload P1252.here P1252.x rfl (hb hby at_205) rfl ?_
        show Steps p.tables e below (T1251.setTop (mkF m 207 _ [(.int (1 : Int32))])) t
        refine XS.ifNo P1252.here P1252.x rfl (hb hby at_207) rfl (i0W_eq_f (by decide)) ?_
        show Steps p.tables e below (T1251.setTop (mkF m 210 _ [])) t
        refine XS.iload P1252.here P1252.x rfl (hb hby at_210) rfl ?_
        show Steps p.tables e below (T1251.setTop (mkF m 212 _ [(.int (1 : Int32))])) t
        refine XS.ifNo P1252.here P1252.x rfl (hb hby at_212) rfl (i0W_eq_f (by decide)) ?_
        show Steps p.tables e below (T1251.setTop (mkF m 215 _ [])) t
        refine XS.iconst P1252.here P1252.x rfl (hb hby at_215) ?_
        show Steps p.tables e below (T1251.setTop (mkF m 216 _ [(.int (1 : Int32))])) t
        refine XS.goto P1252.here P1252.x rfl (pc0 := 216) (pc' := 220) rfl (hb hby at_216) (by decide) (by decide) ?_
        exact kk
      exact wRet P1252 (t := .boolean) hret (narrow_01 (Or.inr rfl)) (Or.inl ⟨rfl, Or.inr (Or.inl rfl), _, rfl⟩) (hb hby at_220) rfl
    · show Done _ _ _ _ _ _ _ _ _ _ _ _ _ _ _ T0 (mkF m 34 _ [])
      refine wNew P0 (tw0 hw) (tw1 hw) (tw2 hw) (hb hby at_34) rfl (by decide) (by decide) (k' := 1) (n' := 4) rfl rfl (fun T1253 h1255 b1256 g1257 lt1258 P1254 E1259 X1260 D1261 => ?_)
      have ge_b1256 : h0.size ≤ b1256 := by have := P0.ge; omega
      have F1262 : Fld Z h1255 b1256 "com/example/urnwise/urnwise/sampler/SmallestKeys" "capacity" "I" (.int (0 : Int32)) := D1261 (Or.inr (tw10 hw)) (ty := .int) (by decide)
      have F1263 : Fld Z h1255 b1256 "com/example/urnwise/urnwise/sampler/SmallestKeys" "keys" "[D" .null := D1261 (Or.inl (tw17 hw)) (ty := (.array .double)) (by decide)
      have F1264 : Fld Z h1255 b1256 "com/example/urnwise/urnwise/sampler/SmallestKeys" "indices" "[I" .null := D1261 (Or.inl (tw20 hw)) (ty := (.array .int)) (by decide)
      have F1265 : Fld Z h1255 b1256 "com/example/urnwise/urnwise/sampler/SmallestKeys" "size" "I" (.int (0 : Int32)) := D1261 (Or.inl (tw27 hw)) (ty := .int) (by decide)
      show Done _ _ _ _ _ _ _ _ _ _ _ _ _ _ _ T1253 (mkF m 37 _ [(.ref b1256)])
      refine Done.stepL (pc' := 39) (st' := [(.int (4 : Int32)), (.ref b1256), (.ref b1256)]) (fun t kk => ?_) ?_
      · show Steps p.tables e below (T1253.setTop (mkF m 37 _ [(.ref b1256)])) t
        refine XS.dup P1254.here P1254.x rfl (hb hby at_37) rfl rfl ?_
        show Steps p.tables e below (T1253.setTop (mkF m 38 _ [(.ref b1256), (.ref b1256)])) t
        refine XS.iloadN P1254.here P1254.x rfl (hb hby at_38) rfl ?_
        exact kk
      refine wCallI P1254 (m_hpInit l Z a0 hw b1256 (4 : Int32) 4 h1255 X1260 F1262 F1263 F1264 (by decide) (by decide) F1265) rfl (tw3 hw) (tw4 hw) (tw2 hw) (tw5 hw) (by decide) (a := b1256) (by rw [hml]; rfl) (lenOf pd_2 rfl) (argsL := [(.int (4 : Int32))]) (rest := [(.ref b1256)]) rfl rfl (W := 1) (Nat.le_of_eq rfl) (by decide) (by decide) (by decide) (by decide) (allS (Or.inr ge_b1256) all0) (hb hby at_39) rfl (k' := 3) (n' := 36) rfl rfl ?_
      rintro T1266 h1281 _ P1267 K1282 ⟨rfl, b1268, b1269, q1270, q1271, q1272, q1273, q1274, F1275, F1276, F1277, F1278, A1279, A1280⟩
      have szh1281 : h1255.size ≤ h1281.size := K1282.1
      have ge_b1268 : h0.size ≤ b1268 := by have := q1270; have := P1254.ge; omega
      have ge_b1269 : h0.size ≤ b1269 := by have := q1271; have := P1254.ge; omega
      have dK0 : ∀ i, i < 4 → DInt ((fun _ => (0 : Int)) i) ((fun _ => (0 : UInt64)) i) := fun i _ => dint_c0
      show Done _ _ _ _ _ _ _ _ _ _ _ _ _ _ _ T1266 (mkF m 42 _ [(.ref b1256)])
      refine Done.step (T' := T1266) (g' := (mkF m 46 #[.val (.int p0), .val (.int p1), .val (.int p2), .val (.int (4 : Int32)), .val (.int (4 : Int32)), .val (.ref b1256), .unset, .unset, .unset, .unset] [(.ref b1256)])) (fun t kk => ?_) ?_
      · show Steps p.tables e below (T1266.setTop (mkF m 42 _ [(.ref b1256)])) t
        refine XS.astore P1267.here P1267.x rfl (hb hby at_42) rfl rfl (l' := #[.val (.int p0), .val (.int p1), .val (.int p2), .val (.int (4 : Int32)), .val (.int (4 : Int32)), .val (.ref b1256), .unset, .unset, .unset, .unset]) rfl ?_
        show Steps p.tables e below (T1266.setTop (mkF m 44 _ [])) t
        refine XS.aload P1267.here P1267.x rfl (hb hby at_44) rfl rfl ?_
        exact kk
      have f1285 := (X1260.keep K1282)
      refine wCallV P1267 (m_isFullf l Z a0 hw b1256 (0 : Int32) (4 : Int32) h1281 F1275 F1278 (by decide)) (tw21 hw) (tw22 hw) (tw24 hw) (tw24 hw) (tw23 hw) (tw2 hw) (tw25 hw) (by decide) f1285 (by rw [hml]; rfl) (lenOf pd_3 rfl) (argsL := []) (rest := []) rfl rfl (W := 0) (Nat.le_of_eq rfl) (by decide) (by decide) (by decide) (by decide) (by simp) (hb hby at_46) rfl (k' := 3) (n' := 36) rfl rfl ?_
      rintro T1283 _ _ P1284 - ⟨rfl, rfl⟩
      show Done _ _ _ _ _ _ _ _ _ _ _ _ _ _ _ T1283 (mkF m 49 _ [(.int (0 : Int32))])
      refine Done.step (T' := T1283) (g' := (mkF m 83 #[.val (.int p0), .val (.int p1), .val (.int p2), .val (.int (4 : Int32)), .val (.int (4 : Int32)), .val (.ref b1256), .val (.int (1 : Int32)), .unset, .unset, .unset] [(.int (0 : Int32)), (.double (FP.i2d (p2 &&& (255 : Int32)))), (.ref b1256)])) (fun t kk => ?_) ?_
      · show Steps p.tables e below (T1283.setTop (mkF m 49 _ [(.int (0 : Int32))])) t
        refine XS.iloadN P1284.here P1284.x rfl (hb hby at_49) rfl ?_
        show Steps p.tables e below (T1283.setTop (mkF m 50 _ [(.int (4 : Int32)), (.int (0 : Int32))])) t
        refine XS.ifYes P1284.here P1284.x rfl (pc0 := 50) (pc' := 57) rfl (hb hby at_50) rfl (i0W_ne_t (by decide)) (by decide) (by decide) ?_
        show Steps p.tables e below (T1283.setTop (mkF m 57 _ [(.int (0 : Int32))])) t
        refine XS.iconst P1284.here P1284.x rfl (hb hby at_57) ?_
        show Steps p.tables e below (T1283.setTop (mkF m 58 _ [(.int (0 : Int32)), (.int (0 : Int32))])) t
        refine XS.icmpNo P1284.here P1284.x rfl (hb hby at_58) rfl (iiW_ne_f (by decide)) ?_
        show Steps p.tables e below (T1283.setTop (mkF m 61 _ [])) t
        refine XS.iconst P1284.here P1284.x rfl (hb hby at_61) ?_
        show Steps p.tables e below (T1283.setTop (mkF m 62 _ [(.int (1 : Int32))])) t
        refine XS.goto P1284.here P1284.x rfl (pc0 := 62) (pc' := 66) rfl (hb hby at_62) (by decide) (by decide) ?_
        show Steps p.tables e below (T1283.setTop (mkF m 66 _ [(.int (1 : Int32))])) t
        refine XS.istore P1284.here P1284.x rfl (hb hby at_66) rfl (l' := #[.val (.int p0), .val (.int p1), .val (.int p2), .val (.int (4 : Int32)), .val (.int (4 : Int32)), .val (.ref b1256), .val (.int (1 : Int32)), .unset, .unset, .unset]) rfl ?_
        show Steps p.tables e below (T1283.setTop (mkF m 68 _ [])) t
        refine XS.iload P1284.here P1284.x rfl (hb hby at_68) rfl ?_
        show Steps p.tables e below (T1283.setTop (mkF m 70 _ [(.int (4 : Int32))])) t
        refine XS.iconst P1284.here P1284.x rfl (hb hby at_70) ?_
        show Steps p.tables e below (T1283.setTop (mkF m 71 _ [(.int (1 : Int32)), (.int (4 : Int32))])) t
        refine XS.icmpNo P1284.here P1284.x rfl (hb hby at_71) rfl (iiW_lt_f (by decide)) ?_
        show Steps p.tables e below (T1283.setTop (mkF m 74 _ [])) t
        refine XS.aload P1284.here P1284.x rfl (hb hby at_74) rfl rfl ?_
        show Steps p.tables e below (T1283.setTop (mkF m 76 _ [(.ref b1256)])) t
        refine XS.iloadN P1284.here P1284.x rfl (hb hby at_76) rfl ?_
        show Steps p.tables e below (T1283.setTop (mkF m 77 _ [(.int p2), (.ref b1256)])) t
        refine XS.sipush P1284.here P1284.x rfl (hb hby at_77) ?_
        show Steps p.tables e below (T1283.setTop (mkF m 80 _ [(.int (255 : Int32)), (.int p2), (.ref b1256)])) t
        refine XS.iand P1284.here P1284.x rfl (hb hby at_80) rfl ?_
        show Steps p.tables e below (T1283.setTop (mkF m 81 _ [(.int (p2 &&& (255 : Int32))), (.ref b1256)])) t
        refine XS.i2dS P1284.here P1284.x rfl (hb hby at_81) rfl rfl ?_
        show Steps p.tables e below (T1283.setTop (mkF m 82 _ [(.double (FP.i2d (p2 &&& (255 : Int32)))), (.ref b1256)])) t
        refine XS.iconst P1284.here P1284.x rfl (hb hby at_82) ?_
        exact kk
      refine wCallV P1284 (m_offA l Z a0 hw b1256 b1268 b1269 (0 : Int32) 4 0 (fun _ => (0 : UInt64)) (fun _ => (0 : Int)) (fun _ => (0 : Int32)) (4 : Int32) (FP.i2d (p2 &&& (255 : Int32))) (0 : Int32) (p2 &&& (255 : Int32)).toInt (1 : Int32) h1281 f1285 F1276 F1277 F1275 F1278 A1279 A1280 (by first | assumption | exact Ne.symm (by assumption) | exact adr_ne (by omega)) (by first | assumption | exact Ne.symm (by assumption) | exact adr_ne (by omega)) q1272 (by decide) rfl dK0 (i2d_int (p2 &&& (255 : Int32))) (by decide) (by omega) (by decide)) (tw35 hw) (tw36 hw) (tw38 hw) (tw38 hw) (tw37 hw) (tw2 hw) (tw39 hw) (by decide) f1285 (by rw [hml]; rfl) (lenOf pd_5 rfl) (argsL := [(.double (FP.i2d (p2 &&& (255 : Int32)))), (.int (0 : Int32))]) (rest := []) rfl rfl (W := 0) (Nat.le_of_eq rfl) (by decide) (by decide) (by decide) (by decide) (allS (Or.inr ge_b1256) (allS (Or.inr ge_b1268) (allS (Or.inr ge_b1269) all0))) (hb hby at_83) rfl (k' := 3) (n' := 36) rfl rfl ?_
      rintro T1286 h1296 _ P1287 K1297 ⟨rfl, kf1295, F1288, F1289, F1290, F1291, A1292, dK1294, A1293⟩
      have szh1296 : h1281.size ≤ h1296.size := K1297.1
      generalize gK1 : (own_of 0 true (fun _ => (0 : Int)) (fun _ => (0 : Int32)) (p2 &&& (255 : Int32)).toInt (0 : Int32)).1 = K1 at dK1294
      generalize gJ1 : (own_of 0 true (fun _ => (0 : Int)) (fun _ => (0 : Int32)) (p2 &&& (255 : Int32)).toInt (0 : Int32)).2 = J1 at A1293
      show Done _ _ _ _ _ _ _ _ _ _ _ _ _ _ _ T1286 (mkF m 86 _ [])
      refine Done.stepL (pc' := 104) (st' := [(.int (1 : Int32)), (.double (FP.i2d (((p2.toUInt32 >>> ((8 : Int32) &&& 31).toUInt32).toInt32) &&& (255 : Int32)))), (.ref b1256)]) (fun t kk => ?_) ?_
      · show Steps p.tables e below (T1286.setTop (mkF m 86 _ [])) t
        refine XS.iload P1287.here P1287.x rfl (hb hby at_86) rfl ?_
        show Steps p.tables e below (T1286.setTop (mkF m 88 _ [(.int (4 : Int32))])) t
        refine XS.iconst P1287.here P1287.x rfl (hb hby at_88) ?_
        show Steps p.tables e below (T1286.setTop (mkF m 89 _ [(.int (2 : Int32)), (.int (4 : Int32))])) t
        refine XS.icmpNo P1287.here P1287.x rfl (hb hby at_89) rfl (iiW_lt_f (by decide)) ?_
        show Steps p.tables e below (T1286.setTop (mkF m 92 _ [])) t
        refine XS.aload P1287.here P1287.x rfl (hb hby at_92) rfl rfl ?_
        show Steps p.tables e below (T1286.setTop (mkF m 94 _ [(.ref b1256)])) t
        refine XS.iloadN P1287.here P1287.x rfl (hb hby at_94) rfl ?_
        show Steps p.tables e below (T1286.setTop (mkF m 95 _ [(.int p2), (.ref b1256)])) t
        refine XS.bipush P1287.here P1287.x rfl (hb hby at_95) ?_
        show Steps p.tables e below (T1286.setTop (mkF m 97 _ [(.int (8 : Int32)), (.int p2), (.ref b1256)])) t
        refine XS.iushr P1287.here P1287.x rfl (hb hby at_97) rfl ?_
        show Steps p.tables e below (T1286.setTop (mkF m 98 _ [(.int ((p2.toUInt32 >>> ((8 : Int32) &&& 31).toUInt32).toInt32)), (.ref b1256)])) t
        refine XS.sipush P1287.here P1287.x rfl (hb hby at_98) ?_
        show Steps p.tables e below (T1286.setTop (mkF m 101 _ [(.int (255 : Int32)), (.int ((p2.toUInt32 >>> ((8 : Int32) &&& 31).toUInt32).toInt32)), (.ref b1256)])) t
        refine XS.iand P1287.here P1287.x rfl (hb hby at_101) rfl ?_
        show Steps p.tables e below (T1286.setTop (mkF m 102 _ [(.int (((p2.toUInt32 >>> ((8 : Int32) &&& 31).toUInt32).toInt32) &&& (255 : Int32))), (.ref b1256)])) t
        refine XS.i2dS P1287.here P1287.x rfl (hb hby at_102) rfl rfl ?_
        show Steps p.tables e below (T1286.setTop (mkF m 103 _ [(.double (FP.i2d (((p2.toUInt32 >>> ((8 : Int32) &&& 31).toUInt32).toInt32) &&& (255 : Int32)))), (.ref b1256)])) t
        refine XS.iconst P1287.here P1287.x rfl (hb hby at_103) ?_
        exact kk
      have f1308 := (f1285.keep K1297)
      refine wCallV P1287 (m_offA l Z a0 hw b1256 b1268 b1269 (1 : Int32) 4 1 kf1295 K1 J1 (4 : Int32) (FP.i2d (((p2.toUInt32 >>> ((8 : Int32) &&& 31).toUInt32).toInt32) &&& (255 : Int32))) (1 : Int32) (((p2.toUInt32 >>> ((8 : Int32) &&& 31).toUInt32).toInt32) &&& (255 : Int32)).toInt (2 : Int32) h1296 f1308 F1289 F1290 F1288 F1291 A1292 A1293 (by first | assumption | exact Ne.symm (by assumption) | exact adr_ne (by omega)) (by first | assumption | exact Ne.symm (by assumption) | exact adr_ne (by omega)) q1272 (by decide) rfl dK1294 (i2d_int (((p2.toUInt32 >>> ((8 : Int32) &&& 31).toUInt32).toInt32) &&& (255 : Int32))) (by decide) (by omega) (by decide)) (tw35 hw) (tw36 hw) (tw38 hw) (tw38 hw) (tw37 hw) (tw2 hw) (tw39 hw) (by decide) f1308 (by rw [hml]; rfl) (lenOf pd_5 rfl) (argsL := [(.double (FP.i2d (((p2.toUInt32 >>> ((8 : Int32) &&& 31).toUInt32).toInt32) &&& (255 : Int32)))), (.int (1 : Int32))]) (rest := []) rfl rfl (W := 0) (Nat.le_of_eq rfl) (by decide) (by decide) (by decide) (by decide) (allS (Or.inr ge_b1256) (allS (Or.inr ge_b1268) (allS (Or.inr ge_b1269) all0))) (hb hby at_104) rfl (k' := 3) (n' := 36) rfl rfl ?_
      rintro T1298 h1309 _ P1299 K1310 ⟨rfl, kf1307, F1300, F1301, F1302, F1303, A1304, dK1306, A1305⟩
      have szh1309 : h1296.size ≤ h1309.size := K1310.1
      generalize gK2 : (own_of 1 true K1 J1 (((p2.toUInt32 >>> ((8 : Int32) &&& 31).toUInt32).toInt32) &&& (255 : Int32)).toInt (1 : Int32)).1 = K2 at dK1306
      generalize gJ2 : (own_of 1 true K1 J1 (((p2.toUInt32 >>> ((8 : Int32) &&& 31).toUInt32).toInt32) &&& (255 : Int32)).toInt (1 : Int32)).2 = J2 at A1305
      show Done _ _ _ _ _ _ _ _ _ _ _ _ _ _ _ T1298 (mkF m 107 _ [])
      refine Done.stepL (pc' := 125) (st' := [(.int (2 : Int32)), (.double (FP.i2d (((p2.toUInt32 >>> ((16 : Int32) &&& 31).toUInt32).toInt32) &&& (255 : Int32)))), (.ref b1256)]) (fun t kk => ?_) ?_
      · show Steps p.tables e below (T1298.setTop (mkF m 107 _ [])) t
        refine XS.iload P1299.here P1299.x rfl (hb hby at_107) rfl ?_
        show Steps p.tables e below (T1298.setTop (mkF m 109 _ [(.int (4 : Int32))])) t
        refine XS.iconst P1299.here P1299.x rfl (hb hby at_109) ?_
        show Steps p.tables e below (T1298.setTop (mkF m 110 _ [(.int (3 : Int32)), (.int (4 : Int32))])) t
        refine XS.icmpNo P1299.here P1299.x rfl (hb hby at_110) rfl (iiW_lt_f (by decide)) ?_
        show Steps p.tables e below (T1298.setTop (mkF m 113 _ [])) t
        refine XS.aload P1299.here P1299.x rfl (hb hby at_113) rfl rfl ?_
        show Steps p.tables e below (T1298.setTop (mkF m 115 _ [(.ref b1256)])) t
        refine XS.iloadN P1299.here P1299.x rfl (hb hby at_115) rfl ?_
        show Steps p.tables e below (T1298.setTop (mkF m 116 _ [(.int p2), (.ref b1256)])) t
        refine XS.bipush P1299.here P1299.x rfl (hb hby at_116) ?_
        show Steps p.tables e below (T1298.setTop (mkF m 118 _ [(.int (16 : Int32)), (.int p2), (.ref b1256)])) t
        refine XS.iushr P1299.here P1299.x rfl (hb hby at_118) rfl ?_
        show Steps p.tables e below (T1298.setTop (mkF m 119 _ [(.int ((p2.toUInt32 >>> ((16 : Int32) &&& 31).toUInt32).toInt32)), (.ref b1256)])) t
        refine XS.sipush P1299.here P1299.x rfl (hb hby at_119) ?_
        show Steps p.tables e below (T1298.setTop (mkF m 122 _ [(.int (255 : Int32)), (.int ((p2.toUInt32 >>> ((16 : Int32) &&& 31).toUInt32).toInt32)), (.ref b1256)])) t
        refine XS.iand P1299.here P1299.x rfl (hb hby at_122) rfl ?_
        show Steps p.tables e below (T1298.setTop (mkF m 123 _ [(.int (((p2.toUInt32 >>> ((16 : Int32) &&& 31).toUInt32).toInt32) &&& (255 : Int32))), (.ref b1256)])) t
        refine XS.i2dS P1299.here P1299.x rfl (hb hby at_123) rfl rfl ?_
        show Steps p.tables e below (T1298.setTop (mkF m 124 _ [(.double (FP.i2d (((p2.toUInt32 >>> ((16 : Int32) &&& 31).toUInt32).toInt32) &&& (255 : Int32)))), (.ref b1256)])) t
        refine XS.iconst P1299.here P1299.x rfl (hb hby at_124) ?_
        exact kk
      have f1321 := (f1308.keep K1310)
      refine wCallV P1299 (m_offA l Z a0 hw b1256 b1268 b1269 (2 : Int32) 4 2 kf1307 K2 J2 (4 : Int32) (FP.i2d (((p2.toUInt32 >>> ((16 : Int32) &&& 31).toUInt32).toInt32) &&& (255 : Int32))) (2 : Int32) (((p2.toUInt32 >>> ((16 : Int32) &&& 31).toUInt32).toInt32) &&& (255 : Int32)).toInt (3 : Int32) h1309 f1321 F1301 F1302 F1300 F1303 A1304 A1305 (by first | assumption | exact Ne.symm (by assumption) | exact adr_ne (by omega)) (by first | assumption | exact Ne.symm (by assumption) | exact adr_ne (by omega)) q1272 (by decide) rfl dK1306 (i2d_int (((p2.toUInt32 >>> ((16 : Int32) &&& 31).toUInt32).toInt32) &&& (255 : Int32))) (by decide) (by omega) (by decide)) (tw35 hw) (tw36 hw) (tw38 hw) (tw38 hw) (tw37 hw) (tw2 hw) (tw39 hw) (by decide) f1321 (by rw [hml]; rfl) (lenOf pd_5 rfl) (argsL := [(.double (FP.i2d (((p2.toUInt32 >>> ((16 : Int32) &&& 31).toUInt32).toInt32) &&& (255 : Int32)))), (.int (2 : Int32))]) (rest := []) rfl rfl (W := 0) (Nat.le_of_eq rfl) (by decide) (by decide) (by decide) (by decide) (allS (Or.inr ge_b1256) (allS (Or.inr ge_b1268) (allS (Or.inr ge_b1269) all0))) (hb hby at_125) rfl (k' := 3) (n' := 36) rfl rfl ?_
      rintro T1311 h1322 _ P1312 K1323 ⟨rfl, kf1320, F1313, F1314, F1315, F1316, A1317, dK1319, A1318⟩
      have szh1322 : h1309.size ≤ h1322.size := K1323.1
      generalize gK3 : (own_of 2 true K2 J2 (((p2.toUInt32 >>> ((16 : Int32) &&& 31).toUInt32).toInt32) &&& (255 : Int32)).toInt (2 : Int32)).1 = K3 at dK1319
      generalize gJ3 : (own_of 2 true K2 J2 (((p2.toUInt32 >>> ((16 : Int32) &&& 31).toUInt32).toInt32) &&& (255 : Int32)).toInt (2 : Int32)).2 = J3 at A1318
      show Done _ _ _ _ _ _ _ _ _ _ _ _ _ _ _ T1311 (mkF m 128 _ [])
      refine Done.stepL (pc' := 146) (st' := [(.int (3 : Int32)), (.double (FP.i2d (((p2.toUInt32 >>> ((24 : Int32) &&& 31).toUInt32).toInt32) &&& (255 : Int32)))), (.ref b1256)]) (fun t kk => ?_) ?_
      · show Steps p.tables e below (T1311.setTop (mkF m 128 _ [])) t
        refine XS.iload P1312.here P1312.x rfl (hb hby at_128) rfl ?_
        show Steps p.tables e below (T1311.setTop (mkF m 130 _ [(.int (4 : Int32))])) t
        refine XS.iconst P1312.here P1312.x rfl (hb hby at_130) ?_
        show Steps p.tables e below (T1311.setTop (mkF m 131 _ [(.int (4 : Int32)), (.int (4 : Int32))])) t
        refine XS.icmpNo P1312.here P1312.x rfl (hb hby at_131) rfl (iiW_lt_f (by decide)) ?_
        show Steps p.tables e below (T1311.setTop (mkF m 134 _ [])) t
        refine XS.aload P1312.here P1312.x rfl (hb hby at_134) rfl rfl ?_
        show Steps p.tables e below (T1311.setTop (mkF m 136 _ [(.ref b1256)])) t
        refine XS.iloadN P1312.here P1312.x rfl (hb hby at_136) rfl ?_
        show Steps p.tables e below (T1311.setTop (mkF m 137 _ [(.int p2), (.ref b1256)])) t
        refine XS.bipush P1312.here P1312.x rfl (hb hby at_137) ?_
        show Steps p.tables e below (T1311.setTop (mkF m 139 _ [(.int (24 : Int32)), (.int p2), (.ref b1256)])) t
        refine XS.iushr P1312.here P1312.x rfl (hb hby at_139) rfl ?_
        show Steps p.tables e below (T1311.setTop (mkF m 140 _ [(.int ((p2.toUInt32 >>> ((24 : Int32) &&& 31).toUInt32).toInt32)), (.ref b1256)])) t
        refine XS.sipush P1312.here P1312.x rfl (hb hby at_140) ?_
        show Steps p.tables e below (T1311.setTop (mkF m 143 _ [(.int (255 : Int32)), (.int ((p2.toUInt32 >>> ((24 : Int32) &&& 31).toUInt32).toInt32)), (.ref b1256)])) t
        refine XS.iand P1312.here P1312.x rfl (hb hby at_143) rfl ?_
        show Steps p.tables e below (T1311.setTop (mkF m 144 _ [(.int (((p2.toUInt32 >>> ((24 : Int32) &&& 31).toUInt32).toInt32) &&& (255 : Int32))), (.ref b1256)])) t
        refine XS.i2dS P1312.here P1312.x rfl (hb hby at_144) rfl rfl ?_
        show Steps p.tables e below (T1311.setTop (mkF m 145 _ [(.double (FP.i2d (((p2.toUInt32 >>> ((24 : Int32) &&& 31).toUInt32).toInt32) &&& (255 : Int32)))), (.ref b1256)])) t
        refine XS.iconst P1312.here P1312.x rfl (hb hby at_145) ?_
        exact kk
      have f1334 := (f1321.keep K1323)
      refine wCallV P1312 (m_offA l Z a0 hw b1256 b1268 b1269 (3 : Int32) 4 3 kf1320 K3 J3 (4 : Int32) (FP.i2d (((p2.toUInt32 >>> ((24 : Int32) &&& 31).toUInt32).toInt32) &&& (255 : Int32))) (3 : Int32) (((p2.toUInt32 >>> ((24 : Int32) &&& 31).toUInt32).toInt32) &&& (255 : Int32)).toInt (4 : Int32) h1322 f1334 F1314 F1315 F1313 F1316 A1317 A1318 (by first | assumption | exact Ne.symm (by assumption) | exact adr_ne (by omega)) (by first | assumption | exact Ne.symm (by assumption) | exact adr_ne (by omega)) q1272 (by decide) rfl dK1319 (i2d_int (((p2.toUInt32 >>> ((24 : Int32) &&& 31).toUInt32).toInt32) &&& (255 : Int32))) (by decide) (by omega) (by decide)) (tw35 hw) (tw36 hw) (tw38 hw) (tw38 hw) (tw37 hw) (tw2 hw) (tw39 hw) (by decide) f1334 (by rw [hml]; rfl) (lenOf pd_5 rfl) (argsL := [(.double (FP.i2d (((p2.toUInt32 >>> ((24 : Int32) &&& 31).toUInt32).toInt32) &&& (255 : Int32)))), (.int (3 : Int32))]) (rest := []) rfl rfl (W := 0) (Nat.le_of_eq rfl) (by decide) (by decide) (by decide) (by decide) (allS (Or.inr ge_b1256) (allS (Or.inr ge_b1268) (allS (Or.inr ge_b1269) all0))) (hb hby at_146) rfl (k' := 3) (n' := 36) rfl rfl ?_
      rintro T1324 h1335 _ P1325 K1336 ⟨rfl, kf1333, F1326, F1327, F1328, F1329, A1330, dK1332, A1331⟩
      have szh1335 : h1322.size ≤ h1335.size := K1336.1
      generalize gK4 : (own_of 3 true K3 J3 (((p2.toUInt32 >>> ((24 : Int32) &&& 31).toUInt32).toInt32) &&& (255 : Int32)).toInt (3 : Int32)).1 = K4 at dK1332
      generalize gJ4 : (own_of 3 true K3 J3 (((p2.toUInt32 >>> ((24 : Int32) &&& 31).toUInt32).toInt32) &&& (255 : Int32)).toInt (3 : Int32)).2 = J4 at A1331
      show Done _ _ _ _ _ _ _ _ _ _ _ _ _ _ _ T1324 (mkF m 149 _ [])
      refine Done.stepL (pc' := 152) (st' := [(.int (4 : Int32)), (.int (4 : Int32))]) (fun t kk => ?_) ?_
      · show Steps p.tables e below (T1324.setTop (mkF m 149 _ [])) t
        refine XS.iload P1325.here P1325.x rfl (hb hby at_149) rfl ?_
        show Steps p.tables e below (T1324.setTop (mkF m 151 _ [(.int (4 : Int32))])) t
        refine XS.iloadN P1325.here P1325.x rfl (hb hby at_151) rfl ?_
        exact kk
      refine wCallS P1325 (m_minf l Z a0 hw (4 : Int32) (4 : Int32) h1335 (by decide)) (tw28 hw) (tw12 hw) (tw13 hw) (tw14 hw) (by decide) (by rw [hml]; rfl) (lenOf pd_1 rfl) (argsL := [(.int (4 : Int32)), (.int (4 : Int32))]) (rest := []) rfl rfl (W := 0) (Nat.le_of_eq rfl) (by decide) (by decide) (by decide) (by decide) (by simp) (hb hby at_152) rfl (k' := 3) (n' := 36) rfl rfl ?_
      rintro T1337 _ _ P1338 - ⟨rfl, rfl⟩
      show Done _ _ _ _ _ _ _ _ _ _ _ _ _ _ _ T1337 (mkF m 155 _ [(.int (4 : Int32))])
      refine Done.step (T' := T1337) (g' := (mkF m 159 #[.val (.int p0), .val (.int p1), .val (.int p2), .val (.int (4 : Int32)), .val (.int (4 : Int32)), .val (.ref b1256), .val (.int (1 : Int32)), .val (.int (4 : Int32)), .unset, .unset] [(.ref b1256)])) (fun t kk => ?_) ?_
      · show Steps p.tables e below (T1337.setTop (mkF m 155 _ [(.int (4 : Int32))])) t
        refine XS.istore P1338.here P1338.x rfl (hb hby at_155) rfl (l' := #[.val (.int p0), .val (.int p1), .val (.int p2), .val (.int (4 : Int32)), .val (.int (4 : Int32)), .val (.ref b1256), .val (.int (1 : Int32)), .val (.int (4 : Int32)), .unset, .unset]) rfl ?_
        show Steps p.tables e below (T1337.setTop (mkF m 157 _ [])) t
        refine XS.aload P1338.here P1338.x rfl (hb hby at_157) rfl rfl ?_
        exact kk
      have f1341 := (f1334.keep K1336)
      refine wCallV P1338 (m_size l Z a0 hw b1256 (4 : Int32) h1335 F1326) (tw29 hw) (tw30 hw) (tw32 hw) (tw32 hw) (tw31 hw) (tw2 hw) (tw33 hw) (by decide) f1341 (by rw [hml]; rfl) (lenOf pd_4 rfl) (argsL := []) (rest := []) rfl rfl (W := 0) (Nat.le_of_eq rfl) (by decide) (by decide) (by decide) (by decide) (by simp) (hb hby at_159) rfl (k' := 3) (n' := 36) rfl rfl ?_
      rintro T1339 _ _ P1340 - ⟨rfl, rfl⟩
      show Done _ _ _ _ _ _ _ _ _ _ _ _ _ _ _ T1339 (mkF m 162 _ [(.int (4 : Int32))])
      refine Done.step (T' := T1339) (g' := (mkF m 176 #[.val (.int p0), .val (.int p1), .val (.int p2), .val (.int (4 : Int32)), .val (.int (4 : Int32)), .val (.ref b1256), .val (.int (1 : Int32)), .val (.int (4 : Int32)), .val (.int (1 : Int32)), .unset] [(.ref b1256)])) (fun t kk => ?_) ?_
      · show Steps p.tables e below (T1339.setTop (mkF m 162 _ [(.int (4 : Int32))])) t
        refine XS.iload P1340.here P1340.x rfl (hb hby at_162) rfl ?_
        show Steps p.tables e below (T1339.setTop (mkF m 164 _ [(.int (4 : Int32)), (.int (4 : Int32))])) t
        refine XS.icmpNo P1340.here P1340.x rfl (hb hby at_164) rfl (iiW_ne_f (by decide)) ?_
        show Steps p.tables e below (T1339.setTop (mkF m 167 _ [])) t
        refine XS.iconst P1340.here P1340.x rfl (hb hby at_167) ?_
        show Steps p.tables e below (T1339.setTop (mkF m 168 _ [(.int (1 : Int32))])) t
        refine XS.goto P1340.here P1340.x rfl (pc0 := 168) (pc' := 172) rfl (hb hby at_168) (by decide) (by decide) ?_
        show Steps p.tables e below (T1339.setTop (mkF m 172 _ [(.int (1 : Int32))])) t
        refine XS.istore P1340.here P1340.x rfl (hb hby at_172) rfl (l' := #[.val (.int p0), .val (.int p1), .val (.int p2), .val (.int (4 : Int32)), .val (.int (4 : Int32)), .val (.ref b1256), .val (.int (1 : Int32)), .val (.int (4 : Int32)), .val (.int (1 : Int32)), .unset]) rfl ?_
        show Steps p.tables e below (T1339.setTop (mkF m 174 _ [])) t
        refine XS.aload P1340.here P1340.x rfl (hb hby at_174) rfl rfl ?_
        exact kk
      refine wCallV P1340 (m_isFullt l Z a0 hw b1256 (4 : Int32) (4 : Int32) h1335 F1326 F1329 (by decide)) (tw21 hw) (tw22 hw) (tw24 hw) (tw24 hw) (tw23 hw) (tw2 hw) (tw25 hw) (by decide) f1341 (by rw [hml]; rfl) (lenOf pd_3 rfl) (argsL := []) (rest := []) rfl rfl (W := 0) (Nat.le_of_eq rfl) (by decide) (by decide) (by decide) (by decide) (by simp) (hb hby at_176) rfl (k' := 3) (n' := 36) rfl rfl ?_
      rintro T1342 _ _ P1343 - ⟨rfl, rfl⟩
      show Done _ _ _ _ _ _ _ _ _ _ _ _ _ _ _ T1342 (mkF m 179 _ [(.int (1 : Int32))])
      refine Done.step (T' := T1342) (g' := (mkF m 220 #[.val (.int p0), .val (.int p1), .val (.int p2), .val (.int (4 : Int32)), .val (.int (4 : Int32)), .val (.ref b1256), .val (.int (1 : Int32)), .val (.int (4 : Int32)), .val (.int (1 : Int32)), .val (.int (1 : Int32))] [(.int (1 : Int32))])) (fun t kk => ?_) ?_
      · show Steps p.tables e below (T1342.setTop (mkF m 179 _ [(.int (1 : Int32))])) t
        refine XS.iload P1343.here P1343.x rfl (hb hby at_179) rfl ?_
        show Steps p.tables e below (T1342.setTop (mkF m 181 _ [(.int (4 : Int32)), (.int (1 : Int32))])) t
        refine XS.iloadN P1343.here P1343.x rfl (hb hby at_181) rfl ?_
        show Steps p.tables e below (T1342.setTop (mkF m 182 _ [(.int (4 : Int32)), (.int (4 : Int32)), (.int (1 : Int32))])) t
        refine XS.icmpNo P1343.here P1343.x rfl (hb hby at_182) rfl (iiW_ne_f (by decide)) ?_
        show Steps p.tables e below (T1342.setTop (mkF m 185 _ [(.int (1 : Int32))])) t
        refine XS.iconst P1343.here P1343.x rfl (hb hby at_185) ?_
        show Steps p.tables e below (T1342.setTop (mkF m 186 _ [(.int (1 : Int32)), (.int (1 : Int32))])) t
        refine XS.goto P1343.here P1343.x rfl (pc0 := 186) (pc' := 190) rfl (hb hby at_186) (by decide) (by decide) ?_
        show Steps p.tables e below (T1342.setTop (mkF m 190 _ [(.int (1 : Int32)), (.int (1 : Int32))])) t
        refine XS.icmpNo P1343.here P1343.x rfl (hb hby at_190) rfl (iiW_ne_f (by decide)) ?_
        show Steps p.tables e below (T1342.setTop (mkF m 193 _ [])) t
        refine XS.iconst P1343.here P1343.x rfl (hb hby at_193) ?_
        show Steps p.tables e below (T1342.setTop (mkF m 194 _ [(.int (1 : Int32))])) t
        refine XS.goto P1343.here P1343.x rfl (pc0 := 194) (pc' := 198) rfl (hb hby at_194) (by decide) (by decide) ?_
        show Steps p.tables e below (T1342.setTop (mkF m 198 _ [(.int (1 : Int32))])) t
        refine XS.istore P1343.here P1343.x rfl (hb hby at_198) rfl (l' := #[.val (.int p0), .val (.int p1), .val (.int p2), .val (.int (4 : Int32)), .val (.int (4 : Int32)), .val (.ref b1256), .val (.int (1 : Int32)), .val (.int (4 : Int32)), .val (.int (1 : Int32)), .val (.int (1 : Int32))]) rfl ?_
        show Steps p.tables e below (T1342.setTop (mkF m 200 _ [])) t
        refine XS.iload P1343.here P1343.x rfl (hb hby at_200) rfl ?_
        show Steps p.tables e below (T1342.setTop (mkF m 202 _ [(.int (1 : Int32))])) t
        refine XS.ifNo P1343.here P1343.x rfl (hb hby at_202) rfl (i0W_eq_f (by decide)) ?_
        show Steps p.tables e below (T1342.setTop (mkF m 205 _ [])) t
        refine XS.iload P1343.here P1343.x rfl (hb hby at_205) rfl ?_
        show Steps p.tables e below (T1342.setTop (mkF m 207 _ [(.int (1 : Int32))])) t
        refine XS.ifNo P1343.here P1343.x rfl (hb hby at_207) rfl (i0W_eq_f (by decide)) ?_
        show Steps p.tables e below (T1342.setTop (mkF m 210 _ [])) t
        refine XS.iload P1343.here P1343.x rfl (hb hby at_210) rfl ?_
        show Steps p.tables e below (T1342.setTop (mkF m 212 _ [(.int (1 : Int32))])) t
        refine XS.ifNo P1343.here P1343.x rfl (hb hby at_212) rfl (i0W_eq_f (by decide)) ?_
        show Steps p.tables e below (T1342.setTop (mkF m 215 _ [])) t
        refine XS.iconst P1343.here P1343.x rfl (hb hby at_215) ?_
        show Steps p.tables e below (T1342.setTop (mkF m 216 _ [(.int (1 : Int32))])) t
        refine XS.goto P1343.here P1343.x rfl (pc0 := 216) (pc' := 220) rfl (hb hby at_216) (by decide) (by decide) ?_
        exact kk
      exact wRet P1343 (t := .boolean) hret (narrow_01 (Or.inr rfl)) (Or.inl ⟨rfl, Or.inr (Or.inl rfl), _, rfl⟩) (hb hby at_220) rfl
  · obtain ⟨N, hN1, hN2, hN4⟩ := own_N hc5
    rcases hnv with rfl | ⟨-, rfl | rfl | rfl | rfl⟩
    · show Done _ _ _ _ _ _ _ _ _ _ _ _ _ _ _ T0 (mkF m 34 _ [])
      refine wNew P0 (tw0 hw) (tw1 hw) (tw2 hw) (hb hby at_34) rfl (by decide) (by decide) (k' := 1) (n' := 4) rfl rfl (fun T1344 h1346 b1347 g1348 lt1349 P1345 E1350 X1351 D1352 => ?_)
      have ge_b1347 : h0.size ≤ b1347 := by have := P0.ge; omega
      have F1353 : Fld Z h1346 b1347 "com/example/urnwise/urnwise/sampler/SmallestKeys" "capacity" "I" (.int (0 : Int32)) := D1352 (Or.inr (tw10 hw)) (ty := .int) (by decide)
      have F1354 : Fld Z h1346 b1347 "com/example/urnwise/urnwise/sampler/SmallestKeys" "keys" "[D" .null := D1352 (Or.inl (tw17 hw)) (ty := (.array .double)) (by decide)
      have F1355 : Fld Z h1346 b1347 "com/example/urnwise/urnwise/sampler/SmallestKeys" "indices" "[I" .null := D1352 (Or.inl (tw20 hw)) (ty := (.array .int)) (by decide)
      have F1356 : Fld Z h1346 b1347 "com/example/urnwise/urnwise/sampler/SmallestKeys" "size" "I" (.int (0 : Int32)) := D1352 (Or.inl (tw27 hw)) (ty := .int) (by decide)
      show Done _ _ _ _ _ _ _ _ _ _ _ _ _ _ _ T1344 (mkF m 37 _ [(.ref b1347)])
      refine Done.stepL (pc' := 39) (st' := [(.int cv), (.ref b1347), (.ref b1347)]) (fun t kk => ?_) ?_
      · show Steps p.tables e below (T1344.setTop (mkF m 37 _ [(.ref b1347)])) t
        refine XS.dup P1345.here P1345.x rfl (hb hby at_37) rfl rfl ?_
        show Steps p.tables e below (T1344.setTop (mkF m 38 _ [(.ref b1347), (.ref b1347)])) t
        refine XS.iloadN P1345.here P1345.x rfl (hb hby at_38) rfl ?_
        exact kk
      refine wCallI P1345 (m_hpInit l Z a0 hw b1347 cv N h1346 X1351 F1353 F1354 F1355 hN1 hN2 F1356) rfl (tw3 hw) (tw4 hw) (tw2 hw) (tw5 hw) (by decide) (a := b1347) (by rw [hml]; rfl) (lenOf pd_2 rfl) (argsL := [(.int cv)]) (rest := [(.ref b1347)]) rfl rfl (W := 1) (Nat.le_of_eq rfl) (by decide) (by decide) (by decide) (by decide) (allS (Or.inr ge_b1347) all0) (hb hby at_39) rfl (k' := 3) (n' := 36) rfl rfl ?_
      rintro T1357 h1372 _ P1358 K1373 ⟨rfl, b1359, b1360, q1361, q1362, q1363, q1364, q1365, F1366, F1367, F1368, F1369, A1370, A1371⟩
      have szh1372 : h1346.size ≤ h1372.size := K1373.1
      have ge_b1359 : h0.size ≤ b1359 := by have := q1361; have := P1345.ge; omega
      have ge_b1360 : h0.size ≤ b1360 := by have := q1362; have := P1345.ge; omega
      have dK0 : ∀ i, i < N → DInt ((fun _ => (0 : Int)) i) ((fun _ => (0 : UInt64)) i) := fun i _ => dint_c0
      show Done _ _ _ _ _ _ _ _ _ _ _ _ _ _ _ T1357 (mkF m 42 _ [(.ref b1347)])
      refine Done.step (T' := T1357) (g' := (mkF m 46 #[.val (.int p0), .val (.int p1), .val (.int p2), .val (.int cv), .val (.int (0 : Int32)), .val (.ref b1347), .unset, .unset, .unset, .unset] [(.ref b1347)])) (fun t kk => ?_) ?_
      · show Steps p.tables e below (T1357.setTop (mkF m 42 _ [(.ref b1347)])) t
        refine XS.astore P1358.here P1358.x rfl (hb hby at_42) rfl rfl (l' := #[.val (.int p0), .val (.int p1), .val (.int p2), .val (.int cv), .val (.int (0 : Int32)), .val (.ref b1347), .unset, .unset, .unset, .unset]) rfl ?_
        show Steps p.tables e below (T1357.setTop (mkF m 44 _ [])) t
        refine XS.aload P1358.here P1358.x rfl (hb hby at_44) rfl rfl ?_
        exact kk
      have f1376 := (X1351.keep K1373)
      refine wCallV P1358 (m_isFullf l Z a0 hw b1347 (0 : Int32) cv h1372 F1366 F1369 (own_n5 (0 : Int32) hc5 (by decide))) (tw21 hw) (tw22 hw) (tw24 hw) (tw24 hw) (tw23 hw) (tw2 hw) (tw25 hw) (by decide) f1376 (by rw [hml]; rfl) (lenOf pd_3 rfl) (argsL := []) (rest := []) rfl rfl (W := 0) (Nat.le_of_eq rfl) (by decide) (by decide) (by decide) (by decide) (by simp) (hb hby at_46) rfl (k' := 3) (n' := 36) rfl rfl ?_
      rintro T1374 _ _ P1375 - ⟨rfl, rfl⟩
      show Done _ _ _ _ _ _ _ _ _ _ _ _ _ _ _ T1374 (mkF m 49 _ [(.int (0 : Int32))])
      refine Done.step (T' := T1374) (g' := (mkF m 152 #[.val (.int p0), .val (.int p1), .val (.int p2), .val (.int cv), .val (.int (0 : Int32)), .val (.ref b1347), .val (.int (1 : Int32)), .unset, .unset, .unset] [(.int cv), (.int (0 : Int32))])) (fun t kk => ?_) ?_
      · show Steps p.tables e below (T1374.setTop (mkF m 49 _ [(.int (0 : Int32))])) t
        refine XS.iloadN P1375.here P1375.x rfl (hb hby at_49) rfl ?_
        show Steps p.tables e below (T1374.setTop (mkF m 50 _ [(.int cv), (.int (0 : Int32))])) t
        refine XS.ifYes P1375.here P1375.x rfl (pc0 := 50) (pc' := 57) rfl (hb hby at_50) rfl (i0W_ne_t (fun z => own_n5 (0 : Int32) hc5 (by decide) z.symm)) (by decide) (by decide) ?_
        show Steps p.tables e below (T1374.setTop (mkF m 57 _ [(.int (0 : Int32))])) t
        refine XS.iconst P1375.here P1375.x rfl (hb hby at_57) ?_
        show Steps p.tables e below (T1374.setTop (mkF m 58 _ [(.int (0 : Int32)), (.int (0 : Int32))])) t
        refine XS.icmpNo P1375.here P1375.x rfl (hb hby at_58) rfl (iiW_ne_f (by decide)) ?_
        show Steps p.tables e below (T1374.setTop (mkF m 61 _ [])) t
        refine XS.iconst P1375.here P1375.x rfl (hb hby at_61) ?_
        show Steps p.tables e below (T1374.setTop (mkF m 62 _ [(.int (1 : Int32))])) t
        refine XS.goto P1375.here P1375.x rfl (pc0 := 62) (pc' := 66) rfl (hb hby at_62) (by decide) (by decide) ?_
        show Steps p.tables e below (T1374.setTop (mkF m 66 _ [(.int (1 : Int32))])) t
        refine XS.istore P1375.here P1375.x rfl (hb hby at_66) rfl (l' := #[.val (.int p0), .val (.int p1), .val (.int p2), .val (.int cv), .val (.int (0 : Int32)), .val (.ref b1347), .val (.int (1 : Int32)), .unset, .unset, .unset]) rfl ?_
        show Steps p.tables e below (T1374.setTop (mkF m 68 _ [])) t
        refine XS.iload P1375.here P1375.x rfl (hb hby at_68) rfl ?_
        show Steps p.tables e below (T1374.setTop (mkF m 70 _ [(.int (0 : Int32))])) t
        refine XS.iconst P1375.here P1375.x rfl (hb hby at_70) ?_
        show Steps p.tables e below (T1374.setTop (mkF m 71 _ [(.int (1 : Int32)), (.int (0 : Int32))])) t
        refine XS.icmpYes P1375.here P1375.x rfl (pc0 := 71) (pc' := 86) rfl (hb hby at_71) rfl (iiW_lt_t (by decide)) (by decide) (by decide) ?_
        show Steps p.tables e below (T1374.setTop (mkF m 86 _ [])) t
        refine XS.iload P1375.here P1375.x rfl (hb hby at_86) rfl ?_
        show Steps p.tables e below (T1374.setTop (mkF m 88 _ [(.int (0 : Int32))])) t
        refine XS.iconst P1375.here P1375.x rfl (hb hby at_88) ?_
        show Steps p.tables e below (T1374.setTop (mkF m 89 _ [(.int (2 : Int32)), (.int (0 : Int32))])) t
        refine XS.icmpYes P1375.here P1375.x rfl (pc0 := 89) (pc' := 107) rfl (hb hby at_89) rfl (iiW_lt_t (by decide)) (by decide) (by decide) ?_
        show Steps p.tables e below (T1374.setTop (mkF m 107 _ [])) t
        refine XS.iload P1375.here P1375.x rfl (hb hby at_107) rfl ?_
        show Steps p.tables e below (T1374.setTop (mkF m 109 _ [(.int (0 : Int32))])) t
        refine XS.iconst P1375.here P1375.x rfl (hb hby at_109) ?_
        show Steps p.tables e below (T1374.setTop (mkF m 110 _ [(.int (3 : Int32)), (.int (0 : Int32))])) t
        refine XS.icmpYes P1375.here P1375.x rfl (pc0 := 110) (pc' := 128) rfl (hb hby at_110) rfl (iiW_lt_t (by decide)) (by decide) (by decide) ?_
        show Steps p.tables e below (T1374.setTop (mkF m 128 _ [])) t
        refine XS.iload P1375.here P1375.x rfl (hb hby at_128) rfl ?_
        show Steps p.tables e below (T1374.setTop (mkF m 130 _ [(.int (0 : Int32))])) t
        refine XS.iconst P1375.here P1375.x rfl (hb hby at_130) ?_
        show Steps p.tables e below (T1374.setTop (mkF m 131 _ [(.int (4 : Int32)), (.int (0 : Int32))])) t
        refine XS.icmpYes P1375.here P1375.x rfl (pc0 := 131) (pc' := 149) rfl (hb hby at_131) rfl (iiW_lt_t (by decide)) (by decide) (by decide) ?_
        show Steps p.tables e below (T1374.setTop (mkF m 149 _ [])) t
        refine XS.iload P1375.here P1375.x rfl (hb hby at_149) rfl ?_
        show Steps p.tables e below (T1374.setTop (mkF m 151 _ [(.int (0 : Int32))])) t
        refine XS.iloadN P1375.here P1375.x rfl (hb hby at_151) rfl ?_
        exact kk
      refine wCallS P1375 (m_minf l Z a0 hw (0 : Int32) cv h1372 (own_m5 (n := (0 : Int32)) hc5 (by decide))) (tw28 hw) (tw12 hw) (tw13 hw) (tw14 hw) (by decide) (by rw [hml]; rfl) (lenOf pd_1 rfl) (argsL := [(.int (0 : Int32)), (.int cv)]) (rest := []) rfl rfl (W := 0) (Nat.le_of_eq rfl) (by decide) (by decide) (by decide) (by decide) (by simp) (hb hby at_152) rfl (k' := 3) (n' := 36) rfl rfl ?_
      rintro T1377 _ _ P1378 - ⟨rfl, rfl⟩
      show Done _ _ _ _ _ _ _ _ _ _ _ _ _ _ _ T1377 (mkF m 155 _ [(.int (0 : Int32))])
      refine Done.step (T' := T1377) (g' := (mkF m 159 #[.val (.int p0), .val (.int p1), .val (.int p2), .val (.int cv), .val (.int (0 : Int32)), .val (.ref b1347), .val (.int (1 : Int32)), .val (.int (0 : Int32)), .unset, .unset] [(.ref b1347)])) (fun t kk => ?_) ?_
      · show Steps p.tables e below (T1377.setTop (mkF m 155 _ [(.int (0 : Int32))])) t
        refine XS.istore P1378.here P1378.x rfl (hb hby at_155) rfl (l' := #[.val (.int p0), .val (.int p1), .val (.int p2), .val (.int cv), .val (.int (0 : Int32)), .val (.ref b1347), .val (.int (1 : Int32)), .val (.int (0 : Int32)), .unset, .unset]) rfl ?_
        show Steps p.tables e below (T1377.setTop (mkF m 157 _ [])) t
        refine XS.aload P1378.here P1378.x rfl (hb hby at_157) rfl rfl ?_
        exact kk
      refine wCallV P1378 (m_size l Z a0 hw b1347 (0 : Int32) h1372 F1366) (tw29 hw) (tw30 hw) (tw32 hw) (tw32 hw) (tw31 hw) (tw2 hw) (tw33 hw) (by decide) f1376 (by rw [hml]; rfl) (lenOf pd_4 rfl) (argsL := []) (rest := []) rfl rfl (W := 0) (Nat.le_of_eq rfl) (by decide) (by decide) (by decide) (by decide) (by simp) (hb hby at_159) rfl (k' := 3) (n' := 36) rfl rfl ?_
      rintro T1379 _ _ P1380 - ⟨rfl, rfl⟩
      show Done _ _ _ _ _ _ _ _ _ _ _ _ _ _ _ T1379 (mkF m 162 _ [(.int (0 : Int32))])
      refine Done.step (T' := T1379) (g' := (mkF m 176 #[.val (.int p0), .val (.int p1), .val (.int p2), .val (.int cv), .val (.int (0 : Int32)), .val (.ref b1347), .val (.int (1 : Int32)), .val (.int (0 : Int32)), .val (.int (1 : Int32)), .unset] [(.ref b1347)])) (fun t kk => ?_) ?_
      · show Steps p.tables e below (T1379.setTop (mkF m 162 _ [(.int (0 : Int32))])) t
        refine XS.iload P1380.here P1380.x rfl (hb hby at_162) rfl ?_
        show Steps p.tables e below (T1379.setTop (mkF m 164 _ [(.int (0 : Int32)), (.int (0 : Int32))])) t
        refine XS.icmpNo P1380.here P1380.x rfl (hb hby at_164) rfl (iiW_ne_f (by decide)) ?_
        show Steps p.tables e below (T1379.setTop (mkF m 167 _ [])) t
        refine XS.iconst P1380.here P1380.x rfl (hb hby at_167) ?_
        show Steps p.tables e below (T1379.setTop (mkF m 168 _ [(.int (1 : Int32))])) t
        refine XS.goto P1380.here P1380.x rfl (pc0 := 168) (pc' := 172) rfl (hb hby at_168) (by decide) (by decide) ?_
        show Steps p.tables e below (T1379.setTop (mkF m 172 _ [(.int (1 : Int32))])) t
        refine XS.istore P1380.here P1380.x rfl (hb hby at_172) rfl (l' := #[.val (.int p0), .val (.int p1), .val (.int p2), .val (.int cv), .val (.int (0 : Int32)), .val (.ref b1347), .val (.int (1 : Int32)), .val (.int (0 : Int32)), .val (.int (1 : Int32)), .unset]) rfl ?_
        show Steps p.tables e below (T1379.setTop (mkF m 174 _ [])) t
        refine XS.aload P1380.here P1380.x rfl (hb hby at_174) rfl rfl ?_
        exact kk
      refine wCallV P1380 (m_isFullf l Z a0 hw b1347 (0 : Int32) cv h1372 F1366 F1369 (own_n5 (0 : Int32) hc5 (by decide))) (tw21 hw) (tw22 hw) (tw24 hw) (tw24 hw) (tw23 hw) (tw2 hw) (tw25 hw) (by decide) f1376 (by rw [hml]; rfl) (lenOf pd_3 rfl) (argsL := []) (rest := []) rfl rfl (W := 0) (Nat.le_of_eq rfl) (by decide) (by decide) (by decide) (by decide) (by simp) (hb hby at_176) rfl (k' := 3) (n' := 36) rfl rfl ?_
      rintro T1381 _ _ P1382 - ⟨rfl, rfl⟩
      show Done _ _ _ _ _ _ _ _ _ _ _ _ _ _ _ T1381 (mkF m 179 _ [(.int (0 : Int32))])
      refine Done.step (T' := T1381) (g' := (mkF m 220 #[.val (.int p0), .val (.int p1), .val (.int p2), .val (.int cv), .val (.int (0 : Int32)), .val (.ref b1347), .val (.int (1 : Int32)), .val (.int (0 : Int32)), .val (.int (1 : Int32)), .val (.int (1 : Int32))] [(.int (1 : Int32))])) (fun t kk => ?_) ?_
      · show Steps p.tables e below (T1381.setTop (mkF m 179 _ [(.int (0 : Int32))])) t
        refine XS.iload P1382.here P1382.x rfl (hb hby at_179) rfl ?_
        show Steps p.tables e below (T1381.setTop (mkF m 181 _ [(.int (0 : Int32)), (.int (0 : Int32))])) t
        refine XS.iloadN P1382.here P1382.x rfl (hb hby at_181) rfl ?_
        show Steps p.tables e below (T1381.setTop (mkF m 182 _ [(.int cv), (.int (0 : Int32)), (.int (0 : Int32))])) t
        refine XS.icmpYes P1382.here P1382.x rfl (pc0 := 182) (pc' := 189) rfl (hb hby at_182) rfl (iiW_ne_t (own_n5 (0 : Int32) hc5 (by decide))) (by decide) (by decide) ?_
        show Steps p.tables e below (T1381.setTop (mkF m 189 _ [(.int (0 : Int32))])) t
        refine XS.iconst P1382.here P1382.x rfl (hb hby at_189) ?_
        show Steps p.tables e below (T1381.setTop (mkF m 190 _ [(.int (0 : Int32)), (.int (0 : Int32))])) t
        refine XS.icmpNo P1382.here P1382.x rfl (hb hby at_190) rfl (iiW_ne_f (by decide)) ?_
        show Steps p.tables e below (T1381.setTop (mkF m 193 _ [])) t
        refine XS.iconst P1382.here P1382.x rfl (hb hby at_193) ?_
        show Steps p.tables e below (T1381.setTop (mkF m 194 _ [(.int (1 : Int32))])) t
        refine XS.goto P1382.here P1382.x rfl (pc0 := 194) (pc' := 198) rfl (hb hby at_194) (by decide) (by decide) ?_
        show Steps p.tables e below (T1381.setTop (mkF m 198 _ [(.int (1 : Int32))])) t
        refine XS.istore P1382.here P1382.x rfl (hb hby at_198) rfl (l' := #[.val (.int p0), .val (.int p1), .val (.int p2), .val (.int cv), .val (.int (0 : Int32)), .val (.ref b1347), .val (.int (1 : Int32)), .val (.int (0 : Int32)), .val (.int (1 : Int32)), .val (.int (1 : Int32))]) rfl ?_
        show Steps p.tables e below (T1381.setTop (mkF m 200 _ [])) t
        refine XS.iload P1382.here P1382.x rfl (hb hby at_200) rfl ?_
        show Steps p.tables e below (T1381.setTop (mkF m 202 _ [(.int (1 : Int32))])) t
        refine XS.ifNo P1382.here P1382.x rfl (hb hby at_202) rfl (i0W_eq_f (by decide)) ?_
        show Steps p.tables e below (T1381.setTop (mkF m 205 _ [])) t
        refine XS.iload P1382.here P1382.x rfl (hb hby at_205) rfl ?_
        show Steps p.tables e below (T1381.setTop (mkF m 207 _ [(.int (1 : Int32))])) t
        refine XS.ifNo P1382.here P1382.x rfl (hb hby at_207) rfl (i0W_eq_f (by decide)) ?_
        show Steps p.tables e below (T1381.setTop (mkF m 210 _ [])) t
        refine XS.iload P1382.here P1382.x rfl (hb hby at_210) rfl ?_
        show Steps p.tables e below (T1381.setTop (mkF m 212 _ [(.int (1 : Int32))])) t
        refine XS.ifNo P1382.here P1382.x rfl (hb hby at_212) rfl (i0W_eq_f (by decide)) ?_
        show Steps p.tables e below (T1381.setTop (mkF m 215 _ [])) t
        refine XS.iconst P1382.here P1382.x rfl (hb hby at_215) ?_
        show Steps p.tables e below (T1381.setTop (mkF m 216 _ [(.int (1 : Int32))])) t
        refine XS.goto P1382.here P1382.x rfl (pc0 := 216) (pc' := 220) rfl (hb hby at_216) (by decide) (by decide) ?_
        exact kk
      exact wRet P1382 (t := .boolean) hret (narrow_01 (Or.inr rfl)) (Or.inl ⟨rfl, Or.inr (Or.inl rfl), _, rfl⟩) (hb hby at_220) rfl
    · show Done _ _ _ _ _ _ _ _ _ _ _ _ _ _ _ T0 (mkF m 34 _ [])
      refine wNew P0 (tw0 hw) (tw1 hw) (tw2 hw) (hb hby at_34) rfl (by decide) (by decide) (k' := 1) (n' := 4) rfl rfl (fun T1383 h1385 b1386 g1387 lt1388 P1384 E1389 X1390 D1391 => ?_)
      have ge_b1386 : h0.size ≤ b1386 := by have := P0.ge; omega
      have F1392 : Fld Z h1385 b1386 "com/example/urnwise/urnwise/sampler/SmallestKeys" "capacity" "I" (.int (0 : Int32)) := D1391 (Or.inr (tw10 hw)) (ty := .int) (by decide)
      have F1393 : Fld Z h1385 b1386 "com/example/urnwise/urnwise/sampler/SmallestKeys" "keys" "[D" .null := D1391 (Or.inl (tw17 hw)) (ty := (.array .double)) (by decide)
      have F1394 : Fld Z h1385 b1386 "com/example/urnwise/urnwise/sampler/SmallestKeys" "indices" "[I" .null := D1391 (Or.inl (tw20 hw)) (ty := (.array .int)) (by decide)
      have F1395 : Fld Z h1385 b1386 "com/example/urnwise/urnwise/sampler/SmallestKeys" "size" "I" (.int (0 : Int32)) := D1391 (Or.inl (tw27 hw)) (ty := .int) (by decide)
      show Done _ _ _ _ _ _ _ _ _ _ _ _ _ _ _ T1383 (mkF m 37 _ [(.ref b1386)])
      refine Done.stepL (pc' := 39) (st' := [(.int cv), (.ref b1386), (.ref b1386)]) (fun t kk => ?_) ?_
      · show Steps p.tables e below (T1383.setTop (mkF m 37 _ [(.ref b1386)])) t
        refine XS.dup P1384.here P1384.x rfl (hb hby at_37) rfl rfl ?_
        show Steps p.tables e below (T1383.setTop (mkF m 38 _ [(.ref b1386), (.ref b1386)])) t
        refine XS.iloadN P1384.here P1384.x rfl (hb hby at_38) rfl ?_
        exact kk
      refine wCallI P1384 (m_hpInit l Z a0 hw b1386 cv N h1385 X1390 F1392 F1393 F1394 hN1 hN2 F1395) rfl (tw3 hw) (tw4 hw) (tw2 hw) (tw5 hw) (by decide) (a := b1386) (by rw [hml]; rfl) (lenOf pd_2 rfl) (argsL := [(.int cv)]) (rest := [(.ref b1386)]) rfl rfl (W := 1) (Nat.le_of_eq rfl) (by decide) (by decide) (by decide) (by decide) (allS (Or.inr ge_b1386) all0) (hb hby at_39) rfl (k' := 3) (n' := 36) rfl rfl ?_
      rintro T1396 h1411 _ P1397 K1412 ⟨rfl, b1398, b1399, q1400, q1401, q1402, q1403, q1404, F1405, F1406, F1407, F1408, A1409, A1410⟩
      have szh1411 : h1385.size ≤ h1411.size := K1412.1
      have ge_b1398 : h0.size ≤ b1398 := by have := q1400; have := P1384.ge; omega
      have ge_b1399 : h0.size ≤ b1399 := by have := q1401; have := P1384.ge; omega
      have dK0 : ∀ i, i < N → DInt ((fun _ => (0 : Int)) i) ((fun _ => (0 : UInt64)) i) := fun i _ => dint_c0
      show Done _ _ _ _ _ _ _ _ _ _ _ _ _ _ _ T1396 (mkF m 42 _ [(.ref b1386)])
      refine Done.step (T' := T1396) (g' := (mkF m 46 #[.val (.int p0), .val (.int p1), .val (.int p2), .val (.int cv), .val (.int (1 : Int32)), .val (.ref b1386), .unset, .unset, .unset, .unset] [(.ref b1386)])) (fun t kk => ?_) ?_
      · show Steps p.tables e below (T1396.setTop (mkF m 42 _ [(.ref b1386)])) t
        refine XS.astore P1397.here P1397.x rfl (hb hby at_42) rfl rfl (l' := #[.val (.int p0), .val (.int p1), .val (.int p2), .val (.int cv), .val (.int (1 : Int32)), .val (.ref b1386), .unset, .unset, .unset, .unset]) rfl ?_
        show Steps p.tables e below (T1396.setTop (mkF m 44 _ [])) t
        refine XS.aload P1397.here P1397.x rfl (hb hby at_44) rfl rfl ?_
        exact kk
      have f1415 := (X1390.keep K1412)
      refine wCallV P1397 (m_isFullf l Z a0 hw b1386 (0 : Int32) cv h1411 F1405 F1408 (own_n5 (0 : Int32) hc5 (by decide))) (tw21 hw) (tw22 hw) (tw24 hw) (tw24 hw) (tw23 hw) (tw2 hw) (tw25 hw) (by decide) f1415 (by rw [hml]; rfl) (lenOf pd_3 rfl) (argsL := []) (rest := []) rfl rfl (W := 0) (Nat.le_of_eq rfl) (by decide) (by decide) (by decide) (by decide) (by simp) (hb hby at_46) rfl (k' := 3) (n' := 36) rfl rfl ?_
      rintro T1413 _ _ P1414 - ⟨rfl, rfl⟩
      show Done _ _ _ _ _ _ _ _ _ _ _ _ _ _ _ T1413 (mkF m 49 _ [(.int (0 : Int32))])
      refine Done.step (T' := T1413) (g' := (mkF m 83 #[.val (.int p0), .val (.int p1), .val (.int p2), .val (.int cv), .val (.int (1 : Int32)), .val (.ref b1386), .val (.int (1 : Int32)), .unset, .unset, .unset] [(.int (0 : Int32)), (.double (FP.i2d (p2 &&& (255 : Int32)))), (.ref b1386)])) (fun t kk => ?_) ?_
      · show Steps p.tables e below (T1413.setTop (mkF m 49 _ [(.int (0 : Int32))])) t
        refine XS.iloadN P1414.here P1414.x rfl (hb hby at_49) rfl ?_
        show Steps p.tables e below (T1413.setTop (mkF m 50 _ [(.int cv), (.int (0 : Int32))])) t
        refine XS.ifYes P1414.here P1414.x rfl (pc0 := 50) (pc' := 57) rfl (hb hby at_50) rfl (i0W_ne_t (fun z => own_n5 (0 : Int32) hc5 (by decide) z.symm)) (by decide) (by decide) ?_
        show Steps p.tables e below (T1413.setTop (mkF m 57 _ [(.int (0 : Int32))])) t
        refine XS.iconst P1414.here P1414.x rfl (hb hby at_57) ?_
        show Steps p.tables e below (T1413.setTop (mkF m 58 _ [(.int (0 : Int32)), (.int (0 : Int32))])) t
        refine XS.icmpNo P1414.here P1414.x rfl (hb hby at_58) rfl (iiW_ne_f (by decide)) ?_
        show Steps p.tables e below (T1413.setTop (mkF m 61 _ [])) t
        refine XS.iconst P1414.here P1414.x rfl (hb hby at_61) ?_
        show Steps p.tables e below (T1413.setTop (mkF m 62 _ [(.int (1 : Int32))])) t
        refine XS.goto P1414.here P1414.x rfl (pc0 := 62) (pc' := 66) rfl (hb hby at_62) (by decide) (by decide) ?_
        show Steps p.tables e below (T1413.setTop (mkF m 66 _ [(.int (1 : Int32))])) t
        refine XS.istore P1414.here P1414.x rfl (hb hby at_66) rfl (l' := #[.val (.int p0), .val (.int p1), .val (.int p2), .val (.int cv), .val (.int (1 : Int32)), .val (.ref b1386), .val (.int (1 : Int32)), .unset, .unset, .unset]) rfl ?_
        show Steps p.tables e below (T1413.setTop (mkF m 68 _ [])) t
        refine XS.iload P1414.here P1414.x rfl (hb hby at_68) rfl ?_
        show Steps p.tables e below (T1413.setTop (mkF m 70 _ [(.int (1 : Int32))])) t
        refine XS.iconst P1414.here P1414.x rfl (hb hby at_70) ?_
        show Steps p.tables e below (T1413.setTop (mkF m 71 _ [(.int (1 : Int32)), (.int (1 : Int32))])) t
        refine XS.icmpNo P1414.here P1414.x rfl (hb hby at_71) rfl (iiW_lt_f (by decide)) ?_
        show Steps p.tables e below (T1413.setTop (mkF m 74 _ [])) t
        refine XS.aload P1414.here P1414.x rfl (hb hby at_74) rfl rfl ?_
        show Steps p.tables e below (T1413.setTop (mkF m 76 _ [(.ref b1386)])) t
        refine XS.iloadN P1414.here P1414.x rfl (hb hby at_76) rfl ?_
        show Steps p.tables e below (T1413.setTop (mkF m 77 _ [(.int p2), (.ref b1386)])) t
        refine XS.sipush P1414.here P1414.x rfl (hb hby at_77) ?_
        show Steps p.tables e below (T1413.setTop (mkF m 80 _ [(.int (255 : Int32)), (.int p2), (.ref b1386)])) t
        refine XS.iand P1414.here P1414.x rfl (hb hby at_80) rfl ?_
        show Steps p.tables e below (T1413.setTop (mkF m 81 _ [(.int (p2 &&& (255 : Int32))), (.ref b1386)])) t
        refine XS.i2dS P1414.here P1414.x rfl (hb hby at_81) rfl rfl ?_
        show Steps p.tables e below (T1413.setTop (mkF m 82 _ [(.double (FP.i2d (p2 &&& (255 : Int32)))), (.ref b1386)])) t
        refine XS.iconst P1414.here P1414.x rfl (hb hby at_82) ?_
        exact kk
      refine wCallV P1414 (m_offA l Z a0 hw b1386 b1398 b1399 (0 : Int32) N 0 (fun _ => (0 : UInt64)) (fun _ => (0 : Int)) (fun _ => (0 : Int32)) cv (FP.i2d (p2 &&& (255 : Int32))) (0 : Int32) (p2 &&& (255 : Int32)).toInt (1 : Int32) h1411 f1415 F1406 F1407 F1405 F1408 A1409 A1410 (by first | assumption | exact Ne.symm (by assumption) | exact adr_ne (by omega)) (by first | assumption | exact Ne.symm (by assumption) | exact adr_ne (by omega)) q1402 hN2 rfl dK0 (i2d_int (p2 &&& (255 : Int32))) (own_l5 (j := (0 : Int32)) hc5 (by decide)) (by omega) (by decide)) (tw35 hw) (tw36 hw) (tw38 hw) (tw38 hw) (tw37 hw) (tw2 hw) (tw39 hw) (by decide) f1415 (by rw [hml]; rfl) (lenOf pd_5 rfl) (argsL := [(.double (FP.i2d (p2 &&& (255 : Int32)))), (.int (0 : Int32))]) (rest := []) rfl rfl (W := 0) (Nat.le_of_eq rfl) (by decide) (by decide) (by decide) (by decide) (allS (Or.inr ge_b1386) (allS (Or.inr ge_b1398) (allS (Or.inr ge_b1399) all0))) (hb hby at_83) rfl (k' := 3) (n' := 36) rfl rfl ?_
      rintro T1416 h1426 _ P1417 K1427 ⟨rfl, kf1425, F1418, F1419, F1420, F1421, A1422, dK1424, A1423⟩
      have szh1426 : h1411.size ≤ h1426.size := K1427.1
      generalize gK1 : (own_of 0 true (fun _ => (0 : Int)) (fun _ => (0 : Int32)) (p2 &&& (255 : Int32)).toInt (0 : Int32)).1 = K1 at dK1424
      generalize gJ1 : (own_of 0 true (fun _ => (0 : Int)) (fun _ => (0 : Int32)) (p2 &&& (255 : Int32)).toInt (0 : Int32)).2 = J1 at A1423
      show Done _ _ _ _ _ _ _ _ _ _ _ _ _ _ _ T1416 (mkF m 86 _ [])
      refine Done.stepL (pc' := 152) (st' := [(.int cv), (.int (1 : Int32))]) (fun t kk => ?_) ?_
      · show Steps p.tables e below (T1416.setTop (mkF m 86 _ [])) t
        refine XS.iload P1417.here P1417.x rfl (hb hby at_86) rfl ?_
        show Steps p.tables e below (T1416.setTop (mkF m 88 _ [(.int (1 : Int32))])) t
        refine XS.iconst P1417.here P1417.x rfl (hb hby at_88) ?_
        show Steps p.tables e below (T1416.setTop (mkF m 89 _ [(.int (2 : Int32)), (.int (1 : Int32))])) t
        refine XS.icmpYes P1417.here P1417.x rfl (pc0 := 89) (pc' := 107) rfl (hb hby at_89) rfl (iiW_lt_t (by decide)) (by decide) (by decide) ?_
        show Steps p.tables e below (T1416.setTop (mkF m 107 _ [])) t
        refine XS.iload P1417.here P1417.x rfl (hb hby at_107) rfl ?_
        show Steps p.tables e below (T1416.setTop (mkF m 109 _ [(.int (1 : Int32))])) t
        refine XS.iconst P1417.here P1417.x rfl (hb hby at_109) ?_
        show Steps p.tables e below (T1416.setTop (mkF m 110 _ [(.int (3 : Int32)), (.int (1 : Int32))])) t
        refine XS.icmpYes P1417.here P1417.x rfl (pc0 := 110) (pc' := 128) rfl (hb hby at_110) rfl (iiW_lt_t (by decide)) (by decide) (by decide) ?_
        show Steps p.tables e below (T1416.setTop (mkF m 128 _ [])) t
        refine XS.iload P1417.here P1417.x rfl (hb hby at_128) rfl ?_
        show Steps p.tables e below (T1416.setTop (mkF m 130 _ [(.int (1 : Int32))])) t
        refine XS.iconst P1417.here P1417.x rfl (hb hby at_130) ?_
        show Steps p.tables e below (T1416.setTop (mkF m 131 _ [(.int (4 : Int32)), (.int (1 : Int32))])) t
        refine XS.icmpYes P1417.here P1417.x rfl (pc0 := 131) (pc' := 149) rfl (hb hby at_131) rfl (iiW_lt_t (by decide)) (by decide) (by decide) ?_
        show Steps p.tables e below (T1416.setTop (mkF m 149 _ [])) t
        refine XS.iload P1417.here P1417.x rfl (hb hby at_149) rfl ?_
        show Steps p.tables e below (T1416.setTop (mkF m 151 _ [(.int (1 : Int32))])) t
        refine XS.iloadN P1417.here P1417.x rfl (hb hby at_151) rfl ?_
        exact kk
      refine wCallS P1417 (m_minf l Z a0 hw (1 : Int32) cv h1426 (own_m5 (n := (1 : Int32)) hc5 (by decide))) (tw28 hw) (tw12 hw) (tw13 hw) (tw14 hw) (by decide) (by rw [hml]; rfl) (lenOf pd_1 rfl) (argsL := [(.int (1 : Int32)), (.int cv)]) (rest := []) rfl rfl (W := 0) (Nat.le_of_eq rfl) (by decide) (by decide) (by decide) (by decide) (by simp) (hb hby at_152) rfl (k' := 3) (n' := 36) rfl rfl ?_
      rintro T1428 _ _ P1429 - ⟨rfl, rfl⟩
      show Done _ _ _ _ _ _ _ _ _ _ _ _ _ _ _ T1428 (mkF m 155 _ [(.int (1 : Int32))])
      refine Done.step (T' := T1428) (g' := (mkF m 159 #[.val (.int p0), .val (.int p1), .val (.int p2), .val (.int cv), .val (.int (1 : Int32)), .val (.ref b1386), .val (.int (1 : Int32)), .val (.int (1 : Int32)), .unset, .unset] [(.ref b1386)])) (fun t kk => ?_) ?_
      · show Steps p.tables e below (T1428.setTop (mkF m 155 _ [(.int (1 : Int32))])) t
        refine XS.istore P1429.here P1429.x rfl (hb hby at_155) rfl (l' := #[.val (.int p0), .val (.int p1), .val (.int p2), .val (.int cv), .val (.int (1 : Int32)), .val (.ref b1386), .val (.int (1 : Int32)), .val (.int (1 : Int32)), .unset, .unset]) rfl ?_
        show Steps p.tables e below (T1428.setTop (mkF m 157 _ [])) t
        refine XS.aload P1429.here P1429.x rfl (hb hby at_157) rfl rfl ?_
        exact kk
      have f1432 := (f1415.keep K1427)
      refine wCallV P1429 (m_size l Z a0 hw b1386 (1 : Int32) h1426 F1418) (tw29 hw) (tw30 hw) (tw32 hw) (tw32 hw) (tw31 hw) (tw2 hw) (tw33 hw) (by decide) f1432 (by rw [hml]; rfl) (lenOf pd_4 rfl) (argsL := []) (rest := []) rfl rfl (W := 0) (Nat.le_of_eq rfl) (by decide) (by decide) (by decide) (by decide) (by simp) (hb hby at_159) rfl (k' := 3) (n' := 36) rfl rfl ?_
      rintro T1430 _ _ P1431 - ⟨rfl, rfl⟩
      show Done _ _ _ _ _ _ _ _ _ _ _ _ _ _ _ T1430 (mkF m 162 _ [(.int (1 : Int32))])
      refine Done.step (T' := T1430) (g' := (mkF m 176 #[.val (.int p0), .val (.int p1), .val (.int p2), .val (.int cv), .val (.int (1 : Int32)), .val (.ref b1386), .val (.int (1 : Int32)), .val (.int (1 : Int32)), .val (.int (1 : Int32)), .unset] [(.ref b1386)])) (fun t kk => ?_) ?_
      · show Steps p.tables e below (T1430.setTop (mkF m 162 _ [(.int (1 : Int32))])) t
        refine XS.iload P1431.here P1431.x rfl (hb hby at_162) rfl ?_
        show Steps p.tables e below (T1430.setTop (mkF m 164 _ [(.int (1 : Int32)), (.int (1 : Int32))])) t
        refine XS.icmpNo P1431.here P1431.x rfl (hb hby at_164) rfl (iiW_ne_f (by decide)) ?_
        show Steps p.tables e below (T1430.setTop (mkF m 167 _ [])) t
        refine XS.iconst P1431.here P1431.x rfl (hb hby at_167) ?_
        show Steps p.tables e below (T1430.setTop (mkF m 168 _ [(.int (1 : Int32))])) t
        refine XS.goto P1431.here P1431.x rfl (pc0 := 168) (pc' := 172) rfl (hb hby at_168) (by decide) (by decide) ?_
        show Steps p.tables e below (T1430.setTop (mkF m 172 _ [(.int (1 : Int32))])) t
        refine XS.istore P1431.here P1431.x rfl (hb hby at_172) rfl (l' := #[.val (.int p0), .val (.int p1), .val (.int p2), .val (.int cv), .val (.int (1 : Int32)), .val (.ref b1386), .val (.int (1 : Int32)), .val (.int (1 : Int32)), .val (.int (1 : Int32)), .unset]) rfl ?_
        show Steps p.tables e below (T1430.setTop (mkF m 174 _ [])) t
        refine XS.aload P1431.here P1431.x rfl (hb hby at_174) rfl rfl ?_
        exact kk
      refine wCallV P1431 (m_isFullf l Z a0 hw b1386 (1 : Int32) cv h1426 F1418 F1421 (own_n5 (1 : Int32) hc5 (by decide))) (tw21 hw) (tw22 hw) (tw24 hw) (tw24 hw) (tw23 hw) (tw2 hw) (tw25 hw) (by decide) f1432 (by rw [hml]; rfl) (lenOf pd_3 rfl) (argsL := []) (rest := []) rfl rfl (W := 0) (Nat.le_of_eq rfl) (by decide) (by decide) (by decide) (by decide) (by simp) (hb hby at_176) rfl (k' := 3) (n' := 36) rfl rfl ?_
      rintro T1433 _ _ P1434 - ⟨rfl, rfl⟩
      show Done _ _ _ _ _ _ _ _ _ _ _ _ _ _ _ T1433 (mkF m 179 _ [(.int (0 : Int32))])
      refine Done.step (T' := T1433) (g' := (mkF m 220 #[.val (.int p0), .val (.int p1), .val (.int p2), .val (.int cv), .val (.int (1 : Int32)), .val (.ref b1386), .val (.int (1 : Int32)), .val (.int (1 : Int32)), .val (.int (1 : Int32)), .val (.int (1 : Int32))] [(.int (1 : Int32))])) (fun t kk => ?_) ?_
      · show Steps p.tables e below (T1433.setTop (mkF m 179 _ [(.int (0 : Int32))])) t
        refine XS.iload P1434.here P1434.x rfl (hb hby at_179) rfl ?_
        show Steps p.tables e below (T1433.setTop (mkF m 181 _ [(.int (1 : Int32)), (.int (0 : Int32))])) t
        refine XS.iloadN P1434.here P1434.x rfl (hb hby at_181) rfl ?_
        show Steps p.tables e below (T1433.setTop (mkF m 182 _ [(.int cv), (.int (1 : Int32)), (.int (0 : Int32))])) t
        refine XS.icmpYes P1434.here P1434.x rfl (pc0 := 182) (pc' := 189) rfl (hb hby at_182) rfl (iiW_ne_t (own_n5 (1 : Int32) hc5 (by decide))) (by decide) (by decide) ?_
        show Steps p.tables e below (T1433.setTop (mkF m 189 _ [(.int (0 : Int32))])) t
        refine XS.iconst P1434.here P1434.x rfl (hb hby at_189) ?_
        show Steps p.tables e below (T1433.setTop (mkF m 190 _ [(.int (0 : Int32)), (.int (0 : Int32))])) t
        refine XS.icmpNo P1434.here P1434.x rfl (hb hby at_190) rfl (iiW_ne_f (by decide)) ?_
        show Steps p.tables e below (T1433.setTop (mkF m 193 _ [])) t
        refine XS.iconst P1434.here P1434.x rfl (hb hby at_193) ?_
        show Steps p.tables e below (T1433.setTop (mkF m 194 _ [(.int (1 : Int32))])) t
        refine XS.goto P1434.here P1434.x rfl (pc0 := 194) (pc' := 198) rfl (hb hby at_194) (by decide) (by decide) ?_
        show Steps p.tables e below (T1433.setTop (mkF m 198 _ [(.int (1 : Int32))])) t
        refine XS.istore P1434.here P1434.x rfl (hb hby at_198) rfl (l' := #[.val (.int p0), .val (.int p1), .val (.int p2), .val (.int cv), .val (.int (1 : Int32)), .val (.ref b1386), .val (.int (1 : Int32)), .val (.int (1 : Int32)), .val (.int (1 : Int32)), .val (.int (1 : Int32))]) rfl ?_
        show Steps p.tables e below (T1433.setTop (mkF m 200 _ [])) t
        refine XS.iload P1434.here P1434.x rfl (hb hby at_200) rfl ?_
        show Steps p.tables e below (T1433.setTop (mkF m 202 _ [(.int (1 : Int32))])) t
        refine XS.ifNo P1434.here P1434.x rfl (hb hby at_202) rfl (i0W_eq_f (by decide)) ?_
        show Steps p.tables e below (T1433.setTop (mkF m 205 _ [])) t
        refine XS.iload P1434.here P1434.x rfl (hb hby at_205) rfl ?_
        show Steps p.tables e below (T1433.setTop (mkF m 207 _ [(.int (1 : Int32))])) t
        refine XS.ifNo P1434.here P1434.x rfl (hb hby at_207) rfl (i0W_eq_f (by decide)) ?_
        show Steps p.tables e below (T1433.setTop (mkF m 210 _ [])) t
        refine XS.iload P1434.here P1434.x rfl (hb hby at_210) rfl ?_
        show Steps p.tables e below (T1433.setTop (mkF m 212 _ [(.int (1 : Int32))])) t
        refine XS.ifNo P1434.here P1434.x rfl (hb hby at_212) rfl (i0W_eq_f (by decide)) ?_
        show Steps p.tables e below (T1433.setTop (mkF m 215 _ [])) t
        refine XS.iconst P1434.here P1434.x rfl (hb hby at_215) ?_
        show Steps p.tables e below (T1433.setTop (mkF m 216 _ [(.int (1 : Int32))])) t
        refine XS.goto P1434.here P1434.x rfl (pc0 := 216) (pc' := 220) rfl (hb hby at_216) (by decide) (by decide) ?_
        exact kk
      exact wRet P1434 (t := .boolean) hret (narrow_01 (Or.inr rfl)) (Or.inl ⟨rfl, Or.inr (Or.inl rfl), _, rfl⟩) (hb hby at_220) rfl
    · show Done _ _ _ _ _ _ _ _ _ _ _ _ _ _ _ T0 (mkF m 34 _ [])
      refine wNew P0 (tw0 hw) (tw1 hw) (tw2 hw) (hb hby at_34) rfl (by decide) (by decide) (k' := 1) (n' := 4) rfl rfl (fun T1435 h1437 b1438 g1439 lt1440 P1436 E1441 X1442 D1443 => ?_)
      have ge_b1438 : h0.size ≤ b1438 := by have := P0.ge; omega
      have F1444 : Fld Z h1437 b1438 "com/example/urnwise/urnwise/sampler/SmallestKeys" "capacity" "I" (.int (0 : Int32)) := D1443 (Or.inr (tw10 hw)) (ty := .int) (by decide)
      have F1445 : Fld Z h1437 b1438 "com/example/urnwise/urnwise/sampler/SmallestKeys" "keys" "[D" .null := D1443 (Or.inl (tw17 hw)) (ty := (.array .double)) (by decide)
      have F1446 : Fld Z h1437 b1438 "com/example/urnwise/urnwise/sampler/SmallestKeys" "indices" "[I" .null := D1443 (Or.inl (tw20 hw)) (ty := (.array .int)) (by decide)
      have F1447 : Fld Z h1437 b1438 "com/example/urnwise/urnwise/sampler/SmallestKeys" "size" "I" (.int (0 : Int32)) := D1443 (Or.inl (tw27 hw)) (ty := .int) (by decide)
      show Done _ _ _ _ _ _ _ _ _ _ _ _ _ _ _ T1435 (mkF m 37 _ [(.ref b1438)])
      refine Done.stepL (pc' := 39) (st' := [(.int cv), (.ref b1438), (.ref b1438)]) (fun t kk => ?_) ?_
      · show Steps p.tables e below (T1435.setTop (mkF m 37 _ [(.ref b1438)])) t
        refine XS.dup P1436.here P1436.x rfl (hb hby at_37) rfl rfl ?_
        show Steps p.tables e below (T1435.setTop (mkF m 38 _ [(.ref b1438), (.ref b1438)])) t
        refine XS.iloadN P1436.here P1436.x rfl (hb hby at_38) rfl ?_
        exact kk
      refine wCallI P1436 (m_hpInit l Z a0 hw b1438 cv N h1437 X1442 F1444 F1445 F1446 hN1 hN2 F1447) rfl (tw3 hw) (tw4 hw) (tw2 hw) (tw5 hw) (by decide) (a := b1438) (by rw [hml]; rfl) (lenOf pd_2 rfl) (argsL := [(.int cv)]) (rest := [(.ref b1438)]) rfl rfl (W := 1) (Nat.le_of_eq rfl) (by decide) (by decide) (by decide) (by decide) (allS (Or.inr ge_b1438) all0) (hb hby at_39) rfl (k' := 3) (n' := 36) rfl rfl ?_
      rintro T1448 h1463 _ P1449 K1464 ⟨rfl, b1450, b1451, q1452, q1453, q1454, q1455, q1456, F1457, F1458, F1459, F1460, A1461, A1462⟩
      have szh1463 : h1437.size ≤ h1463.size := K1464.1
      have ge_b1450 : h0.size ≤ b1450 := by have := q1452; have := P1436.ge; omega
      have ge_b1451 : h0.size ≤ b1451 := by have := q1453; have := P1436.ge; omega
      have dK0 : ∀ i, i < N → DInt ((fun _ => (0 : Int)) i) ((fun _ => (0 : UInt64)) i) := fun i _ => dint_c0
      show Done _ _ _ _ _ _ _ _ _ _ _ _ _ _ _ T1448 (mkF m 42 _ [(.ref b1438)])
      refine Done.step (T' := T1448) (g' := (mkF m 46 #[.val (.int p0), .val (.int p1), .val (.int p2), .val (.int cv), .val (.int (2 : Int32)), .val (.ref b1438), .unset, .unset, .unset, .unset] [(.ref b1438)])) (fun t kk => ?_) ?_
      · show Steps p.tables e below (T1448.setTop (mkF m 42 _ [(.ref b1438)])) t
        refine XS.astore P1449.here P1449.x rfl (hb hby at_42) rfl rfl (l' := #[.val (.int p0), .val (.int p1), .val (.int p2), .val (.int cv), .val (.int (2 : Int32)), .val (.ref b1438), .unset, .unset, .unset, .unset]) rfl ?_
        show Steps p.tables e below (T1448.setTop (mkF m 44 _ [])) t
        refine XS.aload P1449.here P1449.x rfl (hb hby at_44) rfl rfl ?_
        exact kk
      have f1467 := (X1442.keep K1464)
      refine wCallV P1449 (m_isFullf l Z a0 hw b1438 (0 : Int32) cv h1463 F1457 F1460 (own_n5 (0 : Int32) hc5 (by decide))) (tw21 hw) (tw22 hw) (tw24 hw) (tw24 hw) (tw23 hw) (tw2 hw) (tw25 hw) (by decide) f1467 (by rw [hml]; rfl) (lenOf pd_3 rfl) (argsL := []) (rest := []) rfl rfl (W := 0) (Nat.le_of_eq rfl) (by decide) (by decide) (by decide) (by decide) (by simp) (hb hby at_46) rfl (k' := 3) (n' := 36) rfl rfl ?_
      rintro T1465 _ _ P1466 - ⟨rfl, rfl⟩
      show Done _ _ _ _ _ _ _ _ _ _ _ _ _ _ _ T1465 (mkF m 49 _ [(.int (0 : Int32))])
      refine Done.step (T' := T1465) (g' := (mkF m 83 #[.val (.int p0), .val (.int p1), .val (.int p2), .val (.int cv), .val (.int (2 : Int32)), .val (.ref b1438), .val (.int (1 : Int32)), .unset, .unset, .unset] [(.int (0 : Int32)), (.double (FP.i2d (p2 &&& (255 : Int32)))), (.ref b1438)])) (fun t kk => ?_) ?_
      · show Steps p.tables e below (T1465.setTop (mkF m 49 _ [(.int (0 : Int32))])) t
        refine XS.iloadN P1466.here P1466.x rfl (hb hby at_49) rfl ?_
        show Steps p.tables e below (T1465.setTop (mkF m 50 _ [(.int cv), (.int (0 : Int32))])) t
        refine XS.ifYes P1466.here P1466.x rfl (pc0 := 50) (pc' := 57) rfl (hb hby at_50) rfl (i0W_ne_t (fun z => own_n5 (0 : Int32) hc5 (by decide) z.symm)) (by decide) (by decide) ?_
        show Steps p.tables e below (T1465.setTop (mkF m 57 _ [(.int (0 : Int32))])) t
        refine XS.iconst P1466.here P1466.x rfl (hb hby at_57) ?_
        show Steps p.tables e below (T1465.setTop (mkF m 58 _ [(.int (0 : Int32)), (.int (0 : Int32))])) t
        refine XS.icmpNo P1466.here P1466.x rfl (hb hby at_58) rfl (iiW_ne_f (by decide)) ?_
        show Steps p.tables e below (T1465.setTop (mkF m 61 _ [])) t
        refine XS.iconst P1466.here P1466.x rfl (hb hby at_61) ?_
        show Steps p.tables e below (T1465.setTop (mkF m 62 _ [(.int (1 : Int32))])) t
        refine XS.goto P1466.here P1466.x rfl (pc0 := 62) (pc' := 66) rfl (hb hby at_62) (by decide) (by decide) ?_
        show Steps p.tables e below (T1465.setTop (mkF m 66 _ [(.int (1 : Int32))])) t
        refine XS.istore P1466.here P1466.x rfl (hb hby at_66) rfl (l' := #[.val (.int p0), .val (.int p1), .val (.int p2), .val (.int cv), .val (.int (2 : Int32)), .val (.ref b1438), .val (.int (1 : Int32)), .unset, .unset, .unset]) rfl ?_
        show Steps p.tables e below (T1465.setTop (mkF m 68 _ [])) t
        refine XS.iload P1466.here P1466.x rfl (hb hby at_68) rfl ?_
        show Steps p.tables e below (T1465.setTop (mkF m 70 _ [(.int (2 : Int32))])) t
        refine XS.iconst P1466.here P1466.x rfl (hb hby at_70) ?_
        show Steps p.tables e below (T1465.setTop (mkF m 71 _ [(.int (1 : Int32)), (.int (2 : Int32))])) t
        refine XS.icmpNo P1466.here P1466.x rfl (hb hby at_71) rfl (iiW_lt_f (by decide)) ?_
        show Steps p.tables e below (T1465.setTop (mkF m 74 _ [])) t
        refine XS.aload P1466.here P1466.x rfl (hb hby at_74) rfl rfl ?_
        show Steps p.tables e below (T1465.setTop (mkF m 76 _ [(.ref b1438)])) t
        refine XS.iloadN P1466.here P1466.x rfl (hb hby at_76) rfl ?_
        show Steps p.tables e below (T1465.setTop (mkF m 77 _ [(.int p2), (.ref b1438)])) t
        refine XS.sipush P1466.here P1466.x rfl (hb hby at_77) ?_
        show Steps p.tables e below (T1465.setTop (mkF m 80 _ [(.int (255 : Int32)), (.int p2), (.ref b1438)])) t
        refine XS.iand P1466.here P1466.x rfl (hb hby at_80) rfl ?_
        show Steps p.tables e below (T1465.setTop (mkF m 81 _ [(.int (p2 &&& (255 : Int32))), (.ref b1438)])) t
        refine XS.i2dS P1466.here P1466.x rfl (hb hby at_81) rfl rfl ?_
        show Steps p.tables e below (T1465.setTop (mkF m 82 _ [(.double (FP.i2d (p2 &&& (255 : Int32)))), (.ref b1438)])) t
        refine XS.iconst P1466.here P1466.x rfl (hb hby at_82) ?_
        exact kk
      refine wCallV P1466 (m_offA l Z a0 hw b1438 b1450 b1451 (0 : Int32) N 0 (fun _ => (0 : UInt64)) (fun _ => (0 : Int)) (fun _ => (0 : Int32)) cv (FP.i2d (p2 &&& (255 : Int32))) (0 : Int32) (p2 &&& (255 : Int32)).toInt (1 : Int32) h1463 f1467 F1458 F1459 F1457 F1460 A1461 A1462 (by first | assumption | exact Ne.symm (by assumption) | exact adr_ne (by omega)) (by first | assumption | exact Ne.symm (by assumption) | exact adr_ne (by omega)) q1454 hN2 rfl dK0 (i2d_int (p2 &&& (255 : Int32))) (own_l5 (j := (0 : Int32)) hc5 (by decide)) (by omega) (by decide)) (tw35 hw) (tw36 hw) (tw38 hw) (tw38 hw) (tw37 hw) (tw2 hw) (tw39 hw) (by decide) f1467 (by rw [hml]; rfl) (lenOf pd_5 rfl) (argsL := [(.double (FP.i2d (p2 &&& (255 : Int32)))), (.int (0 : Int32))]) (rest := []) rfl rfl (W := 0) (Nat.le_of_eq rfl) (by decide) (by decide) (by decide) (by decide) (allS (Or.inr ge_b1438) (allS (Or.inr ge_b1450) (allS (Or.inr ge_b1451) all0))) (hb hby at_83) rfl (k' := 3) (n' := 36) rfl rfl ?_
      rintro T1468 h1478 _ P1469 K1479 ⟨rfl, kf1477, F1470, F1471, F1472, F1473, A1474, dK1476, A1475⟩
      have szh1478 : h1463.size ≤ h1478.size := K1479.1
      generalize gK1 : (own_of 0 true (fun _ => (0 : Int)) (fun _ => (0 : Int32)) (p2 &&& (255 : Int32)).toInt (0 : Int32)).1 = K1 at dK1476
      generalize gJ1 : (own_of 0 true (fun _ => (0 : Int)) (fun _ => (0 : Int32)) (p2 &&& (255 : Int32)).toInt (0 : Int32)).2 = J1 at A1475
      show Done _ _ _ _ _ _ _ _ _ _ _ _ _ _ _ T1468 (mkF m 86 _ [])
      refine Done.stepL (pc' := 104) (st' := [(.int (1 : Int32)), (.double (FP.i2d (((p2.toUInt32 >>> ((8 : Int32) &&& 31).toUInt32).toInt32) &&& (255 : Int32)))), (.ref b1438)]) (fun t kk => ?_) ?_
      · show Steps p.tables e below (T1468.setTop (mkF m 86 _ [])) t
        refine XS.iload P1469.here P1469.x rfl (hb hby at_86) rfl ?_
        show Steps p.tables e below (T1468.setTop (mkF m 88 _ [(.int (2 : Int32))])) t
        refine XS.iconst P1469.here P1469.x rfl (hb hby at_88) ?_
        show Steps p.tables e below (T1468.setTop (mkF m 89 _ [(.int (2 : Int32)), (.int (2 : Int32))])) t
        refine XS.icmpNo P1469.here P1469.x rfl (hb hby at_89) rfl (iiW_lt_f (by decide)) ?_
        show Steps p.tables e below (T1468.setTop (mkF m 92 _ [])) t
        refine XS.aload P1469.here P1469.x rfl (hb hby at_92) rfl rfl ?_
        show Steps p.tables e below (T1468.setTop (mkF m 94 _ [(.ref b1438)])) t
        refine XS.iloadN P1469.here P1469.x rfl (hb hby at_94) rfl ?_
        show Steps p.tables e below (T1468.setTop (mkF m 95 _ [(.int p2), (.ref b1438)])) t
        refine XS.bipush P1469.here P1469.x rfl (hb hby at_95) ?_
        show Steps p.tables e below (T1468.setTop (mkF m 97 _ [(.int (8 : Int32)), (.int p2), (.ref b1438)])) t
        refine XS.iushr P1469.here P1469.x rfl (hb hby at_97) rfl ?_
        show Steps p.tables e below (T1468.setTop (mkF m 98 _ [(.int ((p2.toUInt32 >>> ((8 : Int32) &&& 31).toUInt32).toInt32)), (.ref b1438)])) t
        refine XS.sipush P1469.here P1469.x rfl (hb hby at_98) ?_
        show Steps p.tables e below (T1468.setTop (mkF m 101 _ [(.int (255 : Int32)), (.int ((p2.toUInt32 >>> ((8 : Int32) &&& 31).toUInt32).toInt32)), (.ref b1438)])) t
        refine XS.iand P1469.here P1469.x rfl (hb hby at_101) rfl ?_
        show Steps p.tables e below (T1468.setTop (mkF m 102 _ [(.int (((p2.toUInt32 >>> ((8 : Int32) &&& 31).toUInt32).toInt32) &&& (255 : Int32))), (.ref b1438)])) t
        refine XS.i2dS P1469.here P1469.x rfl (hb hby at_102) rfl rfl ?_
        show Steps p.tables e below (T1468.setTop (mkF m 103 _ [(.double (FP.i2d (((p2.toUInt32 >>> ((8 : Int32) &&& 31).toUInt32).toInt32) &&& (255 : Int32)))), (.ref b1438)])) t
        refine XS.iconst P1469.here P1469.x rfl (hb hby at_103) ?_
        exact kk
      have f1490 := (f1467.keep K1479)
      refine wCallV P1469 (m_offA l Z a0 hw b1438 b1450 b1451 (1 : Int32) N 1 kf1477 K1 J1 cv (FP.i2d (((p2.toUInt32 >>> ((8 : Int32) &&& 31).toUInt32).toInt32) &&& (255 : Int32))) (1 : Int32) (((p2.toUInt32 >>> ((8 : Int32) &&& 31).toUInt32).toInt32) &&& (255 : Int32)).toInt (2 : Int32) h1478 f1490 F1471 F1472 F1470 F1473 A1474 A1475 (by first | assumption | exact Ne.symm (by assumption) | exact adr_ne (by omega)) (by first | assumption | exact Ne.symm (by assumption) | exact adr_ne (by omega)) q1454 hN2 rfl dK1476 (i2d_int (((p2.toUInt32 >>> ((8 : Int32) &&& 31).toUInt32).toInt32) &&& (255 : Int32))) (own_l5 (j := (1 : Int32)) hc5 (by decide)) (by omega) (by decide)) (tw35 hw) (tw36 hw) (tw38 hw) (tw38 hw) (tw37 hw) (tw2 hw) (tw39 hw) (by decide) f1490 (by rw [hml]; rfl) (lenOf pd_5 rfl) (argsL := [(.double (FP.i2d (((p2.toUInt32 >>> ((8 : Int32) &&& 31).toUInt32).toInt32) &&& (255 : Int32)))), (.int (1 : Int32))]) (rest := []) rfl rfl (W := 0) (Nat.le_of_eq rfl) (by decide) (by decide) (by decide) (by decide) (allS (Or.inr ge_b1438) (allS (Or.inr ge_b1450) (allS (Or.inr ge_b1451) all0))) (hb hby at_104) rfl (k' := 3) (n' := 36) rfl rfl ?_
      rintro T1480 h1491 _ P1481 K1492 ⟨rfl, kf1489, F1482, F1483, F1484, F1485, A1486, dK1488, A1487⟩
      have szh1491 : h1478.size ≤ h1491.size := K1492.1
      generalize gK2 : (own_of 1 true K1 J1 (((p2.toUInt32 >>> ((8 : Int32) &&& 31).toUInt32).toInt32) &&& (255 : Int32)).toInt (1 : Int32)).1 = K2 at dK1488
      generalize gJ2 : (own_of 1 true K1 J1 (((p2.toUInt32 >>> ((8 : Int32) &&& 31).toUInt32).toInt32) &&& (255 : Int32)).toInt (1 : Int32)).2 = J2 at A1487
      show Done _ _ _ _ _ _ _ _ _ _ _ _ _ _ _ T1480 (mkF m 107 _ [])
      refine Done.stepL (pc' := 152) (st' := [(.int cv), (.int (2 : Int32))]) (fun t kk => ?_) ?_
      · show Steps p.tables e below (T1480.setTop (mkF m 107 _ [])) t
        refine XS.iload P1481.here P1481.x rfl (hb hby at_107) rfl ?_
        show Steps p.tables e below (T1480.setTop (mkF m 109 _ [(.int (2 : Int32))])) t
        refine XS.iconst P1481.here P1481.x rfl (hb hby at_109) ?_
        show Steps p.tables e below (T1480.setTop (mkF m 110 _ [(.int (3 : Int32)), (.int (2 : Int32))])) t
        refine XS.icmpYes P1481.here P1481.x rfl (pc0 := 110) (pc' := 128) rfl (hb hby at_110) rfl (iiW_lt_t (by decide)) (by decide) (by decide) ?_
        show Steps p.tables e below (T1480.setTop (mkF m 128 _ [])) t
        refine XS.iload P1481.here P1481.x rfl (hb hby at_128) rfl ?_
        show Steps p.tables e below (T1480.setTop (mkF m 130 _ [(.int (2 : Int32))])) t
        refine XS.iconst P1481.here P1481.x rfl (hb hby at_130) ?_
        show Steps p.tables e below (T1480.setTop (mkF m 131 _ [(.int (4 : Int32)), (.int (2 : Int32))])) t
        refine XS.icmpYes P1481.here P1481.x rfl (pc0 := 131) (pc' := 149) rfl (hb hby at_131) rfl (iiW_lt_t (by decide)) (by decide) (by decide) ?_
        show Steps p.tables e below (T1480.setTop (mkF m 149 _ [])) t
        refine XS.iload P1481.here P1481.x rfl (hb hby at_149) rfl ?_
        show Steps p.tables e below (T1480.setTop (mkF m 151 _ [(.int (2 : Int32))])) t
        refine XS.iloadN P1481.here P1481.x rfl (hb hby at_151) rfl ?_
        exact kk
      refine wCallS P1481 (m_minf l Z a0 hw (2 : Int32) cv h1491 (own_m5 (n := (2 : Int32)) hc5 (by decide))) (tw28 hw) (tw12 hw) (tw13 hw) (tw14 hw) (by decide) (by rw [hml]; rfl) (lenOf pd_1 rfl) (argsL := [(.int (2 : Int32)), (.int cv)]) (rest := []) rfl rfl (W := 0) (Nat.le_of_eq rfl) (by decide) (by decide) (by decide) (by decide) (by simp) (hb hby at_152) rfl (k' := 3) (n' := 36) rfl rfl ?_
      rintro T1493 _ _ P1494 - ⟨rfl, rfl⟩
      show Done _ _ _ _ _ _ _ _ _ _ _ _ _ _ _ T1493 (mkF m 155 _ [(.int (2 : Int32))])
      refine Done.step (T' := T1493) (g' := (mkF m 159 #[.val (.int p0), .val (.int p1), .val (.int p2), .val (.int cv), .val (.int (2 : Int32)), .val (.ref b1438), .val (.int (1 : Int32)), .val (.int (2 : Int32)), .unset, .unset] [(.ref b1438)])) (fun t kk => ?_) ?_
      · show Steps p.tables e below (T1493.setTop (mkF m 155 _ [(.int (2 : Int32))])) t
        refine XS.istore P1494.here P1494.x rfl (hb hby at_155) rfl (l' := #[.val (.int p0), .val (.int p1), .val (.int p2), .val (.int cv), .val (.int (2 : Int32)), .val (.ref b1438), .val (.int (1 : Int32)), .val (.int (2 : Int32)), .unset, .unset]) rfl ?_
        show Steps p.tables e below (T1493.setTop (mkF m 157 _ [])) t
        refine XS.aload P1494.here P1494.x rfl (hb hby at_157) rfl rfl ?_
        exact kk
      have f1497 := (f1490.keep K1492)
      refine wCallV P1494 (m_size l Z a0 hw b1438 (2 : Int32) h1491 F1482) (tw29 hw) (tw30 hw) (tw32 hw) (tw32 hw) (tw31 hw) (tw2 hw) (tw33 hw) (by decide) f1497 (by rw [hml]; rfl) (lenOf pd_4 rfl) (argsL := []) (rest := []) rfl rfl (W := 0) (Nat.le_of_eq rfl) (by decide) (by decide) (by decide) (by decide) (by simp) (hb hby at_159) rfl (k' := 3) (n' := 36) rfl rfl ?_
      rintro T1495 _ _ P1496 - ⟨rfl, rfl⟩
      show Done _ _ _ _ _ _ _ _ _ _ _ _ _ _ _ T1495 (mkF m 162 _ [(.int (2 : Int32))])
      refine Done.step (T' := T1495) (g' := (mkF m 176 #[.val (.int p0), .val (.int p1), .val (.int p2), .val (.int cv), .val (.int (2 : Int32)), .val (.ref b1438), .val (.int (1 : Int32)), .val (.int (2 : Int32)), .val (.int (1 : Int32)), .unset] [(.ref b1438)])) (fun t kk => ?_) ?_
      · show Steps p.tables e below (T1495.setTop (mkF m 162 _ [(.int (2 : Int32))])) t
        refine XS.iload P1496.here P1496.x rfl (hb hby at_162) rfl ?_
        show Steps p.tables e below (T1495.setTop (mkF m 164 _ [(.int (2 : Int32)), (.int (2 : Int32))])) t
        refine XS.icmpNo P1496.here P1496.x rfl (hb hby at_164) rfl (iiW_ne_f (by decide)) ?_
        show Steps p.tables e below (T1495.setTop (mkF m 167 _ [])) t
        refine XS.iconst P1496.here P1496.x rfl (hb hby at_167) ?_
        show Steps p.tables e below (T1495.setTop (mkF m 168 _ [(.int (1 : Int32))])) t
        refine XS.goto P1496.here P1496.x rfl (pc0 := 168) (pc' := 172) rfl (hb hby at_168) (by decide) (by decide) ?_
        show Steps p.tables e below (T1495.setTop (mkF m 172 _ [(.int (1 : Int32))])) t
        refine XS.istore P1496.here P1496.x rfl (hb hby at_172) rfl (l' := #[.val (.int p0), .val (.int p1), .val (.int p2), .val (.int cv), .val (.int (2 : Int32)), .val (.ref b1438), .val (.int (1 : Int32)), .val (.int (2 : Int32)), .val (.int (1 : Int32)), .unset]) rfl ?_
        show Steps p.tables e below (T1495.setTop (mkF m 174 _ [])) t
        refine XS.aload P1496.here P1496.x rfl (hb hby at_174) rfl rfl ?_
        exact kk
      refine wCallV P1496 (m_isFullf l Z a0 hw b1438 (2 : Int32) cv h1491 F1482 F1485 (own_n5 (2 : Int32) hc5 (by decide))) (tw21 hw) (tw22 hw) (tw24 hw) (tw24 hw) (tw23 hw) (tw2 hw) (tw25 hw) (by decide) f1497 (by rw [hml]; rfl) (lenOf pd_3 rfl) (argsL := []) (rest := []) rfl rfl (W := 0) (Nat.le_of_eq rfl) (by decide) (by decide) (by decide) (by decide) (by simp) (hb hby at_176) rfl (k' := 3) (n' := 36) rfl rfl ?_
      rintro T1498 _ _ P1499 - ⟨rfl, rfl⟩
      show Done _ _ _ _ _ _ _ _ _ _ _ _ _ _ _ T1498 (mkF m 179 _ [(.int (0 : Int32))])
      refine Done.step (T' := T1498) (g' := (mkF m 220 #[.val (.int p0), .val (.int p1), .val (.int p2), .val (.int cv), .val (.int (2 : Int32)), .val (.ref b1438), .val (.int (1 : Int32)), .val (.int (2 : Int32)), .val (.int (1 : Int32)), .val (.int (1 : Int32))] [(.int (1 : Int32))])) (fun t kk => ?_) ?_
      · show Steps p.tables e below (T1498.setTop (mkF m 179 _ [(.int (0 : Int32))])) t
        refine XS.iload P1499.here P1499.x rfl (hb hby at_179) rfl ?_
        show Steps p.tables e below (T1498.setTop (mkF m 181 _ [(.int (2 : Int32)), (.int (0 : Int32))])) t
        refine XS.iloadN P1499.here P1499.x rfl (hb hby at_181) rfl ?_
        show Steps p.tables e below (T1498.setTop (mkF m 182 _ [(.int cv), (.int (2 : Int32)), (.int (0 : Int32))])) t
        refine XS.icmpYes P1499.here P1499.x rfl (pc0 := 182) (pc' := 189) rfl (hb hby at_182) rfl (iiW_ne_t (own_n5 (2 : Int32) hc5 (by decide))) (by decide) (by decide) ?_
        show Steps p.tables e below (T1498.setTop (mkF m 189 _ [(.int (0 : Int32))])) t
        refine XS.iconst P1499.here P1499.x rfl (hb hby at_189) ?_
        show Steps p.tables e below (T1498.setTop (mkF m 190 _ [(.int (0 : Int32)), (.int (0 : Int32))])) t
        refine XS.icmpNo P1499.here P1499.x rfl (hb hby at_190) rfl (iiW_ne_f (by decide)) ?_
        show Steps p.tables e below (T1498.setTop (mkF m 193 _ [])) t
        refine XS.iconst P1499.here P1499.x rfl (hb hby at_193) ?_
        show Steps p.tables e below (T1498.setTop (mkF m 194 _ [(.int (1 : Int32))])) t
        refine XS.goto P1499.here P1499.x rfl (pc0 := 194) (pc' := 198) rfl (hb hby at_194) (by decide) (by decide) ?_
        show Steps p.tables e below (T1498.setTop (mkF m 198 _ [(.int (1 : Int32))])) t
        refine XS.istore P1499.here P1499.x rfl (hb hby at_198) rfl (l' := #[.val (.int p0), .val (.int p1), .val (.int p2), .val (.int cv), .val (.int (2 : Int32)), .val (.ref b1438), .val (.int (1 : Int32)), .val (.int (2 : Int32)), .val (.int (1 : Int32)), .val (.int (1 : Int32))]) rfl ?_
        show Steps p.tables e below (T1498.setTop (mkF m 200 _ [])) t
        refine XS.iload P1499.here P1499.x rfl (hb hby at_200) rfl ?_
        show Steps p.tables e below (T1498.setTop (mkF m 202 _ [(.int (1 : Int32))])) t
        refine XS.ifNo P1499.here P1499.x rfl (hb hby at_202) rfl (i0W_eq_f (by decide)) ?_
        show Steps p.tables e below (T1498.setTop (mkF m 205 _ [])) t
        refine XS.iload P1499.here P1499.x rfl (hb hby at_205) rfl ?_
        show Steps p.tables e below (T1498.setTop (mkF m 207 _ [(.int (1 : Int32))])) t
        refine XS.ifNo P1499.here P1499.x rfl (hb hby at_207) rfl (i0W_eq_f (by decide)) ?_
        show Steps p.tables e below (T1498.setTop (mkF m 210 _ [])) t
        refine XS.iload P1499.here P1499.x rfl (hb hby at_210) rfl ?_
        show Steps p.tables e below (T1498.setTop (mkF m 212 _ [(.int (1 : Int32))])) t
        refine XS.ifNo P1499.here P1499.x rfl (hb hby at_212) rfl (i0W_eq_f (by decide)) ?_
        show Steps p.tables e below (T1498.setTop (mkF m 215 _ [])) t
        refine XS.iconst P1499.here P1499.x rfl (hb hby at_215) ?_
        show Steps p.tables e below (T1498.setTop (mkF m 216 _ [(.int (1 : Int32))])) t
        refine XS.goto P1499.here P1499.x rfl (pc0 := 216) (pc' := 220) rfl (hb hby at_216) (by decide) (by decide) ?_
        exact kk
      exact wRet P1499 (t := .boolean) hret (narrow_01 (Or.inr rfl)) (Or.inl ⟨rfl, Or.inr (Or.inl rfl), _, rfl⟩) (hb hby at_220) rfl
    · show Done _ _ _ _ _ _ _ _ _ _ _ _ _ _ _ T0 (mkF m 34 _ [])
      refine wNew P0 (tw0 hw) (tw1 hw) (tw2 hw) (hb hby at_34) rfl (by decide) (by decide) (k' := 1) (n' := 4) rfl rfl (fun T1500 h1502 b1503 g1504 lt1505 P1501 E1506 X1507 D1508 => ?_)
      have ge_b1503 : h0.size ≤ b1503 := by have := P0.ge; omega
      have F1509 : Fld Z h1502 b1503 "com/example/urnwise/urnwise/sampler/SmallestKeys" "capacity" "I" (.int (0 : Int32)) := D1508 (Or.inr (tw10 hw)) (ty := .int) (by decide)
      have F1510 : Fld Z h1502 b1503 "com/example/urnwise/urnwise/sampler/SmallestKeys" "keys" "[D" .null := D1508 (Or.inl (tw17 hw)) (ty := (.array .double)) (by decide)
      have F1511 : Fld Z h1502 b1503 "com/example/urnwise/urnwise/sampler/SmallestKeys" "indices" "[I" .null := D1508 (Or.inl (tw20 hw)) (ty := (.array .int)) (by decide)
      have F1512 : Fld Z h1502 b1503 "com/example/urnwise/urnwise/sampler/SmallestKeys" "size" "I" (.int (0 : Int32)) := D1508 (Or.inl (tw27 hw)) (ty := .int) (by decide)
      show Done _ _ _ _ _ _ _ _ _ _ _ _ _ _ _ T1500 (mkF m 37 _ [(.ref b1503)])
      refine Done.stepL (pc' := 39) (st' := [(.int cv), (.ref b1503), (.ref b1503)]) (fun t kk => ?_) ?_
      · show Steps p.tables e below (T1500.setTop (mkF m 37 _ [(.ref b1503)])) t
        refine XS.dup P1501.here P1501.x rfl (hb hby at_37) rfl rfl ?_
        show Steps p.tables e below (T1500.setTop (mkF m 38 _ [(.ref b1503), (.ref b1503)])) t
        refine XS.iloadN P1501.here P1501.x rfl (hb hby at_38) rfl ?_
        exact kk
      refine wCallI P1501 (m_hpInit l Z a0 hw b1503 cv N h1502 X1507 F1509 F1510 F1511 hN1 hN2 F1512) rfl (tw3 hw) (tw4 hw) (tw2 hw) (tw5 hw) (by decide) (a := b1503) (by rw [hml]; rfl) (lenOf pd_2 rfl) (argsL := [(.int cv)]) (rest := [(.ref b1503)]) rfl rfl (W := 1) (Nat.le_of_eq rfl) (by decide) (by decide) (by decide) (by decide) (allS (Or.inr ge_b1503) all0) (hb hby at_39) rfl (k' := 3) (n' := 36) rfl rfl ?_
      rintro T1513 h1528 _ P1514 K1529 ⟨rfl, b1515, b1516, q1517, q1518, q1519, q1520, q1521, F1522, F1523, F1524, F1525, A1526, A1527⟩
      have szh1528 : h1502.size ≤ h1528.size := K1529.1
      have ge_b1515 : h0.size ≤ b1515 := by have := q1517; have := P1501.ge; omega
      have ge_b1516 : h0.size ≤ b1516 := by have := q1518; have := P1501.ge; omega
      have dK0 : ∀ i, i < N → DInt ((fun _ => (0 : Int)) i) ((fun _ => (0 : UInt64)) i) := fun i _ => dint_c0
      show Done _ _ _ _ _ _ _ _ _ _ _ _ _ _ _ T1513 (mkF m 42 _ [(.ref b1503)])
      refine Done.step (T' := T1513) (g' := (mkF m 46 #[.val (.int p0), .val (.int p1), .val (.int p2), .val (.int cv), .val (.int (3 : Int32)), .val (.ref b1503), .unset, .unset, .unset, .unset] [(.ref b1503)])) (fun t kk => ?_) ?_
      · show Steps p.tables e below (T1513.setTop (mkF m 42 _ [(.ref b1503)])) t
        refine XS.astore P1514.here P1514.x rfl (hb hby at_42) rfl rfl (l' := #[.val (.int p0), .val (.int p1), .val (.int p2), .val (.int cv), .val (.int (3 : Int32)), .val (.ref b1503), .unset, .unset, .unset, .unset]) rfl ?_
        show Steps p.tables e below (T1513.setTop (mkF m 44 _ [])) t
        refine XS.aload P1514.here P1514.x rfl (hb hby at_44) rfl rfl ?_
        exact kk
      have f1532 := (X1507.keep K1529)
      refine wCallV P1514 (m_isFullf l Z a0 hw b1503 (0 : Int32) cv h1528 F1522 F1525 (own_n5 (0 : Int32) hc5 (by decide))) (tw21 hw) (tw22 hw) (tw24 hw) (tw24 hw) (tw23 hw) (tw2 hw) (tw25 hw) (by decide) f1532 (by rw [hml]; rfl) (lenOf pd_3 rfl) (argsL := []) (rest := []) rfl rfl (W := 0) (Nat.le_of_eq rfl) (by decide) (by decide) (by decide) (by decide) (by simp) (hb hby at_46) rfl (k' := 3) (n' := 36) rfl rfl ?_
      rintro T1530 _ _ P1531 - ⟨rfl, rfl⟩
      show Done _ _ _ _ _ _ _ _ _ _ _ _ _ _ _ T1530 (mkF m 49 _ [(.int (0 : Int32))])
      refine Done.step (T' := T1530) (g' := (mkF m 83 #[.val (.int p0), .val (.int p1), .val (.int p2), .val (.int cv), .val (.int (3 : Int32)), .val (.ref b1503), .val (.int (1 : Int32)), .unset, .unset, .unset] [(.int (0 : Int32)), (.double (FP.i2d (p2 &&& (255 : Int32)))), (.ref b1503)])) (fun t kk => ?_) ?_
      · show Steps p.tables e below (T1530.setTop (mkF m 49 _ [(.int (0 : Int32))])) t
        refine XS.iloadN P1531.here P1531.x rfl (hb hby at_49) rfl ?_
        show Steps p.tables e below (T1530.setTop (mkF m 50 _ [(.int cv), (.int (0 : Int32))])) t
        refine XS.ifYes P1531.here P1531.x rfl (pc0 := 50) (pc' := 57) rfl (hb hby at_50) rfl (i0W_ne_t (fun z => own_n5 (0 : Int32) hc5 (by decide) z.symm)) (by decide) (by decide) ?_
        show Steps p.tables e below (T1530.setTop (mkF m 57 _ [(.int (0 : Int32))])) t
        refine XS.iconst P1531.here P1531.x rfl (hb hby at_57) ?_
        show Steps p.tables e below (T1530.setTop (mkF m 58 _ [(.int (0 : Int32)), (.int (0 : Int32))])) t
        refine XS.icmpNo P1531.here P1531.x rfl (hb hby at_58) rfl (iiW_ne_f (by decide)) ?_
        show Steps p.tables e below (T1530.setTop (mkF m 61 _ [])) t
        refine XS.iconst P1531.here P1531.x rfl (hb hby at_61) ?_
        show Steps p.tables e below (T1530.setTop (mkF m 62 _ [(.int (1 : Int32))])) t
        refine XS.goto P1531.here P1531.x rfl (pc0 := 62) (pc' := 66) rfl (hb hby at_62) (by decide) (by decide) ?_
        show Steps p.tables e below (T1530.setTop (mkF m 66 _ [(.int (1 : Int32))])) t
        refine XS.istore P1531.here P1531.x rfl (hb hby at_66) rfl (l' := #[.val (.int p0), .val (.int p1), .val (.int p2), .val (.int cv), .val (.int (3 : Int32)), .val (.ref b1503), .val (.int (1 : Int32)), .unset, .unset, .unset]) rfl ?_
        show Steps p.tables e below (T1530.setTop (mkF m 68 _ [])) t
        refine XS.iload P1531.here P1531.x rfl (hb hby at_68) rfl ?_
        show Steps p.tables e below (T1530.setTop (mkF m 70 _ [(.int (3 : Int32))])) t
        refine XS.iconst P1531.here P1531.x rfl (hb hby at_70) ?_
        show Steps p.tables e below (T1530.setTop (mkF m 71 _ [(.int (1 : Int32)), (.int (3 : Int32))])) t
        refine XS.icmpNo P1531.here P1531.x rfl (hb hby at_71) rfl (iiW_lt_f (by decide)) ?_
        show Steps p.tables e below (T1530.setTop (mkF m 74 _ [])) t
        refine XS.aload P1531.here P1531.x rfl (hb hby at_74) rfl rfl ?_
        show Steps p.tables e below (T1530.setTop (mkF m 76 _ [(.ref b1503)])) t
        refine XS.iloadN P1531.here P1531.x rfl (hb hby at_76) rfl ?_
        show Steps p.tables e below (T1530.setTop (mkF m 77 _ [(.int p2), (.ref b1503)])) t
        refine XS.sipush P1531.here P1531.x rfl (hb hby at_77) ?_
        show Steps p.tables e below (T1530.setTop (mkF m 80 _ [(.int (255 : Int32)), (.int p2), (.ref b1503)])) t
        refine XS.iand P1531.here P1531.x rfl (hb hby at_80) rfl ?_
        show Steps p.tables e below (T1530.setTop (mkF m 81 _ [(.int (p2 &&& (255 : Int32))), (.ref b1503)])) t
        refine XS.i2dS P1531.here P1531.x rfl (hb hby at_81) rfl rfl ?_
        show Steps p.tables e below (T1530.setTop (mkF m 82 _ [(.double (FP.i2d (p2 &&& (255 : Int32)))), (.ref b1503)])) t
        refine XS.iconst P1531.here P1531.x rfl (hb hby at_82) ?_
        exact kk
      refine wCallV P1531 (m_offA l Z a0 hw b1503 b1515 b1516 (0 : Int32) N 0 (fun _ => (0 : UInt64)) (fun _ => (0 : Int)) (fun _ => (0 : Int32)) cv (FP.i2d (p2 &&& (255 : Int32))) (0 : Int32) (p2 &&& (255 : Int32)).toInt (1 : Int32) h1528 f1532 F1523 F1524 F1522 F1525 A1526 A1527 (by first | assumption | exact Ne.symm (by assumption) | exact adr_ne (by omega)) (by first | assumption | exact Ne.symm (by assumption) | exact adr_ne (by omega)) q1519 hN2 rfl dK0 (i2d_int (p2 &&& (255 : Int32))) (own_l5 (j := (0 : Int32)) hc5 (by decide)) (by omega) (by decide)) (tw35 hw) (tw36 hw) (tw38 hw) (tw38 hw) (tw37 hw) (tw2 hw) (tw39 hw) (by decide) f1532 (by rw [hml]; rfl) (lenOf pd_5 rfl) (argsL := [(.double (FP.i2d (p2 &&& (255 : Int32)))), (.int (0 : Int32))]) (rest := []) rfl rfl (W := 0) (Nat.le_of_eq rfl) (by decide) (by decide) (by decide) (by decide) (allS (Or.inr ge_b1503) (allS (Or.inr ge_b1515) (allS (Or.inr ge_b1516) all0))) (hb hby at_83) rfl (k' := 3) (n' := 36) rfl rfl ?_
      rintro T1533 h1543 _ P1534 K1544 ⟨rfl, kf1542, F1535, F1536, F1537, F1538, A1539, dK1541, A1540⟩
      have szh1543 : h1528.size ≤ h1543.size := K1544.1
      generalize gK1 : (own_of 0 true (fun _ => (0 : Int)) (fun _ => (0 : Int32)) (p2 &&& (255 : Int32)).toInt (0 : Int32)).1 = K1 at dK1541
      generalize gJ1 : (own_of 0 true (fun _ => (0 : Int)) (fun _ => (0 : Int32)) (p2 &&& (255 : Int32)).toInt (0 : Int32)).2 = J1 at A1540
      show Done _ _ _ _ _ _ _ _ _ _ _ _ _ _ _ T1533 (mkF m 86 _ [])
      refine Done.stepL (pc' := 104) (st' := [(.int (1 : Int32)), (.double (FP.i2d (((p2.toUInt32 >>> ((8 : Int32) &&& 31).toUInt32).toInt32) &&& (255 : Int32)))), (.ref b1503)]) (fun t kk => ?_) ?_
      · show Steps p.tables e below (T1533.setTop (mkF m 86 _ [])) t
        refine XS.iload P1534.here P1534.x rfl (hb hby at_86) rfl ?_
        show Steps p.tables e below (T1533.setTop (mkF m 88 _ [(.int (3 : Int32))])) t
        refine XS.iconst P1534.here P1534.x rfl (hb hby at_88) ?_
        show Steps p.tables e below (T1533.setTop (mkF m 89 _ [(.int (2 : Int32)), (.int (3 : Int32))])) t
        refine XS.icmpNo P1534.here P1534.x rfl (hb hby at_89) rfl (iiW_lt_f (by decide)) ?_
        show Steps p.tables e below (T1533.setTop (mkF m 92 _ [])) t
        refine XS.aload P1534.here P1534.x rfl (hb hby at_92) rfl rfl ?_
        show Steps p.tables e below (T1533.setTop (mkF m 94 _ [(.ref b1503)])) t
        refine XS.iloadN P1534.here P1534.x rfl (hb hby at_94) rfl ?_
        show Steps p.tables e below (T1533.setTop (mkF m 95 _ [(.int p2), (.ref b1503)])) t
        refine XS.bipush P1534.here P1534.x rfl (hb hby at_95) ?_
        show Steps p.tables e below (T1533.setTop (mkF m 97 _ [(.int (8 : Int32)), (.int p2), (.ref b1503)])) t
        refine XS.iushr P1534.here P1534.x rfl (hb hby at_97) rfl ?_
        show Steps p.tables e below (T1533.setTop (mkF m 98 _ [(.int ((p2.toUInt32 >>> ((8 : Int32) &&& 31).toUInt32).toInt32)), (.ref b1503)])) t
        refine XS.sipush P1534.here P1534.x rfl (hb hby at_98) ?_
        show Steps p.tables e below (T1533.setTop (mkF m 101 _ [(.int (255 : Int32)), (.int ((p2.toUInt32 >>> ((8 : Int32) &&& 31).toUInt32).toInt32)), (.ref b1503)])) t
        refine XS.iand P1534.here P1534.x rfl (hb hby at_101) rfl ?_
        show Steps p.tables e below (T1533.setTop (mkF m 102 _ [(.int (((p2.toUInt32 >>> ((8 : Int32) &&& 31).toUInt32).toInt32) &&& (255 : Int32))), (.ref b1503)])) t
        refine XS.i2dS P1534.here P1534.x rfl (hb hby at_102) rfl rfl ?_
        show Steps p.tables e below (T1533.setTop (mkF m 103 _ [(.double (FP.i2d (((p2.toUInt32 >>> ((8 : Int32) &&& 31).toUInt32).toInt32) &&& (255 : Int32)))), (.ref b1503)])) t
        refine XS.iconst P1534.here P1534.x rfl (hb hby at_103) ?_
        exact kk
      have f1555 := (f1532.keep K1544)
      refine wCallV P1534 (m_offA l Z a0 hw b1503 b1515 b1516 (1 : Int32) N 1 kf1542 K1 J1 cv (FP.i2d (((p2.toUInt32 >>> ((8 : Int32) &&& 31).toUInt32).toInt32) &&& (255 : Int32))) (1 : Int32) (((p2.toUInt32 >>> ((8 : Int32) &&& 31).toUInt32).toInt32) &&& (255 : Int32)).toInt (2 : Int32) h1543 f1555 F1536 F1537 F1535 F1538 A1539 A1540 (by first | assumption | exact Ne.symm (by assumption) | exact adr_ne (by omega)) (by first | assumption | exact Ne.symm (by assumption) | exact adr_ne (by omega)) q1519 hN2 rfl dK1541 (i2d_int (((p2.toUInt32 >>> ((8 : Int32) &&& 31).toUInt32).toInt32) &&& (255 : Int32))) (own_l5 (j := (1 : Int32)) hc5 (by decide)) (by omega) (by decide)) (tw35 hw) (tw36 hw) (tw38 hw) (tw38 hw) (tw37 hw) (tw2 hw) (tw39 hw) (by decide) f1555 (by rw [hml]; rfl) (lenOf pd_5 rfl) (argsL := [(.double (FP.i2d (((p2.toUInt32 >>> ((8 : Int32) &&& 31).toUInt32).toInt32) &&& (255 : Int32)))), (.int (1 : Int32))]) (rest := []) rfl rfl (W := 0) (Nat.le_of_eq rfl) (by decide) (by decide) (by decide) (by decide) (allS (Or.inr ge_b1503) (allS (Or.inr ge_b1515) (allS (Or.inr ge_b1516) all0))) (hb hby at_104) rfl (k' := 3) (n' := 36) rfl rfl ?_
      rintro T1545 h1556 _ P1546 K1557 ⟨rfl, kf1554, F1547, F1548, F1549, F1550, A1551, dK1553, A1552⟩
      have szh1556 : h1543.size ≤ h1556.size := K1557.1
      generalize gK2 : (own_of 1 true K1 J1 (((p2.toUInt32 >>> ((8 : Int32) &&& 31).toUInt32).toInt32) &&& (255 : Int32)).toInt (1 : Int32)).1 = K2 at dK1553
      generalize gJ2 : (own_of 1 true K1 J1 (((p2.toUInt32 >>> ((8 : Int32) &&& 31).toUInt32).toInt32) &&& (255 : Int32)).toInt (1 : Int32)).2 = J2 at A1552
      show Done _ _ _ _ _ _ _ _ _ _ _ _ _ _ _ T1545 (mkF m 107 _ [])
      refine Done.stepL (pc' := 125) (st' := [(.int (2 : Int32)), (.double (FP.i2d (((p2.toUInt32 >>> ((16 : Int32) &&& 31).toUInt32).toInt32) &&& (255 : Int32)))), (.ref b1503)]) (fun t kk => ?_) ?_
      · show Steps p.tables e below (T1545.setTop (mkF m 107 _ [])) t
        refine XS.iload P1546.here P1546.x rfl (hb hby at_107) rfl ?_
        show Steps p.tables e below (T1545.setTop (mkF m 109 _ [(.int (3 : Int32))])) t
        refine XS.iconst P1546.here P1546.x rfl (hb hby at_109) ?_
        show Steps p.tables e below (T1545.setTop (mkF m 110 _ [(.int (3 : Int32)), (.int (3 : Int32))])) t
        refine XS.icmpNo P1546.here P1546.x rfl (hb hby at_110) rfl (iiW_lt_f (by decide)) ?_
        show Steps p.tables e below (T1545.setTop (mkF m 113 _ [])) t
        refine XS.aload P1546.here P1546.x rfl (hb hby at_113) rfl rfl ?_
        show Steps p.tables e below (T1545.setTop (mkF m 115 _ [(.ref b1503)])) t
        refine XS.iloadN P1546.here P1546.x rfl (hb hby at_115) rfl ?_
        show Steps p.tables e below (T1545.setTop (mkF m 116 _ [(.int p2), (.ref b1503)])) t
        refine XS.bipush P1546.here P1546.x rfl (hb hby at_116) ?_
        show Steps p.tables e below (T1545.setTop (mkF m 118 _ [(.int (16 : Int32)), (.int p2), (.ref b1503)])) t
        refine XS.iushr P1546.here P1546.x rfl (hb hby at_118) rfl ?_
        show Steps p.tables e below (T1545.setTop (mkF m 119 _ [(.int ((p2.toUInt32 >>> ((16 : Int32) &&& 31).toUInt32).toInt32)), (.ref b1503)])) t
        refine XS.sipush P1546.here P1546.x rfl (hb hby at_119) ?_
        show Steps p.tables e below (T1545.setTop (mkF m 122 _ [(.int (255 : Int32)), (.int ((p2.toUInt32 >>> ((16 : Int32) &&& 31).toUInt32).toInt32)), (.ref b1503)])) t
        refine XS.iand P1546.here P1546.x rfl (hb hby at_122) rfl ?_
        show Steps p.tables e below (T1545.setTop (mkF m 123 _ [(.int (((p2.toUInt32 >>> ((16 : Int32) &&& 31).toUInt32).toInt32) &&& (255 : Int32))), (.ref b1503)])) t
        refine XS.i2dS P1546.here P1546.x rfl (hb hby at_123) rfl rfl ?_
        show Steps p.tables e below (T1545.setTop (mkF m 124 _ [(.double (FP.i2d (((p2.toUInt32 >>> ((16 : Int32) &&& 31).toUInt32).toInt32) &&& (255 : Int32)))), (.ref b1503)])) t
        refine XS.iconst P1546.here P1546.x rfl (hb hby at_124) ?_
        exact kk
      have f1568 := (f1555.keep K1557)
      refine wCallV P1546 (m_offA l Z a0 hw b1503 b1515 b1516 (2 : Int32) N 2 kf1554 K2 J2 cv (FP.i2d (((p2.toUInt32 >>> ((16 : Int32) &&& 31).toUInt32).toInt32) &&& (255 : Int32))) (2 : Int32) (((p2.toUInt32 >>> ((16 : Int32) &&& 31).toUInt32).toInt32) &&& (255 : Int32)).toInt (3 : Int32) h1556 f1568 F1548 F1549 F1547 F1550 A1551 A1552 (by first | assumption | exact Ne.symm (by assumption) | exact adr_ne (by omega)) (by first | assumption | exact Ne.symm (by assumption) | exact adr_ne (by omega)) q1519 hN2 rfl dK1553 (i2d_int (((p2.toUInt32 >>> ((16 : Int32) &&& 31).toUInt32).toInt32) &&& (255 : Int32))) (own_l5 (j := (2 : Int32)) hc5 (by decide)) (by omega) (by decide)) (tw35 hw) (tw36 hw) (tw38 hw) (tw38 hw) (tw37 hw) (tw2 hw) (tw39 hw) (by decide) f1568 (by rw [hml]; rfl) (lenOf pd_5 rfl) (argsL := [(.double (FP.i2d (((p2.toUInt32 >>> ((16 : Int32) &&& 31).toUInt32).toInt32) &&& (255 : Int32)))), (.int (2 : Int32))]) (rest := []) rfl rfl (W := 0) (Nat.le_of_eq rfl) (by decide) (by decide) (by decide) (by decide) (allS (Or.inr ge_b1503) (allS (Or.inr ge_b1515) (allS (Or.inr ge_b1516) all0))) (hb hby at_125) rfl (k' := 3) (n' := 36) rfl rfl ?_
      rintro T1558 h1569 _ P1559 K1570 ⟨rfl, kf1567, F1560, F1561, F1562, F1563, A1564, dK1566, A1565⟩
      have szh1569 : h1556.size ≤ h1569.size := K1570.1
      generalize gK3 : (own_of 2 true K2 J2 (((p2.toUInt32 >>> ((16 : Int32) &&& 31).toUInt32).toInt32) &&& (255 : Int32)).toInt (2 : Int32)).1 = K3 at dK1566
      generalize gJ3 : (own_of 2 true K2 J2 (((p2.toUInt32 >>> ((16 : Int32) &&& 31).toUInt32).toInt32) &&& (255 : Int32)).toInt (2 : Int32)).2 = J3 at A1565
      show Done _ _ _ _ _ _ _ _ _ _ _ _ _ _ _ T1558 (mkF m 128 _ [])
      refine Done.stepL (pc' := 152) (st' := [(.int cv), (.int (3 : Int32))]) (fun t kk => ?_) ?_
      · show Steps p.tables e below (T1558.setTop (mkF m 128 _ [])) t
        refine XS.iload P1559.here P1559.x rfl (hb hby at_128) rfl ?_
        show Steps p.tables e below (T1558.setTop (mkF m 130 _ [(.int (3 : Int32))])) t
        refine XS.iconst P1559.here P1559.x rfl (hb hby at_130) ?_
        show Steps p.tables e below (T1558.setTop (mkF m 131 _ [(.int (4 : Int32)), (.int (3 : Int32))])) t
        refine XS.icmpYes P1559.here P1559.x rfl (pc0 := 131) (pc' := 149) rfl (hb hby at_131) rfl (iiW_lt_t (by decide)) (by decide) (by decide) ?_
        show Steps p.tables e below (T1558.setTop (mkF m 149 _ [])) t
        refine XS.iload P1559.here P1559.x rfl (hb hby at_149) rfl ?_
        show Steps p.tables e below (T1558.setTop (mkF m 151 _ [(.int (3 : Int32))])) t
        refine XS.iloadN P1559.here P1559.x rfl (hb hby at_151) rfl ?_
        exact kk
      refine wCallS P1559 (m_minf l Z a0 hw (3 : Int32) cv h1569 (own_m5 (n := (3 : Int32)) hc5 (by decide))) (tw28 hw) (tw12 hw) (tw13 hw) (tw14 hw) (by decide) (by rw [hml]; rfl) (lenOf pd_1 rfl) (argsL := [(.int (3 : Int32)), (.int cv)]) (rest := []) rfl rfl (W := 0) (Nat.le_of_eq rfl) (by decide) (by decide) (by decide) (by decide) (by simp) (hb hby at_152) rfl (k' := 3) (n' := 36) rfl rfl ?_
      rintro T1571 _ _ P1572 - ⟨rfl, rfl⟩
      show Done _ _ _ _ _ _ _ _ _ _ _ _ _ _ _ T1571 (mkF m 155 _ [(.int (3 : Int32))])
      refine Done.step (T' := T1571) (g' := (mkF m 159 #[.val (.int p0), .val (.int p1), .val (.int p2), .val (.int cv), .val (.int (3 : Int32)), .val (.ref b1503), .val (.int (1 : Int32)), .val (.int (3 : Int32)), .unset, .unset] [(.ref b1503)])) (fun t kk => ?_) ?_
      · show Steps p.tables e below (T1571.setTop (mkF m 155 _ [(.int (3 : Int32))])) t
        refine XS.istore P1572.here P1572.x rfl (hb hby at_155) rfl (l' := #[.val (.int p0), .val (.int p1), .val (.int p2), .val (.int cv), .val (.int (3 : Int32)), .val (.ref b1503), .val (.int (1 : Int32)), .val (.int (3 : Int32)), .unset, .unset]) rfl ?_
        show Steps p.tables e below (T1571.setTop (mkF m 157 _ [])) t
        refine XS.aload P1572.here P1572.x rfl (hb hby at_157) rfl rfl ?_
        exact kk
      have f1575 := (f1568.keep K1570)
      refine wCallV P1572 (m_size l Z a0 hw b1503 (3 : Int32) h1569 F1560) (tw29 hw) (tw30 hw) (tw32 hw) (tw32 hw) (tw31 hw) (tw2 hw) (tw33 hw) (by decide) f1575 (by rw [hml]; rfl) (lenOf pd_4 rfl) (argsL := []) (rest := []) rfl rfl (W := 0) (Nat.le_of_eq rfl) (by decide) (by decide) (by decide) (by decide) (by simp) (hb hby at_159) rfl (k' := 3) (n' := 36) rfl rfl ?_
      rintro T1573 _ _ P1574 - ⟨rfl, rfl⟩
      show Done _ _ _ _ _ _ _ _ _ _ _ _ _ _ _ T1573 (mkF m 162 _ [(.int (3 : Int32))])
      refine Done.step (T' := T1573) (g' := (mkF m 176 #[.val (.int p0), .val (.int p1), .val (.int p2), .val (.int cv), .val (.int (3 : Int32)), .val (.ref b1503), .val (.int (1 : Int32)), .val (.int (3 : Int32)), .val (.int (1 : Int32)), .unset] [(.ref b1503)])) (fun t kk => ?_) ?_
      · show Steps p.tables e below (T1573.setTop (mkF m 162 _ [(.int (3 : Int32))])) t
        refine XS.iload P1574.here P1574.x rfl (hb hby at_162) rfl ?_
        show Steps p.tables e below (T1573.setTop (mkF m 164 _ [(.int (3 : Int32)), (.int (3 : Int32))])) t
        refine XS.icmpNo P1574.here P1574.x rfl (hb hby at_164) rfl (iiW_ne_f (by decide)) ?_
        show Steps p.tables e below (T1573.setTop (mkF m 167 _ [])) t
        refine XS.iconst P1574.here P1574.x rfl (hb hby at_167) ?_
        show Steps p.tables e below (T1573.setTop (mkF m 168 _ [(.int (1 : Int32))])) t
        refine XS.goto P1574.here P1574.x rfl (pc0 := 168) (pc' := 172) rfl (hb hby at_168) (by decide) (by decide) ?_
        show Steps p.tables e below (T1573.setTop (mkF m 172 _ [(.int (1 : Int32))])) t
        refine XS.istore P1574.here P1574.x rfl (hb hby at_172) rfl (l' := #[.val (.int p0), .val (.int p1), .val (.int p2), .val (.int cv), .val (.int (3 : Int32)), .val (.ref b1503), .val (.int (1 : Int32)), .val (.int (3 : Int32)), .val (.int (1 : Int32)), .unset]) rfl ?_
        show Steps p.tables e below (T1573.setTop (mkF m 174 _ [])) t
        refine XS.aload P1574.here P1574.x rfl (hb hby at_174) rfl rfl ?_
        exact kk
      refine wCallV P1574 (m_isFullf l Z a0 hw b1503 (3 : Int32) cv h1569 F1560 F1563 (own_n5 (3 : Int32) hc5 (by decide))) (tw21 hw) (tw22 hw) (tw24 hw) (tw24 hw) (tw23 hw) (tw2 hw) (tw25 hw) (by decide) f1575 (by rw [hml]; rfl) (lenOf pd_3 rfl) (argsL := []) (rest := []) rfl rfl (W := 0) (Nat.le_of_eq rfl) (by decide) (by decide) (by decide) (by decide) (by simp) (hb hby at_176) rfl (k' := 3) (n' := 36) rfl rfl ?_
      rintro T1576 _ _ P1577 - ⟨rfl, rfl⟩
      show Done _ _ _ _ _ _ _ _ _ _ _ _ _ _ _ T1576 (mkF m 179 _ [(.int (0 : Int32))])
      refine Done.step (T' := T1576) (g' := (mkF m 220 #[.val (.int p0), .val (.int p1), .val (.int p2), .val (.int cv), .val (.int (3 : Int32)), .val (.ref b1503), .val (.int (1 : Int32)), .val (.int (3 : Int32)), .val (.int (1 : Int32)), .val (.int (1 : Int32))] [(.int (1 : Int32))])) (fun t kk => ?_) ?_
      · show Steps p.tables e below (T1576.setTop (mkF m 179 _ [(.int (0 : Int32))])) t
        refine XS.iload P1577.here P1577.x rfl (hb hby at_179) rfl ?_
        show Steps p.tables e below (T1576.setTop (mkF m 181 _ [(.int (3 : Int32)), (.int (0 : Int32))])) t
        refine XS.iloadN P1577.here P1577.x rfl (hb hby at_181) rfl ?_
        show Steps p.tables e below (T1576.setTop (mkF m 182 _ [(.int cv), (.int (3 : Int32)), (.int (0 : Int32))])) t
        refine XS.icmpYes P1577.here P1577.x rfl (pc0 := 182) (pc' := 189) rfl (hb hby at_182) rfl (iiW_ne_t (own_n5 (3 : Int32) hc5 (by decide))) (by decide) (by decide) ?_
        show Steps p.tables e below (T1576.setTop (mkF m 189 _ [(.int (0 : Int32))])) t
        refine XS.iconst P1577.here P1577.x rfl (hb hby at_189) ?_
        show Steps p.tables e below (T1576.setTop (mkF m 190 _ [(.int (0 : Int32)), (.int (0 : Int32))])) t
        refine XS.icmpNo P1577.here P1577.x rfl (hb hby at_190) rfl (iiW_ne_f (by decide)) ?_
        show Steps p.tables e below (T1576.setTop (mkF m 193 _ [])) t
        refine XS.iconst P1577.here P1577.x rfl (hb hby at_193) ?_
        show Steps p.tables e below (T1576.setTop (mkF m 194 _ [(.int (1 : Int32))])) t
        refine XS.goto P1577.here P1577.x rfl (pc0 := 194) (pc' := 198) rfl (hb hby at_194) (by decide) (by decide) ?_
        show Steps p.tables e below (T1576.setTop (mkF m 198 _ [(.int (1 : Int32))])) t
        refine XS.istore P1577.here P1577.x rfl (hb hby at_198) rfl (l' := #[.val (.int p0), .val (.int p1), .val (.int p2), .val (.int cv), .val (.int (3 : Int32)), .val (.ref b1503), .val (.int (1 : Int32)), .val (.int (3 : Int32)), .val (.int (1 : Int32)), .val (.int (1 : Int32))]) rfl ?_
        show Steps p.tables e below (T1576.setTop (mkF m 200 _ [])) t
        refine XS.iload P1577.here P1577.x rfl (hb hby at_200) rfl ?_
        show Steps p.tables e below (T1576.setTop (mkF m 202 _ [(.int (1 : Int32))])) t
        refine XS.ifNo P1577.here P1577.x rfl (hb hby at_202) rfl (i0W_eq_f (by decide)) ?_
        show Steps p.tables e below (T1576.setTop (mkF m 205 _ [])) t
        refine XS.iload P1577.here P1577.x rfl (hb hby at_205) rfl ?_
        show Steps p.tables e below (T1576.setTop (mkF m 207 _ [(.int (1 : Int32))])) t
        refine XS.ifNo P1577.here P1577.x rfl (hb hby at_207) rfl (i0W_eq_f (by decide)) ?_
        show Steps p.tables e below (T1576.setTop (mkF m 210 _ [])) t
        refine XS.iload P1577.here P1577.x rfl (hb hby at_210) rfl ?_
        show Steps p.tables e below (T1576.setTop (mkF m 212 _ [(.int (1 : Int32))])) t
        refine XS.ifNo P1577.here P1577.x rfl (hb hby at_212) rfl (i0W_eq_f (by decide)) ?_
        show Steps p.tables e below (T1576.setTop (mkF m 215 _ [])) t
        refine XS.iconst P1577.here P1577.x rfl (hb hby at_215) ?_
        show Steps p.tables e below (T1576.setTop (mkF m 216 _ [(.int (1 : Int32))])) t
        refine XS.goto P1577.here P1577.x rfl (pc0 := 216) (pc' := 220) rfl (hb hby at_216) (by decide) (by decide) ?_
        exact kk
      exact wRet P1577 (t := .boolean) hret (narrow_01 (Or.inr rfl)) (Or.inl ⟨rfl, Or.inr (Or.inl rfl), _, rfl⟩) (hb hby at_220) rfl
    · show Done _ _ _ _ _ _ _ _ _ _ _ _ _ _ _ T0 (mkF m 34 _ [])
      refine wNew P0 (tw0 hw) (tw1 hw) (tw2 hw) (hb hby at_34) rfl (by decide) (by decide) (k' := 1) (n' := 4) rfl rfl (fun T1578 h1580 b1581 g1582 lt1583 P1579 E1584 X1585 D1586 => ?_)
      have ge_b1581 : h0.size ≤ b1581 := by have := P0.ge; omega
      have F1587 : Fld Z h1580 b1581 "com/example/urnwise/urnwise/sampler/SmallestKeys" "capacity" "I" (.int (0 : Int32)) := D1586 (Or.inr (tw10 hw)) (ty := .int) (by decide)
      have F1588 : Fld Z h1580 b1581 "com/example/urnwise/urnwise/sampler/SmallestKeys" "keys" "[D" .null := D1586 (Or.inl (tw17 hw)) (ty := (.array .double)) (by decide)
      have F1589 : Fld Z h1580 b1581 "com/example/urnwise/urnwise/sampler/SmallestKeys" "indices" "[I" .null := D1586 (Or.inl (tw20 hw)) (ty := (.array .int)) (by decide)
      have F1590 : Fld Z h1580 b1581 "com/example/urnwise/urnwise/sampler/SmallestKeys" "size" "I" (.int (0 : Int32)) := D1586 (Or.inl (tw27 hw)) (ty := .int) (by decide)
      show Done _ _ _ _ _ _ _ _ _ _ _ _ _ _ _ T1578 (mkF m 37 _ [(.ref b1581)])
      refine Done.stepL (pc' := 39) (st' := [(.int cv), (.ref b1581), (.ref b1581)]) (fun t kk => ?_) ?_
      · show Steps p.tables e below (T1578.setTop (mkF m 37 _ [(.ref b1581)])) t
        refine XS.dup P1579.here P1579.x rfl (hb hby at_37) rfl rfl ?_
        show Steps p.tables e below (T1578.setTop (mkF m 38 _ [(.ref b1581), (.ref b1581)])) t
        refine XS.iloadN P1579.here P1579.x rfl (hb hby at_38) rfl ?_
        exact kk
      refine wCallI P1579 (m_hpInit l Z a0 hw b1581 cv N h1580 X1585 F1587 F1588 F1589 hN1 hN2 F1590) rfl (tw3 hw) (tw4 hw) (tw2 hw) (tw5 hw) (by decide) (a := b1581) (by rw [hml]; rfl) (lenOf pd_2 rfl) (argsL := [(.int cv)]) (rest := [(.ref b1581)]) rfl rfl (W := 1) (Nat.le_of_eq rfl) (by decide) (by decide) (by decide) (by decide) (allS (Or.inr ge_b1581) all0) (hb hby at_39) rfl (k' := 3) (n' := 36) rfl rfl ?_
      rintro T1591 h1606 _ P1592 K1607 ⟨rfl, b1593, b1594, q1595, q1596, q1597, q1598, q1599, F1600, F1601, F1602, F1603, A1604, A1605⟩
      have szh1606 : h1580.size ≤ h1606.size := K1607.1
      have ge_b1593 : h0.size ≤ b1593 := by have := q1595; have := P1579.ge; omega
      have ge_b1594 : h0.size ≤ b1594 := by have := q1596; have := P1579.ge; omega
      have dK0 : ∀ i, i < N → DInt ((fun _ => (0 : Int)) i) ((fun _ => (0 : UInt64)) i) := fun i _ => dint_c0
      show Done _ _ _ _ _ _ _ _ _ _ _ _ _ _ _ T1591 (mkF m 42 _ [(.ref b1581)])
      refine Done.step (T' := T1591) (g' := (mkF m 46 #[.val (.int p0), .val (.int p1), .val (.int p2), .val (.int cv), .val (.int (4 : Int32)), .val (.ref b1581), .unset, .unset, .unset, .unset] [(.ref b1581)])) (fun t kk => ?_) ?_
      · show Steps p.tables e below (T1591.setTop (mkF m 42 _ [(.ref b1581)])) t
        refine XS.astore P1592.here P1592.x rfl (hb hby at_42) rfl rfl (l' := #[.val (.int p0), .val (.int p1), .val (.int p2), .val (.int cv), .val (.int (4 : Int32)), .val (.ref b1581), .unset, .unset, .unset, .unset]) rfl ?_
        show Steps p.tables e below (T1591.setTop (mkF m 44 _ [])) t
        refine XS.aload P1592.here P1592.x rfl (hb hby at_44) rfl rfl ?_
        exact kk
      have f1610 := (X1585.keep K1607)
      refine wCallV P1592 (m_isFullf l Z a0 hw b1581 (0 : Int32) cv h1606 F1600 F1603 (own_n5 (0 : Int32) hc5 (by decide))) (tw21 hw) (tw22 hw) (tw24 hw) (tw24 hw) (tw23 hw) (tw2 hw) (tw25 hw) (by decide) f1610 (by rw [hml]; rfl) (lenOf pd_3 rfl) (argsL := []) (rest := []) rfl rfl (W := 0) (Nat.le_of_eq rfl) (by decide) (by decide) (by decide) (by decide) (by simp) (hb hby at_46) rfl (k' := 3) (n' := 36) rfl rfl ?_
      rintro T1608 _ _ P1609 - ⟨rfl, rfl⟩
      show Done _ _ _ _ _ _ _ _ _ _ _ _ _ _ _ T1608 (mkF m 49 _ [(.int (0 : Int32))])
      refine Done.step (T' := T1608) (g' := (mkF m 83 #[.val (.int p0), .val (.int p1), .val (.int p2), .val (.int cv), .val (.int (4 : Int32)), .val (.ref b1581), .val (.int (1 : Int32)), .unset, .unset, .unset] [(.int (0 : Int32)), (.double (FP.i2d (p2 &&& (255 : Int32)))), (.ref b1581)])) (fun t kk => ?_) ?_
      · show Steps p.tables e below (T1608.setTop (mkF m 49 _ [(.int (0 : Int32))])) t
        refine XS.iloadN P1609.here P1609.x rfl (hb hby at_49) rfl ?_
        show Steps p.tables e below (T1608.setTop (mkF m 50 _ [(.int cv), (.int (0 : Int32))])) t
        refine XS.ifYes P1609.here P1609.x rfl (pc0 := 50) (pc' := 57) rfl (hb hby at_50) rfl (i0W_ne_t (fun z => own_n5 (0 : Int32) hc5 (by decide) z.symm)) (by decide) (by decide) ?_
        show Steps p.tables e below (T1608.setTop (mkF m 57 _ [(.int (0 : Int32))])) t
        refine XS.iconst P1609.here P1609.x rfl (hb hby at_57) ?_
        show Steps p.tables e below (T1608.setTop (mkF m 58 _ [(.int (0 : Int32)), (.int (0 : Int32))])) t
        refine XS.icmpNo P1609.here P1609.x rfl (hb hby at_58) rfl (iiW_ne_f (by decide)) ?_
        show Steps p.tables e below (T1608.setTop (mkF m 61 _ [])) t
        refine XS.iconst P1609.here P1609.x rfl (hb hby at_61) ?_
        show Steps p.tables e below (T1608.setTop (mkF m 62 _ [(.int (1 : Int32))])) t
        refine XS.goto P1609.here P1609.x rfl (pc0 := 62) (pc' := 66) rfl (hb hby at_62) (by decide) (by decide) ?_
        show Steps p.tables e below (T1608.setTop (mkF m 66 _ [(.int (1 : Int32))])) t
        refine XS.istore P1609.here P1609.x rfl (hb hby at_66) rfl (l' := #[.val (.int p0), .val (.int p1), .val (.int p2), .val (.int cv), .val (.int (4 : Int32)), .val (.ref b1581), .val (.int (1 : Int32)), .unset, .unset, .unset]) rfl ?_
        show Steps p.tables e below (T1608.setTop (mkF m 68 _ [])) t
        refine XS.iload P1609.here P1609.x rfl (hb hby at_68) rfl ?_
        show Steps p.tables e below (T1608.setTop (mkF m 70 _ [(.int (4 : Int32))])) t
        refine XS.iconst P1609.here P1609.x rfl (hb hby at_70) ?_
        show Steps p.tables e below (T1608.setTop (mkF m 71 _ [(.int (1 : Int32)), (.int (4 : Int32))])) t
        refine XS.icmpNo P1609.here P1609.x rfl (hb hby at_71) rfl (iiW_lt_f (by decide)) ?_
        show Steps p.tables e below (T1608.setTop (mkF m 74 _ [])) t
        refine XS.aload P1609.here P1609.x rfl (hb hby at_74) rfl rfl ?_
        show Steps p.tables e below (T1608.setTop (mkF m 76 _ [(.ref b1581)])) t
        refine XS.iloadN P1609.here P1609.x rfl (hb hby at_76) rfl ?_
        show Steps p.tables e below (T1608.setTop (mkF m 77 _ [(.int p2), (.ref b1581)])) t
        refine XS.sipush P1609.here P1609.x rfl (hb hby at_77) ?_
        show Steps p.tables e below (T1608.setTop (mkF m 80 _ [(.int (255 : Int32)), (.int p2), (.ref b1581)])) t
        refine XS.iand P1609.here P1609.x rfl (hb hby at_80) rfl ?_
        show Steps p.tables e below (T1608.setTop (mkF m 81 _ [(.int (p2 &&& (255 : Int32))), (.ref b1581)])) t
        refine XS.i2dS P1609.here P1609.x rfl (hb hby at_81) rfl rfl ?_
        show Steps p.tables e below (T1608.setTop (mkF m 82 _ [(.double (FP.i2d (p2 &&& (255 : Int32)))), (.ref b1581)])) t
        refine XS.iconst P1609.here P1609.x rfl (hb hby at_82) ?_
        exact kk
      refine wCallV P1609 (m_offA l Z a0 hw b1581 b1593 b1594 (0 : Int32) N 0 (fun _ => (0 : UInt64)) (fun _ => (0 : Int)) (fun _ => (0 : Int32)) cv (FP.i2d (p2 &&& (255 : Int32))) (0 : Int32) (p2 &&& (255 : Int32)).toInt (1 : Int32) h1606 f1610 F1601 F1602 F1600 F1603 A1604 A1605 (by first | assumption | exact Ne.symm (by assumption) | exact adr_ne (by omega)) (by first | assumption | exact Ne.symm (by assumption) | exact adr_ne (by omega)) q1597 hN2 rfl dK0 (i2d_int (p2 &&& (255 : Int32))) (own_l5 (j := (0 : Int32)) hc5 (by decide)) (by omega) (by decide)) (tw35 hw) (tw36 hw) (tw38 hw) (tw38 hw) (tw37 hw) (tw2 hw) (tw39 hw) (by decide) f1610 (by rw [hml]; rfl) (lenOf pd_5 rfl) (argsL := [(.double (FP.i2d (p2 &&& (255 : Int32)))), (.int (0 : Int32))]) (rest := []) rfl rfl (W := 0) (Nat.le_of_eq rfl) (by decide) (by decide) (by decide) (by decide) (allS (Or.inr ge_b1581) (allS (Or.inr ge_b1593) (allS (Or.inr ge_b1594) all0))) (hb hby at_83) rfl (k' := 3) (n' := 36) rfl rfl ?_
      rintro T1611 h1621 _ P1612 K1622 ⟨rfl, kf1620, F1613, F1614, F1615, F1616, A1617, dK1619, A1618⟩
      have szh1621 : h1606.size ≤ h1621.size := K1622.1
      generalize gK1 : (own_of 0 true (fun _ => (0 : Int)) (fun _ => (0 : Int32)) (p2 &&& (255 : Int32)).toInt (0 : Int32)).1 = K1 at dK1619
      generalize gJ1 : (own_of 0 true (fun _ => (0 : Int)) (fun _ => (0 : Int32)) (p2 &&& (255 : Int32)).toInt (0 : Int32)).2 = J1 at A1618
      show Done _ _ _ _ _ _ _ _ _ _ _ _ _ _ _ T1611 (mkF m 86 _ [])
      refine Done.stepL (pc' := 104) (st' := [(.int (1 : Int32)), (.double (FP.i2d (((p2.toUInt32 >>> ((8 : Int32) &&& 31).toUInt32).toInt32) &&& (255 : Int32)))), (.ref b1581)]) (fun t kk => ?_) ?_
      · show Steps p.tables e below (T1611.setTop (mkF m 86 _ [])) t
        refine XS.iload P1612.here P1612.x rfl (hb hby at_86) rfl ?_
        show Steps p.tables e below (T1611.setTop (mkF m 88 _ [(.int (4 : Int32))])) t
        refine XS.iconst P1612.here P1612.x rfl (hb hby at_88) ?_
        show Steps p.tables e below (T1611.setTop (mkF m 89 _ [(.int (2 : Int32)), (.int (4 : Int32))])) t
        refine XS.icmpNo P1612.here P1612.x rfl (hb hby at_89) rfl (iiW_lt_f (by decide)) ?_
        show Steps p.tables e below (T1611.setTop (mkF m 92 _ [])) t
        refine XS.aload P1612.here P1612.x rfl (hb hby at_92) rfl rfl ?_
        show Steps p.tables e below (T1611.setTop (mkF m 94 _ [(.ref b1581)])) t
        refine XS.iloadN P1612.here P1612.x rfl (hb hby at_94) rfl ?_
        show Steps p.tables e below (T1611.setTop (mkF m 95 _ [(.int p2), (.ref b1581)])) t
        refine XS.bipush P1612.here P1612.x rfl (hb hby at_95) ?_
        show Steps p.tables e below (T1611.setTop (mkF m 97 _ [(.int (8 : Int32)), (.int p2), (.ref b1581)])) t
        refine XS.iushr P1612.here P1612.x rfl (hb hby at_97) rfl ?_
        show Steps p.tables e below (T1611.setTop (mkF m 98 _ [(.int ((p2.toUInt32 >>> ((8 : Int32) &&& 31).toUInt32).toInt32)), (.ref b1581)])) t
        refine XS.sipush P1612.here P1612.x rfl (hb hby at_98) ?_
        show Steps p.tables e below (T1611.setTop (mkF m 101 _ [(.int (255 : Int32)), (.int ((p2.toUInt32 >>> ((8 : Int32) &&& 31).toUInt32).toInt32)), (.ref b1581)])) t
        refine XS.iand P1612.here P1612.x rfl (hb hby at_101) rfl ?_
        show Steps p.tables e below (T1611.setTop (mkF m 102 _ [(.int (((p2.toUInt32 >>> ((8 : Int32) &&& 31).toUInt32).toInt32) &&& (255 : Int32))), (.ref b1581)])) t
        refine XS.i2dS P1612.here P1612.x rfl (hb hby at_102) rfl rfl ?_
        show Steps p.tables e below (T1611.setTop (mkF m 103 _ [(.double (FP.i2d (((p2.toUInt32 >>> ((8 : Int32) &&& 31).toUInt32).toInt32) &&& (255 : Int32)))), (.ref b1581)])) t
        refine XS.iconst P1612.here P1612.x rfl (hb hby at_103) ?_
        exact kk
      have f1633 := (f1610.keep K1622)
      refine wCallV P1612 (m_offA l Z a0 hw b1581 b1593 b1594 (1 : Int32) N 1 kf1620 K1 J1 cv (FP.i2d (((p2.toUInt32 >>> ((8 : Int32) &&& 31).toUInt32).toInt32) &&& (255 : Int32))) (1 : Int32) (((p2.toUInt32 >>> ((8 : Int32) &&& 31).toUInt32).toInt32) &&& (255 : Int32)).toInt (2 : Int32) h1621 f1633 F1614 F1615 F1613 F1616 A1617 A1618 (by first | assumption | exact Ne.symm (by assumption) | exact adr_ne (by omega)) (by first | assumption | exact Ne.symm (by assumption) | exact adr_ne (by omega)) q1597 hN2 rfl dK1619 (i2d_int (((p2.toUInt32 >>> ((8 : Int32) &&& 31).toUInt32).toInt32) &&& (255 : Int32))) (own_l5 (j := (1 : Int32)) hc5 (by decide)) (by omega) (by decide)) (tw35 hw) (tw36 hw) (tw38 hw) (tw38 hw) (tw37 hw) (tw2 hw) (tw39 hw) (by decide) f1633 (by rw [hml]; rfl) (lenOf pd_5 rfl) (argsL := [(.double (FP.i2d (((p2.toUInt32 >>> ((8 : Int32) &&& 31).toUInt32).toInt32) &&& (255 : Int32)))), (.int (1 : Int32))]) (rest := []) rfl rfl (W := 0) (Nat.le_of_eq rfl) (by decide) (by decide) (by decide) (by decide) (allS (Or.inr ge_b1581) (allS (Or.inr ge_b1593) (allS (Or.inr ge_b1594) all0))) (hb hby at_104) rfl (k' := 3) (n' := 36) rfl rfl ?_
      rintro T1623 h1634 _ P1624 K1635 ⟨rfl, kf1632, F1625, F1626, F1627, F1628, A1629, dK1631, A1630⟩
      have szh1634 : h1621.size ≤ h1634.size := K1635.1
      generalize gK2 : (own_of 1 true K1 J1 (((p2.toUInt32 >>> ((8 : Int32) &&& 31).toUInt32).toInt32) &&& (255 : Int32)).toInt (1 : Int32)).1 = K2 at dK1631
      generalize gJ2 : (own_of 1 true K1 J1 (((p2.toUInt32 >>> ((8 : Int32) &&& 31).toUInt32).toInt32) &&& (255 : Int32)).toInt (1 : Int32)).2 = J2 at A1630
      show Done _ _ _ _ _ _ _ _ _ _ _ _ _ _ _ T1623 (mkF m 107 _ [])
      refine Done.stepL (pc' := 125) (st' := [(.int (2 : Int32)), (.double (FP.i2d (((p2.toUInt32 >>> ((16 : Int32) &&& 31).toUInt32).toInt32) &&& (255 : Int32)))), (.ref b1581)]) (fun t kk => ?_) ?_
      · show Steps p.tables e below (T1623.setTop (mkF m 107 _ [])) t
        refine XS.iload P1624.here P1624.x rfl (hb hby at_107) rfl ?_
        show Steps p.tables e below (T1623.setTop (mkF m 109 _ [(.int (4 : Int32))])) t
        refine XS.iconst P1624.here P1624.x rfl (hb hby at_109) ?_
        show Steps p.tables e below (T1623.setTop (mkF m 110 _ [(.int (3 : Int32)), (.int (4 : Int32))])) t
        refine XS.icmpNo P1624.here P1624.x rfl (hb hby at_110) rfl (iiW_lt_f (by decide)) ?_
        show Steps p.tables e below (T1623.setTop (mkF m 113 _ [])) t
        refine XS.aload P1624.here P1624.x rfl (hb hby at_113) rfl rfl ?_
        show Steps p.tables e below (T1623.setTop (mkF m 115 _ [(.ref b1581)])) t
        refine XS.iloadN P1624.here P1624.x rfl (hb hby at_115) rfl ?_
        show Steps p.tables e below (T1623.setTop (mkF m 116 _ [(.int p2), (.ref b1581)])) t
        refine XS.bipush P1624.here P1624.x rfl (hb hby at_116) ?_
        show Steps p.tables e below (T1623.setTop (mkF m 118 _ [(.int (16 : Int32)), (.int p2), (.ref b1581)])) t
        refine XS.iushr P1624.here P1624.x rfl (hb hby at_118) rfl ?_
        show Steps p.tables e below (T1623.setTop (mkF m 119 _ [(.int ((p2.toUInt32 >>> ((16 : Int32) &&& 31).toUInt32).toInt32)), (.ref b1581)])) t
        refine XS.sipush P1624.here P1624.x rfl (hb hby at_119) ?_
        show Steps p.tables e below (T1623.setTop (mkF m 122 _ [(.int (255 : Int32)), (.int ((p2.toUInt32 >>> ((16 : Int32) &&& 31).toUInt32).toInt32)), (.ref b1581)])) t
        refine XS.iand P1624.here P1624.x rfl (hb hby at_122) rfl ?_
        show Steps p.tables e below (T1623.setTop (mkF m 123 _ [(.int (((p2.toUInt32 >>> ((16 : Int32) &&& 31).toUInt32).toInt32) &&& (255 : Int32))), (.ref b1581)])) t
        refine XS.i2dS P1624.here P1624.x rfl (hb hby at_123) rfl rfl ?_
        show Steps p.tables e below (T1623.setTop (mkF m 124 _ [(.double (FP.i2d (((p2.toUInt32 >>> ((16 : Int32) &&& 31).toUInt32).toInt32) &&& (255 : Int32)))), (.ref b1581)])) t
        refine XS.iconst P1624.here P1624.x rfl (hb hby at_124) ?_
        exact kk
      have f1646 := (f1633.keep K1635)
      refine wCallV P1624 (m_offA l Z a0 hw b1581 b1593 b1594 (2 : Int32) N 2 kf1632 K2 J2 cv (FP.i2d (((p2.toUInt32 >>> ((16 : Int32) &&& 31).toUInt32).toInt32) &&& (255 : Int32))) (2 : Int32) (((p2.toUInt32 >>> ((16 : Int32) &&& 31).toUInt32).toInt32) &&& (255 : Int32)).toInt (3 : Int32) h1634 f1646 F1626 F1627 F1625 F1628 A1629 A1630 (by first | assumption | exact Ne.symm (by assumption) | exact adr_ne (by omega)) (by first | assumption | exact Ne.symm (by assumption) | exact adr_ne (by omega)) q1597 hN2 rfl dK1631 (i2d_int (((p2.toUInt32 >>> ((16 : Int32) &&& 31).toUInt32).toInt32) &&& (255 : Int32))) (own_l5 (j := (2 : Int32)) hc5 (by decide)) (by omega) (by decide)) (tw35 hw) (tw36 hw) (tw38 hw) (tw38 hw) (tw37 hw) (tw2 hw) (tw39 hw) (by decide) f1646 (by rw [hml]; rfl) (lenOf pd_5 rfl) (argsL := [(.double (FP.i2d (((p2.toUInt32 >>> ((16 : Int32) &&& 31).toUInt32).toInt32) &&& (255 : Int32)))), (.int (2 : Int32))]) (rest := []) rfl rfl (W := 0) (Nat.le_of_eq rfl) (by decide) (by decide) (by decide) (by decide) (allS (Or.inr ge_b1581) (allS (Or.inr ge_b1593) (allS (Or.inr ge_b1594) all0))) (hb hby at_125) rfl (k' := 3) (n' := 36) rfl rfl ?_
      rintro T1636 h1647 _ P1637 K1648 ⟨rfl, kf1645, F1638, F1639, F1640, F1641, A1642, dK1644, A1643⟩
      have szh1647 : h1634.size ≤ h1647.size := K1648.1
      generalize gK3 : (own_of 2 true K2 J2 (((p2.toUInt32 >>> ((16 : Int32) &&& 31).toUInt32).toInt32) &&& (255 : Int32)).toInt (2 : Int32)).1 = K3 at dK1644
      generalize gJ3 : (own_of 2 true K2 J2 (((p2.toUInt32 >>> ((16 : Int32) &&& 31).toUInt32).toInt32) &&& (255 : Int32)).toInt (2 : Int32)).2 = J3 at A1643
      show Done _ _ _ _ _ _ _ _ _ _ _ _ _ _ _ T1636 (mkF m 128 _ [])
      refine Done.stepL (pc' := 146) (st' := [(.int (3 : Int32)), (.double (FP.i2d (((p2.toUInt32 >>> ((24 : Int32) &&& 31).toUInt32).toInt32) &&& (255 : Int32)))), (.ref b1581)]) (fun t kk => ?_) ?_
      · show Steps p.tables e below (T1636.setTop (mkF m 128 _ [])) t
        refine XS.iload P1637.here P1637.x rfl (hb hby at_128) rfl ?_
        show Steps p.tables e below (T1636.setTop (mkF m 130 _ [(.int (4 : Int32))])) t
        refine XS.iconst P1637.here P1637.x rfl (hb hby at_130) ?_
        show Steps p.tables e below (T1636.setTop (mkF m 131 _ [(.int (4 : Int32)), (.int (4 : Int32))])) t
        refine XS.icmpNo P1637.here P1637.x rfl (hb hby at_131) rfl (iiW_lt_f (by decide)) ?_
        show Steps p.tables e below (T1636.setTop (mkF m 134 _ [])) t
        refine XS.aload P1637.here P1637.x rfl (hb hby at_134) rfl rfl ?_
        show Steps p.tables e below (T1636.setTop (mkF m 136 _ [(.ref b1581)])) t
        refine XS.iloadN P1637.here P1637.x rfl (hb hby at_136) rfl ?_
        show Steps p.tables e below (T1636.setTop (mkF m 137 _ [(.int p2), (.ref b1581)])) t
        refine XS.bipush P1637.here P1637.x rfl (hb hby at_137) ?_
        show Steps p.tables e below (T1636.setTop (mkF m 139 _ [(.int (24 : Int32)), (.int p2), (.ref b1581)])) t
        refine XS.iushr P1637.here P1637.x rfl (hb hby at_139) rfl ?_
        show Steps p.tables e below (T1636.setTop (mkF m 140 _ [(.int ((p2.toUInt32 >>> ((24 : Int32) &&& 31).toUInt32).toInt32)), (.ref b1581)])) t
        refine XS.sipush P1637.here P1637.x rfl (hb hby at_140) ?_
        show Steps p.tables e below (T1636.setTop (mkF m 143 _ [(.int (255 : Int32)), (.int ((p2.toUInt32 >>> ((24 : Int32) &&& 31).toUInt32).toInt32)), (.ref b1581)])) t
        refine XS.iand P1637.here P1637.x rfl (hb hby at_143) rfl ?_
        show Steps p.tables e below (T1636.setTop (mkF m 144 _ [(.int (((p2.toUInt32 >>> ((24 : Int32) &&& 31).toUInt32).toInt32) &&& (255 : Int32))), (.ref b1581)])) t
        refine XS.i2dS P1637.here P1637.x rfl (hb hby at_144) rfl rfl ?_
        show Steps p.tables e below (T1636.setTop (mkF m 145 _ [(.double (FP.i2d (((p2.toUInt32 >>> ((24 : Int32) &&& 31).toUInt32).toInt32) &&& (255 : Int32)))), (.ref b1581)])) t
        refine XS.iconst P1637.here P1637.x rfl (hb hby at_145) ?_
        exact kk
      have f1659 := (f1646.keep K1648)
      refine wCallV P1637 (m_offA l Z a0 hw b1581 b1593 b1594 (3 : Int32) N 3 kf1645 K3 J3 cv (FP.i2d (((p2.toUInt32 >>> ((24 : Int32) &&& 31).toUInt32).toInt32) &&& (255 : Int32))) (3 : Int32) (((p2.toUInt32 >>> ((24 : Int32) &&& 31).toUInt32).toInt32) &&& (255 : Int32)).toInt (4 : Int32) h1647 f1659 F1639 F1640 F1638 F1641 A1642 A1643 (by first | assumption | exact Ne.symm (by assumption) | exact adr_ne (by omega)) (by first | assumption | exact Ne.symm (by assumption) | exact adr_ne (by omega)) q1597 hN2 rfl dK1644 (i2d_int (((p2.toUInt32 >>> ((24 : Int32) &&& 31).toUInt32).toInt32) &&& (255 : Int32))) (own_l5 (j := (3 : Int32)) hc5 (by decide)) (by omega) (by decide)) (tw35 hw) (tw36 hw) (tw38 hw) (tw38 hw) (tw37 hw) (tw2 hw) (tw39 hw) (by decide) f1659 (by rw [hml]; rfl) (lenOf pd_5 rfl) (argsL := [(.double (FP.i2d (((p2.toUInt32 >>> ((24 : Int32) &&& 31).toUInt32).toInt32) &&& (255 : Int32)))), (.int (3 : Int32))]) (rest := []) rfl rfl (W := 0) (Nat.le_of_eq rfl) (by decide) (by decide) (by decide) (by decide) (allS (Or.inr ge_b1581) (allS (Or.inr ge_b1593) (allS (Or.inr ge_b1594) all0))) (hb hby at_146) rfl (k' := 3) (n' := 36) rfl rfl ?_
      rintro T1649 h1660 _ P1650 K1661 ⟨rfl, kf1658, F1651, F1652, F1653, F1654, A1655, dK1657, A1656⟩
      have szh1660 : h1647.size ≤ h1660.size := K1661.1
      generalize gK4 : (own_of 3 true K3 J3 (((p2.toUInt32 >>> ((24 : Int32) &&& 31).toUInt32).toInt32) &&& (255 : Int32)).toInt (3 : Int32)).1 = K4 at dK1657
      generalize gJ4 : (own_of 3 true K3 J3 (((p2.toUInt32 >>> ((24 : Int32) &&& 31).toUInt32).toInt32) &&& (255 : Int32)).toInt (3 : Int32)).2 = J4 at A1656
      show Done _ _ _ _ _ _ _ _ _ _ _ _ _ _ _ T1649 (mkF m 149 _ [])
      refine Done.stepL (pc' := 152) (st' := [(.int cv), (.int (4 : Int32))]) (fun t kk => ?_) ?_
      · show Steps p.tables e below (T1649.setTop (mkF m 149 _ [])) t
        refine XS.iload P1650.here P1650.x rfl (hb hby at_149) rfl ?_
        show Steps p.tables e below (T1649.setTop (mkF m 151 _ [(.int (4 : Int32))])) t
        refine XS.iloadN P1650.here P1650.x rfl (hb hby at_151) rfl ?_
        exact kk
      refine wCallS P1650 (m_minf l Z a0 hw (4 : Int32) cv h1660 (own_m5 (n := (4 : Int32)) hc5 (by decide))) (tw28 hw) (tw12 hw) (tw13 hw) (tw14 hw) (by decide) (by rw [hml]; rfl) (lenOf pd_1 rfl) (argsL := [(.int (4 : Int32)), (.int cv)]) (rest := []) rfl rfl (W := 0) (Nat.le_of_eq rfl) (by decide) (by decide) (by decide) (by decide) (by simp) (hb hby at_152) rfl (k' := 3) (n' := 36) rfl rfl ?_
      rintro T1662 _ _ P1663 - ⟨rfl, rfl⟩
      show Done _ _ _ _ _ _ _ _ _ _ _ _ _ _ _ T1662 (mkF m 155 _ [(.int (4 : Int32))])
      refine Done.step (T' := T1662) (g' := (mkF m 159 #[.val (.int p0), .val (.int p1), .val (.int p2), .val (.int cv), .val (.int (4 : Int32)), .val (.ref b1581), .val (.int (1 : Int32)), .val (.int (4 : Int32)), .unset, .unset] [(.ref b1581)])) (fun t kk => ?_) ?_
      · show Steps p.tables e below (T1662.setTop (mkF m 155 _ [(.int (4 : Int32))])) t
        refine XS.istore P1663.here P1663.x rfl (hb hby at_155) rfl (l' := #[.val (.int p0), .val (.int p1), .val (.int p2), .val (.int cv), .val (.int (4 : Int32)), .val (.ref b1581), .val (.int (1 : Int32)), .val (.int (4 : Int32)), .unset, .unset]) rfl ?_
        show Steps p.tables e below (T1662.setTop (mkF m 157 _ [])) t
        refine XS.aload P1663.here P1663.x rfl (hb hby at_157) rfl rfl ?_
        exact kk
      have f1666 := (f1659.keep K1661)
      refine wCallV P1663 (m_size l Z a0 hw b1581 (4 : Int32) h1660 F1651) (tw29 hw) (tw30 hw) (tw32 hw) (tw32 hw) (tw31 hw) (tw2 hw) (tw33 hw) (by decide) f1666 (by rw [hml]; rfl) (lenOf pd_4 rfl) (argsL := []) (rest := []) rfl rfl (W := 0) (Nat.le_of_eq rfl) (by decide) (by decide) (by decide) (by decide) (by simp) (hb hby at_159) rfl (k' := 3) (n' := 36) rfl rfl ?_
      rintro T1664 _ _ P1665 - ⟨rfl, rfl⟩
      show Done _ _ _ _ _ _ _ _ _ _ _ _ _ _ _ T1664 (mkF m 162 _ [(.int (4 : Int32))])
      refine Done.step (T' := T1664) (g' := (mkF m 176 #[.val (.int p0), .val (.int p1), .val (.int p2), .val (.int cv), .val (.int (4 : Int32)), .val (.ref b1581), .val (.int (1 : Int32)), .val (.int (4 : Int32)), .val (.int (1 : Int32)), .unset] [(.ref b1581)])) (fun t kk => ?_) ?_
      · show Steps p.tables e below (T1664.setTop (mkF m 162 _ [(.int (4 : Int32))])) t
        refine XS.iload P1665.here P1665.x rfl (hb hby at_162) rfl ?_
        show Steps p.tables e below (T1664.setTop (mkF m 164 _ [(.int (4 : Int32)), (.int (4 : Int32))])) t
        refine XS.icmpNo P1665.here P1665.x rfl (hb hby at_164) rfl (iiW_ne_f (by decide)) ?_
        show Steps p.tables e below (T1664.setTop (mkF m 167 _ [])) t
        refine XS.iconst P1665.here P1665.x rfl (hb hby at_167) ?_
        show Steps p.tables e below (T1664.setTop (mkF m 168 _ [(.int (1 : Int32))])) t
        refine XS.goto P1665.here P1665.x rfl (pc0 := 168) (pc' := 172) rfl (hb hby at_168) (by decide) (by decide) ?_
        show Steps p.tables e below (T1664.setTop (mkF m 172 _ [(.int (1 : Int32))])) t
        refine XS.istore P1665.here P1665.x rfl (hb hby at_172) rfl (l' := #[.val (.int p0), .val (.int p1), .val (.int p2), .val (.int cv), .val (.int (4 : Int32)), .val (.ref b1581), .val (.int (1 : Int32)), .val (.int (4 : Int32)), .val (.int (1 : Int32)), .unset]) rfl ?_
        show Steps p.tables e below (T1664.setTop (mkF m 174 _ [])) t
        refine XS.aload P1665.here P1665.x rfl (hb hby at_174) rfl rfl ?_
        exact kk
      refine wCallV P1665 (m_isFullf l Z a0 hw b1581 (4 : Int32) cv h1660 F1651 F1654 (own_n5 (4 : Int32) hc5 (by decide))) (tw21 hw) (tw22 hw) (tw24 hw) (tw24 hw) (tw23 hw) (tw2 hw) (tw25 hw) (by decide) f1666 (by rw [hml]; rfl) (lenOf pd_3 rfl) (argsL := []) (rest := []) rfl rfl (W := 0) (Nat.le_of_eq rfl) (by decide) (by decide) (by decide) (by decide) (by simp) (hb hby at_176) rfl (k' := 3) (n' := 36) rfl rfl ?_
      rintro T1667 _ _ P1668 - ⟨rfl, rfl⟩
      show Done _ _ _ _ _ _ _ _ _ _ _ _ _ _ _ T1667 (mkF m 179 _ [(.int (0 : Int32))])
      refine Done.step (T' := T1667) (g' := (mkF m 220 #[.val (.int p0), .val (.int p1), .val (.int p2), .val (.int cv), .val (.int (4 : Int32)), .val (.ref b1581), .val (.int (1 : Int32)), .val (.int (4 : Int32)), .val (.int (1 : Int32)), .val (.int (1 : Int32))] [(.int (1 : Int32))])) (fun t kk => ?_) ?_
      · show Steps p.tables e below (T1667.setTop (mkF m 179 _ [(.int (0 : Int32))])) t
        refine XS.iload P1668.here P1668.x rfl (hb hby at_179) rfl ?_
        show Steps p.tables e below (T1667.setTop (mkF m 181 _ [(.int (4 : Int32)), (.int (0 : Int32))])) t
        refine XS.iloadN P1668.here P1668.x rfl (hb hby at_181) rfl ?_
        show Steps p.tables e below (T1667.setTop (mkF m 182 _ [(.int cv), (.int (4 : Int32)), (.int (0 : Int32))])) t
        refine XS.icmpYes P1668.here P1668.x rfl (pc0 := 182) (pc' := 189) rfl (hb hby at_182) rfl (iiW_ne_t (own_n5 (4 : Int32) hc5 (by decide))) (by decide) (by decide) ?_
        show Steps p.tables e below (T1667.setTop (mkF m 189 _ [(.int (0 : Int32))])) t
        refine XS.iconst P1668.here P1668.x rfl (hb hby at_189) ?_
        show Steps p.tables e below (T1667.setTop (mkF m 190 _ [(.int (0 : Int32)), (.int (0 : Int32))])) t
        refine XS.icmpNo P1668.here P1668.x rfl (hb hby at_190) rfl (iiW_ne_f (by decide)) ?_
        show Steps p.tables e below (T1667.setTop (mkF m 193 _ [])) t
        refine XS.iconst P1668.here P1668.x rfl (hb hby at_193) ?_
        show Steps p.tables e below (T1667.setTop (mkF m 194 _ [(.int (1 : Int32))])) t
        refine XS.goto P1668.here P1668.x rfl (pc0 := 194) (pc' := 198) rfl (hb hby at_194) (by decide) (by decide) ?_
        show Steps p.tables e below (T1667.setTop (mkF m 198 _ [(.int (1 : Int32))])) t
        refine XS.istore P1668.here P1668.x rfl (hb hby at_198) rfl (l' := #[.val (.int p0), .val (.int p1), .val (.int p2), .val (.int cv), .val (.int (4 : Int32)), .val (.ref b1581), .val (.int (1 : Int32)), .val (.int (4 : Int32)), .val (.int (1 : Int32)), .val (.int (1 : Int32))]) rfl ?_
        show Steps p.tables e below (T1667.setTop (mkF m 200 _ [])) t
        refine XS.iload P1668.here P1668.x rfl (hb hby at_200) rfl ?_
        show Steps p.tables e below (T1667.setTop (mkF m 202 _ [(.int (1 : Int32))])) t
        refine XS.ifNo P1668.here P1668.x rfl (hb hby at_202) rfl (i0W_eq_f (by decide)) ?_
        show Steps p.tables e below (T1667.setTop (mkF m 205 _ [])) t
        refine XS.iload P1668.here P1668.x rfl (hb hby at_205) rfl ?_
        show Steps p.tables e below (T1667.setTop (mkF m 207 _ [(.int (1 : Int32))])) t
        refine XS.ifNo P1668.here P1668.x rfl (hb hby at_207) rfl (i0W_eq_f (by decide)) ?_
        show Steps p.tables e below (T1667.setTop (mkF m 210 _ [])) t
        refine XS.iload P1668.here P1668.x rfl (hb hby at_210) rfl ?_
        show Steps p.tables e below (T1667.setTop (mkF m 212 _ [(.int (1 : Int32))])) t
        refine XS.ifNo P1668.here P1668.x rfl (hb hby at_212) rfl (i0W_eq_f (by decide)) ?_
        show Steps p.tables e below (T1667.setTop (mkF m 215 _ [])) t
        refine XS.iconst P1668.here P1668.x rfl (hb hby at_215) ?_
        show Steps p.tables e below (T1667.setTop (mkF m 216 _ [(.int (1 : Int32))])) t
        refine XS.goto P1668.here P1668.x rfl (pc0 := 216) (pc' := 220) rfl (hb hby at_216) (by decide) (by decide) ?_
        exact kk
      exact wRet P1668 (t := .boolean) hret (narrow_01 (Or.inr rfl)) (Or.inl ⟨rfl, Or.inr (Or.inl rfl), _, rfl⟩) (hb hby at_220) rfl
set_option maxRecDepth 65536 in
set_option maxHeartbeats 4000000 in
theorem comes_1 {Post : Tables → Env → Array Value → State → Outcome → State → Prop} (hpost : ∀ tb e args s v u, (limb_1_1.after args s (.returned v) u = true ∧ limb_1_2.after args s (.returned v) u = true ∧ True) → FrameEnd s (.returned v) u (Jvm.fieldLocs frame_1_writes args s ++ Jvm.arrayLocs frame_1_arrays args s ++ Jvm.staticLocs frame_1_statics s) 16 192 → Post tb e args s (.returned v) u) :
    ArmFor flags0 classFile x code maxLocals ret World_1 tables_1 room_1 Calls_1 rest_1 Pre_1 Post := by
  intro l hfl _ _ p e ha hc hk s m args below hf hA hF happ hP
  obtain ⟨hcalls, hrest, hpre⟩ := hP
  obtain ⟨-, -, -, hnamed, -, -, -, hat⟩ := (Spec.applies_iff hf).mp happ
  obtain ⟨hg, hn⟩ := and_e (Cond.before_iff.mp (show (Jvm.Cond.and given_1 narrow_1).before args s = true from hpre))
  obtain ⟨h1, g0⟩ := and_e hg
  obtain ⟨q0, g1⟩ := and_e g0
  obtain ⟨q1, g2⟩ := and_e g1
  obtain ⟨w0, w1, w2, rfl⟩ : ∃ w0 w1 w2 : Value, args = #[w0, w1, w2] := by
    have hs : args.size = 3 := by simpa [Cond.value, given_1] using h1
    obtain ⟨L⟩ := args
    match L, hs with
    | [w0, w1, w2], _ => exact ⟨w0, w1, w2, rfl⟩
  have hw := fun d (hd : d ∈ tables_1) => atoms_spec (ws := Jvm.Cond.code x code maxLocals ret :: tables_1) hat d (List.mem_cons_of_mem _ hd)
  have hfit : Fit s := fun {y c} hc i hi => by
    obtain ⟨ha, rfl⟩ := Array.getElem?_eq_some_iff.mp hc
    have q := List.all_eq_true.mp ((Array.all_eq_true_iff_forall_mem.mp hF) _ (Array.getElem_mem ha)) i (List.mem_range.mpr hi)
    simpa [Array.getElem?_eq_getElem hi] using q
  obtain ⟨i0, e0⟩ := is_v q0
  obtain rfl : w0 = (.int i0) := Option.some.inj e0
  obtain ⟨i1, e1⟩ := is_v q1
  obtain rfl : w1 = (.int i1) := Option.some.inj e1
  obtain ⟨i2, e2⟩ := is_v g2
  obtain rfl : w2 = (.int i2) := Option.some.inj e2
  obtain ⟨n, o, h1, h2, h3, _, L, rfl, ⟨rfl, N, -⟩, hq⟩ := m_law l s _ hw  i0 i1 i2  s.heap  p e ha hc hk s m _ below hf ((Spec.applies_iff_loose hf).mp happ).1 ⟨rfl, State.Warmed39.refl s, rfl⟩ trivial
  refine ⟨n, _, h1, h2, h3, hpost _ _ _ _ _ _ ⟨Cond.after_iff.mpr rfl, Cond.after_iff.mpr (eq_i res_at (Term.int_eval (1)) rfl), trivial⟩ ⟨hq.1, hq.2.1, (hq.2.2.sift fun y hy => Or.inr ((N y hy).resolve_left (by simp))).mono (by decide) (by decide)⟩⟩
theorem main_1_1 : Claimed_1_1 := comes_1 fun _ _ _ _ _ _ h hF => ⟨h.1, hF⟩
theorem main_1_2 : Claimed_1_2 := comes_1 fun _ _ _ _ _ _ h hF => ⟨h.2.1, hF⟩
end Jvm.Pilot.@@N@@
namespace Jvm.Pilot.@@N@@
open Jvm Jvm.ClassFile Sem Op Lib Jvm.Free Jvm.Stand Jvm.Pilot.@@N@@.Jvm.D
/-! MADE BY PROGRAM (witnessworld.py) out of the Statement's table words and the real class files: 12 classes; the members and pool entries that the words name. The judged class is class 1, her method 1. -/
namespace start1
open Jvm.ClassFile
def u (s : String) : CpInfo := .utf8 (stringToUtf16 s)
/-- a pool by its gaps: so many unusable entries, then the entry; so many at the end -/
def gap : Nat → List CpInfo → List CpInfo
  | 0, r => r
  | n + 1, r => .unusable :: gap n r
def poolList (es : List (Nat × CpInfo)) (last : Nat) : List CpInfo := es.foldr (fun e r => gap e.1 (e.2 :: r)) (gap last [])
def pool (es : List (Nat × CpInfo)) (last : Nat) : Array CpInfo := ⟨poolList es last⟩
def fileOf (pool : Array CpInfo) (this : Nat) (attrs : Array Attribute := #[]) (ms : Array MethodInfo := #[]) (fl : Nat := 33) (sup : Nat := 0) (ifs : Array Nat := #[]) (fds : Array FieldInfo := #[]) : ClassFile where
  minorVersion := 0
  majorVersion := 65
  constantPool := pool
  accessFlags := fl
  thisClass := this
  superClass := sup
  interfaces := ifs
  fields := fds
  methods := ms
  attributes := attrs
def plain (name : String) (sup : Option ClassId) : Class where
  name := name
  kind := .ordinary
  loader := none
  accessFlags := 33
  super := sup
  interfaces := #[]
  cf := none
  fields := #[]
  methods := #[]
  instanceTypes := #[]
  staticTypes := #[]
  resolved := #[]
  callSites := []
  init := .initialized
  statics := none
  mirror := none

def pool0 : Array CpInfo := pool [(5, u "<init>"), (0, u "()V"), (1, .class_ 10), (1, u "java/lang/Object")] 113

def k0c0 : Code := { maxStack := 0, maxLocals := 1, code := object_method_1_code, exceptionTable := #[], attributes := #[] }
def k0m0 : Method := { name := "<init>", desc := "()V", sig := { parameters := [], returnType := none }, accessFlags := 1, code := some k0c0 }
/-- java/lang/Object -/
def k0 : Class := { plain "java/lang/Object" none with
  accessFlags := 33
  interfaces := #[]
  cf := some (fileOf pool0 8 #[] #[{ accessFlags := 1, nameIndex := 5, descriptorIndex := 6, attributes := #[] }] 33 0 #[] #[])
  fields := #[]
  methods := #[k0m0]
  instanceTypes := #[]
  staticTypes := #[]
  resolved := Array.replicate 124 none
  statics := none }

def pool1 : Array CpInfo := pool [(2, .class_ 4), (1, u "java/lang/Object"), (0, u "<init>"), (0, u "()V"), (0, .integer 2147483647), (0, .class_ 9), (0, u "com/example/urnwise/urnwise/sampler/SmallestKeys"), (0, .methodref 8 11), (0, .nameAndType 5 12), (0, u "(I)V"), (0, .methodref 8 14), (0, .nameAndType 15 16), (0, u "isFull"), (0, u "()Z"), (0, .methodref 8 18), (0, .nameAndType 19 20), (0, u "offer"), (0, u "(DI)V"), (0, .methodref 22 23), (0, .class_ 24), (0, .nameAndType 25 26), (0, u "java/lang/Math"), (0, u "min"), (0, u "(II)I"), (0, .methodref 8 28), (0, .nameAndType 29 30), (0, u "size"), (0, u "()I"), (0, .class_ 32), (0, u "com/example/urnwise/urnwise/sampler/SmallestKeysIsFullPinLaw"), (2, u "law"), (0, u "(III)Z")] 3

def k1m0 : Method := { name := "<init>", desc := "()V", sig := { parameters := [], returnType := none }, accessFlags := 1, code := none }
def k1c1 : Code := { maxStack := 4, maxLocals := 10, code := code, exceptionTable := #[], attributes := #[] }
def k1m1 : Method := { name := "law", desc := "(III)Z", sig := { parameters := [.int, .int, .int], returnType := some .boolean }, accessFlags := 9, code := some k1c1 }
/-- com/example/urnwise/urnwise/sampler/SmallestKeysIsFullPinLaw -/
def k1 : Class := { plain "com/example/urnwise/urnwise/sampler/SmallestKeysIsFullPinLaw" (some 0) with
  accessFlags := 49
  interfaces := #[]
  cf := some (fileOf pool1 31 #[] #[{ accessFlags := 1, nameIndex := 5, descriptorIndex := 6, attributes := #[] }, { accessFlags := 9, nameIndex := 35, descriptorIndex := 36, attributes := #[] }] 49 2 #[] #[])
  fields := #[]
  methods := #[k1m0, k1m1]
  instanceTypes := #[]
  staticTypes := #[]
  resolved := Array.replicate 40 none
  statics := none }

def pool2 : Array CpInfo := pool [(1, .methodref 2 3), (0, .class_ 4), (0, .nameAndType 5 6), (0, u "java/lang/Object"), (0, u "<init>"), (0, u "()V"), (0, .fieldref 8 9), (0, .class_ 10), (0, .nameAndType 11 12), (0, u "com/example/urnwise/urnwise/sampler/SmallestKeys"), (0, u "capacity"), (0, u "I"), (0, .methodref 14 15), (0, .class_ 16), (0, .nameAndType 17 18), (0, u "java/lang/Math"), (0, u "min"), (0, u "(II)I"), (0, .fieldref 8 20), (0, .nameAndType 21 22), (0, u "keys"), (0, u "[D"), (0, .fieldref 8 24), (0, .nameAndType 25 26), (0, u "indices"), (0, u "[I"), (0, .fieldref 8 28), (0, .nameAndType 29 12), (0, u "size"), (3, .methodref 8 34), (0, .nameAndType 35 36), (0, u "siftUp"), (0, u "(IDI)V"), (0, .methodref 8 38), (0, .nameAndType 39 36), (0, u "siftDown"), (3, u "()I"), (14, u "INITIAL_LENGTH"), (2, u "(I)V"), (2, u "offer"), (0, u "(DI)V"), (1, u "isFull"), (0, u "()Z")] 9

def k2c0 : Code := { maxStack := 3, maxLocals := 2, code := prog_15_method_1_code, exceptionTable := #[], attributes := #[] }
def k2m0 : Method := { name := "<init>", desc := "(I)V", sig := { parameters := [.int], returnType := none }, accessFlags := 0, code := some k2c0 }
def k2c1 : Code := { maxStack := 5, maxLocals := 4, code := prog_15_method_2_code, exceptionTable := #[], attributes := #[] }
def k2m1 : Method := { name := "offer", desc := "(DI)V", sig := { parameters := [.double, .int], returnType := none }, accessFlags := 0, code := some k2c1 }
def k2c2 : Code := { maxStack := 1, maxLocals := 1, code := prog_15_method_3_code, exceptionTable := #[], attributes := #[] }
def k2m2 : Method := { name := "size", desc := "()I", sig := { parameters := [], returnType := some .int }, accessFlags := 0, code := some k2c2 }
def k2c3 : Code := { maxStack := 2, maxLocals := 1, code := prog_15_method_4_code, exceptionTable := #[], attributes := #[] }
def k2m3 : Method := { name := "isFull", desc := "()Z", sig := { parameters := [], returnType := some .boolean }, accessFlags := 0, code := some k2c3 }
def k2c4 : Code := { maxStack := 4, maxLocals := 6, code := prog_15_method_10_code, exceptionTable := #[], attributes := #[] }
def k2m4 : Method := { name := "siftDown", desc := "(IDI)V", sig := { parameters := [.int, .double, .int], returnType := none }, accessFlags := 2, code := some k2c4 }
def k2c5 : Code := { maxStack := 4, maxLocals := 6, code := prog_15_method_11_code, exceptionTable := #[], attributes := #[] }
def k2m5 : Method := { name := "siftUp", desc := "(IDI)V", sig := { parameters := [.int, .double, .int], returnType := none }, accessFlags := 2, code := some k2c5 }
/-- com/example/urnwise/urnwise/sampler/SmallestKeys -/
def k2 : Class := { plain "com/example/urnwise/urnwise/sampler/SmallestKeys" (some 0) with
  accessFlags := 48
  interfaces := #[]
  cf := some (fileOf pool2 8 #[] #[{ accessFlags := 0, nameIndex := 5, descriptorIndex := 61, attributes := #[] }, { accessFlags := 0, nameIndex := 64, descriptorIndex := 65, attributes := #[] }, { accessFlags := 0, nameIndex := 29, descriptorIndex := 43, attributes := #[] }, { accessFlags := 0, nameIndex := 67, descriptorIndex := 68, attributes := #[] }, { accessFlags := 2, nameIndex := 39, descriptorIndex := 36, attributes := #[] }, { accessFlags := 2, nameIndex := 35, descriptorIndex := 36, attributes := #[] }] 48 2 #[] #[{ accessFlags := 26, nameIndex := 58, descriptorIndex := 12, attributes := #[] }, { accessFlags := 18, nameIndex := 11, descriptorIndex := 12, attributes := #[] }, { accessFlags := 2, nameIndex := 21, descriptorIndex := 22, attributes := #[] }, { accessFlags := 2, nameIndex := 25, descriptorIndex := 26, attributes := #[] }, { accessFlags := 2, nameIndex := 29, descriptorIndex := 12, attributes := #[] }])
  fields := #[{ name := "INITIAL_LENGTH", type := .int, accessFlags := 26, slot := 0, constantValue := 0 }, { name := "capacity", type := .int, accessFlags := 18, slot := 0, constantValue := 0 }, { name := "keys", type := (.array .double), accessFlags := 2, slot := 1, constantValue := 0 }, { name := "indices", type := (.array .int), accessFlags := 2, slot := 2, constantValue := 0 }, { name := "size", type := .int, accessFlags := 2, slot := 3, constantValue := 0 }]
  methods := #[k2m0, k2m1, k2m2, k2m3, k2m4, k2m5]
  instanceTypes := #[.int, (.array .double), (.array .int), .int]
  staticTypes := #[.int]
  resolved := Array.replicate 78 none
  statics := none }

def pool3 : Array CpInfo := pool [(1, .class_ 2), (0, u "java/lang/Math"), (1, .class_ 6), (1, u "java/lang/Object"), (0, u "<init>"), (0, u "()V"), (89, .class_ 100), (1, u "java/lang/Math$RandomNumberGeneratorHolder"), (71, u "negativeZeroFloatBits"), (0, u "J"), (2, u "negativeZeroDoubleBits"), (24, u "min"), (43, u "$assertionsDisabled"), (0, u "Z"), (88, u "(II)I"), (2, u "twoToTheDoubleScaleDown"), (0, u "D"), (4, u "twoToTheDoubleScaleUp"), (9, u "E"), (3, u "PI"), (2, u "TAU"), (2, u "DEGREES_TO_RADIANS"), (0, u "RADIANS_TO_DEGREES")] 94

def k3m0 : Method := { name := "<init>", desc := "()V", sig := { parameters := [], returnType := none }, accessFlags := 2, code := none }
def k3c1 : Code := { maxStack := 2, maxLocals := 2, code := jdk_29_method_69_code, exceptionTable := #[], attributes := #[] }
def k3m1 : Method := { name := "min", desc := "(II)I", sig := { parameters := [.int, .int], returnType := some .int }, accessFlags := 9, code := some k3c1 }
/-- java/lang/Math -/
def k3 : Class := { plain "java/lang/Math" (some 0) with
  accessFlags := 49
  interfaces := #[]
  cf := some (fileOf pool3 1 #[.nestMembers #[98]] #[{ accessFlags := 2, nameIndex := 7, descriptorIndex := 8, attributes := #[] }, { accessFlags := 9, nameIndex := 201, descriptorIndex := 335, attributes := #[] }] 49 4 #[] #[{ accessFlags := 25, nameIndex := 354, descriptorIndex := 339, attributes := #[] }, { accessFlags := 25, nameIndex := 358, descriptorIndex := 339, attributes := #[] }, { accessFlags := 25, nameIndex := 361, descriptorIndex := 339, attributes := #[] }, { accessFlags := 26, nameIndex := 364, descriptorIndex := 339, attributes := #[] }, { accessFlags := 26, nameIndex := 365, descriptorIndex := 339, attributes := #[] }, { accessFlags := 26, nameIndex := 172, descriptorIndex := 173, attributes := #[] }, { accessFlags := 26, nameIndex := 176, descriptorIndex := 173, attributes := #[] }, { accessFlags := 8, nameIndex := 344, descriptorIndex := 339, attributes := #[] }, { accessFlags := 8, nameIndex := 338, descriptorIndex := 339, attributes := #[] }, { accessFlags := 4120, nameIndex := 245, descriptorIndex := 246, attributes := #[] }])
  fields := #[{ name := "E", type := .double, accessFlags := 25, slot := 0, constantValue := 0 }, { name := "PI", type := .double, accessFlags := 25, slot := 1, constantValue := 0 }, { name := "TAU", type := .double, accessFlags := 25, slot := 2, constantValue := 0 }, { name := "DEGREES_TO_RADIANS", type := .double, accessFlags := 26, slot := 3, constantValue := 0 }, { name := "RADIANS_TO_DEGREES", type := .double, accessFlags := 26, slot := 4, constantValue := 0 }, { name := "negativeZeroFloatBits", type := .long, accessFlags := 26, slot := 5, constantValue := 0 }, { name := "negativeZeroDoubleBits", type := .long, accessFlags := 26, slot := 6, constantValue := 0 }, { name := "twoToTheDoubleScaleUp", type := .double, accessFlags := 8, slot := 7, constantValue := 0 }, { name := "twoToTheDoubleScaleDown", type := .double, accessFlags := 8, slot := 8, constantValue := 0 }, { name := "$assertionsDisabled", type := .boolean, accessFlags := 4120, slot := 9, constantValue := 0 }]
  methods := #[k3m0, k3m1]
  instanceTypes := #[]
  staticTypes := #[.double, .double, .double, .double, .double, .long, .long, .double, .double, .boolean]
  resolved := Array.replicate 460 none
  statics := none }

def pool4 : Array CpInfo := pool [(1, u "java/lang/Cloneable"), (0, .class_ 1), (0, u "java/lang/Object"), (0, .class_ 3)] 3

/-- java/lang/Cloneable -/
def k4 : Class := { plain "java/lang/Cloneable" (some 0) with
  accessFlags := 1537
  interfaces := #[]
  cf := some (fileOf pool4 2 #[] #[] 1537 4 #[] #[])
  fields := #[]
  methods := #[]
  instanceTypes := #[]
  staticTypes := #[]
  resolved := Array.replicate 8 none
  statics := none }

def pool5 : Array CpInfo := pool [(1, u "java/io/Serializable"), (0, .class_ 1), (0, u "java/lang/Object"), (0, .class_ 3)] 3

/-- java/io/Serializable -/
def k5 : Class := { plain "java/io/Serializable" (some 0) with
  accessFlags := 1537
  interfaces := #[]
  cf := some (fileOf pool5 2 #[] #[] 1537 4 #[] #[])
  fields := #[]
  methods := #[]
  instanceTypes := #[]
  staticTypes := #[]
  resolved := Array.replicate 8 none
  statics := none }

/-- the primitive byte -/
def k6 : Class := { plain "byte" none with kind := .primitive 'B', accessFlags := 0x411 }
/-- [B -/
def k7 : Class := { plain "[B" (some 0) with kind := .array 6 .byte, interfaces := #[4, 5], accessFlags := 1041 }

/-- the primitive double -/
def k8 : Class := { plain "double" none with kind := .primitive 'D', accessFlags := 0x411 }
/-- [D -/
def k9 : Class := { plain "[D" (some 0) with kind := .array 8 .double, interfaces := #[4, 5], accessFlags := 1041 }

/-- the primitive int -/
def k10 : Class := { plain "int" none with kind := .primitive 'I', accessFlags := 0x411 }
/-- [I -/
def k11 : Class := { plain "[I" (some 0) with kind := .array 10 .int, interfaces := #[4, 5], accessFlags := 1041 }

def heap : Heap := #[]
def classes : Array Class := #[k0, k1, k2, k3, k4, k5, k6, k7, k8, k9, k10, k11]
def interned : List (Array UInt16 × Addr) := []
def slotsUsed : Nat := 0
def theMethod : MethodId := ⟨1, 1⟩
def args0 : Array Value := #[.int 5, .int 1, .int 2]
def aboutOver (below : List Frame) : State where
  vm := { classes := classes, interned := interned.toArray }
  heap := heap
  slotsUsed := slotsUsed
  threads := #[{ frames := .invoking theMethod args0 :: below }]
def below0 : List Frame := [.native { method := ⟨0, 0⟩, args := #[] }]
def about1 : State := aboutOver below0
def p0 : Program := .bare "" "" ""
def e0 : Env := launch0.env 0 0 0
theorem w_frames : about1.frames = Frame.invoking theMethod args0 :: below0 := rfl
set_option maxRecDepth 65536 in
theorem w_args : argsFit about1.vm theMethod args0 = true := by decide +kernel
set_option maxRecDepth 65536 in
theorem w_heap : heapFits about1 = true := by decide +kernel
set_option maxRecDepth 65536 in
theorem w_runnable : about1.curStatus? = some .runnable := by decide +kernel
set_option maxRecDepth 65536 in
theorem w_alone : about1.alone = true := by decide +kernel
set_option maxRecDepth 65536 in
theorem w_named : about1.methodNamed? x = some theMethod := by decide +kernel
set_option maxRecDepth 65536 in
theorem w_hears : about1.hears theMethod below0 = true := by decide +kernel
set_option maxRecDepth 65536 in
theorem w_ripe : about1.ripe theMethod args0 below0 = true := by decide +kernel
theorem w_running : about1.status = .running := rfl
set_option maxRecDepth 65536 in
theorem w_room : about1.hasRoom e0.platform room_1 = true :=
  launch0.hasRoom_least _ room_1 (by decide +kernel) (by decide +kernel) (by decide +kernel) (by decide +kernel) (by decide +kernel) (by decide +kernel)
theorem allAtoms_all (ts : List Jvm.Cond) (a : Array Jvm.Value) (st : Jvm.State) : (allAtoms ts).before a st = ts.all (fun c => c.before a st) := by
  induction ts with
  | nil => rfl
  | cons c t ih =>
    show (Jvm.Cond.and c (allAtoms t)).before a st = _
    rw [Jvm.Cond.before_and, ih, List.all_cons]
def words1 : List Jvm.Cond := Jvm.Cond.code x code maxLocals ret :: tables_1
/-- a 'code' word, met by the world's own term for the bytes: nothing is compared byte by byte -/
theorem code_word {y : MethodName} {bytes : ByteArray} {mx : Nat} {rt : Option FieldType} {a : Array Value} {s : State} {m : MethodId} {meth : Method} {c : Code} (h1 : s.methodNamed? y = some m) (h2 : s.vm.method? m = some meth) (h3 : meth.code = some c) (h4 : c.code = bytes)
    (h5 : (c.maxLocals == mx && c.exceptionTable.isEmpty && decide (c.maxStack ≤ mostOperands) && decide (meth.sig.returnType = rt) && !meth.locks && decide (parseMethodDescriptor y.desc = some meth.sig)) = true) : (Jvm.Cond.code y bytes mx rt).before a s = true := by
  simp only [Bool.and_eq_true, beq_iff_eq, Bool.not_eq_true', decide_eq_true_eq] at h5
  obtain ⟨⟨⟨⟨⟨g1, g2⟩, g3⟩, g4⟩, g5⟩, g6⟩ := h5
  simp [Cond.before, Cond.holds, Cond.value, h1, h2, h3, h4, g1, g2, g3, g4, g5, g6]
def isCode : Jvm.Cond → Bool
  | .code _ _ _ _ => true
  | _ => false
theorem all_split {L : List Jvm.Cond} {P : Jvm.Cond → Bool} (h1 : L.all (fun c => isCode c || P c) = true) (h2 : ∀ c ∈ L.filter isCode, P c = true) : L.all P = true := by
  refine List.all_eq_true.mpr fun c hc => ?_
  have h := List.all_eq_true.mp h1 c hc
  rcases Bool.eq_false_or_eq_true (isCode c) with hi | hi
  · exact h2 c (List.mem_filter.mpr ⟨hc, hi⟩)
  · simpa [hi] using h
set_option maxRecDepth 65536 in
theorem w_c0 : (Jvm.Cond.code x code maxLocals ret).before args0 about1 = true := code_word (m := ⟨1, 1⟩) (meth := k1m1) (c := k1c1) (by decide +kernel) rfl rfl rfl (by decide +kernel)
set_option maxRecDepth 65536 in
theorem w_c1 : (Jvm.Cond.code ({ cls := "com/example/urnwise/urnwise/sampler/SmallestKeys", name := "<init>", desc := "(I)V" } : Jvm.MethodName) prog_15_method_1_code (2 : Nat) (Option.none : Option Jvm.ClassFile.FieldType)).before args0 about1 = true := code_word (m := ⟨2, 0⟩) (meth := k2m0) (c := k2c0) (by decide +kernel) rfl rfl rfl (by decide +kernel)
set_option maxRecDepth 65536 in
theorem w_c2 : (Jvm.Cond.code ({ cls := "java/lang/Object", name := "<init>", desc := "()V" } : Jvm.MethodName) object_method_1_code (1 : Nat) (Option.none : Option Jvm.ClassFile.FieldType)).before args0 about1 = true := code_word (m := ⟨0, 0⟩) (meth := k0m0) (c := k0c0) (by decide +kernel) rfl rfl rfl (by decide +kernel)
set_option maxRecDepth 65536 in
theorem w_c3 : (Jvm.Cond.code ({ cls := "java/lang/Math", name := "min", desc := "(II)I" } : Jvm.MethodName) jdk_29_method_69_code (2 : Nat) (Option.some Jvm.ClassFile.FieldType.int)).before args0 about1 = true := code_word (m := ⟨3, 1⟩) (meth := k3m1) (c := k3c1) (by decide +kernel) rfl rfl rfl (by decide +kernel)
set_option maxRecDepth 65536 in
theorem w_c4 : (Jvm.Cond.code ({ cls := "com/example/urnwise/urnwise/sampler/SmallestKeys", name := "isFull", desc := "()Z" } : Jvm.MethodName) prog_15_method_4_code (1 : Nat) (Option.some Jvm.ClassFile.FieldType.boolean)).before args0 about1 = true := code_word (m := ⟨2, 3⟩) (meth := k2m3) (c := k2c3) (by decide +kernel) rfl rfl rfl (by decide +kernel)
set_option maxRecDepth 65536 in
theorem w_c5 : (Jvm.Cond.code ({ cls := "com/example/urnwise/urnwise/sampler/SmallestKeys", name := "size", desc := "()I" } : Jvm.MethodName) prog_15_method_3_code (1 : Nat) (Option.some Jvm.ClassFile.FieldType.int)).before args0 about1 = true := code_word (m := ⟨2, 2⟩) (meth := k2m2) (c := k2c2) (by decide +kernel) rfl rfl rfl (by decide +kernel)
set_option maxRecDepth 65536 in
theorem w_c6 : (Jvm.Cond.code ({ cls := "com/example/urnwise/urnwise/sampler/SmallestKeys", name := "offer", desc := "(DI)V" } : Jvm.MethodName) prog_15_method_2_code (4 : Nat) (Option.none : Option Jvm.ClassFile.FieldType)).before args0 about1 = true := code_word (m := ⟨2, 1⟩) (meth := k2m1) (c := k2c1) (by decide +kernel) rfl rfl rfl (by decide +kernel)
set_option maxRecDepth 65536 in
theorem w_c7 : (Jvm.Cond.code ({ cls := "com/example/urnwise/urnwise/sampler/SmallestKeys", name := "siftUp", desc := "(IDI)V" } : Jvm.MethodName) prog_15_method_11_code (6 : Nat) (Option.none : Option Jvm.ClassFile.FieldType)).before args0 about1 = true := code_word (m := ⟨2, 5⟩) (meth := k2m5) (c := k2c5) (by decide +kernel) rfl rfl rfl (by decide +kernel)
set_option maxRecDepth 65536 in
theorem w_c8 : (Jvm.Cond.code ({ cls := "com/example/urnwise/urnwise/sampler/SmallestKeys", name := "siftDown", desc := "(IDI)V" } : Jvm.MethodName) prog_15_method_10_code (6 : Nat) (Option.none : Option Jvm.ClassFile.FieldType)).before args0 about1 = true := code_word (m := ⟨2, 4⟩) (meth := k2m4) (c := k2c4) (by decide +kernel) rfl rfl rfl (by decide +kernel)
def codes1 : List Jvm.Cond := [Jvm.Cond.code x code maxLocals ret, Jvm.Cond.code ({ cls := "com/example/urnwise/urnwise/sampler/SmallestKeys", name := "<init>", desc := "(I)V" } : Jvm.MethodName) prog_15_method_1_code (2 : Nat) (Option.none : Option Jvm.ClassFile.FieldType), Jvm.Cond.code ({ cls := "java/lang/Object", name := "<init>", desc := "()V" } : Jvm.MethodName) object_method_1_code (1 : Nat) (Option.none : Option Jvm.ClassFile.FieldType), Jvm.Cond.code ({ cls := "java/lang/Math", name := "min", desc := "(II)I" } : Jvm.MethodName) jdk_29_method_69_code (2 : Nat) (Option.some Jvm.ClassFile.FieldType.int), Jvm.Cond.code ({ cls := "com/example/urnwise/urnwise/sampler/SmallestKeys", name := "isFull", desc := "()Z" } : Jvm.MethodName) prog_15_method_4_code (1 : Nat) (Option.some Jvm.ClassFile.FieldType.boolean), Jvm.Cond.code ({ cls := "com/example/urnwise/urnwise/sampler/SmallestKeys", name := "size", desc := "()I" } : Jvm.MethodName) prog_15_method_3_code (1 : Nat) (Option.some Jvm.ClassFile.FieldType.int), Jvm.Cond.code ({ cls := "com/example/urnwise/urnwise/sampler/SmallestKeys", name := "offer", desc := "(DI)V" } : Jvm.MethodName) prog_15_method_2_code (4 : Nat) (Option.none : Option Jvm.ClassFile.FieldType), Jvm.Cond.code ({ cls := "com/example/urnwise/urnwise/sampler/SmallestKeys", name := "siftUp", desc := "(IDI)V" } : Jvm.MethodName) prog_15_method_11_code (6 : Nat) (Option.none : Option Jvm.ClassFile.FieldType), Jvm.Cond.code ({ cls := "com/example/urnwise/urnwise/sampler/SmallestKeys", name := "siftDown", desc := "(IDI)V" } : Jvm.MethodName) prog_15_method_10_code (6 : Nat) (Option.none : Option Jvm.ClassFile.FieldType)]
set_option maxRecDepth 65536 in
theorem codes_eq : words1.filter isCode = codes1 := rfl
theorem w_codes : ∀ c ∈ words1.filter isCode, c.before args0 about1 = true := by
  rw [codes_eq]
  intro c hc
  simp only [codes1, List.mem_cons, List.not_mem_nil, or_false] at hc
  rcases hc with rfl | rfl | rfl | rfl | rfl | rfl | rfl | rfl | rfl
  · exact w_c0
  · exact w_c1
  · exact w_c2
  · exact w_c3
  · exact w_c4
  · exact w_c5
  · exact w_c6
  · exact w_c7
  · exact w_c8
set_option maxRecDepth 65536 in
theorem w_t1 : (words1.take 24).all (fun c => isCode c || c.before args0 about1) = true := by decide +kernel
set_option maxRecDepth 65536 in
theorem w_t2 : ((words1.drop 24).take 24).all (fun c => isCode c || c.before args0 about1) = true := by decide +kernel
set_option maxRecDepth 65536 in
theorem w_t3 : ((words1.drop 24).drop 24).all (fun c => isCode c || c.before args0 about1) = true := by decide +kernel
theorem w_tables : (allAtoms (Jvm.Cond.code x code maxLocals ret :: tables_1)).before args0 about1 = true := by
  rw [allAtoms_all]
  show words1.all (fun c => c.before args0 about1) = true
  refine all_split ?_ w_codes
  rw [← List.take_append_drop 24 words1, List.all_append, w_t1, ← List.take_append_drop 24 (words1.drop 24), List.all_append, w_t2, w_t3]
  rfl
set_option maxRecDepth 65536 in
theorem w_case : (Jvm.Cond.and given_1 narrow_1).before args0 about1 = true := by decide +kernel
theorem w_applies : (headSpec (Jvm.Cond.code x code maxLocals ret :: tables_1) room_1).applies x e0.platform about1 = true :=
  (Spec.applies_iff w_frames).mpr ⟨w_running, w_runnable, w_alone, w_named, w_hears, w_ripe, w_room, w_tables⟩
theorem atStart : AtStart classFile x code maxLocals ret World_1 tables_1 room_1 Calls_1 rest_1 Pre_1 launch0 p0 e0 about1 theMethod args0 below0 :=
  ⟨lists_1, trivial, launch0.admits_env _ _ _, launch0.least_env, fairChoices_fair.cas, fairChoices_fair.clock, w_frames, w_args, w_heap, w_applies, trivial, trivial, w_case⟩
end start1
theorem witness_1 : WitnessClaimed_1 := ⟨start1.p0, start1.e0, start1.about1, start1.theMethod, start1.args0, start1.below0, start1.atStart⟩
end Jvm.Pilot.@@N@@
