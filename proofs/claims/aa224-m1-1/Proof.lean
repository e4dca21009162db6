import JvmDerived
import JvmDerived.Pilot.@@N@@Statement
import JvmDerived.Pilot.@@N@@Code
set_option linter.unusedVariables false
set_option linter.unusedSimpArgs false
namespace Jvm.OwnGo
open Jvm Sem ClassFile Op Lib Jvm.Stand Jvm.Free Jvm.LawKit Jvm.RoadKit
/-! ## 1. where a walk stands, and how it ends -/
/-- a walk may bear one more word on its base; KT: none -/
def KT : State → Prop := fun _ => True
def Ctx (K : State → Prop) (Z : State) (y : MethodName) (bytes : ByteArray) (ml : Nat) (ret : Option FieldType) (p : Program) (s : State) (m : MethodId) (meth : Method) (c : Code) : Prop :=
  p.tables.exec = Jvm.exec ∧ c.code = bytes ∧ c.maxLocals = ml ∧ s.vm.findClass y.cls = some m.cls ∧ Z.Warmed39 s.vm ∧ meth.sig.returnType = ret ∧ meth.locks = false ∧ meth.name = y.name ∧ K s
/-- what the walk's base has to do with the method's start: the same, or (where literals may be made) the start under later tables -/
def Base (wd : Bool) (s0 s : State) (h : Heap) : Prop := if wd = true then ∃ vm0 k0, s = s0.setVm vm0 ∧ s0.Since vm0 k0 ∧ k0 ≤ h.size else s = s0
def EndK (wd : Bool) (s0 : State) (o : Outcome) (t : State) (L : List Loc) (k n : Nat) : Prop := if wd = true then ReturnedEndW s0 o t L k n else FrameEnd s0 o t L k n
def Ends (wd : Bool) (n0 kc ks : Nat) (Q : Option Value → Heap → Prop) (p : Program) (e : Env) (below : List Frame) (s0 T : State) (g : JFrame) : Prop :=
  ∃ s₂ o, Steps p.tables e below (T.setTop g) s₂ ∧ s₂.status = .running ∧ Ended s₂ below o ∧ ∃ v L, o = .returned v ∧ (Q v s₂.heap ∧ Fr n0 L) ∧ EndK wd s0 o s₂ L kc ks
def Go (wd : Bool) (K : State → Prop) (l : Launch) (Z : State) (R : Room) (y : MethodName) (bytes : ByteArray) (ml : Nat) (ret : Option FieldType) (n0 kc ks : Nat) (Q : Option Value → Heap → Prop) (h : Heap) (k n pc : Nat) (ls : List Slot) (st : List Value) : Prop :=
  ∀ (p : Program) (e : Env) (s0 s : State) (m : MethodId) (args : Array Value) (below : List Frame) (meth : Method) (c : Code) (T : State) (L : List Loc),
    Base wd s0 s h → Ctx K Z y bytes ml ret p s m meth c → Stand p l e R s m args below meth c T L k n → T.heap = h → Fr n0 L → Ends wd n0 kc ks Q p e below s0 T (mkF m pc ls.toArray st)
/-- a contract: what a body leaves, called with the values as' over the heap h -/
def Con (wd : Bool) (l : Launch) (Z : State) (y : MethodName) (bytes : ByteArray) (ml : Nat) (ret : Option FieldType) (rm : Room) (as' : Array Value) (h : Heap) (n0 : Nat) (Q : Option Value → Heap → Prop) : Prop :=
  ∀ ws : List Cond, MetFree l y (head1 (Cond.code y bytes ml ret :: ws) rm) (fun a U => a = as' ∧ Z.Warmed39 U.vm ∧ U.heap = h) (fun _ _ _ _ _ => True)
    (fun _ U o U' => ∃ v L, o = .returned v ∧ ((Q v U'.heap ∧ h.size ≤ U'.heap.size) ∧ Fr n0 L) ∧ EndK wd U o U' L rm.cells rm.slots)
/-- it returns a value -/
def R1 (P : Value → Heap → Prop) : Option Value → Heap → Prop := fun v h => ∃ w, v = some w ∧ P w h
/-- it returns nothing -/
def R0 (P : Heap → Prop) : Option Value → Heap → Prop := fun v h => v = none ∧ P h
/-- it returns this value and leaves the heap as it was -/
abbrev Ret (w : Value) (h : Heap) : Option Value → Heap → Prop := R1 fun w' h' => w' = w ∧ h = h'
/-- a local variable written over -/
def setl : List Slot → Nat → Slot → List Slot
  | [], _, _ => []
  | _ :: r, 0, x => x :: r
  | a :: r, i + 1, x => a :: setl r i x
def lupd {α : Type} : List α → Nat → α → List α
  | [], _, _ => []
  | _ :: r, 0, x => x :: r
  | a :: r, i + 1, x => a :: lupd r i x
def one : Slot → Bool
  | .unset => true
  | .val v => v.category == 1
  | .second => false
def two : Slot → Slot → Bool
  | .val v, .second => v.category == 2
  | a, b => one a && one b
def Dc (bytes : ByteArray) (pc : Nat) (i : Instr) (len pc' : Nat) : Prop := decode bytes pc = .ok (i, len) ∧ pc + len = pc'
def Dp (bytes : ByteArray) (pc : Nat) (v : Int32) (pc' : Nat) : Prop := (∃ i, decode bytes pc = .ok (.iconst i, 1) ∧ Int32.ofInt i = v ∧ pc + 1 = pc') ∨ (∃ i, decode bytes pc = .ok (.bipush i, 2) ∧ (Int8.ofInt i).toInt32 = v ∧ pc + 2 = pc') ∨ (∃ i, decode bytes pc = .ok (.sipush i, 3) ∧ (Int16.ofInt i).toInt32 = v ∧ pc + 3 = pc')
def Dlc (bytes : ByteArray) (pc : Nat) (v : Int64) (pc' : Nat) : Prop := ∃ k : Fin 2, decode bytes pc = .ok (.lconst k, 1) ∧ Int64.ofNat k = v ∧ pc + 1 = pc'
/-- a branch: where it goes on, and where it leads -/
def Db (bytes : ByteArray) (pc : Nat) (f : Int → Instr) (pc' tg : Nat) : Prop := ∃ o : Int, decode bytes pc = .ok (f o, 3) ∧ pc + 3 = pc' ∧ 0 ≤ (pc : Int) + o ∧ ((pc : Int) + o).toNat = tg
def Dld (bytes : ByteArray) (pc : Nat) (f : Nat → Instr) (fn : Fin 4 → Instr) (i pc' : Nat) : Prop := (decode bytes pc = .ok (f i, 2) ∧ pc + 2 = pc') ∨ (∃ k : Fin 4, decode bytes pc = .ok (fn k, 1) ∧ k.val = i ∧ pc + 1 = pc')
def Dinc (bytes : ByteArray) (pc i : Nat) (v : Int32) (pc' : Nat) : Prop := ∃ c : Int, decode bytes pc = .ok (.iinc i c, 3) ∧ Int32.ofInt c = v ∧ pc + 3 = pc'
/-- the same, by the instructions' sorts -/
abbrev Dil (b : ByteArray) (pc i pc' : Nat) : Prop := Dld b pc .iload .iload_n i pc'
abbrev Dal (b : ByteArray) (pc i pc' : Nat) : Prop := Dld b pc .aload .aload_n i pc'
abbrev Dll (b : ByteArray) (pc i pc' : Nat) : Prop := Dld b pc .lload .lload_n i pc'
abbrev Dis (b : ByteArray) (pc i pc' : Nat) : Prop := Dld b pc .istore .istore_n i pc'
abbrev Das (b : ByteArray) (pc i pc' : Nat) : Prop := Dld b pc .astore .astore_n i pc'
abbrev Dls (b : ByteArray) (pc i pc' : Nat) : Prop := Dld b pc .lstore .lstore_n i pc'
section Walk
variable {wd : Bool} {K₀ : State → Prop} {l : Launch} {Z : State} {R : Room} {y : MethodName} {bytes : ByteArray} {ml : Nat} {ret : Option FieldType} {n0 kc ks : Nat} {Q : Option Value → Heap → Prop} {h : Heap} {k n pc pc' tg i : Nat} {ls : List Slot} {st : List Value} {a0 : Array Value}
theorem lrem64 (x y : Int64) : x - x / y * y = x % y := by
  apply Int64.toInt_inj.mp
  have h1 := Int64.le_toInt (x % y)
  have h2 := Int64.toInt_lt (x % y)
  rw [Int64.toInt_sub, Int64.toInt_mul, Int64.toInt_div, Int.bmod_mul_bmod, Int.sub_bmod_bmod, Int.mul_comm (x.toInt.tdiv y.toInt), ← Int.tmod_def, ← Int64.toInt_mod]
  exact Int.bmod_eq_of_le_mul_two (by omega) (by omega)
theorem setl_arr : ∀ (ls : List Slot) (i : Nat) (x : Slot), (setl ls i x).toArray = ls.toArray.setIfInBounds i x := by
  intro ls i x
  rw [List.setIfInBounds_toArray]
  congr 1
  induction ls generalizing i with
  | nil => simp [setl]
  | cons a r ih => cases i with
    | zero => simp [setl]
    | succ i => simp [setl, ih]
theorem setl_len : ∀ (ls : List Slot) (i : Nat) (x : Slot), (setl ls i x).length = ls.length := by
  intro ls i x
  induction ls generalizing i with
  | nil => rfl
  | cons a r ih => cases i with
    | zero => rfl
    | succ i => simp [setl, ih]
theorem upd_set {α : Type} : ∀ (ls : List α) (i : Nat) (x : α), lupd ls i x = ls.set i x := by
  intro ls i x
  induction ls generalizing i with
  | nil => simp [lupd]
  | cons a r ih => cases i with
    | zero => simp [lupd]
    | succ i => simp [lupd, ih]
theorem setl_get {ls : List Slot} {i : Nat} {x o : Slot} (h : ls[i]? = some o) (j : Nat) : (setl ls i x)[j]? = if j = i then some x else ls[j]? := by
  induction ls generalizing i j with
  | nil => simp at h
  | cons a r ih => cases i with
    | zero => cases j <;> simp [setl]
    | succ i => cases j with
      | zero => simp [setl]
      | succ j => simp only [setl, List.getElem?_cons_succ] at h ⊢; rw [ih h j]; simp
theorem Base.mono {s0 s : State} {h' : Heap} (B : Base wd s0 s h) (q : h.size ≤ h'.size) : Base wd s0 s h' := by
  cases wd
  · exact B
  · obtain ⟨vm0, k0, e1, e2, e3⟩ := B; exact ⟨vm0, k0, e1, e2, Nat.le_trans e3 q⟩
theorem Base.start (s : State) (hh : s.heap = h) : Base wd s s h := by
  cases wd
  · exact (rfl : s = s)
  · exact ⟨s.vm, h.size, rfl, (State.WarmedH.refl s).since _, Nat.le_refl _⟩
theorem EndK.size {s0 t : State} {o : Outcome} {L : List Loc} {k n : Nat} (E : EndK wd s0 o t L k n) : s0.heap.size ≤ t.heap.size := by
  cases wd
  · exact E.2.2.2.1
  · exact E.2.2.2.2.1
theorem endK {s0 s T : State} {fs : List Frame} {v : Option Value} {L : List Loc} (B : Base wd s0 s h) (hh : T.heap = h) (hW : s.WarmedH (T.setFrames fs).vm) (hsame : s.sameButNew ({ T.setFrames fs with vm := s.vm } : State) L k n) (hk : k ≤ kc) (hn : n ≤ ks) : EndK wd s0 (.returned v) (T.setFrames fs) L kc ks := by
  cases wd
  · have e : s = s0 := B
    subst e
    exact ⟨⟨_, rfl⟩, hW, hsame.mono hk hn⟩
  · obtain ⟨vm0, k0, rfl, hS, hk0⟩ := B
    obtain ⟨a1, a2, a3⟩ := hS.ended (U := T.setFrames fs) hW (by show k0 ≤ T.heap.size; rw [hh]; exact hk0) hsame
    exact ⟨⟨_, rfl⟩, a1, a2, a3.mono hk hn⟩
theorem Ends.pre {p : Program} {e : Env} {below : List Frame} {s0 T T' : State} {g g' : JFrame} (E : Ends wd n0 kc ks Q p e below s0 T' g') (st : ∀ t, Steps p.tables e below (T'.setTop g') t → Steps p.tables e below (T.setTop g) t) : Ends wd n0 kc ks Q p e below s0 T g := by
  obtain ⟨s₂, o, h1, r⟩ := E; exact ⟨s₂, o, st _ h1, r⟩
theorem go_pure {ls' : List Slot} {st' : List Value} (G : Go wd K₀ l Z R y bytes ml ret n0 kc ks Q h k n pc' ls' st') (H : ∀ {p : Program} {e : Env} {s : State} {m : MethodId} {args : Array Value} {below : List Frame} {meth : Method} {c : Code} {T : State} {L : List Loc}, Ctx K₀ Z y bytes ml ret p s m meth c → Stand p l e R s m args below meth c T L k n →
    ∀ t, Steps p.tables e below (T.setTop (mkF m pc' ls'.toArray st')) t → Steps p.tables e below (T.setTop (mkF m pc ls.toArray st)) t) : Go wd K₀ l Z R y bytes ml ret n0 kc ks Q h k n pc ls st :=
  fun p e s0 s m args below meth c T L B C X hh N => (G p e s0 s m args below meth c T L B C X hh N).pre (H C X)
theorem go_more {k' n' : Nat} (hk : k ≤ k') (hn : n ≤ n') (G : Go wd K₀ l Z R y bytes ml ret n0 kc ks Q h k' n' pc ls st) : Go wd K₀ l Z R y bytes ml ret n0 kc ks Q h k n pc ls st :=
  fun p e s0 s m args below meth c T L B C X hh N => G p e s0 s m args below meth c T L B C (X.more hk hn) hh N
theorem go_nameI {x : Int32} (G : ∀ v : Int32, v = x → Go wd K₀ l Z R y bytes ml ret n0 kc ks Q h k n pc ls (.int v :: st)) : Go wd K₀ l Z R y bytes ml ret n0 kc ks Q h k n pc ls (.int x :: st) := G x rfl
theorem go_nameJ {x : Int64} (G : ∀ v : Int64, v = x → Go wd K₀ l Z R y bytes ml ret n0 kc ks Q h k n pc ls (.long v :: st)) : Go wd K₀ l Z R y bytes ml ret n0 kc ks Q h k n pc ls (.long x :: st) := G x rfl
theorem go_isI {x : Int32} (x' : Int32) (q : x = x') (G : Go wd K₀ l Z R y bytes ml ret n0 kc ks Q h k n pc ls (.int x' :: st)) : Go wd K₀ l Z R y bytes ml ret n0 kc ks Q h k n pc ls (.int x :: st) := q ▸ G
theorem go_isJ {x : Int64} (x' : Int64) (q : x = x') (G : Go wd K₀ l Z R y bytes ml ret n0 kc ks Q h k n pc ls (.long x' :: st)) : Go wd K₀ l Z R y bytes ml ret n0 kc ks Q h k n pc ls (.long x :: st) := q ▸ G
theorem go_iload {v : Int32} (D : Dil bytes pc i pc') (hl : ls[i]? = some (.val (.int v))) (G : Go wd K₀ l Z R y bytes ml ret n0 kc ks Q h k n pc' ls (.int v :: st)) : Go wd K₀ l Z R y bytes ml ret n0 kc ks Q h k n pc ls st := by
  rcases D with ⟨hd, rfl⟩ | ⟨kk, hd, rfl, rfl⟩
  · exact go_pure G (fun C X t => XS.iload X.here C.1 (g := mkF _ pc ls.toArray st) rfl (hb C.2.1 hd) (by simpa using hl))
  · exact go_pure G (fun C X t => XS.iloadN X.here C.1 (g := mkF _ pc ls.toArray st) rfl (hb C.2.1 hd) (by simpa using hl))
theorem go_lload {v : Int64} (D : Dll bytes pc i pc') (hl : ls[i]? = some (.val (.long v))) (G : Go wd K₀ l Z R y bytes ml ret n0 kc ks Q h k n pc' ls (.long v :: st)) : Go wd K₀ l Z R y bytes ml ret n0 kc ks Q h k n pc ls st := by
  rcases D with ⟨hd, rfl⟩ | ⟨kk, hd, rfl, rfl⟩
  · exact go_pure G (fun C X t => XT.lload X.here C.1 (g := mkF _ pc ls.toArray st) rfl (hb C.2.1 hd) (by simpa using hl))
  · exact go_pure G (fun C X t => XT.lloadN X.here C.1 (g := mkF _ pc ls.toArray st) rfl (hb C.2.1 hd) (by simpa using hl))
theorem go_aload {v : Value} (D : Dal bytes pc i pc') (hl : ls[i]? = some (.val v)) (hv : v.isRef = true) (G : Go wd K₀ l Z R y bytes ml ret n0 kc ks Q h k n pc' ls (v :: st)) : Go wd K₀ l Z R y bytes ml ret n0 kc ks Q h k n pc ls st := by
  rcases D with ⟨hd, rfl⟩ | ⟨kk, hd, rfl, rfl⟩
  · exact go_pure G (fun C X t => XS.aload X.here C.1 (g := mkF _ pc ls.toArray st) rfl (hb C.2.1 hd) (by simpa using hl) hv)
  · exact go_pure G (fun C X t => XS.aloadN X.here C.1 (g := mkF _ pc ls.toArray st) rfl (hb C.2.1 hd) (by simpa using hl) hv)
theorem store_one {ls : List Slot} {i : Nat} {v : Value} {o : Slot} (hv : v.category = 1) (hl : ls[i]? = some o) (ho : one o = true) : storeLocals ls.toArray i v = some (setl ls i (.val v)).toArray := by
  rw [setl_arr]
  refine storeLocals_cat1 (x := o) (by simpa using hl) hv ?_
  cases o <;> simp [one] at ho ⊢
  exact ho
theorem store_two {ls : List Slot} {i : Nat} {v : Value} {o o' : Slot} (hv : v.category = 2) (hl : ls[i]? = some o) (hl' : ls[i + 1]? = some o') (ho : two o o' = true) : storeLocals ls.toArray i v = some (setl (setl ls i (.val v)) (i + 1) .second).toArray := by
  rw [setl_arr, setl_arr]
  refine Jvm.Free.Fl.storeLocals_cat2 (by simpa using hl) (by simpa using hl') hv ?_
  cases o <;> cases o' <;> simp_all [two, one, Jvm.Free.Fl.Plain1]
theorem go_istore {x : Int32} {o : Slot} (D : Dis bytes pc i pc') (hl : ls[i]? = some o) (ho : one o = true) (G : Go wd K₀ l Z R y bytes ml ret n0 kc ks Q h k n pc' (setl ls i (.val (.int x))) st) : Go wd K₀ l Z R y bytes ml ret n0 kc ks Q h k n pc ls (.int x :: st) := by
  rcases D with ⟨hd, rfl⟩ | ⟨kk, hd, rfl, rfl⟩
  · exact go_pure G (fun C X t => XS.istore X.here C.1 (g := mkF _ pc ls.toArray (.int x :: st)) rfl (hb C.2.1 hd) rfl (store_one rfl hl ho))
  · exact go_pure G (fun C X t => XS.istoreN X.here C.1 (g := mkF _ pc ls.toArray (.int x :: st)) rfl (hb C.2.1 hd) rfl (store_one rfl hl ho))
theorem go_astore {x : Value} {o : Slot} (D : Das bytes pc i pc') (hv : x.isRef = true) (hl : ls[i]? = some o) (ho : one o = true) (G : Go wd K₀ l Z R y bytes ml ret n0 kc ks Q h k n pc' (setl ls i (.val x)) st) : Go wd K₀ l Z R y bytes ml ret n0 kc ks Q h k n pc ls (x :: st) := by
  have hc : x.category = 1 := XT.cat1 hv
  rcases D with ⟨hd, rfl⟩ | ⟨kk, hd, rfl, rfl⟩
  · exact go_pure G (fun C X t => XS.astore X.here C.1 (g := mkF _ pc ls.toArray (x :: st)) rfl (hb C.2.1 hd) rfl hv (store_one hc hl ho))
  · exact go_pure G (fun C X t => XS.astoreN X.here C.1 (g := mkF _ pc ls.toArray (x :: st)) rfl (hb C.2.1 hd) rfl hv (store_one hc hl ho))
theorem go_lstore {x : Int64} {o o' : Slot} (D : Dls bytes pc i pc') (hl : ls[i]? = some o) (hl' : ls[i + 1]? = some o') (ho : two o o' = true) (G : Go wd K₀ l Z R y bytes ml ret n0 kc ks Q h k n pc' (setl (setl ls i (.val (.long x))) (i + 1) .second) st) : Go wd K₀ l Z R y bytes ml ret n0 kc ks Q h k n pc ls (.long x :: st) := by
  rcases D with ⟨hd, rfl⟩ | ⟨kk, hd, rfl, rfl⟩
  · exact go_pure G (fun C X t => XT.lstore X.here C.1 (g := mkF _ pc ls.toArray (.long x :: st)) rfl (hb C.2.1 hd) rfl (store_two rfl hl hl' ho))
  · exact go_pure G (fun C X t => XT.lstoreN X.here C.1 (g := mkF _ pc ls.toArray (.long x :: st)) rfl (hb C.2.1 hd) rfl (store_two rfl hl hl' ho))
/-- any store, the locals said -/
theorem go_istoreX {x : Int32} {ls' : List Slot} (D : Dis bytes pc i pc') (hl : storeLocals ls.toArray i (.int x) = some ls'.toArray) (G : Go wd K₀ l Z R y bytes ml ret n0 kc ks Q h k n pc' ls' st) : Go wd K₀ l Z R y bytes ml ret n0 kc ks Q h k n pc ls (.int x :: st) := by
  rcases D with ⟨hd, rfl⟩ | ⟨kk, hd, rfl, rfl⟩
  · exact go_pure G (fun C X t => XS.istore X.here C.1 (g := mkF _ pc ls.toArray (.int x :: st)) rfl (hb C.2.1 hd) rfl hl)
  · exact go_pure G (fun C X t => XS.istoreN X.here C.1 (g := mkF _ pc ls.toArray (.int x :: st)) rfl (hb C.2.1 hd) rfl hl)
theorem go_astoreX {x : Value} {ls' : List Slot} (D : Das bytes pc i pc') (hv : x.isRef = true) (hl : storeLocals ls.toArray i x = some ls'.toArray) (G : Go wd K₀ l Z R y bytes ml ret n0 kc ks Q h k n pc' ls' st) : Go wd K₀ l Z R y bytes ml ret n0 kc ks Q h k n pc ls (x :: st) := by
  rcases D with ⟨hd, rfl⟩ | ⟨kk, hd, rfl, rfl⟩
  · exact go_pure G (fun C X t => XS.astore X.here C.1 (g := mkF _ pc ls.toArray (x :: st)) rfl (hb C.2.1 hd) rfl hv hl)
  · exact go_pure G (fun C X t => XS.astoreN X.here C.1 (g := mkF _ pc ls.toArray (x :: st)) rfl (hb C.2.1 hd) rfl hv hl)
theorem go_lstoreX {x : Int64} {ls' : List Slot} (D : Dls bytes pc i pc') (hl : storeLocals ls.toArray i (.long x) = some ls'.toArray) (G : Go wd K₀ l Z R y bytes ml ret n0 kc ks Q h k n pc' ls' st) : Go wd K₀ l Z R y bytes ml ret n0 kc ks Q h k n pc ls (.long x :: st) := by
  rcases D with ⟨hd, rfl⟩ | ⟨kk, hd, rfl, rfl⟩
  · exact go_pure G (fun C X t => XT.lstore X.here C.1 (g := mkF _ pc ls.toArray (.long x :: st)) rfl (hb C.2.1 hd) rfl hl)
  · exact go_pure G (fun C X t => XT.lstoreN X.here C.1 (g := mkF _ pc ls.toArray (.long x :: st)) rfl (hb C.2.1 hd) rfl hl)
theorem go_iinc {x v : Int32} (D : Dinc bytes pc i v pc') (hl : ls[i]? = some (.val (.int x))) (G : Go wd K₀ l Z R y bytes ml ret n0 kc ks Q h k n pc' (setl ls i (.val (.int (x + v)))) st) : Go wd K₀ l Z R y bytes ml ret n0 kc ks Q h k n pc ls st := by
  obtain ⟨c, hd, rfl, rfl⟩ := D
  exact go_pure G (fun C X t => XS.iinc X.here C.1 (g := mkF _ pc ls.toArray st) rfl (hb C.2.1 hd) (by simpa using hl) (store_one rfl hl rfl))
theorem go_iincX {x v x' : Int32} (D : Dinc bytes pc i v pc') (hl : ls[i]? = some (.val (.int x))) (q : x + v = x') (G : Go wd K₀ l Z R y bytes ml ret n0 kc ks Q h k n pc' (setl ls i (.val (.int x'))) st) : Go wd K₀ l Z R y bytes ml ret n0 kc ks Q h k n pc ls st := go_iinc D hl (q ▸ G)
theorem go_push {v : Int32} (D : Dp bytes pc v pc') (G : Go wd K₀ l Z R y bytes ml ret n0 kc ks Q h k n pc' ls (.int v :: st)) : Go wd K₀ l Z R y bytes ml ret n0 kc ks Q h k n pc ls st := by
  rcases D with ⟨_, hd, rfl, rfl⟩ | ⟨_, hd, rfl, rfl⟩ | ⟨_, hd, rfl, rfl⟩
  · exact go_pure G (fun C X t => XS.iconst X.here C.1 (g := mkF _ pc ls.toArray st) rfl (hb C.2.1 hd))
  · exact go_pure G (fun C X t => XS.bipush X.here C.1 (g := mkF _ pc ls.toArray st) rfl (hb C.2.1 hd))
  · exact go_pure G (fun C X t => XS.sipush X.here C.1 (g := mkF _ pc ls.toArray st) rfl (hb C.2.1 hd))
theorem go_lconst {v : Int64} (D : Dlc bytes pc v pc') (G : Go wd K₀ l Z R y bytes ml ret n0 kc ks Q h k n pc' ls (.long v :: st)) : Go wd K₀ l Z R y bytes ml ret n0 kc ks Q h k n pc ls st := by
  obtain ⟨_, hd, rfl, rfl⟩ := D
  exact go_pure G (fun C X t => XT.lconst X.here C.1 (g := mkF _ pc ls.toArray st) rfl (hb C.2.1 hd))
theorem go_null (D : Dc bytes pc .aconst_null 1 pc') (G : Go wd K₀ l Z R y bytes ml ret n0 kc ks Q h k n pc' ls (.null :: st)) : Go wd K₀ l Z R y bytes ml ret n0 kc ks Q h k n pc ls st := by
  obtain ⟨hd, rfl⟩ := D
  exact go_pure G (fun C X t => XS.aconstNull X.here C.1 (g := mkF _ pc ls.toArray st) rfl (hb C.2.1 hd))
theorem go_iadd {a : Int32} {b : Int32} (D : Dc bytes pc .iadd 1 pc') (G : Go wd K₀ l Z R y bytes ml ret n0 kc ks Q h k n pc' ls (.int (a + b) :: st)) : Go wd K₀ l Z R y bytes ml ret n0 kc ks Q h k n pc ls (.int b :: .int a :: st) := by
  obtain ⟨hd, rfl⟩ := D
  exact go_pure G (fun C X t => XS.iadd X.here C.1 (g := mkF _ pc ls.toArray (.int b :: .int a :: st)) rfl (hb C.2.1 hd) rfl)
theorem go_isub {a : Int32} {b : Int32} (D : Dc bytes pc .isub 1 pc') (G : Go wd K₀ l Z R y bytes ml ret n0 kc ks Q h k n pc' ls (.int (a - b) :: st)) : Go wd K₀ l Z R y bytes ml ret n0 kc ks Q h k n pc ls (.int b :: .int a :: st) := by
  obtain ⟨hd, rfl⟩ := D
  exact go_pure G (fun C X t => XS.isub X.here C.1 (g := mkF _ pc ls.toArray (.int b :: .int a :: st)) rfl (hb C.2.1 hd) rfl)
theorem go_imul {a : Int32} {b : Int32} (D : Dc bytes pc .imul 1 pc') (G : Go wd K₀ l Z R y bytes ml ret n0 kc ks Q h k n pc' ls (.int (a * b) :: st)) : Go wd K₀ l Z R y bytes ml ret n0 kc ks Q h k n pc ls (.int b :: .int a :: st) := by
  obtain ⟨hd, rfl⟩ := D
  exact go_pure G (fun C X t => XS.imul X.here C.1 (g := mkF _ pc ls.toArray (.int b :: .int a :: st)) rfl (hb C.2.1 hd) rfl)
theorem go_iand {a : Int32} {b : Int32} (D : Dc bytes pc .iand 1 pc') (G : Go wd K₀ l Z R y bytes ml ret n0 kc ks Q h k n pc' ls (.int (a &&& b) :: st)) : Go wd K₀ l Z R y bytes ml ret n0 kc ks Q h k n pc ls (.int b :: .int a :: st) := by
  obtain ⟨hd, rfl⟩ := D
  exact go_pure G (fun C X t => XS.iand X.here C.1 (g := mkF _ pc ls.toArray (.int b :: .int a :: st)) rfl (hb C.2.1 hd) rfl)
theorem go_ior {a : Int32} {b : Int32} (D : Dc bytes pc .ior 1 pc') (G : Go wd K₀ l Z R y bytes ml ret n0 kc ks Q h k n pc' ls (.int (a ||| b) :: st)) : Go wd K₀ l Z R y bytes ml ret n0 kc ks Q h k n pc ls (.int b :: .int a :: st) := by
  obtain ⟨hd, rfl⟩ := D
  exact go_pure G (fun C X t => XT.ior X.here C.1 (g := mkF _ pc ls.toArray (.int b :: .int a :: st)) rfl (hb C.2.1 hd) rfl)
theorem go_ixor {a : Int32} {b : Int32} (D : Dc bytes pc .ixor 1 pc') (G : Go wd K₀ l Z R y bytes ml ret n0 kc ks Q h k n pc' ls (.int (a ^^^ b) :: st)) : Go wd K₀ l Z R y bytes ml ret n0 kc ks Q h k n pc ls (.int b :: .int a :: st) := by
  obtain ⟨hd, rfl⟩ := D
  exact go_pure G (fun C X t => XT.ixor X.here C.1 (g := mkF _ pc ls.toArray (.int b :: .int a :: st)) rfl (hb C.2.1 hd) rfl)
theorem go_idiv {a : Int32} {b : Int32} (D : Dc bytes pc .idiv 1 pc') (hz : b ≠ 0) (G : Go wd K₀ l Z R y bytes ml ret n0 kc ks Q h k n pc' ls (.int (a / b) :: st)) : Go wd K₀ l Z R y bytes ml ret n0 kc ks Q h k n pc ls (.int b :: .int a :: st) := by
  obtain ⟨hd, rfl⟩ := D
  exact go_pure G (fun C X t => XS.idiv X.here C.1 (g := mkF _ pc ls.toArray (.int b :: .int a :: st)) rfl (hb C.2.1 hd) rfl hz)
theorem go_ladd {a : Int64} {b : Int64} (D : Dc bytes pc .ladd 1 pc') (G : Go wd K₀ l Z R y bytes ml ret n0 kc ks Q h k n pc' ls (.long (a + b) :: st)) : Go wd K₀ l Z R y bytes ml ret n0 kc ks Q h k n pc ls (.long b :: .long a :: st) := by
  obtain ⟨hd, rfl⟩ := D
  exact go_pure G (fun C X t => XT.ladd X.here C.1 (g := mkF _ pc ls.toArray (.long b :: .long a :: st)) rfl (hb C.2.1 hd) rfl)
theorem go_lsub {a : Int64} {b : Int64} (D : Dc bytes pc .lsub 1 pc') (G : Go wd K₀ l Z R y bytes ml ret n0 kc ks Q h k n pc' ls (.long (a - b) :: st)) : Go wd K₀ l Z R y bytes ml ret n0 kc ks Q h k n pc ls (.long b :: .long a :: st) := by
  obtain ⟨hd, rfl⟩ := D
  exact go_pure G (fun C X t => XT.lsub X.here C.1 (g := mkF _ pc ls.toArray (.long b :: .long a :: st)) rfl (hb C.2.1 hd) rfl)
theorem go_lmul {a : Int64} {b : Int64} (D : Dc bytes pc .lmul 1 pc') (G : Go wd K₀ l Z R y bytes ml ret n0 kc ks Q h k n pc' ls (.long (a * b) :: st)) : Go wd K₀ l Z R y bytes ml ret n0 kc ks Q h k n pc ls (.long b :: .long a :: st) := by
  obtain ⟨hd, rfl⟩ := D
  exact go_pure G (fun C X t => XT.lmul X.here C.1 (g := mkF _ pc ls.toArray (.long b :: .long a :: st)) rfl (hb C.2.1 hd) rfl)
theorem go_land {a : Int64} {b : Int64} (D : Dc bytes pc .land 1 pc') (G : Go wd K₀ l Z R y bytes ml ret n0 kc ks Q h k n pc' ls (.long (a &&& b) :: st)) : Go wd K₀ l Z R y bytes ml ret n0 kc ks Q h k n pc ls (.long b :: .long a :: st) := by
  obtain ⟨hd, rfl⟩ := D
  exact go_pure G (fun C X t => XT.land X.here C.1 (g := mkF _ pc ls.toArray (.long b :: .long a :: st)) rfl (hb C.2.1 hd) rfl)
theorem go_lor {a : Int64} {b : Int64} (D : Dc bytes pc .lor 1 pc') (G : Go wd K₀ l Z R y bytes ml ret n0 kc ks Q h k n pc' ls (.long (a ||| b) :: st)) : Go wd K₀ l Z R y bytes ml ret n0 kc ks Q h k n pc ls (.long b :: .long a :: st) := by
  obtain ⟨hd, rfl⟩ := D
  exact go_pure G (fun C X t => XT.lor X.here C.1 (g := mkF _ pc ls.toArray (.long b :: .long a :: st)) rfl (hb C.2.1 hd) rfl)
theorem go_lxor {a : Int64} {b : Int64} (D : Dc bytes pc .lxor 1 pc') (G : Go wd K₀ l Z R y bytes ml ret n0 kc ks Q h k n pc' ls (.long (a ^^^ b) :: st)) : Go wd K₀ l Z R y bytes ml ret n0 kc ks Q h k n pc ls (.long b :: .long a :: st) := by
  obtain ⟨hd, rfl⟩ := D
  exact go_pure G (fun C X t => XT.lxor X.here C.1 (g := mkF _ pc ls.toArray (.long b :: .long a :: st)) rfl (hb C.2.1 hd) rfl)
theorem go_ldiv {a : Int64} {b : Int64} (D : Dc bytes pc .ldiv 1 pc') (hz : b ≠ 0) (G : Go wd K₀ l Z R y bytes ml ret n0 kc ks Q h k n pc' ls (.long (a / b) :: st)) : Go wd K₀ l Z R y bytes ml ret n0 kc ks Q h k n pc ls (.long b :: .long a :: st) := by
  obtain ⟨hd, rfl⟩ := D
  exact go_pure G (fun C X t => XT.ldiv X.here C.1 (g := mkF _ pc ls.toArray (.long b :: .long a :: st)) rfl (hb C.2.1 hd) rfl hz)
theorem go_ishl {a : Int32} {b : Int32} (D : Dc bytes pc .ishl 1 pc') (G : Go wd K₀ l Z R y bytes ml ret n0 kc ks Q h k n pc' ls (.int (a <<< (b &&& 31)) :: st)) : Go wd K₀ l Z R y bytes ml ret n0 kc ks Q h k n pc ls (.int b :: .int a :: st) := by
  obtain ⟨hd, rfl⟩ := D
  exact go_pure G (fun C X t => XT.ishl X.here C.1 (g := mkF _ pc ls.toArray (.int b :: .int a :: st)) rfl (hb C.2.1 hd) rfl)
theorem go_ishr {a : Int32} {b : Int32} (D : Dc bytes pc .ishr 1 pc') (G : Go wd K₀ l Z R y bytes ml ret n0 kc ks Q h k n pc' ls (.int (a >>> (b &&& 31)) :: st)) : Go wd K₀ l Z R y bytes ml ret n0 kc ks Q h k n pc ls (.int b :: .int a :: st) := by
  obtain ⟨hd, rfl⟩ := D
  exact go_pure G (fun C X t => XT.ishr X.here C.1 (g := mkF _ pc ls.toArray (.int b :: .int a :: st)) rfl (hb C.2.1 hd) rfl)
theorem go_iushr {a : Int32} {b : Int32} (D : Dc bytes pc .iushr 1 pc') (G : Go wd K₀ l Z R y bytes ml ret n0 kc ks Q h k n pc' ls (.int (XT.ushr a b) :: st)) : Go wd K₀ l Z R y bytes ml ret n0 kc ks Q h k n pc ls (.int b :: .int a :: st) := by
  obtain ⟨hd, rfl⟩ := D
  exact go_pure G (fun C X t => XT.iushr X.here C.1 (g := mkF _ pc ls.toArray (.int b :: .int a :: st)) rfl (hb C.2.1 hd) rfl)
theorem go_lshl {a : Int64} {b : Int32} (D : Dc bytes pc .lshl 1 pc') (G : Go wd K₀ l Z R y bytes ml ret n0 kc ks Q h k n pc' ls (.long (a <<< (b.toInt64 &&& 63)) :: st)) : Go wd K₀ l Z R y bytes ml ret n0 kc ks Q h k n pc ls (.int b :: .long a :: st) := by
  obtain ⟨hd, rfl⟩ := D
  exact go_pure G (fun C X t => XT.lshl X.here C.1 (g := mkF _ pc ls.toArray (.int b :: .long a :: st)) rfl (hb C.2.1 hd) rfl)
theorem go_lshr {a : Int64} {b : Int32} (D : Dc bytes pc .lshr 1 pc') (G : Go wd K₀ l Z R y bytes ml ret n0 kc ks Q h k n pc' ls (.long (a >>> (b.toInt64 &&& 63)) :: st)) : Go wd K₀ l Z R y bytes ml ret n0 kc ks Q h k n pc ls (.int b :: .long a :: st) := by
  obtain ⟨hd, rfl⟩ := D
  exact go_pure G (fun C X t => XT.lshr X.here C.1 (g := mkF _ pc ls.toArray (.int b :: .long a :: st)) rfl (hb C.2.1 hd) rfl)
theorem go_lushr {a : Int64} {b : Int32} (D : Dc bytes pc .lushr 1 pc') (G : Go wd K₀ l Z R y bytes ml ret n0 kc ks Q h k n pc' ls (.long (XT.ushrL a b) :: st)) : Go wd K₀ l Z R y bytes ml ret n0 kc ks Q h k n pc ls (.int b :: .long a :: st) := by
  obtain ⟨hd, rfl⟩ := D
  exact go_pure G (fun C X t => XT.lushr X.here C.1 (g := mkF _ pc ls.toArray (.int b :: .long a :: st)) rfl (hb C.2.1 hd) rfl)
theorem go_lcmp {a : Int64} {b : Int64} (D : Dc bytes pc .lcmp 1 pc') (G : Go wd K₀ l Z R y bytes ml ret n0 kc ks Q h k n pc' ls (.int (XT.cmpL a b) :: st)) : Go wd K₀ l Z R y bytes ml ret n0 kc ks Q h k n pc ls (.long b :: .long a :: st) := by
  obtain ⟨hd, rfl⟩ := D
  exact go_pure G (fun C X t => XT.lcmp X.here C.1 (g := mkF _ pc ls.toArray (.long b :: .long a :: st)) rfl (hb C.2.1 hd) rfl)
theorem go_irem {a b : Int32} (D : Dc bytes pc .irem 1 pc') (hz : b ≠ 0) (G : Go wd K₀ l Z R y bytes ml ret n0 kc ks Q h k n pc' ls (.int (a % b) :: st)) : Go wd K₀ l Z R y bytes ml ret n0 kc ks Q h k n pc ls (.int b :: .int a :: st) := by
  obtain ⟨hd, rfl⟩ := D
  exact go_pure G (fun C X t hr => iremM X C.1 (g := mkF _ pc ls.toArray (.int b :: .int a :: st)) rfl (hb C.2.1 hd) rfl hz hr)
theorem go_lrem {a b : Int64} (D : Dc bytes pc .lrem 1 pc') (hz : b ≠ 0) (G : Go wd K₀ l Z R y bytes ml ret n0 kc ks Q h k n pc' ls (.long (a % b) :: st)) : Go wd K₀ l Z R y bytes ml ret n0 kc ks Q h k n pc ls (.long b :: .long a :: st) := by
  obtain ⟨hd, rfl⟩ := D
  rw [← lrem64] at G
  exact go_pure G (fun C X t => XT.lrem X.here C.1 (g := mkF _ pc ls.toArray (.long b :: .long a :: st)) rfl (hb C.2.1 hd) rfl hz)
theorem go_ineg {a : Int32} (D : Dc bytes pc .ineg 1 pc') (G : Go wd K₀ l Z R y bytes ml ret n0 kc ks Q h k n pc' ls (.int (-a) :: st)) : Go wd K₀ l Z R y bytes ml ret n0 kc ks Q h k n pc ls (.int a :: st) := by
  obtain ⟨hd, rfl⟩ := D
  exact go_pure G (fun C X t => XS.ineg X.here C.1 (g := mkF _ pc ls.toArray (.int a :: st)) rfl (hb C.2.1 hd) rfl)
theorem go_lneg {a : Int64} (D : Dc bytes pc .lneg 1 pc') (G : Go wd K₀ l Z R y bytes ml ret n0 kc ks Q h k n pc' ls (.long (-a) :: st)) : Go wd K₀ l Z R y bytes ml ret n0 kc ks Q h k n pc ls (.long a :: st) := by
  obtain ⟨hd, rfl⟩ := D
  exact go_pure G (fun C X t => XT.lneg X.here C.1 (g := mkF _ pc ls.toArray (.long a :: st)) rfl (hb C.2.1 hd) rfl)
theorem go_i2l {a : Int32} (D : Dc bytes pc .i2l 1 pc') (G : Go wd K₀ l Z R y bytes ml ret n0 kc ks Q h k n pc' ls (.long a.toInt64 :: st)) : Go wd K₀ l Z R y bytes ml ret n0 kc ks Q h k n pc ls (.int a :: st) := by
  obtain ⟨hd, rfl⟩ := D
  exact go_pure G (fun C X t => XT.i2l X.here C.1 (g := mkF _ pc ls.toArray (.int a :: st)) rfl (hb C.2.1 hd) rfl)
theorem go_l2i {a : Int64} (D : Dc bytes pc .l2i 1 pc') (G : Go wd K₀ l Z R y bytes ml ret n0 kc ks Q h k n pc' ls (.int a.toInt32 :: st)) : Go wd K₀ l Z R y bytes ml ret n0 kc ks Q h k n pc ls (.long a :: st) := by
  obtain ⟨hd, rfl⟩ := D
  exact go_pure G (fun C X t => XT.l2i X.here C.1 (g := mkF _ pc ls.toArray (.long a :: st)) rfl (hb C.2.1 hd) rfl)
theorem go_i2b {a : Int32} (D : Dc bytes pc .i2b 1 pc') (G : Go wd K₀ l Z R y bytes ml ret n0 kc ks Q h k n pc' ls (.int a.toInt8.toInt32 :: st)) : Go wd K₀ l Z R y bytes ml ret n0 kc ks Q h k n pc ls (.int a :: st) := by
  obtain ⟨hd, rfl⟩ := D
  exact go_pure G (fun C X t => XT.i2b X.here C.1 (g := mkF _ pc ls.toArray (.int a :: st)) rfl (hb C.2.1 hd) rfl)
theorem go_i2s {a : Int32} (D : Dc bytes pc .i2s 1 pc') (G : Go wd K₀ l Z R y bytes ml ret n0 kc ks Q h k n pc' ls (.int a.toInt16.toInt32 :: st)) : Go wd K₀ l Z R y bytes ml ret n0 kc ks Q h k n pc ls (.int a :: st) := by
  obtain ⟨hd, rfl⟩ := D
  exact go_pure G (fun C X t => XT.i2s X.here C.1 (g := mkF _ pc ls.toArray (.int a :: st)) rfl (hb C.2.1 hd) rfl)
theorem go_i2c {a : Int32} (D : Dc bytes pc .i2c 1 pc') (G : Go wd K₀ l Z R y bytes ml ret n0 kc ks Q h k n pc' ls (.int a.toUInt32.toUInt16.toUInt32.toInt32 :: st)) : Go wd K₀ l Z R y bytes ml ret n0 kc ks Q h k n pc ls (.int a :: st) := by
  obtain ⟨hd, rfl⟩ := D
  exact go_pure G (fun C X t => XT.i2c X.here C.1 (g := mkF _ pc ls.toArray (.int a :: st)) rfl (hb C.2.1 hd) rfl)
theorem go_dup {v : Value} (D : Dc bytes pc .dup 1 pc') (hv : v.category = 1) (G : Go wd K₀ l Z R y bytes ml ret n0 kc ks Q h k n pc' ls (v :: v :: st)) : Go wd K₀ l Z R y bytes ml ret n0 kc ks Q h k n pc ls (v :: st) := by
  obtain ⟨hd, rfl⟩ := D
  exact go_pure G (fun C X t => XS.dup X.here C.1 (g := mkF _ pc ls.toArray (v :: st)) rfl (hb C.2.1 hd) rfl hv)
theorem go_pop {v : Value} (D : Dc bytes pc .pop 1 pc') (hv : v.category = 1) (G : Go wd K₀ l Z R y bytes ml ret n0 kc ks Q h k n pc' ls st) : Go wd K₀ l Z R y bytes ml ret n0 kc ks Q h k n pc ls (v :: st) := by
  obtain ⟨hd, rfl⟩ := D
  exact go_pure G (fun C X t => XT.pop X.here C.1 (g := mkF _ pc ls.toArray (v :: st)) rfl (hb C.2.1 hd) rfl hv)
theorem go_dupx1 {v w : Value} (D : Dc bytes pc .dup_x1 1 pc') (hv : v.category = 1) (hw : w.category = 1) (G : Go wd K₀ l Z R y bytes ml ret n0 kc ks Q h k n pc' ls (v :: w :: v :: st)) : Go wd K₀ l Z R y bytes ml ret n0 kc ks Q h k n pc ls (v :: w :: st) := by
  obtain ⟨hd, rfl⟩ := D
  exact go_pure G (fun C X t => XT.dupX1 X.here C.1 (g := mkF _ pc ls.toArray (v :: w :: st)) rfl (hb C.2.1 hd) rfl hv hw)
theorem go_dup2 {v w : Value} (D : Dc bytes pc .dup2 1 pc') (hv : v.category = 1) (hw : w.category = 1) (G : Go wd K₀ l Z R y bytes ml ret n0 kc ks Q h k n pc' ls (v :: w :: v :: w :: st)) : Go wd K₀ l Z R y bytes ml ret n0 kc ks Q h k n pc ls (v :: w :: st) := by
  obtain ⟨hd, rfl⟩ := D
  exact go_pure G (fun C X t => XT.dup2 X.here C.1 (g := mkF _ pc ls.toArray (v :: w :: st)) rfl (hb C.2.1 hd) rfl hv hw)
theorem go_dup2L {v : Int64} (D : Dc bytes pc .dup2 1 pc') (G : Go wd K₀ l Z R y bytes ml ret n0 kc ks Q h k n pc' ls (.long v :: .long v :: st)) : Go wd K₀ l Z R y bytes ml ret n0 kc ks Q h k n pc ls (.long v :: st) := by
  obtain ⟨hd, rfl⟩ := D
  exact go_pure G (fun C X t => XT.dup2L X.here C.1 (g := mkF _ pc ls.toArray (.long v :: st)) rfl (hb C.2.1 hd) rfl)
theorem go_goto (D : Db bytes pc .goto pc' tg) (G : Go wd K₀ l Z R y bytes ml ret n0 kc ks Q h k n tg ls st) : Go wd K₀ l Z R y bytes ml ret n0 kc ks Q h k n pc ls st := by
  obtain ⟨o, hd, rfl, ho, hp⟩ := D
  exact go_pure G (fun C X t => XS.goto X.here C.1 (g := mkF _ pc ls.toArray st) rfl (pc0 := pc) rfl (hb C.2.1 hd) ho hp)
theorem go_icmp_eq {a b : Int32} (D : Db bytes pc (.if_icmp .eq) pc' tg) (G1 : a = b → Go wd K₀ l Z R y bytes ml ret n0 kc ks Q h k n tg ls st) (G2 : ¬ a = b → Go wd K₀ l Z R y bytes ml ret n0 kc ks Q h k n pc' ls st) : Go wd K₀ l Z R y bytes ml ret n0 kc ks Q h k n pc ls (.int b :: .int a :: st) := by
  obtain ⟨o, hd, rfl, ho, hp⟩ := D
  by_cases q : a = b
  · exact go_pure (G1 q) (fun C X t => XS.icmpYes X.here C.1 (g := mkF _ pc ls.toArray (.int b :: .int a :: st)) rfl (pc0 := pc) rfl (hb C.2.1 hd) rfl (XT.ii_eq_t q) ho hp)
  · exact go_pure (G2 q) (fun C X t => XS.icmpNo X.here C.1 (g := mkF _ pc ls.toArray (.int b :: .int a :: st)) rfl (hb C.2.1 hd) rfl (XT.ii_eq_f q))
theorem go_if_eq {a : Int32} (D : Db bytes pc (.ifCond .eq) pc' tg) (G1 : a = 0 → Go wd K₀ l Z R y bytes ml ret n0 kc ks Q h k n tg ls st) (G2 : ¬ a = 0 → Go wd K₀ l Z R y bytes ml ret n0 kc ks Q h k n pc' ls st) : Go wd K₀ l Z R y bytes ml ret n0 kc ks Q h k n pc ls (.int a :: st) := by
  obtain ⟨o, hd, rfl, ho, hp⟩ := D
  by_cases q : a = 0
  · exact go_pure (G1 q) (fun C X t => XS.ifYes X.here C.1 (g := mkF _ pc ls.toArray (.int a :: st)) rfl (pc0 := pc) rfl (hb C.2.1 hd) rfl (XT.i0_eq_t q) ho hp)
  · exact go_pure (G2 q) (fun C X t => XS.ifNo X.here C.1 (g := mkF _ pc ls.toArray (.int a :: st)) rfl (hb C.2.1 hd) rfl (XT.i0_eq_f q))
theorem go_lc_eq {a b : Int64} (D : Db bytes pc (.ifCond .eq) pc' tg) (G1 : a = b → Go wd K₀ l Z R y bytes ml ret n0 kc ks Q h k n tg ls st) (G2 : ¬ a = b → Go wd K₀ l Z R y bytes ml ret n0 kc ks Q h k n pc' ls st) : Go wd K₀ l Z R y bytes ml ret n0 kc ks Q h k n pc ls (.int (XT.cmpL a b) :: st) := by
  obtain ⟨o, hd, rfl, ho, hp⟩ := D
  by_cases q : a = b
  · exact go_pure (G1 q) (fun C X t => XS.ifYes X.here C.1 (g := mkF _ pc ls.toArray (.int (XT.cmpL a b) :: st)) rfl (pc0 := pc) rfl (hb C.2.1 hd) rfl (XT.ll_eq_t q) ho hp)
  · exact go_pure (G2 q) (fun C X t => XS.ifNo X.here C.1 (g := mkF _ pc ls.toArray (.int (XT.cmpL a b) :: st)) rfl (hb C.2.1 hd) rfl (XT.ll_eq_f q))
theorem go_icmp_ne {a b : Int32} (D : Db bytes pc (.if_icmp .ne) pc' tg) (G1 : ¬ a = b → Go wd K₀ l Z R y bytes ml ret n0 kc ks Q h k n tg ls st) (G2 : a = b → Go wd K₀ l Z R y bytes ml ret n0 kc ks Q h k n pc' ls st) : Go wd K₀ l Z R y bytes ml ret n0 kc ks Q h k n pc ls (.int b :: .int a :: st) := by
  obtain ⟨o, hd, rfl, ho, hp⟩ := D
  by_cases q : a = b
  · exact go_pure (G2 q) (fun C X t => XS.icmpNo X.here C.1 (g := mkF _ pc ls.toArray (.int b :: .int a :: st)) rfl (hb C.2.1 hd) rfl (XT.ii_ne_f q))
  · exact go_pure (G1 q) (fun C X t => XS.icmpYes X.here C.1 (g := mkF _ pc ls.toArray (.int b :: .int a :: st)) rfl (pc0 := pc) rfl (hb C.2.1 hd) rfl (XT.ii_ne_t q) ho hp)
theorem go_if_ne {a : Int32} (D : Db bytes pc (.ifCond .ne) pc' tg) (G1 : ¬ a = 0 → Go wd K₀ l Z R y bytes ml ret n0 kc ks Q h k n tg ls st) (G2 : a = 0 → Go wd K₀ l Z R y bytes ml ret n0 kc ks Q h k n pc' ls st) : Go wd K₀ l Z R y bytes ml ret n0 kc ks Q h k n pc ls (.int a :: st) := by
  obtain ⟨o, hd, rfl, ho, hp⟩ := D
  by_cases q : a = 0
  · exact go_pure (G2 q) (fun C X t => XS.ifNo X.here C.1 (g := mkF _ pc ls.toArray (.int a :: st)) rfl (hb C.2.1 hd) rfl (XT.i0_ne_f q))
  · exact go_pure (G1 q) (fun C X t => XS.ifYes X.here C.1 (g := mkF _ pc ls.toArray (.int a :: st)) rfl (pc0 := pc) rfl (hb C.2.1 hd) rfl (XT.i0_ne_t q) ho hp)
theorem go_lc_ne {a b : Int64} (D : Db bytes pc (.ifCond .ne) pc' tg) (G1 : ¬ a = b → Go wd K₀ l Z R y bytes ml ret n0 kc ks Q h k n tg ls st) (G2 : a = b → Go wd K₀ l Z R y bytes ml ret n0 kc ks Q h k n pc' ls st) : Go wd K₀ l Z R y bytes ml ret n0 kc ks Q h k n pc ls (.int (XT.cmpL a b) :: st) := by
  obtain ⟨o, hd, rfl, ho, hp⟩ := D
  by_cases q : a = b
  · exact go_pure (G2 q) (fun C X t => XS.ifNo X.here C.1 (g := mkF _ pc ls.toArray (.int (XT.cmpL a b) :: st)) rfl (hb C.2.1 hd) rfl (XT.ll_ne_f q))
  · exact go_pure (G1 q) (fun C X t => XS.ifYes X.here C.1 (g := mkF _ pc ls.toArray (.int (XT.cmpL a b) :: st)) rfl (pc0 := pc) rfl (hb C.2.1 hd) rfl (XT.ll_ne_t q) ho hp)
theorem go_icmp_lt {a b : Int32} (D : Db bytes pc (.if_icmp .lt) pc' tg) (G1 : a < b → Go wd K₀ l Z R y bytes ml ret n0 kc ks Q h k n tg ls st) (G2 : ¬ a < b → Go wd K₀ l Z R y bytes ml ret n0 kc ks Q h k n pc' ls st) : Go wd K₀ l Z R y bytes ml ret n0 kc ks Q h k n pc ls (.int b :: .int a :: st) := by
  obtain ⟨o, hd, rfl, ho, hp⟩ := D
  by_cases q : a < b
  · exact go_pure (G1 q) (fun C X t => XS.icmpYes X.here C.1 (g := mkF _ pc ls.toArray (.int b :: .int a :: st)) rfl (pc0 := pc) rfl (hb C.2.1 hd) rfl (XT.ii_lt_t q) ho hp)
  · exact go_pure (G2 q) (fun C X t => XS.icmpNo X.here C.1 (g := mkF _ pc ls.toArray (.int b :: .int a :: st)) rfl (hb C.2.1 hd) rfl (XT.ii_lt_f q))
theorem go_if_lt {a : Int32} (D : Db bytes pc (.ifCond .lt) pc' tg) (G1 : a < 0 → Go wd K₀ l Z R y bytes ml ret n0 kc ks Q h k n tg ls st) (G2 : ¬ a < 0 → Go wd K₀ l Z R y bytes ml ret n0 kc ks Q h k n pc' ls st) : Go wd K₀ l Z R y bytes ml ret n0 kc ks Q h k n pc ls (.int a :: st) := by
  obtain ⟨o, hd, rfl, ho, hp⟩ := D
  by_cases q : a < 0
  · exact go_pure (G1 q) (fun C X t => XS.ifYes X.here C.1 (g := mkF _ pc ls.toArray (.int a :: st)) rfl (pc0 := pc) rfl (hb C.2.1 hd) rfl (XT.i0_lt_t q) ho hp)
  · exact go_pure (G2 q) (fun C X t => XS.ifNo X.here C.1 (g := mkF _ pc ls.toArray (.int a :: st)) rfl (hb C.2.1 hd) rfl (XT.i0_lt_f q))
theorem go_lc_lt {a b : Int64} (D : Db bytes pc (.ifCond .lt) pc' tg) (G1 : a < b → Go wd K₀ l Z R y bytes ml ret n0 kc ks Q h k n tg ls st) (G2 : ¬ a < b → Go wd K₀ l Z R y bytes ml ret n0 kc ks Q h k n pc' ls st) : Go wd K₀ l Z R y bytes ml ret n0 kc ks Q h k n pc ls (.int (XT.cmpL a b) :: st) := by
  obtain ⟨o, hd, rfl, ho, hp⟩ := D
  by_cases q : a < b
  · exact go_pure (G1 q) (fun C X t => XS.ifYes X.here C.1 (g := mkF _ pc ls.toArray (.int (XT.cmpL a b) :: st)) rfl (pc0 := pc) rfl (hb C.2.1 hd) rfl (XT.ll_lt_t q) ho hp)
  · exact go_pure (G2 q) (fun C X t => XS.ifNo X.here C.1 (g := mkF _ pc ls.toArray (.int (XT.cmpL a b) :: st)) rfl (hb C.2.1 hd) rfl (XT.ll_lt_f q))
theorem go_icmp_ge {a b : Int32} (D : Db bytes pc (.if_icmp .ge) pc' tg) (G1 : ¬ a < b → Go wd K₀ l Z R y bytes ml ret n0 kc ks Q h k n tg ls st) (G2 : a < b → Go wd K₀ l Z R y bytes ml ret n0 kc ks Q h k n pc' ls st) : Go wd K₀ l Z R y bytes ml ret n0 kc ks Q h k n pc ls (.int b :: .int a :: st) := by
  obtain ⟨o, hd, rfl, ho, hp⟩ := D
  by_cases q : a < b
  · exact go_pure (G2 q) (fun C X t => XS.icmpNo X.here C.1 (g := mkF _ pc ls.toArray (.int b :: .int a :: st)) rfl (hb C.2.1 hd) rfl (XT.ii_ge_f q))
  · exact go_pure (G1 q) (fun C X t => XS.icmpYes X.here C.1 (g := mkF _ pc ls.toArray (.int b :: .int a :: st)) rfl (pc0 := pc) rfl (hb C.2.1 hd) rfl (XT.ii_ge_t q) ho hp)
theorem go_if_ge {a : Int32} (D : Db bytes pc (.ifCond .ge) pc' tg) (G1 : ¬ a < 0 → Go wd K₀ l Z R y bytes ml ret n0 kc ks Q h k n tg ls st) (G2 : a < 0 → Go wd K₀ l Z R y bytes ml ret n0 kc ks Q h k n pc' ls st) : Go wd K₀ l Z R y bytes ml ret n0 kc ks Q h k n pc ls (.int a :: st) := by
  obtain ⟨o, hd, rfl, ho, hp⟩ := D
  by_cases q : a < 0
  · exact go_pure (G2 q) (fun C X t => XS.ifNo X.here C.1 (g := mkF _ pc ls.toArray (.int a :: st)) rfl (hb C.2.1 hd) rfl (XT.i0_ge_f q))
  · exact go_pure (G1 q) (fun C X t => XS.ifYes X.here C.1 (g := mkF _ pc ls.toArray (.int a :: st)) rfl (pc0 := pc) rfl (hb C.2.1 hd) rfl (XT.i0_ge_t q) ho hp)
theorem go_lc_ge {a b : Int64} (D : Db bytes pc (.ifCond .ge) pc' tg) (G1 : ¬ a < b → Go wd K₀ l Z R y bytes ml ret n0 kc ks Q h k n tg ls st) (G2 : a < b → Go wd K₀ l Z R y bytes ml ret n0 kc ks Q h k n pc' ls st) : Go wd K₀ l Z R y bytes ml ret n0 kc ks Q h k n pc ls (.int (XT.cmpL a b) :: st) := by
  obtain ⟨o, hd, rfl, ho, hp⟩ := D
  by_cases q : a < b
  · exact go_pure (G2 q) (fun C X t => XS.ifNo X.here C.1 (g := mkF _ pc ls.toArray (.int (XT.cmpL a b) :: st)) rfl (hb C.2.1 hd) rfl (XT.ll_ge_f q))
  · exact go_pure (G1 q) (fun C X t => XS.ifYes X.here C.1 (g := mkF _ pc ls.toArray (.int (XT.cmpL a b) :: st)) rfl (pc0 := pc) rfl (hb C.2.1 hd) rfl (XT.ll_ge_t q) ho hp)
theorem go_icmp_gt {a b : Int32} (D : Db bytes pc (.if_icmp .gt) pc' tg) (G1 : b < a → Go wd K₀ l Z R y bytes ml ret n0 kc ks Q h k n tg ls st) (G2 : ¬ b < a → Go wd K₀ l Z R y bytes ml ret n0 kc ks Q h k n pc' ls st) : Go wd K₀ l Z R y bytes ml ret n0 kc ks Q h k n pc ls (.int b :: .int a :: st) := by
  obtain ⟨o, hd, rfl, ho, hp⟩ := D
  by_cases q : b < a
  · exact go_pure (G1 q) (fun C X t => XS.icmpYes X.here C.1 (g := mkF _ pc ls.toArray (.int b :: .int a :: st)) rfl (pc0 := pc) rfl (hb C.2.1 hd) rfl (XT.ii_gt_t q) ho hp)
  · exact go_pure (G2 q) (fun C X t => XS.icmpNo X.here C.1 (g := mkF _ pc ls.toArray (.int b :: .int a :: st)) rfl (hb C.2.1 hd) rfl (XT.ii_gt_f q))
theorem go_if_gt {a : Int32} (D : Db bytes pc (.ifCond .gt) pc' tg) (G1 : 0 < a → Go wd K₀ l Z R y bytes ml ret n0 kc ks Q h k n tg ls st) (G2 : ¬ 0 < a → Go wd K₀ l Z R y bytes ml ret n0 kc ks Q h k n pc' ls st) : Go wd K₀ l Z R y bytes ml ret n0 kc ks Q h k n pc ls (.int a :: st) := by
  obtain ⟨o, hd, rfl, ho, hp⟩ := D
  by_cases q : 0 < a
  · exact go_pure (G1 q) (fun C X t => XS.ifYes X.here C.1 (g := mkF _ pc ls.toArray (.int a :: st)) rfl (pc0 := pc) rfl (hb C.2.1 hd) rfl (XT.i0_gt_t q) ho hp)
  · exact go_pure (G2 q) (fun C X t => XS.ifNo X.here C.1 (g := mkF _ pc ls.toArray (.int a :: st)) rfl (hb C.2.1 hd) rfl (XT.i0_gt_f q))
theorem go_lc_gt {a b : Int64} (D : Db bytes pc (.ifCond .gt) pc' tg) (G1 : b < a → Go wd K₀ l Z R y bytes ml ret n0 kc ks Q h k n tg ls st) (G2 : ¬ b < a → Go wd K₀ l Z R y bytes ml ret n0 kc ks Q h k n pc' ls st) : Go wd K₀ l Z R y bytes ml ret n0 kc ks Q h k n pc ls (.int (XT.cmpL a b) :: st) := by
  obtain ⟨o, hd, rfl, ho, hp⟩ := D
  by_cases q : b < a
  · exact go_pure (G1 q) (fun C X t => XS.ifYes X.here C.1 (g := mkF _ pc ls.toArray (.int (XT.cmpL a b) :: st)) rfl (pc0 := pc) rfl (hb C.2.1 hd) rfl (XT.ll_gt_t q) ho hp)
  · exact go_pure (G2 q) (fun C X t => XS.ifNo X.here C.1 (g := mkF _ pc ls.toArray (.int (XT.cmpL a b) :: st)) rfl (hb C.2.1 hd) rfl (XT.ll_gt_f q))
theorem go_icmp_le {a b : Int32} (D : Db bytes pc (.if_icmp .le) pc' tg) (G1 : ¬ b < a → Go wd K₀ l Z R y bytes ml ret n0 kc ks Q h k n tg ls st) (G2 : b < a → Go wd K₀ l Z R y bytes ml ret n0 kc ks Q h k n pc' ls st) : Go wd K₀ l Z R y bytes ml ret n0 kc ks Q h k n pc ls (.int b :: .int a :: st) := by
  obtain ⟨o, hd, rfl, ho, hp⟩ := D
  by_cases q : b < a
  · exact go_pure (G2 q) (fun C X t => XS.icmpNo X.here C.1 (g := mkF _ pc ls.toArray (.int b :: .int a :: st)) rfl (hb C.2.1 hd) rfl (XT.ii_le_f q))
  · exact go_pure (G1 q) (fun C X t => XS.icmpYes X.here C.1 (g := mkF _ pc ls.toArray (.int b :: .int a :: st)) rfl (pc0 := pc) rfl (hb C.2.1 hd) rfl (XT.ii_le_t q) ho hp)
theorem go_if_le {a : Int32} (D : Db bytes pc (.ifCond .le) pc' tg) (G1 : ¬ 0 < a → Go wd K₀ l Z R y bytes ml ret n0 kc ks Q h k n tg ls st) (G2 : 0 < a → Go wd K₀ l Z R y bytes ml ret n0 kc ks Q h k n pc' ls st) : Go wd K₀ l Z R y bytes ml ret n0 kc ks Q h k n pc ls (.int a :: st) := by
  obtain ⟨o, hd, rfl, ho, hp⟩ := D
  by_cases q : 0 < a
  · exact go_pure (G2 q) (fun C X t => XS.ifNo X.here C.1 (g := mkF _ pc ls.toArray (.int a :: st)) rfl (hb C.2.1 hd) rfl (XT.i0_le_f q))
  · exact go_pure (G1 q) (fun C X t => XS.ifYes X.here C.1 (g := mkF _ pc ls.toArray (.int a :: st)) rfl (pc0 := pc) rfl (hb C.2.1 hd) rfl (XT.i0_le_t q) ho hp)
theorem go_lc_le {a b : Int64} (D : Db bytes pc (.ifCond .le) pc' tg) (G1 : ¬ b < a → Go wd K₀ l Z R y bytes ml ret n0 kc ks Q h k n tg ls st) (G2 : b < a → Go wd K₀ l Z R y bytes ml ret n0 kc ks Q h k n pc' ls st) : Go wd K₀ l Z R y bytes ml ret n0 kc ks Q h k n pc ls (.int (XT.cmpL a b) :: st) := by
  obtain ⟨o, hd, rfl, ho, hp⟩ := D
  by_cases q : b < a
  · exact go_pure (G2 q) (fun C X t => XS.ifNo X.here C.1 (g := mkF _ pc ls.toArray (.int (XT.cmpL a b) :: st)) rfl (hb C.2.1 hd) rfl (XT.ll_le_f q))
  · exact go_pure (G1 q) (fun C X t => XS.ifYes X.here C.1 (g := mkF _ pc ls.toArray (.int (XT.cmpL a b) :: st)) rfl (pc0 := pc) rfl (hb C.2.1 hd) rfl (XT.ll_le_t q) ho hp)
theorem go_acmp_eq {a b : Value} (D : Db bytes pc (.if_acmp .eq) pc' tg) (ha : a.isRef = true) (hb' : b.isRef = true) (G1 : a = b → Go wd K₀ l Z R y bytes ml ret n0 kc ks Q h k n tg ls st) (G2 : ¬ a = b → Go wd K₀ l Z R y bytes ml ret n0 kc ks Q h k n pc' ls st) : Go wd K₀ l Z R y bytes ml ret n0 kc ks Q h k n pc ls (b :: a :: st) := by
  obtain ⟨o, hd, rfl, ho, hp⟩ := D
  by_cases q : a = b
  · exact go_pure (G1 q) (fun C X t => XT.acmpYes X.here C.1 (g := mkF _ pc ls.toArray (b :: a :: st)) rfl (pc0 := pc) rfl (hb C.2.1 hd) rfl ha hb' (XT.aa_eq_t q) ho hp)
  · exact go_pure (G2 q) (fun C X t => XT.acmpNo X.here C.1 (g := mkF _ pc ls.toArray (b :: a :: st)) rfl (hb C.2.1 hd) rfl ha hb' (XT.aa_eq_f q))
theorem go_acmp_ne {a b : Value} (D : Db bytes pc (.if_acmp .ne) pc' tg) (ha : a.isRef = true) (hb' : b.isRef = true) (G1 : ¬ a = b → Go wd K₀ l Z R y bytes ml ret n0 kc ks Q h k n tg ls st) (G2 : a = b → Go wd K₀ l Z R y bytes ml ret n0 kc ks Q h k n pc' ls st) : Go wd K₀ l Z R y bytes ml ret n0 kc ks Q h k n pc ls (b :: a :: st) := by
  obtain ⟨o, hd, rfl, ho, hp⟩ := D
  by_cases q : a = b
  · exact go_pure (G2 q) (fun C X t => XT.acmpNo X.here C.1 (g := mkF _ pc ls.toArray (b :: a :: st)) rfl (hb C.2.1 hd) rfl ha hb' (XT.aa_ne_f q))
  · exact go_pure (G1 q) (fun C X t => XT.acmpYes X.here C.1 (g := mkF _ pc ls.toArray (b :: a :: st)) rfl (pc0 := pc) rfl (hb C.2.1 hd) rfl ha hb' (XT.aa_ne_t q) ho hp)
theorem go_ifnullT (D : Db bytes pc .ifnull pc' tg) (G : Go wd K₀ l Z R y bytes ml ret n0 kc ks Q h k n tg ls st) : Go wd K₀ l Z R y bytes ml ret n0 kc ks Q h k n pc ls (.null :: st) := by
  obtain ⟨o, hd, rfl, ho, hp⟩ := D
  exact go_pure G (fun C X t => XS.ifnullYes X.here C.1 (g := mkF _ pc ls.toArray (.null :: st)) rfl (pc0 := pc) rfl (hb C.2.1 hd) rfl ho hp)
theorem go_ifnullF {a : Addr} (D : Db bytes pc .ifnull pc' tg) (G : Go wd K₀ l Z R y bytes ml ret n0 kc ks Q h k n pc' ls st) : Go wd K₀ l Z R y bytes ml ret n0 kc ks Q h k n pc ls (.ref a :: st) := by
  obtain ⟨o, hd, rfl, ho, hp⟩ := D
  exact go_pure G (fun C X t => XS.ifnullNo X.here C.1 (g := mkF _ pc ls.toArray (.ref a :: st)) rfl (hb C.2.1 hd) rfl)
theorem go_nonnullT {a : Addr} (D : Db bytes pc .ifnonnull pc' tg) (G : Go wd K₀ l Z R y bytes ml ret n0 kc ks Q h k n tg ls st) : Go wd K₀ l Z R y bytes ml ret n0 kc ks Q h k n pc ls (.ref a :: st) := by
  obtain ⟨o, hd, rfl, ho, hp⟩ := D
  exact go_pure G (fun C X t => XT.ifnonnullYes X.here C.1 (g := mkF _ pc ls.toArray (.ref a :: st)) rfl (pc0 := pc) rfl (hb C.2.1 hd) rfl ho hp)
theorem go_nonnullF (D : Db bytes pc .ifnonnull pc' tg) (G : Go wd K₀ l Z R y bytes ml ret n0 kc ks Q h k n pc' ls st) : Go wd K₀ l Z R y bytes ml ret n0 kc ks Q h k n pc ls (.null :: st) := by
  obtain ⟨o, hd, rfl, ho, hp⟩ := D
  exact go_pure G (fun C X t => XT.ifnonnullNo X.here C.1 (g := mkF _ pc ls.toArray (.null :: st)) rfl (hb C.2.1 hd) rfl)
theorem go_nonnullV {v : Value} (D : Db bytes pc .ifnonnull pc' tg) (hv : v.isRef = true) (G1 : v ≠ .null → Go wd K₀ l Z R y bytes ml ret n0 kc ks Q h k n tg ls st) (G2 : v = .null → Go wd K₀ l Z R y bytes ml ret n0 kc ks Q h k n pc' ls st) : Go wd K₀ l Z R y bytes ml ret n0 kc ks Q h k n pc ls (v :: st) := by
  cases v with
  | null => exact go_nonnullF D (G2 rfl)
  | ref a => exact go_nonnullT D (G1 (fun q => nomatch q))
  | int _ => cases hv
  | long _ => cases hv
  | float _ => cases hv
  | double _ => cases hv
  | _ => cases hv
theorem go_ldcI {v : Int32} {idx : Nat} (D : Dc bytes pc (.ldc idx) 2 pc') (w : (Cond.constant y.cls idx v).before a0 Z = true) (G : Go wd K₀ l Z R y bytes ml ret n0 kc ks Q h k n pc' ls (.int v :: st)) : Go wd K₀ l Z R y bytes ml ret n0 kc ks Q h k n pc ls st := by
  obtain ⟨hd, rfl⟩ := D
  exact go_pure G (fun C X t => X.ldcInt C.1 C.2.2.2.1 (mvT C.2.2.2.2.1 w) (g := mkF _ pc ls.toArray st) rfl (hb C.2.1 hd) t)
theorem go_ldcJ {v : Int64} {idx : Nat} (D : Dc bytes pc (.ldc2_w idx) 3 pc') (w : (Cond.constantLong y.cls idx v).before a0 Z = true) (G : Go wd K₀ l Z R y bytes ml ret n0 kc ks Q h k n pc' ls (.long v :: st)) : Go wd K₀ l Z R y bytes ml ret n0 kc ks Q h k n pc ls st := by
  obtain ⟨hd, rfl⟩ := D
  exact go_pure G (fun C X t => X.ldc2Long C.1 C.2.2.2.1 (mvT C.2.2.2.2.1 w) (g := mkF _ pc ls.toArray st) rfl (hb C.2.1 hd) t)
theorem go_iret {z : Int32} (hr : ret = some .int) (D : Dc bytes pc .ireturn 1 pc') (hk : k ≤ kc) (hn : n ≤ ks) (q : Q (some (.int z)) h) : Go wd K₀ l Z R y bytes ml ret n0 kc ks Q h k n pc ls (.int z :: st) := by
  intro p e s0 s m args below meth c T L Bs C X hh N
  obtain ⟨hd, rfl⟩ := D
  have hl := C.2.2.2.2.2.2.1
  obtain ⟨fs, hr', hrun, hended, hW, hsame⟩ := X.leave (v := some (.int z)) (fun q => by rw [C.2.2.2.2.2.1, hr] at q; cases q) hl
  exact ⟨_, _, retOut X C.1 (C.2.2.2.2.2.1.trans hr) rfl (Or.inl ⟨rfl, Or.inl rfl, z, rfl⟩) (hb C.2.1 hd) hr', hrun, hended, _, L, rfl, ⟨by show Q _ T.heap; rw [hh]; exact q, N⟩, endK Bs hh hW hsame hk hn⟩
theorem go_bret {z : Int32} (hr : ret = some .boolean) (D : Dc bytes pc .ireturn 1 pc') (hk : k ≤ kc) (hn : n ≤ ks) (hz : z = 0 ∨ z = 1) (q : Q (some (.int z)) h) : Go wd K₀ l Z R y bytes ml ret n0 kc ks Q h k n pc ls (.int z :: st) := by
  intro p e s0 s m args below meth c T L Bs C X hh N
  obtain ⟨hd, rfl⟩ := D
  have hl := C.2.2.2.2.2.2.1
  obtain ⟨fs, hr', hrun, hended, hW, hsame⟩ := X.leave (v := some (.int z)) (fun q => by rw [C.2.2.2.2.2.1, hr] at q; cases q) hl
  exact ⟨_, _, retOut X C.1 (C.2.2.2.2.2.1.trans hr) (by rcases hz with rfl | rfl <;> rfl) (Or.inl ⟨rfl, Or.inr (Or.inl rfl), z, rfl⟩) (hb C.2.1 hd) hr', hrun, hended, _, L, rfl, ⟨by show Q _ T.heap; rw [hh]; exact q, N⟩, endK Bs hh hW hsame hk hn⟩
theorem go_nret {z : Int32} {ty : FieldType} (hr : ret = some ty) (hty : ty = .byte ∨ ty = .char ∨ ty = .short) (D : Dc bytes pc .ireturn 1 pc') (hk : k ≤ kc) (hn : n ≤ ks) (hz : narrow ty (.int z) = .int z) (q : Q (some (.int z)) h) : Go wd K₀ l Z R y bytes ml ret n0 kc ks Q h k n pc ls (.int z :: st) := by
  intro p e s0 s m args below meth c T L Bs C X hh N
  obtain ⟨hd, rfl⟩ := D
  have hl := C.2.2.2.2.2.2.1
  obtain ⟨fs, hr', hrun, hended, hW, hsame⟩ := X.leave (v := some (.int z)) (fun q => by rw [C.2.2.2.2.2.1, hr] at q; cases q) hl
  exact ⟨_, _, retOut X C.1 (C.2.2.2.2.2.1.trans hr) hz (Or.inl ⟨rfl, Or.inr (Or.inr hty), z, rfl⟩) (hb C.2.1 hd) hr', hrun, hended, _, L, rfl, ⟨by show Q _ T.heap; rw [hh]; exact q, N⟩, endK Bs hh hW hsame hk hn⟩
theorem go_lret {z : Int64} (hr : ret = some .long) (D : Dc bytes pc .lreturn 1 pc') (hk : k ≤ kc) (hn : n ≤ ks) (q : Q (some (.long z)) h) : Go wd K₀ l Z R y bytes ml ret n0 kc ks Q h k n pc ls (.long z :: st) := by
  intro p e s0 s m args below meth c T L Bs C X hh N
  obtain ⟨hd, rfl⟩ := D
  have hl := C.2.2.2.2.2.2.1
  obtain ⟨fs, hr', hrun, hended, hW, hsame⟩ := X.leave (v := some (.long z)) (fun q => by rw [C.2.2.2.2.2.1, hr] at q; cases q) hl
  exact ⟨_, _, retOut X C.1 (C.2.2.2.2.2.1.trans hr) rfl (Or.inr (Or.inl ⟨rfl, rfl, z, rfl⟩)) (hb C.2.1 hd) hr', hrun, hended, _, L, rfl, ⟨by show Q _ T.heap; rw [hh]; exact q, N⟩, endK Bs hh hW hsame hk hn⟩
theorem narrow_ref {t : FieldType} {w : Value} (ht : t.isReference = true) (hw : w.isRef = true) : narrow t w = w := by
  cases t <;> cases w <;> first | rfl | (simp [FieldType.isReference] at ht; done) | (simp [Value.isRef] at hw; done)
theorem go_aret {w : Value} {t : FieldType} (hr : ret = some t) (ht : t.isReference = true) (hw : w.isRef = true) (D : Dc bytes pc .areturn 1 pc') (hk : k ≤ kc) (hn : n ≤ ks) (q : Q (some w) h) : Go wd K₀ l Z R y bytes ml ret n0 kc ks Q h k n pc ls (w :: st) := by
  intro p e s0 s m args below meth c T L Bs C X hh N
  obtain ⟨hd, rfl⟩ := D
  have hl := C.2.2.2.2.2.2.1
  obtain ⟨fs, hr', hrun, hended, hW, hsame⟩ := X.leave (v := some w) (fun q => by rw [C.2.2.2.2.2.1, hr] at q; cases q) hl
  exact ⟨_, _, retOut X C.1 (C.2.2.2.2.2.1.trans hr) (narrow_ref ht hw) (Or.inr (Or.inr (Or.inr (Or.inr ⟨rfl, ht, hw⟩)))) (hb C.2.1 hd) hr', hrun, hended, _, L, rfl, ⟨by show Q _ T.heap; rw [hh]; exact q, N⟩, endK Bs hh hW hsame hk hn⟩
theorem go_ret (hr : ret = none) (D : Dc bytes pc .return_ 1 pc') (hk : k ≤ kc) (hn : n ≤ ks) (q : Q none h) : Go wd K₀ l Z R y bytes ml ret n0 kc ks Q h k n pc ls [] := by
  intro p e s0 s m args below meth c T L Bs C X hh N
  obtain ⟨hd, rfl⟩ := D
  have hl := C.2.2.2.2.2.2.1
  obtain ⟨fs, hr', hrun, hended, hW, hsame⟩ := X.leave (v := none) (fun _ => rfl) hl
  exact ⟨_, _, X.returnOut C.1 (C.2.2.2.2.2.1.trans hr) (hb C.2.1 hd) hr', hrun, hended, _, L, rfl, ⟨by show Q _ T.heap; rw [hh]; exact q, N⟩, endK Bs hh hW hsame hk hn⟩
theorem con_of {as' : Array Value} (hp : plainFor y = true) (he : Jvm.Sym.laidSlots as'.toList ++ List.replicate (ml - (Jvm.Sym.laidSlots as'.toList).length) .unset = ls) (G : Go wd KT l Z R y bytes ml ret n0 R.cells R.slots Q h 0 0 0 ls []) : Con wd l Z y bytes ml ret R as' h n0 Q := by
  intro ws
  refine MetFree.of_bodySF hp hisR ?_
  intro p e s m args below meth c s₁ Bd hml hP hK
  obtain ⟨rfl, hZ, hh⟩ := hP
  have X0 : Stand p l e R s m args below meth c s₁ [] 0 0 := Stand.of_body Bd
  have e0 : s₁.heap = h := by rw [← hh, Bd.state]; rfl
  obtain ⟨s₂, o, h1, h2, h3, v, L, e1, ⟨q1, q2⟩, q3⟩ := G p e s s m args below meth c s₁ [] (Base.start s hh) ⟨Bd.exec, Bd.bytes, hml, findClass_of_methodNamed Bd.named, hZ, Bd.returns, Bd.notSynchronized, (name_of_methodNamed Bd.named Bd.method).1, trivial⟩ X0 e0 (Fr.nil n0)
  exact ⟨s₂, o, (XT.entry (Ls := ls.toArray) (by simpa using he)).trans h1, h2, h3, v, L, e1, ⟨⟨q1, by rw [← hh]; exact q3.size⟩, q2⟩, q3⟩
theorem go_callS1 {y' : MethodName} {b' : ByteArray} {m' : Nat} {r' : Option FieldType} {rm : Room} {idx W : Nat} {argsL : List Value} {P : Value → Heap → Prop} (D : Dc bytes pc (.invokestatic idx) 3 pc') (hM : Con false l Z y' b' m' r' rm argsL.toArray h n0 (R1 P))
    (w1 : (Cond.methodLink y.cls idx y').before a0 Z = true) (w2 : (Cond.static y').before a0 Z = true) (w3 : (Cond.initialized y'.cls).before a0 Z = true) (w4 : (Cond.code y' b' m' r').before a0 Z = true) (hy : y'.cls ≠ "java/lang/invoke/MethodHandle" ∧ y'.cls ≠ "java/lang/invoke/VarHandle")
    (hlen : ∀ sig, parseMethodDescriptor y'.desc = some sig → argsL.length = sig.parameters.length) {st₀ : List Value} (hst : st₀ = argsL.reverse ++ st) (hW : (st.map fun v => v.category).sum = W) (hf : rm.frames + 1 ≤ R.frames) (hlo : W + (m' + 11) + rm.locals ≤ R.locals) (hk : k + rm.cells ≤ R.cells) (hn : n + rm.slots ≤ R.slots) (hls : ls.length = ml)
    (G : ∀ w h', P w h' → Go wd K₀ l Z R y bytes ml ret n0 kc ks Q h' (k + rm.cells) (n + rm.slots) pc' ls (w :: st)) : Go wd K₀ l Z R y bytes ml ret n0 kc ks Q h k n pc ls st₀ := by
  subst hst
  intro p e s0 s m args below meth c T L Bs C X hh N
  obtain ⟨hd, rfl⟩ := D
  have hZ := C.2.2.2.2.1
  obtain ⟨v, vm₁, ⟨B, Lb, kb, nb⟩, -, X', ⟨Lq, ⟨⟨hQ, hsz⟩, Ns⟩, e1, e2, e3⟩, st'⟩ := Jvm.LawKit.callS X C.1 (y := y') C.2.2.2.1 (mvT hZ w1) (mvT hZ w2) (mvT hZ w3) (mvT hZ w4) hy (backOf (W := W) (Q := fun v h' L => ((R1 P) v h' ∧ h.size ≤ h'.size) ∧ Fr n0 L) (hM []) hZ w4 w3 hf hlo) (g := mkF m pc ls.toArray (argsL.reverse ++ st)) rfl
    (by rw [C.2.2.1]; simpa using hls) (argsL := argsL) (rest := st) hlen rfl (by show 2 * 0 + _ ≤ W; rw [← hW]; omega) (hb C.2.1 hd) (fun _ _ => ⟨rfl, hh, hk, hn⟩)
  dsimp only [Pt.U, Pt.locs, Pt.cells, Pt.slots] at X' hQ hsz e1 e2 e3 st'
  subst e1 e2 e3
  obtain ⟨w, rfl, hP⟩ := hQ
  exact (G w B.heap hP p e s0 s m args below meth c B _ (Bs.mono hsz) C X' rfl (N.app Ns)).pre st'
theorem go_callV1 {y' : MethodName} {b' : ByteArray} {m' : Nat} {r' : Option FieldType} {rm : Room} {idx W : Nat} {argsL : List Value} {P : Value → Heap → Prop} {x' : MethodName} {K : String} {a : Addr} (D : Dc bytes pc (.invokevirtual idx) 3 pc') (hM : Con false l Z y' b' m' r' rm (.ref a :: argsL).toArray h n0 (R1 P)) (E : Exa Z h a K)
    (w1 : (Cond.methodLink y.cls idx x').before a0 Z = true) (w5 : (Cond.declares x').before a0 Z = true) (nf : ∀ s : State, Z.Warmed39 s.vm → NotFace s x') (w6 : (Cond.selects K x' y').before a0 Z = true) (w2 : (Cond.instanceMethod y').before a0 Z = true) (w3 : (Cond.initialized y'.cls).before a0 Z = true) (w4 : (Cond.code y' b' m' r').before a0 Z = true)
    (hy : x'.cls ≠ "java/lang/invoke/MethodHandle" ∧ x'.cls ≠ "java/lang/invoke/VarHandle") (hlen : ∀ sig, parseMethodDescriptor x'.desc = some sig → argsL.length = sig.parameters.length) {st₀ : List Value} (hst : st₀ = argsL.reverse ++ .ref a :: st) (hW : (st.map fun v => v.category).sum = W) (hf : rm.frames + 1 ≤ R.frames) (hlo : W + (m' + 11) + rm.locals ≤ R.locals) (hk : k + rm.cells ≤ R.cells) (hn : n + rm.slots ≤ R.slots) (hls : ls.length = ml)
    (G : ∀ w h', P w h' → Go wd K₀ l Z R y bytes ml ret n0 kc ks Q h' (k + rm.cells) (n + rm.slots) pc' ls (w :: st)) : Go wd K₀ l Z R y bytes ml ret n0 kc ks Q h k n pc ls st₀ := by
  subst hst
  intro p e s0 s m args below meth c T L Bs C X hh N
  obtain ⟨hd, rfl⟩ := D
  have hZ := C.2.2.2.2.1
  obtain ⟨cq, kq, qa, qb, qc⟩ := isOf (T := T) hZ hh E
  obtain ⟨v, vm₁, ⟨B, Lb, kb, nb⟩, -, X', ⟨Lq, ⟨⟨hQ, hsz⟩, Ns⟩, e1, e2, e3⟩, st'⟩ := X.virtualBack C.1 (y := x') (z := y') C.2.2.2.1 (mvT hZ w1) (mvT hZ w5) (nf s hZ) (mvT hZ w6) (mvT hZ w2) hy (backOf (W := W) (Q := fun v h' L => ((R1 P) v h' ∧ h.size ≤ h'.size) ∧ Fr n0 L) (hM []) hZ w4 w3 hf hlo) qa qc (g := mkF m pc ls.toArray (argsL.reverse ++ .ref a :: st)) rfl
    (by rw [C.2.2.1]; simpa using hls) (Steps.refl _) (argsL := argsL) (rest := st) hlen rfl (by show 2 * 0 + _ ≤ W; rw [← hW]; omega) (hb C.2.1 hd) (fun _ _ => ⟨rfl, hh, hk, hn⟩)
  dsimp only [Pt.U, Pt.locs, Pt.cells, Pt.slots] at X' hQ hsz e1 e2 e3 st'
  subst e1 e2 e3
  obtain ⟨w, rfl, hP⟩ := hQ
  exact (G w B.heap hP p e s0 s m args below meth c B _ (Bs.mono hsz) C X' rfl (N.app Ns)).pre (fun t q => st'.trans q)
theorem go_callP1 {y' : MethodName} {b' : ByteArray} {m' : Nat} {r' : Option FieldType} {rm : Room} {idx W : Nat} {argsL : List Value} {P : Value → Heap → Prop} {K : String} {a : Addr} (D : Dc bytes pc (.invokevirtual idx) 3 pc') (hM : Con false l Z y' b' m' r' rm (.ref a :: argsL).toArray h n0 (R1 P)) (E : Exa Z h a K)
    (w1 : (Cond.methodLink y.cls idx y').before a0 Z = true) (w2 : (Cond.instanceMethod y').before a0 Z = true) {kk : Nat} (wi : (Cond.instantiable y'.cls kk).before a0 Z = true) (w5 : (Cond.privateMethod y').before a0 Z = true) (w3 : (Cond.initialized y'.cls).before a0 Z = true) (w4 : (Cond.code y' b' m' r').before a0 Z = true) (hy : y'.cls ≠ "java/lang/invoke/MethodHandle" ∧ y'.cls ≠ "java/lang/invoke/VarHandle")
    (hlen : ∀ sig, parseMethodDescriptor y'.desc = some sig → argsL.length = sig.parameters.length) {st₀ : List Value} (hst : st₀ = argsL.reverse ++ .ref a :: st) (hW : (st.map fun v => v.category).sum = W) (hf : rm.frames + 1 ≤ R.frames) (hlo : W + (m' + 11) + rm.locals ≤ R.locals) (hk : k + rm.cells ≤ R.cells) (hn : n + rm.slots ≤ R.slots) (hls : ls.length = ml)
    (G : ∀ w h', P w h' → Go wd K₀ l Z R y bytes ml ret n0 kc ks Q h' (k + rm.cells) (n + rm.slots) pc' ls (w :: st)) : Go wd K₀ l Z R y bytes ml ret n0 kc ks Q h k n pc ls st₀ := by
  subst hst
  intro p e s0 s m args below meth c T L Bs C X hh N
  obtain ⟨hd, rfl⟩ := D
  have hZ := C.2.2.2.2.1
  obtain ⟨cq, q1, q2⟩ := E.cell
  have wi' : (Cond.instantiable y'.cls kk).before args s = true := mvT hZ wi
  obtain ⟨c2, k2, i1, i2, -, i4, -⟩ := Cond.instantiable_spec wi'
  have hpa : s.PrivateAt y' := Cond.privateMethod_at (mvP hZ w5 (args := #[]))
  have w6 : (Cond.selects y'.cls y' y').before args s = true := selects_self_of_private i1 i2 (Bool.or_eq_false_iff.mp i4).1 hpa (mvT hZ w2) hy
  obtain ⟨v, vm₁, ⟨B, Lb, kb, nb⟩, -, X', ⟨Lq, ⟨⟨hQ, hsz⟩, Ns⟩, e1, e2, e3⟩, st'⟩ := X.privateBack C.1 (y := y') C.2.2.2.1 (mvT hZ w1) (mvT hZ w2) w6 hpa (mvT hZ w4) hy (backOf (W := W) (Q := fun v h' L => ((R1 P) v h' ∧ h.size ≤ h'.size) ∧ Fr n0 L) (hM []) hZ w4 w3 hf hlo) (g := mkF m pc ls.toArray (argsL.reverse ++ .ref a :: st)) rfl
    (by rw [C.2.2.1]; simpa using hls) (Steps.refl _) (a := a) (by rw [hh]; exact q1) q2 (argsL := argsL) (rest := st) hlen rfl (by show 2 * 0 + _ ≤ W; rw [← hW]; omega) (hb C.2.1 hd) (fun _ _ => ⟨rfl, hh, hk, hn⟩)
  dsimp only [Pt.U, Pt.locs, Pt.cells, Pt.slots] at X' hQ hsz e1 e2 e3 st'
  subst e1 e2 e3
  obtain ⟨w, rfl, hP⟩ := hQ
  exact (G w B.heap hP p e s0 s m args below meth c B _ (Bs.mono hsz) C X' rfl (N.app Ns)).pre (fun t q => st'.trans q)
theorem go_callS0 {y' : MethodName} {b' : ByteArray} {m' : Nat} {r' : Option FieldType} {rm : Room} {idx W : Nat} {argsL : List Value} {P : Heap → Prop} (D : Dc bytes pc (.invokestatic idx) 3 pc') (hM : Con false l Z y' b' m' r' rm argsL.toArray h n0 (R0 P))
    (w1 : (Cond.methodLink y.cls idx y').before a0 Z = true) (w2 : (Cond.static y').before a0 Z = true) (w3 : (Cond.initialized y'.cls).before a0 Z = true) (w4 : (Cond.code y' b' m' r').before a0 Z = true) (hy : y'.cls ≠ "java/lang/invoke/MethodHandle" ∧ y'.cls ≠ "java/lang/invoke/VarHandle")
    (hlen : ∀ sig, parseMethodDescriptor y'.desc = some sig → argsL.length = sig.parameters.length) {st₀ : List Value} (hst : st₀ = argsL.reverse ++ st) (hW : (st.map fun v => v.category).sum = W) (hf : rm.frames + 1 ≤ R.frames) (hlo : W + (m' + 11) + rm.locals ≤ R.locals) (hk : k + rm.cells ≤ R.cells) (hn : n + rm.slots ≤ R.slots) (hls : ls.length = ml)
    (G : ∀ h', P h' → Go wd K₀ l Z R y bytes ml ret n0 kc ks Q h' (k + rm.cells) (n + rm.slots) pc' ls st) : Go wd K₀ l Z R y bytes ml ret n0 kc ks Q h k n pc ls st₀ := by
  subst hst
  intro p e s0 s m args below meth c T L Bs C X hh N
  obtain ⟨hd, rfl⟩ := D
  have hZ := C.2.2.2.2.1
  obtain ⟨v, vm₁, ⟨B, Lb, kb, nb⟩, -, X', ⟨Lq, ⟨⟨hQ, hsz⟩, Ns⟩, e1, e2, e3⟩, st'⟩ := Jvm.LawKit.callS X C.1 (y := y') C.2.2.2.1 (mvT hZ w1) (mvT hZ w2) (mvT hZ w3) (mvT hZ w4) hy (backOf (W := W) (Q := fun v h' L => ((R0 P) v h' ∧ h.size ≤ h'.size) ∧ Fr n0 L) (hM []) hZ w4 w3 hf hlo) (g := mkF m pc ls.toArray (argsL.reverse ++ st)) rfl
    (by rw [C.2.2.1]; simpa using hls) (argsL := argsL) (rest := st) hlen rfl (by show 2 * 0 + _ ≤ W; rw [← hW]; omega) (hb C.2.1 hd) (fun _ _ => ⟨rfl, hh, hk, hn⟩)
  dsimp only [Pt.U, Pt.locs, Pt.cells, Pt.slots] at X' hQ hsz e1 e2 e3 st'
  subst e1 e2 e3
  obtain ⟨rfl, hP⟩ := hQ
  exact (G B.heap hP p e s0 s m args below meth c B _ (Bs.mono hsz) C X' rfl (N.app Ns)).pre st'
theorem go_callN0 {y' : MethodName} {b' : ByteArray} {m' : Nat} {r' : Option FieldType} {rm : Room} {idx W : Nat} {argsL : List Value} {P : Heap → Prop} {a : Addr} (D : Dc bytes pc (.invokespecial idx) 3 pc') (hi : y'.name = "<init>") (hr' : r' = none) (hM : Con false l Z y' b' m' r' rm (.ref a :: argsL).toArray h n0 (R0 P))
    (w1 : (Cond.methodLink y.cls idx y').before a0 Z = true) (w2 : (Cond.instanceMethod y').before a0 Z = true) (w3 : (Cond.initialized y'.cls).before a0 Z = true) (w4 : (Cond.code y' b' m' r').before a0 Z = true) (hy : y'.cls ≠ "java/lang/invoke/MethodHandle" ∧ y'.cls ≠ "java/lang/invoke/VarHandle")
    (hlen : ∀ sig, parseMethodDescriptor y'.desc = some sig → argsL.length = sig.parameters.length) {st₀ : List Value} (hst : st₀ = argsL.reverse ++ .ref a :: st) (hW : (st.map fun v => v.category).sum = W) (hf : rm.frames + 1 ≤ R.frames) (hlo : W + (m' + 11) + rm.locals ≤ R.locals) (hk : k + rm.cells ≤ R.cells) (hn : n + rm.slots ≤ R.slots) (hls : ls.length = ml)
    (G : ∀ h', P h' → Go wd K₀ l Z R y bytes ml ret n0 kc ks Q h' (k + rm.cells) (n + rm.slots) pc' ls st) : Go wd K₀ l Z R y bytes ml ret n0 kc ks Q h k n pc ls st₀ := by
  subst hst hr'
  intro p e s0 s m args below meth c T L Bs C X hh N
  obtain ⟨hd, rfl⟩ := D
  have hZ := C.2.2.2.2.1
  obtain ⟨v, vm₁, ⟨B, Lb, kb, nb⟩, -, X', ⟨Lq, ⟨⟨hQ, hsz⟩, Ns⟩, e1, e2, e3⟩, st'⟩ := X.specialBack C.1 (y := y') hi C.2.2.2.1 (mvT hZ w1) (mvT hZ w2) (mvT hZ w4) hy (backOf (W := W) (Q := fun v h' L => ((R0 P) v h' ∧ h.size ≤ h'.size) ∧ Fr n0 L) (hM []) hZ w4 w3 hf hlo) (g := mkF m pc ls.toArray (argsL.reverse ++ .ref a :: st)) rfl
    (by rw [C.2.2.1]; simpa using hls) (Steps.refl _) (a := a) (argsL := argsL) (rest := st) hlen rfl (by show 2 * 0 + _ ≤ W; rw [← hW]; omega) (hb C.2.1 hd) (fun _ _ => ⟨rfl, hh, hk, hn⟩)
  dsimp only [Pt.U, Pt.locs, Pt.cells, Pt.slots] at X' hQ hsz e1 e2 e3 st'
  subst e1 e2 e3
  obtain ⟨rfl, hP⟩ := hQ
  exact (G B.heap hP p e s0 s m args below meth c B _ (Bs.mono hsz) C X' rfl (N.app Ns)).pre (fun t q => st'.trans q)
theorem go_callV0 {y' : MethodName} {b' : ByteArray} {m' : Nat} {r' : Option FieldType} {rm : Room} {idx W : Nat} {argsL : List Value} {P : Heap → Prop} {x' : MethodName} {K : String} {a : Addr} (D : Dc bytes pc (.invokevirtual idx) 3 pc') (hM : Con false l Z y' b' m' r' rm (.ref a :: argsL).toArray h n0 (R0 P)) (E : Exa Z h a K)
    (w1 : (Cond.methodLink y.cls idx x').before a0 Z = true) (w5 : (Cond.declares x').before a0 Z = true) (nf : ∀ s : State, Z.Warmed39 s.vm → NotFace s x') (w6 : (Cond.selects K x' y').before a0 Z = true) (w2 : (Cond.instanceMethod y').before a0 Z = true) (w3 : (Cond.initialized y'.cls).before a0 Z = true) (w4 : (Cond.code y' b' m' r').before a0 Z = true)
    (hy : x'.cls ≠ "java/lang/invoke/MethodHandle" ∧ x'.cls ≠ "java/lang/invoke/VarHandle") (hlen : ∀ sig, parseMethodDescriptor x'.desc = some sig → argsL.length = sig.parameters.length) {st₀ : List Value} (hst : st₀ = argsL.reverse ++ .ref a :: st) (hW : (st.map fun v => v.category).sum = W) (hf : rm.frames + 1 ≤ R.frames) (hlo : W + (m' + 11) + rm.locals ≤ R.locals) (hk : k + rm.cells ≤ R.cells) (hn : n + rm.slots ≤ R.slots) (hls : ls.length = ml)
    (G : ∀ h', P h' → Go wd K₀ l Z R y bytes ml ret n0 kc ks Q h' (k + rm.cells) (n + rm.slots) pc' ls st) : Go wd K₀ l Z R y bytes ml ret n0 kc ks Q h k n pc ls st₀ := by
  subst hst
  intro p e s0 s m args below meth c T L Bs C X hh N
  obtain ⟨hd, rfl⟩ := D
  have hZ := C.2.2.2.2.1
  obtain ⟨cq, kq, qa, qb, qc⟩ := isOf (T := T) hZ hh E
  obtain ⟨v, vm₁, ⟨B, Lb, kb, nb⟩, -, X', ⟨Lq, ⟨⟨hQ, hsz⟩, Ns⟩, e1, e2, e3⟩, st'⟩ := X.virtualBack C.1 (y := x') (z := y') C.2.2.2.1 (mvT hZ w1) (mvT hZ w5) (nf s hZ) (mvT hZ w6) (mvT hZ w2) hy (backOf (W := W) (Q := fun v h' L => ((R0 P) v h' ∧ h.size ≤ h'.size) ∧ Fr n0 L) (hM []) hZ w4 w3 hf hlo) qa qc (g := mkF m pc ls.toArray (argsL.reverse ++ .ref a :: st)) rfl
    (by rw [C.2.2.1]; simpa using hls) (Steps.refl _) (argsL := argsL) (rest := st) hlen rfl (by show 2 * 0 + _ ≤ W; rw [← hW]; omega) (hb C.2.1 hd) (fun _ _ => ⟨rfl, hh, hk, hn⟩)
  dsimp only [Pt.U, Pt.locs, Pt.cells, Pt.slots] at X' hQ hsz e1 e2 e3 st'
  subst e1 e2 e3
  obtain ⟨rfl, hP⟩ := hQ
  exact (G B.heap hP p e s0 s m args below meth c B _ (Bs.mono hsz) C X' rfl (N.app Ns)).pre (fun t q => st'.trans q)
theorem go_callP0 {y' : MethodName} {b' : ByteArray} {m' : Nat} {r' : Option FieldType} {rm : Room} {idx W : Nat} {argsL : List Value} {P : Heap → Prop} {K : String} {a : Addr} (D : Dc bytes pc (.invokevirtual idx) 3 pc') (hM : Con false l Z y' b' m' r' rm (.ref a :: argsL).toArray h n0 (R0 P)) (E : Exa Z h a K)
    (w1 : (Cond.methodLink y.cls idx y').before a0 Z = true) (w2 : (Cond.instanceMethod y').before a0 Z = true) {kk : Nat} (wi : (Cond.instantiable y'.cls kk).before a0 Z = true) (w5 : (Cond.privateMethod y').before a0 Z = true) (w3 : (Cond.initialized y'.cls).before a0 Z = true) (w4 : (Cond.code y' b' m' r').before a0 Z = true) (hy : y'.cls ≠ "java/lang/invoke/MethodHandle" ∧ y'.cls ≠ "java/lang/invoke/VarHandle")
    (hlen : ∀ sig, parseMethodDescriptor y'.desc = some sig → argsL.length = sig.parameters.length) {st₀ : List Value} (hst : st₀ = argsL.reverse ++ .ref a :: st) (hW : (st.map fun v => v.category).sum = W) (hf : rm.frames + 1 ≤ R.frames) (hlo : W + (m' + 11) + rm.locals ≤ R.locals) (hk : k + rm.cells ≤ R.cells) (hn : n + rm.slots ≤ R.slots) (hls : ls.length = ml)
    (G : ∀ h', P h' → Go wd K₀ l Z R y bytes ml ret n0 kc ks Q h' (k + rm.cells) (n + rm.slots) pc' ls st) : Go wd K₀ l Z R y bytes ml ret n0 kc ks Q h k n pc ls st₀ := by
  subst hst
  intro p e s0 s m args below meth c T L Bs C X hh N
  obtain ⟨hd, rfl⟩ := D
  have hZ := C.2.2.2.2.1
  obtain ⟨cq, q1, q2⟩ := E.cell
  have wi' : (Cond.instantiable y'.cls kk).before args s = true := mvT hZ wi
  obtain ⟨c2, k2, i1, i2, -, i4, -⟩ := Cond.instantiable_spec wi'
  have hpa : s.PrivateAt y' := Cond.privateMethod_at (mvP hZ w5 (args := #[]))
  have w6 : (Cond.selects y'.cls y' y').before args s = true := selects_self_of_private i1 i2 (Bool.or_eq_false_iff.mp i4).1 hpa (mvT hZ w2) hy
  obtain ⟨v, vm₁, ⟨B, Lb, kb, nb⟩, -, X', ⟨Lq, ⟨⟨hQ, hsz⟩, Ns⟩, e1, e2, e3⟩, st'⟩ := X.privateBack C.1 (y := y') C.2.2.2.1 (mvT hZ w1) (mvT hZ w2) w6 hpa (mvT hZ w4) hy (backOf (W := W) (Q := fun v h' L => ((R0 P) v h' ∧ h.size ≤ h'.size) ∧ Fr n0 L) (hM []) hZ w4 w3 hf hlo) (g := mkF m pc ls.toArray (argsL.reverse ++ .ref a :: st)) rfl
    (by rw [C.2.2.1]; simpa using hls) (Steps.refl _) (a := a) (by rw [hh]; exact q1) q2 (argsL := argsL) (rest := st) hlen rfl (by show 2 * 0 + _ ≤ W; rw [← hW]; omega) (hb C.2.1 hd) (fun _ _ => ⟨rfl, hh, hk, hn⟩)
  dsimp only [Pt.U, Pt.locs, Pt.cells, Pt.slots] at X' hQ hsz e1 e2 e3 st'
  subst e1 e2 e3
  obtain ⟨rfl, hP⟩ := hQ
  exact (G B.heap hP p e s0 s m args below meth c B _ (Bs.mono hsz) C X' rfl (N.app Ns)).pre (fun t q => st'.trans q)
theorem Base.since {s0 s : State} {vm' : Vm} {h' : Heap} (B : Base true s0 s h) (q : s.Since vm' h'.size) (g : h.size ≤ h'.size) : Base true s0 (s.setVm vm') h' := by
  obtain ⟨vm0, k0, rfl, hS, hk⟩ := B
  exact ⟨vm', h'.size, rfl, hS.trans q (Nat.le_trans hk g), Nat.le_refl _⟩
theorem Ctx.since {p : Program} {s : State} {m : MethodId} {meth : Method} {c : Code} {vm' : Vm} {k' : Nat} (C : Ctx K₀ Z y bytes ml ret p s m meth c) (q : s.Since vm' k') : Ctx KT Z y bytes ml ret p (s.setVm vm') m meth c :=
  ⟨C.1, C.2.1, C.2.2.1, by rw [show (s.setVm vm').vm = vm' from rfl, q.1.alike.findClass]; exact C.2.2.2.1, State.Warmed39.trans C.2.2.2.2.1 q.1, C.2.2.2.2.2.1, C.2.2.2.2.2.2.1, C.2.2.2.2.2.2.2.1, trivial⟩
theorem go_ldcS {idx nn : Nat} {text : String} (D : Dc bytes pc (.ldc idx) 2 pc') (w : (Cond.stringLink y.cls idx text).before a0 Z = true) (wS : ∀ a ∈ Bundle.stringAtoms, a.before a0 Z = true) (hn : 4 * text.toList.length ≤ nn) (hbig : nn ≤ 536870912) (hc : k + 2 ≤ R.cells) (hl : n + (nn + 4) ≤ R.slots)
    (G : ∀ (a : Addr) h', Ext h h' → Go true KT l Z R y bytes ml ret n0 kc ks Q h' (k + 2) (n + (nn + 4)) pc' ls (.ref a :: st)) : Go true K₀ l Z R y bytes ml ret n0 kc ks Q h k n pc ls st := by
  intro p e s0 s m args below meth c T L Bs C X hh N
  obtain ⟨hd, rfl⟩ := D
  obtain ⟨vm0, k0, rfl, hS, hk⟩ := Bs
  obtain ⟨a, T', h', k1, X', e', E, hS', hk', hZ', hf', st'⟩ := ldcS X C.1 C.2.2.2.2.1 C.2.2.2.1 w wS hh hS hk (g := mkF m pc ls.toArray st) rfl (hb C.2.1 hd) hn hbig hc hl
  exact (G a h' E p e s0 _ m args below meth c T' L ⟨_, k1, rfl, hS', hk'⟩ ⟨C.1, C.2.1, C.2.2.1, hf', hZ', C.2.2.2.2.2.1, C.2.2.2.2.2.2.1, C.2.2.2.2.2.2.2.1, trivial⟩ X' e' N).pre st'
theorem go_K (G : Go true KT l Z R y bytes ml ret n0 kc ks Q h k n pc ls st) : Go true K₀ l Z R y bytes ml ret n0 kc ks Q h k n pc ls st := fun p e s0 s m args below meth c T L B C X hh N => G p e s0 s m args below meth c T L B ⟨C.1, C.2.1, C.2.2.1, C.2.2.2.1, C.2.2.2.2.1, C.2.2.2.2.2.1, C.2.2.2.2.2.2.1, C.2.2.2.2.2.2.2.1, trivial⟩ X hh N
theorem go_ldcV {idx nn : Nat} {text : String} {vs : List Value} {z : Int32} (D : Dc bytes pc (.ldc idx) 2 pc') (w : (Cond.stringLink y.cls idx text).before a0 Z = true) (wS : ∀ a ∈ Bundle.stringAtoms, a.before a0 Z = true) (hld : Jvm.Lit.constHeld Z y.cls idx) (hcw : Jvm.Lit.compactW.before a0 Z = true)
    (ht : (∀ c ∈ text.toList, c.toNat < 256) ∧ text.toList.map (fun c => Value.int (Jvm.Lit.byteI c.toNat.toUInt16)) = vs) (hz : ¬ z < 0) (hlv : z.toNatClampNeg = vs.length) (hn : 4 * text.toList.length ≤ nn) (hbig : nn ≤ 536870912) (hc : k + 2 ≤ R.cells) (hl : n + (nn + 4) ≤ R.slots) (hn0 : Z.heap.size = n0)
    (G : ∀ (a b : Addr) (kb : ClassId) h', Ext h h' → Exa Z h' a "java/lang/String" → Fld Z h' a "java/lang/String" "coder" "B" (.int 0) → Fld Z h' a "java/lang/String" "value" "[B" (.ref b) → Arv Z h' b kb .byte z vs (.int 0) → Go true KT l Z R y bytes ml ret n0 kc ks Q h' (k + 2) (n + (nn + 4)) pc' ls (.ref a :: st)) : Go true (fun s => s = Z) l Z R y bytes ml ret n0 kc ks Q h k n pc ls st := by
  intro p e s0 s m args below meth c T L Bs C X hh N
  obtain ⟨hd, rfl⟩ := D
  obtain ⟨vm0, k0, rfl, hS, hk⟩ := Bs
  have hZs : s0.setVm vm0 = Z := C.2.2.2.2.2.2.2.2
  subst hZs
  obtain ⟨a, T', h', k1, b, kb, X', e', E, hS', hk', hZ', hf', F1, F2, F3, F4, -, -, -, -, st'⟩ := ldcSVL (Z := s0.setVm vm0) (s := s0) (vm0 := vm0) (Ts := []) X C.1 C.2.2.2.2.1 C.2.2.2.1 w wS hh hS hk (hn0 ▸ N) (fun _ _ q => q) IB.start (by simp) hld hcw ht hz hlv (g := mkF m pc ls.toArray st) rfl (hb C.2.1 hd) hn hbig hc hl
  exact (G a b kb h' E F1 F2 F3 F4 p e s0 _ m args below meth c T' L ⟨_, k1, rfl, hS', hk'⟩ ⟨C.1, C.2.1, C.2.2.1, hf', hZ', C.2.2.2.2.2.1, C.2.2.2.2.2.2.1, C.2.2.2.2.2.2.2.1, trivial⟩ X' e' N).pre st'
theorem con_ofZ {as' : Array Value} (hp : plainFor y = true) (he : Jvm.Sym.laidSlots as'.toList ++ List.replicate (ml - (Jvm.Sym.laidSlots as'.toList).length) .unset = ls) (G : Go wd (fun s => s = Z) l Z R y bytes ml ret n0 R.cells R.slots Q Z.heap 0 0 0 ls []) (ws : List Cond) :
    MetFree l y (head1 (Cond.code y bytes ml ret :: ws) R) (fun a U => a = as' ∧ U = Z) (fun _ _ _ _ _ => True) (fun _ U o U' => ∃ v L, o = .returned v ∧ ((Q v U'.heap ∧ Z.heap.size ≤ U'.heap.size) ∧ Fr n0 L) ∧ EndK wd U o U' L R.cells R.slots) := by
  refine MetFree.of_bodySF hp hisR ?_
  intro p e s m args below meth c s₁ Bd hml hP hK
  obtain ⟨rfl, hZ⟩ := hP
  subst hZ
  have X0 : Stand p l e R s m args below meth c s₁ [] 0 0 := Stand.of_body Bd
  have e0 : s₁.heap = s.heap := by rw [Bd.state]; rfl
  obtain ⟨s₂, o, h1, h2, h3, v, L, e1, ⟨q1, q2⟩, q3⟩ := G p e s s m args below meth c s₁ [] (Base.start s rfl) ⟨Bd.exec, Bd.bytes, hml, findClass_of_methodNamed Bd.named, State.Warmed39.refl s, Bd.returns, Bd.notSynchronized, (name_of_methodNamed Bd.named Bd.method).1, rfl⟩ X0 e0 (Fr.nil n0)
  exact ⟨s₂, o, (XT.entry (Ls := ls.toArray) (by simpa using he)).trans h1, h2, h3, v, L, e1, ⟨⟨q1, q3.size⟩, q2⟩, q3⟩
theorem go_cast {idx : Nat} {C0 : String} {a : Addr} (D : Dc bytes pc (.checkcast idx) 3 pc') (w : (Cond.classLink y.cls idx C0).before a0 Z = true) (F : Ins Z h a C0 true) (G : Go wd K₀ l Z R y bytes ml ret n0 kc ks Q h k n pc' ls (.ref a :: st)) : Go wd K₀ l Z R y bytes ml ret n0 kc ks Q h k n pc ls (.ref a :: st) := by
  intro p e s0 s m args below meth c T L Bs C X hh N
  obtain ⟨hd, rfl⟩ := D
  obtain ⟨T', X', e', st'⟩ := castY X C.1 C.2.2.2.2.1 C.2.2.2.1 w hh F (g := mkF m pc ls.toArray (.ref a :: st)) rfl rfl (hb C.2.1 hd)
  exact (G p e s0 s m args below meth c T' L Bs C X' e' N).pre st'
theorem go_inst {idx : Nat} {C0 : String} {a : Addr} (D : Dc bytes pc (.instanceof idx) 3 pc') (w : (Cond.classLink y.cls idx C0).before a0 Z = true) (F : Ins Z h a C0 true) (G : Go wd K₀ l Z R y bytes ml ret n0 kc ks Q h k n pc' ls (.int 1 :: st)) : Go wd K₀ l Z R y bytes ml ret n0 kc ks Q h k n pc ls (.ref a :: st) := by
  intro p e s0 s m args below meth c T L Bs C X hh N
  obtain ⟨hd, rfl⟩ := D
  obtain ⟨T', X', e', st'⟩ := instY X C.1 C.2.2.2.2.1 C.2.2.2.1 w hh F (g := mkF m pc ls.toArray (.ref a :: st)) rfl rfl (hb C.2.1 hd)
  exact (G p e s0 s m args below meth c T' L Bs C X' e' N).pre st'
theorem go_wcallS1 {y' : MethodName} {b' : ByteArray} {m' : Nat} {r' : Option FieldType} {rm : Room} {idx W : Nat} {argsL : List Value} {P : Value → Heap → Prop} (D : Dc bytes pc (.invokestatic idx) 3 pc') (hM : Con true l Z y' b' m' r' rm argsL.toArray h n0 (R1 P))
    (w1 : (Cond.methodLink y.cls idx y').before a0 Z = true) (w2 : (Cond.static y').before a0 Z = true) (w3 : (Cond.initialized y'.cls).before a0 Z = true) (w4 : (Cond.code y' b' m' r').before a0 Z = true) (hy : y'.cls ≠ "java/lang/invoke/MethodHandle" ∧ y'.cls ≠ "java/lang/invoke/VarHandle")
    (hlen : ∀ sig, parseMethodDescriptor y'.desc = some sig → argsL.length = sig.parameters.length) {st₀ : List Value} (hst : st₀ = argsL.reverse ++ st) (hW : (st.map fun v => v.category).sum = W) (hf : rm.frames + 1 ≤ R.frames) (hlo : W + (m' + 11) + rm.locals ≤ R.locals) (hk : k + rm.cells ≤ R.cells) (hn : n + rm.slots ≤ R.slots) (hls : ls.length = ml)
    (G : ∀ w h', P w h' → Go true KT l Z R y bytes ml ret n0 kc ks Q h' (k + rm.cells) (n + rm.slots) pc' ls (w :: st)) : Go true K₀ l Z R y bytes ml ret n0 kc ks Q h k n pc ls st₀ := by
  subst hst
  intro p e s0 s m args below meth c T L Bs C X hh N
  obtain ⟨hd, rfl⟩ := D
  have hZ := C.2.2.2.2.1
  obtain ⟨v, vm₁, ⟨B, Lb, kb, nb⟩, -, X', hSi, -, ⟨Lq, ⟨⟨hQ, hsz⟩, Ns⟩, e1, e2, e3⟩, st'⟩ := callSS X C.1 (y := y') C.2.2.2.1 (mvT hZ w1) (mvT hZ w2) (mvT hZ w3) (mvT hZ w4) hy (backOfS (W := W) (Q := fun v h' L => ((R1 P) v h' ∧ h.size ≤ h'.size) ∧ Fr n0 L) (hM []) hZ w4 w3 hf hlo) (g := mkF m pc ls.toArray (argsL.reverse ++ st)) rfl
    (by rw [C.2.2.1]; simpa using hls) (argsL := argsL) (rest := st) hlen rfl (by show 2 * 0 + _ ≤ W; rw [← hW]; omega) (hb C.2.1 hd) (fun _ _ => ⟨rfl, hh, hk, hn⟩)
  dsimp only [Pt.U, Pt.locs, Pt.cells, Pt.slots] at X' hSi hQ hsz e1 e2 e3 st'
  subst e1 e2 e3
  obtain ⟨w, rfl, hP⟩ := hQ
  exact (G w B.heap hP p e s0 _ m args below meth c B _ (Bs.since hSi hsz) (C.since hSi) X' rfl (N.app Ns)).pre (fun t q => st'.trans q)
theorem go_wcallV1 {y' : MethodName} {b' : ByteArray} {m' : Nat} {r' : Option FieldType} {rm : Room} {idx W : Nat} {argsL : List Value} {P : Value → Heap → Prop} {x' : MethodName} {K : String} {a : Addr} (D : Dc bytes pc (.invokevirtual idx) 3 pc') (hM : Con true l Z y' b' m' r' rm (.ref a :: argsL).toArray h n0 (R1 P)) (E : Exa Z h a K)
    (w1 : (Cond.methodLink y.cls idx x').before a0 Z = true) (w5 : (Cond.declares x').before a0 Z = true) (nf : ∀ s : State, Z.Warmed39 s.vm → NotFace s x') (w6 : (Cond.selects K x' y').before a0 Z = true) (w2 : (Cond.instanceMethod y').before a0 Z = true) (w3 : (Cond.initialized y'.cls).before a0 Z = true) (w4 : (Cond.code y' b' m' r').before a0 Z = true)
    (hy : x'.cls ≠ "java/lang/invoke/MethodHandle" ∧ x'.cls ≠ "java/lang/invoke/VarHandle") (hlen : ∀ sig, parseMethodDescriptor x'.desc = some sig → argsL.length = sig.parameters.length) {st₀ : List Value} (hst : st₀ = argsL.reverse ++ .ref a :: st) (hW : (st.map fun v => v.category).sum = W) (hf : rm.frames + 1 ≤ R.frames) (hlo : W + (m' + 11) + rm.locals ≤ R.locals) (hk : k + rm.cells ≤ R.cells) (hn : n + rm.slots ≤ R.slots) (hls : ls.length = ml)
    (G : ∀ w h', P w h' → Go true KT l Z R y bytes ml ret n0 kc ks Q h' (k + rm.cells) (n + rm.slots) pc' ls (w :: st)) : Go true K₀ l Z R y bytes ml ret n0 kc ks Q h k n pc ls st₀ := by
  subst hst
  intro p e s0 s m args below meth c T L Bs C X hh N
  obtain ⟨hd, rfl⟩ := D
  have hZ := C.2.2.2.2.1
  obtain ⟨cq, kq, qa, qb, qc⟩ := isOf (T := T) hZ hh E
  obtain ⟨v, vm₁, ⟨B, Lb, kb, nb⟩, -, X', hSi, -, ⟨Lq, ⟨⟨hQ, hsz⟩, Ns⟩, e1, e2, e3⟩, st'⟩ := X.virtualBackS C.1 (y := x') (z := y') C.2.2.2.1 (mvT hZ w1) (mvT hZ w5) (nf s hZ) (mvT hZ w6) (mvT hZ w2) hy (backOfS (W := W) (Q := fun v h' L => ((R1 P) v h' ∧ h.size ≤ h'.size) ∧ Fr n0 L) (hM []) hZ w4 w3 hf hlo) qa qc (g := mkF m pc ls.toArray (argsL.reverse ++ .ref a :: st)) rfl
    (by rw [C.2.2.1]; simpa using hls) (Steps.refl _) (argsL := argsL) (rest := st) hlen rfl (by show 2 * 0 + _ ≤ W; rw [← hW]; omega) (hb C.2.1 hd) (fun _ _ => ⟨rfl, hh, hk, hn⟩)
  dsimp only [Pt.U, Pt.locs, Pt.cells, Pt.slots] at X' hSi hQ hsz e1 e2 e3 st'
  subst e1 e2 e3
  obtain ⟨w, rfl, hP⟩ := hQ
  exact (G w B.heap hP p e s0 _ m args below meth c B _ (Bs.since hSi hsz) (C.since hSi) X' rfl (N.app Ns)).pre (fun t q => st'.trans q)
theorem go_wcallP1 {y' : MethodName} {b' : ByteArray} {m' : Nat} {r' : Option FieldType} {rm : Room} {idx W : Nat} {argsL : List Value} {P : Value → Heap → Prop} {K : String} {a : Addr} (D : Dc bytes pc (.invokevirtual idx) 3 pc') (hM : Con true l Z y' b' m' r' rm (.ref a :: argsL).toArray h n0 (R1 P)) (E : Exa Z h a K)
    (w1 : (Cond.methodLink y.cls idx y').before a0 Z = true) (w2 : (Cond.instanceMethod y').before a0 Z = true) {kk : Nat} (wi : (Cond.instantiable y'.cls kk).before a0 Z = true) (w5 : (Cond.privateMethod y').before a0 Z = true) (w3 : (Cond.initialized y'.cls).before a0 Z = true) (w4 : (Cond.code y' b' m' r').before a0 Z = true) (hy : y'.cls ≠ "java/lang/invoke/MethodHandle" ∧ y'.cls ≠ "java/lang/invoke/VarHandle")
    (hlen : ∀ sig, parseMethodDescriptor y'.desc = some sig → argsL.length = sig.parameters.length) {st₀ : List Value} (hst : st₀ = argsL.reverse ++ .ref a :: st) (hW : (st.map fun v => v.category).sum = W) (hf : rm.frames + 1 ≤ R.frames) (hlo : W + (m' + 11) + rm.locals ≤ R.locals) (hk : k + rm.cells ≤ R.cells) (hn : n + rm.slots ≤ R.slots) (hls : ls.length = ml)
    (G : ∀ w h', P w h' → Go true KT l Z R y bytes ml ret n0 kc ks Q h' (k + rm.cells) (n + rm.slots) pc' ls (w :: st)) : Go true K₀ l Z R y bytes ml ret n0 kc ks Q h k n pc ls st₀ := by
  subst hst
  intro p e s0 s m args below meth c T L Bs C X hh N
  obtain ⟨hd, rfl⟩ := D
  have hZ := C.2.2.2.2.1
  obtain ⟨cq, q1, q2⟩ := E.cell
  have wi' : (Cond.instantiable y'.cls kk).before args s = true := mvT hZ wi
  obtain ⟨c2, k2, i1, i2, -, i4, -⟩ := Cond.instantiable_spec wi'
  have hpa : s.PrivateAt y' := Cond.privateMethod_at (mvP hZ w5 (args := #[]))
  have w6 : (Cond.selects y'.cls y' y').before args s = true := selects_self_of_private i1 i2 (Bool.or_eq_false_iff.mp i4).1 hpa (mvT hZ w2) hy
  obtain ⟨v, vm₁, ⟨B, Lb, kb, nb⟩, -, X', hSi, -, ⟨Lq, ⟨⟨hQ, hsz⟩, Ns⟩, e1, e2, e3⟩, st'⟩ := X.privateBackS C.1 (y := y') C.2.2.2.1 (mvT hZ w1) (mvT hZ w2) w6 hpa (mvT hZ w4) hy (backOfS (W := W) (Q := fun v h' L => ((R1 P) v h' ∧ h.size ≤ h'.size) ∧ Fr n0 L) (hM []) hZ w4 w3 hf hlo) (g := mkF m pc ls.toArray (argsL.reverse ++ .ref a :: st)) rfl
    (by rw [C.2.2.1]; simpa using hls) (Steps.refl _) (a := a) (by rw [hh]; exact q1) q2 (argsL := argsL) (rest := st) hlen rfl (by show 2 * 0 + _ ≤ W; rw [← hW]; omega) (hb C.2.1 hd) (fun _ _ => ⟨rfl, hh, hk, hn⟩)
  dsimp only [Pt.U, Pt.locs, Pt.cells, Pt.slots] at X' hSi hQ hsz e1 e2 e3 st'
  subst e1 e2 e3
  obtain ⟨w, rfl, hP⟩ := hQ
  exact (G w B.heap hP p e s0 _ m args below meth c B _ (Bs.since hSi hsz) (C.since hSi) X' rfl (N.app Ns)).pre (fun t q => st'.trans q)
theorem go_wcallS0 {y' : MethodName} {b' : ByteArray} {m' : Nat} {r' : Option FieldType} {rm : Room} {idx W : Nat} {argsL : List Value} {P : Heap → Prop} (D : Dc bytes pc (.invokestatic idx) 3 pc') (hM : Con true l Z y' b' m' r' rm argsL.toArray h n0 (R0 P))
    (w1 : (Cond.methodLink y.cls idx y').before a0 Z = true) (w2 : (Cond.static y').before a0 Z = true) (w3 : (Cond.initialized y'.cls).before a0 Z = true) (w4 : (Cond.code y' b' m' r').before a0 Z = true) (hy : y'.cls ≠ "java/lang/invoke/MethodHandle" ∧ y'.cls ≠ "java/lang/invoke/VarHandle")
    (hlen : ∀ sig, parseMethodDescriptor y'.desc = some sig → argsL.length = sig.parameters.length) {st₀ : List Value} (hst : st₀ = argsL.reverse ++ st) (hW : (st.map fun v => v.category).sum = W) (hf : rm.frames + 1 ≤ R.frames) (hlo : W + (m' + 11) + rm.locals ≤ R.locals) (hk : k + rm.cells ≤ R.cells) (hn : n + rm.slots ≤ R.slots) (hls : ls.length = ml)
    (G : ∀ h', P h' → Go true KT l Z R y bytes ml ret n0 kc ks Q h' (k + rm.cells) (n + rm.slots) pc' ls st) : Go true K₀ l Z R y bytes ml ret n0 kc ks Q h k n pc ls st₀ := by
  subst hst
  intro p e s0 s m args below meth c T L Bs C X hh N
  obtain ⟨hd, rfl⟩ := D
  have hZ := C.2.2.2.2.1
  obtain ⟨v, vm₁, ⟨B, Lb, kb, nb⟩, -, X', hSi, -, ⟨Lq, ⟨⟨hQ, hsz⟩, Ns⟩, e1, e2, e3⟩, st'⟩ := callSS X C.1 (y := y') C.2.2.2.1 (mvT hZ w1) (mvT hZ w2) (mvT hZ w3) (mvT hZ w4) hy (backOfS (W := W) (Q := fun v h' L => ((R0 P) v h' ∧ h.size ≤ h'.size) ∧ Fr n0 L) (hM []) hZ w4 w3 hf hlo) (g := mkF m pc ls.toArray (argsL.reverse ++ st)) rfl
    (by rw [C.2.2.1]; simpa using hls) (argsL := argsL) (rest := st) hlen rfl (by show 2 * 0 + _ ≤ W; rw [← hW]; omega) (hb C.2.1 hd) (fun _ _ => ⟨rfl, hh, hk, hn⟩)
  dsimp only [Pt.U, Pt.locs, Pt.cells, Pt.slots] at X' hSi hQ hsz e1 e2 e3 st'
  subst e1 e2 e3
  obtain ⟨rfl, hP⟩ := hQ
  exact (G B.heap hP p e s0 _ m args below meth c B _ (Bs.since hSi hsz) (C.since hSi) X' rfl (N.app Ns)).pre (fun t q => st'.trans q)
theorem go_wcallN0 {y' : MethodName} {b' : ByteArray} {m' : Nat} {r' : Option FieldType} {rm : Room} {idx W : Nat} {argsL : List Value} {P : Heap → Prop} {a : Addr} (D : Dc bytes pc (.invokespecial idx) 3 pc') (hi : y'.name = "<init>") (hr' : r' = none) (hM : Con true l Z y' b' m' r' rm (.ref a :: argsL).toArray h n0 (R0 P))
    (w1 : (Cond.methodLink y.cls idx y').before a0 Z = true) (w2 : (Cond.instanceMethod y').before a0 Z = true) (w3 : (Cond.initialized y'.cls).before a0 Z = true) (w4 : (Cond.code y' b' m' r').before a0 Z = true) (hy : y'.cls ≠ "java/lang/invoke/MethodHandle" ∧ y'.cls ≠ "java/lang/invoke/VarHandle")
    (hlen : ∀ sig, parseMethodDescriptor y'.desc = some sig → argsL.length = sig.parameters.length) {st₀ : List Value} (hst : st₀ = argsL.reverse ++ .ref a :: st) (hW : (st.map fun v => v.category).sum = W) (hf : rm.frames + 1 ≤ R.frames) (hlo : W + (m' + 11) + rm.locals ≤ R.locals) (hk : k + rm.cells ≤ R.cells) (hn : n + rm.slots ≤ R.slots) (hls : ls.length = ml)
    (G : ∀ h', P h' → Go true KT l Z R y bytes ml ret n0 kc ks Q h' (k + rm.cells) (n + rm.slots) pc' ls st) : Go true K₀ l Z R y bytes ml ret n0 kc ks Q h k n pc ls st₀ := by
  subst hst hr'
  intro p e s0 s m args below meth c T L Bs C X hh N
  obtain ⟨hd, rfl⟩ := D
  have hZ := C.2.2.2.2.1
  obtain ⟨v, vm₁, ⟨B, Lb, kb, nb⟩, -, X', hSi, -, ⟨Lq, ⟨⟨hQ, hsz⟩, Ns⟩, e1, e2, e3⟩, st'⟩ := X.specialBackS C.1 (y := y') hi C.2.2.2.1 (mvT hZ w1) (mvT hZ w2) (mvT hZ w4) hy (backOfS (W := W) (Q := fun v h' L => ((R0 P) v h' ∧ h.size ≤ h'.size) ∧ Fr n0 L) (hM []) hZ w4 w3 hf hlo) (g := mkF m pc ls.toArray (argsL.reverse ++ .ref a :: st)) rfl
    (by rw [C.2.2.1]; simpa using hls) (Steps.refl _) (a := a) (argsL := argsL) (rest := st) hlen rfl (by show 2 * 0 + _ ≤ W; rw [← hW]; omega) (hb C.2.1 hd) (fun _ _ => ⟨rfl, hh, hk, hn⟩)
  dsimp only [Pt.U, Pt.locs, Pt.cells, Pt.slots] at X' hSi hQ hsz e1 e2 e3 st'
  subst e1 e2 e3
  obtain ⟨rfl, hP⟩ := hQ
  exact (G B.heap hP p e s0 _ m args below meth c B _ (Bs.since hSi hsz) (C.since hSi) X' rfl (N.app Ns)).pre (fun t q => st'.trans q)
theorem go_wcallV0 {y' : MethodName} {b' : ByteArray} {m' : Nat} {r' : Option FieldType} {rm : Room} {idx W : Nat} {argsL : List Value} {P : Heap → Prop} {x' : MethodName} {K : String} {a : Addr} (D : Dc bytes pc (.invokevirtual idx) 3 pc') (hM : Con true l Z y' b' m' r' rm (.ref a :: argsL).toArray h n0 (R0 P)) (E : Exa Z h a K)
    (w1 : (Cond.methodLink y.cls idx x').before a0 Z = true) (w5 : (Cond.declares x').before a0 Z = true) (nf : ∀ s : State, Z.Warmed39 s.vm → NotFace s x') (w6 : (Cond.selects K x' y').before a0 Z = true) (w2 : (Cond.instanceMethod y').before a0 Z = true) (w3 : (Cond.initialized y'.cls).before a0 Z = true) (w4 : (Cond.code y' b' m' r').before a0 Z = true)
    (hy : x'.cls ≠ "java/lang/invoke/MethodHandle" ∧ x'.cls ≠ "java/lang/invoke/VarHandle") (hlen : ∀ sig, parseMethodDescriptor x'.desc = some sig → argsL.length = sig.parameters.length) {st₀ : List Value} (hst : st₀ = argsL.reverse ++ .ref a :: st) (hW : (st.map fun v => v.category).sum = W) (hf : rm.frames + 1 ≤ R.frames) (hlo : W + (m' + 11) + rm.locals ≤ R.locals) (hk : k + rm.cells ≤ R.cells) (hn : n + rm.slots ≤ R.slots) (hls : ls.length = ml)
    (G : ∀ h', P h' → Go true KT l Z R y bytes ml ret n0 kc ks Q h' (k + rm.cells) (n + rm.slots) pc' ls st) : Go true K₀ l Z R y bytes ml ret n0 kc ks Q h k n pc ls st₀ := by
  subst hst
  intro p e s0 s m args below meth c T L Bs C X hh N
  obtain ⟨hd, rfl⟩ := D
  have hZ := C.2.2.2.2.1
  obtain ⟨cq, kq, qa, qb, qc⟩ := isOf (T := T) hZ hh E
  obtain ⟨v, vm₁, ⟨B, Lb, kb, nb⟩, -, X', hSi, -, ⟨Lq, ⟨⟨hQ, hsz⟩, Ns⟩, e1, e2, e3⟩, st'⟩ := X.virtualBackS C.1 (y := x') (z := y') C.2.2.2.1 (mvT hZ w1) (mvT hZ w5) (nf s hZ) (mvT hZ w6) (mvT hZ w2) hy (backOfS (W := W) (Q := fun v h' L => ((R0 P) v h' ∧ h.size ≤ h'.size) ∧ Fr n0 L) (hM []) hZ w4 w3 hf hlo) qa qc (g := mkF m pc ls.toArray (argsL.reverse ++ .ref a :: st)) rfl
    (by rw [C.2.2.1]; simpa using hls) (Steps.refl _) (argsL := argsL) (rest := st) hlen rfl (by show 2 * 0 + _ ≤ W; rw [← hW]; omega) (hb C.2.1 hd) (fun _ _ => ⟨rfl, hh, hk, hn⟩)
  dsimp only [Pt.U, Pt.locs, Pt.cells, Pt.slots] at X' hSi hQ hsz e1 e2 e3 st'
  subst e1 e2 e3
  obtain ⟨rfl, hP⟩ := hQ
  exact (G B.heap hP p e s0 _ m args below meth c B _ (Bs.since hSi hsz) (C.since hSi) X' rfl (N.app Ns)).pre (fun t q => st'.trans q)
theorem go_wcallP0 {y' : MethodName} {b' : ByteArray} {m' : Nat} {r' : Option FieldType} {rm : Room} {idx W : Nat} {argsL : List Value} {P : Heap → Prop} {K : String} {a : Addr} (D : Dc bytes pc (.invokevirtual idx) 3 pc') (hM : Con true l Z y' b' m' r' rm (.ref a :: argsL).toArray h n0 (R0 P)) (E : Exa Z h a K)
    (w1 : (Cond.methodLink y.cls idx y').before a0 Z = true) (w2 : (Cond.instanceMethod y').before a0 Z = true) {kk : Nat} (wi : (Cond.instantiable y'.cls kk).before a0 Z = true) (w5 : (Cond.privateMethod y').before a0 Z = true) (w3 : (Cond.initialized y'.cls).before a0 Z = true) (w4 : (Cond.code y' b' m' r').before a0 Z = true) (hy : y'.cls ≠ "java/lang/invoke/MethodHandle" ∧ y'.cls ≠ "java/lang/invoke/VarHandle")
    (hlen : ∀ sig, parseMethodDescriptor y'.desc = some sig → argsL.length = sig.parameters.length) {st₀ : List Value} (hst : st₀ = argsL.reverse ++ .ref a :: st) (hW : (st.map fun v => v.category).sum = W) (hf : rm.frames + 1 ≤ R.frames) (hlo : W + (m' + 11) + rm.locals ≤ R.locals) (hk : k + rm.cells ≤ R.cells) (hn : n + rm.slots ≤ R.slots) (hls : ls.length = ml)
    (G : ∀ h', P h' → Go true KT l Z R y bytes ml ret n0 kc ks Q h' (k + rm.cells) (n + rm.slots) pc' ls st) : Go true K₀ l Z R y bytes ml ret n0 kc ks Q h k n pc ls st₀ := by
  subst hst
  intro p e s0 s m args below meth c T L Bs C X hh N
  obtain ⟨hd, rfl⟩ := D
  have hZ := C.2.2.2.2.1
  obtain ⟨cq, q1, q2⟩ := E.cell
  have wi' : (Cond.instantiable y'.cls kk).before args s = true := mvT hZ wi
  obtain ⟨c2, k2, i1, i2, -, i4, -⟩ := Cond.instantiable_spec wi'
  have hpa : s.PrivateAt y' := Cond.privateMethod_at (mvP hZ w5 (args := #[]))
  have w6 : (Cond.selects y'.cls y' y').before args s = true := selects_self_of_private i1 i2 (Bool.or_eq_false_iff.mp i4).1 hpa (mvT hZ w2) hy
  obtain ⟨v, vm₁, ⟨B, Lb, kb, nb⟩, -, X', hSi, -, ⟨Lq, ⟨⟨hQ, hsz⟩, Ns⟩, e1, e2, e3⟩, st'⟩ := X.privateBackS C.1 (y := y') C.2.2.2.1 (mvT hZ w1) (mvT hZ w2) w6 hpa (mvT hZ w4) hy (backOfS (W := W) (Q := fun v h' L => ((R0 P) v h' ∧ h.size ≤ h'.size) ∧ Fr n0 L) (hM []) hZ w4 w3 hf hlo) (g := mkF m pc ls.toArray (argsL.reverse ++ .ref a :: st)) rfl
    (by rw [C.2.2.1]; simpa using hls) (Steps.refl _) (a := a) (by rw [hh]; exact q1) q2 (argsL := argsL) (rest := st) hlen rfl (by show 2 * 0 + _ ≤ W; rw [← hW]; omega) (hb C.2.1 hd) (fun _ _ => ⟨rfl, hh, hk, hn⟩)
  dsimp only [Pt.U, Pt.locs, Pt.cells, Pt.slots] at X' hSi hQ hsz e1 e2 e3 st'
  subst e1 e2 e3
  obtain ⟨rfl, hP⟩ := hQ
  exact (G B.heap hP p e s0 _ m args below meth c B _ (Bs.since hSi hsz) (C.since hSi) X' rfl (N.app Ns)).pre (fun t q => st'.trans q)
theorem go_initO {idx W : Nat} {a : Addr} (D : Dc bytes pc (.invokespecial idx) 3 pc') (w1 : (Cond.methodLink y.cls idx Lib.objectInit).before a0 Z = true) (w2 : (Cond.instanceMethod Lib.objectInit).before a0 Z = true) (w3 : (Cond.code Lib.objectInit ⟨#[0xb1]⟩ 1 none).before a0 Z = true)
    (hls : ls.length = ml) (hf : 1 ≤ R.frames) (hW : (st.map fun v => v.category).sum = W) (hlo : W + 12 ≤ R.locals) (G : Go wd K₀ l Z R y bytes ml ret n0 kc ks Q h k n pc' ls st) : Go wd K₀ l Z R y bytes ml ret n0 kc ks Q h k n pc ls (.ref a :: st) := by
  intro p e s0 s m args below meth c T L Bs C X hh N
  obtain ⟨hd, rfl⟩ := D
  obtain ⟨T', X', e', st'⟩ := initO X C.1 C.2.2.2.2.1 C.2.2.2.1 w1 w2 w3 hh (g := mkF m pc ls.toArray (.ref a :: st)) rfl (by rw [C.2.2.1]; simpa using hls) rfl (hb C.2.1 hd) hf (W := W) (by show 2 * 0 + _ ≤ W; rw [← hW]; omega) hlo
  exact (G p e s0 s m args below meth c T' L Bs C X' e' N).pre st'
/-! ## 2. fields, objects, arrays, by the library's own facts -/
theorem go_getF {idx : Nat} {R0 O nm d host : String} {a : Addr} {v : Value} (D : Dc bytes pc (.getfield idx) 3 pc') (w : (Cond.fieldLink y.cls idx R0 nm d).before a0 Z = true ∨ (Cond.fieldLinkNest y.cls idx R0 nm d host).before a0 Z = true) (via : Via Z R0 O nm d) (F : Fld Z h a O nm d v) (G : Go wd K₀ l Z R y bytes ml ret n0 kc ks Q h k n pc' ls (v :: st)) : Go wd K₀ l Z R y bytes ml ret n0 kc ks Q h k n pc ls (.ref a :: st) := by
  intro p e s0 s m args below meth c T L Bs C X hh N
  obtain ⟨hd, rfl⟩ := D
  obtain ⟨T', X', e', st'⟩ := getF X C.1 C.2.2.2.2.1 C.2.2.2.1 w via hh F (g := mkF m pc ls.toArray (.ref a :: st)) rfl rfl (hb C.2.1 hd)
  exact (G p e s0 s m args below meth c T' L Bs C X' e' N).pre st'
theorem go_getS {idx : Nat} {R0 O nm d host : String} {v : Value} (D : Dc bytes pc (.getstatic idx) 3 pc') (w : (Cond.fieldLink y.cls idx R0 nm d).before a0 Z = true ∨ (Cond.fieldLinkNest y.cls idx R0 nm d host).before a0 Z = true) (via : Via Z R0 O nm d) (F : Sta Z h O nm d v) (G : Go wd K₀ l Z R y bytes ml ret n0 kc ks Q h k n pc' ls (v :: st)) : Go wd K₀ l Z R y bytes ml ret n0 kc ks Q h k n pc ls st := by
  intro p e s0 s m args below meth c T L Bs C X hh N
  obtain ⟨hd, rfl⟩ := D
  obtain ⟨T', X', e', st'⟩ := getS2 X C.1 C.2.2.2.2.1 C.2.2.2.1 w via hh F (g := mkF m pc ls.toArray st) rfl (hb C.2.1 hd)
  exact (G p e s0 s m args below meth c T' L Bs C X' e' N).pre st'
theorem go_putF {idx kk : Nat} {R0 O nm d host K : String} {ty : FieldType} {a : Addr} {v old : Value} (D : Dc bytes pc (.putfield idx) 3 pc') (w : (Cond.fieldLink y.cls idx R0 nm d).before a0 Z = true ∨ (Cond.fieldLinkNest y.cls idx R0 nm d host).before a0 Z = true) (via : Via Z R0 O nm d) (F : Fld Z h a O nm d old) (E : Exa Z h a K)
    (Lw : (Cond.lays K O nm d).before a0 Z = true ∨ ((Cond.laysFinal K O nm d).before a0 Z = true ∧ y.cls = O ∧ y.name = "<init>")) (wi : (Cond.instantiable K kk).before a0 Z = true) (hty : parseFieldDescriptor d = some ty) (hnr : narrow ty v = v) (hfi : fits ty v = true) (ha : n0 ≤ a)
    (G : ∀ h', Wr h h' a (Jvm.RoadKit.slotOf Z O nm d) v → Go wd K₀ l Z R y bytes ml ret n0 kc ks Q h' k n pc' ls st) : Go wd K₀ l Z R y bytes ml ret n0 kc ks Q h k n pc ls (v :: .ref a :: st) := by
  intro p e s0 s m args below meth c T L Bs C X hh N
  obtain ⟨hd, rfl⟩ := D
  obtain ⟨T', h', X', e', W', st'⟩ := putF X C.1 C.2.2.2.2.1 C.2.2.2.1 w via hh F E (Lw.imp id fun q => ⟨q.1, q.2.1, C.2.2.2.2.2.2.2.1.trans q.2.2⟩) wi hty hnr hfi (g := mkF m pc ls.toArray (v :: .ref a :: st)) rfl rfl (hb C.2.1 hd)
  exact (G h' W' p e s0 s m args below meth c T' _ (Bs.mono (Nat.le_of_eq W'.size.symm)) C X' e' (Fr.snoc X' N ha)).pre st'
theorem go_newO {idx sl : Nat} {K : String} (D : Dc bytes pc (.new idx) 3 pc') (w : (Cond.classLink y.cls idx K).before a0 Z = true) (wi : (Cond.instantiable K sl).before a0 Z = true) (wz : (Cond.initialized K).before a0 Z = true) (hk : k + 1 ≤ R.cells) (hn : n + sl ≤ R.slots)
    (G : ∀ h', Ext h h' → Exa Z h' h.size K → (∀ {O nm d : String} {ty : FieldType}, Laid Z a0 K O nm d → parseFieldDescriptor d = some ty → Fld Z h' h.size O nm d (defaultValue ty)) → Go wd K₀ l Z R y bytes ml ret n0 kc ks Q h' (k + 1) (n + sl) pc' ls (.ref h.size :: st)) : Go wd K₀ l Z R y bytes ml ret n0 kc ks Q h k n pc ls st := by
  intro p e s0 s m args below meth c T L Bs C X hh N
  obtain ⟨hd, rfl⟩ := D
  obtain ⟨T', h', X', e', E', A', F', -, st'⟩ := newO X C.1 C.2.2.2.2.1 C.2.2.2.1 w wi wz hh (g := mkF m pc ls.toArray st) rfl (hb C.2.1 hd) hk hn
  exact (G h' E' A' F' p e s0 s m args below meth c T' _ (Bs.mono E'.1) C X' e' N).pre st'
theorem go_newP {aty : ArrayType} {z : Int32} {ad : String} (D : Dc bytes pc (.newarray aty) 2 pc') (w : (Cond.arrayClass (newarray.typeOf aty)).before a0 Z = true) (hz : ¬ z < 0) (cap : Nat) (hcap : z.toNatClampNeg ≤ cap) (hb8 : cap * 8 ≤ 536870912) (hk : k + 1 ≤ R.cells) (hn : n + cap ≤ R.slots) (had : "[" ++ (newarray.typeOf aty).toString = ad)
    (G : ∀ h' cA, Ext h h' → Arr Z h' h.size (newA cA (newarray.typeOf aty) z) (newarray.typeOf aty) → Exa Z h' h.size ad → Go wd K₀ l Z R y bytes ml ret n0 kc ks Q h' (k + 1) (n + cap) pc' ls (.ref h.size :: st)) : Go wd K₀ l Z R y bytes ml ret n0 kc ks Q h k n pc ls (.int z :: st) := by
  intro p e s0 s m args below meth c T L Bs C X hh N
  obtain ⟨hd, rfl⟩ := D
  obtain ⟨T', h', cA, X', e', E', A', F', st'⟩ := newPE X C.1 C.2.2.2.2.1 w hh (g := mkF m pc ls.toArray (.int z :: st)) rfl (hb C.2.1 hd) rfl hz hcap hb8 hk hn had
  exact (G h' cA E' A' F' p e s0 s m args below meth c T' _ (Bs.mono E'.1) C X' e' N).pre st'
theorem go_newR {idx : Nat} {K : String} {z : Int32} {ad : String} (D : Dc bytes pc (.anewarray idx) 3 pc') (w1 : (Cond.classLink y.cls idx K).before a0 Z = true) (w2 : (Cond.arrayOver (.object K)).before a0 Z = true) (hz : ¬ z < 0) (cap : Nat) (hcap : z.toNatClampNeg ≤ cap) (hb8 : cap * 8 ≤ 536870912) (hk : k + 1 ≤ R.cells) (hn : n + cap ≤ R.slots) (had : "[" ++ (FieldType.object K).toString = ad)
    (G : ∀ h' cA, Ext h h' → Arr Z h' h.size (newA cA (.object K) z) (.object K) → Exa Z h' h.size ad → Ovr Z cA K → Go wd K₀ l Z R y bytes ml ret n0 kc ks Q h' (k + 1) (n + cap) pc' ls (.ref h.size :: st)) : Go wd K₀ l Z R y bytes ml ret n0 kc ks Q h k n pc ls (.int z :: st) := by
  intro p e s0 s m args below meth c T L Bs C X hh N
  obtain ⟨hd, rfl⟩ := D
  obtain ⟨T', h', cA, X', e', E', A', F', O', st'⟩ := newRE X C.1 C.2.2.2.2.1 C.2.2.2.1 w1 w2 hh (g := mkF m pc ls.toArray (.int z :: st)) rfl (hb C.2.1 hd) rfl hz hcap hb8 hk hn had
  exact (G h' cA E' A' F' O' p e s0 s m args below meth c T' _ (Bs.mono E'.1) C X' e' N).pre st'
theorem go_len {a : Addr} {cl : Cell} {ty : FieldType} {z : Int32} (D : Dc bytes pc .arraylength 1 pc') (A : Arr Z h a cl ty) (hz : cl.slots.size.toInt32 = z) (G : Go wd K₀ l Z R y bytes ml ret n0 kc ks Q h k n pc' ls (.int z :: st)) : Go wd K₀ l Z R y bytes ml ret n0 kc ks Q h k n pc ls (.ref a :: st) := by
  intro p e s0 s m args below meth c T L Bs C X hh N
  obtain ⟨hd, rfl⟩ := D
  subst hz
  exact (G p e s0 s m args below meth c T L Bs C X hh N).pre fun t q => X.arraylength C.1 (by rw [hh]; exact A.1) (State.isArrayOf_alike C.2.2.2.2.1.alike A.2.1) (g := mkF m pc ls.toArray (.ref a :: st)) rfl rfl (hb C.2.1 hd) _ q
theorem go_iaload {a : Addr} {cl : Cell} {j : Int32} {v : Value} (D : Dc bytes pc .iaload 1 pc') (A : Arr Z h a cl .int) (hj : ¬ (j < 0 ∨ cl.slots.size ≤ j.toNatClampNeg)) (hv : cl.slots[j.toNatClampNeg]? = some v) (G : Go wd K₀ l Z R y bytes ml ret n0 kc ks Q h k n pc' ls (v :: st)) : Go wd K₀ l Z R y bytes ml ret n0 kc ks Q h k n pc ls (.int j :: .ref a :: st) := by
  intro p e s0 s m args below meth c T L Bs C X hh N
  obtain ⟨hd, rfl⟩ := D
  exact (G p e s0 s m args below meth c T L Bs C X hh N).pre fun t q => X.iaload C.1 (j := j) (v := v) (by rw [hh]; exact A.1) (State.isArrayOf_alike C.2.2.2.2.1.alike A.2.1) A.2.2 hj hv (g := mkF m pc ls.toArray (.int j :: .ref a :: st)) rfl rfl (hb C.2.1 hd) _ q
theorem go_caload {a : Addr} {cl : Cell} {j : Int32} {v : Value} (D : Dc bytes pc .caload 1 pc') (A : Arr Z h a cl .char) (hj : ¬ (j < 0 ∨ cl.slots.size ≤ j.toNatClampNeg)) (hv : cl.slots[j.toNatClampNeg]? = some v) (G : Go wd K₀ l Z R y bytes ml ret n0 kc ks Q h k n pc' ls (v :: st)) : Go wd K₀ l Z R y bytes ml ret n0 kc ks Q h k n pc ls (.int j :: .ref a :: st) := by
  intro p e s0 s m args below meth c T L Bs C X hh N
  obtain ⟨hd, rfl⟩ := D
  exact (G p e s0 s m args below meth c T L Bs C X hh N).pre fun t q => X.caload C.1 (j := j) (v := v) (by rw [hh]; exact A.1) (State.isArrayOf_alike C.2.2.2.2.1.alike A.2.1) A.2.2 hj hv (g := mkF m pc ls.toArray (.int j :: .ref a :: st)) rfl rfl (hb C.2.1 hd) _ q
theorem go_baload {a : Addr} {cl : Cell} {j : Int32} {v : Value} (D : Dc bytes pc .baload 1 pc') (A : Arr Z h a cl .byte) (hj : ¬ (j < 0 ∨ cl.slots.size ≤ j.toNatClampNeg)) (hv : cl.slots[j.toNatClampNeg]? = some v) (G : Go wd K₀ l Z R y bytes ml ret n0 kc ks Q h k n pc' ls (v :: st)) : Go wd K₀ l Z R y bytes ml ret n0 kc ks Q h k n pc ls (.int j :: .ref a :: st) := by
  intro p e s0 s m args below meth c T L Bs C X hh N
  obtain ⟨hd, rfl⟩ := D
  exact (G p e s0 s m args below meth c T L Bs C X hh N).pre fun t q => X.baloadBytes C.1 (j := j) (v := v) (by rw [hh]; exact A.1) (State.isArrayOf_alike C.2.2.2.2.1.alike A.2.1) A.2.2 hj hv (g := mkF m pc ls.toArray (.int j :: .ref a :: st)) rfl rfl (hb C.2.1 hd) _ q
theorem go_laload {a : Addr} {cl : Cell} {j : Int32} {v : Value} (D : Dc bytes pc .laload 1 pc') (A : Arr Z h a cl .long) (hj : ¬ (j < 0 ∨ cl.slots.size ≤ j.toNatClampNeg)) (hv : cl.slots[j.toNatClampNeg]? = some v) (G : Go wd K₀ l Z R y bytes ml ret n0 kc ks Q h k n pc' ls (v :: st)) : Go wd K₀ l Z R y bytes ml ret n0 kc ks Q h k n pc ls (.int j :: .ref a :: st) := by
  intro p e s0 s m args below meth c T L Bs C X hh N
  obtain ⟨hd, rfl⟩ := D
  exact (G p e s0 s m args below meth c T L Bs C X hh N).pre fun t q => X.laload C.1 (j := j) (v := v) (by rw [hh]; exact A.1) (State.isArrayOf_alike C.2.2.2.2.1.alike A.2.1) A.2.2 hj hv (g := mkF m pc ls.toArray (.int j :: .ref a :: st)) rfl rfl (hb C.2.1 hd) _ q
theorem go_aaload {a : Addr} {cl : Cell} {ty : FieldType} {j : Int32} {v : Value} (D : Dc bytes pc .aaload 1 pc') (A : Arr Z h a cl ty) (hty : ty.isReference = true) (hj : ¬ (j < 0 ∨ cl.slots.size ≤ j.toNatClampNeg)) (hv : cl.slots[j.toNatClampNeg]? = some v) (G : Go wd K₀ l Z R y bytes ml ret n0 kc ks Q h k n pc' ls (v :: st)) : Go wd K₀ l Z R y bytes ml ret n0 kc ks Q h k n pc ls (.int j :: .ref a :: st) := by
  intro p e s0 s m args below meth c T L Bs C X hh N
  obtain ⟨hd, rfl⟩ := D
  exact (G p e s0 s m args below meth c T L Bs C X hh N).pre fun t q => X.aaload C.1 (j := j) (v := v) (by rw [hh]; exact A.1) (State.isArrayOf_alike C.2.2.2.2.1.alike A.2.1) hty A.2.2 hj hv (g := mkF m pc ls.toArray (.int j :: .ref a :: st)) rfl rfl (hb C.2.1 hd) _ q
theorem go_iastore {a : Addr} {cl : Cell} {j : Int32} {x : Int32} (D : Dc bytes pc .iastore 1 pc') (A : Arr Z h a cl .int) (hj : ¬ (j < 0 ∨ cl.slots.size ≤ j.toNatClampNeg)) (ha : n0 ≤ a) (G : ∀ h', Wr h h' a j.toNatClampNeg (.int x) → Go wd K₀ l Z R y bytes ml ret n0 kc ks Q h' k n pc' ls st) : Go wd K₀ l Z R y bytes ml ret n0 kc ks Q h k n pc ls (.int x :: .int j :: .ref a :: st) := by
  intro p e s0 s m args below meth c T L Bs C X hh N
  obtain ⟨hd, rfl⟩ := D
  obtain ⟨T', h', X', e', W', st'⟩ := stI X C.1 C.2.2.2.2.1 hh A hj (g := mkF m pc ls.toArray (.int x :: .int j :: .ref a :: st)) rfl rfl (hb C.2.1 hd)
  exact (G h' W' p e s0 s m args below meth c T' _ (Bs.mono (Nat.le_of_eq W'.size.symm)) C X' e' (Fr.snoc X' N ha)).pre st'
theorem go_lastore {a : Addr} {cl : Cell} {j : Int32} {x : Int64} (D : Dc bytes pc .lastore 1 pc') (A : Arr Z h a cl .long) (hj : ¬ (j < 0 ∨ cl.slots.size ≤ j.toNatClampNeg)) (ha : n0 ≤ a) (G : ∀ h', Wr h h' a j.toNatClampNeg (.long x) → Go wd K₀ l Z R y bytes ml ret n0 kc ks Q h' k n pc' ls st) : Go wd K₀ l Z R y bytes ml ret n0 kc ks Q h k n pc ls (.long x :: .int j :: .ref a :: st) := by
  intro p e s0 s m args below meth c T L Bs C X hh N
  obtain ⟨hd, rfl⟩ := D
  obtain ⟨T', h', X', e', W', st'⟩ := stJ X C.1 C.2.2.2.2.1 hh A hj (g := mkF m pc ls.toArray (.long x :: .int j :: .ref a :: st)) rfl rfl (hb C.2.1 hd)
  exact (G h' W' p e s0 s m args below meth c T' _ (Bs.mono (Nat.le_of_eq W'.size.symm)) C X' e' (Fr.snoc X' N ha)).pre st'
theorem go_castore {a : Addr} {cl : Cell} {j : Int32} {x : Int32} (D : Dc bytes pc .castore 1 pc') (A : Arr Z h a cl .char) (hj : ¬ (j < 0 ∨ cl.slots.size ≤ j.toNatClampNeg)) (ha : n0 ≤ a) (G : ∀ h', Wr h h' a j.toNatClampNeg (.int (nar .char x)) → Go wd K₀ l Z R y bytes ml ret n0 kc ks Q h' k n pc' ls st) : Go wd K₀ l Z R y bytes ml ret n0 kc ks Q h k n pc ls (.int x :: .int j :: .ref a :: st) := by
  intro p e s0 s m args below meth c T L Bs C X hh N
  obtain ⟨hd, rfl⟩ := D
  obtain ⟨T', h', X', e', W', st'⟩ := stC X C.1 C.2.2.2.2.1 hh A hj (g := mkF m pc ls.toArray (.int x :: .int j :: .ref a :: st)) rfl rfl (hb C.2.1 hd)
  exact (G h' W' p e s0 s m args below meth c T' _ (Bs.mono (Nat.le_of_eq W'.size.symm)) C X' e' (Fr.snoc X' N ha)).pre st'
theorem go_bastore {a : Addr} {cl : Cell} {j : Int32} {x : Int32} (D : Dc bytes pc .bastore 1 pc') (A : Arr Z h a cl .byte) (hj : ¬ (j < 0 ∨ cl.slots.size ≤ j.toNatClampNeg)) (ha : n0 ≤ a) (G : ∀ h', Wr h h' a j.toNatClampNeg (.int (nar .byte x)) → Go wd K₀ l Z R y bytes ml ret n0 kc ks Q h' k n pc' ls st) : Go wd K₀ l Z R y bytes ml ret n0 kc ks Q h k n pc ls (.int x :: .int j :: .ref a :: st) := by
  intro p e s0 s m args below meth c T L Bs C X hh N
  obtain ⟨hd, rfl⟩ := D
  obtain ⟨T', h', X', e', W', st'⟩ := stB X C.1 C.2.2.2.2.1 hh A hj (g := mkF m pc ls.toArray (.int x :: .int j :: .ref a :: st)) rfl rfl (hb C.2.1 hd)
  exact (G h' W' p e s0 s m args below meth c T' _ (Bs.mono (Nat.le_of_eq W'.size.symm)) C X' e' (Fr.snoc X' N ha)).pre st'
theorem go_zastore {a : Addr} {cl : Cell} {j : Int32} {x : Int32} (D : Dc bytes pc .bastore 1 pc') (A : Arr Z h a cl .boolean) (hj : ¬ (j < 0 ∨ cl.slots.size ≤ j.toNatClampNeg)) (ha : n0 ≤ a) (G : ∀ h', Wr h h' a j.toNatClampNeg (.int (nar .boolean x)) → Go wd K₀ l Z R y bytes ml ret n0 kc ks Q h' k n pc' ls st) : Go wd K₀ l Z R y bytes ml ret n0 kc ks Q h k n pc ls (.int x :: .int j :: .ref a :: st) := by
  intro p e s0 s m args below meth c T L Bs C X hh N
  obtain ⟨hd, rfl⟩ := D
  obtain ⟨T', h', X', e', W', st'⟩ := stZ X C.1 C.2.2.2.2.1 hh A hj (g := mkF m pc ls.toArray (.int x :: .int j :: .ref a :: st)) rfl rfl (hb C.2.1 hd)
  exact (G h' W' p e s0 s m args below meth c T' _ (Bs.mono (Nat.le_of_eq W'.size.symm)) C X' e' (Fr.snoc X' N ha)).pre st'
theorem go_aastore {a : Addr} {cl : Cell} {ty : FieldType} {j : Int32} {v : Value} (D : Dc bytes pc .aastore 1 pc') (A : Arr Z h a cl ty) (hj : ¬ (j < 0 ∨ cl.slots.size ≤ j.toNatClampNeg)) (hty : ty.isReference = true) (F : Sto Z h a v) (ha : n0 ≤ a) (G : ∀ h', Wr h h' a j.toNatClampNeg v → Go wd K₀ l Z R y bytes ml ret n0 kc ks Q h' k n pc' ls st) : Go wd K₀ l Z R y bytes ml ret n0 kc ks Q h k n pc ls (v :: .int j :: .ref a :: st) := by
  intro p e s0 s m args below meth c T L Bs C X hh N
  obtain ⟨hd, rfl⟩ := D
  obtain ⟨T', h', X', e', W', st'⟩ := stR X C.1 C.2.2.2.2.1 hh A hj hty F (g := mkF m pc ls.toArray (v :: .int j :: .ref a :: st)) rfl rfl (hb C.2.1 hd)
  exact (G h' W' p e s0 s m args below meth c T' _ (Bs.mono (Nat.le_of_eq W'.size.symm)) C X' e' (Fr.snoc X' N ha)).pre st'
end Walk
end Jvm.OwnGo
namespace Jvm.OwnGo
open Jvm Sem ClassFile Op Lib Jvm.Stand Jvm.Free Jvm.LawKit Jvm.RoadKit
/-! ## 3. the heap since the start, as a list of what lies where -/
abbrev FD := (String × String × String) × Value
abbrev Desc := (String × List FD) ⊕ (FieldType × String × List Value)
def slotF (Z : State) (f : FD) : Nat := Jvm.RoadKit.slotOf Z f.1.1 f.1.2.1 f.1.2.2
def Is (Z : State) (h : Heap) (a : Addr) : Desc → Prop
  | .inl (K, fs) => Exa Z h a K ∧ (fs.map (slotF Z)).Nodup ∧ ∀ f ∈ fs, Fld Z h a f.1.1 f.1.2.1 f.1.2.2 f.2
  | .inr (ty, ad, vs) => Exa Z h a ad ∧ ∃ c : Cell, Arr Z h a c ty ∧ c.slots = vs.toArray ∧ vs.length < 2 ^ 31 ∧ (∀ v ∈ vs, fits ty v = true) ∧ ∀ K, ty = .object K → Ovr Z c.cls K
def Hp (Z : State) (n0 : Nat) (h : Heap) (L : List (Addr × Desc)) : Prop := Old Z n0 h ∧ (L.map Prod.fst).Nodup ∧ ∀ x ∈ L, n0 ≤ x.1 ∧ Is Z h x.1 x.2
def LaysD (Z : State) (a0 : Array Value) (K : String) : List FD → Prop
  | [] => True
  | f :: r => (Laid Z a0 K f.1.1 f.1.2.1 f.1.2.2 ∧ ∃ t, parseFieldDescriptor f.1.2.2 = some t ∧ defaultValue t = f.2) ∧ LaysD Z a0 K r
def front {α : Type} (L : List α) (i : Nat) : List α := match L[i]? with | some x => x :: L.eraseIdx i | none => L
section Hp
variable {Z : State} {n0 : Nat} {h h' : Heap} {L : List (Addr × Desc)} {a b : Addr} {K ad O nm d : String} {fs : List FD} {vs : List Value} {ty : FieldType} {v old : Value} {i j sl : Nat} {a0 : Array Value}
theorem Is.ext {D : Desc} (E : Ext h h') (F : Is Z h a D) : Is Z h' a D := by
  rcases D with ⟨K, fs⟩ | ⟨ty, ad, vs⟩
  · obtain ⟨h1, h2, h3⟩ := F; exact ⟨h1.ext E, h2, fun f hf => (h3 f hf).ext E⟩
  · obtain ⟨h1, c, h2, r⟩ := F; exact ⟨h1.ext E, c, h2.ext E, r⟩
theorem Is.other {D : Desc} (W : Wr h h' b sl v) (ne : a ≠ b) (F : Is Z h a D) : Is Z h' a D := by
  rcases D with ⟨K, fs⟩ | ⟨ty, ad, vs⟩
  · obtain ⟨h1, h2, h3⟩ := F; exact ⟨h1.wr W, h2, fun f hf => (h3 f hf).other W (Or.inl ne)⟩
  · obtain ⟨h1, c, h2, r⟩ := F; exact ⟨h1.wr W, c, h2.other W ne, r⟩
theorem Is.exa {D : Desc} (F : Is Z h a D) : ∃ K, Exa Z h a K := by
  rcases D with ⟨K, fs⟩ | ⟨ty, ad, vs⟩
  · exact ⟨K, F.1⟩
  · exact ⟨ad, F.1⟩
theorem mem_upd {α : Type} {L : List α} {i : Nat} {x y : α} (hx : x ∈ lupd L i y) : x = y ∨ ∃ q, q ≠ i ∧ L[q]? = some x := by
  rw [upd_set] at hx
  obtain ⟨q, hq⟩ := List.mem_iff_getElem?.mp hx
  rw [List.getElem?_set] at hq
  split at hq
  · rename_i e
    split at hq
    · left; exact (Option.some.inj hq).symm
    · cases hq
  · rename_i e
    exact Or.inr ⟨q, fun u => e u.symm, hq⟩
theorem Hp.mem (hi : L[i]? = some (a, D)) : (a, D) ∈ L := List.mem_of_getElem? hi
theorem Hp.is {D : Desc} (P : Hp Z n0 h L) (hi : L[i]? = some (a, D)) : Is Z h a D := (P.2.2 _ (List.mem_of_getElem? hi)).2
theorem Hp.ge {D : Desc} (P : Hp Z n0 h L) (hi : L[i]? = some (a, D)) : n0 ≤ a := (P.2.2 _ (List.mem_of_getElem? hi)).1
theorem Hp.exa (P : Hp Z n0 h L) (hi : L[i]? = some (a, .inl (K, fs))) : Exa Z h a K := (P.is hi).1
theorem Hp.exaA (P : Hp Z n0 h L) (hi : L[i]? = some (a, .inr (ty, ad, vs))) : Exa Z h a ad := (P.is hi).1
theorem Hp.fld (P : Hp Z n0 h L) (hi : L[i]? = some (a, .inl (K, fs))) (hj : fs[j]? = some ((O, nm, d), v)) : Fld Z h a O nm d v := (P.is hi).2.2 _ (List.mem_of_getElem? hj)
theorem Hp.lt {D : Desc} (P : Hp Z n0 h L) (hx : (a, D) ∈ L) : a < h.size := by
  obtain ⟨K, E⟩ := (P.2.2 _ hx).2.exa; exact E.lt
theorem Hp.ne {D D' : Desc} (P : Hp Z n0 h L) (hi : L[i]? = some (a, D)) (hj : L[j]? = some (b, D')) (q : i ≠ j) : a ≠ b := fun e => q (by
  have hl : i < (L.map Prod.fst).length := by rw [List.length_map]; exact (List.getElem?_eq_some_iff.mp hi).1
  refine (List.getElem?_inj hl P.2.1).mp ?_
  rw [List.getElem?_map, List.getElem?_map, hi, hj]; simp [e])
theorem map_upd {α β : Type} {f : α → β} {L : List α} {i : Nat} {x y : α} (hi : L[i]? = some x) (e : f y = f x) : (lupd L i y).map f = L.map f := by
  rw [upd_set]
  apply List.ext_getElem?
  intro q
  rw [List.getElem?_map, List.getElem?_map, List.getElem?_set]
  split
  · rename_i u
    subst u
    obtain ⟨hl, -⟩ := List.getElem?_eq_some_iff.mp hi
    rw [if_pos hl, hi]; simp [e]
  · rfl
theorem Hp.wr {D D' : Desc} (P : Hp Z n0 h L) (hi : L[i]? = some (a, D)) (W : Wr h h' a sl v) (I : Is Z h' a D') : Hp Z n0 h' (lupd L i (a, D')) := by
  have ha := P.ge hi
  refine ⟨P.1.wr W ha, by rw [map_upd (f := Prod.fst) (y := (a, D')) hi rfl]; exact P.2.1, fun x hx => ?_⟩
  rcases mem_upd hx with rfl | ⟨q, hq, hx'⟩
  · exact ⟨ha, I⟩
  · obtain ⟨b, D2⟩ := x
    exact ⟨P.ge hx', (P.is hx').other W (P.ne hx' hi hq)⟩
theorem Hp.put (P : Hp Z n0 h L) (hi : L[i]? = some (a, .inl (K, fs))) (hj : fs[j]? = some ((O, nm, d), old)) (W : Wr h h' a (Jvm.RoadKit.slotOf Z O nm d) v) : Hp Z n0 h' (lupd L i (a, .inl (K, lupd fs j ((O, nm, d), v)))) := by
  obtain ⟨h1, h2, h3⟩ := P.is hi
  refine P.wr hi W ⟨h1.wr W, by rw [map_upd (f := slotF Z) (y := ((O, nm, d), v)) hj rfl]; exact h2, fun f hf => ?_⟩
  rcases mem_upd hf with rfl | ⟨q, hq, hf'⟩
  · exact (h3 _ (List.mem_of_getElem? hj)).same W
  · refine (h3 _ (List.mem_of_getElem? hf')).other W (Or.inr fun e => hq ?_)
    have hl : q < (fs.map (slotF Z)).length := by rw [List.length_map]; exact (List.getElem?_eq_some_iff.mp hf').1
    refine (List.getElem?_inj hl h2).mp ?_
    rw [List.getElem?_map, List.getElem?_map, hf', hj]; simp [slotF, e]
theorem Hp.aput (P : Hp Z n0 h L) (hi : L[i]? = some (a, .inr (ty, ad, vs))) (hv : fits ty v = true) (W : Wr h h' a j v) : Hp Z n0 h' (lupd L i (a, .inr (ty, ad, lupd vs j v))) := by
  obtain ⟨h1, c, h2, h3, h4, h5, h6⟩ := P.is hi
  refine P.wr hi W ⟨h1.wr W, c.setSlot j v, h2.same W, ?_, ?_, fun w hw => ?_, h6⟩
  · rw [upd_set]; show c.slots.setIfInBounds j v = _; rw [h3]; simp
  · rw [upd_set]; simpa using h4
  · rcases mem_upd hw with rfl | ⟨q, -, hq⟩
    · exact hv
    · exact h5 _ (List.mem_of_getElem? hq)
theorem Hp.grow {D : Desc} (P : Hp Z n0 h L) (E : Ext h h') (I : Is Z h' h.size D) : Hp Z n0 h' ((h.size, D) :: L) := by
  have hs : n0 ≤ h.size := by have := P.1.1; have := P.1.2.1; omega
  refine ⟨P.1.ext E, ?_, fun x hx => ?_⟩
  · rw [List.map_cons, List.nodup_cons]
    refine ⟨fun hm => ?_, P.2.1⟩
    obtain ⟨⟨b, D2⟩, hb, e⟩ := List.mem_map.mp hm
    have q := P.lt hb
    have e' : b = h.size := e
    rw [e'] at q
    exact Nat.lt_irrefl _ q
  · rcases List.mem_cons.mp hx with rfl | hx'
    · exact ⟨hs, I⟩
    · exact ⟨(P.2.2 _ hx').1, (P.2.2 _ hx').2.ext E⟩
theorem lays_mem : ∀ {fs : List FD}, LaysD Z a0 K fs → ∀ f ∈ fs, Laid Z a0 K f.1.1 f.1.2.1 f.1.2.2 ∧ ∃ t, parseFieldDescriptor f.1.2.2 = some t ∧ defaultValue t = f.2
  | [], _, _, hf => nomatch hf
  | _ :: _, H, f, hf => (List.mem_cons.mp hf).elim (fun e => e ▸ H.1) (lays_mem H.2 f)
theorem lays_nodup : ∀ {fs : List FD}, LaysD Z a0 K fs → (fs.map fun f => f.1.2.1).Nodup → (fs.map (slotF Z)).Nodup
  | [], _, _ => List.nodup_nil
  | f :: r, H, N => by
    rw [List.map_cons, List.nodup_cons] at N ⊢
    refine ⟨fun hm => ?_, lays_nodup H.2 N.2⟩
    obtain ⟨g, hg, e⟩ := List.mem_map.mp hm
    obtain ⟨Lg, t', ht', -⟩ := lays_mem H.2 g hg
    obtain ⟨Lf, t, ht, -⟩ := H.1
    exact slot_ne Lf Lg (fun q => N.1 (List.mem_map.mpr ⟨g, hg, q.symm⟩)) ht ht' e.symm
theorem Hp.new (P : Hp Z n0 h L) (E : Ext h h') (A : Exa Z h' h.size K) (F : ∀ {O nm d : String} {ty : FieldType}, Laid Z a0 K O nm d → parseFieldDescriptor d = some ty → Fld Z h' h.size O nm d (defaultValue ty)) (Ld : LaysD Z a0 K fs) (nd : (fs.map fun f => f.1.2.1).Nodup) : Hp Z n0 h' ((h.size, .inl (K, fs)) :: L) :=
  P.grow E ⟨A, lays_nodup Ld nd, fun f hf => by
    obtain ⟨Lf, t, ht, e⟩ := lays_mem Ld f hf
    rw [← e]; exact F Lf ht⟩
theorem Hp.newA {cA : ClassId} {z : Int32} (P : Hp Z n0 h L) (E : Ext h h') (A : Arr Z h' h.size (newA cA ty z) ty) (X : Exa Z h' h.size ad) (O : ∀ K, ty = .object K → Ovr Z cA K) (hvs : List.replicate z.toNatClampNeg (defaultValue ty) = vs) (hz : ¬ z < 0) : Hp Z n0 h' ((h.size, .inr (ty, ad, vs)) :: L) :=
  P.grow E ⟨X, _, A, by rw [← hvs]; simp [Jvm.RoadKit.newA], by rw [← hvs, List.length_replicate]; exact (back32 hz).2, fun w hw => by
    rw [← hvs] at hw; rw [List.eq_of_mem_replicate hw]; cases ty <;> rfl, O⟩
theorem Hp.perm {L' : List (Addr × Desc)} (P : Hp Z n0 h L) (q : L'.Perm L) : Hp Z n0 h L' := ⟨P.1, ((q.map Prod.fst).nodup_iff).mpr P.2.1, fun x hx => P.2.2 x (q.mem_iff.mp hx)⟩
theorem erase_perm {α : Type} : ∀ (L : List α) (i : Nat) (h : i < L.length), (L[i] :: L.eraseIdx i).Perm L
  | [], _, h => absurd h (Nat.not_lt_zero _)
  | _ :: _, 0, _ => List.Perm.refl _
  | a :: l, i + 1, h => by
    have hl : i < l.length := Nat.lt_of_succ_lt_succ h
    show (l[i] :: a :: l.eraseIdx i).Perm (a :: l)
    exact (List.Perm.swap _ _ _).trans ((erase_perm l i hl).cons a)
theorem front_perm {α : Type} (L : List α) (i : Nat) : (front L i).Perm L := by
  unfold front
  cases hx : L[i]? with
  | none => exact List.Perm.refl _
  | some x =>
    obtain ⟨hl, rfl⟩ := List.getElem?_eq_some_iff.mp hx
    exact erase_perm L i hl
theorem Hp.front (P : Hp Z n0 h L) (i : Nat) : Hp Z n0 h (front L i) := P.perm (front_perm L i)
theorem Hp.tail {x : Addr × Desc} (P : Hp Z n0 h (x :: L)) : Hp Z n0 h L := ⟨P.1, (List.nodup_cons.mp P.2.1).2, fun z hz => P.2.2 z (List.mem_cons_of_mem _ hz)⟩
theorem Hp.ext (P : Hp Z n0 h L) (E : Ext h h') : Hp Z n0 h' L := ⟨P.1.ext E, P.2.1, fun x hx => ⟨(P.2.2 _ hx).1, (P.2.2 _ hx).2.ext E⟩⟩
theorem Hp.nil (P : Hp Z n0 h L) : Hp Z n0 h [] := ⟨P.1, List.nodup_nil, fun z hz => nomatch hz⟩
theorem Hp.start (s : State) : Hp s s.heap.size s.heap [] := ⟨Old.start s, List.nodup_nil, fun z hz => nomatch hz⟩
theorem Hp.sto {y : Addr} {fs : List FD} (P : Hp Z n0 h L) (hi : L[i]? = some (a, .inr (.object K, ad, vs))) (hj : L[j]? = some (y, .inl (K, fs))) : Sto Z h a (.ref y) := by
  obtain ⟨-, c, h2, -, -, -, h6⟩ := P.is hi
  exact Sto.of h2 (h6 K rfl) (Ins.self (P.exa hj))
theorem Hp.stoI {y : Addr} (P : Hp Z n0 h L) (hi : L[i]? = some (a, .inr (.object K, ad, vs))) (I : Ins Z h y K true) : Sto Z h a (.ref y) := by
  obtain ⟨-, c, h2, -, -, -, h6⟩ := P.is hi
  exact Sto.of h2 (h6 K rfl) I
theorem inb {c : Cell} {j : Int32} (hc : c.slots = vs.toArray) (hj : ¬ j < 0) (hv : vs[j.toNatClampNeg]? = some v) : ¬ (j < 0 ∨ c.slots.size ≤ j.toNatClampNeg) := by
  have := (List.getElem?_eq_some_iff.mp hv).1
  rw [hc]; simp; exact ⟨by simpa using Int32.not_lt.mp hj, this⟩
theorem inb' {c : Cell} {j : Int32} (hc : c.slots = vs.toArray) (hj : ¬ j < 0) (hv : j.toNatClampNeg < vs.length) : ¬ (j < 0 ∨ c.slots.size ≤ j.toNatClampNeg) := by
  rw [hc]; simp; exact ⟨by simpa using Int32.not_lt.mp hj, hv⟩
end Hp
section WalkHp
variable {wd : Bool} {K₀ : State → Prop} {l : Launch} {Z : State} {R : Room} {y : MethodName} {bytes : ByteArray} {ml : Nat} {ret : Option FieldType} {n0 kc ks : Nat} {Q : Option Value → Heap → Prop} {h : Heap} {k n pc pc' tg : Nat} {ls : List Slot} {st : List Value} {a0 : Array Value} {L : List (Addr × Desc)} {i j : Nat} {K ad O nm d R0 host : String} {fs : List FD} {vs : List Value} {a : Addr} {ty : FieldType} {v old : Value}
theorem go_get {idx : Nat} (P : Hp Z n0 h L) (i j : Nat) (D : Dc bytes pc (.getfield idx) 3 pc') (hi : L[i]? = some (a, .inl (K, fs))) (hj : fs[j]? = some ((O, nm, d), v)) (w : (Cond.fieldLink y.cls idx O nm d).before a0 Z = true) (G : Go wd K₀ l Z R y bytes ml ret n0 kc ks Q h k n pc' ls (v :: st)) : Go wd K₀ l Z R y bytes ml ret n0 kc ks Q h k n pc ls (.ref a :: st) :=
  go_getF (host := "") D (Or.inl w) Via.refl (P.fld hi hj) G
theorem go_getN {idx : Nat} (P : Hp Z n0 h L) (i j : Nat) (D : Dc bytes pc (.getfield idx) 3 pc') (hi : L[i]? = some (a, .inl (K, fs))) (hj : fs[j]? = some ((O, nm, d), v)) (w : (Cond.fieldLinkNest y.cls idx O nm d host).before a0 Z = true) (G : Go wd K₀ l Z R y bytes ml ret n0 kc ks Q h k n pc' ls (v :: st)) : Go wd K₀ l Z R y bytes ml ret n0 kc ks Q h k n pc ls (.ref a :: st) :=
  go_getF (host := host) D (Or.inr w) Via.refl (P.fld hi hj) G
theorem go_put {idx kk : Nat} (P : Hp Z n0 h L) (i j : Nat) (ty : FieldType) (D : Dc bytes pc (.putfield idx) 3 pc') (hi : L[i]? = some (a, .inl (K, fs))) (hj : fs[j]? = some ((O, nm, d), old)) (w : (Cond.fieldLink y.cls idx O nm d).before a0 Z = true)
    (Lw : (Cond.lays K O nm d).before a0 Z = true ∨ ((Cond.laysFinal K O nm d).before a0 Z = true ∧ y.cls = O ∧ y.name = "<init>")) (wi : (Cond.instantiable K kk).before a0 Z = true) (hty : parseFieldDescriptor d = some ty) (hnr : narrow ty v = v) (hfi : fits ty v = true)
    (G : ∀ h', Hp Z n0 h' (lupd L i (a, .inl (K, lupd fs j ((O, nm, d), v)))) → Go wd K₀ l Z R y bytes ml ret n0 kc ks Q h' k n pc' ls st) : Go wd K₀ l Z R y bytes ml ret n0 kc ks Q h k n pc ls (v :: .ref a :: st) :=
  go_putF (host := "") D (Or.inl w) Via.refl (P.fld hi hj) (P.exa hi) Lw wi hty hnr hfi (P.ge hi) fun h' W => G h' (P.put hi hj W)
theorem go_new {idx sl : Nat} (P : Hp Z n0 h L) (fs : List FD) (D : Dc bytes pc (.new idx) 3 pc') (w : (Cond.classLink y.cls idx K).before a0 Z = true) (wi : (Cond.instantiable K sl).before a0 Z = true) (wz : (Cond.initialized K).before a0 Z = true) (Ld : LaysD Z a0 K fs) (nd : (fs.map fun f => f.1.2.1).Nodup) (hk : k + 1 ≤ R.cells) (hn : n + sl ≤ R.slots)
    (G : ∀ h' a, Hp Z n0 h' ((a, .inl (K, fs)) :: L) → Go wd K₀ l Z R y bytes ml ret n0 kc ks Q h' (k + 1) (n + sl) pc' ls (.ref a :: st)) : Go wd K₀ l Z R y bytes ml ret n0 kc ks Q h k n pc ls st :=
  go_newO D w wi wz hk hn fun h' E A F => G h' h.size (P.new E A F Ld nd)
theorem go_newarr {aty : ArrayType} {z : Int32} (P : Hp Z n0 h L) (ad : String) (vs : List Value) (cap : Nat) (D : Dc bytes pc (.newarray aty) 2 pc') (w : (Cond.arrayClass (newarray.typeOf aty)).before a0 Z = true) (hz : ¬ z < 0) (hcap : z.toNatClampNeg ≤ cap) (hb8 : cap * 8 ≤ 536870912) (had : "[" ++ (newarray.typeOf aty).toString = ad) (hty : newarray.typeOf aty = ty) (hvs : List.replicate z.toNatClampNeg (defaultValue ty) = vs) (hk : k + 1 ≤ R.cells) (hn : n + cap ≤ R.slots)
    (G : ∀ h' a, Hp Z n0 h' ((a, .inr (ty, ad, vs)) :: L) → Go wd K₀ l Z R y bytes ml ret n0 kc ks Q h' (k + 1) (n + cap) pc' ls (.ref a :: st)) : Go wd K₀ l Z R y bytes ml ret n0 kc ks Q h k n pc ls (.int z :: st) :=
  go_newP D w hz cap hcap hb8 hk hn had fun h' cA E A X => G h' h.size (P.newA E (hty ▸ A) X (fun K q => by subst hty; cases aty <;> cases q) hvs hz)
theorem go_newobjarr {idx : Nat} {z : Int32} (P : Hp Z n0 h L) (ad : String) (vs : List Value) (cap : Nat) (D : Dc bytes pc (.anewarray idx) 3 pc') (w1 : (Cond.classLink y.cls idx K).before a0 Z = true) (w2 : (Cond.arrayOver (.object K)).before a0 Z = true) (hz : ¬ z < 0) (hcap : z.toNatClampNeg ≤ cap) (hb8 : cap * 8 ≤ 536870912) (had : "[" ++ (FieldType.object K).toString = ad) (hvs : List.replicate z.toNatClampNeg Value.null = vs) (hk : k + 1 ≤ R.cells) (hn : n + cap ≤ R.slots)
    (G : ∀ h' a, Hp Z n0 h' ((a, .inr (.object K, ad, vs)) :: L) → Go wd K₀ l Z R y bytes ml ret n0 kc ks Q h' (k + 1) (n + cap) pc' ls (.ref a :: st)) : Go wd K₀ l Z R y bytes ml ret n0 kc ks Q h k n pc ls (.int z :: st) :=
  go_newR D w1 w2 hz cap hcap hb8 hk hn had fun h' cA E A X O => G h' h.size (P.newA E A X (fun K' q => by cases q; exact O) hvs hz)
theorem go_alen {z : Int32} (P : Hp Z n0 h L) (i : Nat) (D : Dc bytes pc .arraylength 1 pc') (hi : L[i]? = some (a, .inr (ty, ad, vs))) (hz : vs.length.toInt32 = z) (G : Go wd K₀ l Z R y bytes ml ret n0 kc ks Q h k n pc' ls (.int z :: st)) : Go wd K₀ l Z R y bytes ml ret n0 kc ks Q h k n pc ls (.ref a :: st) := by
  obtain ⟨-, c, h2, h3, -⟩ := P.is hi
  exact go_len D h2 (by rw [h3]; simpa using hz) G
theorem go_ialoadH {q : Int32} (P : Hp Z n0 h L) (i : Nat) (D : Dc bytes pc .iaload 1 pc') (hi : L[i]? = some (a, .inr (.int, ad, vs))) (hq : ¬ q < 0) (hv : vs[q.toNatClampNeg]? = some v) (G : Go wd K₀ l Z R y bytes ml ret n0 kc ks Q h k n pc' ls (v :: st)) : Go wd K₀ l Z R y bytes ml ret n0 kc ks Q h k n pc ls (.int q :: .ref a :: st) := by
  obtain ⟨-, c, h2, h3, -⟩ := P.is hi
  exact go_iaload D h2 (inb h3 hq hv) (by rw [h3]; simpa using hv) G
theorem go_caloadH {q : Int32} (P : Hp Z n0 h L) (i : Nat) (D : Dc bytes pc .caload 1 pc') (hi : L[i]? = some (a, .inr (.char, ad, vs))) (hq : ¬ q < 0) (hv : vs[q.toNatClampNeg]? = some v) (G : Go wd K₀ l Z R y bytes ml ret n0 kc ks Q h k n pc' ls (v :: st)) : Go wd K₀ l Z R y bytes ml ret n0 kc ks Q h k n pc ls (.int q :: .ref a :: st) := by
  obtain ⟨-, c, h2, h3, -⟩ := P.is hi
  exact go_caload D h2 (inb h3 hq hv) (by rw [h3]; simpa using hv) G
theorem go_baloadH {q : Int32} (P : Hp Z n0 h L) (i : Nat) (D : Dc bytes pc .baload 1 pc') (hi : L[i]? = some (a, .inr (.byte, ad, vs))) (hq : ¬ q < 0) (hv : vs[q.toNatClampNeg]? = some v) (G : Go wd K₀ l Z R y bytes ml ret n0 kc ks Q h k n pc' ls (v :: st)) : Go wd K₀ l Z R y bytes ml ret n0 kc ks Q h k n pc ls (.int q :: .ref a :: st) := by
  obtain ⟨-, c, h2, h3, -⟩ := P.is hi
  exact go_baload D h2 (inb h3 hq hv) (by rw [h3]; simpa using hv) G
theorem go_laloadH {q : Int32} (P : Hp Z n0 h L) (i : Nat) (D : Dc bytes pc .laload 1 pc') (hi : L[i]? = some (a, .inr (.long, ad, vs))) (hq : ¬ q < 0) (hv : vs[q.toNatClampNeg]? = some v) (G : Go wd K₀ l Z R y bytes ml ret n0 kc ks Q h k n pc' ls (v :: st)) : Go wd K₀ l Z R y bytes ml ret n0 kc ks Q h k n pc ls (.int q :: .ref a :: st) := by
  obtain ⟨-, c, h2, h3, -⟩ := P.is hi
  exact go_laload D h2 (inb h3 hq hv) (by rw [h3]; simpa using hv) G
theorem go_aaloadH {q : Int32} (P : Hp Z n0 h L) (i : Nat) (D : Dc bytes pc .aaload 1 pc') (hi : L[i]? = some (a, .inr (ty, ad, vs))) (hty : ty.isReference = true) (hq : ¬ q < 0) (hv : vs[q.toNatClampNeg]? = some v) (G : Go wd K₀ l Z R y bytes ml ret n0 kc ks Q h k n pc' ls (v :: st)) : Go wd K₀ l Z R y bytes ml ret n0 kc ks Q h k n pc ls (.int q :: .ref a :: st) := by
  obtain ⟨-, c, h2, h3, -⟩ := P.is hi
  exact go_aaload D h2 hty (inb h3 hq hv) (by rw [h3]; simpa using hv) G
theorem go_iastoreH {q : Int32} {x : Int32} (P : Hp Z n0 h L) (i : Nat) (D : Dc bytes pc .iastore 1 pc') (hi : L[i]? = some (a, .inr (.int, ad, vs))) (hq : ¬ q < 0) (hv : q.toNatClampNeg < vs.length) (G : ∀ h', Hp Z n0 h' (lupd L i (a, .inr (.int, ad, lupd vs q.toNatClampNeg (.int x)))) → Go wd K₀ l Z R y bytes ml ret n0 kc ks Q h' k n pc' ls st) : Go wd K₀ l Z R y bytes ml ret n0 kc ks Q h k n pc ls (.int x :: .int q :: .ref a :: st) := by
  obtain ⟨-, c, h2, h3, -⟩ := P.is hi
  exact go_iastore D h2 (inb' h3 hq hv) (P.ge hi) fun h' W => G h' (P.aput hi rfl W)
theorem go_lastoreH {q : Int32} {x : Int64} (P : Hp Z n0 h L) (i : Nat) (D : Dc bytes pc .lastore 1 pc') (hi : L[i]? = some (a, .inr (.long, ad, vs))) (hq : ¬ q < 0) (hv : q.toNatClampNeg < vs.length) (G : ∀ h', Hp Z n0 h' (lupd L i (a, .inr (.long, ad, lupd vs q.toNatClampNeg (.long x)))) → Go wd K₀ l Z R y bytes ml ret n0 kc ks Q h' k n pc' ls st) : Go wd K₀ l Z R y bytes ml ret n0 kc ks Q h k n pc ls (.long x :: .int q :: .ref a :: st) := by
  obtain ⟨-, c, h2, h3, -⟩ := P.is hi
  exact go_lastore D h2 (inb' h3 hq hv) (P.ge hi) fun h' W => G h' (P.aput hi rfl W)
theorem go_castoreH {q : Int32} {x : Int32} (P : Hp Z n0 h L) (i : Nat) (D : Dc bytes pc .castore 1 pc') (hi : L[i]? = some (a, .inr (.char, ad, vs))) (hq : ¬ q < 0) (hv : q.toNatClampNeg < vs.length) (G : ∀ h', Hp Z n0 h' (lupd L i (a, .inr (.char, ad, lupd vs q.toNatClampNeg (.int (nar .char x))))) → Go wd K₀ l Z R y bytes ml ret n0 kc ks Q h' k n pc' ls st) : Go wd K₀ l Z R y bytes ml ret n0 kc ks Q h k n pc ls (.int x :: .int q :: .ref a :: st) := by
  obtain ⟨-, c, h2, h3, -⟩ := P.is hi
  exact go_castore D h2 (inb' h3 hq hv) (P.ge hi) fun h' W => G h' (P.aput hi (fits_nar_char x) W)
theorem go_bastoreH {q : Int32} {x : Int32} (P : Hp Z n0 h L) (i : Nat) (D : Dc bytes pc .bastore 1 pc') (hi : L[i]? = some (a, .inr (.byte, ad, vs))) (hq : ¬ q < 0) (hv : q.toNatClampNeg < vs.length) (G : ∀ h', Hp Z n0 h' (lupd L i (a, .inr (.byte, ad, lupd vs q.toNatClampNeg (.int (nar .byte x))))) → Go wd K₀ l Z R y bytes ml ret n0 kc ks Q h' k n pc' ls st) : Go wd K₀ l Z R y bytes ml ret n0 kc ks Q h k n pc ls (.int x :: .int q :: .ref a :: st) := by
  obtain ⟨-, c, h2, h3, -⟩ := P.is hi
  exact go_bastore D h2 (inb' h3 hq hv) (P.ge hi) fun h' W => G h' (P.aput hi (fits_nar_byte x) W)
theorem go_zastoreH {q : Int32} {x : Int32} (P : Hp Z n0 h L) (i : Nat) (D : Dc bytes pc .bastore 1 pc') (hi : L[i]? = some (a, .inr (.boolean, ad, vs))) (hq : ¬ q < 0) (hv : q.toNatClampNeg < vs.length) (G : ∀ h', Hp Z n0 h' (lupd L i (a, .inr (.boolean, ad, lupd vs q.toNatClampNeg (.int (nar .boolean x))))) → Go wd K₀ l Z R y bytes ml ret n0 kc ks Q h' k n pc' ls st) : Go wd K₀ l Z R y bytes ml ret n0 kc ks Q h k n pc ls (.int x :: .int q :: .ref a :: st) := by
  obtain ⟨-, c, h2, h3, -⟩ := P.is hi
  exact go_zastore D h2 (inb' h3 hq hv) (P.ge hi) fun h' W => G h' (P.aput hi (fits_nar_bool x) W)
theorem go_clone {idx W : Nat} (P : Hp Z n0 h L) (i : Nat) (cap : Nat) (D : Dc bytes pc (.invokevirtual idx) 3 pc') (hi : L[i]? = some (a, .inr (ty, ad, vs)))
    (w1 : (Cond.methodLink y.cls idx ⟨ad, "clone", "()Ljava/lang/Object;"⟩).before a0 Z = true) (w2 : (Cond.sameMethod ad "java/lang/Object" "clone" "()Ljava/lang/Object;").before a0 Z = true) (w3 : (Cond.native ⟨"java/lang/Object", "clone", "()Ljava/lang/Object;"⟩).before a0 Z = true)
    (w4 : (Cond.instanceMethod ⟨"java/lang/Object", "clone", "()Ljava/lang/Object;"⟩).before a0 Z = true) (w5 : (Cond.selects ad ⟨ad, "clone", "()Ljava/lang/Object;"⟩ ⟨"java/lang/Object", "clone", "()Ljava/lang/Object;"⟩).before a0 Z = true) (w6 : (Cond.castable ad "java/lang/Cloneable").before a0 Z = true)
    (hlen : vs.length ≤ cap) (hls : ls.length = ml) (hf : 1 ≤ R.frames) (hW : (st.map fun v => v.category).sum = W) (hlo : W + 14 ≤ R.locals) (hk : k + 1 ≤ R.cells) (hn : n + cap ≤ R.slots)
    (G : ∀ h' b, Hp Z n0 h' ((b, .inr (ty, ad, vs)) :: L) → Go wd K₀ l Z R y bytes ml ret n0 kc ks Q h' (k + 1) (n + cap) pc' ls (.ref b :: st)) : Go wd K₀ l Z R y bytes ml ret n0 kc ks Q h k n pc ls (.ref a :: st) := by
  obtain ⟨E, cl, A, hs, hl31, hfit, hov⟩ := P.is hi
  intro p e s0 s m args below meth c T L' Bs C X hh N
  obtain ⟨hd, rfl⟩ := D
  have FC : FitC Z cl := fitC_of A fun q hq v hv => hfit v (by rw [hs] at hv; exact List.mem_of_getElem? (by simpa using hv))
  obtain ⟨T', h', X', e', ex, A', E', st'⟩ := cloneA X C.1 C.2.2.2.2.1 C.2.2.2.1 w1 w2 w3 w4 w5 w6 hh A E FC (g := mkF m pc ls.toArray (.ref a :: st)) rfl (by rw [C.2.2.1]; simpa using hls) rfl (hb C.2.1 hd) hf (W := W) (cap := cap) (by show 2 * 0 + _ ≤ W; rw [← hW]; omega) hlo (by rw [hs]; simpa using hlen) hk hn
  exact (G h' h.size (P.grow ex ⟨E', cloneOf cl, A', hs, hl31, hfit, hov⟩) p e s0 s m args below meth c T' L' (Bs.mono ex.1) C X' e' N).pre st'
def Dts (bytes : ByteArray) (pc : Nat) (x : Int32) (tg : Nat) : Prop := ∃ (d lo hi : Int) (offs : Array Int) (len : Nat) (o : Int), decode bytes pc = .ok (.tableswitch d lo hi offs, len) ∧ ¬ (x.toInt < lo ∨ x.toInt > hi) ∧ offs[(x.toInt - lo).toNat]? = some o ∧ 0 ≤ (pc : Int) + o ∧ ((pc : Int) + o).toNat = tg
def Dlk (bytes : ByteArray) (pc : Nat) (x : Int32) (tg : Nat) : Prop := ∃ (d : Int) (prs : Array (Int × Int)) (len : Nat), decode bytes pc = .ok (.lookupswitch d prs, len) ∧ (prs.toList.zip (prs.toList.drop 1)).all (fun (a, next) => a.1 < next.1) = true ∧ 0 ≤ (pc : Int) + lookupswitch.offset prs.toList d x.toInt ∧ ((pc : Int) + lookupswitch.offset prs.toList d x.toInt).toNat = tg
theorem lswX {tb : Tables} [Ours tb] {e : Env} {below : List Frame} {T target : State} {m : MethodId} {c : Code} {g : JFrame} (h : At T m c below) (hx : tb.exec = Jvm.exec) (hg : g.method = m) {d : Int} {prs : Array (Int × Int)} {len : Nat} {pc0 pc' : Nat} (hpc : g.pc = pc0) (hd : decode c.code g.pc = .ok (.lookupswitch d prs, len)) {i : Int32} {rest : List Value} (hs : g.stack = .int i :: rest)
    (hor : (prs.toList.zip (prs.toList.drop 1)).all (fun (a, next) => a.1 < next.1) = true) (ho : 0 ≤ (pc0 : Int) + lookupswitch.offset prs.toList d i.toInt) (hp : ((pc0 : Int) + lookupswitch.offset prs.toList d i.toInt).toNat = pc')
    (hr : Steps tb e below (T.setTop { g with pc := pc', stack := rest }) target) : Steps tb e below (T.setTop g) target := by
  subst hg hpc hp
  jvm_step h [h.top, hx, hd, hs, hor, ho, lookupswitch.wp_chain]
  exact ⟨by simpa using hor, hr⟩
theorem go_tsw {x : Int32} (D : Dts bytes pc x tg) (G : Go wd K₀ l Z R y bytes ml ret n0 kc ks Q h k n tg ls st) : Go wd K₀ l Z R y bytes ml ret n0 kc ks Q h k n pc ls (.int x :: st) := by
  obtain ⟨d, lo, hi, offs, len, o, hd, h1, h2, h3, h4⟩ := D
  exact go_pure G (fun C X t => XS.tswIn X.here C.1 (g := mkF _ pc ls.toArray (.int x :: st)) rfl (pc0 := pc) rfl (hb C.2.1 hd) rfl h1 h2 h3 h4)
theorem go_lsw {x : Int32} (D : Dlk bytes pc x tg) (G : Go wd K₀ l Z R y bytes ml ret n0 kc ks Q h k n tg ls st) : Go wd K₀ l Z R y bytes ml ret n0 kc ks Q h k n pc ls (.int x :: st) := by
  obtain ⟨d, prs, len, hd, h1, h3, h4⟩ := D
  exact go_pure G (fun C X t => lswX X.here C.1 (g := mkF _ pc ls.toArray (.int x :: st)) rfl (pc0 := pc) rfl (hb C.2.1 hd) rfl h1 h3 h4)
theorem Hp.insA {i : Nat} (P : Hp Z n0 h L) (hi : L[i]? = some (a, .inr (ty, ad, vs))) : Ins Z h a ad true := Ins.self (P.exaA hi)
theorem go_aastoreH {q : Int32} (P : Hp Z n0 h L) (i : Nat) (D : Dc bytes pc .aastore 1 pc') (hi : L[i]? = some (a, .inr (ty, ad, vs))) (hty : ty.isReference = true) (hf : fits ty v = true) (hq : ¬ q < 0) (hv : q.toNatClampNeg < vs.length) (F : Sto Z h a v) (G : ∀ h', Hp Z n0 h' (lupd L i (a, .inr (ty, ad, lupd vs q.toNatClampNeg v))) → Go wd K₀ l Z R y bytes ml ret n0 kc ks Q h' k n pc' ls st) : Go wd K₀ l Z R y bytes ml ret n0 kc ks Q h k n pc ls (v :: .int q :: .ref a :: st) := by
  obtain ⟨-, c, h2, h3, -⟩ := P.is hi
  exact go_aastore D h2 (inb' h3 hq hv) hty F (P.ge hi) fun h' W => G h' (P.aput hi hf W)
end WalkHp
end Jvm.OwnGo
namespace Jvm.Pilot.@@N@@
open Jvm Jvm.ClassFile Sem Op Lib Jvm.Free Jvm.Stand Jvm.LawKit Jvm.RoadKit Bundle Jvm.OwnGo Jvm.Pilot.@@N@@.Jvm.D
theorem t0 {Z : State} {a0 : Array Value} (hw : ∀ d ∈ tables_1, d.before a0 Z = true) : (Jvm.Cond.arrayClass Jvm.ClassFile.FieldType.int).before a0 Z = true := hw _ (List.mem_of_getElem? (i := 0) rfl)
theorem t1 {Z : State} {a0 : Array Value} (hw : ∀ d ∈ tables_1, d.before a0 Z = true) : (Jvm.Cond.constant "com/example/satisfy/satisfy/reasoner/IntMapRemovePinLaw" (7 : Nat) (2147483647 : Int32)).before a0 Z = true := hw _ (List.mem_of_getElem? (i := 1) rfl)
theorem t2 {Z : State} {a0 : Array Value} (hw : ∀ d ∈ tables_1, d.before a0 Z = true) : (Jvm.Cond.constantLong "com/example/satisfy/satisfy/reasoner/IntMapRemovePinLaw" (8 : Nat) (255 : Int64)).before a0 Z = true := hw _ (List.mem_of_getElem? (i := 2) rfl)
theorem t3 {Z : State} {a0 : Array Value} (hw : ∀ d ∈ tables_1, d.before a0 Z = true) : (Jvm.Cond.classLink "com/example/satisfy/satisfy/reasoner/IntMapRemovePinLaw" (10 : Nat) "com/example/satisfy/satisfy/reasoner/IntMap").before a0 Z = true := hw _ (List.mem_of_getElem? (i := 3) rfl)
theorem t4 {Z : State} {a0 : Array Value} (hw : ∀ d ∈ tables_1, d.before a0 Z = true) : (Jvm.Cond.instantiable "com/example/satisfy/satisfy/reasoner/IntMap" (4 : Nat)).before a0 Z = true := hw _ (List.mem_of_getElem? (i := 4) rfl)
theorem t5 {Z : State} {a0 : Array Value} (hw : ∀ d ∈ tables_1, d.before a0 Z = true) : (Jvm.Cond.initialized "com/example/satisfy/satisfy/reasoner/IntMap").before a0 Z = true := hw _ (List.mem_of_getElem? (i := 5) rfl)
theorem t6 {Z : State} {a0 : Array Value} (hw : ∀ d ∈ tables_1, d.before a0 Z = true) : (Jvm.Cond.methodLink "com/example/satisfy/satisfy/reasoner/IntMapRemovePinLaw" (12 : Nat) ({ cls := "com/example/satisfy/satisfy/reasoner/IntMap", name := "<init>", desc := "()V" } : Jvm.MethodName)).before a0 Z = true := hw _ (List.mem_of_getElem? (i := 6) rfl)
theorem t7 {Z : State} {a0 : Array Value} (hw : ∀ d ∈ tables_1, d.before a0 Z = true) : (Jvm.Cond.instanceMethod ({ cls := "com/example/satisfy/satisfy/reasoner/IntMap", name := "<init>", desc := "()V" } : Jvm.MethodName)).before a0 Z = true := hw _ (List.mem_of_getElem? (i := 7) rfl)
theorem t8 {Z : State} {a0 : Array Value} (hw : ∀ d ∈ tables_1, d.before a0 Z = true) : (Jvm.Cond.code ({ cls := "com/example/satisfy/satisfy/reasoner/IntMap", name := "<init>", desc := "()V" } : Jvm.MethodName) prog_57_method_1_code (1 : Nat) (Option.none : Option Jvm.ClassFile.FieldType)).before a0 Z = true := hw _ (List.mem_of_getElem? (i := 8) rfl)
theorem t9 {Z : State} {a0 : Array Value} (hw : ∀ d ∈ tables_1, d.before a0 Z = true) : (Jvm.Cond.methodLink "com/example/satisfy/satisfy/reasoner/IntMap" (1 : Nat) ({ cls := "java/lang/Object", name := "<init>", desc := "()V" } : Jvm.MethodName)).before a0 Z = true := hw _ (List.mem_of_getElem? (i := 9) rfl)
theorem t10 {Z : State} {a0 : Array Value} (hw : ∀ d ∈ tables_1, d.before a0 Z = true) : (Jvm.Cond.instanceMethod ({ cls := "java/lang/Object", name := "<init>", desc := "()V" } : Jvm.MethodName)).before a0 Z = true := hw _ (List.mem_of_getElem? (i := 10) rfl)
theorem t11 {Z : State} {a0 : Array Value} (hw : ∀ d ∈ tables_1, d.before a0 Z = true) : (Jvm.Cond.code ({ cls := "java/lang/Object", name := "<init>", desc := "()V" } : Jvm.MethodName) object_method_1_code (1 : Nat) (Option.none : Option Jvm.ClassFile.FieldType)).before a0 Z = true := hw _ (List.mem_of_getElem? (i := 11) rfl)
theorem t12 {Z : State} {a0 : Array Value} (hw : ∀ d ∈ tables_1, d.before a0 Z = true) : (Jvm.Cond.methodLink "com/example/satisfy/satisfy/reasoner/IntMap" (7 : Nat) ({ cls := "com/example/satisfy/satisfy/reasoner/IntMap", name := "allocate", desc := "(I)V" } : Jvm.MethodName)).before a0 Z = true := hw _ (List.mem_of_getElem? (i := 12) rfl)
theorem t13 {Z : State} {a0 : Array Value} (hw : ∀ d ∈ tables_1, d.before a0 Z = true) : (Jvm.Cond.instanceMethod ({ cls := "com/example/satisfy/satisfy/reasoner/IntMap", name := "allocate", desc := "(I)V" } : Jvm.MethodName)).before a0 Z = true := hw _ (List.mem_of_getElem? (i := 13) rfl)
theorem t14 {Z : State} {a0 : Array Value} (hw : ∀ d ∈ tables_1, d.before a0 Z = true) : (Jvm.Cond.privateMethod ({ cls := "com/example/satisfy/satisfy/reasoner/IntMap", name := "allocate", desc := "(I)V" } : Jvm.MethodName)).before a0 Z = true := hw _ (List.mem_of_getElem? (i := 14) rfl)
theorem t15 {Z : State} {a0 : Array Value} (hw : ∀ d ∈ tables_1, d.before a0 Z = true) : (Jvm.Cond.code ({ cls := "com/example/satisfy/satisfy/reasoner/IntMap", name := "allocate", desc := "(I)V" } : Jvm.MethodName) prog_57_method_8_code (2 : Nat) (Option.none : Option Jvm.ClassFile.FieldType)).before a0 Z = true := hw _ (List.mem_of_getElem? (i := 15) rfl)
theorem t16 {Z : State} {a0 : Array Value} (hw : ∀ d ∈ tables_1, d.before a0 Z = true) : (Jvm.Cond.fieldLink "com/example/satisfy/satisfy/reasoner/IntMap" (35 : Nat) "com/example/satisfy/satisfy/reasoner/IntMap" "bits" "I").before a0 Z = true := hw _ (List.mem_of_getElem? (i := 16) rfl)
theorem t17 {Z : State} {a0 : Array Value} (hw : ∀ d ∈ tables_1, d.before a0 Z = true) : (Jvm.Cond.lays "com/example/satisfy/satisfy/reasoner/IntMap" "com/example/satisfy/satisfy/reasoner/IntMap" "bits" "I").before a0 Z = true := hw _ (List.mem_of_getElem? (i := 17) rfl)
theorem t18 {Z : State} {a0 : Array Value} (hw : ∀ d ∈ tables_1, d.before a0 Z = true) : (Jvm.Cond.fieldLink "com/example/satisfy/satisfy/reasoner/IntMap" (17 : Nat) "com/example/satisfy/satisfy/reasoner/IntMap" "keys" "[I").before a0 Z = true := hw _ (List.mem_of_getElem? (i := 18) rfl)
theorem t19 {Z : State} {a0 : Array Value} (hw : ∀ d ∈ tables_1, d.before a0 Z = true) : (Jvm.Cond.lays "com/example/satisfy/satisfy/reasoner/IntMap" "com/example/satisfy/satisfy/reasoner/IntMap" "keys" "[I").before a0 Z = true := hw _ (List.mem_of_getElem? (i := 19) rfl)
theorem t20 {Z : State} {a0 : Array Value} (hw : ∀ d ∈ tables_1, d.before a0 Z = true) : (Jvm.Cond.methodLink "com/example/satisfy/satisfy/reasoner/IntMap" (38 : Nat) ({ cls := "java/util/Arrays", name := "fill", desc := "([II)V" } : Jvm.MethodName)).before a0 Z = true := hw _ (List.mem_of_getElem? (i := 20) rfl)
theorem t21 {Z : State} {a0 : Array Value} (hw : ∀ d ∈ tables_1, d.before a0 Z = true) : (Jvm.Cond.static ({ cls := "java/util/Arrays", name := "fill", desc := "([II)V" } : Jvm.MethodName)).before a0 Z = true := hw _ (List.mem_of_getElem? (i := 21) rfl)
theorem t22 {Z : State} {a0 : Array Value} (hw : ∀ d ∈ tables_1, d.before a0 Z = true) : (Jvm.Cond.initialized "java/util/Arrays").before a0 Z = true := hw _ (List.mem_of_getElem? (i := 22) rfl)
theorem t23 {Z : State} {a0 : Array Value} (hw : ∀ d ∈ tables_1, d.before a0 Z = true) : (Jvm.Cond.code ({ cls := "java/util/Arrays", name := "fill", desc := "([II)V" } : Jvm.MethodName) jdk_65_method_103_code (4 : Nat) (Option.none : Option Jvm.ClassFile.FieldType)).before a0 Z = true := hw _ (List.mem_of_getElem? (i := 23) rfl)
theorem t24 {Z : State} {a0 : Array Value} (hw : ∀ d ∈ tables_1, d.before a0 Z = true) : (Jvm.Cond.fieldLink "com/example/satisfy/satisfy/reasoner/IntMap" (21 : Nat) "com/example/satisfy/satisfy/reasoner/IntMap" "values" "[I").before a0 Z = true := hw _ (List.mem_of_getElem? (i := 24) rfl)
theorem t25 {Z : State} {a0 : Array Value} (hw : ∀ d ∈ tables_1, d.before a0 Z = true) : (Jvm.Cond.lays "com/example/satisfy/satisfy/reasoner/IntMap" "com/example/satisfy/satisfy/reasoner/IntMap" "values" "[I").before a0 Z = true := hw _ (List.mem_of_getElem? (i := 25) rfl)
theorem t26 {Z : State} {a0 : Array Value} (hw : ∀ d ∈ tables_1, d.before a0 Z = true) : (Jvm.Cond.methodLink "com/example/satisfy/satisfy/reasoner/IntMapRemovePinLaw" (13 : Nat) ({ cls := "com/example/satisfy/satisfy/reasoner/IntMap", name := "put", desc := "(II)V" } : Jvm.MethodName)).before a0 Z = true := hw _ (List.mem_of_getElem? (i := 26) rfl)
theorem t27 {Z : State} {a0 : Array Value} (hw : ∀ d ∈ tables_1, d.before a0 Z = true) : (Jvm.Cond.declares ({ cls := "com/example/satisfy/satisfy/reasoner/IntMap", name := "put", desc := "(II)V" } : Jvm.MethodName)).before a0 Z = true := hw _ (List.mem_of_getElem? (i := 27) rfl)
theorem t28 {Z : State} {a0 : Array Value} (hw : ∀ d ∈ tables_1, d.before a0 Z = true) : (Jvm.Cond.instanceMethod ({ cls := "com/example/satisfy/satisfy/reasoner/IntMap", name := "put", desc := "(II)V" } : Jvm.MethodName)).before a0 Z = true := hw _ (List.mem_of_getElem? (i := 28) rfl)
theorem t29 {Z : State} {a0 : Array Value} (hw : ∀ d ∈ tables_1, d.before a0 Z = true) : (Jvm.Cond.selects "com/example/satisfy/satisfy/reasoner/IntMap" ({ cls := "com/example/satisfy/satisfy/reasoner/IntMap", name := "put", desc := "(II)V" } : Jvm.MethodName) ({ cls := "com/example/satisfy/satisfy/reasoner/IntMap", name := "put", desc := "(II)V" } : Jvm.MethodName)).before a0 Z = true := hw _ (List.mem_of_getElem? (i := 29) rfl)
theorem t30 {Z : State} {a0 : Array Value} (hw : ∀ d ∈ tables_1, d.before a0 Z = true) : (Jvm.Cond.code ({ cls := "com/example/satisfy/satisfy/reasoner/IntMap", name := "put", desc := "(II)V" } : Jvm.MethodName) prog_57_method_3_code (4 : Nat) (Option.none : Option Jvm.ClassFile.FieldType)).before a0 Z = true := hw _ (List.mem_of_getElem? (i := 30) rfl)
theorem t31 {Z : State} {a0 : Array Value} (hw : ∀ d ∈ tables_1, d.before a0 Z = true) : (Jvm.Cond.methodLink "com/example/satisfy/satisfy/reasoner/IntMap" (13 : Nat) ({ cls := "com/example/satisfy/satisfy/reasoner/IntMap", name := "slotOf", desc := "(I)I" } : Jvm.MethodName)).before a0 Z = true := hw _ (List.mem_of_getElem? (i := 31) rfl)
theorem t32 {Z : State} {a0 : Array Value} (hw : ∀ d ∈ tables_1, d.before a0 Z = true) : (Jvm.Cond.instanceMethod ({ cls := "com/example/satisfy/satisfy/reasoner/IntMap", name := "slotOf", desc := "(I)I" } : Jvm.MethodName)).before a0 Z = true := hw _ (List.mem_of_getElem? (i := 32) rfl)
theorem t33 {Z : State} {a0 : Array Value} (hw : ∀ d ∈ tables_1, d.before a0 Z = true) : (Jvm.Cond.privateMethod ({ cls := "com/example/satisfy/satisfy/reasoner/IntMap", name := "slotOf", desc := "(I)I" } : Jvm.MethodName)).before a0 Z = true := hw _ (List.mem_of_getElem? (i := 33) rfl)
theorem t34 {Z : State} {a0 : Array Value} (hw : ∀ d ∈ tables_1, d.before a0 Z = true) : (Jvm.Cond.code ({ cls := "com/example/satisfy/satisfy/reasoner/IntMap", name := "slotOf", desc := "(I)I" } : Jvm.MethodName) prog_57_method_5_code (4 : Nat) (Option.some Jvm.ClassFile.FieldType.int)).before a0 Z = true := hw _ (List.mem_of_getElem? (i := 34) rfl)
theorem t35 {Z : State} {a0 : Array Value} (hw : ∀ d ∈ tables_1, d.before a0 Z = true) : (Jvm.Cond.methodLink "com/example/satisfy/satisfy/reasoner/IntMap" (31 : Nat) ({ cls := "com/example/satisfy/satisfy/reasoner/IntMap", name := "hash", desc := "(I)I" } : Jvm.MethodName)).before a0 Z = true := hw _ (List.mem_of_getElem? (i := 35) rfl)
theorem t36 {Z : State} {a0 : Array Value} (hw : ∀ d ∈ tables_1, d.before a0 Z = true) : (Jvm.Cond.instanceMethod ({ cls := "com/example/satisfy/satisfy/reasoner/IntMap", name := "hash", desc := "(I)I" } : Jvm.MethodName)).before a0 Z = true := hw _ (List.mem_of_getElem? (i := 36) rfl)
theorem t37 {Z : State} {a0 : Array Value} (hw : ∀ d ∈ tables_1, d.before a0 Z = true) : (Jvm.Cond.privateMethod ({ cls := "com/example/satisfy/satisfy/reasoner/IntMap", name := "hash", desc := "(I)I" } : Jvm.MethodName)).before a0 Z = true := hw _ (List.mem_of_getElem? (i := 37) rfl)
theorem t38 {Z : State} {a0 : Array Value} (hw : ∀ d ∈ tables_1, d.before a0 Z = true) : (Jvm.Cond.code ({ cls := "com/example/satisfy/satisfy/reasoner/IntMap", name := "hash", desc := "(I)I" } : Jvm.MethodName) prog_57_method_6_code (2 : Nat) (Option.some Jvm.ClassFile.FieldType.int)).before a0 Z = true := hw _ (List.mem_of_getElem? (i := 38) rfl)
theorem t39 {Z : State} {a0 : Array Value} (hw : ∀ d ∈ tables_1, d.before a0 Z = true) : (Jvm.Cond.constant "com/example/satisfy/satisfy/reasoner/IntMap" (34 : Nat) (-1640531527 : Int32)).before a0 Z = true := hw _ (List.mem_of_getElem? (i := 39) rfl)
theorem t40 {Z : State} {a0 : Array Value} (hw : ∀ d ∈ tables_1, d.before a0 Z = true) : (Jvm.Cond.fieldLink "com/example/satisfy/satisfy/reasoner/IntMap" (24 : Nat) "com/example/satisfy/satisfy/reasoner/IntMap" "size" "I").before a0 Z = true := hw _ (List.mem_of_getElem? (i := 40) rfl)
theorem t41 {Z : State} {a0 : Array Value} (hw : ∀ d ∈ tables_1, d.before a0 Z = true) : (Jvm.Cond.lays "com/example/satisfy/satisfy/reasoner/IntMap" "com/example/satisfy/satisfy/reasoner/IntMap" "size" "I").before a0 Z = true := hw _ (List.mem_of_getElem? (i := 41) rfl)
theorem t42 {Z : State} {a0 : Array Value} (hw : ∀ d ∈ tables_1, d.before a0 Z = true) : (Jvm.Cond.methodLink "com/example/satisfy/satisfy/reasoner/IntMapRemovePinLaw" (17 : Nat) ({ cls := "com/example/satisfy/satisfy/reasoner/IntMap", name := "remove", desc := "(I)V" } : Jvm.MethodName)).before a0 Z = true := hw _ (List.mem_of_getElem? (i := 42) rfl)
theorem t43 {Z : State} {a0 : Array Value} (hw : ∀ d ∈ tables_1, d.before a0 Z = true) : (Jvm.Cond.declares ({ cls := "com/example/satisfy/satisfy/reasoner/IntMap", name := "remove", desc := "(I)V" } : Jvm.MethodName)).before a0 Z = true := hw _ (List.mem_of_getElem? (i := 43) rfl)
theorem t44 {Z : State} {a0 : Array Value} (hw : ∀ d ∈ tables_1, d.before a0 Z = true) : (Jvm.Cond.instanceMethod ({ cls := "com/example/satisfy/satisfy/reasoner/IntMap", name := "remove", desc := "(I)V" } : Jvm.MethodName)).before a0 Z = true := hw _ (List.mem_of_getElem? (i := 44) rfl)
theorem t45 {Z : State} {a0 : Array Value} (hw : ∀ d ∈ tables_1, d.before a0 Z = true) : (Jvm.Cond.selects "com/example/satisfy/satisfy/reasoner/IntMap" ({ cls := "com/example/satisfy/satisfy/reasoner/IntMap", name := "remove", desc := "(I)V" } : Jvm.MethodName) ({ cls := "com/example/satisfy/satisfy/reasoner/IntMap", name := "remove", desc := "(I)V" } : Jvm.MethodName)).before a0 Z = true := hw _ (List.mem_of_getElem? (i := 45) rfl)
theorem t46 {Z : State} {a0 : Array Value} (hw : ∀ d ∈ tables_1, d.before a0 Z = true) : (Jvm.Cond.code ({ cls := "com/example/satisfy/satisfy/reasoner/IntMap", name := "remove", desc := "(I)V" } : Jvm.MethodName) prog_57_method_4_code (6 : Nat) (Option.none : Option Jvm.ClassFile.FieldType)).before a0 Z = true := hw _ (List.mem_of_getElem? (i := 46) rfl)
theorem t47 {Z : State} {a0 : Array Value} (hw : ∀ d ∈ tables_1, d.before a0 Z = true) : (Jvm.Cond.methodLink "com/example/satisfy/satisfy/reasoner/IntMapRemovePinLaw" (21 : Nat) ({ cls := "com/example/satisfy/satisfy/reasoner/IntMap", name := "get", desc := "(I)I" } : Jvm.MethodName)).before a0 Z = true := hw _ (List.mem_of_getElem? (i := 47) rfl)
theorem t48 {Z : State} {a0 : Array Value} (hw : ∀ d ∈ tables_1, d.before a0 Z = true) : (Jvm.Cond.declares ({ cls := "com/example/satisfy/satisfy/reasoner/IntMap", name := "get", desc := "(I)I" } : Jvm.MethodName)).before a0 Z = true := hw _ (List.mem_of_getElem? (i := 48) rfl)
theorem t49 {Z : State} {a0 : Array Value} (hw : ∀ d ∈ tables_1, d.before a0 Z = true) : (Jvm.Cond.instanceMethod ({ cls := "com/example/satisfy/satisfy/reasoner/IntMap", name := "get", desc := "(I)I" } : Jvm.MethodName)).before a0 Z = true := hw _ (List.mem_of_getElem? (i := 49) rfl)
theorem t50 {Z : State} {a0 : Array Value} (hw : ∀ d ∈ tables_1, d.before a0 Z = true) : (Jvm.Cond.selects "com/example/satisfy/satisfy/reasoner/IntMap" ({ cls := "com/example/satisfy/satisfy/reasoner/IntMap", name := "get", desc := "(I)I" } : Jvm.MethodName) ({ cls := "com/example/satisfy/satisfy/reasoner/IntMap", name := "get", desc := "(I)I" } : Jvm.MethodName)).before a0 Z = true := hw _ (List.mem_of_getElem? (i := 50) rfl)
theorem t51 {Z : State} {a0 : Array Value} (hw : ∀ d ∈ tables_1, d.before a0 Z = true) : (Jvm.Cond.code ({ cls := "com/example/satisfy/satisfy/reasoner/IntMap", name := "get", desc := "(I)I" } : Jvm.MethodName) prog_57_method_2_code (3 : Nat) (Option.some Jvm.ClassFile.FieldType.int)).before a0 Z = true := hw _ (List.mem_of_getElem? (i := 51) rfl)
theorem t52 {Z : State} {a0 : Array Value} (hw : ∀ d ∈ tables_1, d.before a0 Z = true) : (Jvm.Cond.methodLink "com/example/satisfy/satisfy/reasoner/IntMapRemovePinLaw" (25 : Nat) ({ cls := "com/example/satisfy/satisfy/reasoner/IntMapRemovePinLaw", name := "expect", desc := "(III[I[I)I" } : Jvm.MethodName)).before a0 Z = true := hw _ (List.mem_of_getElem? (i := 52) rfl)
theorem t53 {Z : State} {a0 : Array Value} (hw : ∀ d ∈ tables_1, d.before a0 Z = true) : (Jvm.Cond.static ({ cls := "com/example/satisfy/satisfy/reasoner/IntMapRemovePinLaw", name := "expect", desc := "(III[I[I)I" } : Jvm.MethodName)).before a0 Z = true := hw _ (List.mem_of_getElem? (i := 53) rfl)
theorem t54 {Z : State} {a0 : Array Value} (hw : ∀ d ∈ tables_1, d.before a0 Z = true) : (Jvm.Cond.initialized "com/example/satisfy/satisfy/reasoner/IntMapRemovePinLaw").before a0 Z = true := hw _ (List.mem_of_getElem? (i := 54) rfl)
theorem t55 {Z : State} {a0 : Array Value} (hw : ∀ d ∈ tables_1, d.before a0 Z = true) : (Jvm.Cond.code ({ cls := "com/example/satisfy/satisfy/reasoner/IntMapRemovePinLaw", name := "expect", desc := "(III[I[I)I" } : Jvm.MethodName) method_3_code (6 : Nat) (Option.some Jvm.ClassFile.FieldType.int)).before a0 Z = true := hw _ (List.mem_of_getElem? (i := 55) rfl)
theorem t56 {Z : State} {a0 : Array Value} (hw : ∀ d ∈ tables_1, d.before a0 Z = true) : (Jvm.Cond.methodLink "com/example/satisfy/satisfy/reasoner/IntMap" (28 : Nat) ({ cls := "com/example/satisfy/satisfy/reasoner/IntMap", name := "grow", desc := "()V" } : Jvm.MethodName)).before a0 Z = true := hw _ (List.mem_of_getElem? (i := 56) rfl)
theorem t57 {Z : State} {a0 : Array Value} (hw : ∀ d ∈ tables_1, d.before a0 Z = true) : (Jvm.Cond.instanceMethod ({ cls := "com/example/satisfy/satisfy/reasoner/IntMap", name := "grow", desc := "()V" } : Jvm.MethodName)).before a0 Z = true := hw _ (List.mem_of_getElem? (i := 57) rfl)
theorem t58 {Z : State} {a0 : Array Value} (hw : ∀ d ∈ tables_1, d.before a0 Z = true) : (Jvm.Cond.privateMethod ({ cls := "com/example/satisfy/satisfy/reasoner/IntMap", name := "grow", desc := "()V" } : Jvm.MethodName)).before a0 Z = true := hw _ (List.mem_of_getElem? (i := 58) rfl)
theorem t59 {Z : State} {a0 : Array Value} (hw : ∀ d ∈ tables_1, d.before a0 Z = true) : (Jvm.Cond.code ({ cls := "com/example/satisfy/satisfy/reasoner/IntMap", name := "grow", desc := "()V" } : Jvm.MethodName) prog_57_method_7_code (5 : Nat) (Option.none : Option Jvm.ClassFile.FieldType)).before a0 Z = true := hw _ (List.mem_of_getElem? (i := 59) rfl)
theorem pd0 : parseMethodDescriptor "(I)I" = some ⟨[.int], some .int⟩ := by decide +kernel
theorem pd1 : parseMethodDescriptor "([II)V" = some ⟨[(.array .int), .int], none⟩ := by decide +kernel
theorem pd2 : parseMethodDescriptor "(I)V" = some ⟨[.int], none⟩ := by decide +kernel
theorem pd3 : parseMethodDescriptor "()V" = some ⟨[], none⟩ := by decide +kernel
theorem pd4 : parseMethodDescriptor "(II)V" = some ⟨[.int, .int], none⟩ := by decide +kernel
theorem pd5 : parseMethodDescriptor "(III[I[I)I" = some ⟨[.int, .int, .int, (.array .int), (.array .int)], some .int⟩ := by decide +kernel
theorem pn0 : plainName "com/example/satisfy/satisfy/reasoner/IntMap" = true := by first | (simp [plainName, overriddenIn]; done) | decide +kernel
theorem pn1 : plainName "java/util/Arrays" = true := by first | (simp [plainName, overriddenIn]; done) | decide +kernel
theorem pn2 : plainName "com/example/satisfy/satisfy/reasoner/IntMapRemovePinLaw" = true := by first | (simp [plainName, overriddenIn]; done) | decide +kernel
theorem c7_0 : Dil prog_57_method_6_code 0 1 1 := Or.inr ⟨1, (by decide +kernel), rfl, rfl⟩
theorem c7_1 : Dc prog_57_method_6_code 1 (.ldc 34) 2 3 := ⟨(by decide +kernel), rfl⟩
theorem c7_3 : Dc prog_57_method_6_code 3 .imul 1 4 := ⟨(by decide +kernel), rfl⟩
theorem c7_4 : Dp prog_57_method_6_code 4 32 6 := Or.inr (Or.inl ⟨32, (by decide +kernel), by decide, rfl⟩)
theorem c7_6 : Dal prog_57_method_6_code 6 0 7 := Or.inr ⟨0, (by decide +kernel), rfl, rfl⟩
theorem c7_7 : Dc prog_57_method_6_code 7 (.getfield 35) 3 10 := ⟨(by decide +kernel), rfl⟩
theorem c7_10 : Dc prog_57_method_6_code 10 .isub 1 11 := ⟨(by decide +kernel), rfl⟩
theorem c7_11 : Dc prog_57_method_6_code 11 .iushr 1 12 := ⟨(by decide +kernel), rfl⟩
theorem c7_12 : Dc prog_57_method_6_code 12 .ireturn 1 13 := ⟨(by decide +kernel), rfl⟩
theorem c6_0 : Dal prog_57_method_5_code 0 0 1 := Or.inr ⟨0, (by decide +kernel), rfl, rfl⟩
theorem c6_1 : Dc prog_57_method_5_code 1 (.getfield 17) 3 4 := ⟨(by decide +kernel), rfl⟩
theorem c6_4 : Dc prog_57_method_5_code 4 .arraylength 1 5 := ⟨(by decide +kernel), rfl⟩
theorem c6_5 : Dp prog_57_method_5_code 5 1 6 := Or.inl ⟨1, (by decide +kernel), by decide, rfl⟩
theorem c6_6 : Dc prog_57_method_5_code 6 .isub 1 7 := ⟨(by decide +kernel), rfl⟩
theorem c6_7 : Dis prog_57_method_5_code 7 2 8 := Or.inr ⟨2, (by decide +kernel), rfl, rfl⟩
theorem c6_8 : Dal prog_57_method_5_code 8 0 9 := Or.inr ⟨0, (by decide +kernel), rfl, rfl⟩
theorem c6_9 : Dil prog_57_method_5_code 9 1 10 := Or.inr ⟨1, (by decide +kernel), rfl, rfl⟩
theorem c6_10 : Dc prog_57_method_5_code 10 (.invokevirtual 31) 3 13 := ⟨(by decide +kernel), rfl⟩
theorem c6_13 : Dis prog_57_method_5_code 13 3 14 := Or.inr ⟨3, (by decide +kernel), rfl, rfl⟩
theorem c6_14 : Dal prog_57_method_5_code 14 0 15 := Or.inr ⟨0, (by decide +kernel), rfl, rfl⟩
theorem c6_15 : Dc prog_57_method_5_code 15 (.getfield 17) 3 18 := ⟨(by decide +kernel), rfl⟩
theorem c6_18 : Dil prog_57_method_5_code 18 3 19 := Or.inr ⟨3, (by decide +kernel), rfl, rfl⟩
theorem c6_19 : Dc prog_57_method_5_code 19 .iaload 1 20 := ⟨(by decide +kernel), rfl⟩
theorem c6_20 : Dp prog_57_method_5_code 20 (-1) 21 := Or.inl ⟨(-1), (by decide +kernel), by decide, rfl⟩
theorem c6_21 : Db prog_57_method_5_code 21 (.if_icmp .eq) 24 43 := ⟨22, (by decide +kernel), rfl, by decide, by decide⟩
theorem c6_24 : Dal prog_57_method_5_code 24 0 25 := Or.inr ⟨0, (by decide +kernel), rfl, rfl⟩
theorem c6_25 : Dc prog_57_method_5_code 25 (.getfield 17) 3 28 := ⟨(by decide +kernel), rfl⟩
theorem c6_28 : Dil prog_57_method_5_code 28 3 29 := Or.inr ⟨3, (by decide +kernel), rfl, rfl⟩
theorem c6_29 : Dc prog_57_method_5_code 29 .iaload 1 30 := ⟨(by decide +kernel), rfl⟩
theorem c6_30 : Dil prog_57_method_5_code 30 1 31 := Or.inr ⟨1, (by decide +kernel), rfl, rfl⟩
theorem c6_31 : Db prog_57_method_5_code 31 (.if_icmp .eq) 34 43 := ⟨12, (by decide +kernel), rfl, by decide, by decide⟩
theorem c6_34 : Dil prog_57_method_5_code 34 3 35 := Or.inr ⟨3, (by decide +kernel), rfl, rfl⟩
theorem c6_35 : Dp prog_57_method_5_code 35 1 36 := Or.inl ⟨1, (by decide +kernel), by decide, rfl⟩
theorem c6_36 : Dc prog_57_method_5_code 36 .iadd 1 37 := ⟨(by decide +kernel), rfl⟩
theorem c6_37 : Dil prog_57_method_5_code 37 2 38 := Or.inr ⟨2, (by decide +kernel), rfl, rfl⟩
theorem c6_38 : Dc prog_57_method_5_code 38 .iand 1 39 := ⟨(by decide +kernel), rfl⟩
theorem c6_39 : Dis prog_57_method_5_code 39 3 40 := Or.inr ⟨3, (by decide +kernel), rfl, rfl⟩
theorem c6_40 : Db prog_57_method_5_code 40 .goto 43 14 := ⟨(-26), (by decide +kernel), rfl, by decide, by decide⟩
theorem c6_43 : Dil prog_57_method_5_code 43 3 44 := Or.inr ⟨3, (by decide +kernel), rfl, rfl⟩
theorem c6_44 : Dc prog_57_method_5_code 44 .ireturn 1 45 := ⟨(by decide +kernel), rfl⟩
theorem c9_0 : Dal prog_57_method_2_code 0 0 1 := Or.inr ⟨0, (by decide +kernel), rfl, rfl⟩
theorem c9_1 : Dil prog_57_method_2_code 1 1 2 := Or.inr ⟨1, (by decide +kernel), rfl, rfl⟩
theorem c9_2 : Dc prog_57_method_2_code 2 (.invokevirtual 13) 3 5 := ⟨(by decide +kernel), rfl⟩
theorem c9_5 : Dis prog_57_method_2_code 5 2 6 := Or.inr ⟨2, (by decide +kernel), rfl, rfl⟩
theorem c9_6 : Dal prog_57_method_2_code 6 0 7 := Or.inr ⟨0, (by decide +kernel), rfl, rfl⟩
theorem c9_7 : Dc prog_57_method_2_code 7 (.getfield 17) 3 10 := ⟨(by decide +kernel), rfl⟩
theorem c9_10 : Dil prog_57_method_2_code 10 2 11 := Or.inr ⟨2, (by decide +kernel), rfl, rfl⟩
theorem c9_11 : Dc prog_57_method_2_code 11 .iaload 1 12 := ⟨(by decide +kernel), rfl⟩
theorem c9_12 : Dp prog_57_method_2_code 12 (-1) 13 := Or.inl ⟨(-1), (by decide +kernel), by decide, rfl⟩
theorem c9_13 : Db prog_57_method_2_code 13 (.if_icmp .ne) 16 20 := ⟨7, (by decide +kernel), rfl, by decide, by decide⟩
theorem c9_16 : Dp prog_57_method_2_code 16 (-1) 17 := Or.inl ⟨(-1), (by decide +kernel), by decide, rfl⟩
theorem c9_17 : Db prog_57_method_2_code 17 .goto 20 26 := ⟨9, (by decide +kernel), rfl, by decide, by decide⟩
theorem c9_20 : Dal prog_57_method_2_code 20 0 21 := Or.inr ⟨0, (by decide +kernel), rfl, rfl⟩
theorem c9_21 : Dc prog_57_method_2_code 21 (.getfield 21) 3 24 := ⟨(by decide +kernel), rfl⟩
theorem c9_24 : Dil prog_57_method_2_code 24 2 25 := Or.inr ⟨2, (by decide +kernel), rfl, rfl⟩
theorem c9_25 : Dc prog_57_method_2_code 25 .iaload 1 26 := ⟨(by decide +kernel), rfl⟩
theorem c9_26 : Dc prog_57_method_2_code 26 .ireturn 1 27 := ⟨(by decide +kernel), rfl⟩
theorem c4_0 : Dp jdk_65_method_103_code 0 0 1 := Or.inl ⟨0, (by decide +kernel), by decide, rfl⟩
theorem c4_1 : Dis jdk_65_method_103_code 1 2 2 := Or.inr ⟨2, (by decide +kernel), rfl, rfl⟩
theorem c4_2 : Dal jdk_65_method_103_code 2 0 3 := Or.inr ⟨0, (by decide +kernel), rfl, rfl⟩
theorem c4_3 : Dc jdk_65_method_103_code 3 .arraylength 1 4 := ⟨(by decide +kernel), rfl⟩
theorem c4_4 : Dis jdk_65_method_103_code 4 3 5 := Or.inr ⟨3, (by decide +kernel), rfl, rfl⟩
theorem c4_5 : Dil jdk_65_method_103_code 5 2 6 := Or.inr ⟨2, (by decide +kernel), rfl, rfl⟩
theorem c4_6 : Dil jdk_65_method_103_code 6 3 7 := Or.inr ⟨3, (by decide +kernel), rfl, rfl⟩
theorem c4_7 : Db jdk_65_method_103_code 7 (.if_icmp .ge) 10 20 := ⟨13, (by decide +kernel), rfl, by decide, by decide⟩
theorem c4_10 : Dal jdk_65_method_103_code 10 0 11 := Or.inr ⟨0, (by decide +kernel), rfl, rfl⟩
theorem c4_11 : Dil jdk_65_method_103_code 11 2 12 := Or.inr ⟨2, (by decide +kernel), rfl, rfl⟩
theorem c4_12 : Dil jdk_65_method_103_code 12 1 13 := Or.inr ⟨1, (by decide +kernel), rfl, rfl⟩
theorem c4_13 : Dc jdk_65_method_103_code 13 .iastore 1 14 := ⟨(by decide +kernel), rfl⟩
theorem c4_14 : Dinc jdk_65_method_103_code 14 2 1 17 := ⟨1, (by decide +kernel), by decide, rfl⟩
theorem c4_17 : Db jdk_65_method_103_code 17 .goto 20 5 := ⟨(-12), (by decide +kernel), rfl, by decide, by decide⟩
theorem c4_20 : Dc jdk_65_method_103_code 20 .return_ 1 21 := ⟨(by decide +kernel), rfl⟩
theorem c3_0 : Dal prog_57_method_8_code 0 0 1 := Or.inr ⟨0, (by decide +kernel), rfl, rfl⟩
theorem c3_1 : Dil prog_57_method_8_code 1 1 2 := Or.inr ⟨1, (by decide +kernel), rfl, rfl⟩
theorem c3_2 : Dc prog_57_method_8_code 2 (.putfield 35) 3 5 := ⟨(by decide +kernel), rfl⟩
theorem c3_5 : Dal prog_57_method_8_code 5 0 6 := Or.inr ⟨0, (by decide +kernel), rfl, rfl⟩
theorem c3_6 : Dp prog_57_method_8_code 6 1 7 := Or.inl ⟨1, (by decide +kernel), by decide, rfl⟩
theorem c3_7 : Dil prog_57_method_8_code 7 1 8 := Or.inr ⟨1, (by decide +kernel), rfl, rfl⟩
theorem c3_8 : Dc prog_57_method_8_code 8 .ishl 1 9 := ⟨(by decide +kernel), rfl⟩
theorem c3_9 : Dc prog_57_method_8_code 9 (.newarray .int) 2 11 := ⟨(by decide +kernel), rfl⟩
theorem c3_11 : Dc prog_57_method_8_code 11 (.putfield 17) 3 14 := ⟨(by decide +kernel), rfl⟩
theorem c3_14 : Dal prog_57_method_8_code 14 0 15 := Or.inr ⟨0, (by decide +kernel), rfl, rfl⟩
theorem c3_15 : Dc prog_57_method_8_code 15 (.getfield 17) 3 18 := ⟨(by decide +kernel), rfl⟩
theorem c3_18 : Dp prog_57_method_8_code 18 (-1) 19 := Or.inl ⟨(-1), (by decide +kernel), by decide, rfl⟩
theorem c3_19 : Dc prog_57_method_8_code 19 (.invokestatic 38) 3 22 := ⟨(by decide +kernel), rfl⟩
theorem c3_22 : Dal prog_57_method_8_code 22 0 23 := Or.inr ⟨0, (by decide +kernel), rfl, rfl⟩
theorem c3_23 : Dp prog_57_method_8_code 23 1 24 := Or.inl ⟨1, (by decide +kernel), by decide, rfl⟩
theorem c3_24 : Dil prog_57_method_8_code 24 1 25 := Or.inr ⟨1, (by decide +kernel), rfl, rfl⟩
theorem c3_25 : Dc prog_57_method_8_code 25 .ishl 1 26 := ⟨(by decide +kernel), rfl⟩
theorem c3_26 : Dc prog_57_method_8_code 26 (.newarray .int) 2 28 := ⟨(by decide +kernel), rfl⟩
theorem c3_28 : Dc prog_57_method_8_code 28 (.putfield 21) 3 31 := ⟨(by decide +kernel), rfl⟩
theorem c3_31 : Dc prog_57_method_8_code 31 .return_ 1 32 := ⟨(by decide +kernel), rfl⟩
theorem c1_0 : Dal prog_57_method_1_code 0 0 1 := Or.inr ⟨0, (by decide +kernel), rfl, rfl⟩
theorem c1_1 : Dc prog_57_method_1_code 1 (.invokespecial 1) 3 4 := ⟨(by decide +kernel), rfl⟩
theorem c1_4 : Dal prog_57_method_1_code 4 0 5 := Or.inr ⟨0, (by decide +kernel), rfl, rfl⟩
theorem c1_5 : Dp prog_57_method_1_code 5 1 6 := Or.inl ⟨1, (by decide +kernel), by decide, rfl⟩
theorem c1_6 : Dc prog_57_method_1_code 6 (.invokevirtual 7) 3 9 := ⟨(by decide +kernel), rfl⟩
theorem c1_9 : Dc prog_57_method_1_code 9 .return_ 1 10 := ⟨(by decide +kernel), rfl⟩
theorem c11_0 : Dal prog_57_method_7_code 0 0 1 := Or.inr ⟨0, (by decide +kernel), rfl, rfl⟩
theorem c11_1 : Dc prog_57_method_7_code 1 (.getfield 17) 3 4 := ⟨(by decide +kernel), rfl⟩
theorem c11_4 : Das prog_57_method_7_code 4 1 5 := Or.inr ⟨1, (by decide +kernel), rfl, rfl⟩
theorem c11_5 : Dal prog_57_method_7_code 5 0 6 := Or.inr ⟨0, (by decide +kernel), rfl, rfl⟩
theorem c11_6 : Dc prog_57_method_7_code 6 (.getfield 21) 3 9 := ⟨(by decide +kernel), rfl⟩
theorem c11_9 : Das prog_57_method_7_code 9 2 10 := Or.inr ⟨2, (by decide +kernel), rfl, rfl⟩
theorem c11_10 : Dal prog_57_method_7_code 10 0 11 := Or.inr ⟨0, (by decide +kernel), rfl, rfl⟩
theorem c11_11 : Dal prog_57_method_7_code 11 0 12 := Or.inr ⟨0, (by decide +kernel), rfl, rfl⟩
theorem c11_12 : Dc prog_57_method_7_code 12 (.getfield 35) 3 15 := ⟨(by decide +kernel), rfl⟩
theorem c11_15 : Dp prog_57_method_7_code 15 1 16 := Or.inl ⟨1, (by decide +kernel), by decide, rfl⟩
theorem c11_16 : Dc prog_57_method_7_code 16 .iadd 1 17 := ⟨(by decide +kernel), rfl⟩
theorem c11_17 : Dc prog_57_method_7_code 17 (.invokevirtual 7) 3 20 := ⟨(by decide +kernel), rfl⟩
theorem c11_20 : Dp prog_57_method_7_code 20 0 21 := Or.inl ⟨0, (by decide +kernel), by decide, rfl⟩
theorem c11_21 : Dis prog_57_method_7_code 21 3 22 := Or.inr ⟨3, (by decide +kernel), rfl, rfl⟩
theorem c11_22 : Dil prog_57_method_7_code 22 3 23 := Or.inr ⟨3, (by decide +kernel), rfl, rfl⟩
theorem c11_23 : Dal prog_57_method_7_code 23 1 24 := Or.inr ⟨1, (by decide +kernel), rfl, rfl⟩
theorem c11_24 : Dc prog_57_method_7_code 24 .arraylength 1 25 := ⟨(by decide +kernel), rfl⟩
theorem c11_25 : Db prog_57_method_7_code 25 (.if_icmp .ge) 28 70 := ⟨45, (by decide +kernel), rfl, by decide, by decide⟩
theorem c11_28 : Dal prog_57_method_7_code 28 1 29 := Or.inr ⟨1, (by decide +kernel), rfl, rfl⟩
theorem c11_29 : Dil prog_57_method_7_code 29 3 30 := Or.inr ⟨3, (by decide +kernel), rfl, rfl⟩
theorem c11_30 : Dc prog_57_method_7_code 30 .iaload 1 31 := ⟨(by decide +kernel), rfl⟩
theorem c11_31 : Dp prog_57_method_7_code 31 (-1) 32 := Or.inl ⟨(-1), (by decide +kernel), by decide, rfl⟩
theorem c11_32 : Db prog_57_method_7_code 32 (.if_icmp .eq) 35 64 := ⟨32, (by decide +kernel), rfl, by decide, by decide⟩
theorem c11_35 : Dal prog_57_method_7_code 35 0 36 := Or.inr ⟨0, (by decide +kernel), rfl, rfl⟩
theorem c11_36 : Dal prog_57_method_7_code 36 1 37 := Or.inr ⟨1, (by decide +kernel), rfl, rfl⟩
theorem c11_37 : Dil prog_57_method_7_code 37 3 38 := Or.inr ⟨3, (by decide +kernel), rfl, rfl⟩
theorem c11_38 : Dc prog_57_method_7_code 38 .iaload 1 39 := ⟨(by decide +kernel), rfl⟩
theorem c11_39 : Dc prog_57_method_7_code 39 (.invokevirtual 13) 3 42 := ⟨(by decide +kernel), rfl⟩
theorem c11_42 : Dis prog_57_method_7_code 42 4 44 := Or.inl ⟨(by decide +kernel), rfl⟩
theorem c11_44 : Dal prog_57_method_7_code 44 0 45 := Or.inr ⟨0, (by decide +kernel), rfl, rfl⟩
theorem c11_45 : Dc prog_57_method_7_code 45 (.getfield 17) 3 48 := ⟨(by decide +kernel), rfl⟩
theorem c11_48 : Dil prog_57_method_7_code 48 4 50 := Or.inl ⟨(by decide +kernel), rfl⟩
theorem c11_50 : Dal prog_57_method_7_code 50 1 51 := Or.inr ⟨1, (by decide +kernel), rfl, rfl⟩
theorem c11_51 : Dil prog_57_method_7_code 51 3 52 := Or.inr ⟨3, (by decide +kernel), rfl, rfl⟩
theorem c11_52 : Dc prog_57_method_7_code 52 .iaload 1 53 := ⟨(by decide +kernel), rfl⟩
theorem c11_53 : Dc prog_57_method_7_code 53 .iastore 1 54 := ⟨(by decide +kernel), rfl⟩
theorem c11_54 : Dal prog_57_method_7_code 54 0 55 := Or.inr ⟨0, (by decide +kernel), rfl, rfl⟩
theorem c11_55 : Dc prog_57_method_7_code 55 (.getfield 21) 3 58 := ⟨(by decide +kernel), rfl⟩
theorem c11_58 : Dil prog_57_method_7_code 58 4 60 := Or.inl ⟨(by decide +kernel), rfl⟩
theorem c11_60 : Dal prog_57_method_7_code 60 2 61 := Or.inr ⟨2, (by decide +kernel), rfl, rfl⟩
theorem c11_61 : Dil prog_57_method_7_code 61 3 62 := Or.inr ⟨3, (by decide +kernel), rfl, rfl⟩
theorem c11_62 : Dc prog_57_method_7_code 62 .iaload 1 63 := ⟨(by decide +kernel), rfl⟩
theorem c11_63 : Dc prog_57_method_7_code 63 .iastore 1 64 := ⟨(by decide +kernel), rfl⟩
theorem c11_64 : Dinc prog_57_method_7_code 64 3 1 67 := ⟨1, (by decide +kernel), by decide, rfl⟩
theorem c11_67 : Db prog_57_method_7_code 67 .goto 70 22 := ⟨(-45), (by decide +kernel), rfl, by decide, by decide⟩
theorem c11_70 : Dc prog_57_method_7_code 70 .return_ 1 71 := ⟨(by decide +kernel), rfl⟩
theorem c5_0 : Dal prog_57_method_3_code 0 0 1 := Or.inr ⟨0, (by decide +kernel), rfl, rfl⟩
theorem c5_1 : Dil prog_57_method_3_code 1 1 2 := Or.inr ⟨1, (by decide +kernel), rfl, rfl⟩
theorem c5_2 : Dc prog_57_method_3_code 2 (.invokevirtual 13) 3 5 := ⟨(by decide +kernel), rfl⟩
theorem c5_5 : Dis prog_57_method_3_code 5 3 6 := Or.inr ⟨3, (by decide +kernel), rfl, rfl⟩
theorem c5_6 : Dal prog_57_method_3_code 6 0 7 := Or.inr ⟨0, (by decide +kernel), rfl, rfl⟩
theorem c5_7 : Dc prog_57_method_3_code 7 (.getfield 17) 3 10 := ⟨(by decide +kernel), rfl⟩
theorem c5_10 : Dil prog_57_method_3_code 10 3 11 := Or.inr ⟨3, (by decide +kernel), rfl, rfl⟩
theorem c5_11 : Dc prog_57_method_3_code 11 .iaload 1 12 := ⟨(by decide +kernel), rfl⟩
theorem c5_12 : Dp prog_57_method_3_code 12 (-1) 13 := Or.inl ⟨(-1), (by decide +kernel), by decide, rfl⟩
theorem c5_13 : Db prog_57_method_3_code 13 (.if_icmp .ne) 16 59 := ⟨46, (by decide +kernel), rfl, by decide, by decide⟩
theorem c5_16 : Dal prog_57_method_3_code 16 0 17 := Or.inr ⟨0, (by decide +kernel), rfl, rfl⟩
theorem c5_17 : Dc prog_57_method_3_code 17 (.getfield 24) 3 20 := ⟨(by decide +kernel), rfl⟩
theorem c5_20 : Dp prog_57_method_3_code 20 1 21 := Or.inl ⟨1, (by decide +kernel), by decide, rfl⟩
theorem c5_21 : Dc prog_57_method_3_code 21 .iadd 1 22 := ⟨(by decide +kernel), rfl⟩
theorem c5_22 : Dp prog_57_method_3_code 22 2 23 := Or.inl ⟨2, (by decide +kernel), by decide, rfl⟩
theorem c5_23 : Dc prog_57_method_3_code 23 .imul 1 24 := ⟨(by decide +kernel), rfl⟩
theorem c5_24 : Dal prog_57_method_3_code 24 0 25 := Or.inr ⟨0, (by decide +kernel), rfl, rfl⟩
theorem c5_25 : Dc prog_57_method_3_code 25 (.getfield 17) 3 28 := ⟨(by decide +kernel), rfl⟩
theorem c5_28 : Dc prog_57_method_3_code 28 .arraylength 1 29 := ⟨(by decide +kernel), rfl⟩
theorem c5_29 : Db prog_57_method_3_code 29 (.if_icmp .le) 32 42 := ⟨13, (by decide +kernel), rfl, by decide, by decide⟩
theorem c5_32 : Dal prog_57_method_3_code 32 0 33 := Or.inr ⟨0, (by decide +kernel), rfl, rfl⟩
theorem c5_33 : Dc prog_57_method_3_code 33 (.invokevirtual 28) 3 36 := ⟨(by decide +kernel), rfl⟩
theorem c5_36 : Dal prog_57_method_3_code 36 0 37 := Or.inr ⟨0, (by decide +kernel), rfl, rfl⟩
theorem c5_37 : Dil prog_57_method_3_code 37 1 38 := Or.inr ⟨1, (by decide +kernel), rfl, rfl⟩
theorem c5_38 : Dc prog_57_method_3_code 38 (.invokevirtual 13) 3 41 := ⟨(by decide +kernel), rfl⟩
theorem c5_41 : Dis prog_57_method_3_code 41 3 42 := Or.inr ⟨3, (by decide +kernel), rfl, rfl⟩
theorem c5_42 : Dal prog_57_method_3_code 42 0 43 := Or.inr ⟨0, (by decide +kernel), rfl, rfl⟩
theorem c5_43 : Dc prog_57_method_3_code 43 (.getfield 17) 3 46 := ⟨(by decide +kernel), rfl⟩
theorem c5_46 : Dil prog_57_method_3_code 46 3 47 := Or.inr ⟨3, (by decide +kernel), rfl, rfl⟩
theorem c5_47 : Dil prog_57_method_3_code 47 1 48 := Or.inr ⟨1, (by decide +kernel), rfl, rfl⟩
theorem c5_48 : Dc prog_57_method_3_code 48 .iastore 1 49 := ⟨(by decide +kernel), rfl⟩
theorem c5_49 : Dal prog_57_method_3_code 49 0 50 := Or.inr ⟨0, (by decide +kernel), rfl, rfl⟩
theorem c5_50 : Dc prog_57_method_3_code 50 .dup 1 51 := ⟨(by decide +kernel), rfl⟩
theorem c5_51 : Dc prog_57_method_3_code 51 (.getfield 24) 3 54 := ⟨(by decide +kernel), rfl⟩
theorem c5_54 : Dp prog_57_method_3_code 54 1 55 := Or.inl ⟨1, (by decide +kernel), by decide, rfl⟩
theorem c5_55 : Dc prog_57_method_3_code 55 .iadd 1 56 := ⟨(by decide +kernel), rfl⟩
theorem c5_56 : Dc prog_57_method_3_code 56 (.putfield 24) 3 59 := ⟨(by decide +kernel), rfl⟩
theorem c5_59 : Dal prog_57_method_3_code 59 0 60 := Or.inr ⟨0, (by decide +kernel), rfl, rfl⟩
theorem c5_60 : Dc prog_57_method_3_code 60 (.getfield 21) 3 63 := ⟨(by decide +kernel), rfl⟩
theorem c5_63 : Dil prog_57_method_3_code 63 3 64 := Or.inr ⟨3, (by decide +kernel), rfl, rfl⟩
theorem c5_64 : Dil prog_57_method_3_code 64 2 65 := Or.inr ⟨2, (by decide +kernel), rfl, rfl⟩
theorem c5_65 : Dc prog_57_method_3_code 65 .iastore 1 66 := ⟨(by decide +kernel), rfl⟩
theorem c5_66 : Dc prog_57_method_3_code 66 .return_ 1 67 := ⟨(by decide +kernel), rfl⟩
theorem c8_0 : Dal prog_57_method_4_code 0 0 1 := Or.inr ⟨0, (by decide +kernel), rfl, rfl⟩
theorem c8_1 : Dil prog_57_method_4_code 1 1 2 := Or.inr ⟨1, (by decide +kernel), rfl, rfl⟩
theorem c8_2 : Dc prog_57_method_4_code 2 (.invokevirtual 13) 3 5 := ⟨(by decide +kernel), rfl⟩
theorem c8_5 : Dis prog_57_method_4_code 5 2 6 := Or.inr ⟨2, (by decide +kernel), rfl, rfl⟩
theorem c8_6 : Dal prog_57_method_4_code 6 0 7 := Or.inr ⟨0, (by decide +kernel), rfl, rfl⟩
theorem c8_7 : Dc prog_57_method_4_code 7 (.getfield 17) 3 10 := ⟨(by decide +kernel), rfl⟩
theorem c8_10 : Dil prog_57_method_4_code 10 2 11 := Or.inr ⟨2, (by decide +kernel), rfl, rfl⟩
theorem c8_11 : Dc prog_57_method_4_code 11 .iaload 1 12 := ⟨(by decide +kernel), rfl⟩
theorem c8_12 : Dp prog_57_method_4_code 12 (-1) 13 := Or.inl ⟨(-1), (by decide +kernel), by decide, rfl⟩
theorem c8_13 : Db prog_57_method_4_code 13 (.if_icmp .ne) 16 17 := ⟨4, (by decide +kernel), rfl, by decide, by decide⟩
theorem c8_16 : Dc prog_57_method_4_code 16 .return_ 1 17 := ⟨(by decide +kernel), rfl⟩
theorem c8_17 : Dal prog_57_method_4_code 17 0 18 := Or.inr ⟨0, (by decide +kernel), rfl, rfl⟩
theorem c8_18 : Dc prog_57_method_4_code 18 .dup 1 19 := ⟨(by decide +kernel), rfl⟩
theorem c8_19 : Dc prog_57_method_4_code 19 (.getfield 24) 3 22 := ⟨(by decide +kernel), rfl⟩
theorem c8_22 : Dp prog_57_method_4_code 22 1 23 := Or.inl ⟨1, (by decide +kernel), by decide, rfl⟩
theorem c8_23 : Dc prog_57_method_4_code 23 .isub 1 24 := ⟨(by decide +kernel), rfl⟩
theorem c8_24 : Dc prog_57_method_4_code 24 (.putfield 24) 3 27 := ⟨(by decide +kernel), rfl⟩
theorem c8_27 : Dal prog_57_method_4_code 27 0 28 := Or.inr ⟨0, (by decide +kernel), rfl, rfl⟩
theorem c8_28 : Dc prog_57_method_4_code 28 (.getfield 17) 3 31 := ⟨(by decide +kernel), rfl⟩
theorem c8_31 : Dc prog_57_method_4_code 31 .arraylength 1 32 := ⟨(by decide +kernel), rfl⟩
theorem c8_32 : Dp prog_57_method_4_code 32 1 33 := Or.inl ⟨1, (by decide +kernel), by decide, rfl⟩
theorem c8_33 : Dc prog_57_method_4_code 33 .isub 1 34 := ⟨(by decide +kernel), rfl⟩
theorem c8_34 : Dis prog_57_method_4_code 34 3 35 := Or.inr ⟨3, (by decide +kernel), rfl, rfl⟩
theorem c8_35 : Dil prog_57_method_4_code 35 2 36 := Or.inr ⟨2, (by decide +kernel), rfl, rfl⟩
theorem c8_36 : Dp prog_57_method_4_code 36 1 37 := Or.inl ⟨1, (by decide +kernel), by decide, rfl⟩
theorem c8_37 : Dc prog_57_method_4_code 37 .iadd 1 38 := ⟨(by decide +kernel), rfl⟩
theorem c8_38 : Dil prog_57_method_4_code 38 3 39 := Or.inr ⟨3, (by decide +kernel), rfl, rfl⟩
theorem c8_39 : Dc prog_57_method_4_code 39 .iand 1 40 := ⟨(by decide +kernel), rfl⟩
theorem c8_40 : Dis prog_57_method_4_code 40 4 42 := Or.inl ⟨(by decide +kernel), rfl⟩
theorem c8_42 : Dal prog_57_method_4_code 42 0 43 := Or.inr ⟨0, (by decide +kernel), rfl, rfl⟩
theorem c8_43 : Dc prog_57_method_4_code 43 (.getfield 17) 3 46 := ⟨(by decide +kernel), rfl⟩
theorem c8_46 : Dil prog_57_method_4_code 46 4 48 := Or.inl ⟨(by decide +kernel), rfl⟩
theorem c8_48 : Dc prog_57_method_4_code 48 .iaload 1 49 := ⟨(by decide +kernel), rfl⟩
theorem c8_49 : Dp prog_57_method_4_code 49 (-1) 50 := Or.inl ⟨(-1), (by decide +kernel), by decide, rfl⟩
theorem c8_50 : Db prog_57_method_4_code 50 (.if_icmp .eq) 53 122 := ⟨72, (by decide +kernel), rfl, by decide, by decide⟩
theorem c8_53 : Dal prog_57_method_4_code 53 0 54 := Or.inr ⟨0, (by decide +kernel), rfl, rfl⟩
theorem c8_54 : Dal prog_57_method_4_code 54 0 55 := Or.inr ⟨0, (by decide +kernel), rfl, rfl⟩
theorem c8_55 : Dc prog_57_method_4_code 55 (.getfield 17) 3 58 := ⟨(by decide +kernel), rfl⟩
theorem c8_58 : Dil prog_57_method_4_code 58 4 60 := Or.inl ⟨(by decide +kernel), rfl⟩
theorem c8_60 : Dc prog_57_method_4_code 60 .iaload 1 61 := ⟨(by decide +kernel), rfl⟩
theorem c8_61 : Dc prog_57_method_4_code 61 (.invokevirtual 31) 3 64 := ⟨(by decide +kernel), rfl⟩
theorem c8_64 : Dis prog_57_method_4_code 64 5 66 := Or.inl ⟨(by decide +kernel), rfl⟩
theorem c8_66 : Dil prog_57_method_4_code 66 4 68 := Or.inl ⟨(by decide +kernel), rfl⟩
theorem c8_68 : Dil prog_57_method_4_code 68 5 70 := Or.inl ⟨(by decide +kernel), rfl⟩
theorem c8_70 : Dc prog_57_method_4_code 70 .isub 1 71 := ⟨(by decide +kernel), rfl⟩
theorem c8_71 : Dil prog_57_method_4_code 71 3 72 := Or.inr ⟨3, (by decide +kernel), rfl, rfl⟩
theorem c8_72 : Dc prog_57_method_4_code 72 .iand 1 73 := ⟨(by decide +kernel), rfl⟩
theorem c8_73 : Dil prog_57_method_4_code 73 4 75 := Or.inl ⟨(by decide +kernel), rfl⟩
theorem c8_75 : Dil prog_57_method_4_code 75 2 76 := Or.inr ⟨2, (by decide +kernel), rfl, rfl⟩
theorem c8_76 : Dc prog_57_method_4_code 76 .isub 1 77 := ⟨(by decide +kernel), rfl⟩
theorem c8_77 : Dil prog_57_method_4_code 77 3 78 := Or.inr ⟨3, (by decide +kernel), rfl, rfl⟩
theorem c8_78 : Dc prog_57_method_4_code 78 .iand 1 79 := ⟨(by decide +kernel), rfl⟩
theorem c8_79 : Db prog_57_method_4_code 79 (.if_icmp .lt) 82 111 := ⟨32, (by decide +kernel), rfl, by decide, by decide⟩
theorem c8_82 : Dal prog_57_method_4_code 82 0 83 := Or.inr ⟨0, (by decide +kernel), rfl, rfl⟩
theorem c8_83 : Dc prog_57_method_4_code 83 (.getfield 17) 3 86 := ⟨(by decide +kernel), rfl⟩
theorem c8_86 : Dil prog_57_method_4_code 86 2 87 := Or.inr ⟨2, (by decide +kernel), rfl, rfl⟩
theorem c8_87 : Dal prog_57_method_4_code 87 0 88 := Or.inr ⟨0, (by decide +kernel), rfl, rfl⟩
theorem c8_88 : Dc prog_57_method_4_code 88 (.getfield 17) 3 91 := ⟨(by decide +kernel), rfl⟩
theorem c8_91 : Dil prog_57_method_4_code 91 4 93 := Or.inl ⟨(by decide +kernel), rfl⟩
theorem c8_93 : Dc prog_57_method_4_code 93 .iaload 1 94 := ⟨(by decide +kernel), rfl⟩
theorem c8_94 : Dc prog_57_method_4_code 94 .iastore 1 95 := ⟨(by decide +kernel), rfl⟩
theorem c8_95 : Dal prog_57_method_4_code 95 0 96 := Or.inr ⟨0, (by decide +kernel), rfl, rfl⟩
theorem c8_96 : Dc prog_57_method_4_code 96 (.getfield 21) 3 99 := ⟨(by decide +kernel), rfl⟩
theorem c8_99 : Dil prog_57_method_4_code 99 2 100 := Or.inr ⟨2, (by decide +kernel), rfl, rfl⟩
theorem c8_100 : Dal prog_57_method_4_code 100 0 101 := Or.inr ⟨0, (by decide +kernel), rfl, rfl⟩
theorem c8_101 : Dc prog_57_method_4_code 101 (.getfield 21) 3 104 := ⟨(by decide +kernel), rfl⟩
theorem c8_104 : Dil prog_57_method_4_code 104 4 106 := Or.inl ⟨(by decide +kernel), rfl⟩
theorem c8_106 : Dc prog_57_method_4_code 106 .iaload 1 107 := ⟨(by decide +kernel), rfl⟩
theorem c8_107 : Dc prog_57_method_4_code 107 .iastore 1 108 := ⟨(by decide +kernel), rfl⟩
theorem c8_108 : Dil prog_57_method_4_code 108 4 110 := Or.inl ⟨(by decide +kernel), rfl⟩
theorem c8_110 : Dis prog_57_method_4_code 110 2 111 := Or.inr ⟨2, (by decide +kernel), rfl, rfl⟩
theorem c8_111 : Dil prog_57_method_4_code 111 4 113 := Or.inl ⟨(by decide +kernel), rfl⟩
theorem c8_113 : Dp prog_57_method_4_code 113 1 114 := Or.inl ⟨1, (by decide +kernel), by decide, rfl⟩
theorem c8_114 : Dc prog_57_method_4_code 114 .iadd 1 115 := ⟨(by decide +kernel), rfl⟩
theorem c8_115 : Dil prog_57_method_4_code 115 3 116 := Or.inr ⟨3, (by decide +kernel), rfl, rfl⟩
theorem c8_116 : Dc prog_57_method_4_code 116 .iand 1 117 := ⟨(by decide +kernel), rfl⟩
theorem c8_117 : Dis prog_57_method_4_code 117 4 119 := Or.inl ⟨(by decide +kernel), rfl⟩
theorem c8_119 : Db prog_57_method_4_code 119 .goto 122 42 := ⟨(-77), (by decide +kernel), rfl, by decide, by decide⟩
theorem c8_122 : Dal prog_57_method_4_code 122 0 123 := Or.inr ⟨0, (by decide +kernel), rfl, rfl⟩
theorem c8_123 : Dc prog_57_method_4_code 123 (.getfield 17) 3 126 := ⟨(by decide +kernel), rfl⟩
theorem c8_126 : Dil prog_57_method_4_code 126 2 127 := Or.inr ⟨2, (by decide +kernel), rfl, rfl⟩
theorem c8_127 : Dp prog_57_method_4_code 127 (-1) 128 := Or.inl ⟨(-1), (by decide +kernel), by decide, rfl⟩
theorem c8_128 : Dc prog_57_method_4_code 128 .iastore 1 129 := ⟨(by decide +kernel), rfl⟩
theorem c8_129 : Dc prog_57_method_4_code 129 .return_ 1 130 := ⟨(by decide +kernel), rfl⟩
theorem c10_0 : Dil method_3_code 0 0 1 := Or.inr ⟨0, (by decide +kernel), rfl, rfl⟩
theorem c10_1 : Dil method_3_code 1 1 2 := Or.inr ⟨1, (by decide +kernel), rfl, rfl⟩
theorem c10_2 : Db method_3_code 2 (.if_icmp .ne) 5 7 := ⟨5, (by decide +kernel), rfl, by decide, by decide⟩
theorem c10_5 : Dp method_3_code 5 (-1) 6 := Or.inl ⟨(-1), (by decide +kernel), by decide, rfl⟩
theorem c10_6 : Dc method_3_code 6 .ireturn 1 7 := ⟨(by decide +kernel), rfl⟩
theorem c10_7 : Dp method_3_code 7 (-1) 8 := Or.inl ⟨(-1), (by decide +kernel), by decide, rfl⟩
theorem c10_8 : Dis method_3_code 8 5 10 := Or.inl ⟨(by decide +kernel), rfl⟩
theorem c10_10 : Dal method_3_code 10 3 11 := Or.inr ⟨3, (by decide +kernel), rfl, rfl⟩
theorem c10_11 : Dp method_3_code 11 0 12 := Or.inl ⟨0, (by decide +kernel), by decide, rfl⟩
theorem c10_12 : Dc method_3_code 12 .iaload 1 13 := ⟨(by decide +kernel), rfl⟩
theorem c10_13 : Dil method_3_code 13 0 14 := Or.inr ⟨0, (by decide +kernel), rfl, rfl⟩
theorem c10_14 : Db method_3_code 14 (.if_icmp .ne) 17 23 := ⟨9, (by decide +kernel), rfl, by decide, by decide⟩
theorem c10_17 : Dal method_3_code 17 4 19 := Or.inl ⟨(by decide +kernel), rfl⟩
theorem c10_19 : Dp method_3_code 19 0 20 := Or.inl ⟨0, (by decide +kernel), by decide, rfl⟩
theorem c10_20 : Dc method_3_code 20 .iaload 1 21 := ⟨(by decide +kernel), rfl⟩
theorem c10_21 : Dis method_3_code 21 5 23 := Or.inl ⟨(by decide +kernel), rfl⟩
theorem c10_23 : Dil method_3_code 23 2 24 := Or.inr ⟨2, (by decide +kernel), rfl, rfl⟩
theorem c10_24 : Dp method_3_code 24 1 25 := Or.inl ⟨1, (by decide +kernel), by decide, rfl⟩
theorem c10_25 : Db method_3_code 25 (.if_icmp .le) 28 41 := ⟨16, (by decide +kernel), rfl, by decide, by decide⟩
theorem c10_28 : Dal method_3_code 28 3 29 := Or.inr ⟨3, (by decide +kernel), rfl, rfl⟩
theorem c10_29 : Dp method_3_code 29 1 30 := Or.inl ⟨1, (by decide +kernel), by decide, rfl⟩
theorem c10_30 : Dc method_3_code 30 .iaload 1 31 := ⟨(by decide +kernel), rfl⟩
theorem c10_31 : Dil method_3_code 31 0 32 := Or.inr ⟨0, (by decide +kernel), rfl, rfl⟩
theorem c10_32 : Db method_3_code 32 (.if_icmp .ne) 35 41 := ⟨9, (by decide +kernel), rfl, by decide, by decide⟩
theorem c10_35 : Dal method_3_code 35 4 37 := Or.inl ⟨(by decide +kernel), rfl⟩
theorem c10_37 : Dp method_3_code 37 1 38 := Or.inl ⟨1, (by decide +kernel), by decide, rfl⟩
theorem c10_38 : Dc method_3_code 38 .iaload 1 39 := ⟨(by decide +kernel), rfl⟩
theorem c10_39 : Dis method_3_code 39 5 41 := Or.inl ⟨(by decide +kernel), rfl⟩
theorem c10_41 : Dil method_3_code 41 2 42 := Or.inr ⟨2, (by decide +kernel), rfl, rfl⟩
theorem c10_42 : Dp method_3_code 42 2 43 := Or.inl ⟨2, (by decide +kernel), by decide, rfl⟩
theorem c10_43 : Db method_3_code 43 (.if_icmp .le) 46 59 := ⟨16, (by decide +kernel), rfl, by decide, by decide⟩
theorem c10_46 : Dal method_3_code 46 3 47 := Or.inr ⟨3, (by decide +kernel), rfl, rfl⟩
theorem c10_47 : Dp method_3_code 47 2 48 := Or.inl ⟨2, (by decide +kernel), by decide, rfl⟩
theorem c10_48 : Dc method_3_code 48 .iaload 1 49 := ⟨(by decide +kernel), rfl⟩
theorem c10_49 : Dil method_3_code 49 0 50 := Or.inr ⟨0, (by decide +kernel), rfl, rfl⟩
theorem c10_50 : Db method_3_code 50 (.if_icmp .ne) 53 59 := ⟨9, (by decide +kernel), rfl, by decide, by decide⟩
theorem c10_53 : Dal method_3_code 53 4 55 := Or.inl ⟨(by decide +kernel), rfl⟩
theorem c10_55 : Dp method_3_code 55 2 56 := Or.inl ⟨2, (by decide +kernel), by decide, rfl⟩
theorem c10_56 : Dc method_3_code 56 .iaload 1 57 := ⟨(by decide +kernel), rfl⟩
theorem c10_57 : Dis method_3_code 57 5 59 := Or.inl ⟨(by decide +kernel), rfl⟩
theorem c10_59 : Dil method_3_code 59 2 60 := Or.inr ⟨2, (by decide +kernel), rfl, rfl⟩
theorem c10_60 : Dp method_3_code 60 3 61 := Or.inl ⟨3, (by decide +kernel), by decide, rfl⟩
theorem c10_61 : Db method_3_code 61 (.if_icmp .le) 64 77 := ⟨16, (by decide +kernel), rfl, by decide, by decide⟩
theorem c10_64 : Dal method_3_code 64 3 65 := Or.inr ⟨3, (by decide +kernel), rfl, rfl⟩
theorem c10_65 : Dp method_3_code 65 3 66 := Or.inl ⟨3, (by decide +kernel), by decide, rfl⟩
theorem c10_66 : Dc method_3_code 66 .iaload 1 67 := ⟨(by decide +kernel), rfl⟩
theorem c10_67 : Dil method_3_code 67 0 68 := Or.inr ⟨0, (by decide +kernel), rfl, rfl⟩
theorem c10_68 : Db method_3_code 68 (.if_icmp .ne) 71 77 := ⟨9, (by decide +kernel), rfl, by decide, by decide⟩
theorem c10_71 : Dal method_3_code 71 4 73 := Or.inl ⟨(by decide +kernel), rfl⟩
theorem c10_73 : Dp method_3_code 73 3 74 := Or.inl ⟨3, (by decide +kernel), by decide, rfl⟩
theorem c10_74 : Dc method_3_code 74 .iaload 1 75 := ⟨(by decide +kernel), rfl⟩
theorem c10_75 : Dis method_3_code 75 5 77 := Or.inl ⟨(by decide +kernel), rfl⟩
theorem c10_77 : Dil method_3_code 77 5 79 := Or.inl ⟨(by decide +kernel), rfl⟩
theorem c10_79 : Dc method_3_code 79 .ireturn 1 80 := ⟨(by decide +kernel), rfl⟩
theorem c0_0 : Dp code 0 4 1 := Or.inl ⟨4, at_0, by decide, rfl⟩
theorem c0_1 : Dc code 1 (.newarray .int) 2 3 := ⟨at_1, rfl⟩
theorem c0_3 : Das code 3 7 5 := Or.inl ⟨at_3, rfl⟩
theorem c0_5 : Dal code 5 7 7 := Or.inl ⟨at_5, rfl⟩
theorem c0_7 : Dp code 7 0 8 := Or.inl ⟨0, at_7, by decide, rfl⟩
theorem c0_8 : Dil code 8 0 9 := Or.inr ⟨0, at_8, rfl, rfl⟩
theorem c0_9 : Dc code 9 (.ldc 7) 2 11 := ⟨at_9, rfl⟩
theorem c0_11 : Dc code 11 .iand 1 12 := ⟨at_11, rfl⟩
theorem c0_12 : Dc code 12 .iastore 1 13 := ⟨at_12, rfl⟩
theorem c0_13 : Dal code 13 7 15 := Or.inl ⟨at_13, rfl⟩
theorem c0_15 : Dp code 15 1 16 := Or.inl ⟨1, at_15, by decide, rfl⟩
theorem c0_16 : Dil code 16 1 17 := Or.inr ⟨1, at_16, rfl, rfl⟩
theorem c0_17 : Dc code 17 (.ldc 7) 2 19 := ⟨at_17, rfl⟩
theorem c0_19 : Dc code 19 .iand 1 20 := ⟨at_19, rfl⟩
theorem c0_20 : Dc code 20 .iastore 1 21 := ⟨at_20, rfl⟩
theorem c0_21 : Dal code 21 7 23 := Or.inl ⟨at_21, rfl⟩
theorem c0_23 : Dp code 23 2 24 := Or.inl ⟨2, at_23, by decide, rfl⟩
theorem c0_24 : Dil code 24 2 25 := Or.inr ⟨2, at_24, rfl, rfl⟩
theorem c0_25 : Dc code 25 (.ldc 7) 2 27 := ⟨at_25, rfl⟩
theorem c0_27 : Dc code 27 .iand 1 28 := ⟨at_27, rfl⟩
theorem c0_28 : Dc code 28 .iastore 1 29 := ⟨at_28, rfl⟩
theorem c0_29 : Dal code 29 7 31 := Or.inl ⟨at_29, rfl⟩
theorem c0_31 : Dp code 31 3 32 := Or.inl ⟨3, at_31, by decide, rfl⟩
theorem c0_32 : Dil code 32 3 33 := Or.inr ⟨3, at_32, rfl, rfl⟩
theorem c0_33 : Dc code 33 (.ldc 7) 2 35 := ⟨at_33, rfl⟩
theorem c0_35 : Dc code 35 .iand 1 36 := ⟨at_35, rfl⟩
theorem c0_36 : Dc code 36 .iastore 1 37 := ⟨at_36, rfl⟩
theorem c0_37 : Dp code 37 4 38 := Or.inl ⟨4, at_37, by decide, rfl⟩
theorem c0_38 : Dc code 38 (.newarray .int) 2 40 := ⟨at_38, rfl⟩
theorem c0_40 : Das code 40 8 42 := Or.inl ⟨at_40, rfl⟩
theorem c0_42 : Dal code 42 8 44 := Or.inl ⟨at_42, rfl⟩
theorem c0_44 : Dp code 44 0 45 := Or.inl ⟨0, at_44, by decide, rfl⟩
theorem c0_45 : Dll code 45 5 47 := Or.inl ⟨at_45, rfl⟩
theorem c0_47 : Dc code 47 (.ldc2_w 8) 3 50 := ⟨at_47, rfl⟩
theorem c0_50 : Dc code 50 .land 1 51 := ⟨at_50, rfl⟩
theorem c0_51 : Dc code 51 .l2i 1 52 := ⟨at_51, rfl⟩
theorem c0_52 : Dc code 52 .iastore 1 53 := ⟨at_52, rfl⟩
theorem c0_53 : Dal code 53 8 55 := Or.inl ⟨at_53, rfl⟩
theorem c0_55 : Dp code 55 1 56 := Or.inl ⟨1, at_55, by decide, rfl⟩
theorem c0_56 : Dll code 56 5 58 := Or.inl ⟨at_56, rfl⟩
theorem c0_58 : Dp code 58 8 60 := Or.inr (Or.inl ⟨8, at_58, by decide, rfl⟩)
theorem c0_60 : Dc code 60 .lushr 1 61 := ⟨at_60, rfl⟩
theorem c0_61 : Dc code 61 (.ldc2_w 8) 3 64 := ⟨at_61, rfl⟩
theorem c0_64 : Dc code 64 .land 1 65 := ⟨at_64, rfl⟩
theorem c0_65 : Dc code 65 .l2i 1 66 := ⟨at_65, rfl⟩
theorem c0_66 : Dc code 66 .iastore 1 67 := ⟨at_66, rfl⟩
theorem c0_67 : Dal code 67 8 69 := Or.inl ⟨at_67, rfl⟩
theorem c0_69 : Dp code 69 2 70 := Or.inl ⟨2, at_69, by decide, rfl⟩
theorem c0_70 : Dll code 70 5 72 := Or.inl ⟨at_70, rfl⟩
theorem c0_72 : Dp code 72 16 74 := Or.inr (Or.inl ⟨16, at_72, by decide, rfl⟩)
theorem c0_74 : Dc code 74 .lushr 1 75 := ⟨at_74, rfl⟩
theorem c0_75 : Dc code 75 (.ldc2_w 8) 3 78 := ⟨at_75, rfl⟩
theorem c0_78 : Dc code 78 .land 1 79 := ⟨at_78, rfl⟩
theorem c0_79 : Dc code 79 .l2i 1 80 := ⟨at_79, rfl⟩
theorem c0_80 : Dc code 80 .iastore 1 81 := ⟨at_80, rfl⟩
theorem c0_81 : Dal code 81 8 83 := Or.inl ⟨at_81, rfl⟩
theorem c0_83 : Dp code 83 3 84 := Or.inl ⟨3, at_83, by decide, rfl⟩
theorem c0_84 : Dll code 84 5 86 := Or.inl ⟨at_84, rfl⟩
theorem c0_86 : Dp code 86 24 88 := Or.inr (Or.inl ⟨24, at_86, by decide, rfl⟩)
theorem c0_88 : Dc code 88 .lushr 1 89 := ⟨at_88, rfl⟩
theorem c0_89 : Dc code 89 (.ldc2_w 8) 3 92 := ⟨at_89, rfl⟩
theorem c0_92 : Dc code 92 .land 1 93 := ⟨at_92, rfl⟩
theorem c0_93 : Dc code 93 .l2i 1 94 := ⟨at_93, rfl⟩
theorem c0_94 : Dc code 94 .iastore 1 95 := ⟨at_94, rfl⟩
theorem c0_95 : Dp code 95 1 96 := Or.inl ⟨1, at_95, by decide, rfl⟩
theorem c0_96 : Dil code 96 4 98 := Or.inl ⟨at_96, rfl⟩
theorem c0_98 : Dp code 98 3 99 := Or.inl ⟨3, at_98, by decide, rfl⟩
theorem c0_99 : Dc code 99 .iushr 1 100 := ⟨at_99, rfl⟩
theorem c0_100 : Dp code 100 3 101 := Or.inl ⟨3, at_100, by decide, rfl⟩
theorem c0_101 : Dc code 101 .iand 1 102 := ⟨at_101, rfl⟩
theorem c0_102 : Dc code 102 .iadd 1 103 := ⟨at_102, rfl⟩
theorem c0_103 : Dis code 103 9 105 := Or.inl ⟨at_103, rfl⟩
theorem c0_105 : Dil code 105 4 107 := Or.inl ⟨at_105, rfl⟩
theorem c0_107 : Dp code 107 7 109 := Or.inr (Or.inl ⟨7, at_107, by decide, rfl⟩)
theorem c0_109 : Dc code 109 .iand 1 110 := ⟨at_109, rfl⟩
theorem c0_110 : Dis code 110 10 112 := Or.inl ⟨at_110, rfl⟩
theorem c0_112 : Dil code 112 10 114 := Or.inl ⟨at_112, rfl⟩
theorem c0_114 : Dp code 114 4 115 := Or.inl ⟨4, at_114, by decide, rfl⟩
theorem c0_115 : Db code 115 (.if_icmp .ge) 118 126 := ⟨11, at_115, rfl, by decide, by decide⟩
theorem c0_118 : Dal code 118 7 120 := Or.inl ⟨at_118, rfl⟩
theorem c0_120 : Dil code 120 10 122 := Or.inl ⟨at_120, rfl⟩
theorem c0_122 : Dc code 122 .iaload 1 123 := ⟨at_122, rfl⟩
theorem c0_123 : Db code 123 .goto 126 135 := ⟨12, at_123, rfl, by decide, by decide⟩
theorem c0_126 : Dll code 126 5 128 := Or.inl ⟨at_126, rfl⟩
theorem c0_128 : Dp code 128 32 130 := Or.inr (Or.inl ⟨32, at_128, by decide, rfl⟩)
theorem c0_130 : Dc code 130 .lushr 1 131 := ⟨at_130, rfl⟩
theorem c0_131 : Dc code 131 .l2i 1 132 := ⟨at_131, rfl⟩
theorem c0_132 : Dc code 132 (.ldc 7) 2 134 := ⟨at_132, rfl⟩
theorem c0_134 : Dc code 134 .iand 1 135 := ⟨at_134, rfl⟩
theorem c0_135 : Dis code 135 11 137 := Or.inl ⟨at_135, rfl⟩
theorem c0_137 : Dc code 137 (.new 10) 3 140 := ⟨at_137, rfl⟩
theorem c0_140 : Dc code 140 .dup 1 141 := ⟨at_140, rfl⟩
theorem c0_141 : Dc code 141 (.invokespecial 12) 3 144 := ⟨at_141, rfl⟩
theorem c0_144 : Das code 144 12 146 := Or.inl ⟨at_144, rfl⟩
theorem c0_146 : Dal code 146 12 148 := Or.inl ⟨at_146, rfl⟩
theorem c0_148 : Dal code 148 7 150 := Or.inl ⟨at_148, rfl⟩
theorem c0_150 : Dp code 150 0 151 := Or.inl ⟨0, at_150, by decide, rfl⟩
theorem c0_151 : Dc code 151 .iaload 1 152 := ⟨at_151, rfl⟩
theorem c0_152 : Dal code 152 8 154 := Or.inl ⟨at_152, rfl⟩
theorem c0_154 : Dp code 154 0 155 := Or.inl ⟨0, at_154, by decide, rfl⟩
theorem c0_155 : Dc code 155 .iaload 1 156 := ⟨at_155, rfl⟩
theorem c0_156 : Dc code 156 (.invokevirtual 13) 3 159 := ⟨at_156, rfl⟩
theorem c0_159 : Dil code 159 9 161 := Or.inl ⟨at_159, rfl⟩
theorem c0_161 : Dp code 161 1 162 := Or.inl ⟨1, at_161, by decide, rfl⟩
theorem c0_162 : Db code 162 (.if_icmp .le) 165 178 := ⟨16, at_162, rfl, by decide, by decide⟩
theorem c0_165 : Dal code 165 12 167 := Or.inl ⟨at_165, rfl⟩
theorem c0_167 : Dal code 167 7 169 := Or.inl ⟨at_167, rfl⟩
theorem c0_169 : Dp code 169 1 170 := Or.inl ⟨1, at_169, by decide, rfl⟩
theorem c0_170 : Dc code 170 .iaload 1 171 := ⟨at_170, rfl⟩
theorem c0_171 : Dal code 171 8 173 := Or.inl ⟨at_171, rfl⟩
theorem c0_173 : Dp code 173 1 174 := Or.inl ⟨1, at_173, by decide, rfl⟩
theorem c0_174 : Dc code 174 .iaload 1 175 := ⟨at_174, rfl⟩
theorem c0_175 : Dc code 175 (.invokevirtual 13) 3 178 := ⟨at_175, rfl⟩
theorem c0_178 : Dil code 178 9 180 := Or.inl ⟨at_178, rfl⟩
theorem c0_180 : Dp code 180 2 181 := Or.inl ⟨2, at_180, by decide, rfl⟩
theorem c0_181 : Db code 181 (.if_icmp .le) 184 197 := ⟨16, at_181, rfl, by decide, by decide⟩
theorem c0_184 : Dal code 184 12 186 := Or.inl ⟨at_184, rfl⟩
theorem c0_186 : Dal code 186 7 188 := Or.inl ⟨at_186, rfl⟩
theorem c0_188 : Dp code 188 2 189 := Or.inl ⟨2, at_188, by decide, rfl⟩
theorem c0_189 : Dc code 189 .iaload 1 190 := ⟨at_189, rfl⟩
theorem c0_190 : Dal code 190 8 192 := Or.inl ⟨at_190, rfl⟩
theorem c0_192 : Dp code 192 2 193 := Or.inl ⟨2, at_192, by decide, rfl⟩
theorem c0_193 : Dc code 193 .iaload 1 194 := ⟨at_193, rfl⟩
theorem c0_194 : Dc code 194 (.invokevirtual 13) 3 197 := ⟨at_194, rfl⟩
theorem c0_197 : Dil code 197 9 199 := Or.inl ⟨at_197, rfl⟩
theorem c0_199 : Dp code 199 3 200 := Or.inl ⟨3, at_199, by decide, rfl⟩
theorem c0_200 : Db code 200 (.if_icmp .le) 203 216 := ⟨16, at_200, rfl, by decide, by decide⟩
theorem c0_203 : Dal code 203 12 205 := Or.inl ⟨at_203, rfl⟩
theorem c0_205 : Dal code 205 7 207 := Or.inl ⟨at_205, rfl⟩
theorem c0_207 : Dp code 207 3 208 := Or.inl ⟨3, at_207, by decide, rfl⟩
theorem c0_208 : Dc code 208 .iaload 1 209 := ⟨at_208, rfl⟩
theorem c0_209 : Dal code 209 8 211 := Or.inl ⟨at_209, rfl⟩
theorem c0_211 : Dp code 211 3 212 := Or.inl ⟨3, at_211, by decide, rfl⟩
theorem c0_212 : Dc code 212 .iaload 1 213 := ⟨at_212, rfl⟩
theorem c0_213 : Dc code 213 (.invokevirtual 13) 3 216 := ⟨at_213, rfl⟩
theorem c0_216 : Dal code 216 12 218 := Or.inl ⟨at_216, rfl⟩
theorem c0_218 : Dil code 218 11 220 := Or.inl ⟨at_218, rfl⟩
theorem c0_220 : Dc code 220 (.invokevirtual 17) 3 223 := ⟨at_220, rfl⟩
theorem c0_223 : Dal code 223 12 225 := Or.inl ⟨at_223, rfl⟩
theorem c0_225 : Dal code 225 7 227 := Or.inl ⟨at_225, rfl⟩
theorem c0_227 : Dp code 227 0 228 := Or.inl ⟨0, at_227, by decide, rfl⟩
theorem c0_228 : Dc code 228 .iaload 1 229 := ⟨at_228, rfl⟩
theorem c0_229 : Dc code 229 (.invokevirtual 21) 3 232 := ⟨at_229, rfl⟩
theorem c0_232 : Dal code 232 7 234 := Or.inl ⟨at_232, rfl⟩
theorem c0_234 : Dp code 234 0 235 := Or.inl ⟨0, at_234, by decide, rfl⟩
theorem c0_235 : Dc code 235 .iaload 1 236 := ⟨at_235, rfl⟩
theorem c0_236 : Dil code 236 11 238 := Or.inl ⟨at_236, rfl⟩
theorem c0_238 : Dil code 238 9 240 := Or.inl ⟨at_238, rfl⟩
theorem c0_240 : Dal code 240 7 242 := Or.inl ⟨at_240, rfl⟩
theorem c0_242 : Dal code 242 8 244 := Or.inl ⟨at_242, rfl⟩
theorem c0_244 : Dc code 244 (.invokestatic 25) 3 247 := ⟨at_244, rfl⟩
theorem c0_247 : Db code 247 (.if_icmp .ne) 250 254 := ⟨7, at_247, rfl, by decide, by decide⟩
theorem c0_250 : Dp code 250 1 251 := Or.inl ⟨1, at_250, by decide, rfl⟩
theorem c0_251 : Db code 251 .goto 254 255 := ⟨4, at_251, rfl, by decide, by decide⟩
theorem c0_254 : Dp code 254 0 255 := Or.inl ⟨0, at_254, by decide, rfl⟩
theorem c0_255 : Dis code 255 13 257 := Or.inl ⟨at_255, rfl⟩
theorem c0_257 : Dil code 257 13 259 := Or.inl ⟨at_257, rfl⟩
theorem c0_259 : Db code 259 (.ifCond .eq) 262 293 := ⟨34, at_259, rfl, by decide, by decide⟩
theorem c0_262 : Dal code 262 12 264 := Or.inl ⟨at_262, rfl⟩
theorem c0_264 : Dal code 264 7 266 := Or.inl ⟨at_264, rfl⟩
theorem c0_266 : Dp code 266 1 267 := Or.inl ⟨1, at_266, by decide, rfl⟩
theorem c0_267 : Dc code 267 .iaload 1 268 := ⟨at_267, rfl⟩
theorem c0_268 : Dc code 268 (.invokevirtual 21) 3 271 := ⟨at_268, rfl⟩
theorem c0_271 : Dal code 271 7 273 := Or.inl ⟨at_271, rfl⟩
theorem c0_273 : Dp code 273 1 274 := Or.inl ⟨1, at_273, by decide, rfl⟩
theorem c0_274 : Dc code 274 .iaload 1 275 := ⟨at_274, rfl⟩
theorem c0_275 : Dil code 275 11 277 := Or.inl ⟨at_275, rfl⟩
theorem c0_277 : Dil code 277 9 279 := Or.inl ⟨at_277, rfl⟩
theorem c0_279 : Dal code 279 7 281 := Or.inl ⟨at_279, rfl⟩
theorem c0_281 : Dal code 281 8 283 := Or.inl ⟨at_281, rfl⟩
theorem c0_283 : Dc code 283 (.invokestatic 25) 3 286 := ⟨at_283, rfl⟩
theorem c0_286 : Db code 286 (.if_icmp .ne) 289 293 := ⟨7, at_286, rfl, by decide, by decide⟩
theorem c0_289 : Dp code 289 1 290 := Or.inl ⟨1, at_289, by decide, rfl⟩
theorem c0_290 : Db code 290 .goto 293 294 := ⟨4, at_290, rfl, by decide, by decide⟩
theorem c0_293 : Dp code 293 0 294 := Or.inl ⟨0, at_293, by decide, rfl⟩
theorem c0_294 : Dis code 294 13 296 := Or.inl ⟨at_294, rfl⟩
theorem c0_296 : Dil code 296 13 298 := Or.inl ⟨at_296, rfl⟩
theorem c0_298 : Db code 298 (.ifCond .eq) 301 332 := ⟨34, at_298, rfl, by decide, by decide⟩
theorem c0_301 : Dal code 301 12 303 := Or.inl ⟨at_301, rfl⟩
theorem c0_303 : Dal code 303 7 305 := Or.inl ⟨at_303, rfl⟩
theorem c0_305 : Dp code 305 2 306 := Or.inl ⟨2, at_305, by decide, rfl⟩
theorem c0_306 : Dc code 306 .iaload 1 307 := ⟨at_306, rfl⟩
theorem c0_307 : Dc code 307 (.invokevirtual 21) 3 310 := ⟨at_307, rfl⟩
theorem c0_310 : Dal code 310 7 312 := Or.inl ⟨at_310, rfl⟩
theorem c0_312 : Dp code 312 2 313 := Or.inl ⟨2, at_312, by decide, rfl⟩
theorem c0_313 : Dc code 313 .iaload 1 314 := ⟨at_313, rfl⟩
theorem c0_314 : Dil code 314 11 316 := Or.inl ⟨at_314, rfl⟩
theorem c0_316 : Dil code 316 9 318 := Or.inl ⟨at_316, rfl⟩
theorem c0_318 : Dal code 318 7 320 := Or.inl ⟨at_318, rfl⟩
theorem c0_320 : Dal code 320 8 322 := Or.inl ⟨at_320, rfl⟩
theorem c0_322 : Dc code 322 (.invokestatic 25) 3 325 := ⟨at_322, rfl⟩
theorem c0_325 : Db code 325 (.if_icmp .ne) 328 332 := ⟨7, at_325, rfl, by decide, by decide⟩
theorem c0_328 : Dp code 328 1 329 := Or.inl ⟨1, at_328, by decide, rfl⟩
theorem c0_329 : Db code 329 .goto 332 333 := ⟨4, at_329, rfl, by decide, by decide⟩
theorem c0_332 : Dp code 332 0 333 := Or.inl ⟨0, at_332, by decide, rfl⟩
theorem c0_333 : Dis code 333 13 335 := Or.inl ⟨at_333, rfl⟩
theorem c0_335 : Dil code 335 13 337 := Or.inl ⟨at_335, rfl⟩
theorem c0_337 : Db code 337 (.ifCond .eq) 340 371 := ⟨34, at_337, rfl, by decide, by decide⟩
theorem c0_340 : Dal code 340 12 342 := Or.inl ⟨at_340, rfl⟩
theorem c0_342 : Dal code 342 7 344 := Or.inl ⟨at_342, rfl⟩
theorem c0_344 : Dp code 344 3 345 := Or.inl ⟨3, at_344, by decide, rfl⟩
theorem c0_345 : Dc code 345 .iaload 1 346 := ⟨at_345, rfl⟩
theorem c0_346 : Dc code 346 (.invokevirtual 21) 3 349 := ⟨at_346, rfl⟩
theorem c0_349 : Dal code 349 7 351 := Or.inl ⟨at_349, rfl⟩
theorem c0_351 : Dp code 351 3 352 := Or.inl ⟨3, at_351, by decide, rfl⟩
theorem c0_352 : Dc code 352 .iaload 1 353 := ⟨at_352, rfl⟩
theorem c0_353 : Dil code 353 11 355 := Or.inl ⟨at_353, rfl⟩
theorem c0_355 : Dil code 355 9 357 := Or.inl ⟨at_355, rfl⟩
theorem c0_357 : Dal code 357 7 359 := Or.inl ⟨at_357, rfl⟩
theorem c0_359 : Dal code 359 8 361 := Or.inl ⟨at_359, rfl⟩
theorem c0_361 : Dc code 361 (.invokestatic 25) 3 364 := ⟨at_361, rfl⟩
theorem c0_364 : Db code 364 (.if_icmp .ne) 367 371 := ⟨7, at_364, rfl, by decide, by decide⟩
theorem c0_367 : Dp code 367 1 368 := Or.inl ⟨1, at_367, by decide, rfl⟩
theorem c0_368 : Db code 368 .goto 371 372 := ⟨4, at_368, rfl, by decide, by decide⟩
theorem c0_371 : Dp code 371 0 372 := Or.inl ⟨0, at_371, by decide, rfl⟩
theorem c0_372 : Dis code 372 13 374 := Or.inl ⟨at_372, rfl⟩
theorem c0_374 : Dil code 374 13 376 := Or.inl ⟨at_374, rfl⟩
theorem c0_376 : Db code 376 (.ifCond .eq) 379 394 := ⟨18, at_376, rfl, by decide, by decide⟩
theorem c0_379 : Dal code 379 12 381 := Or.inl ⟨at_379, rfl⟩
theorem c0_381 : Dil code 381 11 383 := Or.inl ⟨at_381, rfl⟩
theorem c0_383 : Dc code 383 (.invokevirtual 21) 3 386 := ⟨at_383, rfl⟩
theorem c0_386 : Dp code 386 (-1) 387 := Or.inl ⟨(-1), at_386, by decide, rfl⟩
theorem c0_387 : Db code 387 (.if_icmp .ne) 390 394 := ⟨7, at_387, rfl, by decide, by decide⟩
theorem c0_390 : Dp code 390 1 391 := Or.inl ⟨1, at_390, by decide, rfl⟩
theorem c0_391 : Db code 391 .goto 394 395 := ⟨4, at_391, rfl, by decide, by decide⟩
theorem c0_394 : Dp code 394 0 395 := Or.inl ⟨0, at_394, by decide, rfl⟩
theorem c0_395 : Dis code 395 13 397 := Or.inl ⟨at_395, rfl⟩
theorem c0_397 : Dil code 397 13 399 := Or.inl ⟨at_397, rfl⟩
theorem c0_399 : Dc code 399 .ireturn 1 400 := ⟨at_399, rfl⟩

/-! ## the table, as lists -/
def own_g (l : List Int32) (i : Nat) : Int32 := l.getD i 0
def own_hash (b : Nat) (key : Int32) : Int32 := XT.ushr (key * (-1640531527)) (32 - Int32.ofNat b)
def own_home (b : Nat) (key : Int32) : Nat := (own_hash b key).toNatClampNeg
def own_d (N a j : Nat) : Nat := (j + N - a) % N
theorem own_hash_val (b : Nat) (hb : 1 ≤ b ∧ b ≤ 3) (key : Int32) : own_home b key < 2 ^ b ∧ own_hash b key = Int32.ofNat (own_home b key) := by
  have h : (own_hash b key).toBitVec.toNat < 2 ^ b := by
    unfold own_hash XT.ushr
    show ((key * (-1640531527)).toUInt32 >>> ((32 - Int32.ofNat b) &&& 31).toUInt32).toNat < 2 ^ b
    rw [UInt32.toNat_shiftRight, Nat.shiftRight_eq_div_pow]
    have hlt := (key * (-1640531527)).toUInt32.toNat_lt
    obtain rfl | rfl | rfl : b = 1 ∨ b = 2 ∨ b = 3 := by omega
    · rw [show (((32 - Int32.ofNat 1) &&& 31).toUInt32).toNat % 32 = 31 by decide]; omega
    · rw [show (((32 - Int32.ofNat 2) &&& 31).toUInt32).toNat % 32 = 30 by decide]; omega
    · rw [show (((32 - Int32.ofNat 3) &&& 31).toUInt32).toNat % 32 = 29 by decide]; omega
  have h8 : 2 ^ b ≤ 8 := by obtain rfl | rfl | rfl : b = 1 ∨ b = 2 ∨ b = 3 := by omega
                            all_goals decide
  have e : (own_hash b key).toInt = (own_hash b key).toBitVec.toNat := by
    show (own_hash b key).toBitVec.toInt = _
    rw [BitVec.toInt_eq_toNat_cond, if_pos (by omega)]
  have hh : own_home b key = (own_hash b key).toBitVec.toNat := by
    unfold own_home; show (own_hash b key).toInt.toNat = _; rw [e]; rfl
  refine ⟨by rw [hh]; exact h, ?_⟩
  apply Int32.toInt_inj.mp
  rw [e, hh, Int32.toInt_ofNat_of_lt (by omega)]
/-- slot j is where a probe for key stops -/
def own_Slot (b : Nat) (ks : List Int32) (key : Int32) (j : Nat) : Prop :=
  j < 2 ^ b ∧ (∀ t, t < own_d (2 ^ b) (own_home b key) j → own_g ks ((own_home b key + t) % 2 ^ b) ≠ -1 ∧ own_g ks ((own_home b key + t) % 2 ^ b) ≠ key) ∧ (own_g ks j = -1 ∨ own_g ks j = key)
def own_cnt (ks : List Int32) : Nat := ks.countP (fun k => k != -1)
/-- the table holds the map F, n entries -/
def own_Rep (b : Nat) (ks vs : List Int32) (n : Nat) (F : Int32 → Int32) : Prop :=
  (1 ≤ b ∧ b ≤ 3) ∧ ks.length = 2 ^ b ∧ vs.length = 2 ^ b ∧ own_cnt ks = n ∧ 2 * n ≤ 2 ^ b ∧
  (∀ i, i < 2 ^ b → own_g ks i ≠ -1 → ∀ t, t ≤ own_d (2 ^ b) (own_home b (own_g ks i)) i → own_g ks ((own_home b (own_g ks i) + t) % 2 ^ b) ≠ -1) ∧
  (∀ i j, i < 2 ^ b → j < 2 ^ b → own_g ks i ≠ -1 → own_g ks i = own_g ks j → i = j) ∧
  (∀ i, i < 2 ^ b → own_g ks i ≠ -1 → F (own_g ks i) = own_g vs i) ∧
  (∀ key, key ≠ -1 → (∀ i, i < 2 ^ b → own_g ks i ≠ key) → F key = -1)
theorem own_g_set (l : List Int32) (i j : Nat) (x : Int32) (hi : i < l.length) : own_g (l.set i x) j = if j = i then x else own_g l j := by
  unfold own_g
  rw [List.getD_eq_getElem?_getD, List.getD_eq_getElem?_getD, List.getElem?_set]
  by_cases h : i = j
  · subst h; simp [hi]
  · rw [if_neg h, if_neg (fun u => h u.symm)]
theorem own_free_of (ks : List Int32) (h : own_cnt ks < ks.length) : ∃ f, f < ks.length ∧ own_g ks f = -1 := by
  induction ks with
  | nil => simp at h
  | cons k r ih =>
    by_cases hk : k = -1
    · exact ⟨0, by simp, by simp [own_g, hk]⟩
    · have : own_cnt (k :: r) = own_cnt r + 1 := by unfold own_cnt; rw [List.countP_cons_of_pos]; simpa using hk
      obtain ⟨f, h1, h2⟩ := ih (by rw [this, List.length_cons] at h; omega)
      exact ⟨f + 1, by simp; omega, by simpa [own_g] using h2⟩
theorem own_cnt_set (ks : List Int32) : ∀ (i : Nat) (x : Int32), i < ks.length → own_cnt (ks.set i x) + (if own_g ks i = -1 then 0 else 1) = own_cnt ks + (if x = -1 then 0 else 1) := by
  induction ks with
  | nil => intro i x h; simp at h
  | cons k r ih =>
    intro i x h
    cases i with
    | zero =>
      have e : own_g (k :: r) 0 = k := rfl
      rw [e, List.set_cons_zero]
      unfold own_cnt
      rw [List.countP_cons, List.countP_cons]
      by_cases h1 : k = -1 <;> by_cases h2 : x = -1 <;> simp [h1, h2]
    | succ i =>
      have e : own_g (k :: r) (i + 1) = own_g r i := by simp [own_g]
      have := ih i x (by simpa using h)
      rw [e, List.set_cons_succ]
      unfold own_cnt at *
      rw [List.countP_cons, List.countP_cons]
      omega
theorem own_pow3 (b : Nat) (hb : 1 ≤ b ∧ b ≤ 3) : (2 ^ b = 2 ∨ 2 ^ b = 4 ∨ 2 ^ b = 8) := by
  obtain rfl | rfl | rfl : b = 1 ∨ b = 2 ∨ b = 3 := by omega
  all_goals decide
theorem own_d_lt (N a j : Nat) (h : 0 < N) : own_d N a j < N := Nat.mod_lt _ h
theorem own_d_at (N a j : Nat) (hN : N = 2 ∨ N = 4 ∨ N = 8) (ha : a < N) (hj : j < N) : (a + own_d N a j) % N = j := by
  unfold own_d; rcases hN with rfl | rfl | rfl <;> omega
theorem own_d_of (N a t : Nat) (hN : N = 2 ∨ N = 4 ∨ N = 8) (ha : a < N) (ht : t < N) : own_d N a ((a + t) % N) = t := by
  unfold own_d; rcases hN with rfl | rfl | rfl <;> omega
/-- a free stop means the key isn't there -/
theorem own_absent {b : Nat} {ks vs : List Int32} {n : Nat} {F : Int32 → Int32} (Rp : own_Rep b ks vs n F) {key : Int32} (hk : key ≠ -1) {j : Nat} (S : own_Slot b ks key j) (hj : own_g ks j = -1) : ∀ i, i < 2 ^ b → own_g ks i ≠ key := by
  obtain ⟨hb, h1, h2, h3, h4, h5, h6, h7, h8⟩ := Rp
  intro i hi e
  have hN := own_pow3 b hb
  have hh := (own_hash_val b hb key).1
  have r := h5 i hi (by rw [e]; exact hk)
  rw [e] at r
  have di := own_d_at (2 ^ b) _ i hN hh hi
  have dj := own_d_at (2 ^ b) _ j hN hh S.1
  by_cases hlt : own_d (2 ^ b) (own_home b key) i < own_d (2 ^ b) (own_home b key) j
  · have := (S.2.1 _ hlt).2
    rw [di] at this
    exact this e
  · have := r (own_d (2 ^ b) (own_home b key) j) (by omega)
    rw [dj] at this
    exact this hj
theorem own_get {b : Nat} {ks vs : List Int32} {n : Nat} {F : Int32 → Int32} (Rp : own_Rep b ks vs n F) {key : Int32} (hk : key ≠ -1) {j : Nat} (S : own_Slot b ks key j) : (if own_g ks j = -1 then -1 else own_g vs j) = F key := by
  by_cases hj : own_g ks j = -1
  · rw [if_pos hj]
    exact (Rp.2.2.2.2.2.2.2.2 key hk (own_absent Rp hk S hj)).symm
  · rw [if_neg hj]
    rcases S.2.2 with h | h
    · exact absurd h hj
    · rw [← h, Rp.2.2.2.2.2.2.2.1 j S.1 hj]
def own_up (F : Int32 → Int32) (key v : Int32) : Int32 → Int32 := fun k => if k = key then v else F k
theorem own_put_old {b : Nat} {ks vs : List Int32} {n : Nat} {F : Int32 → Int32} (Rp : own_Rep b ks vs n F) {key v : Int32} (hk : key ≠ -1) {j : Nat} (S : own_Slot b ks key j) (hj : ¬ own_g ks j = -1) : own_Rep b ks (vs.set j v) n (own_up F key v) := by
  have hkey : own_g ks j = key := S.2.2.resolve_left hj
  obtain ⟨hb, h1, h2, h3, h4, h5, h6, h7, h8⟩ := Rp
  refine ⟨hb, h1, by simpa using h2, h3, h4, h5, h6, fun i hi hn => ?_, fun k hk' hn => ?_⟩
  · rw [own_g_set vs j i v (by rw [h2]; exact S.1)]
    unfold own_up
    by_cases e : own_g ks i = key
    · rw [if_pos e, if_pos (h6 i j hi S.1 hn (e.trans hkey.symm))]
    · rw [if_neg e, if_neg (fun u => e (by rw [u]; exact hkey)), h7 i hi hn]
  · unfold own_up
    rw [if_neg (fun u => hn j S.1 (by rw [hkey, u]))]
    exact h8 k hk' hn
theorem own_put_new {b : Nat} {ks vs : List Int32} {n : Nat} {F : Int32 → Int32} (Rp : own_Rep b ks vs n F) {key v : Int32} (hk : key ≠ -1) {j : Nat} (S : own_Slot b ks key j) (hj : own_g ks j = -1) (hn2 : 2 * (n + 1) ≤ 2 ^ b) : own_Rep b (ks.set j key) (vs.set j v) (n + 1) (own_up F key v) := by
  have hab := own_absent Rp hk S hj
  obtain ⟨hb, h1, h2, h3, h4, h5, h6, h7, h8⟩ := Rp
  have hN := own_pow3 b hb
  have hh := (own_hash_val b hb key).1
  have gk : ∀ i, own_g (ks.set j key) i = if i = j then key else own_g ks i := fun i => own_g_set ks j i key (by rw [h1]; exact S.1)
  have gv : ∀ i, own_g (vs.set j v) i = if i = j then v else own_g vs i := fun i => own_g_set vs j i v (by rw [h2]; exact S.1)
  refine ⟨hb, by simpa using h1, by simpa using h2, ?_, hn2, fun i hi hne t ht => ?_, fun i i' hi hi' hne e => ?_, fun i hi hne => ?_, fun k hk' hne => ?_⟩
  · have := own_cnt_set ks j key (by rw [h1]; exact S.1)
    rw [if_pos hj, if_neg hk, h3] at this
    omega
  · rw [gk i] at hne ht ⊢
    rw [gk]
    by_cases hij : i = j
    · rw [if_pos hij] at ht ⊢
      subst hij
      by_cases e : (own_home b key + t) % 2 ^ b = i
      · rw [if_pos e]; exact hk
      · rw [if_neg e]
        refine (S.2.1 t ?_).1
        have : t ≠ own_d (2 ^ b) (own_home b key) i := fun u => e (by rw [u]; exact own_d_at _ _ _ hN hh hi)
        omega
    · rw [if_neg hij] at hne ht ⊢
      by_cases e : (own_home b (own_g ks i) + t) % 2 ^ b = j
      · rw [if_pos e]; exact hk
      · rw [if_neg e]; exact h5 i hi hne t ht
  · rw [gk i, gk i'] at e
    rw [gk i] at hne
    by_cases a1 : i = j <;> by_cases a2 : i' = j
    · omega
    · rw [if_pos a1, if_neg a2] at e; exact absurd e.symm (hab i' hi')
    · rw [if_neg a1, if_pos a2] at e; exact absurd e (hab i hi)
    · rw [if_neg a1, if_neg a2] at e; rw [if_neg a1] at hne; exact h6 i i' hi hi' hne e
  · rw [gk i] at hne ⊢
    rw [gv i]
    unfold own_up
    by_cases hij : i = j
    · simp [hij]
    · rw [if_neg hij] at hne ⊢
      rw [if_neg hij, if_neg (hab i hi), h7 i hi hne]
  · unfold own_up
    have hkj := hne j S.1
    rw [gk j, if_pos rfl] at hkj
    rw [if_neg (fun u => hkj u.symm)]
    refine h8 k hk' fun i hi u => ?_
    by_cases hij : i = j
    · subst hij; rw [hj] at u; exact hk' u.symm
    · have := hne i hi; rw [gk i, if_neg hij] at this; exact this u
theorem own_g_rep (n i : Nat) (x : Int32) (h : i < n) : own_g (List.replicate n x) i = x := by
  unfold own_g; rw [List.getD_eq_getElem?_getD, List.getElem?_replicate, if_pos h]; rfl
theorem own_empty (b : Nat) (hb : 1 ≤ b ∧ b ≤ 3) : own_Rep b (List.replicate (2 ^ b) (-1)) (List.replicate (2 ^ b) 0) 0 (fun _ => -1) := by
  refine ⟨hb, by simp, by simp, by simp [own_cnt, List.countP_replicate], Nat.zero_le _, fun i hi hne => ?_, fun i j hi hj hne => ?_, fun i hi hne => ?_, fun _ _ _ => rfl⟩ <;> exact absurd (own_g_rep _ _ _ hi) hne
theorem own_congr {b : Nat} {ks vs : List Int32} {n : Nat} {F F' : Int32 → Int32} (Rp : own_Rep b ks vs n F) (h : ∀ k, k ≠ -1 → F k = F' k) : own_Rep b ks vs n F' := by
  obtain ⟨hb, h1, h2, h3, h4, h5, h6, h7, h8⟩ := Rp
  exact ⟨hb, h1, h2, h3, h4, h5, h6, fun i hi hne => by rw [← h _ hne]; exact h7 i hi hne, fun k hk hne => by rw [← h _ hk]; exact h8 k hk hne⟩
/-! ## the rehash -/
def own_part (F : Int32 → Int32) (ks : List Int32) (s : Nat) : Int32 → Int32 := fun k => if k ∈ ks.take s then F k else -1
theorem own_mem_take (ks : List Int32) (s : Nat) (hs : s ≤ ks.length) (k : Int32) : k ∈ ks.take s ↔ ∃ i, i < s ∧ own_g ks i = k := by
  rw [List.mem_iff_getElem?]
  constructor
  · rintro ⟨i, hi⟩
    rw [List.getElem?_take] at hi
    split at hi
    · rename_i h
      exact ⟨i, h, by unfold own_g; rw [List.getD_eq_getElem?_getD, hi]; rfl⟩
    · cases hi
  · rintro ⟨i, hi, e⟩
    refine ⟨i, ?_⟩
    rw [List.getElem?_take, if_pos hi]
    unfold own_g at e
    rw [List.getD_eq_getElem?_getD, List.getElem?_eq_getElem (by omega)] at e
    rw [List.getElem?_eq_getElem (by omega)]
    simpa using e
def own_Gr (b : Nat) (ks vs : List Int32) (F : Int32 → Int32) (s : Nat) (ks' vs' : List Int32) : Prop :=
  own_Rep (b + 1) ks' vs' (own_cnt (ks.take s)) (own_part F ks s) ∧ ∀ i, i < 2 ^ (b + 1) → own_g ks' i ≠ -1 → own_g ks' i ∈ ks.take s
theorem own_gr_start (b : Nat) (hb : 1 ≤ b ∧ b ≤ 2) (ks vs : List Int32) (F : Int32 → Int32) : own_Gr b ks vs F 0 (List.replicate (2 ^ (b + 1)) (-1)) (List.replicate (2 ^ (b + 1)) 0) := by
  refine ⟨?_, fun i hi hne => absurd (own_g_rep _ _ _ hi) hne⟩
  have := own_empty (b + 1) (by omega)
  have e : own_part F ks 0 = fun _ => -1 := by funext k; simp [own_part]
  rw [e]; simpa [own_cnt] using this
theorem own_take_succ (ks : List Int32) (s : Nat) (hs : s < ks.length) : ks.take (s + 1) = ks.take s ++ [own_g ks s] := by
  rw [List.take_add_one, List.getElem?_eq_getElem hs]
  unfold own_g
  rw [List.getD_eq_getElem?_getD, List.getElem?_eq_getElem hs]; rfl
theorem own_cnt_le (ks : List Int32) (s : Nat) : own_cnt (ks.take s) ≤ own_cnt ks := by
  unfold own_cnt; exact List.Sublist.countP_le (List.take_sublist s ks)
theorem own_gr_skip {b : Nat} {ks vs : List Int32} {F : Int32 → Int32} {s : Nat} {ks' vs' : List Int32} (hs : s < ks.length) (G : own_Gr b ks vs F s ks' vs') (h : own_g ks s = -1) : own_Gr b ks vs F (s + 1) ks' vs' := by
  have e := own_take_succ ks s hs
  have c : own_cnt (ks.take (s + 1)) = own_cnt (ks.take s) := by rw [e, h]; simp [own_cnt]
  refine ⟨?_, fun i hi hne => by rw [e]; exact List.mem_append_left _ (G.2 i hi hne)⟩
  rw [c]
  refine own_congr G.1 fun k hk => ?_
  unfold own_part
  rw [e, h]
  simp [hk]
theorem own_gr_step {b : Nat} {ks vs : List Int32} {n : Nat} {F : Int32 → Int32} (Rp : own_Rep b ks vs n F) {s : Nat} {ks' vs' : List Int32} (hs : s < 2 ^ b) (G : own_Gr b ks vs F s ks' vs') (h : own_g ks s ≠ -1) {j : Nat} (S : own_Slot (b + 1) ks' (own_g ks s) j) :
    own_Gr b ks vs F (s + 1) (ks'.set j (own_g ks s)) (vs'.set j (own_g vs s)) := by
  obtain ⟨hb, h1, h2, h3, h4, h5, h6, h7, h8⟩ := Rp
  have e := own_take_succ ks s (by omega)
  have c : own_cnt (ks.take (s + 1)) = own_cnt (ks.take s) + 1 := by rw [e]; unfold own_cnt; rw [List.countP_append, List.countP_cons_of_pos (by simpa using h)]; simp
  have cle := own_cnt_le ks (s + 1)
  have p2 : 2 ^ (b + 1) = 2 * 2 ^ b := by rw [Nat.pow_succ]; omega
  have hj : own_g ks' j = -1 := by
    rcases S.2.2 with q | q
    · exact q
    · have m := G.2 j S.1 (by rw [q]; exact h)
      rw [own_mem_take ks s (by omega), q] at m
      obtain ⟨i, hi, ei⟩ := m
      have := h6 s i hs (by omega) h ei.symm
      omega
  have P := own_put_new G.1 (v := own_g vs s) h S hj (by omega)
  rw [← c] at P
  have len' := G.1.2.1
  refine ⟨own_congr P fun k hk => ?_, fun i hi hne => ?_⟩
  · unfold own_up own_part
    rw [e]
    by_cases q : k = own_g ks s
    · rw [if_pos q, if_pos (by simp [q]), q, h7 s hs h]
    · rw [if_neg q]; simp [q]
  · rw [own_g_set ks' j i _ (by rw [len']; exact S.1)] at hne ⊢
    rw [e]
    split
    · simp
    · rename_i q
      rw [if_neg q] at hne
      exact List.mem_append_left _ (G.2 i hi hne)
theorem own_gr_end {b : Nat} {ks vs : List Int32} {n : Nat} {F : Int32 → Int32} (Rp : own_Rep b ks vs n F) {ks' vs' : List Int32} (G : own_Gr b ks vs F (2 ^ b) ks' vs') : own_Rep (b + 1) ks' vs' n F := by
  obtain ⟨hb, h1, h2, h3, h4, h5, h6, h7, h8⟩ := Rp
  have t : ks.take (2 ^ b) = ks := List.take_of_length_le (by omega)
  have g1 := G.1
  rw [t, h3] at g1
  refine own_congr g1 fun k hk => ?_
  unfold own_part
  rw [t]
  split
  · rfl
  · rename_i q
    refine (h8 k hk fun i hi u => q ?_).symm
    rw [← t, own_mem_take ks (2 ^ b) (by omega)]
    exact ⟨i, hi, u⟩
/-! ## round the ring -/
theorem own_L1 (N j f : Nat) (hN : N = 2 ∨ N = 4 ∨ N = 8) (hj : j < N) (hf : f < N) (h : f ≠ j) : 1 ≤ own_d N j ((j + 1) % N) ∧ own_d N j ((j + 1) % N) + own_d N ((j + 1) % N) f = own_d N j f := by
  unfold own_d; rcases hN with rfl | rfl | rfl <;> omega
theorem own_L2 (N j i : Nat) (hN : N = 2 ∨ N = 4 ∨ N = 8) (hj : j < N) (hi : i < N) (h : 1 ≤ own_d N j i) : ¬ own_d N j i < own_d N j ((j + 1) % N) := by
  unfold own_d at *; rcases hN with rfl | rfl | rfl <;> omega
theorem own_L3 (N m t i q : Nat) (hN : N = 2 ∨ N = 4 ∨ N = 8) (hm : m < N) (hi : i < N) (ht : t ≤ own_d N m i) (e : (m + t) % N = q) : own_d N q i ≤ own_d N m i := by
  unfold own_d at *; rcases hN with rfl | rfl | rfl <;> omega
theorem own_L4 (N m t i q s : Nat) (hN : N = 2 ∨ N = 4 ∨ N = 8) (hm : m < N) (hi : i < N) (hs : s < N) (ht : t ≤ own_d N m i) (e : (m + t) % N = q) (h : ¬ own_d N q i < own_d N q s) : own_d N m s ≤ own_d N m i := by
  unfold own_d at *; rcases hN with rfl | rfl | rfl <;> omega
theorem own_L5 (N q i : Nat) (hN : N = 2 ∨ N = 4 ∨ N = 8) (hq : q < N) (hi : i < N) (h : i ≠ q) : 1 ≤ own_d N q i := by
  unfold own_d; rcases hN with rfl | rfl | rfl <;> omega
/-! ## the removal -/
def own_Rm (b : Nat) (ks vs : List Int32) (n : Nat) (F : Int32 → Int32) (rk : Int32) (hole slot f : Nat) : Prop :=
  (1 ≤ b ∧ b ≤ 3) ∧ ks.length = 2 ^ b ∧ vs.length = 2 ^ b ∧ own_cnt ks = n ∧ 2 * n ≤ 2 ^ b ∧ (hole < 2 ^ b ∧ slot < 2 ^ b ∧ f < 2 ^ b) ∧ own_g ks hole ≠ -1 ∧ own_g ks f = -1 ∧
  (1 ≤ own_d (2 ^ b) hole slot ∧ own_d (2 ^ b) hole slot + own_d (2 ^ b) slot f = own_d (2 ^ b) hole f) ∧
  (∀ i, i < 2 ^ b → i ≠ hole → own_g ks i ≠ -1 → ∀ t, t ≤ own_d (2 ^ b) (own_home b (own_g ks i)) i → own_g ks ((own_home b (own_g ks i) + t) % 2 ^ b) ≠ -1) ∧
  (∀ i, i < 2 ^ b → 1 ≤ own_d (2 ^ b) hole i → own_d (2 ^ b) hole i < own_d (2 ^ b) hole slot → own_g ks i ≠ -1 ∧ own_d (2 ^ b) (own_home b (own_g ks i)) i < own_d (2 ^ b) hole i) ∧
  (∀ i j, i < 2 ^ b → j < 2 ^ b → i ≠ hole → j ≠ hole → own_g ks i ≠ -1 → own_g ks i = own_g ks j → i = j) ∧
  (∀ i, i < 2 ^ b → i ≠ hole → own_g ks i ≠ -1 → own_g ks i ≠ rk ∧ F (own_g ks i) = own_g vs i) ∧
  (∀ key, key ≠ -1 → key ≠ rk → (∀ i, i < 2 ^ b → i ≠ hole → own_g ks i ≠ key) → F key = -1)
theorem own_rm_start {b : Nat} {ks vs : List Int32} {n : Nat} {F : Int32 → Int32} (Rp : own_Rep b ks vs n F) {j : Nat} (hj : j < 2 ^ b) (hne : own_g ks j ≠ -1) : ∃ f, own_Rm b ks vs n F (own_g ks j) j ((j + 1) % 2 ^ b) f := by
  obtain ⟨hb, h1, h2, h3, h4, h5, h6, h7, h8⟩ := Rp
  have hN := own_pow3 b hb
  obtain ⟨f, hf, hff⟩ := own_free_of ks (by rw [h3, h1]; omega)
  rw [h1] at hf
  have hfj : f ≠ j := fun u => hne (u ▸ hff)
  refine ⟨f, hb, h1, h2, h3, h4, ⟨hj, Nat.mod_lt _ (by omega), hf⟩, hne, hff, ?_, fun i hi _ => h5 i hi, fun i hi a c => ?_, fun i i' hi hi' _ _ => h6 i i' hi hi', fun i hi hij hn => ⟨fun u => hij (h6 i j hi hj hn u), h7 i hi hn⟩, fun k hk hk' hn => h8 k hk fun i hi u => ?_⟩
  · exact own_L1 _ j f hN hj hf hfj
  · exact absurd c (own_L2 _ j i hN hj hi a)
  · by_cases hij : i = j
    · exact hk' (by rw [← u, hij])
    · exact hn i hi hij u
theorem own_rm_end {b : Nat} {ks vs : List Int32} {n : Nat} {F : Int32 → Int32} {rk : Int32} {hole slot f : Nat} (I : own_Rm b ks vs n F rk hole slot f) (hs : own_g ks slot = -1) : own_Rep b (ks.set hole (-1)) vs (n - 1) (own_up F rk (-1)) := by
  obtain ⟨hb, h1, h2, h3, h4, ⟨a1, a2, a3⟩, hh, hf, ⟨d1, d2⟩, h5, hsc, h6, h7, h8⟩ := I
  have hN := own_pow3 b hb
  have gk : ∀ i, own_g (ks.set hole (-1)) i = if i = hole then -1 else own_g ks i := fun i => own_g_set ks hole i _ (by rw [h1]; exact a1)
  have cs := own_cnt_set ks hole (-1) (by rw [h1]; exact a1)
  rw [if_neg hh, if_pos rfl, h3] at cs
  refine ⟨hb, by simpa using h1, h2, by omega, by omega, fun i hi hne t ht => ?_, fun i j hi hj hne e => ?_, fun i hi hne => ?_, fun k hk hne => ?_⟩
  · rw [gk i] at hne ht ⊢
    by_cases hi' : i = hole
    · rw [if_pos hi'] at hne; exact absurd rfl hne
    · rw [if_neg hi'] at hne ht ⊢
      rw [gk]
      have hm := (own_hash_val b hb (own_g ks i)).1
      have r := h5 i hi hi' hne
      have sc := fun c => (hsc i hi (own_L5 _ hole i hN a1 hi hi') c).2
      generalize own_home b (own_g ks i) = m at hm r ht sc ⊢
      have key : (m + t) % 2 ^ b ≠ hole := by
        intro u
        have hsl : i ≠ slot := fun v => hne (v ▸ hs)
        by_cases c : own_d (2 ^ b) hole i < own_d (2 ^ b) hole slot
        · have := sc c
          have := own_L3 _ m t i hole hN hm hi ht u
          omega
        · have := r (own_d (2 ^ b) m slot) (own_L4 _ m t i hole slot hN hm hi a2 ht u c)
          rw [own_d_at _ _ _ hN hm a2] at this
          exact this hs
      rw [if_neg key]
      exact r t ht
  · rw [gk i, gk j] at e
    rw [gk i] at hne
    by_cases c1 : i = hole
    · rw [if_pos c1] at hne; exact absurd rfl hne
    · rw [if_neg c1] at hne e
      by_cases c2 : j = hole
      · rw [if_pos c2] at e; exact absurd e hne
      · rw [if_neg c2] at e; exact h6 i j hi hj c1 c2 hne e
  · rw [gk i] at hne ⊢
    by_cases c1 : i = hole
    · rw [if_pos c1] at hne; exact absurd rfl hne
    · rw [if_neg c1] at hne ⊢
      obtain ⟨x1, x2⟩ := h7 i hi c1 hne
      unfold own_up; rw [if_neg x1, x2]
  · unfold own_up
    split
    · rfl
    · rename_i q
      refine h8 k hk q fun i hi c1 u => hne i hi ?_
      rw [gk i, if_neg c1]; exact u
theorem own_L6 (N q s f : Nat) (hN : N = 2 ∨ N = 4 ∨ N = 8) (hq : q < N) (hs : s < N) (hf : f < N) (hsf : s ≠ f) (h1 : 1 ≤ own_d N q s) (h2 : own_d N q s + own_d N s f = own_d N q f) :
    own_d N q ((s + 1) % N) = own_d N q s + 1 ∧ own_d N q ((s + 1) % N) + own_d N ((s + 1) % N) f = own_d N q f ∧ own_d N s ((s + 1) % N) = 1 ∧ own_d N s ((s + 1) % N) + own_d N ((s + 1) % N) f = own_d N s f := by
  unfold own_d at *; rcases hN with rfl | rfl | rfl <;> omega
theorem own_L7 (N q s i : Nat) (hN : N = 2 ∨ N = 4 ∨ N = 8) (hq : q < N) (hs : s < N) (hi : i < N) (h : own_d N q i = own_d N q s) : i = s := by
  unfold own_d at *; rcases hN with rfl | rfl | rfl <;> omega
theorem own_L8 (N m q s t : Nat) (hN : N = 2 ∨ N = 4 ∨ N = 8) (hm : m < N) (hq : q < N) (hs : s < N) (h : ¬ own_d N m s < own_d N q s) (ht : t ≤ own_d N m q) : t ≤ own_d N m s := by
  unfold own_d at *; rcases hN with rfl | rfl | rfl <;> omega
theorem own_rm_keep {b : Nat} {ks vs : List Int32} {n : Nat} {F : Int32 → Int32} {rk : Int32} {hole slot f : Nat} (I : own_Rm b ks vs n F rk hole slot f) (hs : own_g ks slot ≠ -1) (c : own_d (2 ^ b) (own_home b (own_g ks slot)) slot < own_d (2 ^ b) hole slot) :
    own_Rm b ks vs n F rk hole ((slot + 1) % 2 ^ b) f := by
  obtain ⟨hb, h1, h2, h3, h4, ⟨a1, a2, a3⟩, hh, hf, ⟨d1, d2⟩, h5, hsc, h6, h7, h8⟩ := I
  have hN := own_pow3 b hb
  have hsf : slot ≠ f := fun u => hs (u ▸ hf)
  obtain ⟨e1, e2, e3, e4⟩ := own_L6 _ hole slot f hN a1 a2 a3 hsf d1 d2
  refine ⟨hb, h1, h2, h3, h4, ⟨a1, Nat.mod_lt _ (by omega), a3⟩, hh, hf, ⟨by omega, e2⟩, h5, fun i hi x1 x2 => ?_, h6, h7, h8⟩
  by_cases q : own_d (2 ^ b) hole i < own_d (2 ^ b) hole slot
  · exact hsc i hi x1 q
  · obtain rfl := own_L7 _ hole slot i hN a1 a2 hi (by omega)
    exact ⟨hs, c⟩
theorem own_rm_move {b : Nat} {ks vs : List Int32} {n : Nat} {F : Int32 → Int32} {rk : Int32} {hole slot f : Nat} (I : own_Rm b ks vs n F rk hole slot f) (hs : own_g ks slot ≠ -1) (c : ¬ own_d (2 ^ b) (own_home b (own_g ks slot)) slot < own_d (2 ^ b) hole slot) :
    own_Rm b (ks.set hole (own_g ks slot)) (vs.set hole (own_g vs slot)) n F rk slot ((slot + 1) % 2 ^ b) f := by
  obtain ⟨hb, h1, h2, h3, h4, ⟨a1, a2, a3⟩, hh, hf, ⟨d1, d2⟩, h5, hsc, h6, h7, h8⟩ := I
  have hN := own_pow3 b hb
  have hsf : slot ≠ f := fun u => hs (u ▸ hf)
  have hsh : slot ≠ hole := fun u => by rw [u] at d1; unfold own_d at d1; rcases hN with q | q | q <;> simp [q] at d1
  have hhf : hole ≠ f := fun u => hh (u ▸ hf)
  obtain ⟨e1, e2, e3, e4⟩ := own_L6 _ hole slot f hN a1 a2 a3 hsf d1 d2
  have gk : ∀ i, own_g (ks.set hole (own_g ks slot)) i = if i = hole then own_g ks slot else own_g ks i := fun i => own_g_set ks hole i _ (by rw [h1]; exact a1)
  have gv : ∀ i, own_g (vs.set hole (own_g vs slot)) i = if i = hole then own_g vs slot else own_g vs i := fun i => own_g_set vs hole i _ (by rw [h2]; exact a1)
  have free : ∀ i, own_g (ks.set hole (own_g ks slot)) i = -1 ↔ own_g ks i = -1 := fun i => by
    rw [gk i]; split
    · rename_i q; rw [q]; exact ⟨fun u => absurd u hs, fun u => absurd u hh⟩
    · exact Iff.rfl
  have cs := own_cnt_set ks hole (own_g ks slot) (by rw [h1]; exact a1)
  rw [if_neg hh, if_neg hs, h3] at cs
  refine ⟨hb, by simpa using h1, by simpa using h2, by omega, h4, ⟨a2, Nat.mod_lt _ (by omega), a3⟩, fun u => hs ((free slot).mp u), (free f).mpr hf, ⟨by omega, e4⟩, fun i hi hne hn t ht => ?_, fun i hi x1 x2 => ?_, fun i j hi hj n1 n2 hn e => ?_, fun i hi hne hn => ?_, fun k hk hk' hn => ?_⟩
  · rw [Ne, free] at hn ⊢
    rw [gk i] at ht ⊢
    by_cases q : i = hole
    · rw [if_pos q] at ht ⊢
      refine h5 slot a2 hsh hs t ?_
      rw [q] at ht
      exact own_L8 _ _ hole slot t hN (own_hash_val b hb _).1 a1 a2 c ht
    · rw [if_neg q] at ht ⊢
      exact h5 i hi q hn t ht
  · omega
  · rw [Ne, free] at hn
    rw [gk i, gk j] at e
    by_cases c1 : i = hole <;> by_cases c2 : j = hole
    · omega
    · rw [if_pos c1, if_neg c2] at e; exact absurd (h6 slot j a2 hj hsh c2 hs e).symm n2
    · rw [if_neg c1, if_pos c2] at e; exact absurd (h6 i slot hi a2 c1 hsh hn e) n1
    · rw [if_neg c1, if_neg c2] at e; exact h6 i j hi hj c1 c2 hn e
  · rw [Ne, free] at hn
    rw [gk i, gv i]
    by_cases q : i = hole
    · rw [if_pos q, if_pos q]; exact h7 slot a2 hsh hs
    · rw [if_neg q, if_neg q]; exact h7 i hi q hn
  · refine h8 k hk hk' fun i hi q u => ?_
    by_cases e : i = slot
    · have := hn hole a1 (fun v => hsh v.symm)
      rw [gk hole, if_pos rfl] at this
      exact this (by rw [← e]; exact u)
    · have := hn i hi e
      rw [gk i, if_neg q] at this
      exact this u
/-! ## the ints of the walk -/
theorem own_find_stop {b : Nat} (hb : 1 ≤ b ∧ b ≤ 3) {ks : List Int32} {key : Int32} {t : Nat} (ht : t < 2 ^ b) (h : ∀ u, u < t → own_g ks ((own_home b key + u) % 2 ^ b) ≠ -1 ∧ own_g ks ((own_home b key + u) % 2 ^ b) ≠ key) (hs : own_g ks ((own_home b key + t) % 2 ^ b) = -1 ∨ own_g ks ((own_home b key + t) % 2 ^ b) = key) : own_Slot b ks key ((own_home b key + t) % 2 ^ b) := by
  have hN := own_pow3 b hb
  have hh := (own_hash_val b hb key).1
  refine ⟨Nat.mod_lt _ (by omega), fun u hu => h u ?_, hs⟩
  rw [own_d_of _ _ t hN hh ht] at hu
  exact hu
theorem own_next (N a t : Nat) : ((a + t) % N + 1) % N = (a + (t + 1)) % N := by rw [Nat.mod_add_mod, Nat.add_assoc]
theorem own_i_next : ∀ b, b ≤ 3 → ∀ s, s < 2 ^ b → (Int32.ofNat s + 1) &&& (Int32.ofNat (2 ^ b) - 1) = Int32.ofNat ((s + 1) % 2 ^ b) := by decide
theorem own_i_dist : ∀ b, b ≤ 3 → ∀ s, s < 2 ^ b → ∀ q, q < 2 ^ b → (Int32.ofNat s - Int32.ofNat q) &&& (Int32.ofNat (2 ^ b) - 1) = Int32.ofNat (own_d (2 ^ b) q s) := by decide
theorem own_i_lt : ∀ s, s < 8 → ∀ q, q < 8 → (Int32.ofNat s < Int32.ofNat q ↔ s < q) := by decide
theorem own_i_idx : ∀ s, s ≤ 8 → ¬ Int32.ofNat s < 0 ∧ (Int32.ofNat s).toNatClampNeg = s := by decide
theorem own_at (l : List Int32) (i : Nat) (h : i < l.length) : (l.map Value.int)[i]? = some (.int (own_g l i)) := by
  unfold own_g
  rw [List.getElem?_map, List.getElem?_eq_getElem h, List.getD_eq_getElem?_getD, List.getElem?_eq_getElem h]; rfl
theorem own_gr_dom {b : Nat} {ks vs : List Int32} {F : Int32 → Int32} {ks' vs' : List Int32} (hlen : ks.length = 2 ^ b) (G : own_Gr b ks vs F (2 ^ b) ks' vs') : ∀ i, i < 2 ^ (b + 1) → own_g ks' i ≠ -1 → ∃ i', i' < 2 ^ b ∧ own_g ks i' = own_g ks' i := fun i hi hne =>
  (own_mem_take ks (2 ^ b) (by omega) _).mp (G.2 i hi hne)

abbrev own_ia (l : List Int32) : Desc := .inr (.int, "[I", l.map Value.int)
theorem own_rd (l : List Int32) (s : Nat) (h : s < l.length ∧ s ≤ 8) : ¬ Int32.ofNat s < 0 ∧ (l.map Value.int)[(Int32.ofNat s).toNatClampNeg]? = some (.int (own_g l s)) := by
  have := own_i_idx s h.2
  exact ⟨this.1, by rw [this.2]; exact own_at l s h.1⟩
theorem own_wr (l : List Int32) (s : Nat) (h : s < l.length ∧ s ≤ 8) : ¬ Int32.ofNat s < 0 ∧ (Int32.ofNat s).toNatClampNeg < (l.map Value.int).length := by
  have := own_i_idx s h.2
  exact ⟨this.1, by rw [this.2, List.length_map]; exact h.1⟩
theorem own_upd (l : List Int32) (s : Nat) (h : s < l.length ∧ s ≤ 8) (x : Int32) : lupd (l.map Value.int) (Int32.ofNat s).toNatClampNeg (.int x) = (l.set s x).map Value.int := by
  rw [(own_i_idx s h.2).2, upd_set, List.map_set]
theorem own_ln (l : List Int32) (n : Nat) (h : l.length = n) : (l.map Value.int).length.toInt32 = Int32.ofNat n := by rw [List.length_map, h]
theorem own_shl : ∀ b, b ≤ 3 → (1 : Int32) <<< (Int32.ofNat b &&& 31) = Int32.ofNat (2 ^ b) := by decide
theorem own_newl (b : Nat) (hb : 1 ≤ b ∧ b ≤ 3) : ¬ Int32.ofNat (2 ^ b) < 0 ∧ (Int32.ofNat (2 ^ b)).toNatClampNeg ≤ 8 ∧ List.replicate (Int32.ofNat (2 ^ b)).toNatClampNeg (defaultValue .int) = (List.replicate (2 ^ b) (0 : Int32)).map Value.int := by
  have h8 : 2 ^ b ≤ 8 := by rcases own_pow3 b hb with h | h | h <;> omega
  have := own_i_idx (2 ^ b) h8
  rw [this.2, List.map_replicate]
  exact ⟨this.1, h8, rfl⟩
def own_fl (l : List Int32) (x : Int32) (i : Nat) : List Int32 := List.replicate i x ++ l.drop i
theorem own_fl_len (l : List Int32) (x : Int32) (i : Nat) (h : i ≤ l.length) : (own_fl l x i).length = l.length := by unfold own_fl; simp; omega
theorem own_fl_set (l : List Int32) (x : Int32) (i : Nat) (h : i < l.length) : (own_fl l x i).set i x = own_fl l x (i + 1) := by
  unfold own_fl
  rw [List.set_append_right _ _ (by simp), List.length_replicate, Nat.sub_self, List.drop_eq_getElem_cons h, List.set_cons_zero, List.replicate_succ', List.append_assoc]; rfl
theorem own_fl_end (l : List Int32) (x : Int32) : own_fl l x l.length = List.replicate l.length x := by unfold own_fl; simp
theorem own_ilt : ∀ s, s ≤ 8 → ∀ q, q ≤ 8 → (Int32.ofNat s < Int32.ofNat q ↔ s < q) := by decide
theorem own_isucc (s : Nat) : Int32.ofNat s + 1 = Int32.ofNat (s + 1) := (Int32.ofNat_succ s)
abbrev own_mv (kv vv : Value) (sz b : Int32) : Desc := .inl ("com/example/satisfy/satisfy/reasoner/IntMap", [(("com/example/satisfy/satisfy/reasoner/IntMap", "bits", "I"), .int b), (("com/example/satisfy/satisfy/reasoner/IntMap", "keys", "[I"), kv), (("com/example/satisfy/satisfy/reasoner/IntMap", "values", "[I"), vv), (("com/example/satisfy/satisfy/reasoner/IntMap", "size", "I"), .int sz)])
abbrev own_mo (ka va : Addr) (sz b : Int32) : Desc := own_mv (.ref ka) (.ref va) sz b
set_option maxRecDepth 65536 in
set_option maxHeartbeats 4000000 in
theorem rm_hash (l : Launch) (Z : State) (a0 : Array Value) (hw : ∀ d ∈ tables_1, d.before a0 Z = true) (h0 : Heap) (n0 : Nat) (M : List (Addr × Desc)) (m : Addr) (kv vv : Value) (sz : Int32) (b : Nat) (key : Int32) (P0 : Hp Z n0 h0 ((m, own_mv kv vv sz (Int32.ofNat b)) :: M)) :
    Con false l Z (⟨"com/example/satisfy/satisfy/reasoner/IntMap", "hash", "(I)I"⟩ : MethodName) prog_57_method_6_code 2 (some .int) ({ frames := 0, cells := 0, slots := 0, locals := 0 } : Room) #[(.ref m), (.int key)] h0 n0 (Ret (.int (own_hash b key)) h0) := by
  refine con_of (ls := [.val (.ref m), .val (.int key)]) (plainFor_of_name pn0) rfl ?_
  refine go_iload c7_0 rfl ?_
  refine go_ldcI (y := (⟨"com/example/satisfy/satisfy/reasoner/IntMap", "hash", "(I)I"⟩ : MethodName)) c7_1 (t39 hw) ?_
  refine go_imul c7_3 ?_
  refine go_push c7_4 ?_
  refine go_aload c7_6 rfl rfl ?_
  refine go_get (y := (⟨"com/example/satisfy/satisfy/reasoner/IntMap", "hash", "(I)I"⟩ : MethodName)) P0 (0) 0 c7_7 rfl rfl (t16 hw) ?_
  refine go_isub c7_10 ?_
  refine go_iushr c7_11 ?_
  exact go_iret rfl c7_12 (by decide) (by decide) ⟨_, rfl, rfl, rfl⟩
set_option maxRecDepth 65536 in
set_option maxHeartbeats 4000000 in
theorem rm_slotOf (l : Launch) (Z : State) (a0 : Array Value) (hw : ∀ d ∈ tables_1, d.before a0 Z = true) (h0 : Heap) (n0 : Nat) (M : List (Addr × Desc)) (m ka : Addr) (vv : Value) (sz : Int32) (b : Nat) (ks : List Int32) (key : Int32) (hb : 1 ≤ b ∧ b ≤ 3) (hlen : ks.length = 2 ^ b) (hfree : ∃ f, f < 2 ^ b ∧ own_g ks f = -1) (P0 : Hp Z n0 h0 ((m, own_mv (.ref ka) vv sz (Int32.ofNat b)) :: (ka, own_ia ks) :: M)) :
    Con false l Z (⟨"com/example/satisfy/satisfy/reasoner/IntMap", "slotOf", "(I)I"⟩ : MethodName) prog_57_method_5_code 4 (some .int) ({ frames := 1, cells := 0, slots := 0, locals := 13 } : Room) #[(.ref m), (.int key)] h0 n0 (R1 fun w h' => h0 = h' ∧ ∃ j, w = .int (Int32.ofNat j) ∧ own_Slot b ks key j) := by
  refine con_of (ls := [.val (.ref m), .val (.int key), .unset, .unset]) (plainFor_of_name pn0) rfl ?_
  obtain ⟨f, hf, hff⟩ := hfree
  have hN := own_pow3 b hb
  have hh := (own_hash_val b hb key).1
  have Lp : ∀ r t, t + r = own_d (2 ^ b) (own_home b key) f → (∀ u, u < t → own_g ks ((own_home b key + u) % 2 ^ b) ≠ -1 ∧ own_g ks ((own_home b key + u) % 2 ^ b) ≠ key) → Go false KT l Z ({ frames := 1, cells := 0, slots := 0, locals := 13 } : Room) (⟨"com/example/satisfy/satisfy/reasoner/IntMap", "slotOf", "(I)I"⟩ : MethodName) prog_57_method_5_code 4 (some .int) n0 ({ frames := 1, cells := 0, slots := 0, locals := 13 } : Room).cells ({ frames := 1, cells := 0, slots := 0, locals := 13 } : Room).slots (R1 fun w h' => h0 = h' ∧ ∃ j, w = .int (Int32.ofNat j) ∧ own_Slot b ks key j) h0 0 0 14 [.val (.ref m), .val (.int key), .val (.int (Int32.ofNat (2 ^ b) - 1)), .val (.int (Int32.ofNat ((own_home b key + t) % 2 ^ b)))] [] := by
    intro r
    induction r with
    | zero =>
      intro t ht hb4
      have htN : t < 2 ^ b := by have := own_d_lt (2 ^ b) (own_home b key) f (by omega); omega
      have hs8 : ((own_home b key + t) % 2 ^ b) < ks.length ∧ ((own_home b key + t) % 2 ^ b) ≤ 8 := by rw [hlen]; have := Nat.mod_lt (own_home b key + t) (show 0 < 2 ^ b by omega); omega
      refine go_aload c6_14 rfl rfl ?_
      refine go_get (y := (⟨"com/example/satisfy/satisfy/reasoner/IntMap", "slotOf", "(I)I"⟩ : MethodName)) P0 (0) 1 c6_15 rfl rfl (t18 hw) ?_
      refine go_iload c6_18 rfl ?_
      refine go_ialoadH P0 1 c6_19 rfl (own_rd ks ((own_home b key + t) % 2 ^ b) hs8).1 (own_rd ks ((own_home b key + t) % 2 ^ b) hs8).2 ?_
      refine go_push c6_20 ?_
      refine go_icmp_eq c6_21 (fun b21 => ?_) (fun b21 => ?_)
      · refine go_iload c6_43 rfl ?_
        exact go_iret rfl c6_44 (by decide) (by decide) ⟨_, rfl, rfl, _, rfl, own_find_stop hb htN hb4 (Or.inl b21)⟩
      · exfalso
        refine b21 ?_
        rw [Nat.add_zero] at ht
        rw [ht, own_d_at _ _ _ hN hh hf]
        exact hff
    | succ r ih =>
      intro t ht hb4
      have htN : t < 2 ^ b := by have := own_d_lt (2 ^ b) (own_home b key) f (by omega); omega
      have hs8 : ((own_home b key + t) % 2 ^ b) < ks.length ∧ ((own_home b key + t) % 2 ^ b) ≤ 8 := by rw [hlen]; have := Nat.mod_lt (own_home b key + t) (show 0 < 2 ^ b by omega); omega
      refine go_aload c6_14 rfl rfl ?_
      refine go_get (y := (⟨"com/example/satisfy/satisfy/reasoner/IntMap", "slotOf", "(I)I"⟩ : MethodName)) P0 (0) 1 c6_15 rfl rfl (t18 hw) ?_
      refine go_iload c6_18 rfl ?_
      refine go_ialoadH P0 1 c6_19 rfl (own_rd ks ((own_home b key + t) % 2 ^ b) hs8).1 (own_rd ks ((own_home b key + t) % 2 ^ b) hs8).2 ?_
      refine go_push c6_20 ?_
      refine go_icmp_eq c6_21 (fun b21 => ?_) (fun b21 => ?_)
      · refine go_iload c6_43 rfl ?_
        exact go_iret rfl c6_44 (by decide) (by decide) ⟨_, rfl, rfl, _, rfl, own_find_stop hb htN hb4 (Or.inl b21)⟩
      · refine go_aload c6_24 rfl rfl ?_
        refine go_get (y := (⟨"com/example/satisfy/satisfy/reasoner/IntMap", "slotOf", "(I)I"⟩ : MethodName)) P0 (0) 1 c6_25 rfl rfl (t18 hw) ?_
        refine go_iload c6_28 rfl ?_
        refine go_ialoadH P0 1 c6_29 rfl (own_rd ks ((own_home b key + t) % 2 ^ b) hs8).1 (own_rd ks ((own_home b key + t) % 2 ^ b) hs8).2 ?_
        refine go_iload c6_30 rfl ?_
        refine go_icmp_eq c6_31 (fun b31 => ?_) (fun b31 => ?_)
        · refine go_iload c6_43 rfl ?_
          exact go_iret rfl c6_44 (by decide) (by decide) ⟨_, rfl, rfl, _, rfl, own_find_stop hb htN hb4 (Or.inr b31)⟩
        · refine go_iload c6_34 rfl ?_
          refine go_push c6_35 ?_
          refine go_iadd c6_36 ?_
          refine go_iload c6_37 rfl ?_
          refine go_iand c6_38 ?_
          refine go_isI (Int32.ofNat ((own_home b key + (t + 1)) % 2 ^ b)) ((own_i_next b hb.2 _ (by omega)).trans (congrArg Int32.ofNat (own_next _ _ _))) ?_
          refine go_istore c6_39 rfl rfl ?_
          dsimp only [setl]
          refine go_goto c6_40 ?_
          refine ih (t + 1) (by omega) fun u hu => ?_
          by_cases q : u < t
          · exact hb4 u q
          · obtain rfl : u = t := by omega
            exact ⟨b21, b31⟩
  refine go_aload c6_0 rfl rfl ?_
  refine go_get (y := (⟨"com/example/satisfy/satisfy/reasoner/IntMap", "slotOf", "(I)I"⟩ : MethodName)) P0 (0) 1 c6_1 rfl rfl (t18 hw) ?_
  refine go_alen (z := (Int32.ofNat (2 ^ b))) P0 (1) c6_4 rfl (own_ln ks _ hlen) ?_
  refine go_push c6_5 ?_
  refine go_isub c6_6 ?_
  refine go_istore c6_7 rfl rfl ?_
  dsimp only [setl]
  refine go_aload c6_8 rfl rfl ?_
  refine go_iload c6_9 rfl ?_
  refine go_callP1 (y := (⟨"com/example/satisfy/satisfy/reasoner/IntMap", "slotOf", "(I)I"⟩ : MethodName)) (W := 0) (argsL := [(.int key)]) (st := []) c6_10 (rm_hash l Z a0 hw h0 n0 _ m _ _ _ b key P0) (P0.exa (i := 0) rfl) (t35 hw) (t36 hw) (t4 hw) (t37 hw) (t5 hw) (t38 hw) (by decide) (lenOf pd0 rfl) rfl rfl (by decide) (by decide) (by decide) (by decide) rfl ?_
  rintro _ _ ⟨rfl, rfl⟩
  refine go_more (k' := 0) (n' := 0) (by decide) (by decide) ?_
  refine go_isI (Int32.ofNat (own_home b key)) (own_hash_val b hb _).2 ?_
  refine go_istore c6_13 rfl rfl ?_
  dsimp only [setl]
  have e0 : own_home b key = (own_home b key + 0) % 2 ^ b := by rw [Nat.add_zero, Nat.mod_eq_of_lt hh]
  rw [e0]
  exact Lp (own_d (2 ^ b) (own_home b key) f) 0 (by omega) (fun u hu => absurd hu (by omega))
set_option maxRecDepth 65536 in
set_option maxHeartbeats 4000000 in
theorem rm_get (l : Launch) (Z : State) (a0 : Array Value) (hw : ∀ d ∈ tables_1, d.before a0 Z = true) (h0 : Heap) (n0 : Nat) (M : List (Addr × Desc)) (m : Addr) (key : Int32) (hk : key ≠ -1) (ka va : Addr) (b n : Nat) (ks vs : List Int32) (F : Int32 → Int32) (Rp : own_Rep b ks vs n F) (P0 : Hp Z n0 h0 ((m, own_mo ka va (Int32.ofNat n) (Int32.ofNat b)) :: (ka, own_ia ks) :: (va, own_ia vs) :: M)) :
    Con false l Z (⟨"com/example/satisfy/satisfy/reasoner/IntMap", "get", "(I)I"⟩ : MethodName) prog_57_method_2_code 3 (some .int) ({ frames := 2, cells := 0, slots := 0, locals := 28 } : Room) #[(.ref m), (.int key)] h0 n0 (Ret (.int (F key)) h0) := by
  refine con_of (ls := [.val (.ref m), .val (.int key), .unset]) (plainFor_of_name pn0) rfl ?_
  have Rp' := Rp
  obtain ⟨hb, hlen, hlenv, hcnt, hn2, -⟩ := Rp'
  have hN := own_pow3 b hb
  have hfree : ∃ f, f < 2 ^ b ∧ own_g ks f = -1 := by
    obtain ⟨f, q1, q2⟩ := own_free_of ks (by rw [hcnt, hlen]; omega)
    exact ⟨f, by omega, q2⟩
  refine go_aload c9_0 rfl rfl ?_
  refine go_iload c9_1 rfl ?_
  refine go_callP1 (y := (⟨"com/example/satisfy/satisfy/reasoner/IntMap", "get", "(I)I"⟩ : MethodName)) (W := 0) (argsL := [(.int key)]) (st := []) c9_2 (rm_slotOf l Z a0 hw h0 n0 _ m _ _ _ b ks key hb hlen hfree P0) (P0.exa (i := 0) rfl) (t31 hw) (t32 hw) (t4 hw) (t33 hw) (t5 hw) (t34 hw) (by decide) (lenOf pd0 rfl) rfl rfl (by decide) (by decide) (by decide) (by decide) rfl ?_
  rintro _ _ ⟨rfl, j, rfl, hS⟩
  refine go_more (k' := 0) (n' := 0) (by decide) (by decide) ?_
  refine go_istore c9_5 rfl rfl ?_
  dsimp only [setl]
  refine go_aload c9_6 rfl rfl ?_
  refine go_get (y := (⟨"com/example/satisfy/satisfy/reasoner/IntMap", "get", "(I)I"⟩ : MethodName)) P0 (0) 1 c9_7 rfl rfl (t18 hw) ?_
  refine go_iload c9_10 rfl ?_
  refine go_ialoadH P0 1 c9_11 rfl (own_rd ks j ⟨by have := hS.1; omega, by have := hS.1; omega⟩).1 (own_rd ks j ⟨by have := hS.1; omega, by have := hS.1; omega⟩).2 ?_
  refine go_push c9_12 ?_
  refine go_icmp_ne c9_13 (fun b13 => ?_) (fun b13 => ?_)
  · refine go_aload c9_20 rfl rfl ?_
    refine go_get (y := (⟨"com/example/satisfy/satisfy/reasoner/IntMap", "get", "(I)I"⟩ : MethodName)) P0 (0) 2 c9_21 rfl rfl (t24 hw) ?_
    refine go_iload c9_24 rfl ?_
    refine go_ialoadH P0 2 c9_25 rfl (own_rd vs j ⟨by have := hS.1; omega, by have := hS.1; omega⟩).1 (own_rd vs j ⟨by have := hS.1; omega, by have := hS.1; omega⟩).2 ?_
    exact go_iret rfl c9_26 (by decide) (by decide) ⟨_, rfl, by rw [← own_get Rp hk hS]; simp [*], rfl⟩
  · refine go_push c9_16 ?_
    refine go_goto c9_17 ?_
    exact go_iret rfl c9_26 (by decide) (by decide) ⟨_, rfl, by rw [← own_get Rp hk hS]; simp [*], rfl⟩
set_option maxRecDepth 65536 in
set_option maxHeartbeats 4000000 in
theorem rm_fill (l : Launch) (Z : State) (a0 : Array Value) (hw : ∀ d ∈ tables_1, d.before a0 Z = true) (h0 : Heap) (n0 : Nat) (M : List (Addr × Desc)) (ka : Addr) (l₀ : List Int32) (x : Int32) (hl8 : l₀.length ≤ 8) (P0 : Hp Z n0 h0 ((ka, own_ia l₀) :: M)) :
    Con false l Z (⟨"java/util/Arrays", "fill", "([II)V"⟩ : MethodName) jdk_65_method_103_code 4 none ({ frames := 0, cells := 0, slots := 0, locals := 0 } : Room) #[(.ref ka), (.int x)] h0 n0 (R0 fun h' => Hp Z n0 h' ((ka, own_ia (List.replicate l₀.length x)) :: M)) := by
  refine con_of (ls := [.val (.ref ka), .val (.int x), .unset, .unset]) (plainFor_of_name pn1) rfl ?_
  have Lp : ∀ r i h', i + r = l₀.length → Hp Z n0 h' ((ka, own_ia (own_fl l₀ x i)) :: M) → Go false KT l Z ({ frames := 0, cells := 0, slots := 0, locals := 0 } : Room) (⟨"java/util/Arrays", "fill", "([II)V"⟩ : MethodName) jdk_65_method_103_code 4 none n0 ({ frames := 0, cells := 0, slots := 0, locals := 0 } : Room).cells ({ frames := 0, cells := 0, slots := 0, locals := 0 } : Room).slots (R0 fun h' => Hp Z n0 h' ((ka, own_ia (List.replicate l₀.length x)) :: M)) h' 0 0 5 [.val (.ref ka), .val (.int x), .val (.int (Int32.ofNat i)), .val (.int (Int32.ofNat l₀.length))] [] := by
    intro r
    induction r with
    | zero =>
      intro i h' hi P'
      refine go_iload c4_5 rfl ?_
      refine go_iload c4_6 rfl ?_
      refine go_icmp_ge c4_7 (fun b7 => ?_) (fun b7 => ?_)
      · rw [show i = l₀.length by omega, own_fl_end] at P'
        exact go_ret rfl c4_20 (by decide) (by decide) ⟨rfl, P'⟩
      · exact absurd ((own_ilt i (by omega) l₀.length hl8).mp b7) (by omega)
    | succ r ih =>
      intro i h' hi P'
      have hi8 : i < (own_fl l₀ x i).length ∧ i ≤ 8 := by rw [own_fl_len _ _ _ (by omega)]; omega
      refine go_iload c4_5 rfl ?_
      refine go_iload c4_6 rfl ?_
      refine go_icmp_ge c4_7 (fun b7 => ?_) (fun b7 => ?_)
      · exact absurd ((own_ilt i (by omega) l₀.length hl8).mpr (by omega)) b7
      · refine go_aload c4_10 rfl rfl ?_
        refine go_iload c4_11 rfl ?_
        refine go_iload c4_12 rfl ?_
        refine go_iastoreH P' 0 c4_13 rfl (own_wr (own_fl l₀ x i) i hi8).1 (own_wr (own_fl l₀ x i) i hi8).2 ?_
        intro h1 P2
        dsimp only [lupd] at P2
        rw [own_upd (own_fl l₀ x i) i hi8] at P2
        rw [own_fl_set _ _ _ (by omega)] at P2
        refine go_iinc c4_14 rfl ?_
        dsimp only [setl]
        rw [own_isucc]
        refine go_goto c4_17 ?_
        exact ih (i + 1) _ (by omega) P2
  refine go_push c4_0 ?_
  refine go_istore c4_1 rfl rfl ?_
  dsimp only [setl]
  refine go_aload c4_2 rfl rfl ?_
  refine go_alen (z := (Int32.ofNat l₀.length)) P0 (0) c4_3 rfl (own_ln l₀ _ rfl) ?_
  refine go_istore c4_4 rfl rfl ?_
  dsimp only [setl]
  exact Lp l₀.length 0 _ (by omega) (by unfold own_fl; simpa using P0)
set_option maxRecDepth 65536 in
set_option maxHeartbeats 4000000 in
theorem rm_allocate (l : Launch) (Z : State) (a0 : Array Value) (hw : ∀ d ∈ tables_1, d.before a0 Z = true) (h0 : Heap) (n0 : Nat) (M : List (Addr × Desc)) (m : Addr) (kv vv : Value) (sz b : Int32) (b' : Nat) (hb : 1 ≤ b' ∧ b' ≤ 3) (P0 : Hp Z n0 h0 ((m, own_mv kv vv sz b) :: M)) :
    Con false l Z (⟨"com/example/satisfy/satisfy/reasoner/IntMap", "allocate", "(I)V"⟩ : MethodName) prog_57_method_8_code 2 none ({ frames := 1, cells := 2, slots := 16, locals := 15 } : Room) #[(.ref m), (.int (Int32.ofNat b'))] h0 n0 (R0 fun h' => ∃ ka va, Hp Z n0 h' ((m, own_mo ka va sz (Int32.ofNat b')) :: (ka, own_ia (List.replicate (2 ^ b') (-1))) :: (va, own_ia (List.replicate (2 ^ b') 0)) :: M)) := by
  refine con_of (ls := [.val (.ref m), .val (.int (Int32.ofNat b'))]) (plainFor_of_name pn0) rfl ?_
  have hN := own_pow3 b' hb
  have hnl := own_newl b' hb
  refine go_aload c3_0 rfl rfl ?_
  refine go_iload c3_1 rfl ?_
  refine go_put (y := (⟨"com/example/satisfy/satisfy/reasoner/IntMap", "allocate", "(I)V"⟩ : MethodName)) P0 0 0 .int c3_2 rfl rfl (t16 hw) (Or.inl (t17 hw)) (t4 hw) (by decide) rfl rfl ?_
  intro h1 P2
  dsimp only [lupd] at P2
  refine go_aload c3_5 rfl rfl ?_
  refine go_push c3_6 ?_
  refine go_iload c3_7 rfl ?_
  refine go_ishl c3_8 ?_
  refine go_isI (Int32.ofNat (2 ^ b')) (own_shl b' hb.2) ?_
  refine go_newarr (y := (⟨"com/example/satisfy/satisfy/reasoner/IntMap", "allocate", "(I)V"⟩ : MethodName)) P2 "[I" ((List.replicate (2 ^ b') (0 : Int32)).map Value.int) 8 c3_9 (t0 hw) hnl.1 hnl.2.1 (by decide) (by decide) rfl hnl.2.2 (by decide) (by decide) ?_
  intro h3 a5 P4
  refine go_more (k' := 1) (n' := 8) (by decide) (by decide) ?_
  refine go_put (y := (⟨"com/example/satisfy/satisfy/reasoner/IntMap", "allocate", "(I)V"⟩ : MethodName)) P4 1 1 (.array .int) c3_11 rfl rfl (t18 hw) (Or.inl (t19 hw)) (t4 hw) (by decide) rfl rfl ?_
  intro h6 P7
  dsimp only [lupd] at P7
  refine go_aload c3_14 rfl rfl ?_
  refine go_get (y := (⟨"com/example/satisfy/satisfy/reasoner/IntMap", "allocate", "(I)V"⟩ : MethodName)) P7 (1) 1 c3_15 rfl rfl (t18 hw) ?_
  refine go_push c3_18 ?_
  refine go_callS0 (y := (⟨"com/example/satisfy/satisfy/reasoner/IntMap", "allocate", "(I)V"⟩ : MethodName)) (W := 0) (argsL := [(.ref a5), (.int (-1))]) (st := []) c3_19 (rm_fill l Z a0 hw h6 n0 _ a5 _ (-1) (by rw [List.length_replicate]; rcases hN with q | q | q <;> omega) P7) (t20 hw) (t21 hw) (t22 hw) (t23 hw) (by decide) (lenOf pd1 rfl) rfl rfl (by decide) (by decide) (by decide) (by decide) rfl ?_
  intro h9 P8
  rw [List.length_replicate] at P8
  refine go_more (k' := 1) (n' := 8) (by decide) (by decide) ?_
  refine go_aload c3_22 rfl rfl ?_
  refine go_push c3_23 ?_
  refine go_iload c3_24 rfl ?_
  refine go_ishl c3_25 ?_
  refine go_isI (Int32.ofNat (2 ^ b')) (own_shl b' hb.2) ?_
  refine go_newarr (y := (⟨"com/example/satisfy/satisfy/reasoner/IntMap", "allocate", "(I)V"⟩ : MethodName)) P8 "[I" ((List.replicate (2 ^ b') (0 : Int32)).map Value.int) 8 c3_26 (t0 hw) hnl.1 hnl.2.1 (by decide) (by decide) rfl hnl.2.2 (by decide) (by decide) ?_
  intro h10 a12 P11
  refine go_more (k' := 2) (n' := 16) (by decide) (by decide) ?_
  refine go_put (y := (⟨"com/example/satisfy/satisfy/reasoner/IntMap", "allocate", "(I)V"⟩ : MethodName)) P11 2 2 (.array .int) c3_28 rfl rfl (t24 hw) (Or.inl (t25 hw)) (t4 hw) (by decide) rfl rfl ?_
  intro h13 P14
  dsimp only [lupd] at P14
  exact go_ret rfl c3_31 (by decide) (by decide) ⟨rfl, a5, a12, (P14.front 1).front 2⟩
set_option maxRecDepth 65536 in
set_option maxHeartbeats 4000000 in
theorem rm_init (l : Launch) (Z : State) (a0 : Array Value) (hw : ∀ d ∈ tables_1, d.before a0 Z = true) (h0 : Heap) (n0 : Nat) (M : List (Addr × Desc)) (m : Addr) (P0 : Hp Z n0 h0 ((m, own_mv .null .null 0 0) :: M)) :
    Con false l Z (⟨"com/example/satisfy/satisfy/reasoner/IntMap", "<init>", "()V"⟩ : MethodName) prog_57_method_1_code 1 none ({ frames := 2, cells := 2, slots := 16, locals := 28 } : Room) #[(.ref m)] h0 n0 (R0 fun h' => ∃ ka va, Hp Z n0 h' ((m, own_mo ka va 0 1) :: (ka, own_ia (List.replicate (2 ^ 1) (-1))) :: (va, own_ia (List.replicate (2 ^ 1) 0)) :: M)) := by
  refine con_of (ls := [.val (.ref m)]) (plainFor_of_name pn0) rfl ?_
  refine go_aload c1_0 rfl rfl ?_
  refine go_initO (y := (⟨"com/example/satisfy/satisfy/reasoner/IntMap", "<init>", "()V"⟩ : MethodName)) (W := 0) c1_1 (t9 hw) (t10 hw) (t11 hw) rfl (by decide) rfl (by decide) ?_
  refine go_aload c1_4 rfl rfl ?_
  refine go_push c1_5 ?_
  refine go_callP0 (y := (⟨"com/example/satisfy/satisfy/reasoner/IntMap", "<init>", "()V"⟩ : MethodName)) (W := 0) (argsL := [(.int 1)]) (st := []) c1_6 (rm_allocate l Z a0 hw h0 n0 _ m _ _ _ _ 1 (by decide) P0) (P0.exa (i := 0) rfl) (t12 hw) (t13 hw) (t4 hw) (t14 hw) (t5 hw) (t15 hw) (by decide) (lenOf pd2 rfl) rfl rfl (by decide) (by decide) (by decide) (by decide) rfl ?_
  rintro h2 ⟨ka3, va4, P1⟩
  refine go_more (k' := 2) (n' := 16) (by decide) (by decide) ?_
  exact go_ret rfl c1_9 (by decide) (by decide) ⟨rfl, _, _, P1⟩
set_option maxRecDepth 65536 in
set_option maxHeartbeats 4000000 in
theorem rm_grow (l : Launch) (Z : State) (a0 : Array Value) (hw : ∀ d ∈ tables_1, d.before a0 Z = true) (h0 : Heap) (n0 : Nat) (M : List (Addr × Desc)) (m : Addr) (ka va : Addr) (b n : Nat) (ks vs : List Int32) (F : Int32 → Int32) (Rp : own_Rep b ks vs n F) (P0 : Hp Z n0 h0 ((m, own_mo ka va (Int32.ofNat n) (Int32.ofNat b)) :: (ka, own_ia ks) :: (va, own_ia vs) :: M)) (hb2 : b ≤ 2) :
    Con false l Z (⟨"com/example/satisfy/satisfy/reasoner/IntMap", "grow", "()V"⟩ : MethodName) prog_57_method_7_code 5 none ({ frames := 2, cells := 2, slots := 16, locals := 28 } : Room) #[(.ref m)] h0 n0 (R0 fun h' => ∃ ka' va' ks' vs', own_Rep (b + 1) ks' vs' n F ∧ (∀ i, i < 2 ^ (b + 1) → own_g ks' i ≠ -1 → ∃ i', i' < 2 ^ b ∧ own_g ks i' = own_g ks' i) ∧ Hp Z n0 h' ((m, own_mo ka' va' (Int32.ofNat n) (Int32.ofNat (b + 1))) :: (ka', own_ia ks') :: (va', own_ia vs') :: M)) := by
  refine con_of (ls := [.val (.ref m), .unset, .unset, .unset, .unset]) (plainFor_of_name pn0) rfl ?_
  have Rp' := Rp
  obtain ⟨hb, hlen, hlenv, hcnt, hn2, -⟩ := Rp'
  have hN := own_pow3 b hb
  have hfree : ∃ f, f < 2 ^ b ∧ own_g ks f = -1 := by
    obtain ⟨f, q1, q2⟩ := own_free_of ks (by rw [hcnt, hlen]; omega)
    exact ⟨f, by omega, q2⟩
  have eb : Int32.ofNat b + 1 = Int32.ofNat (b + 1) := own_isucc b
  refine go_aload c11_0 rfl rfl ?_
  refine go_get (y := (⟨"com/example/satisfy/satisfy/reasoner/IntMap", "grow", "()V"⟩ : MethodName)) P0 (0) 1 c11_1 rfl rfl (t18 hw) ?_
  refine go_astore c11_4 rfl rfl rfl ?_
  dsimp only [setl]
  refine go_aload c11_5 rfl rfl ?_
  refine go_get (y := (⟨"com/example/satisfy/satisfy/reasoner/IntMap", "grow", "()V"⟩ : MethodName)) P0 (0) 2 c11_6 rfl rfl (t24 hw) ?_
  refine go_astore c11_9 rfl rfl rfl ?_
  dsimp only [setl]
  refine go_aload c11_10 rfl rfl ?_
  refine go_aload c11_11 rfl rfl ?_
  refine go_get (y := (⟨"com/example/satisfy/satisfy/reasoner/IntMap", "grow", "()V"⟩ : MethodName)) P0 (0) 0 c11_12 rfl rfl (t16 hw) ?_
  refine go_push c11_15 ?_
  refine go_iadd c11_16 ?_
  refine go_isI (Int32.ofNat (b + 1)) eb ?_
  refine go_callP0 (y := (⟨"com/example/satisfy/satisfy/reasoner/IntMap", "grow", "()V"⟩ : MethodName)) (W := 0) (argsL := [(.int (Int32.ofNat (b + 1)))]) (st := []) c11_17 (rm_allocate l Z a0 hw h0 n0 _ m _ _ _ _ (b + 1) (by omega) P0) (P0.exa (i := 0) rfl) (t12 hw) (t13 hw) (t4 hw) (t14 hw) (t5 hw) (t15 hw) (by decide) (lenOf pd2 rfl) rfl rfl (by decide) (by decide) (by decide) (by decide) rfl ?_
  rintro h2 ⟨ka3, va4, P1⟩
  refine go_more (k' := 2) (n' := 16) (by decide) (by decide) ?_
  have Lp : ∀ r s h' ks' vs' s4, s + r = 2 ^ b → one s4 = true → own_Gr b ks vs F s ks' vs' → Hp Z n0 h' ((m, (.inl ("com/example/satisfy/satisfy/reasoner/IntMap", [(("com/example/satisfy/satisfy/reasoner/IntMap", "bits", "I"), (.int (Int32.ofNat (b + 1)))), (("com/example/satisfy/satisfy/reasoner/IntMap", "keys", "[I"), (.ref ka3)), (("com/example/satisfy/satisfy/reasoner/IntMap", "values", "[I"), (.ref va4)), (("com/example/satisfy/satisfy/reasoner/IntMap", "size", "I"), (.int (Int32.ofNat n)))]))) :: (ka3, (own_ia ks')) :: (va4, (own_ia vs')) :: (ka, (own_ia ks)) :: (va, (own_ia vs)) :: M) → Go false KT l Z ({ frames := 2, cells := 2, slots := 16, locals := 28 } : Room) (⟨"com/example/satisfy/satisfy/reasoner/IntMap", "grow", "()V"⟩ : MethodName) prog_57_method_7_code 5 none n0 ({ frames := 2, cells := 2, slots := 16, locals := 28 } : Room).cells ({ frames := 2, cells := 2, slots := 16, locals := 28 } : Room).slots (R0 fun h' => ∃ ka' va' ks' vs', own_Rep (b + 1) ks' vs' n F ∧ (∀ i, i < 2 ^ (b + 1) → own_g ks' i ≠ -1 → ∃ i', i' < 2 ^ b ∧ own_g ks i' = own_g ks' i) ∧ Hp Z n0 h' ((m, own_mo ka' va' (Int32.ofNat n) (Int32.ofNat (b + 1))) :: (ka', own_ia ks') :: (va', own_ia vs') :: M)) h' 2 16 22 [.val (.ref m), .val (.ref ka), .val (.ref va), .val (.int (Int32.ofNat s)), s4] [] := by
    intro r
    induction r with
    | zero =>
      intro s h' ks' vs' s4 hs h4 G P'
      refine go_iload c11_22 rfl ?_
      refine go_aload c11_23 rfl rfl ?_
      refine go_alen (z := (Int32.ofNat (2 ^ b))) P' (3) c11_24 rfl (own_ln ks _ hlen) ?_
      refine go_icmp_ge c11_25 (fun b25 => ?_) (fun b25 => ?_)
      · obtain rfl : s = 2 ^ b := by omega
        exact go_ret rfl c11_70 (by decide) (by decide) ⟨rfl, _, _, _, _, own_gr_end Rp G, own_gr_dom hlen G, ((P'.front 3).tail.front 3).tail⟩
      · exact absurd ((own_ilt s (by omega) (2 ^ b) (by omega)).mp b25) (by omega)
    | succ r ih =>
      intro s h' ks' vs' s4 hs h4 G P'
      refine go_iload c11_22 rfl ?_
      refine go_aload c11_23 rfl rfl ?_
      refine go_alen (z := (Int32.ofNat (2 ^ b))) P' (3) c11_24 rfl (own_ln ks _ hlen) ?_
      refine go_icmp_ge c11_25 (fun b25 => ?_) (fun b25 => ?_)
      · exact absurd ((own_ilt s (by omega) (2 ^ b) (by omega)).mpr (by omega)) b25
      · refine go_aload c11_28 rfl rfl ?_
        refine go_iload c11_29 rfl ?_
        refine go_ialoadH P' 3 c11_30 rfl (own_rd ks s ⟨by omega, by omega⟩).1 (own_rd ks s ⟨by omega, by omega⟩).2 ?_
        refine go_push c11_31 ?_
        refine go_icmp_eq c11_32 (fun b32 => ?_) (fun b32 => ?_)
        · refine go_iinc c11_64 rfl ?_
          dsimp only [setl]
          rw [own_isucc]
          refine go_goto c11_67 ?_
          exact ih (s + 1) _ _ _ _ (by omega) h4 (own_gr_skip (by omega) G b32) P'
        · have G' := G.1
          obtain ⟨hb', hlen', hlenv', hcnt', hn2', -⟩ := G'
          have hN' := own_pow3 (b + 1) hb'
          have hfree' : ∃ f, f < 2 ^ (b + 1) ∧ own_g ks' f = -1 := by
            obtain ⟨f, q1, q2⟩ := own_free_of ks' (by rw [hcnt', hlen']; omega)
            exact ⟨f, by omega, q2⟩
          refine go_aload c11_35 rfl rfl ?_
          refine go_aload c11_36 rfl rfl ?_
          refine go_iload c11_37 rfl ?_
          refine go_ialoadH P' 3 c11_38 rfl (own_rd ks s ⟨by omega, by omega⟩).1 (own_rd ks s ⟨by omega, by omega⟩).2 ?_
          refine go_callP1 (y := (⟨"com/example/satisfy/satisfy/reasoner/IntMap", "grow", "()V"⟩ : MethodName)) (W := 0) (argsL := [(.int (own_g ks s))]) (st := []) c11_39 (rm_slotOf l Z a0 hw h' n0 _ m _ _ _ (b + 1) ks' (own_g ks s) hb' hlen' hfree' P') (P'.exa (i := 0) rfl) (t31 hw) (t32 hw) (t4 hw) (t33 hw) (t5 hw) (t34 hw) (by decide) (lenOf pd0 rfl) rfl rfl (by decide) (by decide) (by decide) (by decide) rfl ?_
          rintro _ _ ⟨rfl, j, rfl, hS⟩
          refine go_more (k' := 2) (n' := 16) (by decide) (by decide) ?_
          refine go_istore c11_42 rfl h4 ?_
          dsimp only [setl]
          refine go_aload c11_44 rfl rfl ?_
          refine go_get (y := (⟨"com/example/satisfy/satisfy/reasoner/IntMap", "grow", "()V"⟩ : MethodName)) P' (0) 1 c11_45 rfl rfl (t18 hw) ?_
          refine go_iload c11_48 rfl ?_
          refine go_aload c11_50 rfl rfl ?_
          refine go_iload c11_51 rfl ?_
          refine go_ialoadH P' 3 c11_52 rfl (own_rd ks s ⟨by omega, by omega⟩).1 (own_rd ks s ⟨by omega, by omega⟩).2 ?_
          refine go_iastoreH P' 1 c11_53 rfl (own_wr ks' j ⟨by have := hS.1; omega, by have := hS.1; rcases hN' with q | q | q <;> omega⟩).1 (own_wr ks' j ⟨by have := hS.1; omega, by have := hS.1; rcases hN' with q | q | q <;> omega⟩).2 ?_
          intro h5 P6
          dsimp only [lupd] at P6
          rw [own_upd ks' j ⟨by have := hS.1; omega, by have := hS.1; rcases hN' with q | q | q <;> omega⟩] at P6
          refine go_aload c11_54 rfl rfl ?_
          refine go_get (y := (⟨"com/example/satisfy/satisfy/reasoner/IntMap", "grow", "()V"⟩ : MethodName)) P6 (0) 2 c11_55 rfl rfl (t24 hw) ?_
          refine go_iload c11_58 rfl ?_
          refine go_aload c11_60 rfl rfl ?_
          refine go_iload c11_61 rfl ?_
          refine go_ialoadH P6 4 c11_62 rfl (own_rd vs s ⟨by omega, by omega⟩).1 (own_rd vs s ⟨by omega, by omega⟩).2 ?_
          refine go_iastoreH P6 2 c11_63 rfl (own_wr vs' j ⟨by have := hS.1; omega, by have := hS.1; rcases hN' with q | q | q <;> omega⟩).1 (own_wr vs' j ⟨by have := hS.1; omega, by have := hS.1; rcases hN' with q | q | q <;> omega⟩).2 ?_
          intro h7 P8
          dsimp only [lupd] at P8
          rw [own_upd vs' j ⟨by have := hS.1; omega, by have := hS.1; rcases hN' with q | q | q <;> omega⟩] at P8
          refine go_iinc c11_64 rfl ?_
          dsimp only [setl]
          rw [own_isucc]
          refine go_goto c11_67 ?_
          exact ih (s + 1) _ _ _ _ (by omega) rfl (own_gr_step Rp (by omega) G b32 hS) P8
  refine go_push c11_20 ?_
  refine go_istore c11_21 rfl rfl ?_
  dsimp only [setl]
  exact Lp (2 ^ b) 0 _ _ _ _ (by omega) rfl (own_gr_start b (by omega) ks vs F) P1
theorem own_isz (n : Nat) (h : n ≤ 3) : (Int32.ofNat n + 1) * 2 = Int32.ofNat (2 * (n + 1)) := by
  have : ∀ n, n ≤ 3 → (Int32.ofNat n + 1) * 2 = Int32.ofNat (2 * (n + 1)) := by decide
  exact this n h
set_option maxRecDepth 65536 in
set_option maxHeartbeats 4000000 in
theorem rm_put (l : Launch) (Z : State) (a0 : Array Value) (hw : ∀ d ∈ tables_1, d.before a0 Z = true) (h0 : Heap) (n0 : Nat) (M : List (Addr × Desc)) (m : Addr) (key v : Int32) (hk : key ≠ -1) (ka va : Addr) (b n : Nat) (ks vs : List Int32) (F : Int32 → Int32) (Rp : own_Rep b ks vs n F) (P0 : Hp Z n0 h0 ((m, own_mo ka va (Int32.ofNat n) (Int32.ofNat b)) :: (ka, own_ia ks) :: (va, own_ia vs) :: M)) (hn3 : n ≤ 3) :
    Con false l Z (⟨"com/example/satisfy/satisfy/reasoner/IntMap", "put", "(II)V"⟩ : MethodName) prog_57_method_3_code 4 none ({ frames := 3, cells := 2, slots := 16, locals := 44 } : Room) #[(.ref m), (.int key), (.int v)] h0 n0 (R0 fun h' => ∃ ka' va' b' n' ks' vs', n' ≤ n + 1 ∧ own_Rep b' ks' vs' n' (own_up F key v) ∧ Hp Z n0 h' ((m, own_mo ka' va' (Int32.ofNat n') (Int32.ofNat b')) :: (ka', own_ia ks') :: (va', own_ia vs') :: M)) := by
  refine con_of (ls := [.val (.ref m), .val (.int key), .val (.int v), .unset]) (plainFor_of_name pn0) rfl ?_
  have Rp' := Rp
  obtain ⟨hb, hlen, hlenv, hcnt, hn2, -⟩ := Rp'
  have hN := own_pow3 b hb
  have hfree : ∃ f, f < 2 ^ b ∧ own_g ks f = -1 := by
    obtain ⟨f, q1, q2⟩ := own_free_of ks (by rw [hcnt, hlen]; omega)
    exact ⟨f, by omega, q2⟩
  refine go_aload c5_0 rfl rfl ?_
  refine go_iload c5_1 rfl ?_
  refine go_callP1 (y := (⟨"com/example/satisfy/satisfy/reasoner/IntMap", "put", "(II)V"⟩ : MethodName)) (W := 0) (argsL := [(.int key)]) (st := []) c5_2 (rm_slotOf l Z a0 hw h0 n0 _ m _ _ _ b ks key hb hlen hfree P0) (P0.exa (i := 0) rfl) (t31 hw) (t32 hw) (t4 hw) (t33 hw) (t5 hw) (t34 hw) (by decide) (lenOf pd0 rfl) rfl rfl (by decide) (by decide) (by decide) (by decide) rfl ?_
  rintro _ _ ⟨rfl, j, rfl, hS⟩
  refine go_more (k' := 0) (n' := 0) (by decide) (by decide) ?_
  refine go_istore c5_5 rfl rfl ?_
  dsimp only [setl]
  refine go_aload c5_6 rfl rfl ?_
  refine go_get (y := (⟨"com/example/satisfy/satisfy/reasoner/IntMap", "put", "(II)V"⟩ : MethodName)) P0 (0) 1 c5_7 rfl rfl (t18 hw) ?_
  refine go_iload c5_10 rfl ?_
  refine go_ialoadH P0 1 c5_11 rfl (own_rd ks j ⟨by have := hS.1; (try simp only [List.length_set]); omega, by have := hS.1; omega⟩).1 (own_rd ks j ⟨by have := hS.1; (try simp only [List.length_set]); omega, by have := hS.1; omega⟩).2 ?_
  refine go_push c5_12 ?_
  refine go_icmp_ne c5_13 (fun b13 => ?_) (fun b13 => ?_)
  · refine go_aload c5_59 rfl rfl ?_
    refine go_get (y := (⟨"com/example/satisfy/satisfy/reasoner/IntMap", "put", "(II)V"⟩ : MethodName)) P0 (0) 2 c5_60 rfl rfl (t24 hw) ?_
    refine go_iload c5_63 rfl ?_
    refine go_iload c5_64 rfl ?_
    refine go_iastoreH P0 2 c5_65 rfl (own_wr vs j ⟨by have := hS.1; (try simp only [List.length_set]); omega, by have := hS.1; omega⟩).1 (own_wr vs j ⟨by have := hS.1; (try simp only [List.length_set]); omega, by have := hS.1; omega⟩).2 ?_
    intro h1 P2
    dsimp only [lupd] at P2
    rw [own_upd vs j ⟨by have := hS.1; (try simp only [List.length_set]); omega, by have := hS.1; omega⟩] at P2
    exact go_ret rfl c5_66 (by decide) (by decide) ⟨rfl, _, _, _, _, _, _, by omega, own_put_old Rp hk hS b13, P2⟩
  · refine go_aload c5_16 rfl rfl ?_
    refine go_get (y := (⟨"com/example/satisfy/satisfy/reasoner/IntMap", "put", "(II)V"⟩ : MethodName)) P0 (0) 3 c5_17 rfl rfl (t40 hw) ?_
    refine go_push c5_20 ?_
    refine go_iadd c5_21 ?_
    refine go_push c5_22 ?_
    refine go_imul c5_23 ?_
    refine go_aload c5_24 rfl rfl ?_
    refine go_get (y := (⟨"com/example/satisfy/satisfy/reasoner/IntMap", "put", "(II)V"⟩ : MethodName)) P0 (0) 1 c5_25 rfl rfl (t18 hw) ?_
    refine go_alen (z := (Int32.ofNat (2 ^ b))) P0 (1) c5_28 rfl (own_ln ks _ hlen) ?_
    rw [own_isz n hn3]
    refine go_icmp_le c5_29 (fun b29 => ?_) (fun b29 => ?_)
    · have hle : 2 * (n + 1) ≤ 2 ^ b := by
        have : ¬ 2 ^ b < 2 * (n + 1) := fun u => b29 ((own_ilt (2 ^ b) (by omega) (2 * (n + 1)) (by omega)).mpr u)
        omega
      refine go_aload c5_42 rfl rfl ?_
      refine go_get (y := (⟨"com/example/satisfy/satisfy/reasoner/IntMap", "put", "(II)V"⟩ : MethodName)) P0 (0) 1 c5_43 rfl rfl (t18 hw) ?_
      refine go_iload c5_46 rfl ?_
      refine go_iload c5_47 rfl ?_
      refine go_iastoreH P0 1 c5_48 rfl (own_wr ks j ⟨by have := hS.1; (try simp only [List.length_set]); omega, by have := hS.1; omega⟩).1 (own_wr ks j ⟨by have := hS.1; (try simp only [List.length_set]); omega, by have := hS.1; omega⟩).2 ?_
      intro h3 P4
      dsimp only [lupd] at P4
      rw [own_upd ks j ⟨by have := hS.1; (try simp only [List.length_set]); omega, by have := hS.1; omega⟩] at P4
      refine go_aload c5_49 rfl rfl ?_
      refine go_dup c5_50 rfl ?_
      refine go_get (y := (⟨"com/example/satisfy/satisfy/reasoner/IntMap", "put", "(II)V"⟩ : MethodName)) P4 (0) 3 c5_51 rfl rfl (t40 hw) ?_
      refine go_push c5_54 ?_
      refine go_iadd c5_55 ?_
      rw [own_isucc]
      refine go_put (y := (⟨"com/example/satisfy/satisfy/reasoner/IntMap", "put", "(II)V"⟩ : MethodName)) P4 0 3 .int c5_56 rfl rfl (t40 hw) (Or.inl (t41 hw)) (t4 hw) (by decide) rfl rfl ?_
      intro h5 P6
      dsimp only [lupd] at P6
      refine go_aload c5_59 rfl rfl ?_
      refine go_get (y := (⟨"com/example/satisfy/satisfy/reasoner/IntMap", "put", "(II)V"⟩ : MethodName)) P6 (0) 2 c5_60 rfl rfl (t24 hw) ?_
      refine go_iload c5_63 rfl ?_
      refine go_iload c5_64 rfl ?_
      refine go_iastoreH P6 2 c5_65 rfl (own_wr vs j ⟨by have := hS.1; (try simp only [List.length_set]); omega, by have := hS.1; omega⟩).1 (own_wr vs j ⟨by have := hS.1; (try simp only [List.length_set]); omega, by have := hS.1; omega⟩).2 ?_
      intro h7 P8
      dsimp only [lupd] at P8
      rw [own_upd vs j ⟨by have := hS.1; (try simp only [List.length_set]); omega, by have := hS.1; omega⟩] at P8
      exact go_ret rfl c5_66 (by decide) (by decide) ⟨rfl, _, _, _, _, _, _, by omega, own_put_new Rp hk hS b13 hle, P8⟩
    · have hgt : ¬ 2 * (n + 1) ≤ 2 ^ b := by
        have := (own_ilt (2 ^ b) (by omega) (2 * (n + 1)) (by omega)).mp b29
        omega
      have hb2 : b ≤ 2 := by
        rcases Nat.lt_or_ge 2 b with q | q
        · obtain rfl : b = 3 := by omega
          omega
        · exact q
      refine go_aload c5_32 rfl rfl ?_
      refine go_callP0 (y := (⟨"com/example/satisfy/satisfy/reasoner/IntMap", "put", "(II)V"⟩ : MethodName)) (W := 0) (argsL := []) (st := []) c5_33 (rm_grow l Z a0 hw h0 n0 _ m _ _ b n ks vs F Rp P0 hb2) (P0.exa (i := 0) rfl) (t56 hw) (t57 hw) (t4 hw) (t58 hw) (t5 hw) (t59 hw) (by decide) (lenOf pd3 rfl) rfl rfl (by decide) (by decide) (by decide) (by decide) rfl ?_
      rintro h10 ⟨ka11, va12, ks', vs', Rp', hdom, P9⟩
      refine go_more (k' := 2) (n' := 16) (by decide) (by decide) ?_
      have Rp2 := Rp'
      obtain ⟨hb', hlen', hlenv', hcnt', hn2', -⟩ := Rp2
      have p2 : 2 ^ (b + 1) = 2 * 2 ^ b := by rw [Nat.pow_succ]; omega
      have hN' := own_pow3 (b + 1) hb'
      have hfree' : ∃ f, f < 2 ^ (b + 1) ∧ own_g ks' f = -1 := by
        obtain ⟨f, q1, q2⟩ := own_free_of ks' (by rw [hcnt', hlen']; omega)
        exact ⟨f, by omega, q2⟩
      have hab : own_g ks j = -1 := b13
      refine go_aload c5_36 rfl rfl ?_
      refine go_iload c5_37 rfl ?_
      refine go_callP1 (y := (⟨"com/example/satisfy/satisfy/reasoner/IntMap", "put", "(II)V"⟩ : MethodName)) (W := 0) (argsL := [(.int key)]) (st := []) c5_38 (rm_slotOf l Z a0 hw h10 n0 _ m _ _ _ (b + 1) ks' key hb' hlen' hfree' P9) (P9.exa (i := 0) rfl) (t31 hw) (t32 hw) (t4 hw) (t33 hw) (t5 hw) (t34 hw) (by decide) (lenOf pd0 rfl) rfl rfl (by decide) (by decide) (by decide) (by decide) rfl ?_
      rintro _ _ ⟨rfl, j', rfl, hS'⟩
      refine go_more (k' := 2) (n' := 16) (by decide) (by decide) ?_
      refine go_istore c5_41 rfl rfl ?_
      dsimp only [setl]
      have hj' : own_g ks' j' = -1 := by
        rcases hS'.2.2 with q | q
        · exact q
        · exfalso
          obtain ⟨i', hi', ei'⟩ := hdom j' hS'.1 (by rw [q]; exact hk)
          exact own_absent Rp hk hS b13 i' hi' (ei'.trans q)
      have hle : 2 * (n + 1) ≤ 2 ^ (b + 1) := by omega
      have hS := hS'
      refine go_aload c5_42 rfl rfl ?_
      refine go_get (y := (⟨"com/example/satisfy/satisfy/reasoner/IntMap", "put", "(II)V"⟩ : MethodName)) P9 (0) 1 c5_43 rfl rfl (t18 hw) ?_
      refine go_iload c5_46 rfl ?_
      refine go_iload c5_47 rfl ?_
      refine go_iastoreH P9 1 c5_48 rfl (own_wr ks' j' ⟨by have := hS'.1; (try simp only [List.length_set]); omega, by have := hS'.1; omega⟩).1 (own_wr ks' j' ⟨by have := hS'.1; (try simp only [List.length_set]); omega, by have := hS'.1; omega⟩).2 ?_
      intro h13 P14
      dsimp only [lupd] at P14
      rw [own_upd ks' j' ⟨by have := hS'.1; (try simp only [List.length_set]); omega, by have := hS'.1; omega⟩] at P14
      refine go_aload c5_49 rfl rfl ?_
      refine go_dup c5_50 rfl ?_
      refine go_get (y := (⟨"com/example/satisfy/satisfy/reasoner/IntMap", "put", "(II)V"⟩ : MethodName)) P14 (0) 3 c5_51 rfl rfl (t40 hw) ?_
      refine go_push c5_54 ?_
      refine go_iadd c5_55 ?_
      rw [own_isucc]
      refine go_put (y := (⟨"com/example/satisfy/satisfy/reasoner/IntMap", "put", "(II)V"⟩ : MethodName)) P14 0 3 .int c5_56 rfl rfl (t40 hw) (Or.inl (t41 hw)) (t4 hw) (by decide) rfl rfl ?_
      intro h15 P16
      dsimp only [lupd] at P16
      refine go_aload c5_59 rfl rfl ?_
      refine go_get (y := (⟨"com/example/satisfy/satisfy/reasoner/IntMap", "put", "(II)V"⟩ : MethodName)) P16 (0) 2 c5_60 rfl rfl (t24 hw) ?_
      refine go_iload c5_63 rfl ?_
      refine go_iload c5_64 rfl ?_
      refine go_iastoreH P16 2 c5_65 rfl (own_wr vs' j' ⟨by have := hS'.1; (try simp only [List.length_set]); omega, by have := hS'.1; omega⟩).1 (own_wr vs' j' ⟨by have := hS'.1; (try simp only [List.length_set]); omega, by have := hS'.1; omega⟩).2 ?_
      intro h17 P18
      dsimp only [lupd] at P18
      rw [own_upd vs' j' ⟨by have := hS'.1; (try simp only [List.length_set]); omega, by have := hS'.1; omega⟩] at P18
      exact go_ret rfl c5_66 (by decide) (by decide) ⟨rfl, _, _, _, _, _, _, by omega, own_put_new Rp' hk hS hj' hle, P18⟩
theorem own_d0 (N s f : Nat) (hN : N = 2 ∨ N = 4 ∨ N = 8) (hs : s < N) (hf : f < N) (h : own_d N s f = 0) : s = f := by
  unfold own_d at h; rcases hN with rfl | rfl | rfl <;> omega
theorem own_ipred (n : Nat) (h : 1 ≤ n ∧ n ≤ 8) : Int32.ofNat n - 1 = Int32.ofNat (n - 1) := by
  have : ∀ n, n ≤ 8 → 1 ≤ n → Int32.ofNat n - 1 = Int32.ofNat (n - 1) := by decide
  exact this n h.2 h.1
theorem own_cnt_pos (ks : List Int32) (j : Nat) (hj : j < ks.length) (hne : own_g ks j ≠ -1) {n : Nat} (h : own_cnt ks = n) : 1 ≤ n := by
  have := own_cnt_set ks j (-1) hj
  rw [if_neg hne, if_pos rfl] at this
  omega
set_option maxRecDepth 65536 in
set_option maxHeartbeats 4000000 in
theorem rm_remove (l : Launch) (Z : State) (a0 : Array Value) (hw : ∀ d ∈ tables_1, d.before a0 Z = true) (h0 : Heap) (n0 : Nat) (M : List (Addr × Desc)) (m : Addr) (key : Int32) (hk : key ≠ -1) (ka va : Addr) (b n : Nat) (ks vs : List Int32) (F : Int32 → Int32) (Rp : own_Rep b ks vs n F) (P0 : Hp Z n0 h0 ((m, own_mo ka va (Int32.ofNat n) (Int32.ofNat b)) :: (ka, own_ia ks) :: (va, own_ia vs) :: M)) :
    Con false l Z (⟨"com/example/satisfy/satisfy/reasoner/IntMap", "remove", "(I)V"⟩ : MethodName) prog_57_method_4_code 6 none ({ frames := 2, cells := 0, slots := 0, locals := 28 } : Room) #[(.ref m), (.int key)] h0 n0 (R0 fun h' => ∃ n' ks' vs', n' ≤ n ∧ own_Rep b ks' vs' n' (own_up F key (-1)) ∧ Hp Z n0 h' ((m, own_mo ka va (Int32.ofNat n') (Int32.ofNat b)) :: (ka, own_ia ks') :: (va, own_ia vs') :: M)) := by
  refine con_of (ls := [.val (.ref m), .val (.int key), .unset, .unset, .unset, .unset]) (plainFor_of_name pn0) rfl ?_
  have Rp' := Rp
  obtain ⟨hb, hlen, hlenv, hcnt, hn2, -⟩ := Rp'
  have hN := own_pow3 b hb
  have hfree : ∃ f, f < 2 ^ b ∧ own_g ks f = -1 := by
    obtain ⟨f, q1, q2⟩ := own_free_of ks (by rw [hcnt, hlen]; omega)
    exact ⟨f, by omega, q2⟩
  have Lp : ∀ r h' ks' vs' hole slot f s5, own_d (2 ^ b) slot f = r → one s5 = true → own_Rm b ks' vs' n F key hole slot f → Hp Z n0 h' ((m, (.inl ("com/example/satisfy/satisfy/reasoner/IntMap", [(("com/example/satisfy/satisfy/reasoner/IntMap", "bits", "I"), (.int (Int32.ofNat b))), (("com/example/satisfy/satisfy/reasoner/IntMap", "keys", "[I"), (.ref ka)), (("com/example/satisfy/satisfy/reasoner/IntMap", "values", "[I"), (.ref va)), (("com/example/satisfy/satisfy/reasoner/IntMap", "size", "I"), (.int (Int32.ofNat (n - 1))))]))) :: (ka, (own_ia ks')) :: (va, (own_ia vs')) :: M) → Go false KT l Z ({ frames := 2, cells := 0, slots := 0, locals := 28 } : Room) (⟨"com/example/satisfy/satisfy/reasoner/IntMap", "remove", "(I)V"⟩ : MethodName) prog_57_method_4_code 6 none n0 ({ frames := 2, cells := 0, slots := 0, locals := 28 } : Room).cells ({ frames := 2, cells := 0, slots := 0, locals := 28 } : Room).slots (R0 fun h' => ∃ n' ks' vs', n' ≤ n ∧ own_Rep b ks' vs' n' (own_up F key (-1)) ∧ Hp Z n0 h' ((m, own_mo ka va (Int32.ofNat n') (Int32.ofNat b)) :: (ka, own_ia ks') :: (va, own_ia vs') :: M)) h' 0 0 42 [.val (.ref m), .val (.int key), .val (.int (Int32.ofNat hole)), .val (.int (Int32.ofNat (2 ^ b) - 1)), .val (.int (Int32.ofNat slot)), s5] [] := by
    intro r
    induction r with
    | zero =>
      intro h' ks' vs' hole slot f s5 hr h5 I P'
      have I' := I
      obtain ⟨-, hl1, hl2, -, -, ⟨a1, a2, a3⟩, hh, hf, ⟨d1, d2⟩, -⟩ := I'
      have h8 : 2 ^ b ≤ 8 := by omega
      refine go_aload c8_42 rfl rfl ?_
      refine go_get (y := (⟨"com/example/satisfy/satisfy/reasoner/IntMap", "remove", "(I)V"⟩ : MethodName)) P' (0) 1 c8_43 rfl rfl (t18 hw) ?_
      refine go_iload c8_46 rfl ?_
      refine go_ialoadH P' 1 c8_48 rfl (own_rd ks' slot ⟨by (try simp only [List.length_set]); omega, by omega⟩).1 (own_rd ks' slot ⟨by (try simp only [List.length_set]); omega, by omega⟩).2 ?_
      refine go_push c8_49 ?_
      refine go_icmp_eq c8_50 (fun b50 => ?_) (fun b50 => ?_)
      · refine go_aload c8_122 rfl rfl ?_
        refine go_get (y := (⟨"com/example/satisfy/satisfy/reasoner/IntMap", "remove", "(I)V"⟩ : MethodName)) P' (0) 1 c8_123 rfl rfl (t18 hw) ?_
        refine go_iload c8_126 rfl ?_
        refine go_push c8_127 ?_
        refine go_iastoreH P' 1 c8_128 rfl (own_wr ks' hole ⟨by (try simp only [List.length_set]); omega, by omega⟩).1 (own_wr ks' hole ⟨by (try simp only [List.length_set]); omega, by omega⟩).2 ?_
        intro h1 P2
        dsimp only [lupd] at P2
        rw [own_upd ks' hole ⟨by (try simp only [List.length_set]); omega, by omega⟩] at P2
        exact go_ret rfl c8_129 (by decide) (by decide) ⟨rfl, n - 1, _, _, by omega, own_rm_end I b50, P2⟩
      · exact absurd (show own_g ks' slot = -1 by rw [own_d0 _ slot f hN a2 a3 hr]; exact hf) b50
    | succ r ih =>
      intro h' ks' vs' hole slot f s5 hr h5 I P'
      have I' := I
      obtain ⟨-, hl1, hl2, -, -, ⟨a1, a2, a3⟩, hh, hf, ⟨d1, d2⟩, -⟩ := I'
      have h8 : 2 ^ b ≤ 8 := by omega
      refine go_aload c8_42 rfl rfl ?_
      refine go_get (y := (⟨"com/example/satisfy/satisfy/reasoner/IntMap", "remove", "(I)V"⟩ : MethodName)) P' (0) 1 c8_43 rfl rfl (t18 hw) ?_
      refine go_iload c8_46 rfl ?_
      refine go_ialoadH P' 1 c8_48 rfl (own_rd ks' slot ⟨by (try simp only [List.length_set]); omega, by omega⟩).1 (own_rd ks' slot ⟨by (try simp only [List.length_set]); omega, by omega⟩).2 ?_
      refine go_push c8_49 ?_
      refine go_icmp_eq c8_50 (fun b50 => ?_) (fun b50 => ?_)
      · refine go_aload c8_122 rfl rfl ?_
        refine go_get (y := (⟨"com/example/satisfy/satisfy/reasoner/IntMap", "remove", "(I)V"⟩ : MethodName)) P' (0) 1 c8_123 rfl rfl (t18 hw) ?_
        refine go_iload c8_126 rfl ?_
        refine go_push c8_127 ?_
        refine go_iastoreH P' 1 c8_128 rfl (own_wr ks' hole ⟨by (try simp only [List.length_set]); omega, by omega⟩).1 (own_wr ks' hole ⟨by (try simp only [List.length_set]); omega, by omega⟩).2 ?_
        intro h3 P4
        dsimp only [lupd] at P4
        rw [own_upd ks' hole ⟨by (try simp only [List.length_set]); omega, by omega⟩] at P4
        exact go_ret rfl c8_129 (by decide) (by decide) ⟨rfl, n - 1, _, _, by omega, own_rm_end I b50, P4⟩
      · have hsf : slot ≠ f := fun u => b50 (by rw [u]; exact hf)
        obtain ⟨x1, x2, x3, x4⟩ := own_L6 _ hole slot f hN a1 a2 a3 hsf d1 d2
        refine go_aload c8_53 rfl rfl ?_
        refine go_aload c8_54 rfl rfl ?_
        refine go_get (y := (⟨"com/example/satisfy/satisfy/reasoner/IntMap", "remove", "(I)V"⟩ : MethodName)) P' (0) 1 c8_55 rfl rfl (t18 hw) ?_
        refine go_iload c8_58 rfl ?_
        refine go_ialoadH P' 1 c8_60 rfl (own_rd ks' slot ⟨by (try simp only [List.length_set]); omega, by omega⟩).1 (own_rd ks' slot ⟨by (try simp only [List.length_set]); omega, by omega⟩).2 ?_
        refine go_callP1 (y := (⟨"com/example/satisfy/satisfy/reasoner/IntMap", "remove", "(I)V"⟩ : MethodName)) (W := 0) (argsL := [(.int (own_g ks' slot))]) (st := []) c8_61 (rm_hash l Z a0 hw h' n0 _ m _ _ _ b (own_g ks' slot) P') (P'.exa (i := 0) rfl) (t35 hw) (t36 hw) (t4 hw) (t37 hw) (t5 hw) (t38 hw) (by decide) (lenOf pd0 rfl) rfl rfl (by decide) (by decide) (by decide) (by decide) rfl ?_
        rintro _ _ ⟨rfl, rfl⟩
        refine go_more (k' := 0) (n' := 0) (by decide) (by decide) ?_
        refine go_isI (Int32.ofNat (own_home b (own_g ks' slot))) (own_hash_val b hb _).2 ?_
        refine go_istore c8_64 rfl h5 ?_
        dsimp only [setl]
        refine go_iload c8_66 rfl ?_
        refine go_iload c8_68 rfl ?_
        refine go_isub c8_70 ?_
        refine go_iload c8_71 rfl ?_
        refine go_iand c8_72 ?_
        refine go_isI (Int32.ofNat (own_d (2 ^ b) (own_home b (own_g ks' slot)) slot)) (own_i_dist b hb.2 slot a2 _ (own_hash_val b hb _).1) ?_
        refine go_iload c8_73 rfl ?_
        refine go_iload c8_75 rfl ?_
        refine go_isub c8_76 ?_
        refine go_iload c8_77 rfl ?_
        refine go_iand c8_78 ?_
        refine go_isI (Int32.ofNat (own_d (2 ^ b) hole slot)) (own_i_dist b hb.2 slot a2 hole a1) ?_
        have dl1 := own_d_lt (2 ^ b) (own_home b (own_g ks' slot)) slot (by omega)
        have dl2 := own_d_lt (2 ^ b) hole slot (by omega)
        have dl3 := own_d_lt (2 ^ b) slot f (by omega)
        refine go_icmp_lt c8_79 (fun b79 => ?_) (fun b79 => ?_)
        · refine go_iload c8_111 rfl ?_
          refine go_push c8_113 ?_
          refine go_iadd c8_114 ?_
          refine go_iload c8_115 rfl ?_
          refine go_iand c8_116 ?_
          refine go_isI (Int32.ofNat ((slot + 1) % 2 ^ b)) (own_i_next b hb.2 slot a2) ?_
          refine go_istore c8_117 rfl rfl ?_
          dsimp only [setl]
          refine go_goto c8_119 ?_
          exact ih _ _ _ _ _ f _ (by omega) rfl (own_rm_keep I b50 ((own_i_lt _ (by omega) _ (by omega)).mp b79)) P'
        · refine go_aload c8_82 rfl rfl ?_
          refine go_get (y := (⟨"com/example/satisfy/satisfy/reasoner/IntMap", "remove", "(I)V"⟩ : MethodName)) P' (0) 1 c8_83 rfl rfl (t18 hw) ?_
          refine go_iload c8_86 rfl ?_
          refine go_aload c8_87 rfl rfl ?_
          refine go_get (y := (⟨"com/example/satisfy/satisfy/reasoner/IntMap", "remove", "(I)V"⟩ : MethodName)) P' (0) 1 c8_88 rfl rfl (t18 hw) ?_
          refine go_iload c8_91 rfl ?_
          refine go_ialoadH P' 1 c8_93 rfl (own_rd ks' slot ⟨by (try simp only [List.length_set]); omega, by omega⟩).1 (own_rd ks' slot ⟨by (try simp only [List.length_set]); omega, by omega⟩).2 ?_
          refine go_iastoreH P' 1 c8_94 rfl (own_wr ks' hole ⟨by (try simp only [List.length_set]); omega, by omega⟩).1 (own_wr ks' hole ⟨by (try simp only [List.length_set]); omega, by omega⟩).2 ?_
          intro h5 P6
          dsimp only [lupd] at P6
          rw [own_upd ks' hole ⟨by (try simp only [List.length_set]); omega, by omega⟩] at P6
          refine go_aload c8_95 rfl rfl ?_
          refine go_get (y := (⟨"com/example/satisfy/satisfy/reasoner/IntMap", "remove", "(I)V"⟩ : MethodName)) P6 (0) 2 c8_96 rfl rfl (t24 hw) ?_
          refine go_iload c8_99 rfl ?_
          refine go_aload c8_100 rfl rfl ?_
          refine go_get (y := (⟨"com/example/satisfy/satisfy/reasoner/IntMap", "remove", "(I)V"⟩ : MethodName)) P6 (0) 2 c8_101 rfl rfl (t24 hw) ?_
          refine go_iload c8_104 rfl ?_
          refine go_ialoadH P6 2 c8_106 rfl (own_rd vs' slot ⟨by (try simp only [List.length_set]); omega, by omega⟩).1 (own_rd vs' slot ⟨by (try simp only [List.length_set]); omega, by omega⟩).2 ?_
          refine go_iastoreH P6 2 c8_107 rfl (own_wr vs' hole ⟨by (try simp only [List.length_set]); omega, by omega⟩).1 (own_wr vs' hole ⟨by (try simp only [List.length_set]); omega, by omega⟩).2 ?_
          intro h7 P8
          dsimp only [lupd] at P8
          rw [own_upd vs' hole ⟨by (try simp only [List.length_set]); omega, by omega⟩] at P8
          refine go_iload c8_108 rfl ?_
          refine go_istore c8_110 rfl rfl ?_
          dsimp only [setl]
          refine go_iload c8_111 rfl ?_
          refine go_push c8_113 ?_
          refine go_iadd c8_114 ?_
          refine go_iload c8_115 rfl ?_
          refine go_iand c8_116 ?_
          refine go_isI (Int32.ofNat ((slot + 1) % 2 ^ b)) (own_i_next b hb.2 slot a2) ?_
          refine go_istore c8_117 rfl rfl ?_
          dsimp only [setl]
          refine go_goto c8_119 ?_
          exact ih _ _ _ _ _ f _ (by omega) rfl (own_rm_move I b50 (fun u => b79 ((own_i_lt _ (by omega) _ (by omega)).mpr u))) P8
  refine go_aload c8_0 rfl rfl ?_
  refine go_iload c8_1 rfl ?_
  refine go_callP1 (y := (⟨"com/example/satisfy/satisfy/reasoner/IntMap", "remove", "(I)V"⟩ : MethodName)) (W := 0) (argsL := [(.int key)]) (st := []) c8_2 (rm_slotOf l Z a0 hw h0 n0 _ m _ _ _ b ks key hb hlen hfree P0) (P0.exa (i := 0) rfl) (t31 hw) (t32 hw) (t4 hw) (t33 hw) (t5 hw) (t34 hw) (by decide) (lenOf pd0 rfl) rfl rfl (by decide) (by decide) (by decide) (by decide) rfl ?_
  rintro _ _ ⟨rfl, j, rfl, hS⟩
  refine go_more (k' := 0) (n' := 0) (by decide) (by decide) ?_
  refine go_istore c8_5 rfl rfl ?_
  dsimp only [setl]
  refine go_aload c8_6 rfl rfl ?_
  refine go_get (y := (⟨"com/example/satisfy/satisfy/reasoner/IntMap", "remove", "(I)V"⟩ : MethodName)) P0 (0) 1 c8_7 rfl rfl (t18 hw) ?_
  refine go_iload c8_10 rfl ?_
  refine go_ialoadH P0 1 c8_11 rfl (own_rd ks j ⟨by have := hS.1; omega, by have := hS.1; omega⟩).1 (own_rd ks j ⟨by have := hS.1; omega, by have := hS.1; omega⟩).2 ?_
  refine go_push c8_12 ?_
  refine go_icmp_ne c8_13 (fun b13 => ?_) (fun b13 => ?_)
  · refine go_aload c8_17 rfl rfl ?_
    refine go_dup c8_18 rfl ?_
    refine go_get (y := (⟨"com/example/satisfy/satisfy/reasoner/IntMap", "remove", "(I)V"⟩ : MethodName)) P0 (0) 3 c8_19 rfl rfl (t40 hw) ?_
    have hn1 : 1 ≤ n ∧ n ≤ 8 := ⟨own_cnt_pos ks j (by have := hS.1; omega) b13 hcnt, by omega⟩
    refine go_push c8_22 ?_
    refine go_isub c8_23 ?_
    rw [own_ipred n hn1]
    refine go_put (y := (⟨"com/example/satisfy/satisfy/reasoner/IntMap", "remove", "(I)V"⟩ : MethodName)) P0 0 3 .int c8_24 rfl rfl (t40 hw) (Or.inl (t41 hw)) (t4 hw) (by decide) rfl rfl ?_
    intro h9 P10
    dsimp only [lupd] at P10
    refine go_aload c8_27 rfl rfl ?_
    refine go_get (y := (⟨"com/example/satisfy/satisfy/reasoner/IntMap", "remove", "(I)V"⟩ : MethodName)) P10 (0) 1 c8_28 rfl rfl (t18 hw) ?_
    refine go_alen (z := (Int32.ofNat (2 ^ b))) P10 (1) c8_31 rfl (own_ln ks _ hlen) ?_
    refine go_push c8_32 ?_
    refine go_isub c8_33 ?_
    refine go_istore c8_34 rfl rfl ?_
    dsimp only [setl]
    refine go_iload c8_35 rfl ?_
    refine go_push c8_36 ?_
    refine go_iadd c8_37 ?_
    refine go_iload c8_38 rfl ?_
    refine go_iand c8_39 ?_
    refine go_isI (Int32.ofNat ((j + 1) % 2 ^ b)) (own_i_next b hb.2 j hS.1) ?_
    refine go_istore c8_40 rfl rfl ?_
    dsimp only [setl]
    have hkey : own_g ks j = key := hS.2.2.resolve_left b13
    obtain ⟨f, I⟩ := own_rm_start Rp hS.1 b13
    rw [hkey] at I
    exact Lp _ _ _ _ _ _ f _ rfl rfl I P10
  · exact go_ret rfl c8_16 (by decide) (by decide) ⟨rfl, n, ks, vs, by omega, own_congr Rp fun k hk' => by unfold own_up; split <;> first | rfl | (rename_i q; rw [q]; exact Rp.2.2.2.2.2.2.2.2 key hk (own_absent Rp hk hS b13)), P0⟩
theorem own_nn (x : Int32) : x &&& 2147483647 ≠ -1 := fun h => by
  have h1 : (x &&& 2147483647).toBitVec.toNat ≤ 2147483647 := by rw [Int32.toBitVec_and, BitVec.toNat_and]; exact Nat.and_le_right
  rw [h] at h1
  exact absurd h1 (by decide)
theorem own_msk (x : Int32) (m : Nat) (hm : m = 3 ∨ m = 7) : ∃ n, n ≤ m ∧ x &&& Int32.ofNat m = Int32.ofNat n := by
  have h : (x &&& Int32.ofNat m).toBitVec.toNat ≤ m := by
    rw [Int32.toBitVec_and, BitVec.toNat_and]
    refine Nat.le_trans Nat.and_le_right ?_
    rcases hm with rfl | rfl <;> decide
  refine ⟨_, h, ?_⟩
  apply Int32.toBitVec_inj.mp
  apply BitVec.eq_of_toNat_eq
  have : ∀ n, n ≤ 7 → (Int32.ofNat n).toBitVec.toNat = n := by decide
  rw [this _ (by omega)]
theorem own_n4 (x : Int32) : x &&& 3 = 0 ∨ x &&& 3 = 1 ∨ x &&& 3 = 2 ∨ x &&& 3 = 3 := by
  obtain ⟨n, h, e⟩ := own_msk x 3 (Or.inl rfl)
  have e' : x &&& 3 = Int32.ofNat n := e
  rw [e']
  have : ∀ n, n ≤ 3 → Int32.ofNat n = 0 ∨ Int32.ofNat n = 1 ∨ Int32.ofNat n = 2 ∨ Int32.ofNat n = 3 := by decide
  exact this n h
theorem own_n8 (x : Int32) (hlt : x &&& 7 < 4) : x &&& 7 = 0 ∨ x &&& 7 = 1 ∨ x &&& 7 = 2 ∨ x &&& 7 = 3 := by
  obtain ⟨n, h, e⟩ := own_msk x 7 (Or.inr rfl)
  have e' : x &&& 7 = Int32.ofNat n := e
  rw [e'] at hlt ⊢
  have : ∀ n, n ≤ 7 → Int32.ofNat n < 4 → Int32.ofNat n = 0 ∨ Int32.ofNat n = 1 ∨ Int32.ofNat n = 2 ∨ Int32.ofNat n = 3 := by decide
  exact this n h hlt
def own_e0 (k k0 v0 : Int32) : Int32 := if k0 = k then v0 else -1
def own_e1 (r k n j kj vj : Int32) : Int32 := if j < n then (if kj = k then vj else r) else r
def own_exp (k t n k0 k1 k2 k3 v0 v1 v2 v3 : Int32) : Int32 := if k = t then -1 else own_e1 (own_e1 (own_e1 (own_e0 k k0 v0) k n 1 k1 v1) k n 2 k2 v2) k n 3 k3 v3
set_option maxRecDepth 65536 in
set_option maxHeartbeats 4000000 in
theorem rm_exp (l : Launch) (Z : State) (a0 : Array Value) (hw : ∀ d ∈ tables_1, d.before a0 Z = true) (h0 : Heap) (n0 : Nat) (L₀ : List (Addr × Desc)) (i j : Nat) (ka va : Addr) (k t n k0 k1 k2 k3 v0 v1 v2 v3 : Int32) (hka : L₀[i]? = some (ka, (.inr (.int, "[I", [(.int k0), (.int k1), (.int k2), (.int k3)])))) (hva : L₀[j]? = some (va, (.inr (.int, "[I", [(.int v0), (.int v1), (.int v2), (.int v3)])))) (P0 : Hp Z n0 h0 L₀) :
    Con false l Z (⟨"com/example/satisfy/satisfy/reasoner/IntMapRemovePinLaw", "expect", "(III[I[I)I"⟩ : MethodName) method_3_code 6 (some .int) ({ frames := 0, cells := 0, slots := 0, locals := 0 } : Room) #[(.int k), (.int t), (.int n), (.ref ka), (.ref va)] h0 n0 (Ret (.int (own_exp k t n k0 k1 k2 k3 v0 v1 v2 v3)) h0) := by
  refine con_of (ls := [.val (.int k), .val (.int t), .val (.int n), .val (.ref ka), .val (.ref va), .unset]) (plainFor_of_name pn2) rfl ?_
  have J3 : ¬ k = t → Go false KT l Z ({ frames := 0, cells := 0, slots := 0, locals := 0 } : Room) (⟨"com/example/satisfy/satisfy/reasoner/IntMapRemovePinLaw", "expect", "(III[I[I)I"⟩ : MethodName) method_3_code 6 (some .int) n0 ({ frames := 0, cells := 0, slots := 0, locals := 0 } : Room).cells ({ frames := 0, cells := 0, slots := 0, locals := 0 } : Room).slots (Ret (.int (own_exp k t n k0 k1 k2 k3 v0 v1 v2 v3)) h0) h0 0 0 77 [.val (.int k), .val (.int t), .val (.int n), .val (.ref ka), .val (.ref va), .val (.int (own_e1 (own_e1 (own_e1 (own_e0 k k0 v0) k n 1 k1 v1) k n 2 k2 v2) k n 3 k3 v3))] [] := by
    intro hkt
    refine go_iload c10_77 rfl ?_
    exact go_iret rfl c10_79 (by decide) (by decide) ⟨_, rfl, by unfold own_exp; rw [if_neg hkt], rfl⟩
  have J2 : ¬ k = t → Go false KT l Z ({ frames := 0, cells := 0, slots := 0, locals := 0 } : Room) (⟨"com/example/satisfy/satisfy/reasoner/IntMapRemovePinLaw", "expect", "(III[I[I)I"⟩ : MethodName) method_3_code 6 (some .int) n0 ({ frames := 0, cells := 0, slots := 0, locals := 0 } : Room).cells ({ frames := 0, cells := 0, slots := 0, locals := 0 } : Room).slots (Ret (.int (own_exp k t n k0 k1 k2 k3 v0 v1 v2 v3)) h0) h0 0 0 59 [.val (.int k), .val (.int t), .val (.int n), .val (.ref ka), .val (.ref va), .val (.int (own_e1 (own_e1 (own_e0 k k0 v0) k n 1 k1 v1) k n 2 k2 v2))] [] := by
    intro hkt
    refine go_iload c10_59 rfl ?_
    refine go_push c10_60 ?_
    refine go_icmp_le c10_61 (fun b61 => ?_) (fun b61 => ?_)
    · have := J3 hkt
      have q : (own_e1 (own_e1 (own_e1 (own_e0 k k0 v0) k n 1 k1 v1) k n 2 k2 v2) k n 3 k3 v3) = (own_e1 (own_e1 (own_e0 k k0 v0) k n 1 k1 v1) k n 2 k2 v2) := by simp [own_e1, *]
      rw [q] at this
      exact this
    · refine go_aload c10_64 rfl rfl ?_
      refine go_push c10_65 ?_
      refine go_ialoadH P0 (i) c10_66 hka (by decide) rfl ?_
      refine go_iload c10_67 rfl ?_
      refine go_icmp_ne c10_68 (fun b68 => ?_) (fun b68 => ?_)
      · have := J3 hkt
        have q : (own_e1 (own_e1 (own_e1 (own_e0 k k0 v0) k n 1 k1 v1) k n 2 k2 v2) k n 3 k3 v3) = (own_e1 (own_e1 (own_e0 k k0 v0) k n 1 k1 v1) k n 2 k2 v2) := by simp [own_e1, *]
        rw [q] at this
        exact this
      · refine go_aload c10_71 rfl rfl ?_
        refine go_push c10_73 ?_
        refine go_ialoadH P0 (j) c10_74 hva (by decide) rfl ?_
        refine go_istore c10_75 rfl rfl ?_
        dsimp only [setl]
        have := J3 hkt
        have q : (own_e1 (own_e1 (own_e1 (own_e0 k k0 v0) k n 1 k1 v1) k n 2 k2 v2) k n 3 k3 v3) = v3 := by simp [own_e1, *]
        rw [q] at this
        exact this
  have J1 : ¬ k = t → Go false KT l Z ({ frames := 0, cells := 0, slots := 0, locals := 0 } : Room) (⟨"com/example/satisfy/satisfy/reasoner/IntMapRemovePinLaw", "expect", "(III[I[I)I"⟩ : MethodName) method_3_code 6 (some .int) n0 ({ frames := 0, cells := 0, slots := 0, locals := 0 } : Room).cells ({ frames := 0, cells := 0, slots := 0, locals := 0 } : Room).slots (Ret (.int (own_exp k t n k0 k1 k2 k3 v0 v1 v2 v3)) h0) h0 0 0 41 [.val (.int k), .val (.int t), .val (.int n), .val (.ref ka), .val (.ref va), .val (.int (own_e1 (own_e0 k k0 v0) k n 1 k1 v1))] [] := by
    intro hkt
    refine go_iload c10_41 rfl ?_
    refine go_push c10_42 ?_
    refine go_icmp_le c10_43 (fun b43 => ?_) (fun b43 => ?_)
    · have := J2 hkt
      have q : (own_e1 (own_e1 (own_e0 k k0 v0) k n 1 k1 v1) k n 2 k2 v2) = (own_e1 (own_e0 k k0 v0) k n 1 k1 v1) := by simp [own_e1, *]
      rw [q] at this
      exact this
    · refine go_aload c10_46 rfl rfl ?_
      refine go_push c10_47 ?_
      refine go_ialoadH P0 (i) c10_48 hka (by decide) rfl ?_
      refine go_iload c10_49 rfl ?_
      refine go_icmp_ne c10_50 (fun b50 => ?_) (fun b50 => ?_)
      · have := J2 hkt
        have q : (own_e1 (own_e1 (own_e0 k k0 v0) k n 1 k1 v1) k n 2 k2 v2) = (own_e1 (own_e0 k k0 v0) k n 1 k1 v1) := by simp [own_e1, *]
        rw [q] at this
        exact this
      · refine go_aload c10_53 rfl rfl ?_
        refine go_push c10_55 ?_
        refine go_ialoadH P0 (j) c10_56 hva (by decide) rfl ?_
        refine go_istore c10_57 rfl rfl ?_
        dsimp only [setl]
        have := J2 hkt
        have q : (own_e1 (own_e1 (own_e0 k k0 v0) k n 1 k1 v1) k n 2 k2 v2) = v2 := by simp [own_e1, *]
        rw [q] at this
        exact this
  have J0 : ¬ k = t → Go false KT l Z ({ frames := 0, cells := 0, slots := 0, locals := 0 } : Room) (⟨"com/example/satisfy/satisfy/reasoner/IntMapRemovePinLaw", "expect", "(III[I[I)I"⟩ : MethodName) method_3_code 6 (some .int) n0 ({ frames := 0, cells := 0, slots := 0, locals := 0 } : Room).cells ({ frames := 0, cells := 0, slots := 0, locals := 0 } : Room).slots (Ret (.int (own_exp k t n k0 k1 k2 k3 v0 v1 v2 v3)) h0) h0 0 0 23 [.val (.int k), .val (.int t), .val (.int n), .val (.ref ka), .val (.ref va), .val (.int (own_e0 k k0 v0))] [] := by
    intro hkt
    refine go_iload c10_23 rfl ?_
    refine go_push c10_24 ?_
    refine go_icmp_le c10_25 (fun b25 => ?_) (fun b25 => ?_)
    · have := J1 hkt
      have q : (own_e1 (own_e0 k k0 v0) k n 1 k1 v1) = (own_e0 k k0 v0) := by simp [own_e1, *]
      rw [q] at this
      exact this
    · refine go_aload c10_28 rfl rfl ?_
      refine go_push c10_29 ?_
      refine go_ialoadH P0 (i) c10_30 hka (by decide) rfl ?_
      refine go_iload c10_31 rfl ?_
      refine go_icmp_ne c10_32 (fun b32 => ?_) (fun b32 => ?_)
      · have := J1 hkt
        have q : (own_e1 (own_e0 k k0 v0) k n 1 k1 v1) = (own_e0 k k0 v0) := by simp [own_e1, *]
        rw [q] at this
        exact this
      · refine go_aload c10_35 rfl rfl ?_
        refine go_push c10_37 ?_
        refine go_ialoadH P0 (j) c10_38 hva (by decide) rfl ?_
        refine go_istore c10_39 rfl rfl ?_
        dsimp only [setl]
        have := J1 hkt
        have q : (own_e1 (own_e0 k k0 v0) k n 1 k1 v1) = v1 := by simp [own_e1, *]
        rw [q] at this
        exact this
  refine go_iload c10_0 rfl ?_
  refine go_iload c10_1 rfl ?_
  refine go_icmp_ne c10_2 (fun b2 => ?_) (fun b2 => ?_)
  · refine go_push c10_7 ?_
    refine go_istore c10_8 rfl rfl ?_
    dsimp only [setl]
    refine go_aload c10_10 rfl rfl ?_
    refine go_push c10_11 ?_
    refine go_ialoadH P0 (i) c10_12 hka (by decide) rfl ?_
    refine go_iload c10_13 rfl ?_
    refine go_icmp_ne c10_14 (fun b14 => ?_) (fun b14 => ?_)
    · have := J0 b2
      have q : (own_e0 k k0 v0) = (-1) := by simp [own_e0, *]
      rw [q] at this
      exact this
    · refine go_aload c10_17 rfl rfl ?_
      refine go_push c10_19 ?_
      refine go_ialoadH P0 (j) c10_20 hva (by decide) rfl ?_
      refine go_istore c10_21 rfl rfl ?_
      dsimp only [setl]
      have := J0 b2
      have q : (own_e0 k k0 v0) = v0 := by simp [own_e0, *]
      rw [q] at this
      exact this
  · refine go_push c10_5 ?_
    exact go_iret rfl c10_6 (by decide) (by decide) ⟨_, rfl, by unfold own_exp; rw [if_pos b2], rfl⟩
set_option maxRecDepth 65536 in
set_option maxHeartbeats 4000000 in
theorem rm0 (l : Launch) (Z : State) (a0 : Array Value) (hw : ∀ d ∈ tables_1, d.before a0 Z = true) (h0 : Heap) (n0 : Nat) (P0 : Hp Z n0 h0 []) (a b c d e : Int32) (f : Int64) :
    Con false l Z x code maxLocals ret room_1 #[(.int a), (.int b), (.int c), (.int d), (.int e), (.long f)] h0 n0 (R1 fun w _ => w = .int 1) := by
  refine con_of (ls := [.val (.int a), .val (.int b), .val (.int c), .val (.int d), .val (.int e), .val (.long f), .second, .unset, .unset, .unset, .unset, .unset, .unset, .unset]) (plainFor_of_name pn2) rfl ?_
  refine go_push c0_0 ?_
  refine go_newarr (y := x) P0 "[I" [(.int 0), (.int 0), (.int 0), (.int 0)] 4 c0_1 (t0 hw) (by decide) (by decide) (by decide) (by decide) rfl rfl (by decide) (by decide) ?_
  intro h1 a3 P2
  refine go_more (k' := 1) (n' := 4) (by decide) (by decide) ?_
  refine go_astore c0_3 rfl rfl rfl ?_
  dsimp only [setl]
  refine go_aload c0_5 rfl rfl ?_
  refine go_push c0_7 ?_
  refine go_iload c0_8 rfl ?_
  refine go_ldcI (y := x) c0_9 (t1 hw) ?_
  refine go_iand c0_11 ?_
  refine go_nameI fun k0 e_k0 => ?_
  have hk0 : k0 ≠ -1 := by rw [e_k0]; exact own_nn _
  refine go_iastoreH P2 0 c0_12 rfl (by decide) (Nat.le_of_ble_eq_true rfl) ?_
  intro h4 P5
  dsimp only [lupd] at P5
  refine go_aload c0_13 rfl rfl ?_
  refine go_push c0_15 ?_
  refine go_iload c0_16 rfl ?_
  refine go_ldcI (y := x) c0_17 (t1 hw) ?_
  refine go_iand c0_19 ?_
  refine go_nameI fun k1 e_k1 => ?_
  have hk1 : k1 ≠ -1 := by rw [e_k1]; exact own_nn _
  refine go_iastoreH P5 0 c0_20 rfl (by decide) (Nat.le_of_ble_eq_true rfl) ?_
  intro h6 P7
  dsimp only [lupd] at P7
  refine go_aload c0_21 rfl rfl ?_
  refine go_push c0_23 ?_
  refine go_iload c0_24 rfl ?_
  refine go_ldcI (y := x) c0_25 (t1 hw) ?_
  refine go_iand c0_27 ?_
  refine go_nameI fun k2 e_k2 => ?_
  have hk2 : k2 ≠ -1 := by rw [e_k2]; exact own_nn _
  refine go_iastoreH P7 0 c0_28 rfl (by decide) (Nat.le_of_ble_eq_true rfl) ?_
  intro h8 P9
  dsimp only [lupd] at P9
  refine go_aload c0_29 rfl rfl ?_
  refine go_push c0_31 ?_
  refine go_iload c0_32 rfl ?_
  refine go_ldcI (y := x) c0_33 (t1 hw) ?_
  refine go_iand c0_35 ?_
  refine go_nameI fun k3 e_k3 => ?_
  have hk3 : k3 ≠ -1 := by rw [e_k3]; exact own_nn _
  refine go_iastoreH P9 0 c0_36 rfl (by decide) (Nat.le_of_ble_eq_true rfl) ?_
  intro h10 P11
  dsimp only [lupd] at P11
  refine go_push c0_37 ?_
  refine go_newarr (y := x) P11 "[I" [(.int 0), (.int 0), (.int 0), (.int 0)] 4 c0_38 (t0 hw) (by decide) (by decide) (by decide) (by decide) rfl rfl (by decide) (by decide) ?_
  intro h12 a14 P13
  refine go_more (k' := 2) (n' := 8) (by decide) (by decide) ?_
  refine go_astore c0_40 rfl rfl rfl ?_
  dsimp only [setl]
  refine go_aload c0_42 rfl rfl ?_
  refine go_push c0_44 ?_
  refine go_lload c0_45 rfl ?_
  refine go_ldcJ (y := x) c0_47 (t2 hw) ?_
  refine go_land c0_50 ?_
  refine go_l2i c0_51 ?_
  refine go_nameI fun v0 e_v0 => ?_
  refine go_iastoreH P13 0 c0_52 rfl (by decide) (Nat.le_of_ble_eq_true rfl) ?_
  intro h15 P16
  dsimp only [lupd] at P16
  refine go_aload c0_53 rfl rfl ?_
  refine go_push c0_55 ?_
  refine go_lload c0_56 rfl ?_
  refine go_push c0_58 ?_
  refine go_lushr c0_60 ?_
  refine go_ldcJ (y := x) c0_61 (t2 hw) ?_
  refine go_land c0_64 ?_
  refine go_l2i c0_65 ?_
  refine go_nameI fun v1 e_v1 => ?_
  refine go_iastoreH P16 0 c0_66 rfl (by decide) (Nat.le_of_ble_eq_true rfl) ?_
  intro h17 P18
  dsimp only [lupd] at P18
  refine go_aload c0_67 rfl rfl ?_
  refine go_push c0_69 ?_
  refine go_lload c0_70 rfl ?_
  refine go_push c0_72 ?_
  refine go_lushr c0_74 ?_
  refine go_ldcJ (y := x) c0_75 (t2 hw) ?_
  refine go_land c0_78 ?_
  refine go_l2i c0_79 ?_
  refine go_nameI fun v2 e_v2 => ?_
  refine go_iastoreH P18 0 c0_80 rfl (by decide) (Nat.le_of_ble_eq_true rfl) ?_
  intro h19 P20
  dsimp only [lupd] at P20
  refine go_aload c0_81 rfl rfl ?_
  refine go_push c0_83 ?_
  refine go_lload c0_84 rfl ?_
  refine go_push c0_86 ?_
  refine go_lushr c0_88 ?_
  refine go_ldcJ (y := x) c0_89 (t2 hw) ?_
  refine go_land c0_92 ?_
  refine go_l2i c0_93 ?_
  refine go_nameI fun v3 e_v3 => ?_
  refine go_iastoreH P20 0 c0_94 rfl (by decide) (Nat.le_of_ble_eq_true rfl) ?_
  intro h21 P22
  dsimp only [lupd] at P22
  refine go_push c0_95 ?_
  refine go_iload c0_96 rfl ?_
  refine go_push c0_98 ?_
  refine go_iushr c0_99 ?_
  refine go_push c0_100 ?_
  refine go_iand c0_101 ?_
  rcases own_n4 (XT.ushr e 3) with hn | hn | hn | hn
  · refine go_isI 0 hn ?_
    refine go_iadd c0_102 ?_
    refine go_isI 1 (by decide) ?_
    refine go_istore c0_103 rfl rfl ?_
    dsimp only [setl]
    refine go_iload c0_105 rfl ?_
    refine go_push c0_107 ?_
    refine go_iand c0_109 ?_
    have JT : ∀ s t : Int32, t ≠ -1 → Go false KT l Z room_1 x code maxLocals ret n0 room_1.cells room_1.slots (R1 fun w _ => w = .int 1) h21 2 8 135 [.val (.int a), .val (.int b), .val (.int c), .val (.int d), .val (.int e), .val (.long f), .second, .val (.ref a3), .val (.ref a14), .val (.int 1), .val (.int s), .unset, .unset, .unset] [(.int t)] := by
      intro s t ht
      refine go_istore c0_135 rfl rfl ?_
      dsimp only [setl]
      refine go_new (y := x) P22 [(("com/example/satisfy/satisfy/reasoner/IntMap", "bits", "I"), (.int 0)), (("com/example/satisfy/satisfy/reasoner/IntMap", "keys", "[I"), .null), (("com/example/satisfy/satisfy/reasoner/IntMap", "values", "[I"), .null), (("com/example/satisfy/satisfy/reasoner/IntMap", "size", "I"), (.int 0))] c0_137 (t3 hw) (t4 hw) (t5 hw) (⟨⟨Or.inl (t17 hw), .int, by decide, rfl⟩, ⟨⟨Or.inl (t19 hw), (.array .int), by decide, rfl⟩, ⟨⟨Or.inl (t25 hw), (.array .int), by decide, rfl⟩, ⟨⟨Or.inl (t41 hw), .int, by decide, rfl⟩, trivial⟩⟩⟩⟩) (by decide) (by decide) (by decide) ?_
      intro h23 a25 P24
      refine go_more (k' := 3) (n' := 12) (by decide) (by decide) ?_
      refine go_dup c0_140 rfl ?_
      refine go_callN0 (y := x) (W := 1) (argsL := []) (st := [(.ref a25)]) c0_141 rfl rfl (rm_init l Z a0 hw h23 n0 _ a25 P24) (t6 hw) (t7 hw) (t5 hw) (t8 hw) (by decide) (lenOf pd3 rfl) rfl rfl (by decide) (by decide) (by decide) (by decide) rfl ?_
      rintro h27 ⟨ka28, va29, P26⟩
      refine go_more (k' := 5) (n' := 28) (by decide) (by decide) ?_
      have P30 : Hp Z n0 h27 ([(a25, (.inl ("com/example/satisfy/satisfy/reasoner/IntMap", [(("com/example/satisfy/satisfy/reasoner/IntMap", "bits", "I"), (.int (Int32.ofNat 1))), (("com/example/satisfy/satisfy/reasoner/IntMap", "keys", "[I"), (.ref ka28)), (("com/example/satisfy/satisfy/reasoner/IntMap", "values", "[I"), (.ref va29)), (("com/example/satisfy/satisfy/reasoner/IntMap", "size", "I"), (.int (Int32.ofNat 0)))]))), (ka28, (own_ia (List.replicate (2 ^ 1) (-1)))), (va29, (own_ia (List.replicate (2 ^ 1) 0))), (a14, (.inr (.int, "[I", [(.int v0), (.int v1), (.int v2), (.int v3)]))), (a3, (.inr (.int, "[I", [(.int k0), (.int k1), (.int k2), (.int k3)])))]) := P26
      refine go_astore c0_144 rfl rfl rfl ?_
      dsimp only [setl]
      refine go_aload c0_146 rfl rfl ?_
      refine go_aload c0_148 rfl rfl ?_
      refine go_push c0_150 ?_
      refine go_ialoadH P30 (4) c0_151 rfl (by decide) rfl ?_
      refine go_aload c0_152 rfl rfl ?_
      refine go_push c0_154 ?_
      refine go_ialoadH P30 (3) c0_155 rfl (by decide) rfl ?_
      refine go_callV0 (y := x) (W := 0) (argsL := [(.int k0), (.int v0)]) (st := []) c0_156 (rm_put l Z a0 hw h27 n0 _ a25 k0 v0 hk0 ka28 va29 1 0 (List.replicate (2 ^ 1) (-1)) (List.replicate (2 ^ 1) 0) (fun _ => -1) (own_empty 1 (by decide)) P30 (by omega)) (P30.exa (i := 0) rfl) (t26 hw) (t27 hw) (fun _ q => notFace_of_selects (args := #[]) (mvT q (t29 hw))) (t29 hw) (t28 hw) (t5 hw) (t30 hw) (by decide) (lenOf pd4 rfl) rfl rfl (by decide) (by decide) (by decide) (by decide) rfl ?_
      rintro h31 ⟨ka31, va31, b31, n31, ks31, vs31, hle31, Rp31, P31⟩
      refine go_more (k' := 7) (n' := 44) (by decide) (by decide) ?_
      refine go_iload c0_159 rfl ?_
      refine go_push c0_161 ?_
      refine go_icmp_le c0_162 (fun _ => ?_) (fun q => absurd q (by decide))
      refine go_iload c0_178 rfl ?_
      refine go_push c0_180 ?_
      refine go_icmp_le c0_181 (fun _ => ?_) (fun q => absurd q (by decide))
      refine go_iload c0_197 rfl ?_
      refine go_push c0_199 ?_
      refine go_icmp_le c0_200 (fun _ => ?_) (fun q => absurd q (by decide))
      refine go_aload c0_216 rfl rfl ?_
      refine go_iload c0_218 rfl ?_
      refine go_callV0 (y := x) (W := 0) (argsL := [(.int t)]) (st := []) c0_220 (rm_remove l Z a0 hw h31 n0 _ a25 t ht ka31 va31 b31 n31 ks31 vs31 (own_up (fun _ => -1) k0 v0) Rp31 P31) (P31.exa (i := 0) rfl) (t42 hw) (t43 hw) (fun _ q => notFace_of_selects (args := #[]) (mvT q (t45 hw))) (t45 hw) (t44 hw) (t5 hw) (t46 hw) (by decide) (lenOf pd2 rfl) rfl rfl (by decide) (by decide) (by decide) (by decide) rfl ?_
      rintro h32 ⟨n32, ks32, vs32, hle32, Rp32, P32⟩
      refine go_more (k' := 7) (n' := 44) (by decide) (by decide) ?_
      refine go_aload c0_223 rfl rfl ?_
      refine go_aload c0_225 rfl rfl ?_
      refine go_push c0_227 ?_
      refine go_ialoadH P32 (4) c0_228 rfl (by decide) rfl ?_
      refine go_callV1 (y := x) (W := 0) (argsL := [(.int k0)]) (st := []) c0_229 (rm_get l Z a0 hw h32 n0 _ a25 k0 hk0 ka31 va31 b31 n32 ks32 vs32 (own_up (own_up (fun _ => -1) k0 v0) t (-1)) Rp32 P32) (P32.exa (i := 0) rfl) (t47 hw) (t48 hw) (fun _ q => notFace_of_selects (args := #[]) (mvT q (t50 hw))) (t50 hw) (t49 hw) (t5 hw) (t51 hw) (by decide) (lenOf pd0 rfl) rfl rfl (by decide) (by decide) (by decide) (by decide) rfl ?_
      rintro _ _ ⟨rfl, rfl⟩
      refine go_more (k' := 7) (n' := 44) (by decide) (by decide) ?_
      refine go_aload c0_232 rfl rfl ?_
      refine go_push c0_234 ?_
      refine go_ialoadH P32 (4) c0_235 rfl (by decide) rfl ?_
      refine go_iload c0_236 rfl ?_
      refine go_iload c0_238 rfl ?_
      refine go_aload c0_240 rfl rfl ?_
      refine go_aload c0_242 rfl rfl ?_
      refine go_callS1 (y := x) (W := 1) (argsL := [(.int k0), (.int t), (.int 1), (.ref a3), (.ref a14)]) (st := [(.int ((own_up (own_up (fun _ => -1) k0 v0) t (-1)) k0))]) c0_244 (rm_exp l Z a0 hw h32 n0 _ 4 3 a3 a14 k0 t 1 k0 k1 k2 k3 v0 v1 v2 v3 rfl rfl P32) (t52 hw) (t53 hw) (t54 hw) (t55 hw) (by decide) (lenOf pd5 rfl) rfl rfl (by decide) (by decide) (by decide) (by decide) rfl ?_
      rintro _ _ ⟨rfl, rfl⟩
      refine go_more (k' := 7) (n' := 44) (by decide) (by decide) ?_
      refine go_icmp_ne c0_247 (fun b247 => ?_) (fun b247 => ?_)
      · exact absurd (by first | (unfold own_up own_exp own_e1 own_e0; simp; done) | (unfold own_up own_exp own_e1 own_e0; grind) | (unfold own_up; simp; done) | (unfold own_up; grind)) b247
      · refine go_push c0_250 ?_
        refine go_goto c0_251 ?_
        refine go_istore c0_255 rfl rfl ?_
        dsimp only [setl]
        refine go_iload c0_257 rfl ?_
        refine go_if_eq c0_259 (fun q => absurd q (by decide)) (fun _ => ?_)
        refine go_aload c0_262 rfl rfl ?_
        refine go_aload c0_264 rfl rfl ?_
        refine go_push c0_266 ?_
        refine go_ialoadH P32 (4) c0_267 rfl (by decide) rfl ?_
        refine go_callV1 (y := x) (W := 0) (argsL := [(.int k1)]) (st := []) c0_268 (rm_get l Z a0 hw h32 n0 _ a25 k1 hk1 ka31 va31 b31 n32 ks32 vs32 (own_up (own_up (fun _ => -1) k0 v0) t (-1)) Rp32 P32) (P32.exa (i := 0) rfl) (t47 hw) (t48 hw) (fun _ q => notFace_of_selects (args := #[]) (mvT q (t50 hw))) (t50 hw) (t49 hw) (t5 hw) (t51 hw) (by decide) (lenOf pd0 rfl) rfl rfl (by decide) (by decide) (by decide) (by decide) rfl ?_
        rintro _ _ ⟨rfl, rfl⟩
        refine go_more (k' := 7) (n' := 44) (by decide) (by decide) ?_
        refine go_aload c0_271 rfl rfl ?_
        refine go_push c0_273 ?_
        refine go_ialoadH P32 (4) c0_274 rfl (by decide) rfl ?_
        refine go_iload c0_275 rfl ?_
        refine go_iload c0_277 rfl ?_
        refine go_aload c0_279 rfl rfl ?_
        refine go_aload c0_281 rfl rfl ?_
        refine go_callS1 (y := x) (W := 1) (argsL := [(.int k1), (.int t), (.int 1), (.ref a3), (.ref a14)]) (st := [(.int ((own_up (own_up (fun _ => -1) k0 v0) t (-1)) k1))]) c0_283 (rm_exp l Z a0 hw h32 n0 _ 4 3 a3 a14 k1 t 1 k0 k1 k2 k3 v0 v1 v2 v3 rfl rfl P32) (t52 hw) (t53 hw) (t54 hw) (t55 hw) (by decide) (lenOf pd5 rfl) rfl rfl (by decide) (by decide) (by decide) (by decide) rfl ?_
        rintro _ _ ⟨rfl, rfl⟩
        refine go_more (k' := 7) (n' := 44) (by decide) (by decide) ?_
        refine go_icmp_ne c0_286 (fun b286 => ?_) (fun b286 => ?_)
        · exact absurd (by first | (unfold own_up own_exp own_e1 own_e0; simp; done) | (unfold own_up own_exp own_e1 own_e0; grind) | (unfold own_up; simp; done) | (unfold own_up; grind)) b286
        · refine go_push c0_289 ?_
          refine go_goto c0_290 ?_
          refine go_istore c0_294 rfl rfl ?_
          dsimp only [setl]
          refine go_iload c0_296 rfl ?_
          refine go_if_eq c0_298 (fun q => absurd q (by decide)) (fun _ => ?_)
          refine go_aload c0_301 rfl rfl ?_
          refine go_aload c0_303 rfl rfl ?_
          refine go_push c0_305 ?_
          refine go_ialoadH P32 (4) c0_306 rfl (by decide) rfl ?_
          refine go_callV1 (y := x) (W := 0) (argsL := [(.int k2)]) (st := []) c0_307 (rm_get l Z a0 hw h32 n0 _ a25 k2 hk2 ka31 va31 b31 n32 ks32 vs32 (own_up (own_up (fun _ => -1) k0 v0) t (-1)) Rp32 P32) (P32.exa (i := 0) rfl) (t47 hw) (t48 hw) (fun _ q => notFace_of_selects (args := #[]) (mvT q (t50 hw))) (t50 hw) (t49 hw) (t5 hw) (t51 hw) (by decide) (lenOf pd0 rfl) rfl rfl (by decide) (by decide) (by decide) (by decide) rfl ?_
          rintro _ _ ⟨rfl, rfl⟩
          refine go_more (k' := 7) (n' := 44) (by decide) (by decide) ?_
          refine go_aload c0_310 rfl rfl ?_
          refine go_push c0_312 ?_
          refine go_ialoadH P32 (4) c0_313 rfl (by decide) rfl ?_
          refine go_iload c0_314 rfl ?_
          refine go_iload c0_316 rfl ?_
          refine go_aload c0_318 rfl rfl ?_
          refine go_aload c0_320 rfl rfl ?_
          refine go_callS1 (y := x) (W := 1) (argsL := [(.int k2), (.int t), (.int 1), (.ref a3), (.ref a14)]) (st := [(.int ((own_up (own_up (fun _ => -1) k0 v0) t (-1)) k2))]) c0_322 (rm_exp l Z a0 hw h32 n0 _ 4 3 a3 a14 k2 t 1 k0 k1 k2 k3 v0 v1 v2 v3 rfl rfl P32) (t52 hw) (t53 hw) (t54 hw) (t55 hw) (by decide) (lenOf pd5 rfl) rfl rfl (by decide) (by decide) (by decide) (by decide) rfl ?_
          rintro _ _ ⟨rfl, rfl⟩
          refine go_more (k' := 7) (n' := 44) (by decide) (by decide) ?_
          refine go_icmp_ne c0_325 (fun b325 => ?_) (fun b325 => ?_)
          · exact absurd (by first | (unfold own_up own_exp own_e1 own_e0; simp; done) | (unfold own_up own_exp own_e1 own_e0; grind) | (unfold own_up; simp; done) | (unfold own_up; grind)) b325
          · refine go_push c0_328 ?_
            refine go_goto c0_329 ?_
            refine go_istore c0_333 rfl rfl ?_
            dsimp only [setl]
            refine go_iload c0_335 rfl ?_
            refine go_if_eq c0_337 (fun q => absurd q (by decide)) (fun _ => ?_)
            refine go_aload c0_340 rfl rfl ?_
            refine go_aload c0_342 rfl rfl ?_
            refine go_push c0_344 ?_
            refine go_ialoadH P32 (4) c0_345 rfl (by decide) rfl ?_
            refine go_callV1 (y := x) (W := 0) (argsL := [(.int k3)]) (st := []) c0_346 (rm_get l Z a0 hw h32 n0 _ a25 k3 hk3 ka31 va31 b31 n32 ks32 vs32 (own_up (own_up (fun _ => -1) k0 v0) t (-1)) Rp32 P32) (P32.exa (i := 0) rfl) (t47 hw) (t48 hw) (fun _ q => notFace_of_selects (args := #[]) (mvT q (t50 hw))) (t50 hw) (t49 hw) (t5 hw) (t51 hw) (by decide) (lenOf pd0 rfl) rfl rfl (by decide) (by decide) (by decide) (by decide) rfl ?_
            rintro _ _ ⟨rfl, rfl⟩
            refine go_more (k' := 7) (n' := 44) (by decide) (by decide) ?_
            refine go_aload c0_349 rfl rfl ?_
            refine go_push c0_351 ?_
            refine go_ialoadH P32 (4) c0_352 rfl (by decide) rfl ?_
            refine go_iload c0_353 rfl ?_
            refine go_iload c0_355 rfl ?_
            refine go_aload c0_357 rfl rfl ?_
            refine go_aload c0_359 rfl rfl ?_
            refine go_callS1 (y := x) (W := 1) (argsL := [(.int k3), (.int t), (.int 1), (.ref a3), (.ref a14)]) (st := [(.int ((own_up (own_up (fun _ => -1) k0 v0) t (-1)) k3))]) c0_361 (rm_exp l Z a0 hw h32 n0 _ 4 3 a3 a14 k3 t 1 k0 k1 k2 k3 v0 v1 v2 v3 rfl rfl P32) (t52 hw) (t53 hw) (t54 hw) (t55 hw) (by decide) (lenOf pd5 rfl) rfl rfl (by decide) (by decide) (by decide) (by decide) rfl ?_
            rintro _ _ ⟨rfl, rfl⟩
            refine go_more (k' := 7) (n' := 44) (by decide) (by decide) ?_
            refine go_icmp_ne c0_364 (fun b364 => ?_) (fun b364 => ?_)
            · exact absurd (by first | (unfold own_up own_exp own_e1 own_e0; simp; done) | (unfold own_up own_exp own_e1 own_e0; grind) | (unfold own_up; simp; done) | (unfold own_up; grind)) b364
            · refine go_push c0_367 ?_
              refine go_goto c0_368 ?_
              refine go_istore c0_372 rfl rfl ?_
              dsimp only [setl]
              refine go_iload c0_374 rfl ?_
              refine go_if_eq c0_376 (fun q => absurd q (by decide)) (fun _ => ?_)
              refine go_aload c0_379 rfl rfl ?_
              refine go_iload c0_381 rfl ?_
              refine go_callV1 (y := x) (W := 0) (argsL := [(.int t)]) (st := []) c0_383 (rm_get l Z a0 hw h32 n0 _ a25 t ht ka31 va31 b31 n32 ks32 vs32 (own_up (own_up (fun _ => -1) k0 v0) t (-1)) Rp32 P32) (P32.exa (i := 0) rfl) (t47 hw) (t48 hw) (fun _ q => notFace_of_selects (args := #[]) (mvT q (t50 hw))) (t50 hw) (t49 hw) (t5 hw) (t51 hw) (by decide) (lenOf pd0 rfl) rfl rfl (by decide) (by decide) (by decide) (by decide) rfl ?_
              rintro _ _ ⟨rfl, rfl⟩
              refine go_more (k' := 7) (n' := 44) (by decide) (by decide) ?_
              refine go_push c0_386 ?_
              refine go_icmp_ne c0_387 (fun b387 => ?_) (fun b387 => ?_)
              · exact absurd (by first | (unfold own_up own_exp own_e1 own_e0; simp; done) | (unfold own_up own_exp own_e1 own_e0; grind) | (unfold own_up; simp; done) | (unfold own_up; grind)) b387
              · refine go_push c0_390 ?_
                refine go_goto c0_391 ?_
                refine go_istore c0_395 rfl rfl ?_
                dsimp only [setl]
                refine go_iload c0_397 rfl ?_
                exact go_bret rfl c0_399 (by decide) (by decide) (by decide) ⟨_, rfl, rfl⟩
    refine go_istore c0_110 rfl rfl ?_
    dsimp only [setl]
    refine go_iload c0_112 rfl ?_
    refine go_push c0_114 ?_
    refine go_icmp_ge c0_115 (fun b115 => ?_) (fun b115 => ?_)
    · refine go_lload c0_126 rfl ?_
      refine go_push c0_128 ?_
      refine go_lushr c0_130 ?_
      refine go_l2i c0_131 ?_
      refine go_ldcI (y := x) c0_132 (t1 hw) ?_
      refine go_iand c0_134 ?_
      exact JT _ _ (own_nn _)
    · rcases own_n8 e b115 with hs | hs | hs | hs
      · refine go_aload c0_118 rfl rfl ?_
        refine go_iload c0_120 rfl ?_
        refine go_isI 0 hs ?_
        refine go_ialoadH P22 (1) c0_122 rfl (by decide) rfl ?_
        refine go_goto c0_123 ?_
        exact JT _ _ hk0
      · refine go_aload c0_118 rfl rfl ?_
        refine go_iload c0_120 rfl ?_
        refine go_isI 1 hs ?_
        refine go_ialoadH P22 (1) c0_122 rfl (by decide) rfl ?_
        refine go_goto c0_123 ?_
        exact JT _ _ hk1
      · refine go_aload c0_118 rfl rfl ?_
        refine go_iload c0_120 rfl ?_
        refine go_isI 2 hs ?_
        refine go_ialoadH P22 (1) c0_122 rfl (by decide) rfl ?_
        refine go_goto c0_123 ?_
        exact JT _ _ hk2
      · refine go_aload c0_118 rfl rfl ?_
        refine go_iload c0_120 rfl ?_
        refine go_isI 3 hs ?_
        refine go_ialoadH P22 (1) c0_122 rfl (by decide) rfl ?_
        refine go_goto c0_123 ?_
        exact JT _ _ hk3
  · refine go_isI 1 hn ?_
    refine go_iadd c0_102 ?_
    refine go_isI 2 (by decide) ?_
    refine go_istore c0_103 rfl rfl ?_
    dsimp only [setl]
    refine go_iload c0_105 rfl ?_
    refine go_push c0_107 ?_
    refine go_iand c0_109 ?_
    have JT : ∀ s t : Int32, t ≠ -1 → Go false KT l Z room_1 x code maxLocals ret n0 room_1.cells room_1.slots (R1 fun w _ => w = .int 1) h21 2 8 135 [.val (.int a), .val (.int b), .val (.int c), .val (.int d), .val (.int e), .val (.long f), .second, .val (.ref a3), .val (.ref a14), .val (.int 2), .val (.int s), .unset, .unset, .unset] [(.int t)] := by
      intro s t ht
      refine go_istore c0_135 rfl rfl ?_
      dsimp only [setl]
      refine go_new (y := x) P22 [(("com/example/satisfy/satisfy/reasoner/IntMap", "bits", "I"), (.int 0)), (("com/example/satisfy/satisfy/reasoner/IntMap", "keys", "[I"), .null), (("com/example/satisfy/satisfy/reasoner/IntMap", "values", "[I"), .null), (("com/example/satisfy/satisfy/reasoner/IntMap", "size", "I"), (.int 0))] c0_137 (t3 hw) (t4 hw) (t5 hw) (⟨⟨Or.inl (t17 hw), .int, by decide, rfl⟩, ⟨⟨Or.inl (t19 hw), (.array .int), by decide, rfl⟩, ⟨⟨Or.inl (t25 hw), (.array .int), by decide, rfl⟩, ⟨⟨Or.inl (t41 hw), .int, by decide, rfl⟩, trivial⟩⟩⟩⟩) (by decide) (by decide) (by decide) ?_
      intro h33 a35 P34
      refine go_more (k' := 3) (n' := 12) (by decide) (by decide) ?_
      refine go_dup c0_140 rfl ?_
      refine go_callN0 (y := x) (W := 1) (argsL := []) (st := [(.ref a35)]) c0_141 rfl rfl (rm_init l Z a0 hw h33 n0 _ a35 P34) (t6 hw) (t7 hw) (t5 hw) (t8 hw) (by decide) (lenOf pd3 rfl) rfl rfl (by decide) (by decide) (by decide) (by decide) rfl ?_
      rintro h37 ⟨ka38, va39, P36⟩
      refine go_more (k' := 5) (n' := 28) (by decide) (by decide) ?_
      have P40 : Hp Z n0 h37 ([(a35, (.inl ("com/example/satisfy/satisfy/reasoner/IntMap", [(("com/example/satisfy/satisfy/reasoner/IntMap", "bits", "I"), (.int (Int32.ofNat 1))), (("com/example/satisfy/satisfy/reasoner/IntMap", "keys", "[I"), (.ref ka38)), (("com/example/satisfy/satisfy/reasoner/IntMap", "values", "[I"), (.ref va39)), (("com/example/satisfy/satisfy/reasoner/IntMap", "size", "I"), (.int (Int32.ofNat 0)))]))), (ka38, (own_ia (List.replicate (2 ^ 1) (-1)))), (va39, (own_ia (List.replicate (2 ^ 1) 0))), (a14, (.inr (.int, "[I", [(.int v0), (.int v1), (.int v2), (.int v3)]))), (a3, (.inr (.int, "[I", [(.int k0), (.int k1), (.int k2), (.int k3)])))]) := P36
      refine go_astore c0_144 rfl rfl rfl ?_
      dsimp only [setl]
      refine go_aload c0_146 rfl rfl ?_
      refine go_aload c0_148 rfl rfl ?_
      refine go_push c0_150 ?_
      refine go_ialoadH P40 (4) c0_151 rfl (by decide) rfl ?_
      refine go_aload c0_152 rfl rfl ?_
      refine go_push c0_154 ?_
      refine go_ialoadH P40 (3) c0_155 rfl (by decide) rfl ?_
      refine go_callV0 (y := x) (W := 0) (argsL := [(.int k0), (.int v0)]) (st := []) c0_156 (rm_put l Z a0 hw h37 n0 _ a35 k0 v0 hk0 ka38 va39 1 0 (List.replicate (2 ^ 1) (-1)) (List.replicate (2 ^ 1) 0) (fun _ => -1) (own_empty 1 (by decide)) P40 (by omega)) (P40.exa (i := 0) rfl) (t26 hw) (t27 hw) (fun _ q => notFace_of_selects (args := #[]) (mvT q (t29 hw))) (t29 hw) (t28 hw) (t5 hw) (t30 hw) (by decide) (lenOf pd4 rfl) rfl rfl (by decide) (by decide) (by decide) (by decide) rfl ?_
      rintro h41 ⟨ka41, va41, b41, n41, ks41, vs41, hle41, Rp41, P41⟩
      refine go_more (k' := 7) (n' := 44) (by decide) (by decide) ?_
      refine go_iload c0_159 rfl ?_
      refine go_push c0_161 ?_
      refine go_icmp_le c0_162 (fun q => absurd q (by decide)) (fun _ => ?_)
      refine go_aload c0_165 rfl rfl ?_
      refine go_aload c0_167 rfl rfl ?_
      refine go_push c0_169 ?_
      refine go_ialoadH P41 (4) c0_170 rfl (by decide) rfl ?_
      refine go_aload c0_171 rfl rfl ?_
      refine go_push c0_173 ?_
      refine go_ialoadH P41 (3) c0_174 rfl (by decide) rfl ?_
      refine go_callV0 (y := x) (W := 0) (argsL := [(.int k1), (.int v1)]) (st := []) c0_175 (rm_put l Z a0 hw h41 n0 _ a35 k1 v1 hk1 ka41 va41 b41 n41 ks41 vs41 (own_up (fun _ => -1) k0 v0) Rp41 P41 (by omega)) (P41.exa (i := 0) rfl) (t26 hw) (t27 hw) (fun _ q => notFace_of_selects (args := #[]) (mvT q (t29 hw))) (t29 hw) (t28 hw) (t5 hw) (t30 hw) (by decide) (lenOf pd4 rfl) rfl rfl (by decide) (by decide) (by decide) (by decide) rfl ?_
      rintro h42 ⟨ka42, va42, b42, n42, ks42, vs42, hle42, Rp42, P42⟩
      refine go_more (k' := 9) (n' := 60) (by decide) (by decide) ?_
      refine go_iload c0_178 rfl ?_
      refine go_push c0_180 ?_
      refine go_icmp_le c0_181 (fun _ => ?_) (fun q => absurd q (by decide))
      refine go_iload c0_197 rfl ?_
      refine go_push c0_199 ?_
      refine go_icmp_le c0_200 (fun _ => ?_) (fun q => absurd q (by decide))
      refine go_aload c0_216 rfl rfl ?_
      refine go_iload c0_218 rfl ?_
      refine go_callV0 (y := x) (W := 0) (argsL := [(.int t)]) (st := []) c0_220 (rm_remove l Z a0 hw h42 n0 _ a35 t ht ka42 va42 b42 n42 ks42 vs42 (own_up (own_up (fun _ => -1) k0 v0) k1 v1) Rp42 P42) (P42.exa (i := 0) rfl) (t42 hw) (t43 hw) (fun _ q => notFace_of_selects (args := #[]) (mvT q (t45 hw))) (t45 hw) (t44 hw) (t5 hw) (t46 hw) (by decide) (lenOf pd2 rfl) rfl rfl (by decide) (by decide) (by decide) (by decide) rfl ?_
      rintro h43 ⟨n43, ks43, vs43, hle43, Rp43, P43⟩
      refine go_more (k' := 9) (n' := 60) (by decide) (by decide) ?_
      refine go_aload c0_223 rfl rfl ?_
      refine go_aload c0_225 rfl rfl ?_
      refine go_push c0_227 ?_
      refine go_ialoadH P43 (4) c0_228 rfl (by decide) rfl ?_
      refine go_callV1 (y := x) (W := 0) (argsL := [(.int k0)]) (st := []) c0_229 (rm_get l Z a0 hw h43 n0 _ a35 k0 hk0 ka42 va42 b42 n43 ks43 vs43 (own_up (own_up (own_up (fun _ => -1) k0 v0) k1 v1) t (-1)) Rp43 P43) (P43.exa (i := 0) rfl) (t47 hw) (t48 hw) (fun _ q => notFace_of_selects (args := #[]) (mvT q (t50 hw))) (t50 hw) (t49 hw) (t5 hw) (t51 hw) (by decide) (lenOf pd0 rfl) rfl rfl (by decide) (by decide) (by decide) (by decide) rfl ?_
      rintro _ _ ⟨rfl, rfl⟩
      refine go_more (k' := 9) (n' := 60) (by decide) (by decide) ?_
      refine go_aload c0_232 rfl rfl ?_
      refine go_push c0_234 ?_
      refine go_ialoadH P43 (4) c0_235 rfl (by decide) rfl ?_
      refine go_iload c0_236 rfl ?_
      refine go_iload c0_238 rfl ?_
      refine go_aload c0_240 rfl rfl ?_
      refine go_aload c0_242 rfl rfl ?_
      refine go_callS1 (y := x) (W := 1) (argsL := [(.int k0), (.int t), (.int 2), (.ref a3), (.ref a14)]) (st := [(.int ((own_up (own_up (own_up (fun _ => -1) k0 v0) k1 v1) t (-1)) k0))]) c0_244 (rm_exp l Z a0 hw h43 n0 _ 4 3 a3 a14 k0 t 2 k0 k1 k2 k3 v0 v1 v2 v3 rfl rfl P43) (t52 hw) (t53 hw) (t54 hw) (t55 hw) (by decide) (lenOf pd5 rfl) rfl rfl (by decide) (by decide) (by decide) (by decide) rfl ?_
      rintro _ _ ⟨rfl, rfl⟩
      refine go_more (k' := 9) (n' := 60) (by decide) (by decide) ?_
      refine go_icmp_ne c0_247 (fun b247 => ?_) (fun b247 => ?_)
      · exact absurd (by first | (unfold own_up own_exp own_e1 own_e0; simp; done) | (unfold own_up own_exp own_e1 own_e0; grind) | (unfold own_up; simp; done) | (unfold own_up; grind)) b247
      · refine go_push c0_250 ?_
        refine go_goto c0_251 ?_
        refine go_istore c0_255 rfl rfl ?_
        dsimp only [setl]
        refine go_iload c0_257 rfl ?_
        refine go_if_eq c0_259 (fun q => absurd q (by decide)) (fun _ => ?_)
        refine go_aload c0_262 rfl rfl ?_
        refine go_aload c0_264 rfl rfl ?_
        refine go_push c0_266 ?_
        refine go_ialoadH P43 (4) c0_267 rfl (by decide) rfl ?_
        refine go_callV1 (y := x) (W := 0) (argsL := [(.int k1)]) (st := []) c0_268 (rm_get l Z a0 hw h43 n0 _ a35 k1 hk1 ka42 va42 b42 n43 ks43 vs43 (own_up (own_up (own_up (fun _ => -1) k0 v0) k1 v1) t (-1)) Rp43 P43) (P43.exa (i := 0) rfl) (t47 hw) (t48 hw) (fun _ q => notFace_of_selects (args := #[]) (mvT q (t50 hw))) (t50 hw) (t49 hw) (t5 hw) (t51 hw) (by decide) (lenOf pd0 rfl) rfl rfl (by decide) (by decide) (by decide) (by decide) rfl ?_
        rintro _ _ ⟨rfl, rfl⟩
        refine go_more (k' := 9) (n' := 60) (by decide) (by decide) ?_
        refine go_aload c0_271 rfl rfl ?_
        refine go_push c0_273 ?_
        refine go_ialoadH P43 (4) c0_274 rfl (by decide) rfl ?_
        refine go_iload c0_275 rfl ?_
        refine go_iload c0_277 rfl ?_
        refine go_aload c0_279 rfl rfl ?_
        refine go_aload c0_281 rfl rfl ?_
        refine go_callS1 (y := x) (W := 1) (argsL := [(.int k1), (.int t), (.int 2), (.ref a3), (.ref a14)]) (st := [(.int ((own_up (own_up (own_up (fun _ => -1) k0 v0) k1 v1) t (-1)) k1))]) c0_283 (rm_exp l Z a0 hw h43 n0 _ 4 3 a3 a14 k1 t 2 k0 k1 k2 k3 v0 v1 v2 v3 rfl rfl P43) (t52 hw) (t53 hw) (t54 hw) (t55 hw) (by decide) (lenOf pd5 rfl) rfl rfl (by decide) (by decide) (by decide) (by decide) rfl ?_
        rintro _ _ ⟨rfl, rfl⟩
        refine go_more (k' := 9) (n' := 60) (by decide) (by decide) ?_
        refine go_icmp_ne c0_286 (fun b286 => ?_) (fun b286 => ?_)
        · exact absurd (by first | (unfold own_up own_exp own_e1 own_e0; simp; done) | (unfold own_up own_exp own_e1 own_e0; grind) | (unfold own_up; simp; done) | (unfold own_up; grind)) b286
        · refine go_push c0_289 ?_
          refine go_goto c0_290 ?_
          refine go_istore c0_294 rfl rfl ?_
          dsimp only [setl]
          refine go_iload c0_296 rfl ?_
          refine go_if_eq c0_298 (fun q => absurd q (by decide)) (fun _ => ?_)
          refine go_aload c0_301 rfl rfl ?_
          refine go_aload c0_303 rfl rfl ?_
          refine go_push c0_305 ?_
          refine go_ialoadH P43 (4) c0_306 rfl (by decide) rfl ?_
          refine go_callV1 (y := x) (W := 0) (argsL := [(.int k2)]) (st := []) c0_307 (rm_get l Z a0 hw h43 n0 _ a35 k2 hk2 ka42 va42 b42 n43 ks43 vs43 (own_up (own_up (own_up (fun _ => -1) k0 v0) k1 v1) t (-1)) Rp43 P43) (P43.exa (i := 0) rfl) (t47 hw) (t48 hw) (fun _ q => notFace_of_selects (args := #[]) (mvT q (t50 hw))) (t50 hw) (t49 hw) (t5 hw) (t51 hw) (by decide) (lenOf pd0 rfl) rfl rfl (by decide) (by decide) (by decide) (by decide) rfl ?_
          rintro _ _ ⟨rfl, rfl⟩
          refine go_more (k' := 9) (n' := 60) (by decide) (by decide) ?_
          refine go_aload c0_310 rfl rfl ?_
          refine go_push c0_312 ?_
          refine go_ialoadH P43 (4) c0_313 rfl (by decide) rfl ?_
          refine go_iload c0_314 rfl ?_
          refine go_iload c0_316 rfl ?_
          refine go_aload c0_318 rfl rfl ?_
          refine go_aload c0_320 rfl rfl ?_
          refine go_callS1 (y := x) (W := 1) (argsL := [(.int k2), (.int t), (.int 2), (.ref a3), (.ref a14)]) (st := [(.int ((own_up (own_up (own_up (fun _ => -1) k0 v0) k1 v1) t (-1)) k2))]) c0_322 (rm_exp l Z a0 hw h43 n0 _ 4 3 a3 a14 k2 t 2 k0 k1 k2 k3 v0 v1 v2 v3 rfl rfl P43) (t52 hw) (t53 hw) (t54 hw) (t55 hw) (by decide) (lenOf pd5 rfl) rfl rfl (by decide) (by decide) (by decide) (by decide) rfl ?_
          rintro _ _ ⟨rfl, rfl⟩
          refine go_more (k' := 9) (n' := 60) (by decide) (by decide) ?_
          refine go_icmp_ne c0_325 (fun b325 => ?_) (fun b325 => ?_)
          · exact absurd (by first | (unfold own_up own_exp own_e1 own_e0; simp; done) | (unfold own_up own_exp own_e1 own_e0; grind) | (unfold own_up; simp; done) | (unfold own_up; grind)) b325
          · refine go_push c0_328 ?_
            refine go_goto c0_329 ?_
            refine go_istore c0_333 rfl rfl ?_
            dsimp only [setl]
            refine go_iload c0_335 rfl ?_
            refine go_if_eq c0_337 (fun q => absurd q (by decide)) (fun _ => ?_)
            refine go_aload c0_340 rfl rfl ?_
            refine go_aload c0_342 rfl rfl ?_
            refine go_push c0_344 ?_
            refine go_ialoadH P43 (4) c0_345 rfl (by decide) rfl ?_
            refine go_callV1 (y := x) (W := 0) (argsL := [(.int k3)]) (st := []) c0_346 (rm_get l Z a0 hw h43 n0 _ a35 k3 hk3 ka42 va42 b42 n43 ks43 vs43 (own_up (own_up (own_up (fun _ => -1) k0 v0) k1 v1) t (-1)) Rp43 P43) (P43.exa (i := 0) rfl) (t47 hw) (t48 hw) (fun _ q => notFace_of_selects (args := #[]) (mvT q (t50 hw))) (t50 hw) (t49 hw) (t5 hw) (t51 hw) (by decide) (lenOf pd0 rfl) rfl rfl (by decide) (by decide) (by decide) (by decide) rfl ?_
            rintro _ _ ⟨rfl, rfl⟩
            refine go_more (k' := 9) (n' := 60) (by decide) (by decide) ?_
            refine go_aload c0_349 rfl rfl ?_
            refine go_push c0_351 ?_
            refine go_ialoadH P43 (4) c0_352 rfl (by decide) rfl ?_
            refine go_iload c0_353 rfl ?_
            refine go_iload c0_355 rfl ?_
            refine go_aload c0_357 rfl rfl ?_
            refine go_aload c0_359 rfl rfl ?_
            refine go_callS1 (y := x) (W := 1) (argsL := [(.int k3), (.int t), (.int 2), (.ref a3), (.ref a14)]) (st := [(.int ((own_up (own_up (own_up (fun _ => -1) k0 v0) k1 v1) t (-1)) k3))]) c0_361 (rm_exp l Z a0 hw h43 n0 _ 4 3 a3 a14 k3 t 2 k0 k1 k2 k3 v0 v1 v2 v3 rfl rfl P43) (t52 hw) (t53 hw) (t54 hw) (t55 hw) (by decide) (lenOf pd5 rfl) rfl rfl (by decide) (by decide) (by decide) (by decide) rfl ?_
            rintro _ _ ⟨rfl, rfl⟩
            refine go_more (k' := 9) (n' := 60) (by decide) (by decide) ?_
            refine go_icmp_ne c0_364 (fun b364 => ?_) (fun b364 => ?_)
            · exact absurd (by first | (unfold own_up own_exp own_e1 own_e0; simp; done) | (unfold own_up own_exp own_e1 own_e0; grind) | (unfold own_up; simp; done) | (unfold own_up; grind)) b364
            · refine go_push c0_367 ?_
              refine go_goto c0_368 ?_
              refine go_istore c0_372 rfl rfl ?_
              dsimp only [setl]
              refine go_iload c0_374 rfl ?_
              refine go_if_eq c0_376 (fun q => absurd q (by decide)) (fun _ => ?_)
              refine go_aload c0_379 rfl rfl ?_
              refine go_iload c0_381 rfl ?_
              refine go_callV1 (y := x) (W := 0) (argsL := [(.int t)]) (st := []) c0_383 (rm_get l Z a0 hw h43 n0 _ a35 t ht ka42 va42 b42 n43 ks43 vs43 (own_up (own_up (own_up (fun _ => -1) k0 v0) k1 v1) t (-1)) Rp43 P43) (P43.exa (i := 0) rfl) (t47 hw) (t48 hw) (fun _ q => notFace_of_selects (args := #[]) (mvT q (t50 hw))) (t50 hw) (t49 hw) (t5 hw) (t51 hw) (by decide) (lenOf pd0 rfl) rfl rfl (by decide) (by decide) (by decide) (by decide) rfl ?_
              rintro _ _ ⟨rfl, rfl⟩
              refine go_more (k' := 9) (n' := 60) (by decide) (by decide) ?_
              refine go_push c0_386 ?_
              refine go_icmp_ne c0_387 (fun b387 => ?_) (fun b387 => ?_)
              · exact absurd (by first | (unfold own_up own_exp own_e1 own_e0; simp; done) | (unfold own_up own_exp own_e1 own_e0; grind) | (unfold own_up; simp; done) | (unfold own_up; grind)) b387
              · refine go_push c0_390 ?_
                refine go_goto c0_391 ?_
                refine go_istore c0_395 rfl rfl ?_
                dsimp only [setl]
                refine go_iload c0_397 rfl ?_
                exact go_bret rfl c0_399 (by decide) (by decide) (by decide) ⟨_, rfl, rfl⟩
    refine go_istore c0_110 rfl rfl ?_
    dsimp only [setl]
    refine go_iload c0_112 rfl ?_
    refine go_push c0_114 ?_
    refine go_icmp_ge c0_115 (fun b115 => ?_) (fun b115 => ?_)
    · refine go_lload c0_126 rfl ?_
      refine go_push c0_128 ?_
      refine go_lushr c0_130 ?_
      refine go_l2i c0_131 ?_
      refine go_ldcI (y := x) c0_132 (t1 hw) ?_
      refine go_iand c0_134 ?_
      exact JT _ _ (own_nn _)
    · rcases own_n8 e b115 with hs | hs | hs | hs
      · refine go_aload c0_118 rfl rfl ?_
        refine go_iload c0_120 rfl ?_
        refine go_isI 0 hs ?_
        refine go_ialoadH P22 (1) c0_122 rfl (by decide) rfl ?_
        refine go_goto c0_123 ?_
        exact JT _ _ hk0
      · refine go_aload c0_118 rfl rfl ?_
        refine go_iload c0_120 rfl ?_
        refine go_isI 1 hs ?_
        refine go_ialoadH P22 (1) c0_122 rfl (by decide) rfl ?_
        refine go_goto c0_123 ?_
        exact JT _ _ hk1
      · refine go_aload c0_118 rfl rfl ?_
        refine go_iload c0_120 rfl ?_
        refine go_isI 2 hs ?_
        refine go_ialoadH P22 (1) c0_122 rfl (by decide) rfl ?_
        refine go_goto c0_123 ?_
        exact JT _ _ hk2
      · refine go_aload c0_118 rfl rfl ?_
        refine go_iload c0_120 rfl ?_
        refine go_isI 3 hs ?_
        refine go_ialoadH P22 (1) c0_122 rfl (by decide) rfl ?_
        refine go_goto c0_123 ?_
        exact JT _ _ hk3
  · refine go_isI 2 hn ?_
    refine go_iadd c0_102 ?_
    refine go_isI 3 (by decide) ?_
    refine go_istore c0_103 rfl rfl ?_
    dsimp only [setl]
    refine go_iload c0_105 rfl ?_
    refine go_push c0_107 ?_
    refine go_iand c0_109 ?_
    have JT : ∀ s t : Int32, t ≠ -1 → Go false KT l Z room_1 x code maxLocals ret n0 room_1.cells room_1.slots (R1 fun w _ => w = .int 1) h21 2 8 135 [.val (.int a), .val (.int b), .val (.int c), .val (.int d), .val (.int e), .val (.long f), .second, .val (.ref a3), .val (.ref a14), .val (.int 3), .val (.int s), .unset, .unset, .unset] [(.int t)] := by
      intro s t ht
      refine go_istore c0_135 rfl rfl ?_
      dsimp only [setl]
      refine go_new (y := x) P22 [(("com/example/satisfy/satisfy/reasoner/IntMap", "bits", "I"), (.int 0)), (("com/example/satisfy/satisfy/reasoner/IntMap", "keys", "[I"), .null), (("com/example/satisfy/satisfy/reasoner/IntMap", "values", "[I"), .null), (("com/example/satisfy/satisfy/reasoner/IntMap", "size", "I"), (.int 0))] c0_137 (t3 hw) (t4 hw) (t5 hw) (⟨⟨Or.inl (t17 hw), .int, by decide, rfl⟩, ⟨⟨Or.inl (t19 hw), (.array .int), by decide, rfl⟩, ⟨⟨Or.inl (t25 hw), (.array .int), by decide, rfl⟩, ⟨⟨Or.inl (t41 hw), .int, by decide, rfl⟩, trivial⟩⟩⟩⟩) (by decide) (by decide) (by decide) ?_
      intro h44 a46 P45
      refine go_more (k' := 3) (n' := 12) (by decide) (by decide) ?_
      refine go_dup c0_140 rfl ?_
      refine go_callN0 (y := x) (W := 1) (argsL := []) (st := [(.ref a46)]) c0_141 rfl rfl (rm_init l Z a0 hw h44 n0 _ a46 P45) (t6 hw) (t7 hw) (t5 hw) (t8 hw) (by decide) (lenOf pd3 rfl) rfl rfl (by decide) (by decide) (by decide) (by decide) rfl ?_
      rintro h48 ⟨ka49, va50, P47⟩
      refine go_more (k' := 5) (n' := 28) (by decide) (by decide) ?_
      have P51 : Hp Z n0 h48 ([(a46, (.inl ("com/example/satisfy/satisfy/reasoner/IntMap", [(("com/example/satisfy/satisfy/reasoner/IntMap", "bits", "I"), (.int (Int32.ofNat 1))), (("com/example/satisfy/satisfy/reasoner/IntMap", "keys", "[I"), (.ref ka49)), (("com/example/satisfy/satisfy/reasoner/IntMap", "values", "[I"), (.ref va50)), (("com/example/satisfy/satisfy/reasoner/IntMap", "size", "I"), (.int (Int32.ofNat 0)))]))), (ka49, (own_ia (List.replicate (2 ^ 1) (-1)))), (va50, (own_ia (List.replicate (2 ^ 1) 0))), (a14, (.inr (.int, "[I", [(.int v0), (.int v1), (.int v2), (.int v3)]))), (a3, (.inr (.int, "[I", [(.int k0), (.int k1), (.int k2), (.int k3)])))]) := P47
      refine go_astore c0_144 rfl rfl rfl ?_
      dsimp only [setl]
      refine go_aload c0_146 rfl rfl ?_
      refine go_aload c0_148 rfl rfl ?_
      refine go_push c0_150 ?_
      refine go_ialoadH P51 (4) c0_151 rfl (by decide) rfl ?_
      refine go_aload c0_152 rfl rfl ?_
      refine go_push c0_154 ?_
      refine go_ialoadH P51 (3) c0_155 rfl (by decide) rfl ?_
      refine go_callV0 (y := x) (W := 0) (argsL := [(.int k0), (.int v0)]) (st := []) c0_156 (rm_put l Z a0 hw h48 n0 _ a46 k0 v0 hk0 ka49 va50 1 0 (List.replicate (2 ^ 1) (-1)) (List.replicate (2 ^ 1) 0) (fun _ => -1) (own_empty 1 (by decide)) P51 (by omega)) (P51.exa (i := 0) rfl) (t26 hw) (t27 hw) (fun _ q => notFace_of_selects (args := #[]) (mvT q (t29 hw))) (t29 hw) (t28 hw) (t5 hw) (t30 hw) (by decide) (lenOf pd4 rfl) rfl rfl (by decide) (by decide) (by decide) (by decide) rfl ?_
      rintro h52 ⟨ka52, va52, b52, n52, ks52, vs52, hle52, Rp52, P52⟩
      refine go_more (k' := 7) (n' := 44) (by decide) (by decide) ?_
      refine go_iload c0_159 rfl ?_
      refine go_push c0_161 ?_
      refine go_icmp_le c0_162 (fun q => absurd q (by decide)) (fun _ => ?_)
      refine go_aload c0_165 rfl rfl ?_
      refine go_aload c0_167 rfl rfl ?_
      refine go_push c0_169 ?_
      refine go_ialoadH P52 (4) c0_170 rfl (by decide) rfl ?_
      refine go_aload c0_171 rfl rfl ?_
      refine go_push c0_173 ?_
      refine go_ialoadH P52 (3) c0_174 rfl (by decide) rfl ?_
      refine go_callV0 (y := x) (W := 0) (argsL := [(.int k1), (.int v1)]) (st := []) c0_175 (rm_put l Z a0 hw h52 n0 _ a46 k1 v1 hk1 ka52 va52 b52 n52 ks52 vs52 (own_up (fun _ => -1) k0 v0) Rp52 P52 (by omega)) (P52.exa (i := 0) rfl) (t26 hw) (t27 hw) (fun _ q => notFace_of_selects (args := #[]) (mvT q (t29 hw))) (t29 hw) (t28 hw) (t5 hw) (t30 hw) (by decide) (lenOf pd4 rfl) rfl rfl (by decide) (by decide) (by decide) (by decide) rfl ?_
      rintro h53 ⟨ka53, va53, b53, n53, ks53, vs53, hle53, Rp53, P53⟩
      refine go_more (k' := 9) (n' := 60) (by decide) (by decide) ?_
      refine go_iload c0_178 rfl ?_
      refine go_push c0_180 ?_
      refine go_icmp_le c0_181 (fun q => absurd q (by decide)) (fun _ => ?_)
      refine go_aload c0_184 rfl rfl ?_
      refine go_aload c0_186 rfl rfl ?_
      refine go_push c0_188 ?_
      refine go_ialoadH P53 (4) c0_189 rfl (by decide) rfl ?_
      refine go_aload c0_190 rfl rfl ?_
      refine go_push c0_192 ?_
      refine go_ialoadH P53 (3) c0_193 rfl (by decide) rfl ?_
      refine go_callV0 (y := x) (W := 0) (argsL := [(.int k2), (.int v2)]) (st := []) c0_194 (rm_put l Z a0 hw h53 n0 _ a46 k2 v2 hk2 ka53 va53 b53 n53 ks53 vs53 (own_up (own_up (fun _ => -1) k0 v0) k1 v1) Rp53 P53 (by omega)) (P53.exa (i := 0) rfl) (t26 hw) (t27 hw) (fun _ q => notFace_of_selects (args := #[]) (mvT q (t29 hw))) (t29 hw) (t28 hw) (t5 hw) (t30 hw) (by decide) (lenOf pd4 rfl) rfl rfl (by decide) (by decide) (by decide) (by decide) rfl ?_
      rintro h54 ⟨ka54, va54, b54, n54, ks54, vs54, hle54, Rp54, P54⟩
      refine go_more (k' := 11) (n' := 76) (by decide) (by decide) ?_
      refine go_iload c0_197 rfl ?_
      refine go_push c0_199 ?_
      refine go_icmp_le c0_200 (fun _ => ?_) (fun q => absurd q (by decide))
      refine go_aload c0_216 rfl rfl ?_
      refine go_iload c0_218 rfl ?_
      refine go_callV0 (y := x) (W := 0) (argsL := [(.int t)]) (st := []) c0_220 (rm_remove l Z a0 hw h54 n0 _ a46 t ht ka54 va54 b54 n54 ks54 vs54 (own_up (own_up (own_up (fun _ => -1) k0 v0) k1 v1) k2 v2) Rp54 P54) (P54.exa (i := 0) rfl) (t42 hw) (t43 hw) (fun _ q => notFace_of_selects (args := #[]) (mvT q (t45 hw))) (t45 hw) (t44 hw) (t5 hw) (t46 hw) (by decide) (lenOf pd2 rfl) rfl rfl (by decide) (by decide) (by decide) (by decide) rfl ?_
      rintro h55 ⟨n55, ks55, vs55, hle55, Rp55, P55⟩
      refine go_more (k' := 11) (n' := 76) (by decide) (by decide) ?_
      refine go_aload c0_223 rfl rfl ?_
      refine go_aload c0_225 rfl rfl ?_
      refine go_push c0_227 ?_
      refine go_ialoadH P55 (4) c0_228 rfl (by decide) rfl ?_
      refine go_callV1 (y := x) (W := 0) (argsL := [(.int k0)]) (st := []) c0_229 (rm_get l Z a0 hw h55 n0 _ a46 k0 hk0 ka54 va54 b54 n55 ks55 vs55 (own_up (own_up (own_up (own_up (fun _ => -1) k0 v0) k1 v1) k2 v2) t (-1)) Rp55 P55) (P55.exa (i := 0) rfl) (t47 hw) (t48 hw) (fun _ q => notFace_of_selects (args := #[]) (mvT q (t50 hw))) (t50 hw) (t49 hw) (t5 hw) (t51 hw) (by decide) (lenOf pd0 rfl) rfl rfl (by decide) (by decide) (by decide) (by decide) rfl ?_
      rintro _ _ ⟨rfl, rfl⟩
      refine go_more (k' := 11) (n' := 76) (by decide) (by decide) ?_
      refine go_aload c0_232 rfl rfl ?_
      refine go_push c0_234 ?_
      refine go_ialoadH P55 (4) c0_235 rfl (by decide) rfl ?_
      refine go_iload c0_236 rfl ?_
      refine go_iload c0_238 rfl ?_
      refine go_aload c0_240 rfl rfl ?_
      refine go_aload c0_242 rfl rfl ?_
      refine go_callS1 (y := x) (W := 1) (argsL := [(.int k0), (.int t), (.int 3), (.ref a3), (.ref a14)]) (st := [(.int ((own_up (own_up (own_up (own_up (fun _ => -1) k0 v0) k1 v1) k2 v2) t (-1)) k0))]) c0_244 (rm_exp l Z a0 hw h55 n0 _ 4 3 a3 a14 k0 t 3 k0 k1 k2 k3 v0 v1 v2 v3 rfl rfl P55) (t52 hw) (t53 hw) (t54 hw) (t55 hw) (by decide) (lenOf pd5 rfl) rfl rfl (by decide) (by decide) (by decide) (by decide) rfl ?_
      rintro _ _ ⟨rfl, rfl⟩
      refine go_more (k' := 11) (n' := 76) (by decide) (by decide) ?_
      refine go_icmp_ne c0_247 (fun b247 => ?_) (fun b247 => ?_)
      · exact absurd (by first | (unfold own_up own_exp own_e1 own_e0; simp; done) | (unfold own_up own_exp own_e1 own_e0; grind) | (unfold own_up; simp; done) | (unfold own_up; grind)) b247
      · refine go_push c0_250 ?_
        refine go_goto c0_251 ?_
        refine go_istore c0_255 rfl rfl ?_
        dsimp only [setl]
        refine go_iload c0_257 rfl ?_
        refine go_if_eq c0_259 (fun q => absurd q (by decide)) (fun _ => ?_)
        refine go_aload c0_262 rfl rfl ?_
        refine go_aload c0_264 rfl rfl ?_
        refine go_push c0_266 ?_
        refine go_ialoadH P55 (4) c0_267 rfl (by decide) rfl ?_
        refine go_callV1 (y := x) (W := 0) (argsL := [(.int k1)]) (st := []) c0_268 (rm_get l Z a0 hw h55 n0 _ a46 k1 hk1 ka54 va54 b54 n55 ks55 vs55 (own_up (own_up (own_up (own_up (fun _ => -1) k0 v0) k1 v1) k2 v2) t (-1)) Rp55 P55) (P55.exa (i := 0) rfl) (t47 hw) (t48 hw) (fun _ q => notFace_of_selects (args := #[]) (mvT q (t50 hw))) (t50 hw) (t49 hw) (t5 hw) (t51 hw) (by decide) (lenOf pd0 rfl) rfl rfl (by decide) (by decide) (by decide) (by decide) rfl ?_
        rintro _ _ ⟨rfl, rfl⟩
        refine go_more (k' := 11) (n' := 76) (by decide) (by decide) ?_
        refine go_aload c0_271 rfl rfl ?_
        refine go_push c0_273 ?_
        refine go_ialoadH P55 (4) c0_274 rfl (by decide) rfl ?_
        refine go_iload c0_275 rfl ?_
        refine go_iload c0_277 rfl ?_
        refine go_aload c0_279 rfl rfl ?_
        refine go_aload c0_281 rfl rfl ?_
        refine go_callS1 (y := x) (W := 1) (argsL := [(.int k1), (.int t), (.int 3), (.ref a3), (.ref a14)]) (st := [(.int ((own_up (own_up (own_up (own_up (fun _ => -1) k0 v0) k1 v1) k2 v2) t (-1)) k1))]) c0_283 (rm_exp l Z a0 hw h55 n0 _ 4 3 a3 a14 k1 t 3 k0 k1 k2 k3 v0 v1 v2 v3 rfl rfl P55) (t52 hw) (t53 hw) (t54 hw) (t55 hw) (by decide) (lenOf pd5 rfl) rfl rfl (by decide) (by decide) (by decide) (by decide) rfl ?_
        rintro _ _ ⟨rfl, rfl⟩
        refine go_more (k' := 11) (n' := 76) (by decide) (by decide) ?_
        refine go_icmp_ne c0_286 (fun b286 => ?_) (fun b286 => ?_)
        · exact absurd (by first | (unfold own_up own_exp own_e1 own_e0; simp; done) | (unfold own_up own_exp own_e1 own_e0; grind) | (unfold own_up; simp; done) | (unfold own_up; grind)) b286
        · refine go_push c0_289 ?_
          refine go_goto c0_290 ?_
          refine go_istore c0_294 rfl rfl ?_
          dsimp only [setl]
          refine go_iload c0_296 rfl ?_
          refine go_if_eq c0_298 (fun q => absurd q (by decide)) (fun _ => ?_)
          refine go_aload c0_301 rfl rfl ?_
          refine go_aload c0_303 rfl rfl ?_
          refine go_push c0_305 ?_
          refine go_ialoadH P55 (4) c0_306 rfl (by decide) rfl ?_
          refine go_callV1 (y := x) (W := 0) (argsL := [(.int k2)]) (st := []) c0_307 (rm_get l Z a0 hw h55 n0 _ a46 k2 hk2 ka54 va54 b54 n55 ks55 vs55 (own_up (own_up (own_up (own_up (fun _ => -1) k0 v0) k1 v1) k2 v2) t (-1)) Rp55 P55) (P55.exa (i := 0) rfl) (t47 hw) (t48 hw) (fun _ q => notFace_of_selects (args := #[]) (mvT q (t50 hw))) (t50 hw) (t49 hw) (t5 hw) (t51 hw) (by decide) (lenOf pd0 rfl) rfl rfl (by decide) (by decide) (by decide) (by decide) rfl ?_
          rintro _ _ ⟨rfl, rfl⟩
          refine go_more (k' := 11) (n' := 76) (by decide) (by decide) ?_
          refine go_aload c0_310 rfl rfl ?_
          refine go_push c0_312 ?_
          refine go_ialoadH P55 (4) c0_313 rfl (by decide) rfl ?_
          refine go_iload c0_314 rfl ?_
          refine go_iload c0_316 rfl ?_
          refine go_aload c0_318 rfl rfl ?_
          refine go_aload c0_320 rfl rfl ?_
          refine go_callS1 (y := x) (W := 1) (argsL := [(.int k2), (.int t), (.int 3), (.ref a3), (.ref a14)]) (st := [(.int ((own_up (own_up (own_up (own_up (fun _ => -1) k0 v0) k1 v1) k2 v2) t (-1)) k2))]) c0_322 (rm_exp l Z a0 hw h55 n0 _ 4 3 a3 a14 k2 t 3 k0 k1 k2 k3 v0 v1 v2 v3 rfl rfl P55) (t52 hw) (t53 hw) (t54 hw) (t55 hw) (by decide) (lenOf pd5 rfl) rfl rfl (by decide) (by decide) (by decide) (by decide) rfl ?_
          rintro _ _ ⟨rfl, rfl⟩
          refine go_more (k' := 11) (n' := 76) (by decide) (by decide) ?_
          refine go_icmp_ne c0_325 (fun b325 => ?_) (fun b325 => ?_)
          · exact absurd (by first | (unfold own_up own_exp own_e1 own_e0; simp; done) | (unfold own_up own_exp own_e1 own_e0; grind) | (unfold own_up; simp; done) | (unfold own_up; grind)) b325
          · refine go_push c0_328 ?_
            refine go_goto c0_329 ?_
            refine go_istore c0_333 rfl rfl ?_
            dsimp only [setl]
            refine go_iload c0_335 rfl ?_
            refine go_if_eq c0_337 (fun q => absurd q (by decide)) (fun _ => ?_)
            refine go_aload c0_340 rfl rfl ?_
            refine go_aload c0_342 rfl rfl ?_
            refine go_push c0_344 ?_
            refine go_ialoadH P55 (4) c0_345 rfl (by decide) rfl ?_
            refine go_callV1 (y := x) (W := 0) (argsL := [(.int k3)]) (st := []) c0_346 (rm_get l Z a0 hw h55 n0 _ a46 k3 hk3 ka54 va54 b54 n55 ks55 vs55 (own_up (own_up (own_up (own_up (fun _ => -1) k0 v0) k1 v1) k2 v2) t (-1)) Rp55 P55) (P55.exa (i := 0) rfl) (t47 hw) (t48 hw) (fun _ q => notFace_of_selects (args := #[]) (mvT q (t50 hw))) (t50 hw) (t49 hw) (t5 hw) (t51 hw) (by decide) (lenOf pd0 rfl) rfl rfl (by decide) (by decide) (by decide) (by decide) rfl ?_
            rintro _ _ ⟨rfl, rfl⟩
            refine go_more (k' := 11) (n' := 76) (by decide) (by decide) ?_
            refine go_aload c0_349 rfl rfl ?_
            refine go_push c0_351 ?_
            refine go_ialoadH P55 (4) c0_352 rfl (by decide) rfl ?_
            refine go_iload c0_353 rfl ?_
            refine go_iload c0_355 rfl ?_
            refine go_aload c0_357 rfl rfl ?_
            refine go_aload c0_359 rfl rfl ?_
            refine go_callS1 (y := x) (W := 1) (argsL := [(.int k3), (.int t), (.int 3), (.ref a3), (.ref a14)]) (st := [(.int ((own_up (own_up (own_up (own_up (fun _ => -1) k0 v0) k1 v1) k2 v2) t (-1)) k3))]) c0_361 (rm_exp l Z a0 hw h55 n0 _ 4 3 a3 a14 k3 t 3 k0 k1 k2 k3 v0 v1 v2 v3 rfl rfl P55) (t52 hw) (t53 hw) (t54 hw) (t55 hw) (by decide) (lenOf pd5 rfl) rfl rfl (by decide) (by decide) (by decide) (by decide) rfl ?_
            rintro _ _ ⟨rfl, rfl⟩
            refine go_more (k' := 11) (n' := 76) (by decide) (by decide) ?_
            refine go_icmp_ne c0_364 (fun b364 => ?_) (fun b364 => ?_)
            · exact absurd (by first | (unfold own_up own_exp own_e1 own_e0; simp; done) | (unfold own_up own_exp own_e1 own_e0; grind) | (unfold own_up; simp; done) | (unfold own_up; grind)) b364
            · refine go_push c0_367 ?_
              refine go_goto c0_368 ?_
              refine go_istore c0_372 rfl rfl ?_
              dsimp only [setl]
              refine go_iload c0_374 rfl ?_
              refine go_if_eq c0_376 (fun q => absurd q (by decide)) (fun _ => ?_)
              refine go_aload c0_379 rfl rfl ?_
              refine go_iload c0_381 rfl ?_
              refine go_callV1 (y := x) (W := 0) (argsL := [(.int t)]) (st := []) c0_383 (rm_get l Z a0 hw h55 n0 _ a46 t ht ka54 va54 b54 n55 ks55 vs55 (own_up (own_up (own_up (own_up (fun _ => -1) k0 v0) k1 v1) k2 v2) t (-1)) Rp55 P55) (P55.exa (i := 0) rfl) (t47 hw) (t48 hw) (fun _ q => notFace_of_selects (args := #[]) (mvT q (t50 hw))) (t50 hw) (t49 hw) (t5 hw) (t51 hw) (by decide) (lenOf pd0 rfl) rfl rfl (by decide) (by decide) (by decide) (by decide) rfl ?_
              rintro _ _ ⟨rfl, rfl⟩
              refine go_more (k' := 11) (n' := 76) (by decide) (by decide) ?_
              refine go_push c0_386 ?_
              refine go_icmp_ne c0_387 (fun b387 => ?_) (fun b387 => ?_)
              · exact absurd (by first | (unfold own_up own_exp own_e1 own_e0; simp; done) | (unfold own_up own_exp own_e1 own_e0; grind) | (unfold own_up; simp; done) | (unfold own_up; grind)) b387
              · refine go_push c0_390 ?_
                refine go_goto c0_391 ?_
                refine go_istore c0_395 rfl rfl ?_
                dsimp only [setl]
                refine go_iload c0_397 rfl ?_
                exact go_bret rfl c0_399 (by decide) (by decide) (by decide) ⟨_, rfl, rfl⟩
    refine go_istore c0_110 rfl rfl ?_
    dsimp only [setl]
    refine go_iload c0_112 rfl ?_
    refine go_push c0_114 ?_
    refine go_icmp_ge c0_115 (fun b115 => ?_) (fun b115 => ?_)
    · refine go_lload c0_126 rfl ?_
      refine go_push c0_128 ?_
      refine go_lushr c0_130 ?_
      refine go_l2i c0_131 ?_
      refine go_ldcI (y := x) c0_132 (t1 hw) ?_
      refine go_iand c0_134 ?_
      exact JT _ _ (own_nn _)
    · rcases own_n8 e b115 with hs | hs | hs | hs
      · refine go_aload c0_118 rfl rfl ?_
        refine go_iload c0_120 rfl ?_
        refine go_isI 0 hs ?_
        refine go_ialoadH P22 (1) c0_122 rfl (by decide) rfl ?_
        refine go_goto c0_123 ?_
        exact JT _ _ hk0
      · refine go_aload c0_118 rfl rfl ?_
        refine go_iload c0_120 rfl ?_
        refine go_isI 1 hs ?_
        refine go_ialoadH P22 (1) c0_122 rfl (by decide) rfl ?_
        refine go_goto c0_123 ?_
        exact JT _ _ hk1
      · refine go_aload c0_118 rfl rfl ?_
        refine go_iload c0_120 rfl ?_
        refine go_isI 2 hs ?_
        refine go_ialoadH P22 (1) c0_122 rfl (by decide) rfl ?_
        refine go_goto c0_123 ?_
        exact JT _ _ hk2
      · refine go_aload c0_118 rfl rfl ?_
        refine go_iload c0_120 rfl ?_
        refine go_isI 3 hs ?_
        refine go_ialoadH P22 (1) c0_122 rfl (by decide) rfl ?_
        refine go_goto c0_123 ?_
        exact JT _ _ hk3
  · refine go_isI 3 hn ?_
    refine go_iadd c0_102 ?_
    refine go_isI 4 (by decide) ?_
    refine go_istore c0_103 rfl rfl ?_
    dsimp only [setl]
    refine go_iload c0_105 rfl ?_
    refine go_push c0_107 ?_
    refine go_iand c0_109 ?_
    have JT : ∀ s t : Int32, t ≠ -1 → Go false KT l Z room_1 x code maxLocals ret n0 room_1.cells room_1.slots (R1 fun w _ => w = .int 1) h21 2 8 135 [.val (.int a), .val (.int b), .val (.int c), .val (.int d), .val (.int e), .val (.long f), .second, .val (.ref a3), .val (.ref a14), .val (.int 4), .val (.int s), .unset, .unset, .unset] [(.int t)] := by
      intro s t ht
      refine go_istore c0_135 rfl rfl ?_
      dsimp only [setl]
      refine go_new (y := x) P22 [(("com/example/satisfy/satisfy/reasoner/IntMap", "bits", "I"), (.int 0)), (("com/example/satisfy/satisfy/reasoner/IntMap", "keys", "[I"), .null), (("com/example/satisfy/satisfy/reasoner/IntMap", "values", "[I"), .null), (("com/example/satisfy/satisfy/reasoner/IntMap", "size", "I"), (.int 0))] c0_137 (t3 hw) (t4 hw) (t5 hw) (⟨⟨Or.inl (t17 hw), .int, by decide, rfl⟩, ⟨⟨Or.inl (t19 hw), (.array .int), by decide, rfl⟩, ⟨⟨Or.inl (t25 hw), (.array .int), by decide, rfl⟩, ⟨⟨Or.inl (t41 hw), .int, by decide, rfl⟩, trivial⟩⟩⟩⟩) (by decide) (by decide) (by decide) ?_
      intro h56 a58 P57
      refine go_more (k' := 3) (n' := 12) (by decide) (by decide) ?_
      refine go_dup c0_140 rfl ?_
      refine go_callN0 (y := x) (W := 1) (argsL := []) (st := [(.ref a58)]) c0_141 rfl rfl (rm_init l Z a0 hw h56 n0 _ a58 P57) (t6 hw) (t7 hw) (t5 hw) (t8 hw) (by decide) (lenOf pd3 rfl) rfl rfl (by decide) (by decide) (by decide) (by decide) rfl ?_
      rintro h60 ⟨ka61, va62, P59⟩
      refine go_more (k' := 5) (n' := 28) (by decide) (by decide) ?_
      have P63 : Hp Z n0 h60 ([(a58, (.inl ("com/example/satisfy/satisfy/reasoner/IntMap", [(("com/example/satisfy/satisfy/reasoner/IntMap", "bits", "I"), (.int (Int32.ofNat 1))), (("com/example/satisfy/satisfy/reasoner/IntMap", "keys", "[I"), (.ref ka61)), (("com/example/satisfy/satisfy/reasoner/IntMap", "values", "[I"), (.ref va62)), (("com/example/satisfy/satisfy/reasoner/IntMap", "size", "I"), (.int (Int32.ofNat 0)))]))), (ka61, (own_ia (List.replicate (2 ^ 1) (-1)))), (va62, (own_ia (List.replicate (2 ^ 1) 0))), (a14, (.inr (.int, "[I", [(.int v0), (.int v1), (.int v2), (.int v3)]))), (a3, (.inr (.int, "[I", [(.int k0), (.int k1), (.int k2), (.int k3)])))]) := P59
      refine go_astore c0_144 rfl rfl rfl ?_
      dsimp only [setl]
      refine go_aload c0_146 rfl rfl ?_
      refine go_aload c0_148 rfl rfl ?_
      refine go_push c0_150 ?_
      refine go_ialoadH P63 (4) c0_151 rfl (by decide) rfl ?_
      refine go_aload c0_152 rfl rfl ?_
      refine go_push c0_154 ?_
      refine go_ialoadH P63 (3) c0_155 rfl (by decide) rfl ?_
      refine go_callV0 (y := x) (W := 0) (argsL := [(.int k0), (.int v0)]) (st := []) c0_156 (rm_put l Z a0 hw h60 n0 _ a58 k0 v0 hk0 ka61 va62 1 0 (List.replicate (2 ^ 1) (-1)) (List.replicate (2 ^ 1) 0) (fun _ => -1) (own_empty 1 (by decide)) P63 (by omega)) (P63.exa (i := 0) rfl) (t26 hw) (t27 hw) (fun _ q => notFace_of_selects (args := #[]) (mvT q (t29 hw))) (t29 hw) (t28 hw) (t5 hw) (t30 hw) (by decide) (lenOf pd4 rfl) rfl rfl (by decide) (by decide) (by decide) (by decide) rfl ?_
      rintro h64 ⟨ka64, va64, b64, n64, ks64, vs64, hle64, Rp64, P64⟩
      refine go_more (k' := 7) (n' := 44) (by decide) (by decide) ?_
      refine go_iload c0_159 rfl ?_
      refine go_push c0_161 ?_
      refine go_icmp_le c0_162 (fun q => absurd q (by decide)) (fun _ => ?_)
      refine go_aload c0_165 rfl rfl ?_
      refine go_aload c0_167 rfl rfl ?_
      refine go_push c0_169 ?_
      refine go_ialoadH P64 (4) c0_170 rfl (by decide) rfl ?_
      refine go_aload c0_171 rfl rfl ?_
      refine go_push c0_173 ?_
      refine go_ialoadH P64 (3) c0_174 rfl (by decide) rfl ?_
      refine go_callV0 (y := x) (W := 0) (argsL := [(.int k1), (.int v1)]) (st := []) c0_175 (rm_put l Z a0 hw h64 n0 _ a58 k1 v1 hk1 ka64 va64 b64 n64 ks64 vs64 (own_up (fun _ => -1) k0 v0) Rp64 P64 (by omega)) (P64.exa (i := 0) rfl) (t26 hw) (t27 hw) (fun _ q => notFace_of_selects (args := #[]) (mvT q (t29 hw))) (t29 hw) (t28 hw) (t5 hw) (t30 hw) (by decide) (lenOf pd4 rfl) rfl rfl (by decide) (by decide) (by decide) (by decide) rfl ?_
      rintro h65 ⟨ka65, va65, b65, n65, ks65, vs65, hle65, Rp65, P65⟩
      refine go_more (k' := 9) (n' := 60) (by decide) (by decide) ?_
      refine go_iload c0_178 rfl ?_
      refine go_push c0_180 ?_
      refine go_icmp_le c0_181 (fun q => absurd q (by decide)) (fun _ => ?_)
      refine go_aload c0_184 rfl rfl ?_
      refine go_aload c0_186 rfl rfl ?_
      refine go_push c0_188 ?_
      refine go_ialoadH P65 (4) c0_189 rfl (by decide) rfl ?_
      refine go_aload c0_190 rfl rfl ?_
      refine go_push c0_192 ?_
      refine go_ialoadH P65 (3) c0_193 rfl (by decide) rfl ?_
      refine go_callV0 (y := x) (W := 0) (argsL := [(.int k2), (.int v2)]) (st := []) c0_194 (rm_put l Z a0 hw h65 n0 _ a58 k2 v2 hk2 ka65 va65 b65 n65 ks65 vs65 (own_up (own_up (fun _ => -1) k0 v0) k1 v1) Rp65 P65 (by omega)) (P65.exa (i := 0) rfl) (t26 hw) (t27 hw) (fun _ q => notFace_of_selects (args := #[]) (mvT q (t29 hw))) (t29 hw) (t28 hw) (t5 hw) (t30 hw) (by decide) (lenOf pd4 rfl) rfl rfl (by decide) (by decide) (by decide) (by decide) rfl ?_
      rintro h66 ⟨ka66, va66, b66, n66, ks66, vs66, hle66, Rp66, P66⟩
      refine go_more (k' := 11) (n' := 76) (by decide) (by decide) ?_
      refine go_iload c0_197 rfl ?_
      refine go_push c0_199 ?_
      refine go_icmp_le c0_200 (fun q => absurd q (by decide)) (fun _ => ?_)
      refine go_aload c0_203 rfl rfl ?_
      refine go_aload c0_205 rfl rfl ?_
      refine go_push c0_207 ?_
      refine go_ialoadH P66 (4) c0_208 rfl (by decide) rfl ?_
      refine go_aload c0_209 rfl rfl ?_
      refine go_push c0_211 ?_
      refine go_ialoadH P66 (3) c0_212 rfl (by decide) rfl ?_
      refine go_callV0 (y := x) (W := 0) (argsL := [(.int k3), (.int v3)]) (st := []) c0_213 (rm_put l Z a0 hw h66 n0 _ a58 k3 v3 hk3 ka66 va66 b66 n66 ks66 vs66 (own_up (own_up (own_up (fun _ => -1) k0 v0) k1 v1) k2 v2) Rp66 P66 (by omega)) (P66.exa (i := 0) rfl) (t26 hw) (t27 hw) (fun _ q => notFace_of_selects (args := #[]) (mvT q (t29 hw))) (t29 hw) (t28 hw) (t5 hw) (t30 hw) (by decide) (lenOf pd4 rfl) rfl rfl (by decide) (by decide) (by decide) (by decide) rfl ?_
      rintro h67 ⟨ka67, va67, b67, n67, ks67, vs67, hle67, Rp67, P67⟩
      refine go_more (k' := 13) (n' := 92) (by decide) (by decide) ?_
      refine go_aload c0_216 rfl rfl ?_
      refine go_iload c0_218 rfl ?_
      refine go_callV0 (y := x) (W := 0) (argsL := [(.int t)]) (st := []) c0_220 (rm_remove l Z a0 hw h67 n0 _ a58 t ht ka67 va67 b67 n67 ks67 vs67 (own_up (own_up (own_up (own_up (fun _ => -1) k0 v0) k1 v1) k2 v2) k3 v3) Rp67 P67) (P67.exa (i := 0) rfl) (t42 hw) (t43 hw) (fun _ q => notFace_of_selects (args := #[]) (mvT q (t45 hw))) (t45 hw) (t44 hw) (t5 hw) (t46 hw) (by decide) (lenOf pd2 rfl) rfl rfl (by decide) (by decide) (by decide) (by decide) rfl ?_
      rintro h68 ⟨n68, ks68, vs68, hle68, Rp68, P68⟩
      refine go_more (k' := 13) (n' := 92) (by decide) (by decide) ?_
      refine go_aload c0_223 rfl rfl ?_
      refine go_aload c0_225 rfl rfl ?_
      refine go_push c0_227 ?_
      refine go_ialoadH P68 (4) c0_228 rfl (by decide) rfl ?_
      refine go_callV1 (y := x) (W := 0) (argsL := [(.int k0)]) (st := []) c0_229 (rm_get l Z a0 hw h68 n0 _ a58 k0 hk0 ka67 va67 b67 n68 ks68 vs68 (own_up (own_up (own_up (own_up (own_up (fun _ => -1) k0 v0) k1 v1) k2 v2) k3 v3) t (-1)) Rp68 P68) (P68.exa (i := 0) rfl) (t47 hw) (t48 hw) (fun _ q => notFace_of_selects (args := #[]) (mvT q (t50 hw))) (t50 hw) (t49 hw) (t5 hw) (t51 hw) (by decide) (lenOf pd0 rfl) rfl rfl (by decide) (by decide) (by decide) (by decide) rfl ?_
      rintro _ _ ⟨rfl, rfl⟩
      refine go_more (k' := 13) (n' := 92) (by decide) (by decide) ?_
      refine go_aload c0_232 rfl rfl ?_
      refine go_push c0_234 ?_
      refine go_ialoadH P68 (4) c0_235 rfl (by decide) rfl ?_
      refine go_iload c0_236 rfl ?_
      refine go_iload c0_238 rfl ?_
      refine go_aload c0_240 rfl rfl ?_
      refine go_aload c0_242 rfl rfl ?_
      refine go_callS1 (y := x) (W := 1) (argsL := [(.int k0), (.int t), (.int 4), (.ref a3), (.ref a14)]) (st := [(.int ((own_up (own_up (own_up (own_up (own_up (fun _ => -1) k0 v0) k1 v1) k2 v2) k3 v3) t (-1)) k0))]) c0_244 (rm_exp l Z a0 hw h68 n0 _ 4 3 a3 a14 k0 t 4 k0 k1 k2 k3 v0 v1 v2 v3 rfl rfl P68) (t52 hw) (t53 hw) (t54 hw) (t55 hw) (by decide) (lenOf pd5 rfl) rfl rfl (by decide) (by decide) (by decide) (by decide) rfl ?_
      rintro _ _ ⟨rfl, rfl⟩
      refine go_more (k' := 13) (n' := 92) (by decide) (by decide) ?_
      refine go_icmp_ne c0_247 (fun b247 => ?_) (fun b247 => ?_)
      · exact absurd (by first | (unfold own_up own_exp own_e1 own_e0; simp; done) | (unfold own_up own_exp own_e1 own_e0; grind) | (unfold own_up; simp; done) | (unfold own_up; grind)) b247
      · refine go_push c0_250 ?_
        refine go_goto c0_251 ?_
        refine go_istore c0_255 rfl rfl ?_
        dsimp only [setl]
        refine go_iload c0_257 rfl ?_
        refine go_if_eq c0_259 (fun q => absurd q (by decide)) (fun _ => ?_)
        refine go_aload c0_262 rfl rfl ?_
        refine go_aload c0_264 rfl rfl ?_
        refine go_push c0_266 ?_
        refine go_ialoadH P68 (4) c0_267 rfl (by decide) rfl ?_
        refine go_callV1 (y := x) (W := 0) (argsL := [(.int k1)]) (st := []) c0_268 (rm_get l Z a0 hw h68 n0 _ a58 k1 hk1 ka67 va67 b67 n68 ks68 vs68 (own_up (own_up (own_up (own_up (own_up (fun _ => -1) k0 v0) k1 v1) k2 v2) k3 v3) t (-1)) Rp68 P68) (P68.exa (i := 0) rfl) (t47 hw) (t48 hw) (fun _ q => notFace_of_selects (args := #[]) (mvT q (t50 hw))) (t50 hw) (t49 hw) (t5 hw) (t51 hw) (by decide) (lenOf pd0 rfl) rfl rfl (by decide) (by decide) (by decide) (by decide) rfl ?_
        rintro _ _ ⟨rfl, rfl⟩
        refine go_more (k' := 13) (n' := 92) (by decide) (by decide) ?_
        refine go_aload c0_271 rfl rfl ?_
        refine go_push c0_273 ?_
        refine go_ialoadH P68 (4) c0_274 rfl (by decide) rfl ?_
        refine go_iload c0_275 rfl ?_
        refine go_iload c0_277 rfl ?_
        refine go_aload c0_279 rfl rfl ?_
        refine go_aload c0_281 rfl rfl ?_
        refine go_callS1 (y := x) (W := 1) (argsL := [(.int k1), (.int t), (.int 4), (.ref a3), (.ref a14)]) (st := [(.int ((own_up (own_up (own_up (own_up (own_up (fun _ => -1) k0 v0) k1 v1) k2 v2) k3 v3) t (-1)) k1))]) c0_283 (rm_exp l Z a0 hw h68 n0 _ 4 3 a3 a14 k1 t 4 k0 k1 k2 k3 v0 v1 v2 v3 rfl rfl P68) (t52 hw) (t53 hw) (t54 hw) (t55 hw) (by decide) (lenOf pd5 rfl) rfl rfl (by decide) (by decide) (by decide) (by decide) rfl ?_
        rintro _ _ ⟨rfl, rfl⟩
        refine go_more (k' := 13) (n' := 92) (by decide) (by decide) ?_
        refine go_icmp_ne c0_286 (fun b286 => ?_) (fun b286 => ?_)
        · exact absurd (by first | (unfold own_up own_exp own_e1 own_e0; simp; done) | (unfold own_up own_exp own_e1 own_e0; grind) | (unfold own_up; simp; done) | (unfold own_up; grind)) b286
        · refine go_push c0_289 ?_
          refine go_goto c0_290 ?_
          refine go_istore c0_294 rfl rfl ?_
          dsimp only [setl]
          refine go_iload c0_296 rfl ?_
          refine go_if_eq c0_298 (fun q => absurd q (by decide)) (fun _ => ?_)
          refine go_aload c0_301 rfl rfl ?_
          refine go_aload c0_303 rfl rfl ?_
          refine go_push c0_305 ?_
          refine go_ialoadH P68 (4) c0_306 rfl (by decide) rfl ?_
          refine go_callV1 (y := x) (W := 0) (argsL := [(.int k2)]) (st := []) c0_307 (rm_get l Z a0 hw h68 n0 _ a58 k2 hk2 ka67 va67 b67 n68 ks68 vs68 (own_up (own_up (own_up (own_up (own_up (fun _ => -1) k0 v0) k1 v1) k2 v2) k3 v3) t (-1)) Rp68 P68) (P68.exa (i := 0) rfl) (t47 hw) (t48 hw) (fun _ q => notFace_of_selects (args := #[]) (mvT q (t50 hw))) (t50 hw) (t49 hw) (t5 hw) (t51 hw) (by decide) (lenOf pd0 rfl) rfl rfl (by decide) (by decide) (by decide) (by decide) rfl ?_
          rintro _ _ ⟨rfl, rfl⟩
          refine go_more (k' := 13) (n' := 92) (by decide) (by decide) ?_
          refine go_aload c0_310 rfl rfl ?_
          refine go_push c0_312 ?_
          refine go_ialoadH P68 (4) c0_313 rfl (by decide) rfl ?_
          refine go_iload c0_314 rfl ?_
          refine go_iload c0_316 rfl ?_
          refine go_aload c0_318 rfl rfl ?_
          refine go_aload c0_320 rfl rfl ?_
          refine go_callS1 (y := x) (W := 1) (argsL := [(.int k2), (.int t), (.int 4), (.ref a3), (.ref a14)]) (st := [(.int ((own_up (own_up (own_up (own_up (own_up (fun _ => -1) k0 v0) k1 v1) k2 v2) k3 v3) t (-1)) k2))]) c0_322 (rm_exp l Z a0 hw h68 n0 _ 4 3 a3 a14 k2 t 4 k0 k1 k2 k3 v0 v1 v2 v3 rfl rfl P68) (t52 hw) (t53 hw) (t54 hw) (t55 hw) (by decide) (lenOf pd5 rfl) rfl rfl (by decide) (by decide) (by decide) (by decide) rfl ?_
          rintro _ _ ⟨rfl, rfl⟩
          refine go_more (k' := 13) (n' := 92) (by decide) (by decide) ?_
          refine go_icmp_ne c0_325 (fun b325 => ?_) (fun b325 => ?_)
          · exact absurd (by first | (unfold own_up own_exp own_e1 own_e0; simp; done) | (unfold own_up own_exp own_e1 own_e0; grind) | (unfold own_up; simp; done) | (unfold own_up; grind)) b325
          · refine go_push c0_328 ?_
            refine go_goto c0_329 ?_
            refine go_istore c0_333 rfl rfl ?_
            dsimp only [setl]
            refine go_iload c0_335 rfl ?_
            refine go_if_eq c0_337 (fun q => absurd q (by decide)) (fun _ => ?_)
            refine go_aload c0_340 rfl rfl ?_
            refine go_aload c0_342 rfl rfl ?_
            refine go_push c0_344 ?_
            refine go_ialoadH P68 (4) c0_345 rfl (by decide) rfl ?_
            refine go_callV1 (y := x) (W := 0) (argsL := [(.int k3)]) (st := []) c0_346 (rm_get l Z a0 hw h68 n0 _ a58 k3 hk3 ka67 va67 b67 n68 ks68 vs68 (own_up (own_up (own_up (own_up (own_up (fun _ => -1) k0 v0) k1 v1) k2 v2) k3 v3) t (-1)) Rp68 P68) (P68.exa (i := 0) rfl) (t47 hw) (t48 hw) (fun _ q => notFace_of_selects (args := #[]) (mvT q (t50 hw))) (t50 hw) (t49 hw) (t5 hw) (t51 hw) (by decide) (lenOf pd0 rfl) rfl rfl (by decide) (by decide) (by decide) (by decide) rfl ?_
            rintro _ _ ⟨rfl, rfl⟩
            refine go_more (k' := 13) (n' := 92) (by decide) (by decide) ?_
            refine go_aload c0_349 rfl rfl ?_
            refine go_push c0_351 ?_
            refine go_ialoadH P68 (4) c0_352 rfl (by decide) rfl ?_
            refine go_iload c0_353 rfl ?_
            refine go_iload c0_355 rfl ?_
            refine go_aload c0_357 rfl rfl ?_
            refine go_aload c0_359 rfl rfl ?_
            refine go_callS1 (y := x) (W := 1) (argsL := [(.int k3), (.int t), (.int 4), (.ref a3), (.ref a14)]) (st := [(.int ((own_up (own_up (own_up (own_up (own_up (fun _ => -1) k0 v0) k1 v1) k2 v2) k3 v3) t (-1)) k3))]) c0_361 (rm_exp l Z a0 hw h68 n0 _ 4 3 a3 a14 k3 t 4 k0 k1 k2 k3 v0 v1 v2 v3 rfl rfl P68) (t52 hw) (t53 hw) (t54 hw) (t55 hw) (by decide) (lenOf pd5 rfl) rfl rfl (by decide) (by decide) (by decide) (by decide) rfl ?_
            rintro _ _ ⟨rfl, rfl⟩
            refine go_more (k' := 13) (n' := 92) (by decide) (by decide) ?_
            refine go_icmp_ne c0_364 (fun b364 => ?_) (fun b364 => ?_)
            · exact absurd (by first | (unfold own_up own_exp own_e1 own_e0; simp; done) | (unfold own_up own_exp own_e1 own_e0; grind) | (unfold own_up; simp; done) | (unfold own_up; grind)) b364
            · refine go_push c0_367 ?_
              refine go_goto c0_368 ?_
              refine go_istore c0_372 rfl rfl ?_
              dsimp only [setl]
              refine go_iload c0_374 rfl ?_
              refine go_if_eq c0_376 (fun q => absurd q (by decide)) (fun _ => ?_)
              refine go_aload c0_379 rfl rfl ?_
              refine go_iload c0_381 rfl ?_
              refine go_callV1 (y := x) (W := 0) (argsL := [(.int t)]) (st := []) c0_383 (rm_get l Z a0 hw h68 n0 _ a58 t ht ka67 va67 b67 n68 ks68 vs68 (own_up (own_up (own_up (own_up (own_up (fun _ => -1) k0 v0) k1 v1) k2 v2) k3 v3) t (-1)) Rp68 P68) (P68.exa (i := 0) rfl) (t47 hw) (t48 hw) (fun _ q => notFace_of_selects (args := #[]) (mvT q (t50 hw))) (t50 hw) (t49 hw) (t5 hw) (t51 hw) (by decide) (lenOf pd0 rfl) rfl rfl (by decide) (by decide) (by decide) (by decide) rfl ?_
              rintro _ _ ⟨rfl, rfl⟩
              refine go_more (k' := 13) (n' := 92) (by decide) (by decide) ?_
              refine go_push c0_386 ?_
              refine go_icmp_ne c0_387 (fun b387 => ?_) (fun b387 => ?_)
              · exact absurd (by first | (unfold own_up own_exp own_e1 own_e0; simp; done) | (unfold own_up own_exp own_e1 own_e0; grind) | (unfold own_up; simp; done) | (unfold own_up; grind)) b387
              · refine go_push c0_390 ?_
                refine go_goto c0_391 ?_
                refine go_istore c0_395 rfl rfl ?_
                dsimp only [setl]
                refine go_iload c0_397 rfl ?_
                exact go_bret rfl c0_399 (by decide) (by decide) (by decide) ⟨_, rfl, rfl⟩
    refine go_istore c0_110 rfl rfl ?_
    dsimp only [setl]
    refine go_iload c0_112 rfl ?_
    refine go_push c0_114 ?_
    refine go_icmp_ge c0_115 (fun b115 => ?_) (fun b115 => ?_)
    · refine go_lload c0_126 rfl ?_
      refine go_push c0_128 ?_
      refine go_lushr c0_130 ?_
      refine go_l2i c0_131 ?_
      refine go_ldcI (y := x) c0_132 (t1 hw) ?_
      refine go_iand c0_134 ?_
      exact JT _ _ (own_nn _)
    · rcases own_n8 e b115 with hs | hs | hs | hs
      · refine go_aload c0_118 rfl rfl ?_
        refine go_iload c0_120 rfl ?_
        refine go_isI 0 hs ?_
        refine go_ialoadH P22 (1) c0_122 rfl (by decide) rfl ?_
        refine go_goto c0_123 ?_
        exact JT _ _ hk0
      · refine go_aload c0_118 rfl rfl ?_
        refine go_iload c0_120 rfl ?_
        refine go_isI 1 hs ?_
        refine go_ialoadH P22 (1) c0_122 rfl (by decide) rfl ?_
        refine go_goto c0_123 ?_
        exact JT _ _ hk1
      · refine go_aload c0_118 rfl rfl ?_
        refine go_iload c0_120 rfl ?_
        refine go_isI 2 hs ?_
        refine go_ialoadH P22 (1) c0_122 rfl (by decide) rfl ?_
        refine go_goto c0_123 ?_
        exact JT _ _ hk2
      · refine go_aload c0_118 rfl rfl ?_
        refine go_iload c0_120 rfl ?_
        refine go_isI 3 hs ?_
        refine go_ialoadH P22 (1) c0_122 rfl (by decide) rfl ?_
        refine go_goto c0_123 ?_
        exact JT _ _ hk3
set_option maxRecDepth 65536 in
set_option maxHeartbeats 4000000 in
theorem comes_1 {Post : Tables → Env → Array Value → State → Outcome → State → Prop} (hpost : ∀ tb e args s v u, (limb_1_1.after args s (.returned v) u = true ∧ limb_1_2.after args s (.returned v) u = true ∧ True) → FrameEnd s (.returned v) u (Jvm.fieldLocs frame_1_writes args s ++ Jvm.arrayLocs frame_1_arrays args s ++ Jvm.staticLocs frame_1_statics s) 32 192 → Post tb e args s (.returned v) u) :
    ArmFor flags0 classFile x code maxLocals ret World_1 tables_1 room_1 Calls_1 rest_1 Pre_1 Post := by
  intro l hfl _ _ p e ha hc hk s m args below hf hA hF happ hP
  obtain ⟨hcalls, hrest, hpre⟩ := hP
  obtain ⟨-, -, -, hnamed, -, -, -, hat⟩ := (Spec.applies_iff hf).mp happ
  obtain ⟨hg, hn⟩ := and_e (Cond.before_iff.mp (show (Jvm.Cond.and given_1 narrow_1).before args s = true from hpre))
  obtain ⟨hct, hg0⟩ := and_e hg
  obtain ⟨ga0, hg1⟩ := and_e hg0
  obtain ⟨ga1, hg2⟩ := and_e hg1
  obtain ⟨ga2, hg3⟩ := and_e hg2
  obtain ⟨ga3, hg4⟩ := and_e hg3
  obtain ⟨ga4, hg5⟩ := and_e hg4
  have ga5 := hg5
  obtain ⟨w0, w1, w2, w3, w4, w5, rfl⟩ : ∃ w0 w1 w2 w3 w4 w5 : Value, args = #[w0, w1, w2, w3, w4, w5] := by
    have hs : args.size = 6 := by simpa [Cond.value, given_1] using hct
    obtain ⟨L⟩ := args
    match L, hs with
    | [w0, w1, w2, w3, w4, w5], _ => exact ⟨w0, w1, w2, w3, w4, w5, rfl⟩
  have hw := fun d (hd : d ∈ tables_1) => atoms_spec (ws := Jvm.Cond.code x code maxLocals ret :: tables_1) hat d (List.mem_cons_of_mem _ hd)
  have hfit : Fit s := fun {y c} hc i hi => by
    obtain ⟨ha, rfl⟩ := Array.getElem?_eq_some_iff.mp hc
    have q := List.all_eq_true.mp ((Array.all_eq_true_iff_forall_mem.mp hF) _ (Array.getElem_mem ha)) i (List.mem_range.mpr hi)
    simpa [Array.getElem?_eq_getElem hi] using q
  obtain ⟨i0, ei0⟩ := is_v ga0
  obtain rfl : w0 = (.int i0) := Option.some.inj ei0
  obtain ⟨i1, ei1⟩ := is_v ga1
  obtain rfl : w1 = (.int i1) := Option.some.inj ei1
  obtain ⟨i2, ei2⟩ := is_v ga2
  obtain rfl : w2 = (.int i2) := Option.some.inj ei2
  obtain ⟨i3, ei3⟩ := is_v ga3
  obtain rfl : w3 = (.int i3) := Option.some.inj ei3
  obtain ⟨i4, ei4⟩ := is_v ga4
  obtain rfl : w4 = (.int i4) := Option.some.inj ei4
  obtain ⟨i5, ei5⟩ := isL_v ga5
  obtain rfl : w5 = (.long i5) := Option.some.inj ei5
  have K := rm0 l s _ hw s.heap s.heap.size (Hp.start s) i0 i1 i2 i3 i4 i5
  obtain ⟨n, o, h1, h2, h3, v, L, rfl, ⟨⟨⟨w, rfl, rfl⟩, -⟩, N⟩, hq⟩ := K tables_1 p e ha hc hk s m _ below hf ((Spec.applies_iff_loose hf).mp happ).1 ⟨rfl, State.Warmed39.refl s, rfl⟩ trivial
  refine ⟨n, _, h1, h2, h3, hpost _ _ _ _ _ _ ⟨Cond.after_iff.mpr rfl, Cond.after_iff.mpr (eq_i res_at (Term.int_eval (1)) rfl), trivial⟩ ⟨hq.1, hq.2.1, (hq.2.2.sift fun y hy => Or.inr (N y hy)).mono (by decide) (by decide)⟩⟩
theorem main_1_1 : Claimed_1_1 := comes_1 fun _ _ _ _ _ _ h hF => ⟨h.1, hF⟩
theorem main_1_2 : Claimed_1_2 := comes_1 fun _ _ _ _ _ _ h hF => ⟨h.2.1, hF⟩
end Jvm.Pilot.@@N@@
namespace Jvm.Pilot.@@N@@
open Jvm Jvm.ClassFile Sem Op Lib Jvm.Free Jvm.Stand Jvm.Pilot.@@N@@.Jvm.D
/-! MADE BY PROGRAM (witnessworld.py) out of the Statement's table words and the real class files: 10 classes; the members and pool entries that the words name. The judged class is class 1, her method 1. -/
namespace start1
open Jvm.ClassFile
def u (s : String) : CpInfo := .utf8 (stringToUtf16 s)
/-- a pool by its gaps: so many unusable entries, then the entry; so many at the end -/
def gap : Nat → List CpInfo → List CpInfo
  | 0, r => r
  | n + 1, r => .unusable :: gap n r
def poolList (es : List (Nat × CpInfo)) (last : Nat) : List CpInfo := es.foldr (fun e r => gap e.1 (e.2 :: r)) (gap last [])
def pool (es : List (Nat × CpInfo)) (last : Nat) : Array CpInfo := ⟨poolList es last⟩
def fileOf (pool : Array CpInfo) (this : Nat) (attrs : Array Attribute := #[]) (ms : Array MethodInfo := #[]) (fl : Nat := 33) (sup : Nat := 0) (ifs : Array Nat := #[]) (fds : Array FieldInfo := #[]) : ClassFile where
  minorVersion := 0
  majorVersion := 65
  constantPool := pool
  accessFlags := fl
  thisClass := this
  superClass := sup
  interfaces := ifs
  fields := fds
  methods := ms
  attributes := attrs
def plain (name : String) (sup : Option ClassId) : Class where
  name := name
  kind := .ordinary
  loader := none
  accessFlags := 33
  super := sup
  interfaces := #[]
  cf := none
  fields := #[]
  methods := #[]
  instanceTypes := #[]
  staticTypes := #[]
  resolved := #[]
  callSites := []
  init := .initialized
  statics := none
  mirror := none

def pool0 : Array CpInfo := pool [(5, u "<init>"), (0, u "()V"), (1, .class_ 10), (1, u "java/lang/Object")] 113

def k0c0 : Code := { maxStack := 0, maxLocals := 1, code := object_method_1_code, exceptionTable := #[], attributes := #[] }
def k0m0 : Method := { name := "<init>", desc := "()V", sig := { parameters := [], returnType := none }, accessFlags := 1, code := some k0c0 }
/-- java/lang/Object -/
def k0 : Class := { plain "java/lang/Object" none with
  accessFlags := 33
  interfaces := #[]
  cf := some (fileOf pool0 8 #[] #[{ accessFlags := 1, nameIndex := 5, descriptorIndex := 6, attributes := #[] }] 33 0 #[] #[])
  fields := #[]
  methods := #[k0m0]
  instanceTypes := #[]
  staticTypes := #[]
  resolved := Array.replicate 124 none
  statics := none }

def pool1 : Array CpInfo := pool [(2, .class_ 4), (0, .nameAndType 5 6), (0, u "java/lang/Object"), (0, u "<init>"), (0, u "()V"), (0, .integer 2147483647), (0, .long 255), (1, .class_ 11), (0, u "com/example/satisfy/satisfy/reasoner/IntMap"), (0, .methodref 10 3), (0, .methodref 10 14), (0, .nameAndType 15 16), (0, u "put"), (0, u "(II)V"), (0, .methodref 10 18), (0, .nameAndType 19 20), (0, u "remove"), (0, u "(I)V"), (0, .methodref 10 22), (0, .nameAndType 23 24), (0, u "get"), (0, u "(I)I"), (0, .methodref 26 27), (0, .class_ 28), (0, .nameAndType 29 30), (0, u "com/example/satisfy/satisfy/reasoner/IntMapRemovePinLaw"), (0, u "expect"), (0, u "(III[I[I)I"), (2, u "law"), (0, u "(IIIIIJ)Z")] 5

def k1m0 : Method := { name := "<init>", desc := "()V", sig := { parameters := [], returnType := none }, accessFlags := 1, code := none }
def k1c1 : Code := { maxStack := 6, maxLocals := 14, code := code, exceptionTable := #[], attributes := #[] }
def k1m1 : Method := { name := "law", desc := "(IIIIIJ)Z", sig := { parameters := [.int, .int, .int, .int, .int, .long], returnType := some .boolean }, accessFlags := 9, code := some k1c1 }
def k1c2 : Code := { maxStack := 2, maxLocals := 6, code := method_3_code, exceptionTable := #[], attributes := #[] }
def k1m2 : Method := { name := "expect", desc := "(III[I[I)I", sig := { parameters := [.int, .int, .int, (.array .int), (.array .int)], returnType := some .int }, accessFlags := 10, code := some k1c2 }
/-- com/example/satisfy/satisfy/reasoner/IntMapRemovePinLaw -/
def k1 : Class := { plain "com/example/satisfy/satisfy/reasoner/IntMapRemovePinLaw" (some 0) with
  accessFlags := 49
  interfaces := #[]
  cf := some (fileOf pool1 26 #[] #[{ accessFlags := 1, nameIndex := 5, descriptorIndex := 6, attributes := #[] }, { accessFlags := 9, nameIndex := 33, descriptorIndex := 34, attributes := #[] }, { accessFlags := 10, nameIndex := 29, descriptorIndex := 30, attributes := #[] }] 49 2 #[] #[])
  fields := #[]
  methods := #[k1m0, k1m1, k1m2]
  instanceTypes := #[]
  staticTypes := #[]
  resolved := Array.replicate 40 none
  statics := none }

def pool2 : Array CpInfo := pool [(1, .methodref 2 3), (0, .class_ 4), (0, .nameAndType 5 6), (0, u "java/lang/Object"), (0, u "<init>"), (0, u "()V"), (0, .methodref 8 9), (0, .class_ 10), (0, .nameAndType 11 12), (0, u "com/example/satisfy/satisfy/reasoner/IntMap"), (0, u "allocate"), (0, u "(I)V"), (0, .methodref 8 14), (0, .nameAndType 15 16), (0, u "slotOf"), (0, u "(I)I"), (0, .fieldref 8 18), (0, .nameAndType 19 20), (0, u "keys"), (0, u "[I"), (0, .fieldref 8 22), (0, .nameAndType 23 20), (0, u "values"), (0, .fieldref 8 25), (0, .nameAndType 26 27), (0, u "size"), (0, u "I"), (0, .methodref 8 29), (0, .nameAndType 30 6), (0, u "grow"), (0, .methodref 8 32), (0, .nameAndType 33 16), (0, u "hash"), (0, .integer 2654435769), (0, .fieldref 8 36), (0, .nameAndType 37 27), (0, u "bits"), (0, .methodref 39 40), (0, .class_ 41), (0, .nameAndType 42 43), (0, u "java/util/Arrays"), (0, u "fill"), (0, u "([II)V"), (0, u "FREE"), (4, u "get"), (1, u "put"), (0, u "(II)V"), (0, u "remove")] 3

def k2c0 : Code := { maxStack := 2, maxLocals := 1, code := prog_57_method_1_code, exceptionTable := #[], attributes := #[] }
def k2m0 : Method := { name := "<init>", desc := "()V", sig := { parameters := [], returnType := none }, accessFlags := 0, code := some k2c0 }
def k2c1 : Code := { maxStack := 2, maxLocals := 3, code := prog_57_method_2_code, exceptionTable := #[], attributes := #[] }
def k2m1 : Method := { name := "get", desc := "(I)I", sig := { parameters := [.int], returnType := some .int }, accessFlags := 0, code := some k2c1 }
def k2c2 : Code := { maxStack := 3, maxLocals := 4, code := prog_57_method_3_code, exceptionTable := #[], attributes := #[] }
def k2m2 : Method := { name := "put", desc := "(II)V", sig := { parameters := [.int, .int], returnType := none }, accessFlags := 0, code := some k2c2 }
def k2c3 : Code := { maxStack := 4, maxLocals := 6, code := prog_57_method_4_code, exceptionTable := #[], attributes := #[] }
def k2m3 : Method := { name := "remove", desc := "(I)V", sig := { parameters := [.int], returnType := none }, accessFlags := 0, code := some k2c3 }
def k2c4 : Code := { maxStack := 2, maxLocals := 4, code := prog_57_method_5_code, exceptionTable := #[], attributes := #[] }
def k2m4 : Method := { name := "slotOf", desc := "(I)I", sig := { parameters := [.int], returnType := some .int }, accessFlags := 2, code := some k2c4 }
def k2c5 : Code := { maxStack := 3, maxLocals := 2, code := prog_57_method_6_code, exceptionTable := #[], attributes := #[] }
def k2m5 : Method := { name := "hash", desc := "(I)I", sig := { parameters := [.int], returnType := some .int }, accessFlags := 2, code := some k2c5 }
def k2c6 : Code := { maxStack := 4, maxLocals := 5, code := prog_57_method_7_code, exceptionTable := #[], attributes := #[] }
def k2m6 : Method := { name := "grow", desc := "()V", sig := { parameters := [], returnType := none }, accessFlags := 2, code := some k2c6 }
def k2c7 : Code := { maxStack := 3, maxLocals := 2, code := prog_57_method_8_code, exceptionTable := #[], attributes := #[] }
def k2m7 : Method := { name := "allocate", desc := "(I)V", sig := { parameters := [.int], returnType := none }, accessFlags := 2, code := some k2c7 }
/-- com/example/satisfy/satisfy/reasoner/IntMap -/
def k2 : Class := { plain "com/example/satisfy/satisfy/reasoner/IntMap" (some 0) with
  accessFlags := 32
  interfaces := #[]
  cf := some (fileOf pool2 8 #[] #[{ accessFlags := 0, nameIndex := 5, descriptorIndex := 6, attributes := #[] }, { accessFlags := 0, nameIndex := 49, descriptorIndex := 16, attributes := #[] }, { accessFlags := 0, nameIndex := 51, descriptorIndex := 52, attributes := #[] }, { accessFlags := 0, nameIndex := 53, descriptorIndex := 12, attributes := #[] }, { accessFlags := 2, nameIndex := 15, descriptorIndex := 16, attributes := #[] }, { accessFlags := 2, nameIndex := 33, descriptorIndex := 16, attributes := #[] }, { accessFlags := 2, nameIndex := 30, descriptorIndex := 6, attributes := #[] }, { accessFlags := 2, nameIndex := 11, descriptorIndex := 12, attributes := #[] }] 32 2 #[] #[{ accessFlags := 26, nameIndex := 44, descriptorIndex := 27, attributes := #[] }, { accessFlags := 2, nameIndex := 19, descriptorIndex := 20, attributes := #[] }, { accessFlags := 2, nameIndex := 23, descriptorIndex := 20, attributes := #[] }, { accessFlags := 2, nameIndex := 26, descriptorIndex := 27, attributes := #[] }, { accessFlags := 2, nameIndex := 37, descriptorIndex := 27, attributes := #[] }])
  fields := #[{ name := "FREE", type := .int, accessFlags := 26, slot := 0, constantValue := 0 }, { name := "keys", type := (.array .int), accessFlags := 2, slot := 0, constantValue := 0 }, { name := "values", type := (.array .int), accessFlags := 2, slot := 1, constantValue := 0 }, { name := "size", type := .int, accessFlags := 2, slot := 2, constantValue := 0 }, { name := "bits", type := .int, accessFlags := 2, slot := 3, constantValue := 0 }]
  methods := #[k2m0, k2m1, k2m2, k2m3, k2m4, k2m5, k2m6, k2m7]
  instanceTypes := #[(.array .int), (.array .int), .int, .int]
  staticTypes := #[.int]
  resolved := Array.replicate 57 none
  statics := none }

def pool3 : Array CpInfo := pool [(2, .class_ 4), (1, u "java/lang/Object"), (0, u "<init>"), (0, u "()V"), (7, .class_ 16), (1, u "java/util/Arrays"), (57, .class_ 76), (1, u "java/util/Arrays$NaturalOrder"), (36, .class_ 115), (1, u "java/util/Arrays$LegacyMergeSort"), (1, u "Z"), (257, .class_ 376), (0, u "java/util/Arrays$ArrayList"), (68, u "$assertionsDisabled"), (269, u "MIN_ARRAY_SORT_GRAN"), (0, u "I"), (2, u "INSERTIONSORT_THRESHOLD"), (120, u "fill"), (4, u "([II)V"), (129, .class_ 976), (0, u "java/util/Arrays$ArrayItr")] 52

def k3m0 : Method := { name := "<init>", desc := "()V", sig := { parameters := [], returnType := none }, accessFlags := 2, code := none }
def k3c1 : Code := { maxStack := 3, maxLocals := 4, code := jdk_65_method_103_code, exceptionTable := #[], attributes := #[] }
def k3m1 : Method := { name := "fill", desc := "([II)V", sig := { parameters := [(.array .int), .int], returnType := none }, accessFlags := 9, code := some k3c1 }
/-- java/util/Arrays -/
def k3 : Class := { plain "java/util/Arrays" (some 0) with
  accessFlags := 49
  interfaces := #[]
  cf := some (fileOf pool3 14 #[.nestMembers #[975, 375, 113, 74]] #[{ accessFlags := 2, nameIndex := 5, descriptorIndex := 6, attributes := #[] }, { accessFlags := 9, nameIndex := 840, descriptorIndex := 845, attributes := #[] }] 49 2 #[] #[{ accessFlags := 26, nameIndex := 715, descriptorIndex := 716, attributes := #[] }, { accessFlags := 26, nameIndex := 719, descriptorIndex := 716, attributes := #[] }, { accessFlags := 4120, nameIndex := 445, descriptorIndex := 117, attributes := #[] }])
  fields := #[{ name := "MIN_ARRAY_SORT_GRAN", type := .int, accessFlags := 26, slot := 0, constantValue := 0 }, { name := "INSERTIONSORT_THRESHOLD", type := .int, accessFlags := 26, slot := 1, constantValue := 0 }, { name := "$assertionsDisabled", type := .boolean, accessFlags := 4120, slot := 2, constantValue := 0 }]
  methods := #[k3m0, k3m1]
  instanceTypes := #[]
  staticTypes := #[.int, .int, .boolean]
  resolved := Array.replicate 1029 none
  statics := none }

def pool4 : Array CpInfo := pool [(1, u "java/lang/Cloneable"), (0, .class_ 1), (0, u "java/lang/Object"), (0, .class_ 3)] 3

/-- java/lang/Cloneable -/
def k4 : Class := { plain "java/lang/Cloneable" (some 0) with
  accessFlags := 1537
  interfaces := #[]
  cf := some (fileOf pool4 2 #[] #[] 1537 4 #[] #[])
  fields := #[]
  methods := #[]
  instanceTypes := #[]
  staticTypes := #[]
  resolved := Array.replicate 8 none
  statics := none }

def pool5 : Array CpInfo := pool [(1, u "java/io/Serializable"), (0, .class_ 1), (0, u "java/lang/Object"), (0, .class_ 3)] 3

/-- java/io/Serializable -/
def k5 : Class := { plain "java/io/Serializable" (some 0) with
  accessFlags := 1537
  interfaces := #[]
  cf := some (fileOf pool5 2 #[] #[] 1537 4 #[] #[])
  fields := #[]
  methods := #[]
  instanceTypes := #[]
  staticTypes := #[]
  resolved := Array.replicate 8 none
  statics := none }

/-- the primitive byte -/
def k6 : Class := { plain "byte" none with kind := .primitive 'B', accessFlags := 0x411 }
/-- [B -/
def k7 : Class := { plain "[B" (some 0) with kind := .array 6 .byte, interfaces := #[4, 5], accessFlags := 1041 }

/-- the primitive int -/
def k8 : Class := { plain "int" none with kind := .primitive 'I', accessFlags := 0x411 }
/-- [I -/
def k9 : Class := { plain "[I" (some 0) with kind := .array 8 .int, interfaces := #[4, 5], accessFlags := 1041 }

def heap : Heap := #[]
def classes : Array Class := #[k0, k1, k2, k3, k4, k5, k6, k7, k8, k9]
def interned : List (Array UInt16 × Addr) := []
def slotsUsed : Nat := 0
def theMethod : MethodId := ⟨1, 1⟩
def args0 : Array Value := #[.int 5, .int 5, .int 5, .int 5, .int 5, .long 5]
def aboutOver (below : List Frame) : State where
  vm := { classes := classes, interned := interned.toArray }
  heap := heap
  slotsUsed := slotsUsed
  threads := #[{ frames := .invoking theMethod args0 :: below }]
def below0 : List Frame := [.native { method := ⟨0, 0⟩, args := #[] }]
def about1 : State := aboutOver below0
def p0 : Program := .bare "" "" ""
def e0 : Env := launch0.env 0 0 0
theorem w_frames : about1.frames = Frame.invoking theMethod args0 :: below0 := rfl
set_option maxRecDepth 65536 in
theorem w_args : argsFit about1.vm theMethod args0 = true := by decide +kernel
set_option maxRecDepth 65536 in
theorem w_heap : heapFits about1 = true := by decide +kernel
set_option maxRecDepth 65536 in
theorem w_runnable : about1.curStatus? = some .runnable := by decide +kernel
set_option maxRecDepth 65536 in
theorem w_alone : about1.alone = true := by decide +kernel
set_option maxRecDepth 65536 in
theorem w_named : about1.methodNamed? x = some theMethod := by decide +kernel
set_option maxRecDepth 65536 in
theorem w_hears : about1.hears theMethod below0 = true := by decide +kernel
set_option maxRecDepth 65536 in
theorem w_ripe : about1.ripe theMethod args0 below0 = true := by decide +kernel
theorem w_running : about1.status = .running := rfl
set_option maxRecDepth 65536 in
theorem w_room : about1.hasRoom e0.platform room_1 = true :=
  launch0.hasRoom_least _ room_1 (by decide +kernel) (by decide +kernel) (by decide +kernel) (by decide +kernel) (by decide +kernel) (by decide +kernel)
theorem allAtoms_all (ts : List Jvm.Cond) (a : Array Jvm.Value) (st : Jvm.State) : (allAtoms ts).before a st = ts.all (fun c => c.before a st) := by
  induction ts with
  | nil => rfl
  | cons c t ih =>
    show (Jvm.Cond.and c (allAtoms t)).before a st = _
    rw [Jvm.Cond.before_and, ih, List.all_cons]
def words1 : List Jvm.Cond := Jvm.Cond.code x code maxLocals ret :: tables_1
/-- a 'code' word, met by the world's own term for the bytes: nothing is compared byte by byte -/
theorem code_word {y : MethodName} {bytes : ByteArray} {mx : Nat} {rt : Option FieldType} {a : Array Value} {s : State} {m : MethodId} {meth : Method} {c : Code} (h1 : s.methodNamed? y = some m) (h2 : s.vm.method? m = some meth) (h3 : meth.code = some c) (h4 : c.code = bytes)
    (h5 : (c.maxLocals == mx && c.exceptionTable.isEmpty && decide (c.maxStack ≤ mostOperands) && decide (meth.sig.returnType = rt) && !meth.locks && decide (parseMethodDescriptor y.desc = some meth.sig)) = true) : (Jvm.Cond.code y bytes mx rt).before a s = true := by
  simp only [Bool.and_eq_true, beq_iff_eq, Bool.not_eq_true', decide_eq_true_eq] at h5
  obtain ⟨⟨⟨⟨⟨g1, g2⟩, g3⟩, g4⟩, g5⟩, g6⟩ := h5
  simp [Cond.before, Cond.holds, Cond.value, h1, h2, h3, h4, g1, g2, g3, g4, g5, g6]
def isCode : Jvm.Cond → Bool
  | .code _ _ _ _ => true
  | _ => false
theorem all_split {L : List Jvm.Cond} {P : Jvm.Cond → Bool} (h1 : L.all (fun c => isCode c || P c) = true) (h2 : ∀ c ∈ L.filter isCode, P c = true) : L.all P = true := by
  refine List.all_eq_true.mpr fun c hc => ?_
  have h := List.all_eq_true.mp h1 c hc
  rcases Bool.eq_false_or_eq_true (isCode c) with hi | hi
  · exact h2 c (List.mem_filter.mpr ⟨hc, hi⟩)
  · simpa [hi] using h
set_option maxRecDepth 65536 in
theorem w_c0 : (Jvm.Cond.code x code maxLocals ret).before args0 about1 = true := code_word (m := ⟨1, 1⟩) (meth := k1m1) (c := k1c1) (by decide +kernel) rfl rfl rfl (by decide +kernel)
set_option maxRecDepth 65536 in
theorem w_c1 : (Jvm.Cond.code ({ cls := "com/example/satisfy/satisfy/reasoner/IntMap", name := "<init>", desc := "()V" } : Jvm.MethodName) prog_57_method_1_code (1 : Nat) (Option.none : Option Jvm.ClassFile.FieldType)).before args0 about1 = true := code_word (m := ⟨2, 0⟩) (meth := k2m0) (c := k2c0) (by decide +kernel) rfl rfl rfl (by decide +kernel)
set_option maxRecDepth 65536 in
theorem w_c2 : (Jvm.Cond.code ({ cls := "java/lang/Object", name := "<init>", desc := "()V" } : Jvm.MethodName) object_method_1_code (1 : Nat) (Option.none : Option Jvm.ClassFile.FieldType)).before args0 about1 = true := code_word (m := ⟨0, 0⟩) (meth := k0m0) (c := k0c0) (by decide +kernel) rfl rfl rfl (by decide +kernel)
set_option maxRecDepth 65536 in
theorem w_c3 : (Jvm.Cond.code ({ cls := "com/example/satisfy/satisfy/reasoner/IntMap", name := "allocate", desc := "(I)V" } : Jvm.MethodName) prog_57_method_8_code (2 : Nat) (Option.none : Option Jvm.ClassFile.FieldType)).before args0 about1 = true := code_word (m := ⟨2, 7⟩) (meth := k2m7) (c := k2c7) (by decide +kernel) rfl rfl rfl (by decide +kernel)
set_option maxRecDepth 65536 in
theorem w_c4 : (Jvm.Cond.code ({ cls := "java/util/Arrays", name := "fill", desc := "([II)V" } : Jvm.MethodName) jdk_65_method_103_code (4 : Nat) (Option.none : Option Jvm.ClassFile.FieldType)).before args0 about1 = true := code_word (m := ⟨3, 1⟩) (meth := k3m1) (c := k3c1) (by decide +kernel) rfl rfl rfl (by decide +kernel)
set_option maxRecDepth 65536 in
theorem w_c5 : (Jvm.Cond.code ({ cls := "com/example/satisfy/satisfy/reasoner/IntMap", name := "put", desc := "(II)V" } : Jvm.MethodName) prog_57_method_3_code (4 : Nat) (Option.none : Option Jvm.ClassFile.FieldType)).before args0 about1 = true := code_word (m := ⟨2, 2⟩) (meth := k2m2) (c := k2c2) (by decide +kernel) rfl rfl rfl (by decide +kernel)
set_option maxRecDepth 65536 in
theorem w_c6 : (Jvm.Cond.code ({ cls := "com/example/satisfy/satisfy/reasoner/IntMap", name := "slotOf", desc := "(I)I" } : Jvm.MethodName) prog_57_method_5_code (4 : Nat) (Option.some Jvm.ClassFile.FieldType.int)).before args0 about1 = true := code_word (m := ⟨2, 4⟩) (meth := k2m4) (c := k2c4) (by decide +kernel) rfl rfl rfl (by decide +kernel)
set_option maxRecDepth 65536 in
theorem w_c7 : (Jvm.Cond.code ({ cls := "com/example/satisfy/satisfy/reasoner/IntMap", name := "hash", desc := "(I)I" } : Jvm.MethodName) prog_57_method_6_code (2 : Nat) (Option.some Jvm.ClassFile.FieldType.int)).before args0 about1 = true := code_word (m := ⟨2, 5⟩) (meth := k2m5) (c := k2c5) (by decide +kernel) rfl rfl rfl (by decide +kernel)
set_option maxRecDepth 65536 in
theorem w_c8 : (Jvm.Cond.code ({ cls := "com/example/satisfy/satisfy/reasoner/IntMap", name := "remove", desc := "(I)V" } : Jvm.MethodName) prog_57_method_4_code (6 : Nat) (Option.none : Option Jvm.ClassFile.FieldType)).before args0 about1 = true := code_word (m := ⟨2, 3⟩) (meth := k2m3) (c := k2c3) (by decide +kernel) rfl rfl rfl (by decide +kernel)
set_option maxRecDepth 65536 in
theorem w_c9 : (Jvm.Cond.code ({ cls := "com/example/satisfy/satisfy/reasoner/IntMap", name := "get", desc := "(I)I" } : Jvm.MethodName) prog_57_method_2_code (3 : Nat) (Option.some Jvm.ClassFile.FieldType.int)).before args0 about1 = true := code_word (m := ⟨2, 1⟩) (meth := k2m1) (c := k2c1) (by decide +kernel) rfl rfl rfl (by decide +kernel)
set_option maxRecDepth 65536 in
theorem w_c10 : (Jvm.Cond.code ({ cls := "com/example/satisfy/satisfy/reasoner/IntMapRemovePinLaw", name := "expect", desc := "(III[I[I)I" } : Jvm.MethodName) method_3_code (6 : Nat) (Option.some Jvm.ClassFile.FieldType.int)).before args0 about1 = true := code_word (m := ⟨1, 2⟩) (meth := k1m2) (c := k1c2) (by decide +kernel) rfl rfl rfl (by decide +kernel)
set_option maxRecDepth 65536 in
theorem w_c11 : (Jvm.Cond.code ({ cls := "com/example/satisfy/satisfy/reasoner/IntMap", name := "grow", desc := "()V" } : Jvm.MethodName) prog_57_method_7_code (5 : Nat) (Option.none : Option Jvm.ClassFile.FieldType)).before args0 about1 = true := code_word (m := ⟨2, 6⟩) (meth := k2m6) (c := k2c6) (by decide +kernel) rfl rfl rfl (by decide +kernel)
def codes1 : List Jvm.Cond := [Jvm.Cond.code x code maxLocals ret, Jvm.Cond.code ({ cls := "com/example/satisfy/satisfy/reasoner/IntMap", name := "<init>", desc := "()V" } : Jvm.MethodName) prog_57_method_1_code (1 : Nat) (Option.none : Option Jvm.ClassFile.FieldType), Jvm.Cond.code ({ cls := "java/lang/Object", name := "<init>", desc := "()V" } : Jvm.MethodName) object_method_1_code (1 : Nat) (Option.none : Option Jvm.ClassFile.FieldType), Jvm.Cond.code ({ cls := "com/example/satisfy/satisfy/reasoner/IntMap", name := "allocate", desc := "(I)V" } : Jvm.MethodName) prog_57_method_8_code (2 : Nat) (Option.none : Option Jvm.ClassFile.FieldType), Jvm.Cond.code ({ cls := "java/util/Arrays", name := "fill", desc := "([II)V" } : Jvm.MethodName) jdk_65_method_103_code (4 : Nat) (Option.none : Option Jvm.ClassFile.FieldType), Jvm.Cond.code ({ cls := "com/example/satisfy/satisfy/reasoner/IntMap", name := "put", desc := "(II)V" } : Jvm.MethodName) prog_57_method_3_code (4 : Nat) (Option.none : Option Jvm.ClassFile.FieldType), Jvm.Cond.code ({ cls := "com/example/satisfy/satisfy/reasoner/IntMap", name := "slotOf", desc := "(I)I" } : Jvm.MethodName) prog_57_method_5_code (4 : Nat) (Option.some Jvm.ClassFile.FieldType.int), Jvm.Cond.code ({ cls := "com/example/satisfy/satisfy/reasoner/IntMap", name := "hash", desc := "(I)I" } : Jvm.MethodName) prog_57_method_6_code (2 : Nat) (Option.some Jvm.ClassFile.FieldType.int), Jvm.Cond.code ({ cls := "com/example/satisfy/satisfy/reasoner/IntMap", name := "remove", desc := "(I)V" } : Jvm.MethodName) prog_57_method_4_code (6 : Nat) (Option.none : Option Jvm.ClassFile.FieldType), Jvm.Cond.code ({ cls := "com/example/satisfy/satisfy/reasoner/IntMap", name := "get", desc := "(I)I" } : Jvm.MethodName) prog_57_method_2_code (3 : Nat) (Option.some Jvm.ClassFile.FieldType.int), Jvm.Cond.code ({ cls := "com/example/satisfy/satisfy/reasoner/IntMapRemovePinLaw", name := "expect", desc := "(III[I[I)I" } : Jvm.MethodName) method_3_code (6 : Nat) (Option.some Jvm.ClassFile.FieldType.int), Jvm.Cond.code ({ cls := "com/example/satisfy/satisfy/reasoner/IntMap", name := "grow", desc := "()V" } : Jvm.MethodName) prog_57_method_7_code (5 : Nat) (Option.none : Option Jvm.ClassFile.FieldType)]
set_option maxRecDepth 65536 in
theorem codes_eq : words1.filter isCode = codes1 := rfl
theorem w_codes : ∀ c ∈ words1.filter isCode, c.before args0 about1 = true := by
  rw [codes_eq]
  intro c hc
  simp only [codes1, List.mem_cons, List.not_mem_nil, or_false] at hc
  rcases hc with rfl | rfl | rfl | rfl | rfl | rfl | rfl | rfl | rfl | rfl | rfl | rfl
  · exact w_c0
  · exact w_c1
  · exact w_c2
  · exact w_c3
  · exact w_c4
  · exact w_c5
  · exact w_c6
  · exact w_c7
  · exact w_c8
  · exact w_c9
  · exact w_c10
  · exact w_c11
set_option maxRecDepth 65536 in
theorem w_t1 : (words1.take 24).all (fun c => isCode c || c.before args0 about1) = true := by decide +kernel
set_option maxRecDepth 65536 in
theorem w_t2 : ((words1.drop 24).take 24).all (fun c => isCode c || c.before args0 about1) = true := by decide +kernel
set_option maxRecDepth 65536 in
theorem w_t3 : ((words1.drop 24).drop 24).all (fun c => isCode c || c.before args0 about1) = true := by decide +kernel
theorem w_tables : (allAtoms (Jvm.Cond.code x code maxLocals ret :: tables_1)).before args0 about1 = true := by
  rw [allAtoms_all]
  show words1.all (fun c => c.before args0 about1) = true
  refine all_split ?_ w_codes
  rw [← List.take_append_drop 24 words1, List.all_append, w_t1, ← List.take_append_drop 24 (words1.drop 24), List.all_append, w_t2, w_t3]
  rfl
set_option maxRecDepth 65536 in
theorem w_case : (Jvm.Cond.and given_1 narrow_1).before args0 about1 = true := by decide +kernel
theorem w_applies : (headSpec (Jvm.Cond.code x code maxLocals ret :: tables_1) room_1).applies x e0.platform about1 = true :=
  (Spec.applies_iff w_frames).mpr ⟨w_running, w_runnable, w_alone, w_named, w_hears, w_ripe, w_room, w_tables⟩
theorem atStart : AtStart classFile x code maxLocals ret World_1 tables_1 room_1 Calls_1 rest_1 Pre_1 launch0 p0 e0 about1 theMethod args0 below0 :=
  ⟨lists_1, trivial, launch0.admits_env _ _ _, launch0.least_env, fairChoices_fair.cas, fairChoices_fair.clock, w_frames, w_args, w_heap, w_applies, trivial, trivial, w_case⟩
end start1
theorem witness_1 : WitnessClaimed_1 := ⟨start1.p0, start1.e0, start1.about1, start1.theMethod, start1.args0, start1.below0, start1.atStart⟩
end Jvm.Pilot.@@N@@
